import JvmDerived
import JvmDerived.Pilot.@@N@@Statement
import JvmDerived.Pilot.@@N@@Code
set_option linter.unusedVariables false
set_option linter.unusedSimpArgs false
namespace Jvm.Pilot.@@N@@
open Jvm Jvm.ClassFile Sem Op Lib Jvm.Free Jvm.Stand Jvm.LawKit Jvm.RoadKit Bundle Jvm.Pilot.@@N@@.Jvm.D
/-- the run stands at T' as it stood at T: the heap is the same -/
def Nx {p : Program} {l : Launch} {e : Env} {R : Room} {s : State} {m : MethodId} {args : Array Value} {below : List Frame} {meth : Method} {c : Code} {T : State} {locs : List Loc} {cells slots : Nat} (X : Stand p l e R s m args below meth c T locs cells slots) (T' : State) : Prop := Stand p l e R s m args below meth c T' locs cells slots ∧ T'.heap = T.heap
theorem lq_eq {x y : Int64} (h : x = y) : lcmpW x y = 0 := (lcW x y).trans ((lc_eq x y).mpr h)
theorem lq_ne {x y : Int64} (h : ¬ x = y) : ¬ lcmpW x y = 0 := fun q => h ((lc_eq x y).mp ((lcW x y).symm.trans q))
theorem lq_lt {x y : Int64} (h : x < y) : lcmpW x y < 0 := by rw [lcW]; exact (lc_lt x y).mpr h
theorem lq_nlt {x y : Int64} (h : ¬ x < y) : ¬ lcmpW x y < 0 := by rw [lcW]; exact fun q => h ((lc_lt x y).mp q)
theorem lq_gt {x y : Int64} (h : y < x) : 0 < lcmpW x y := by rw [lcW]; exact (lc_gt x y).mpr h
theorem lq_ngt {x y : Int64} (h : ¬ y < x) : ¬ 0 < lcmpW x y := by rw [lcW]; exact fun q => h ((lc_gt x y).mp q)
theorem own_eqI {args : Array Value} {first s : State} {o : Option Outcome} {idx : List Nat} {t : Term} {k : Int32} (h : (Jvm.Cond.eq t (.int k)).value args first o s idx = some true) : t.eval args first o idx s = some (.int k) := by
  simp only [Cond.value, Term.eval] at h
  cases ht : t.eval args first o idx s with
  | none => simp [ht] at h
  | some x => cases x <;> simp [ht] at h ⊢; exact h
theorem own_eqL {args : Array Value} {first s : State} {o : Option Outcome} {idx : List Nat} {t : Term} {k : Int64} (h : (Jvm.Cond.eq t (.long k)).value args first o s idx = some true) : t.eval args first o idx s = some (.long k) := by
  simp only [Cond.value, Term.eval] at h
  cases ht : t.eval args first o idx s with
  | none => simp [ht] at h
  | some x => cases x <;> simp [ht] at h ⊢; exact h
abbrev jv (x : Int64) : Slot := .val (.long x)
theorem y_iloadN {tb : Tables} [Ours tb] {e : Env} {below : List Frame} {T target : State} {m : MethodId} {c : Code} (h : At T m c below) (hx : tb.exec = Jvm.exec) {pc pc' : Nat} {L : Array Slot} {S : List Value} {k : Fin 4} {v : Int32} (hd : decode c.code pc = .ok (.iload_n k, 1)) (hl : L[k.val]? = some (.val (.int v))) (hp : pc + 1 = pc') (hr : Steps tb e below (T.setTop (mkF m pc' L (.int v :: S))) target) : Steps tb e below (T.setTop (mkF m pc L S)) target := by subst hp; exact XS.iloadN h hx rfl hd hl hr
theorem y_lloadN {tb : Tables} [Ours tb] {e : Env} {below : List Frame} {T target : State} {m : MethodId} {c : Code} (h : At T m c below) (hx : tb.exec = Jvm.exec) {pc pc' : Nat} {L : Array Slot} {S : List Value} {k : Fin 4} {v : Int64} (hd : decode c.code pc = .ok (.lload_n k, 1)) (hl : L[k.val]? = some (.val (.long v))) (hp : pc + 1 = pc') (hr : Steps tb e below (T.setTop (mkF m pc' L (.long v :: S))) target) : Steps tb e below (T.setTop (mkF m pc L S)) target := by subst hp; exact XS.lloadN h hx rfl hd hl hr
theorem y_aloadN {tb : Tables} [Ours tb] {e : Env} {below : List Frame} {T target : State} {m : MethodId} {c : Code} (h : At T m c below) (hx : tb.exec = Jvm.exec) {pc pc' : Nat} {L : Array Slot} {S : List Value} {k : Fin 4} {v : Value} (hd : decode c.code pc = .ok (.aload_n k, 1)) (hl : L[k.val]? = some (.val v)) (hv : v.isRef = true) (hp : pc + 1 = pc') (hr : Steps tb e below (T.setTop (mkF m pc' L (v :: S))) target) : Steps tb e below (T.setTop (mkF m pc L S)) target := by subst hp; exact XS.aloadN h hx rfl hd hl hv hr
theorem y_istoreN {tb : Tables} [Ours tb] {e : Env} {below : List Frame} {T target : State} {m : MethodId} {c : Code} (h : At T m c below) (hx : tb.exec = Jvm.exec) {pc pc' : Nat} {L : Array Slot} {S : List Value} {k : Fin 4} {v : Int32} {l' : Array Slot} (hd : decode c.code pc = .ok (.istore_n k, 1)) (hl : storeLocals L k.val (.int v) = some l') (hp : pc + 1 = pc') (hr : Steps tb e below (T.setTop (mkF m pc' l' S)) target) : Steps tb e below (T.setTop (mkF m pc L (.int v :: S))) target := by subst hp; exact XS.istoreN h hx rfl hd rfl hl hr
theorem y_lstoreN {tb : Tables} [Ours tb] {e : Env} {below : List Frame} {T target : State} {m : MethodId} {c : Code} (h : At T m c below) (hx : tb.exec = Jvm.exec) {pc pc' : Nat} {L : Array Slot} {S : List Value} {k : Fin 4} {v : Int64} {l' : Array Slot} (hd : decode c.code pc = .ok (.lstore_n k, 1)) (hl : storeLocals L k.val (.long v) = some l') (hp : pc + 1 = pc') (hr : Steps tb e below (T.setTop (mkF m pc' l' S)) target) : Steps tb e below (T.setTop (mkF m pc L (.long v :: S))) target := by subst hp; exact XS.lstoreN h hx rfl hd rfl hl hr
theorem y_astoreN {tb : Tables} [Ours tb] {e : Env} {below : List Frame} {T target : State} {m : MethodId} {c : Code} (h : At T m c below) (hx : tb.exec = Jvm.exec) {pc pc' : Nat} {L : Array Slot} {S : List Value} {k : Fin 4} {v : Value} {l' : Array Slot} (hd : decode c.code pc = .ok (.astore_n k, 1)) (hv : v.isRef = true) (hl : storeLocals L k.val v = some l') (hp : pc + 1 = pc') (hr : Steps tb e below (T.setTop (mkF m pc' l' S)) target) : Steps tb e below (T.setTop (mkF m pc L (v :: S))) target := by subst hp; exact XS.astoreN h hx rfl hd rfl hv hl hr
theorem y_iload {tb : Tables} [Ours tb] {e : Env} {below : List Frame} {T target : State} {m : MethodId} {c : Code} (h : At T m c below) (hx : tb.exec = Jvm.exec) {pc pc' : Nat} {L : Array Slot} {S : List Value} {k : Nat} {v : Int32} (hd : decode c.code pc = .ok (.iload k, 2)) (hl : L[k]? = some (.val (.int v))) (hp : pc + 2 = pc') (hr : Steps tb e below (T.setTop (mkF m pc' L (.int v :: S))) target) : Steps tb e below (T.setTop (mkF m pc L S)) target := by subst hp; exact XS.iload h hx rfl hd hl hr
theorem y_lload {tb : Tables} [Ours tb] {e : Env} {below : List Frame} {T target : State} {m : MethodId} {c : Code} (h : At T m c below) (hx : tb.exec = Jvm.exec) {pc pc' : Nat} {L : Array Slot} {S : List Value} {k : Nat} {v : Int64} (hd : decode c.code pc = .ok (.lload k, 2)) (hl : L[k]? = some (.val (.long v))) (hp : pc + 2 = pc') (hr : Steps tb e below (T.setTop (mkF m pc' L (.long v :: S))) target) : Steps tb e below (T.setTop (mkF m pc L S)) target := by subst hp; exact XS.lload h hx rfl hd hl hr
theorem y_aload {tb : Tables} [Ours tb] {e : Env} {below : List Frame} {T target : State} {m : MethodId} {c : Code} (h : At T m c below) (hx : tb.exec = Jvm.exec) {pc pc' : Nat} {L : Array Slot} {S : List Value} {k : Nat} {v : Value} (hd : decode c.code pc = .ok (.aload k, 2)) (hl : L[k]? = some (.val v)) (hv : v.isRef = true) (hp : pc + 2 = pc') (hr : Steps tb e below (T.setTop (mkF m pc' L (v :: S))) target) : Steps tb e below (T.setTop (mkF m pc L S)) target := by subst hp; exact XS.aload h hx rfl hd hl hv hr
theorem y_istore {tb : Tables} [Ours tb] {e : Env} {below : List Frame} {T target : State} {m : MethodId} {c : Code} (h : At T m c below) (hx : tb.exec = Jvm.exec) {pc pc' : Nat} {L : Array Slot} {S : List Value} {k : Nat} {v : Int32} {l' : Array Slot} (hd : decode c.code pc = .ok (.istore k, 2)) (hl : storeLocals L k (.int v) = some l') (hp : pc + 2 = pc') (hr : Steps tb e below (T.setTop (mkF m pc' l' S)) target) : Steps tb e below (T.setTop (mkF m pc L (.int v :: S))) target := by subst hp; exact XS.istore h hx rfl hd rfl hl hr
theorem y_lstore {tb : Tables} [Ours tb] {e : Env} {below : List Frame} {T target : State} {m : MethodId} {c : Code} (h : At T m c below) (hx : tb.exec = Jvm.exec) {pc pc' : Nat} {L : Array Slot} {S : List Value} {k : Nat} {v : Int64} {l' : Array Slot} (hd : decode c.code pc = .ok (.lstore k, 2)) (hl : storeLocals L k (.long v) = some l') (hp : pc + 2 = pc') (hr : Steps tb e below (T.setTop (mkF m pc' l' S)) target) : Steps tb e below (T.setTop (mkF m pc L (.long v :: S))) target := by subst hp; exact XS.lstore h hx rfl hd rfl hl hr
theorem y_astore {tb : Tables} [Ours tb] {e : Env} {below : List Frame} {T target : State} {m : MethodId} {c : Code} (h : At T m c below) (hx : tb.exec = Jvm.exec) {pc pc' : Nat} {L : Array Slot} {S : List Value} {k : Nat} {v : Value} {l' : Array Slot} (hd : decode c.code pc = .ok (.astore k, 2)) (hv : v.isRef = true) (hl : storeLocals L k v = some l') (hp : pc + 2 = pc') (hr : Steps tb e below (T.setTop (mkF m pc' l' S)) target) : Steps tb e below (T.setTop (mkF m pc L (v :: S))) target := by subst hp; exact XS.astore h hx rfl hd rfl hv hl hr
theorem y_iconst {tb : Tables} [Ours tb] {e : Env} {below : List Frame} {T target : State} {m : MethodId} {c : Code} (h : At T m c below) (hx : tb.exec = Jvm.exec) {pc pc' : Nat} {L : Array Slot} {S : List Value} {i : Int} {v : Int32} (hd : decode c.code pc = .ok (.iconst i, 1)) (hv : Int32.ofInt i = v) (hp : pc + 1 = pc') (hr : Steps tb e below (T.setTop (mkF m pc' L (.int v :: S))) target) : Steps tb e below (T.setTop (mkF m pc L S)) target := by subst hp; exact XS.iconst h hx rfl hd (by rw [hv]; exact hr)
theorem y_bipush {tb : Tables} [Ours tb] {e : Env} {below : List Frame} {T target : State} {m : MethodId} {c : Code} (h : At T m c below) (hx : tb.exec = Jvm.exec) {pc pc' : Nat} {L : Array Slot} {S : List Value} {i : Int} {v : Int32} (hd : decode c.code pc = .ok (.bipush i, 2)) (hv : (Int8.ofInt i).toInt32 = v) (hp : pc + 2 = pc') (hr : Steps tb e below (T.setTop (mkF m pc' L (.int v :: S))) target) : Steps tb e below (T.setTop (mkF m pc L S)) target := by subst hp; exact XS.bipush h hx rfl hd (by rw [hv]; exact hr)
theorem y_sipush {tb : Tables} [Ours tb] {e : Env} {below : List Frame} {T target : State} {m : MethodId} {c : Code} (h : At T m c below) (hx : tb.exec = Jvm.exec) {pc pc' : Nat} {L : Array Slot} {S : List Value} {i : Int} {v : Int32} (hd : decode c.code pc = .ok (.sipush i, 3)) (hv : (Int16.ofInt i).toInt32 = v) (hp : pc + 3 = pc') (hr : Steps tb e below (T.setTop (mkF m pc' L (.int v :: S))) target) : Steps tb e below (T.setTop (mkF m pc L S)) target := by subst hp; exact XS.sipush h hx rfl hd (by rw [hv]; exact hr)
theorem y_lconst {tb : Tables} [Ours tb] {e : Env} {below : List Frame} {T target : State} {m : MethodId} {c : Code} (h : At T m c below) (hx : tb.exec = Jvm.exec) {pc pc' : Nat} {L : Array Slot} {S : List Value} {k : Fin 2} {v : Int64} (hd : decode c.code pc = .ok (.lconst k, 1)) (hv : Int64.ofNat k.val = v) (hp : pc + 1 = pc') (hr : Steps tb e below (T.setTop (mkF m pc' L (.long v :: S))) target) : Steps tb e below (T.setTop (mkF m pc L S)) target := by subst hp; exact XS.lconst h hx rfl hd (by first | exact hv ▸ hr | (rw [hv]; exact hr) | (subst hv; exact hr))
theorem y_aconstNull {tb : Tables} [Ours tb] {e : Env} {below : List Frame} {T target : State} {m : MethodId} {c : Code} (h : At T m c below) (hx : tb.exec = Jvm.exec) {pc pc' : Nat} {L : Array Slot} {S : List Value} (hd : decode c.code pc = .ok (.aconst_null, 1)) (hp : pc + 1 = pc') (hr : Steps tb e below (T.setTop (mkF m pc' L (.null :: S))) target) : Steps tb e below (T.setTop (mkF m pc L S)) target := by subst hp; exact XS.aconstNull h hx rfl hd hr
theorem y_iadd {tb : Tables} [Ours tb] {e : Env} {below : List Frame} {T target : State} {m : MethodId} {c : Code} (h : At T m c below) (hx : tb.exec = Jvm.exec) {pc pc' : Nat} {L : Array Slot} {S : List Value} {x y z : Int32} (hd : decode c.code pc = .ok (.iadd, 1)) (hz : x + y = z) (hp : pc + 1 = pc') (hr : Steps tb e below (T.setTop (mkF m pc' L (.int z :: S))) target) : Steps tb e below (T.setTop (mkF m pc L (.int y :: .int x :: S))) target := by subst hp; exact XS.iadd h hx rfl hd rfl (by rw [hz]; exact hr)
theorem y_isub {tb : Tables} [Ours tb] {e : Env} {below : List Frame} {T target : State} {m : MethodId} {c : Code} (h : At T m c below) (hx : tb.exec = Jvm.exec) {pc pc' : Nat} {L : Array Slot} {S : List Value} {x y z : Int32} (hd : decode c.code pc = .ok (.isub, 1)) (hz : x - y = z) (hp : pc + 1 = pc') (hr : Steps tb e below (T.setTop (mkF m pc' L (.int z :: S))) target) : Steps tb e below (T.setTop (mkF m pc L (.int y :: .int x :: S))) target := by subst hp; exact XS.isub h hx rfl hd rfl (by rw [hz]; exact hr)
theorem y_imul {tb : Tables} [Ours tb] {e : Env} {below : List Frame} {T target : State} {m : MethodId} {c : Code} (h : At T m c below) (hx : tb.exec = Jvm.exec) {pc pc' : Nat} {L : Array Slot} {S : List Value} {x y z : Int32} (hd : decode c.code pc = .ok (.imul, 1)) (hz : x * y = z) (hp : pc + 1 = pc') (hr : Steps tb e below (T.setTop (mkF m pc' L (.int z :: S))) target) : Steps tb e below (T.setTop (mkF m pc L (.int y :: .int x :: S))) target := by subst hp; exact XS.imul h hx rfl hd rfl (by rw [hz]; exact hr)
theorem y_iand {tb : Tables} [Ours tb] {e : Env} {below : List Frame} {T target : State} {m : MethodId} {c : Code} (h : At T m c below) (hx : tb.exec = Jvm.exec) {pc pc' : Nat} {L : Array Slot} {S : List Value} {x y z : Int32} (hd : decode c.code pc = .ok (.iand, 1)) (hz : x &&& y = z) (hp : pc + 1 = pc') (hr : Steps tb e below (T.setTop (mkF m pc' L (.int z :: S))) target) : Steps tb e below (T.setTop (mkF m pc L (.int y :: .int x :: S))) target := by subst hp; exact XS.iand h hx rfl hd rfl (by rw [hz]; exact hr)
theorem y_ior {tb : Tables} [Ours tb] {e : Env} {below : List Frame} {T target : State} {m : MethodId} {c : Code} (h : At T m c below) (hx : tb.exec = Jvm.exec) {pc pc' : Nat} {L : Array Slot} {S : List Value} {x y z : Int32} (hd : decode c.code pc = .ok (.ior, 1)) (hz : x ||| y = z) (hp : pc + 1 = pc') (hr : Steps tb e below (T.setTop (mkF m pc' L (.int z :: S))) target) : Steps tb e below (T.setTop (mkF m pc L (.int y :: .int x :: S))) target := by subst hp; exact XS.ior h hx rfl hd rfl (by rw [hz]; exact hr)
theorem y_ixor {tb : Tables} [Ours tb] {e : Env} {below : List Frame} {T target : State} {m : MethodId} {c : Code} (h : At T m c below) (hx : tb.exec = Jvm.exec) {pc pc' : Nat} {L : Array Slot} {S : List Value} {x y z : Int32} (hd : decode c.code pc = .ok (.ixor, 1)) (hz : x ^^^ y = z) (hp : pc + 1 = pc') (hr : Steps tb e below (T.setTop (mkF m pc' L (.int z :: S))) target) : Steps tb e below (T.setTop (mkF m pc L (.int y :: .int x :: S))) target := by subst hp; exact XS.ixor h hx rfl hd rfl (by rw [hz]; exact hr)
theorem y_ladd {tb : Tables} [Ours tb] {e : Env} {below : List Frame} {T target : State} {m : MethodId} {c : Code} (h : At T m c below) (hx : tb.exec = Jvm.exec) {pc pc' : Nat} {L : Array Slot} {S : List Value} {x y z : Int64} (hd : decode c.code pc = .ok (.ladd, 1)) (hz : x + y = z) (hp : pc + 1 = pc') (hr : Steps tb e below (T.setTop (mkF m pc' L (.long z :: S))) target) : Steps tb e below (T.setTop (mkF m pc L (.long y :: .long x :: S))) target := by subst hp; exact XS.ladd h hx rfl hd rfl (by rw [hz]; exact hr)
theorem y_lsub {tb : Tables} [Ours tb] {e : Env} {below : List Frame} {T target : State} {m : MethodId} {c : Code} (h : At T m c below) (hx : tb.exec = Jvm.exec) {pc pc' : Nat} {L : Array Slot} {S : List Value} {x y z : Int64} (hd : decode c.code pc = .ok (.lsub, 1)) (hz : x - y = z) (hp : pc + 1 = pc') (hr : Steps tb e below (T.setTop (mkF m pc' L (.long z :: S))) target) : Steps tb e below (T.setTop (mkF m pc L (.long y :: .long x :: S))) target := by subst hp; exact XS.lsub h hx rfl hd rfl (by rw [hz]; exact hr)
theorem y_lmul {tb : Tables} [Ours tb] {e : Env} {below : List Frame} {T target : State} {m : MethodId} {c : Code} (h : At T m c below) (hx : tb.exec = Jvm.exec) {pc pc' : Nat} {L : Array Slot} {S : List Value} {x y z : Int64} (hd : decode c.code pc = .ok (.lmul, 1)) (hz : x * y = z) (hp : pc + 1 = pc') (hr : Steps tb e below (T.setTop (mkF m pc' L (.long z :: S))) target) : Steps tb e below (T.setTop (mkF m pc L (.long y :: .long x :: S))) target := by subst hp; exact XS.lmul h hx rfl hd rfl (by rw [hz]; exact hr)
theorem y_land {tb : Tables} [Ours tb] {e : Env} {below : List Frame} {T target : State} {m : MethodId} {c : Code} (h : At T m c below) (hx : tb.exec = Jvm.exec) {pc pc' : Nat} {L : Array Slot} {S : List Value} {x y z : Int64} (hd : decode c.code pc = .ok (.land, 1)) (hz : x &&& y = z) (hp : pc + 1 = pc') (hr : Steps tb e below (T.setTop (mkF m pc' L (.long z :: S))) target) : Steps tb e below (T.setTop (mkF m pc L (.long y :: .long x :: S))) target := by subst hp; exact XS.land h hx rfl hd rfl (by rw [hz]; exact hr)
theorem y_lor {tb : Tables} [Ours tb] {e : Env} {below : List Frame} {T target : State} {m : MethodId} {c : Code} (h : At T m c below) (hx : tb.exec = Jvm.exec) {pc pc' : Nat} {L : Array Slot} {S : List Value} {x y z : Int64} (hd : decode c.code pc = .ok (.lor, 1)) (hz : x ||| y = z) (hp : pc + 1 = pc') (hr : Steps tb e below (T.setTop (mkF m pc' L (.long z :: S))) target) : Steps tb e below (T.setTop (mkF m pc L (.long y :: .long x :: S))) target := by subst hp; exact XS.lor h hx rfl hd rfl (by rw [hz]; exact hr)
theorem y_lxor {tb : Tables} [Ours tb] {e : Env} {below : List Frame} {T target : State} {m : MethodId} {c : Code} (h : At T m c below) (hx : tb.exec = Jvm.exec) {pc pc' : Nat} {L : Array Slot} {S : List Value} {x y z : Int64} (hd : decode c.code pc = .ok (.lxor, 1)) (hz : x ^^^ y = z) (hp : pc + 1 = pc') (hr : Steps tb e below (T.setTop (mkF m pc' L (.long z :: S))) target) : Steps tb e below (T.setTop (mkF m pc L (.long y :: .long x :: S))) target := by subst hp; exact XS.lxor h hx rfl hd rfl (by rw [hz]; exact hr)
theorem y_ineg {tb : Tables} [Ours tb] {e : Env} {below : List Frame} {T target : State} {m : MethodId} {c : Code} (h : At T m c below) (hx : tb.exec = Jvm.exec) {pc pc' : Nat} {L : Array Slot} {S : List Value} {x : Int32} {z : Int32} (hd : decode c.code pc = .ok (.ineg, 1)) (hz : -x = z) (hp : pc + 1 = pc') (hr : Steps tb e below (T.setTop (mkF m pc' L (.int z :: S))) target) : Steps tb e below (T.setTop (mkF m pc L (.int x :: S))) target := by subst hp; exact XS.ineg h hx rfl hd rfl (by subst hz; exact hr)
theorem y_lneg {tb : Tables} [Ours tb] {e : Env} {below : List Frame} {T target : State} {m : MethodId} {c : Code} (h : At T m c below) (hx : tb.exec = Jvm.exec) {pc pc' : Nat} {L : Array Slot} {S : List Value} {x : Int64} {z : Int64} (hd : decode c.code pc = .ok (.lneg, 1)) (hz : -x = z) (hp : pc + 1 = pc') (hr : Steps tb e below (T.setTop (mkF m pc' L (.long z :: S))) target) : Steps tb e below (T.setTop (mkF m pc L (.long x :: S))) target := by subst hp; exact XS.lneg h hx rfl hd rfl (by subst hz; exact hr)
theorem y_i2l {tb : Tables} [Ours tb] {e : Env} {below : List Frame} {T target : State} {m : MethodId} {c : Code} (h : At T m c below) (hx : tb.exec = Jvm.exec) {pc pc' : Nat} {L : Array Slot} {S : List Value} {x : Int32} {z : Int64} (hd : decode c.code pc = .ok (.i2l, 1)) (hz : x.toInt64 = z) (hp : pc + 1 = pc') (hr : Steps tb e below (T.setTop (mkF m pc' L (.long z :: S))) target) : Steps tb e below (T.setTop (mkF m pc L (.int x :: S))) target := by subst hp; exact XS.i2l h hx rfl hd rfl (by subst hz; exact hr)
theorem y_l2i {tb : Tables} [Ours tb] {e : Env} {below : List Frame} {T target : State} {m : MethodId} {c : Code} (h : At T m c below) (hx : tb.exec = Jvm.exec) {pc pc' : Nat} {L : Array Slot} {S : List Value} {x : Int64} {z : Int32} (hd : decode c.code pc = .ok (.l2i, 1)) (hz : x.toInt32 = z) (hp : pc + 1 = pc') (hr : Steps tb e below (T.setTop (mkF m pc' L (.int z :: S))) target) : Steps tb e below (T.setTop (mkF m pc L (.long x :: S))) target := by subst hp; exact XS.l2i h hx rfl hd rfl (by subst hz; exact hr)
theorem y_i2b {tb : Tables} [Ours tb] {e : Env} {below : List Frame} {T target : State} {m : MethodId} {c : Code} (h : At T m c below) (hx : tb.exec = Jvm.exec) {pc pc' : Nat} {L : Array Slot} {S : List Value} {x : Int32} {z : Int32} (hd : decode c.code pc = .ok (.i2b, 1)) (hz : x.toInt8.toInt32 = z) (hp : pc + 1 = pc') (hr : Steps tb e below (T.setTop (mkF m pc' L (.int z :: S))) target) : Steps tb e below (T.setTop (mkF m pc L (.int x :: S))) target := by subst hp; exact XS.i2b h hx rfl hd rfl (by subst hz; exact hr)
theorem y_i2s {tb : Tables} [Ours tb] {e : Env} {below : List Frame} {T target : State} {m : MethodId} {c : Code} (h : At T m c below) (hx : tb.exec = Jvm.exec) {pc pc' : Nat} {L : Array Slot} {S : List Value} {x : Int32} {z : Int32} (hd : decode c.code pc = .ok (.i2s, 1)) (hz : x.toInt16.toInt32 = z) (hp : pc + 1 = pc') (hr : Steps tb e below (T.setTop (mkF m pc' L (.int z :: S))) target) : Steps tb e below (T.setTop (mkF m pc L (.int x :: S))) target := by subst hp; exact XS.i2s h hx rfl hd rfl (by subst hz; exact hr)
theorem y_i2c {tb : Tables} [Ours tb] {e : Env} {below : List Frame} {T target : State} {m : MethodId} {c : Code} (h : At T m c below) (hx : tb.exec = Jvm.exec) {pc pc' : Nat} {L : Array Slot} {S : List Value} {x : Int32} {z : Int32} (hd : decode c.code pc = .ok (.i2c, 1)) (hz : x.toUInt32.toUInt16.toUInt32.toInt32 = z) (hp : pc + 1 = pc') (hr : Steps tb e below (T.setTop (mkF m pc' L (.int z :: S))) target) : Steps tb e below (T.setTop (mkF m pc L (.int x :: S))) target := by subst hp; exact XS.i2c h hx rfl hd rfl (by subst hz; exact hr)
theorem y_ishl {tb : Tables} [Ours tb] {e : Env} {below : List Frame} {T target : State} {m : MethodId} {c : Code} (h : At T m c below) (hx : tb.exec = Jvm.exec) {pc pc' : Nat} {L : Array Slot} {S : List Value} {x z : Int32} {y : Int32} (hd : decode c.code pc = .ok (.ishl, 1)) (hz : (x <<< (y &&& 31)) = z) (hp : pc + 1 = pc') (hr : Steps tb e below (T.setTop (mkF m pc' L (.int z :: S))) target) : Steps tb e below (T.setTop (mkF m pc L (.int y :: .int x :: S))) target := by subst hp; exact XS.ishl h hx rfl hd rfl (by subst hz; exact hr)
theorem y_ishr {tb : Tables} [Ours tb] {e : Env} {below : List Frame} {T target : State} {m : MethodId} {c : Code} (h : At T m c below) (hx : tb.exec = Jvm.exec) {pc pc' : Nat} {L : Array Slot} {S : List Value} {x z : Int32} {y : Int32} (hd : decode c.code pc = .ok (.ishr, 1)) (hz : (x >>> (y &&& 31)) = z) (hp : pc + 1 = pc') (hr : Steps tb e below (T.setTop (mkF m pc' L (.int z :: S))) target) : Steps tb e below (T.setTop (mkF m pc L (.int y :: .int x :: S))) target := by subst hp; exact XS.ishr h hx rfl hd rfl (by subst hz; exact hr)
theorem y_iushr {tb : Tables} [Ours tb] {e : Env} {below : List Frame} {T target : State} {m : MethodId} {c : Code} (h : At T m c below) (hx : tb.exec = Jvm.exec) {pc pc' : Nat} {L : Array Slot} {S : List Value} {x z : Int32} {y : Int32} (hd : decode c.code pc = .ok (.iushr, 1)) (hz : ((x.toUInt32 >>> (y &&& 31).toUInt32).toInt32) = z) (hp : pc + 1 = pc') (hr : Steps tb e below (T.setTop (mkF m pc' L (.int z :: S))) target) : Steps tb e below (T.setTop (mkF m pc L (.int y :: .int x :: S))) target := by subst hp; exact XS.iushr h hx rfl hd rfl (by subst hz; exact hr)
theorem y_lshl {tb : Tables} [Ours tb] {e : Env} {below : List Frame} {T target : State} {m : MethodId} {c : Code} (h : At T m c below) (hx : tb.exec = Jvm.exec) {pc pc' : Nat} {L : Array Slot} {S : List Value} {x z : Int64} {y : Int32} (hd : decode c.code pc = .ok (.lshl, 1)) (hz : (x <<< (y &&& 0x3f).toInt64) = z) (hp : pc + 1 = pc') (hr : Steps tb e below (T.setTop (mkF m pc' L (.long z :: S))) target) : Steps tb e below (T.setTop (mkF m pc L (.int y :: .long x :: S))) target := by subst hp; exact XS.lshl h hx rfl hd rfl (by subst hz; exact hr)
theorem y_lshr {tb : Tables} [Ours tb] {e : Env} {below : List Frame} {T target : State} {m : MethodId} {c : Code} (h : At T m c below) (hx : tb.exec = Jvm.exec) {pc pc' : Nat} {L : Array Slot} {S : List Value} {x z : Int64} {y : Int32} (hd : decode c.code pc = .ok (.lshr, 1)) (hz : (x >>> (y &&& 0x3f).toInt64) = z) (hp : pc + 1 = pc') (hr : Steps tb e below (T.setTop (mkF m pc' L (.long z :: S))) target) : Steps tb e below (T.setTop (mkF m pc L (.int y :: .long x :: S))) target := by subst hp; exact XS.lshr h hx rfl hd rfl (by subst hz; exact hr)
theorem y_lushr {tb : Tables} [Ours tb] {e : Env} {below : List Frame} {T target : State} {m : MethodId} {c : Code} (h : At T m c below) (hx : tb.exec = Jvm.exec) {pc pc' : Nat} {L : Array Slot} {S : List Value} {x z : Int64} {y : Int32} (hd : decode c.code pc = .ok (.lushr, 1)) (hz : ((x.toUInt64 >>> (y &&& 0x3f).toInt64.toUInt64).toInt64) = z) (hp : pc + 1 = pc') (hr : Steps tb e below (T.setTop (mkF m pc' L (.long z :: S))) target) : Steps tb e below (T.setTop (mkF m pc L (.int y :: .long x :: S))) target := by subst hp; exact XS.lushr h hx rfl hd rfl (by subst hz; exact hr)
theorem y_lcmp {tb : Tables} [Ours tb] {e : Env} {below : List Frame} {T target : State} {m : MethodId} {c : Code} (h : At T m c below) (hx : tb.exec = Jvm.exec) {pc pc' : Nat} {L : Array Slot} {S : List Value} {x y : Int64} (hd : decode c.code pc = .ok (.lcmp, 1)) (hp : pc + 1 = pc') (hr : Steps tb e below (T.setTop (mkF m pc' L (.int (lcmpW x y) :: S))) target) : Steps tb e below (T.setTop (mkF m pc L (.long y :: .long x :: S))) target := by subst hp; exact XS.lcmp h hx rfl hd rfl hr
theorem y_iinc {tb : Tables} [Ours tb] {e : Env} {below : List Frame} {T target : State} {m : MethodId} {c : Code} (h : At T m c below) (hx : tb.exec = Jvm.exec) {pc pc' : Nat} {L : Array Slot} {S : List Value} {k : Nat} {cst : Int} {x : Int32} {l' : Array Slot} (hd : decode c.code pc = .ok (.iinc k cst, 3)) (hl : L[k]? = some (.val (.int x))) (hl' : storeLocals L k (.int (x + Int32.ofInt cst)) = some l') (hp : pc + 3 = pc') (hr : Steps tb e below (T.setTop (mkF m pc' l' S)) target) : Steps tb e below (T.setTop (mkF m pc L S)) target := by subst hp; exact XS.iinc h hx rfl hd hl hl' hr
theorem y_dup {tb : Tables} [Ours tb] {e : Env} {below : List Frame} {T target : State} {m : MethodId} {c : Code} (h : At T m c below) (hx : tb.exec = Jvm.exec) {pc pc' : Nat} {L : Array Slot} {S : List Value} {v : Value} (hd : decode c.code pc = .ok (.dup, 1)) (hc : v.category = 1) (hp : pc + 1 = pc') (hr : Steps tb e below (T.setTop (mkF m pc' L (v :: v :: S))) target) : Steps tb e below (T.setTop (mkF m pc L (v :: S))) target := by subst hp; exact XS.dup h hx rfl hd rfl hc hr
theorem y_goto {tb : Tables} [Ours tb] {e : Env} {below : List Frame} {T target : State} {m : MethodId} {c : Code} (h : At T m c below) (hx : tb.exec = Jvm.exec) {pc pc' : Nat} {L : Array Slot} {S : List Value} {o : Int} (hd : decode c.code pc = .ok (.goto o, 3)) (ho : 0 ≤ (pc : Int) + o) (hp : ((pc : Int) + o).toNat = pc') (hr : Steps tb e below (T.setTop (mkF m pc' L S)) target) : Steps tb e below (T.setTop (mkF m pc L S)) target := XS.goto h hx rfl rfl hd ho hp hr
theorem y_ifYes {tb : Tables} [Ours tb] {e : Env} {below : List Frame} {T target : State} {m : MethodId} {c : Code} (h : At T m c below) (hx : tb.exec = Jvm.exec) {pc pc' : Nat} {L : Array Slot} {S : List Value} {cd : ClassFile.Cond} {x : Int32} {o : Int} (hd : decode c.code pc = .ok (.ifCond cd o, 3)) (hc : ifCond.holds cd x = true) (ho : 0 ≤ (pc : Int) + o) (hp : ((pc : Int) + o).toNat = pc') (hr : Steps tb e below (T.setTop (mkF m pc' L S)) target) : Steps tb e below (T.setTop (mkF m pc L (.int x :: S))) target := XS.ifYes h hx rfl rfl hd rfl hc ho hp hr
theorem y_ifNo {tb : Tables} [Ours tb] {e : Env} {below : List Frame} {T target : State} {m : MethodId} {c : Code} (h : At T m c below) (hx : tb.exec = Jvm.exec) {pc pc' : Nat} {L : Array Slot} {S : List Value} {cd : ClassFile.Cond} {x : Int32} {o : Int} (hd : decode c.code pc = .ok (.ifCond cd o, 3)) (hc : ifCond.holds cd x = false) (hp : pc + 3 = pc') (hr : Steps tb e below (T.setTop (mkF m pc' L S)) target) : Steps tb e below (T.setTop (mkF m pc L (.int x :: S))) target := by subst hp; exact XS.ifNo h hx rfl hd rfl hc hr
theorem y_icmpYes {tb : Tables} [Ours tb] {e : Env} {below : List Frame} {T target : State} {m : MethodId} {c : Code} (h : At T m c below) (hx : tb.exec = Jvm.exec) {pc pc' : Nat} {L : Array Slot} {S : List Value} {cd : ClassFile.Cond} {x y : Int32} {o : Int} (hd : decode c.code pc = .ok (.if_icmp cd o, 3)) (hc : if_icmp.holds cd x y = true) (ho : 0 ≤ (pc : Int) + o) (hp : ((pc : Int) + o).toNat = pc') (hr : Steps tb e below (T.setTop (mkF m pc' L S)) target) : Steps tb e below (T.setTop (mkF m pc L (.int y :: .int x :: S))) target := XS.icmpYes h hx rfl rfl hd rfl hc ho hp hr
theorem y_icmpNo {tb : Tables} [Ours tb] {e : Env} {below : List Frame} {T target : State} {m : MethodId} {c : Code} (h : At T m c below) (hx : tb.exec = Jvm.exec) {pc pc' : Nat} {L : Array Slot} {S : List Value} {cd : ClassFile.Cond} {x y : Int32} {o : Int} (hd : decode c.code pc = .ok (.if_icmp cd o, 3)) (hc : if_icmp.holds cd x y = false) (hp : pc + 3 = pc') (hr : Steps tb e below (T.setTop (mkF m pc' L S)) target) : Steps tb e below (T.setTop (mkF m pc L (.int y :: .int x :: S))) target := by subst hp; exact XS.icmpNo h hx rfl hd rfl hc hr
theorem own_nar01 {x : Int32} (h : x = 0 ∨ x = 1) : nar .boolean x = x := by rcases h with rfl | rfl <;> rfl
theorem own_ite01 {c : Prop} [Decidable c] : (if c then (0 : Int32) else (1 : Int32)) = 0 ∨ (if c then (0 : Int32) else (1 : Int32)) = 1 := by split <;> simp
theorem own_narI {c : Prop} [Decidable c] : nar .boolean (if c then (1 : Int32) else (0 : Int32)) = (if c then (1 : Int32) else (0 : Int32)) := by split <;> rfl
theorem own_ne1 (a : Int32) : ¬ a = a + 1 := fun h => by
  have q := c_iadd a 1
  rw [← h] at q
  have e : (1 : Int32).toInt = 1 := rfl
  omega
theorem own_of {x k : Int32} (h : x.toInt = k.toInt) : x = k := Int32.toInt_inj.mp h
theorem own_and3 (k : Int32) : k &&& 3 = 0 ∨ k &&& 3 = 1 ∨ k &&& 3 = 2 ∨ k &&& 3 = 3 := by
  have q : (k &&& 3).toInt = k.toInt % 4 := c_mask k 3 2 (by decide) (by decide)
  generalize k &&& 3 = x at q ⊢
  have : x.toInt = 0 ∨ x.toInt = 1 ∨ x.toInt = 2 ∨ x.toInt = 3 := by omega
  rcases this with h | h | h | h
  · exact Or.inl (own_of h)
  · exact Or.inr (Or.inl (own_of h))
  · exact Or.inr (Or.inr (Or.inl (own_of h)))
  · exact Or.inr (Or.inr (Or.inr (own_of h)))
theorem d1_0 : decode prog_15_method_4_code 0 = .ok (.aload_n 0, 1) := by decide +kernel
theorem d1_1 : decode prog_15_method_4_code 1 = .ok (.getstatic 37, 3) := by decide +kernel
theorem d1_4 : decode prog_15_method_4_code 4 = .ok (.if_acmp .eq 17, 3) := by decide +kernel
theorem d1_7 : decode prog_15_method_4_code 7 = .ok (.aload_n 0, 1) := by decide +kernel
theorem d1_8 : decode prog_15_method_4_code 8 = .ok (.getstatic 31, 3) := by decide +kernel
theorem d1_11 : decode prog_15_method_4_code 11 = .ok (.if_acmp .eq 10, 3) := by decide +kernel
theorem d1_14 : decode prog_15_method_4_code 14 = .ok (.aload_n 0, 1) := by decide +kernel
theorem d1_15 : decode prog_15_method_4_code 15 = .ok (.getstatic 34, 3) := by decide +kernel
theorem d1_18 : decode prog_15_method_4_code 18 = .ok (.if_acmp .ne 7, 3) := by decide +kernel
theorem d1_21 : decode prog_15_method_4_code 21 = .ok (.iconst 1, 1) := by decide +kernel
theorem d1_22 : decode prog_15_method_4_code 22 = .ok (.goto 4, 3) := by decide +kernel
theorem d1_25 : decode prog_15_method_4_code 25 = .ok (.iconst 0, 1) := by decide +kernel
theorem d1_26 : decode prog_15_method_4_code 26 = .ok (.ireturn, 1) := by decide +kernel
theorem pn_com_example_certline_certline_capture_Script_Kind : plainName "com/example/certline/certline/capture/Script$Kind" = true := by first | (simp [plainName, overriddenIn]; done) | decide +kernel
theorem ef_1 (m : MethodId) (x0 : Addr) : entryFrame m #[(.ref x0)] 1 = mkF m 0 #[rv x0] [] := by first | (simp [entryFrame, mkF, argsToLocals, Value.category]; done) | rfl
def Q1 (Z : State) (pr0 : Addr) (w_OTHER : Addr) (w_COPY : Addr) (w_DEFINITION : Addr) (h0 : Heap) (n0 : Nat) (v : Option Value) (h : Heap) (L : List Loc) : Prop := v = some (.int (if pr0 = w_OTHER then (1 : Int32) else (if pr0 = w_COPY then (1 : Int32) else (if pr0 = w_DEFINITION then (1 : Int32) else (0 : Int32))))) ∧ Fr n0 L ∧ h = h0
set_option maxRecDepth 65536 in
set_option maxHeartbeats 40000000 in
theorem rm1 (l : Launch) (Z : State) (a0 : Array Value) (hw : ∀ d ∈ tables_1, d.before a0 Z = true) (ws : List Jvm.Cond) (pr0 : Addr) (w_OTHER : Addr) (w_COPY : Addr) (w_DEFINITION : Addr) (h0 : Heap) (n0 : Nat) (O0 : Old Z n0 h0) (S_OTHER : Sta Z Z.heap "com/example/certline/certline/capture/Script$Kind" "OTHER" "Lcom/example/certline/certline/capture/Script$Kind;" (.ref w_OTHER)) (S_COPY : Sta Z Z.heap "com/example/certline/certline/capture/Script$Kind" "COPY" "Lcom/example/certline/certline/capture/Script$Kind;" (.ref w_COPY)) (S_DEFINITION : Sta Z Z.heap "com/example/certline/certline/capture/Script$Kind" "DEFINITION" "Lcom/example/certline/certline/capture/Script$Kind;" (.ref w_DEFINITION)) :
    MetFree l (⟨"com/example/certline/certline/capture/Script$Kind", "mayChangeRows", "()Z"⟩ : MethodName) (head1 (Jvm.Cond.code (⟨"com/example/certline/certline/capture/Script$Kind", "mayChangeRows", "()Z"⟩ : MethodName) prog_15_method_4_code 1 (some .boolean) :: ws) ({ frames := 0, cells := 0, slots := 0, locals := 0 } : Room)) (fun a U => a = #[(.ref pr0)] ∧ Z.Warmed39 U.vm ∧ U.heap = h0) (fun _ _ _ _ _ => True) (fun _ U o U' => ∃ v L, o = .returned v ∧ Q1 Z pr0 w_OTHER w_COPY w_DEFINITION h0 n0 v U'.heap L ∧ FrameEnd U o U' L ({ frames := 0, cells := 0, slots := 0, locals := 0 } : Room).cells ({ frames := 0, cells := 0, slots := 0, locals := 0 } : Room).slots) := by
  refine MetFree.of_bodySF (plainFor_of_name pn_com_example_certline_certline_capture_Script_Kind) hisR ?_
  intro p e s m args below meth c s₁ Bd hml0 hP hK
  obtain ⟨rfl, hZ, hh⟩ := hP
  have hx := Bd.exec
  have hby := Bd.bytes
  have hml : c.maxLocals = 1 := hml0
  have hown : s.vm.findClass "com/example/certline/certline/capture/Script$Kind" = some m.cls := findClass_of_methodNamed Bd.named
  have hnm := (name_of_methodNamed Bd.named Bd.method).1
  have X0 : Stand p l e ({ frames := 0, cells := 0, slots := 0, locals := 0 } : Room) s m #[(.ref pr0)] below meth c s₁ [] 0 0 := Stand.of_body Bd
  have e0 : s₁.heap = h0 := by rw [← hh, Bd.state]; rfl
  have N0 := Fr.nil n0
  obtain ⟨Go, hGo⟩ : ∃ P : State → Prop, ∀ t, P t ↔ Steps p.tables e below (s₁.setTop (entryFrame m #[(.ref pr0)] 1)) t := ⟨_, fun _ => Iff.rfl⟩
  have pre0 : ∀ t, Steps p.tables e below (s₁.setTop (mkF m 0 #[rv pr0] [])) t → Go t := fun t k => (hGo t).mpr (castTop (ef_1 m pr0) k)
  have pre1 : ∀ t, Steps p.tables e below (s₁.setTop (mkF m 1 #[rv pr0] [(.ref pr0)])) t → Go t := fun t kt => pre0 t (by
      refine y_aloadN X0.here hx (hb hby d1_0) rfl rfl (pc' := 1) rfl ?_
      exact kt)
  obtain ⟨T2, X2, e2, st2⟩ := getS2 X0 hx hZ hown (host := "") (Or.inl (hw _ (List.mem_of_getElem? (i := 35) rfl))) Via.refl e0 (S_OTHER.ext O0.2) (g := (mkF m 1 #[rv pr0] [(.ref pr0)])) rfl (hb hby d1_1)
  have pre3 : ∀ t, Steps p.tables e below (T2.setTop (mkF m 4 #[rv pr0] [(.ref w_OTHER), (.ref pr0)])) t → Go t := fun t kt => pre1 t (st2 t kt)
  by_cases hc4_4 : pr0 = w_OTHER
  · have pre5 : ∀ t, Steps p.tables e below (T2.setTop (mkF m 26 #[rv pr0] [(.int (1 : Int32))])) t → Go t := fun t kt => pre3 t (by
        refine Jvm.RoadKit.acmp (g := (mkF m 4 #[rv pr0] [(.ref w_OTHER), (.ref pr0)])) X2 hx rfl rfl rfl (pc0 := 4) (pc' := 21) (same := true) rfl (hb hby d1_4) rfl (decide_eq_true (congrArg Value.ref hc4_4)) (by decide) (by decide) ?_
        show Steps p.tables e below (T2.setTop (mkF m 21 #[rv pr0] [])) _
        refine y_iconst X2.here hx (hb hby d1_21) (v := (1 : Int32)) rfl (pc' := 22) rfl ?_
        refine y_goto X2.here hx (hb hby d1_22) (pc' := 26) (by decide) rfl ?_
        exact kt)
    obtain ⟨fs, hr, hrun, hended, hW, hsame⟩ := X2.leave (v := some (.int (1 : Int32))) (fun h => by rw [Bd.returns] at h; cases h)
    refine ⟨_, _, (hGo _).mp (pre5 _ ?_), hrun, hended, _, _, rfl, ?_, ⟨_, rfl⟩, hW, hsame.mono (by decide) (by decide)⟩
    · exact retN X2 hx (t := .boolean) Bd.returns (by simp) (hb hby d1_26) hr
    · show Q1 Z pr0 w_OTHER w_COPY w_DEFINITION h0 n0 _ T2.heap _
      rw [e2]
      exact ⟨(by first | (simp only [if_pos hc4_4]; done) | (simp only [if_pos hc4_4]; exact rfl) | exact rfl), N0, rfl⟩
  · have pre6 : ∀ t, Steps p.tables e below (T2.setTop (mkF m 8 #[rv pr0] [(.ref pr0)])) t → Go t := fun t kt => pre3 t (by
        refine Jvm.RoadKit.acmp (g := (mkF m 4 #[rv pr0] [(.ref w_OTHER), (.ref pr0)])) X2 hx rfl rfl rfl (pc0 := 4) (pc' := 7) (same := false) rfl (hb hby d1_4) rfl (decide_eq_false fun q => hc4_4 (Value.ref.inj q)) (by decide) (by decide) ?_
        show Steps p.tables e below (T2.setTop (mkF m 7 #[rv pr0] [])) _
        refine y_aloadN X2.here hx (hb hby d1_7) rfl rfl (pc' := 8) rfl ?_
        exact kt)
    obtain ⟨T7, X7, e7, st7⟩ := getS2 X2 hx hZ hown (host := "") (Or.inl (hw _ (List.mem_of_getElem? (i := 36) rfl))) Via.refl e2 (S_COPY.ext O0.2) (g := (mkF m 8 #[rv pr0] [(.ref pr0)])) rfl (hb hby d1_8)
    have pre8 : ∀ t, Steps p.tables e below (T7.setTop (mkF m 11 #[rv pr0] [(.ref w_COPY), (.ref pr0)])) t → Go t := fun t kt => pre6 t (st7 t kt)
    by_cases hc11_9 : pr0 = w_COPY
    · have pre10 : ∀ t, Steps p.tables e below (T7.setTop (mkF m 26 #[rv pr0] [(.int (1 : Int32))])) t → Go t := fun t kt => pre8 t (by
          refine Jvm.RoadKit.acmp (g := (mkF m 11 #[rv pr0] [(.ref w_COPY), (.ref pr0)])) X7 hx rfl rfl rfl (pc0 := 11) (pc' := 21) (same := true) rfl (hb hby d1_11) rfl (decide_eq_true (congrArg Value.ref hc11_9)) (by decide) (by decide) ?_
          show Steps p.tables e below (T7.setTop (mkF m 21 #[rv pr0] [])) _
          refine y_iconst X7.here hx (hb hby d1_21) (v := (1 : Int32)) rfl (pc' := 22) rfl ?_
          refine y_goto X7.here hx (hb hby d1_22) (pc' := 26) (by decide) rfl ?_
          exact kt)
      obtain ⟨fs, hr, hrun, hended, hW, hsame⟩ := X7.leave (v := some (.int (1 : Int32))) (fun h => by rw [Bd.returns] at h; cases h)
      refine ⟨_, _, (hGo _).mp (pre10 _ ?_), hrun, hended, _, _, rfl, ?_, ⟨_, rfl⟩, hW, hsame.mono (by decide) (by decide)⟩
      · exact retN X7 hx (t := .boolean) Bd.returns (by simp) (hb hby d1_26) hr
      · show Q1 Z pr0 w_OTHER w_COPY w_DEFINITION h0 n0 _ T7.heap _
        rw [e7]
        exact ⟨(by first | (simp only [if_neg hc4_4, if_pos hc11_9]; done) | (simp only [if_neg hc4_4, if_pos hc11_9]; exact rfl) | exact rfl), N0, rfl⟩
    · have pre11 : ∀ t, Steps p.tables e below (T7.setTop (mkF m 15 #[rv pr0] [(.ref pr0)])) t → Go t := fun t kt => pre8 t (by
          refine Jvm.RoadKit.acmp (g := (mkF m 11 #[rv pr0] [(.ref w_COPY), (.ref pr0)])) X7 hx rfl rfl rfl (pc0 := 11) (pc' := 14) (same := false) rfl (hb hby d1_11) rfl (decide_eq_false fun q => hc11_9 (Value.ref.inj q)) (by decide) (by decide) ?_
          show Steps p.tables e below (T7.setTop (mkF m 14 #[rv pr0] [])) _
          refine y_aloadN X7.here hx (hb hby d1_14) rfl rfl (pc' := 15) rfl ?_
          exact kt)
      obtain ⟨T12, X12, e12, st12⟩ := getS2 X7 hx hZ hown (host := "") (Or.inl (hw _ (List.mem_of_getElem? (i := 37) rfl))) Via.refl e7 (S_DEFINITION.ext O0.2) (g := (mkF m 15 #[rv pr0] [(.ref pr0)])) rfl (hb hby d1_15)
      have pre13 : ∀ t, Steps p.tables e below (T12.setTop (mkF m 18 #[rv pr0] [(.ref w_DEFINITION), (.ref pr0)])) t → Go t := fun t kt => pre11 t (st12 t kt)
      by_cases hc18_14 : pr0 = w_DEFINITION
      · have pre15 : ∀ t, Steps p.tables e below (T12.setTop (mkF m 26 #[rv pr0] [(.int (1 : Int32))])) t → Go t := fun t kt => pre13 t (by
            refine Jvm.RoadKit.acmp (g := (mkF m 18 #[rv pr0] [(.ref w_DEFINITION), (.ref pr0)])) X12 hx rfl rfl rfl (pc0 := 18) (pc' := 21) (same := true) rfl (hb hby d1_18) rfl (decide_eq_true (congrArg Value.ref hc18_14)) (by decide) (by decide) ?_
            show Steps p.tables e below (T12.setTop (mkF m 21 #[rv pr0] [])) _
            refine y_iconst X12.here hx (hb hby d1_21) (v := (1 : Int32)) rfl (pc' := 22) rfl ?_
            refine y_goto X12.here hx (hb hby d1_22) (pc' := 26) (by decide) rfl ?_
            exact kt)
        obtain ⟨fs, hr, hrun, hended, hW, hsame⟩ := X12.leave (v := some (.int (1 : Int32))) (fun h => by rw [Bd.returns] at h; cases h)
        refine ⟨_, _, (hGo _).mp (pre15 _ ?_), hrun, hended, _, _, rfl, ?_, ⟨_, rfl⟩, hW, hsame.mono (by decide) (by decide)⟩
        · exact retN X12 hx (t := .boolean) Bd.returns (by simp) (hb hby d1_26) hr
        · show Q1 Z pr0 w_OTHER w_COPY w_DEFINITION h0 n0 _ T12.heap _
          rw [e12]
          exact ⟨(by first | (simp only [if_neg hc4_4, if_neg hc11_9, if_pos hc18_14]; done) | (simp only [if_neg hc4_4, if_neg hc11_9, if_pos hc18_14]; exact rfl) | exact rfl), N0, rfl⟩
      · have pre16 : ∀ t, Steps p.tables e below (T12.setTop (mkF m 26 #[rv pr0] [(.int (0 : Int32))])) t → Go t := fun t kt => pre13 t (by
            refine Jvm.RoadKit.acmp (g := (mkF m 18 #[rv pr0] [(.ref w_DEFINITION), (.ref pr0)])) X12 hx rfl rfl rfl (pc0 := 18) (pc' := 25) (same := false) rfl (hb hby d1_18) rfl (decide_eq_false fun q => hc18_14 (Value.ref.inj q)) (by decide) (by decide) ?_
            show Steps p.tables e below (T12.setTop (mkF m 25 #[rv pr0] [])) _
            refine y_iconst X12.here hx (hb hby d1_25) (v := (0 : Int32)) rfl (pc' := 26) rfl ?_
            exact kt)
        obtain ⟨fs, hr, hrun, hended, hW, hsame⟩ := X12.leave (v := some (.int (0 : Int32))) (fun h => by rw [Bd.returns] at h; cases h)
        refine ⟨_, _, (hGo _).mp (pre16 _ ?_), hrun, hended, _, _, rfl, ?_, ⟨_, rfl⟩, hW, hsame.mono (by decide) (by decide)⟩
        · exact retN X12 hx (t := .boolean) Bd.returns (by simp) (hb hby d1_26) hr
        · show Q1 Z pr0 w_OTHER w_COPY w_DEFINITION h0 n0 _ T12.heap _
          rw [e12]
          exact ⟨(by first | (simp only [if_neg hc4_4, if_neg hc11_9, if_neg hc18_14]; done) | (simp only [if_neg hc4_4, if_neg hc11_9, if_neg hc18_14]; exact rfl) | exact rfl), N0, rfl⟩
theorem own_rem12 (k : Int32) : (k &&& (2147483647 : Int32)) % (12 : Int32) = (0 : Int32) ∨ (k &&& (2147483647 : Int32)) % (12 : Int32) = (1 : Int32) ∨ (k &&& (2147483647 : Int32)) % (12 : Int32) = (2 : Int32) ∨ (k &&& (2147483647 : Int32)) % (12 : Int32) = (3 : Int32) ∨ (k &&& (2147483647 : Int32)) % (12 : Int32) = (4 : Int32) ∨ (k &&& (2147483647 : Int32)) % (12 : Int32) = (5 : Int32) ∨ (k &&& (2147483647 : Int32)) % (12 : Int32) = (6 : Int32) ∨ (k &&& (2147483647 : Int32)) % (12 : Int32) = (7 : Int32) ∨ (k &&& (2147483647 : Int32)) % (12 : Int32) = (8 : Int32) ∨ (k &&& (2147483647 : Int32)) % (12 : Int32) = (9 : Int32) ∨ (k &&& (2147483647 : Int32)) % (12 : Int32) = (10 : Int32) ∨ (k &&& (2147483647 : Int32)) % (12 : Int32) = (11 : Int32) := by
  have q := (c_iremV (k &&& (2147483647 : Int32)) (12 : Int32)).1 (c_and k 2147483647 (by decide)).1 (by decide)
  have e12 : (12 : Int32).toInt = 12 := rfl
  generalize (k &&& (2147483647 : Int32)) % (12 : Int32) = x at q ⊢
  have h : x.toInt = 0 ∨ x.toInt = 1 ∨ x.toInt = 2 ∨ x.toInt = 3 ∨ x.toInt = 4 ∨ x.toInt = 5 ∨ x.toInt = 6 ∨ x.toInt = 7 ∨ x.toInt = 8 ∨ x.toInt = 9 ∨ x.toInt = 10 ∨ x.toInt = 11 := by omega
  rcases h with h | h | h | h | h | h | h | h | h | h | h | h
  · exact Or.inl (own_of h)
  · exact Or.inr (Or.inl (own_of h))
  · exact Or.inr (Or.inr (Or.inl (own_of h)))
  · exact Or.inr (Or.inr (Or.inr (Or.inl (own_of h))))
  · exact Or.inr (Or.inr (Or.inr (Or.inr (Or.inl (own_of h)))))
  · exact Or.inr (Or.inr (Or.inr (Or.inr (Or.inr (Or.inl (own_of h))))))
  · exact Or.inr (Or.inr (Or.inr (Or.inr (Or.inr (Or.inr (Or.inl (own_of h)))))))
  · exact Or.inr (Or.inr (Or.inr (Or.inr (Or.inr (Or.inr (Or.inr (Or.inl (own_of h))))))))
  · exact Or.inr (Or.inr (Or.inr (Or.inr (Or.inr (Or.inr (Or.inr (Or.inr (Or.inl (own_of h)))))))))
  · exact Or.inr (Or.inr (Or.inr (Or.inr (Or.inr (Or.inr (Or.inr (Or.inr (Or.inr (Or.inl (own_of h))))))))))
  · exact Or.inr (Or.inr (Or.inr (Or.inr (Or.inr (Or.inr (Or.inr (Or.inr (Or.inr (Or.inr (Or.inl (own_of h)))))))))))
  · exact Or.inr (Or.inr (Or.inr (Or.inr (Or.inr (Or.inr (Or.inr (Or.inr (Or.inr (Or.inr (Or.inr (own_of h)))))))))))
theorem own_rng {x : Int32} (h : x = (0 : Int32) ∨ x = (1 : Int32) ∨ x = (2 : Int32) ∨ x = (3 : Int32) ∨ x = (4 : Int32) ∨ x = (5 : Int32) ∨ x = (6 : Int32) ∨ x = (7 : Int32) ∨ x = (8 : Int32) ∨ x = (9 : Int32) ∨ x = (10 : Int32) ∨ x = (11 : Int32)) : ¬ x < 0 ∧ x < (12 : Int32) := by
  rcases h with rfl | rfl | rfl | rfl | rfl | rfl | rfl | rfl | rfl | rfl | rfl | rfl <;> decide
theorem own_pick {Z : State} {h : Heap} {cA cB : Cell} {w_BEGIN w_COMMIT w_ROLLBACK w_PREPARE_TRANSACTION w_SET w_CHANGES_NO_ROW w_DISCARD w_DEALLOCATE w_PREPARE w_COPY w_DEFINITION w_OTHER : Addr} (SA : cA.slots.size = (12 : Int32).toNatClampNeg) (HA : Has cA [(.ref w_BEGIN), (.ref w_COMMIT), (.ref w_ROLLBACK), (.ref w_PREPARE_TRANSACTION), (.ref w_SET), (.ref w_CHANGES_NO_ROW), (.ref w_DISCARD), (.ref w_DEALLOCATE), (.ref w_PREPARE), (.ref w_COPY), (.ref w_DEFINITION), (.ref w_OTHER)] .null) (SB : cB.slots.size = (12 : Int32).toNatClampNeg) (HB : Has cB [(.int (0 : Int32)), (.int (0 : Int32)), (.int (0 : Int32)), (.int (0 : Int32)), (.int (0 : Int32)), (.int (0 : Int32)), (.int (0 : Int32)), (.int (0 : Int32)), (.int (0 : Int32)), (.int (1 : Int32)), (.int (1 : Int32)), (.int (1 : Int32))] (.int (0 : Int32))) (E0 : Exa Z h w_BEGIN "com/example/certline/certline/capture/Script$Kind") (E1 : Exa Z h w_COMMIT "com/example/certline/certline/capture/Script$Kind") (E2 : Exa Z h w_ROLLBACK "com/example/certline/certline/capture/Script$Kind") (E3 : Exa Z h w_PREPARE_TRANSACTION "com/example/certline/certline/capture/Script$Kind") (E4 : Exa Z h w_SET "com/example/certline/certline/capture/Script$Kind") (E5 : Exa Z h w_CHANGES_NO_ROW "com/example/certline/certline/capture/Script$Kind") (E6 : Exa Z h w_DISCARD "com/example/certline/certline/capture/Script$Kind") (E7 : Exa Z h w_DEALLOCATE "com/example/certline/certline/capture/Script$Kind") (E8 : Exa Z h w_PREPARE "com/example/certline/certline/capture/Script$Kind") (E9 : Exa Z h w_COPY "com/example/certline/certline/capture/Script$Kind") (E10 : Exa Z h w_DEFINITION "com/example/certline/certline/capture/Script$Kind") (E11 : Exa Z h w_OTHER "com/example/certline/certline/capture/Script$Kind") (ne_BEGIN_COPY : w_BEGIN ≠ w_COPY) (ne_BEGIN_DEFINITION : w_BEGIN ≠ w_DEFINITION) (ne_BEGIN_OTHER : w_BEGIN ≠ w_OTHER) (ne_COMMIT_COPY : w_COMMIT ≠ w_COPY) (ne_COMMIT_DEFINITION : w_COMMIT ≠ w_DEFINITION) (ne_COMMIT_OTHER : w_COMMIT ≠ w_OTHER) (ne_ROLLBACK_COPY : w_ROLLBACK ≠ w_COPY) (ne_ROLLBACK_DEFINITION : w_ROLLBACK ≠ w_DEFINITION) (ne_ROLLBACK_OTHER : w_ROLLBACK ≠ w_OTHER) (ne_PREPARE_TRANSACTION_COPY : w_PREPARE_TRANSACTION ≠ w_COPY) (ne_PREPARE_TRANSACTION_DEFINITION : w_PREPARE_TRANSACTION ≠ w_DEFINITION) (ne_PREPARE_TRANSACTION_OTHER : w_PREPARE_TRANSACTION ≠ w_OTHER) (ne_SET_COPY : w_SET ≠ w_COPY) (ne_SET_DEFINITION : w_SET ≠ w_DEFINITION) (ne_SET_OTHER : w_SET ≠ w_OTHER) (ne_CHANGES_NO_ROW_COPY : w_CHANGES_NO_ROW ≠ w_COPY) (ne_CHANGES_NO_ROW_DEFINITION : w_CHANGES_NO_ROW ≠ w_DEFINITION) (ne_CHANGES_NO_ROW_OTHER : w_CHANGES_NO_ROW ≠ w_OTHER) (ne_DISCARD_COPY : w_DISCARD ≠ w_COPY) (ne_DISCARD_DEFINITION : w_DISCARD ≠ w_DEFINITION) (ne_DISCARD_OTHER : w_DISCARD ≠ w_OTHER) (ne_DEALLOCATE_COPY : w_DEALLOCATE ≠ w_COPY) (ne_DEALLOCATE_DEFINITION : w_DEALLOCATE ≠ w_DEFINITION) (ne_DEALLOCATE_OTHER : w_DEALLOCATE ≠ w_OTHER) (ne_PREPARE_COPY : w_PREPARE ≠ w_COPY) (ne_PREPARE_DEFINITION : w_PREPARE ≠ w_DEFINITION) (ne_PREPARE_OTHER : w_PREPARE ≠ w_OTHER) (ne_COPY_OTHER : w_COPY ≠ w_OTHER) (ne_DEFINITION_OTHER : w_DEFINITION ≠ w_OTHER) (ne_COPY_DEFINITION : w_COPY ≠ w_DEFINITION) (x : Int32) (hx : x = (0 : Int32) ∨ x = (1 : Int32) ∨ x = (2 : Int32) ∨ x = (3 : Int32) ∨ x = (4 : Int32) ∨ x = (5 : Int32) ∨ x = (6 : Int32) ∨ x = (7 : Int32) ∨ x = (8 : Int32) ∨ x = (9 : Int32) ∨ x = (10 : Int32) ∨ x = (11 : Int32)) : ∃ (kk : Addr) (vv : Int32), cA.slots[x.toNatClampNeg]? = some (.ref kk) ∧ cB.slots[x.toNatClampNeg]? = some (.int vv) ∧ Exa Z h kk "com/example/certline/certline/capture/Script$Kind" ∧ (if kk = w_OTHER then (1 : Int32) else (if kk = w_COPY then (1 : Int32) else (if kk = w_DEFINITION then (1 : Int32) else (0 : Int32)))) = vv := by
  rcases hx with rfl | rfl | rfl | rfl | rfl | rfl | rfl | rfl | rfl | rfl | rfl | rfl
  · exact ⟨w_BEGIN, 0, Has.at HA (inb_of SA ⟨by decide, by decide⟩) rfl, Has.at HB (inb_of SB ⟨by decide, by decide⟩) rfl, E0, (if_neg ne_BEGIN_OTHER).trans ((if_neg ne_BEGIN_COPY).trans (if_neg ne_BEGIN_DEFINITION))⟩
  · exact ⟨w_COMMIT, 0, Has.at HA (inb_of SA ⟨by decide, by decide⟩) rfl, Has.at HB (inb_of SB ⟨by decide, by decide⟩) rfl, E1, (if_neg ne_COMMIT_OTHER).trans ((if_neg ne_COMMIT_COPY).trans (if_neg ne_COMMIT_DEFINITION))⟩
  · exact ⟨w_ROLLBACK, 0, Has.at HA (inb_of SA ⟨by decide, by decide⟩) rfl, Has.at HB (inb_of SB ⟨by decide, by decide⟩) rfl, E2, (if_neg ne_ROLLBACK_OTHER).trans ((if_neg ne_ROLLBACK_COPY).trans (if_neg ne_ROLLBACK_DEFINITION))⟩
  · exact ⟨w_PREPARE_TRANSACTION, 0, Has.at HA (inb_of SA ⟨by decide, by decide⟩) rfl, Has.at HB (inb_of SB ⟨by decide, by decide⟩) rfl, E3, (if_neg ne_PREPARE_TRANSACTION_OTHER).trans ((if_neg ne_PREPARE_TRANSACTION_COPY).trans (if_neg ne_PREPARE_TRANSACTION_DEFINITION))⟩
  · exact ⟨w_SET, 0, Has.at HA (inb_of SA ⟨by decide, by decide⟩) rfl, Has.at HB (inb_of SB ⟨by decide, by decide⟩) rfl, E4, (if_neg ne_SET_OTHER).trans ((if_neg ne_SET_COPY).trans (if_neg ne_SET_DEFINITION))⟩
  · exact ⟨w_CHANGES_NO_ROW, 0, Has.at HA (inb_of SA ⟨by decide, by decide⟩) rfl, Has.at HB (inb_of SB ⟨by decide, by decide⟩) rfl, E5, (if_neg ne_CHANGES_NO_ROW_OTHER).trans ((if_neg ne_CHANGES_NO_ROW_COPY).trans (if_neg ne_CHANGES_NO_ROW_DEFINITION))⟩
  · exact ⟨w_DISCARD, 0, Has.at HA (inb_of SA ⟨by decide, by decide⟩) rfl, Has.at HB (inb_of SB ⟨by decide, by decide⟩) rfl, E6, (if_neg ne_DISCARD_OTHER).trans ((if_neg ne_DISCARD_COPY).trans (if_neg ne_DISCARD_DEFINITION))⟩
  · exact ⟨w_DEALLOCATE, 0, Has.at HA (inb_of SA ⟨by decide, by decide⟩) rfl, Has.at HB (inb_of SB ⟨by decide, by decide⟩) rfl, E7, (if_neg ne_DEALLOCATE_OTHER).trans ((if_neg ne_DEALLOCATE_COPY).trans (if_neg ne_DEALLOCATE_DEFINITION))⟩
  · exact ⟨w_PREPARE, 0, Has.at HA (inb_of SA ⟨by decide, by decide⟩) rfl, Has.at HB (inb_of SB ⟨by decide, by decide⟩) rfl, E8, (if_neg ne_PREPARE_OTHER).trans ((if_neg ne_PREPARE_COPY).trans (if_neg ne_PREPARE_DEFINITION))⟩
  · exact ⟨w_COPY, 1, Has.at HA (inb_of SA ⟨by decide, by decide⟩) rfl, Has.at HB (inb_of SB ⟨by decide, by decide⟩) rfl, E9, (if_neg ne_COPY_OTHER).trans (if_pos rfl)⟩
  · exact ⟨w_DEFINITION, 1, Has.at HA (inb_of SA ⟨by decide, by decide⟩) rfl, Has.at HB (inb_of SB ⟨by decide, by decide⟩) rfl, E10, (if_neg ne_DEFINITION_OTHER).trans ((if_neg ne_COPY_DEFINITION.symm).trans (if_pos rfl))⟩
  · exact ⟨w_OTHER, 1, Has.at HA (inb_of SA ⟨by decide, by decide⟩) rfl, Has.at HB (inb_of SB ⟨by decide, by decide⟩) rfl, E11, if_pos rfl⟩
theorem pn_com_example_certline_certline_capture_KindMayChangeRowsPinLaw : plainName "com/example/certline/certline/capture/KindMayChangeRowsPinLaw" = true := by first | (simp [plainName, overriddenIn]; done) | decide +kernel
theorem pd___Z : parseMethodDescriptor "()Z" = some ⟨[], some .boolean⟩ := by decide +kernel
theorem ef_0 (m : MethodId) (x0 : Int32) : entryFrame m #[(.int x0)] maxLocals = mkF m 0 #[iv x0, .unset, .unset, .unset] [] := by first | (simp [entryFrame, mkF, argsToLocals, Value.category, maxLocals]; done) | rfl
def Q0 (Z : State) (pi0 : Int32) (w_BEGIN : Addr) (w_COMMIT : Addr) (w_ROLLBACK : Addr) (w_PREPARE_TRANSACTION : Addr) (w_SET : Addr) (w_CHANGES_NO_ROW : Addr) (w_DISCARD : Addr) (w_DEALLOCATE : Addr) (w_PREPARE : Addr) (w_COPY : Addr) (w_DEFINITION : Addr) (w_OTHER : Addr) (h0 : Heap) (n0 : Nat) (v : Option Value) (h : Heap) (L : List Loc) : Prop := v = some (.int (1 : Int32)) ∧ Fr n0 L
set_option maxRecDepth 65536 in
set_option maxHeartbeats 40000000 in
theorem rm0 (l : Launch) (Z : State) (a0 : Array Value) (hw : ∀ d ∈ tables_1, d.before a0 Z = true) (ws : List Jvm.Cond) (pi0 : Int32) (w_BEGIN : Addr) (w_COMMIT : Addr) (w_ROLLBACK : Addr) (w_PREPARE_TRANSACTION : Addr) (w_SET : Addr) (w_CHANGES_NO_ROW : Addr) (w_DISCARD : Addr) (w_DEALLOCATE : Addr) (w_PREPARE : Addr) (w_COPY : Addr) (w_DEFINITION : Addr) (w_OTHER : Addr) (h0 : Heap) (n0 : Nat) (O0 : Old Z n0 h0) (S_BEGIN : Sta Z Z.heap "com/example/certline/certline/capture/Script$Kind" "BEGIN" "Lcom/example/certline/certline/capture/Script$Kind;" (.ref w_BEGIN)) (S_COMMIT : Sta Z Z.heap "com/example/certline/certline/capture/Script$Kind" "COMMIT" "Lcom/example/certline/certline/capture/Script$Kind;" (.ref w_COMMIT)) (S_ROLLBACK : Sta Z Z.heap "com/example/certline/certline/capture/Script$Kind" "ROLLBACK" "Lcom/example/certline/certline/capture/Script$Kind;" (.ref w_ROLLBACK)) (S_PREPARE_TRANSACTION : Sta Z Z.heap "com/example/certline/certline/capture/Script$Kind" "PREPARE_TRANSACTION" "Lcom/example/certline/certline/capture/Script$Kind;" (.ref w_PREPARE_TRANSACTION)) (S_SET : Sta Z Z.heap "com/example/certline/certline/capture/Script$Kind" "SET" "Lcom/example/certline/certline/capture/Script$Kind;" (.ref w_SET)) (S_CHANGES_NO_ROW : Sta Z Z.heap "com/example/certline/certline/capture/Script$Kind" "CHANGES_NO_ROW" "Lcom/example/certline/certline/capture/Script$Kind;" (.ref w_CHANGES_NO_ROW)) (S_DISCARD : Sta Z Z.heap "com/example/certline/certline/capture/Script$Kind" "DISCARD" "Lcom/example/certline/certline/capture/Script$Kind;" (.ref w_DISCARD)) (S_DEALLOCATE : Sta Z Z.heap "com/example/certline/certline/capture/Script$Kind" "DEALLOCATE" "Lcom/example/certline/certline/capture/Script$Kind;" (.ref w_DEALLOCATE)) (S_PREPARE : Sta Z Z.heap "com/example/certline/certline/capture/Script$Kind" "PREPARE" "Lcom/example/certline/certline/capture/Script$Kind;" (.ref w_PREPARE)) (S_COPY : Sta Z Z.heap "com/example/certline/certline/capture/Script$Kind" "COPY" "Lcom/example/certline/certline/capture/Script$Kind;" (.ref w_COPY)) (S_DEFINITION : Sta Z Z.heap "com/example/certline/certline/capture/Script$Kind" "DEFINITION" "Lcom/example/certline/certline/capture/Script$Kind;" (.ref w_DEFINITION)) (S_OTHER : Sta Z Z.heap "com/example/certline/certline/capture/Script$Kind" "OTHER" "Lcom/example/certline/certline/capture/Script$Kind;" (.ref w_OTHER)) (E_w_BEGIN : Exa Z Z.heap w_BEGIN "com/example/certline/certline/capture/Script$Kind") (E_w_COMMIT : Exa Z Z.heap w_COMMIT "com/example/certline/certline/capture/Script$Kind") (E_w_ROLLBACK : Exa Z Z.heap w_ROLLBACK "com/example/certline/certline/capture/Script$Kind") (E_w_PREPARE_TRANSACTION : Exa Z Z.heap w_PREPARE_TRANSACTION "com/example/certline/certline/capture/Script$Kind") (E_w_SET : Exa Z Z.heap w_SET "com/example/certline/certline/capture/Script$Kind") (E_w_CHANGES_NO_ROW : Exa Z Z.heap w_CHANGES_NO_ROW "com/example/certline/certline/capture/Script$Kind") (E_w_DISCARD : Exa Z Z.heap w_DISCARD "com/example/certline/certline/capture/Script$Kind") (E_w_DEALLOCATE : Exa Z Z.heap w_DEALLOCATE "com/example/certline/certline/capture/Script$Kind") (E_w_PREPARE : Exa Z Z.heap w_PREPARE "com/example/certline/certline/capture/Script$Kind") (E_w_COPY : Exa Z Z.heap w_COPY "com/example/certline/certline/capture/Script$Kind") (E_w_DEFINITION : Exa Z Z.heap w_DEFINITION "com/example/certline/certline/capture/Script$Kind") (E_w_OTHER : Exa Z Z.heap w_OTHER "com/example/certline/certline/capture/Script$Kind") (ne_BEGIN_COMMIT : w_BEGIN ≠ w_COMMIT) (ne_BEGIN_ROLLBACK : w_BEGIN ≠ w_ROLLBACK) (ne_BEGIN_PREPARE_TRANSACTION : w_BEGIN ≠ w_PREPARE_TRANSACTION) (ne_BEGIN_SET : w_BEGIN ≠ w_SET) (ne_BEGIN_CHANGES_NO_ROW : w_BEGIN ≠ w_CHANGES_NO_ROW) (ne_BEGIN_DISCARD : w_BEGIN ≠ w_DISCARD) (ne_BEGIN_DEALLOCATE : w_BEGIN ≠ w_DEALLOCATE) (ne_BEGIN_PREPARE : w_BEGIN ≠ w_PREPARE) (ne_BEGIN_COPY : w_BEGIN ≠ w_COPY) (ne_BEGIN_DEFINITION : w_BEGIN ≠ w_DEFINITION) (ne_BEGIN_OTHER : w_BEGIN ≠ w_OTHER) (ne_COMMIT_ROLLBACK : w_COMMIT ≠ w_ROLLBACK) (ne_COMMIT_PREPARE_TRANSACTION : w_COMMIT ≠ w_PREPARE_TRANSACTION) (ne_COMMIT_SET : w_COMMIT ≠ w_SET) (ne_COMMIT_CHANGES_NO_ROW : w_COMMIT ≠ w_CHANGES_NO_ROW) (ne_COMMIT_DISCARD : w_COMMIT ≠ w_DISCARD) (ne_COMMIT_DEALLOCATE : w_COMMIT ≠ w_DEALLOCATE) (ne_COMMIT_PREPARE : w_COMMIT ≠ w_PREPARE) (ne_COMMIT_COPY : w_COMMIT ≠ w_COPY) (ne_COMMIT_DEFINITION : w_COMMIT ≠ w_DEFINITION) (ne_COMMIT_OTHER : w_COMMIT ≠ w_OTHER) (ne_ROLLBACK_PREPARE_TRANSACTION : w_ROLLBACK ≠ w_PREPARE_TRANSACTION) (ne_ROLLBACK_SET : w_ROLLBACK ≠ w_SET) (ne_ROLLBACK_CHANGES_NO_ROW : w_ROLLBACK ≠ w_CHANGES_NO_ROW) (ne_ROLLBACK_DISCARD : w_ROLLBACK ≠ w_DISCARD) (ne_ROLLBACK_DEALLOCATE : w_ROLLBACK ≠ w_DEALLOCATE) (ne_ROLLBACK_PREPARE : w_ROLLBACK ≠ w_PREPARE) (ne_ROLLBACK_COPY : w_ROLLBACK ≠ w_COPY) (ne_ROLLBACK_DEFINITION : w_ROLLBACK ≠ w_DEFINITION) (ne_ROLLBACK_OTHER : w_ROLLBACK ≠ w_OTHER) (ne_PREPARE_TRANSACTION_SET : w_PREPARE_TRANSACTION ≠ w_SET) (ne_PREPARE_TRANSACTION_CHANGES_NO_ROW : w_PREPARE_TRANSACTION ≠ w_CHANGES_NO_ROW) (ne_PREPARE_TRANSACTION_DISCARD : w_PREPARE_TRANSACTION ≠ w_DISCARD) (ne_PREPARE_TRANSACTION_DEALLOCATE : w_PREPARE_TRANSACTION ≠ w_DEALLOCATE) (ne_PREPARE_TRANSACTION_PREPARE : w_PREPARE_TRANSACTION ≠ w_PREPARE) (ne_PREPARE_TRANSACTION_COPY : w_PREPARE_TRANSACTION ≠ w_COPY) (ne_PREPARE_TRANSACTION_DEFINITION : w_PREPARE_TRANSACTION ≠ w_DEFINITION) (ne_PREPARE_TRANSACTION_OTHER : w_PREPARE_TRANSACTION ≠ w_OTHER) (ne_SET_CHANGES_NO_ROW : w_SET ≠ w_CHANGES_NO_ROW) (ne_SET_DISCARD : w_SET ≠ w_DISCARD) (ne_SET_DEALLOCATE : w_SET ≠ w_DEALLOCATE) (ne_SET_PREPARE : w_SET ≠ w_PREPARE) (ne_SET_COPY : w_SET ≠ w_COPY) (ne_SET_DEFINITION : w_SET ≠ w_DEFINITION) (ne_SET_OTHER : w_SET ≠ w_OTHER) (ne_CHANGES_NO_ROW_DISCARD : w_CHANGES_NO_ROW ≠ w_DISCARD) (ne_CHANGES_NO_ROW_DEALLOCATE : w_CHANGES_NO_ROW ≠ w_DEALLOCATE) (ne_CHANGES_NO_ROW_PREPARE : w_CHANGES_NO_ROW ≠ w_PREPARE) (ne_CHANGES_NO_ROW_COPY : w_CHANGES_NO_ROW ≠ w_COPY) (ne_CHANGES_NO_ROW_DEFINITION : w_CHANGES_NO_ROW ≠ w_DEFINITION) (ne_CHANGES_NO_ROW_OTHER : w_CHANGES_NO_ROW ≠ w_OTHER) (ne_DISCARD_DEALLOCATE : w_DISCARD ≠ w_DEALLOCATE) (ne_DISCARD_PREPARE : w_DISCARD ≠ w_PREPARE) (ne_DISCARD_COPY : w_DISCARD ≠ w_COPY) (ne_DISCARD_DEFINITION : w_DISCARD ≠ w_DEFINITION) (ne_DISCARD_OTHER : w_DISCARD ≠ w_OTHER) (ne_DEALLOCATE_PREPARE : w_DEALLOCATE ≠ w_PREPARE) (ne_DEALLOCATE_COPY : w_DEALLOCATE ≠ w_COPY) (ne_DEALLOCATE_DEFINITION : w_DEALLOCATE ≠ w_DEFINITION) (ne_DEALLOCATE_OTHER : w_DEALLOCATE ≠ w_OTHER) (ne_PREPARE_COPY : w_PREPARE ≠ w_COPY) (ne_PREPARE_DEFINITION : w_PREPARE ≠ w_DEFINITION) (ne_PREPARE_OTHER : w_PREPARE ≠ w_OTHER) (ne_COPY_DEFINITION : w_COPY ≠ w_DEFINITION) (ne_COPY_OTHER : w_COPY ≠ w_OTHER) (ne_DEFINITION_OTHER : w_DEFINITION ≠ w_OTHER) :
    MetFree l x (head1 (Jvm.Cond.code x code maxLocals ret :: ws) room_1) (fun a U => a = #[(.int pi0)] ∧ Z.Warmed39 U.vm ∧ U.heap = h0) (fun _ _ _ _ _ => True) (fun _ U o U' => ∃ v L, o = .returned v ∧ Q0 Z pi0 w_BEGIN w_COMMIT w_ROLLBACK w_PREPARE_TRANSACTION w_SET w_CHANGES_NO_ROW w_DISCARD w_DEALLOCATE w_PREPARE w_COPY w_DEFINITION w_OTHER h0 n0 v U'.heap L ∧ FrameEnd U o U' L room_1.cells room_1.slots) := by
  refine MetFree.of_bodySF (plainFor_of_name pn_com_example_certline_certline_capture_KindMayChangeRowsPinLaw) hisR ?_
  intro p e s m args below meth c s₁ Bd hml0 hP hK
  obtain ⟨rfl, hZ, hh⟩ := hP
  have hx := Bd.exec
  have hby := Bd.bytes
  have hml : c.maxLocals = 4 := hml0
  have hown : s.vm.findClass "com/example/certline/certline/capture/KindMayChangeRowsPinLaw" = some m.cls := findClass_of_methodNamed Bd.named
  have hnm := (name_of_methodNamed Bd.named Bd.method).1
  have X0 : Stand p l e room_1 s m #[(.int pi0)] below meth c s₁ [] 0 0 := Stand.of_body Bd
  have e0 : s₁.heap = h0 := by rw [← hh, Bd.state]; rfl
  have N0 := Fr.nil n0
  obtain ⟨Go, hGo⟩ : ∃ P : State → Prop, ∀ t, P t ↔ Steps p.tables e below (s₁.setTop (entryFrame m #[(.int pi0)] maxLocals)) t := ⟨_, fun _ => Iff.rfl⟩
  have pre0 : ∀ t, Steps p.tables e below (s₁.setTop (mkF m 0 #[iv pi0, .unset, .unset, .unset] [])) t → Go t := fun t k => (hGo t).mpr (castTop (ef_0 m pi0) k)
  have pre1 : ∀ t, Steps p.tables e below (s₁.setTop (mkF m 2 #[iv pi0, .unset, .unset, .unset] [(.int (12 : Int32))])) t → Go t := fun t kt => pre0 t (by
      refine y_bipush X0.here hx (hb hby at_0) (v := (12 : Int32)) rfl (pc' := 2) rfl ?_
      exact kt)
  obtain ⟨T2, h2, k2, X2, e2, E2, A2, V2, st2⟩ := newR X0 hx hZ hown (hw _ (List.mem_of_getElem? (i := 0) rfl)) (hw _ (List.mem_of_getElem? (i := 1) rfl)) e0 (g := (mkF m 2 #[iv pi0, .unset, .unset, .unset] [(.int (12 : Int32))])) rfl (hb hby at_2) rfl (by decide) (cap := 12) (by decide) (by decide) (by decide) (by decide)
  obtain ⟨b2, g2⟩ : ∃ z, z = h0.size := ⟨_, rfl⟩
  rw [← g2] at A2 st2
  have pre3 : ∀ t, Steps p.tables e below (T2.setTop (mkF m 5 #[iv pi0, .unset, .unset, .unset] [(.ref b2)])) t → Go t := fun t kt => pre1 t (st2 t kt)
  have G4 : n0 ≤ b2 := Nat.le_trans (O0.1 ▸ O0.2.1) (Nat.le_of_eq g2.symm)
  have O4 := O0.ext E2
  have f5 : Arv Z h2 b2 k2 (.object "com/example/certline/certline/capture/Script$Kind") (12 : Int32) [.null, .null, .null, .null, .null, .null, .null, .null, .null, .null, .null, .null] .null := (Arv.new A2 (by decide)).pad (pad_rep [] .null 12)
  have pre6 : ∀ t, Steps p.tables e below (T2.setTop (mkF m 7 #[iv pi0, .unset, .unset, .unset] [(.int (0 : Int32)), (.ref b2), (.ref b2)])) t → Go t := fun t kt => pre3 t (by
      refine y_dup X2.here hx (hb hby at_5) rfl (pc' := 6) rfl ?_
      refine y_iconst X2.here hx (hb hby at_6) (v := (0 : Int32)) rfl (pc' := 7) rfl ?_
      exact kt)
  obtain ⟨T7, X7, e7, st7⟩ := getS2 X2 hx hZ hown (host := "") (Or.inl (hw _ (List.mem_of_getElem? (i := 2) rfl))) Via.refl e2 (S_BEGIN.ext O4.2) (g := (mkF m 7 #[iv pi0, .unset, .unset, .unset] [(.int (0 : Int32)), (.ref b2), (.ref b2)])) rfl (hb hby at_7)
  have pre8 : ∀ t, Steps p.tables e below (T7.setTop (mkF m 10 #[iv pi0, .unset, .unset, .unset] [(.ref w_BEGIN), (.int (0 : Int32)), (.ref b2), (.ref b2)])) t → Go t := fun t kt => pre6 t (st7 t kt)
  obtain ⟨c9, Ar9, q9, S9, M9, H9, G9⟩ := id f5
  have hin9 : ¬ ((0 : Int32) < 0 ∨ c9.slots.size ≤ ((0 : Int32)).toNatClampNeg) := inb_of S9 ⟨by decide, by decide⟩
  obtain ⟨T10, h10, X10, e10, W10, st10⟩ := stR X7 hx hZ e7 Ar9 (j := (0 : Int32)) hin9 rfl (Sto.ofV Ar9 q9 V2 (Ins.self (E_w_BEGIN.ext O4.2))) (g := (mkF m 10 #[iv pi0, .unset, .unset, .unset] [(.ref w_BEGIN), (.int (0 : Int32)), (.ref b2), (.ref b2)])) rfl rfl (hb hby at_10)
  have pre11 : ∀ t, Steps p.tables e below (T10.setTop (mkF m 11 #[iv pi0, .unset, .unset, .unset] [(.ref b2)])) t → Go t := fun t kt => pre8 t (st10 t kt)
  have N13 := Fr.snoc X10 N0 G4
  have O13 := O4.wr W10 G4
  have f14 : Arv Z h10 b2 k2 (.object "com/example/certline/certline/capture/Script$Kind") (12 : Int32) [(.ref w_BEGIN), .null, .null, .null, .null, .null, .null, .null, .null, .null, .null, .null] .null := Arv.set Ar9 q9 S9 M9 H9 G9 rfl W10 0 rfl (Nat.le_of_ble_eq_true rfl)
  have pre15 : ∀ t, Steps p.tables e below (T10.setTop (mkF m 13 #[iv pi0, .unset, .unset, .unset] [(.int (1 : Int32)), (.ref b2), (.ref b2)])) t → Go t := fun t kt => pre11 t (by
      refine y_dup X10.here hx (hb hby at_11) rfl (pc' := 12) rfl ?_
      refine y_iconst X10.here hx (hb hby at_12) (v := (1 : Int32)) rfl (pc' := 13) rfl ?_
      exact kt)
  obtain ⟨T16, X16, e16, st16⟩ := getS2 X10 hx hZ hown (host := "") (Or.inl (hw _ (List.mem_of_getElem? (i := 6) rfl))) Via.refl e10 (S_COMMIT.ext O13.2) (g := (mkF m 13 #[iv pi0, .unset, .unset, .unset] [(.int (1 : Int32)), (.ref b2), (.ref b2)])) rfl (hb hby at_13)
  have pre17 : ∀ t, Steps p.tables e below (T16.setTop (mkF m 16 #[iv pi0, .unset, .unset, .unset] [(.ref w_COMMIT), (.int (1 : Int32)), (.ref b2), (.ref b2)])) t → Go t := fun t kt => pre15 t (st16 t kt)
  obtain ⟨c18, Ar18, q18, S18, M18, H18, G18⟩ := id f14
  have hin18 : ¬ ((1 : Int32) < 0 ∨ c18.slots.size ≤ ((1 : Int32)).toNatClampNeg) := inb_of S18 ⟨by decide, by decide⟩
  obtain ⟨T19, h19, X19, e19, W19, st19⟩ := stR X16 hx hZ e16 Ar18 (j := (1 : Int32)) hin18 rfl (Sto.ofV Ar18 q18 V2 (Ins.self (E_w_COMMIT.ext O13.2))) (g := (mkF m 16 #[iv pi0, .unset, .unset, .unset] [(.ref w_COMMIT), (.int (1 : Int32)), (.ref b2), (.ref b2)])) rfl rfl (hb hby at_16)
  have pre20 : ∀ t, Steps p.tables e below (T19.setTop (mkF m 17 #[iv pi0, .unset, .unset, .unset] [(.ref b2)])) t → Go t := fun t kt => pre17 t (st19 t kt)
  have N22 := Fr.snoc X19 N13 G4
  have O22 := O13.wr W19 G4
  have f23 : Arv Z h19 b2 k2 (.object "com/example/certline/certline/capture/Script$Kind") (12 : Int32) [(.ref w_BEGIN), (.ref w_COMMIT), .null, .null, .null, .null, .null, .null, .null, .null, .null, .null] .null := Arv.set Ar18 q18 S18 M18 H18 G18 rfl W19 1 rfl (Nat.le_of_ble_eq_true rfl)
  have pre24 : ∀ t, Steps p.tables e below (T19.setTop (mkF m 19 #[iv pi0, .unset, .unset, .unset] [(.int (2 : Int32)), (.ref b2), (.ref b2)])) t → Go t := fun t kt => pre20 t (by
      refine y_dup X19.here hx (hb hby at_17) rfl (pc' := 18) rfl ?_
      refine y_iconst X19.here hx (hb hby at_18) (v := (2 : Int32)) rfl (pc' := 19) rfl ?_
      exact kt)
  obtain ⟨T25, X25, e25, st25⟩ := getS2 X19 hx hZ hown (host := "") (Or.inl (hw _ (List.mem_of_getElem? (i := 8) rfl))) Via.refl e19 (S_ROLLBACK.ext O22.2) (g := (mkF m 19 #[iv pi0, .unset, .unset, .unset] [(.int (2 : Int32)), (.ref b2), (.ref b2)])) rfl (hb hby at_19)
  have pre26 : ∀ t, Steps p.tables e below (T25.setTop (mkF m 22 #[iv pi0, .unset, .unset, .unset] [(.ref w_ROLLBACK), (.int (2 : Int32)), (.ref b2), (.ref b2)])) t → Go t := fun t kt => pre24 t (st25 t kt)
  obtain ⟨c27, Ar27, q27, S27, M27, H27, G27⟩ := id f23
  have hin27 : ¬ ((2 : Int32) < 0 ∨ c27.slots.size ≤ ((2 : Int32)).toNatClampNeg) := inb_of S27 ⟨by decide, by decide⟩
  obtain ⟨T28, h28, X28, e28, W28, st28⟩ := stR X25 hx hZ e25 Ar27 (j := (2 : Int32)) hin27 rfl (Sto.ofV Ar27 q27 V2 (Ins.self (E_w_ROLLBACK.ext O22.2))) (g := (mkF m 22 #[iv pi0, .unset, .unset, .unset] [(.ref w_ROLLBACK), (.int (2 : Int32)), (.ref b2), (.ref b2)])) rfl rfl (hb hby at_22)
  have pre29 : ∀ t, Steps p.tables e below (T28.setTop (mkF m 23 #[iv pi0, .unset, .unset, .unset] [(.ref b2)])) t → Go t := fun t kt => pre26 t (st28 t kt)
  have N31 := Fr.snoc X28 N22 G4
  have O31 := O22.wr W28 G4
  have f32 : Arv Z h28 b2 k2 (.object "com/example/certline/certline/capture/Script$Kind") (12 : Int32) [(.ref w_BEGIN), (.ref w_COMMIT), (.ref w_ROLLBACK), .null, .null, .null, .null, .null, .null, .null, .null, .null] .null := Arv.set Ar27 q27 S27 M27 H27 G27 rfl W28 2 rfl (Nat.le_of_ble_eq_true rfl)
  have pre33 : ∀ t, Steps p.tables e below (T28.setTop (mkF m 25 #[iv pi0, .unset, .unset, .unset] [(.int (3 : Int32)), (.ref b2), (.ref b2)])) t → Go t := fun t kt => pre29 t (by
      refine y_dup X28.here hx (hb hby at_23) rfl (pc' := 24) rfl ?_
      refine y_iconst X28.here hx (hb hby at_24) (v := (3 : Int32)) rfl (pc' := 25) rfl ?_
      exact kt)
  obtain ⟨T34, X34, e34, st34⟩ := getS2 X28 hx hZ hown (host := "") (Or.inl (hw _ (List.mem_of_getElem? (i := 10) rfl))) Via.refl e28 (S_PREPARE_TRANSACTION.ext O31.2) (g := (mkF m 25 #[iv pi0, .unset, .unset, .unset] [(.int (3 : Int32)), (.ref b2), (.ref b2)])) rfl (hb hby at_25)
  have pre35 : ∀ t, Steps p.tables e below (T34.setTop (mkF m 28 #[iv pi0, .unset, .unset, .unset] [(.ref w_PREPARE_TRANSACTION), (.int (3 : Int32)), (.ref b2), (.ref b2)])) t → Go t := fun t kt => pre33 t (st34 t kt)
  obtain ⟨c36, Ar36, q36, S36, M36, H36, G36⟩ := id f32
  have hin36 : ¬ ((3 : Int32) < 0 ∨ c36.slots.size ≤ ((3 : Int32)).toNatClampNeg) := inb_of S36 ⟨by decide, by decide⟩
  obtain ⟨T37, h37, X37, e37, W37, st37⟩ := stR X34 hx hZ e34 Ar36 (j := (3 : Int32)) hin36 rfl (Sto.ofV Ar36 q36 V2 (Ins.self (E_w_PREPARE_TRANSACTION.ext O31.2))) (g := (mkF m 28 #[iv pi0, .unset, .unset, .unset] [(.ref w_PREPARE_TRANSACTION), (.int (3 : Int32)), (.ref b2), (.ref b2)])) rfl rfl (hb hby at_28)
  have pre38 : ∀ t, Steps p.tables e below (T37.setTop (mkF m 29 #[iv pi0, .unset, .unset, .unset] [(.ref b2)])) t → Go t := fun t kt => pre35 t (st37 t kt)
  have N40 := Fr.snoc X37 N31 G4
  have O40 := O31.wr W37 G4
  have f41 : Arv Z h37 b2 k2 (.object "com/example/certline/certline/capture/Script$Kind") (12 : Int32) [(.ref w_BEGIN), (.ref w_COMMIT), (.ref w_ROLLBACK), (.ref w_PREPARE_TRANSACTION), .null, .null, .null, .null, .null, .null, .null, .null] .null := Arv.set Ar36 q36 S36 M36 H36 G36 rfl W37 3 rfl (Nat.le_of_ble_eq_true rfl)
  have pre42 : ∀ t, Steps p.tables e below (T37.setTop (mkF m 31 #[iv pi0, .unset, .unset, .unset] [(.int (4 : Int32)), (.ref b2), (.ref b2)])) t → Go t := fun t kt => pre38 t (by
      refine y_dup X37.here hx (hb hby at_29) rfl (pc' := 30) rfl ?_
      refine y_iconst X37.here hx (hb hby at_30) (v := (4 : Int32)) rfl (pc' := 31) rfl ?_
      exact kt)
  obtain ⟨T43, X43, e43, st43⟩ := getS2 X37 hx hZ hown (host := "") (Or.inl (hw _ (List.mem_of_getElem? (i := 12) rfl))) Via.refl e37 (S_SET.ext O40.2) (g := (mkF m 31 #[iv pi0, .unset, .unset, .unset] [(.int (4 : Int32)), (.ref b2), (.ref b2)])) rfl (hb hby at_31)
  have pre44 : ∀ t, Steps p.tables e below (T43.setTop (mkF m 34 #[iv pi0, .unset, .unset, .unset] [(.ref w_SET), (.int (4 : Int32)), (.ref b2), (.ref b2)])) t → Go t := fun t kt => pre42 t (st43 t kt)
  obtain ⟨c45, Ar45, q45, S45, M45, H45, G45⟩ := id f41
  have hin45 : ¬ ((4 : Int32) < 0 ∨ c45.slots.size ≤ ((4 : Int32)).toNatClampNeg) := inb_of S45 ⟨by decide, by decide⟩
  obtain ⟨T46, h46, X46, e46, W46, st46⟩ := stR X43 hx hZ e43 Ar45 (j := (4 : Int32)) hin45 rfl (Sto.ofV Ar45 q45 V2 (Ins.self (E_w_SET.ext O40.2))) (g := (mkF m 34 #[iv pi0, .unset, .unset, .unset] [(.ref w_SET), (.int (4 : Int32)), (.ref b2), (.ref b2)])) rfl rfl (hb hby at_34)
  have pre47 : ∀ t, Steps p.tables e below (T46.setTop (mkF m 35 #[iv pi0, .unset, .unset, .unset] [(.ref b2)])) t → Go t := fun t kt => pre44 t (st46 t kt)
  have N49 := Fr.snoc X46 N40 G4
  have O49 := O40.wr W46 G4
  have f50 : Arv Z h46 b2 k2 (.object "com/example/certline/certline/capture/Script$Kind") (12 : Int32) [(.ref w_BEGIN), (.ref w_COMMIT), (.ref w_ROLLBACK), (.ref w_PREPARE_TRANSACTION), (.ref w_SET), .null, .null, .null, .null, .null, .null, .null] .null := Arv.set Ar45 q45 S45 M45 H45 G45 rfl W46 4 rfl (Nat.le_of_ble_eq_true rfl)
  have pre51 : ∀ t, Steps p.tables e below (T46.setTop (mkF m 37 #[iv pi0, .unset, .unset, .unset] [(.int (5 : Int32)), (.ref b2), (.ref b2)])) t → Go t := fun t kt => pre47 t (by
      refine y_dup X46.here hx (hb hby at_35) rfl (pc' := 36) rfl ?_
      refine y_iconst X46.here hx (hb hby at_36) (v := (5 : Int32)) rfl (pc' := 37) rfl ?_
      exact kt)
  obtain ⟨T52, X52, e52, st52⟩ := getS2 X46 hx hZ hown (host := "") (Or.inl (hw _ (List.mem_of_getElem? (i := 14) rfl))) Via.refl e46 (S_CHANGES_NO_ROW.ext O49.2) (g := (mkF m 37 #[iv pi0, .unset, .unset, .unset] [(.int (5 : Int32)), (.ref b2), (.ref b2)])) rfl (hb hby at_37)
  have pre53 : ∀ t, Steps p.tables e below (T52.setTop (mkF m 40 #[iv pi0, .unset, .unset, .unset] [(.ref w_CHANGES_NO_ROW), (.int (5 : Int32)), (.ref b2), (.ref b2)])) t → Go t := fun t kt => pre51 t (st52 t kt)
  obtain ⟨c54, Ar54, q54, S54, M54, H54, G54⟩ := id f50
  have hin54 : ¬ ((5 : Int32) < 0 ∨ c54.slots.size ≤ ((5 : Int32)).toNatClampNeg) := inb_of S54 ⟨by decide, by decide⟩
  obtain ⟨T55, h55, X55, e55, W55, st55⟩ := stR X52 hx hZ e52 Ar54 (j := (5 : Int32)) hin54 rfl (Sto.ofV Ar54 q54 V2 (Ins.self (E_w_CHANGES_NO_ROW.ext O49.2))) (g := (mkF m 40 #[iv pi0, .unset, .unset, .unset] [(.ref w_CHANGES_NO_ROW), (.int (5 : Int32)), (.ref b2), (.ref b2)])) rfl rfl (hb hby at_40)
  have pre56 : ∀ t, Steps p.tables e below (T55.setTop (mkF m 41 #[iv pi0, .unset, .unset, .unset] [(.ref b2)])) t → Go t := fun t kt => pre53 t (st55 t kt)
  have N58 := Fr.snoc X55 N49 G4
  have O58 := O49.wr W55 G4
  have f59 : Arv Z h55 b2 k2 (.object "com/example/certline/certline/capture/Script$Kind") (12 : Int32) [(.ref w_BEGIN), (.ref w_COMMIT), (.ref w_ROLLBACK), (.ref w_PREPARE_TRANSACTION), (.ref w_SET), (.ref w_CHANGES_NO_ROW), .null, .null, .null, .null, .null, .null] .null := Arv.set Ar54 q54 S54 M54 H54 G54 rfl W55 5 rfl (Nat.le_of_ble_eq_true rfl)
  have pre60 : ∀ t, Steps p.tables e below (T55.setTop (mkF m 44 #[iv pi0, .unset, .unset, .unset] [(.int (6 : Int32)), (.ref b2), (.ref b2)])) t → Go t := fun t kt => pre56 t (by
      refine y_dup X55.here hx (hb hby at_41) rfl (pc' := 42) rfl ?_
      refine y_bipush X55.here hx (hb hby at_42) (v := (6 : Int32)) rfl (pc' := 44) rfl ?_
      exact kt)
  obtain ⟨T61, X61, e61, st61⟩ := getS2 X55 hx hZ hown (host := "") (Or.inl (hw _ (List.mem_of_getElem? (i := 16) rfl))) Via.refl e55 (S_DISCARD.ext O58.2) (g := (mkF m 44 #[iv pi0, .unset, .unset, .unset] [(.int (6 : Int32)), (.ref b2), (.ref b2)])) rfl (hb hby at_44)
  have pre62 : ∀ t, Steps p.tables e below (T61.setTop (mkF m 47 #[iv pi0, .unset, .unset, .unset] [(.ref w_DISCARD), (.int (6 : Int32)), (.ref b2), (.ref b2)])) t → Go t := fun t kt => pre60 t (st61 t kt)
  obtain ⟨c63, Ar63, q63, S63, M63, H63, G63⟩ := id f59
  have hin63 : ¬ ((6 : Int32) < 0 ∨ c63.slots.size ≤ ((6 : Int32)).toNatClampNeg) := inb_of S63 ⟨by decide, by decide⟩
  obtain ⟨T64, h64, X64, e64, W64, st64⟩ := stR X61 hx hZ e61 Ar63 (j := (6 : Int32)) hin63 rfl (Sto.ofV Ar63 q63 V2 (Ins.self (E_w_DISCARD.ext O58.2))) (g := (mkF m 47 #[iv pi0, .unset, .unset, .unset] [(.ref w_DISCARD), (.int (6 : Int32)), (.ref b2), (.ref b2)])) rfl rfl (hb hby at_47)
  have pre65 : ∀ t, Steps p.tables e below (T64.setTop (mkF m 48 #[iv pi0, .unset, .unset, .unset] [(.ref b2)])) t → Go t := fun t kt => pre62 t (st64 t kt)
  have N67 := Fr.snoc X64 N58 G4
  have O67 := O58.wr W64 G4
  have f68 : Arv Z h64 b2 k2 (.object "com/example/certline/certline/capture/Script$Kind") (12 : Int32) [(.ref w_BEGIN), (.ref w_COMMIT), (.ref w_ROLLBACK), (.ref w_PREPARE_TRANSACTION), (.ref w_SET), (.ref w_CHANGES_NO_ROW), (.ref w_DISCARD), .null, .null, .null, .null, .null] .null := Arv.set Ar63 q63 S63 M63 H63 G63 rfl W64 6 rfl (Nat.le_of_ble_eq_true rfl)
  have pre69 : ∀ t, Steps p.tables e below (T64.setTop (mkF m 51 #[iv pi0, .unset, .unset, .unset] [(.int (7 : Int32)), (.ref b2), (.ref b2)])) t → Go t := fun t kt => pre65 t (by
      refine y_dup X64.here hx (hb hby at_48) rfl (pc' := 49) rfl ?_
      refine y_bipush X64.here hx (hb hby at_49) (v := (7 : Int32)) rfl (pc' := 51) rfl ?_
      exact kt)
  obtain ⟨T70, X70, e70, st70⟩ := getS2 X64 hx hZ hown (host := "") (Or.inl (hw _ (List.mem_of_getElem? (i := 18) rfl))) Via.refl e64 (S_DEALLOCATE.ext O67.2) (g := (mkF m 51 #[iv pi0, .unset, .unset, .unset] [(.int (7 : Int32)), (.ref b2), (.ref b2)])) rfl (hb hby at_51)
  have pre71 : ∀ t, Steps p.tables e below (T70.setTop (mkF m 54 #[iv pi0, .unset, .unset, .unset] [(.ref w_DEALLOCATE), (.int (7 : Int32)), (.ref b2), (.ref b2)])) t → Go t := fun t kt => pre69 t (st70 t kt)
  obtain ⟨c72, Ar72, q72, S72, M72, H72, G72⟩ := id f68
  have hin72 : ¬ ((7 : Int32) < 0 ∨ c72.slots.size ≤ ((7 : Int32)).toNatClampNeg) := inb_of S72 ⟨by decide, by decide⟩
  obtain ⟨T73, h73, X73, e73, W73, st73⟩ := stR X70 hx hZ e70 Ar72 (j := (7 : Int32)) hin72 rfl (Sto.ofV Ar72 q72 V2 (Ins.self (E_w_DEALLOCATE.ext O67.2))) (g := (mkF m 54 #[iv pi0, .unset, .unset, .unset] [(.ref w_DEALLOCATE), (.int (7 : Int32)), (.ref b2), (.ref b2)])) rfl rfl (hb hby at_54)
  have pre74 : ∀ t, Steps p.tables e below (T73.setTop (mkF m 55 #[iv pi0, .unset, .unset, .unset] [(.ref b2)])) t → Go t := fun t kt => pre71 t (st73 t kt)
  have N76 := Fr.snoc X73 N67 G4
  have O76 := O67.wr W73 G4
  have f77 : Arv Z h73 b2 k2 (.object "com/example/certline/certline/capture/Script$Kind") (12 : Int32) [(.ref w_BEGIN), (.ref w_COMMIT), (.ref w_ROLLBACK), (.ref w_PREPARE_TRANSACTION), (.ref w_SET), (.ref w_CHANGES_NO_ROW), (.ref w_DISCARD), (.ref w_DEALLOCATE), .null, .null, .null, .null] .null := Arv.set Ar72 q72 S72 M72 H72 G72 rfl W73 7 rfl (Nat.le_of_ble_eq_true rfl)
  have pre78 : ∀ t, Steps p.tables e below (T73.setTop (mkF m 58 #[iv pi0, .unset, .unset, .unset] [(.int (8 : Int32)), (.ref b2), (.ref b2)])) t → Go t := fun t kt => pre74 t (by
      refine y_dup X73.here hx (hb hby at_55) rfl (pc' := 56) rfl ?_
      refine y_bipush X73.here hx (hb hby at_56) (v := (8 : Int32)) rfl (pc' := 58) rfl ?_
      exact kt)
  obtain ⟨T79, X79, e79, st79⟩ := getS2 X73 hx hZ hown (host := "") (Or.inl (hw _ (List.mem_of_getElem? (i := 20) rfl))) Via.refl e73 (S_PREPARE.ext O76.2) (g := (mkF m 58 #[iv pi0, .unset, .unset, .unset] [(.int (8 : Int32)), (.ref b2), (.ref b2)])) rfl (hb hby at_58)
  have pre80 : ∀ t, Steps p.tables e below (T79.setTop (mkF m 61 #[iv pi0, .unset, .unset, .unset] [(.ref w_PREPARE), (.int (8 : Int32)), (.ref b2), (.ref b2)])) t → Go t := fun t kt => pre78 t (st79 t kt)
  obtain ⟨c81, Ar81, q81, S81, M81, H81, G81⟩ := id f77
  have hin81 : ¬ ((8 : Int32) < 0 ∨ c81.slots.size ≤ ((8 : Int32)).toNatClampNeg) := inb_of S81 ⟨by decide, by decide⟩
  obtain ⟨T82, h82, X82, e82, W82, st82⟩ := stR X79 hx hZ e79 Ar81 (j := (8 : Int32)) hin81 rfl (Sto.ofV Ar81 q81 V2 (Ins.self (E_w_PREPARE.ext O76.2))) (g := (mkF m 61 #[iv pi0, .unset, .unset, .unset] [(.ref w_PREPARE), (.int (8 : Int32)), (.ref b2), (.ref b2)])) rfl rfl (hb hby at_61)
  have pre83 : ∀ t, Steps p.tables e below (T82.setTop (mkF m 62 #[iv pi0, .unset, .unset, .unset] [(.ref b2)])) t → Go t := fun t kt => pre80 t (st82 t kt)
  have N85 := Fr.snoc X82 N76 G4
  have O85 := O76.wr W82 G4
  have f86 : Arv Z h82 b2 k2 (.object "com/example/certline/certline/capture/Script$Kind") (12 : Int32) [(.ref w_BEGIN), (.ref w_COMMIT), (.ref w_ROLLBACK), (.ref w_PREPARE_TRANSACTION), (.ref w_SET), (.ref w_CHANGES_NO_ROW), (.ref w_DISCARD), (.ref w_DEALLOCATE), (.ref w_PREPARE), .null, .null, .null] .null := Arv.set Ar81 q81 S81 M81 H81 G81 rfl W82 8 rfl (Nat.le_of_ble_eq_true rfl)
  have pre87 : ∀ t, Steps p.tables e below (T82.setTop (mkF m 65 #[iv pi0, .unset, .unset, .unset] [(.int (9 : Int32)), (.ref b2), (.ref b2)])) t → Go t := fun t kt => pre83 t (by
      refine y_dup X82.here hx (hb hby at_62) rfl (pc' := 63) rfl ?_
      refine y_bipush X82.here hx (hb hby at_63) (v := (9 : Int32)) rfl (pc' := 65) rfl ?_
      exact kt)
  obtain ⟨T88, X88, e88, st88⟩ := getS2 X82 hx hZ hown (host := "") (Or.inl (hw _ (List.mem_of_getElem? (i := 22) rfl))) Via.refl e82 (S_COPY.ext O85.2) (g := (mkF m 65 #[iv pi0, .unset, .unset, .unset] [(.int (9 : Int32)), (.ref b2), (.ref b2)])) rfl (hb hby at_65)
  have pre89 : ∀ t, Steps p.tables e below (T88.setTop (mkF m 68 #[iv pi0, .unset, .unset, .unset] [(.ref w_COPY), (.int (9 : Int32)), (.ref b2), (.ref b2)])) t → Go t := fun t kt => pre87 t (st88 t kt)
  obtain ⟨c90, Ar90, q90, S90, M90, H90, G90⟩ := id f86
  have hin90 : ¬ ((9 : Int32) < 0 ∨ c90.slots.size ≤ ((9 : Int32)).toNatClampNeg) := inb_of S90 ⟨by decide, by decide⟩
  obtain ⟨T91, h91, X91, e91, W91, st91⟩ := stR X88 hx hZ e88 Ar90 (j := (9 : Int32)) hin90 rfl (Sto.ofV Ar90 q90 V2 (Ins.self (E_w_COPY.ext O85.2))) (g := (mkF m 68 #[iv pi0, .unset, .unset, .unset] [(.ref w_COPY), (.int (9 : Int32)), (.ref b2), (.ref b2)])) rfl rfl (hb hby at_68)
  have pre92 : ∀ t, Steps p.tables e below (T91.setTop (mkF m 69 #[iv pi0, .unset, .unset, .unset] [(.ref b2)])) t → Go t := fun t kt => pre89 t (st91 t kt)
  have N94 := Fr.snoc X91 N85 G4
  have O94 := O85.wr W91 G4
  have f95 : Arv Z h91 b2 k2 (.object "com/example/certline/certline/capture/Script$Kind") (12 : Int32) [(.ref w_BEGIN), (.ref w_COMMIT), (.ref w_ROLLBACK), (.ref w_PREPARE_TRANSACTION), (.ref w_SET), (.ref w_CHANGES_NO_ROW), (.ref w_DISCARD), (.ref w_DEALLOCATE), (.ref w_PREPARE), (.ref w_COPY), .null, .null] .null := Arv.set Ar90 q90 S90 M90 H90 G90 rfl W91 9 rfl (Nat.le_of_ble_eq_true rfl)
  have pre96 : ∀ t, Steps p.tables e below (T91.setTop (mkF m 72 #[iv pi0, .unset, .unset, .unset] [(.int (10 : Int32)), (.ref b2), (.ref b2)])) t → Go t := fun t kt => pre92 t (by
      refine y_dup X91.here hx (hb hby at_69) rfl (pc' := 70) rfl ?_
      refine y_bipush X91.here hx (hb hby at_70) (v := (10 : Int32)) rfl (pc' := 72) rfl ?_
      exact kt)
  obtain ⟨T97, X97, e97, st97⟩ := getS2 X91 hx hZ hown (host := "") (Or.inl (hw _ (List.mem_of_getElem? (i := 24) rfl))) Via.refl e91 (S_DEFINITION.ext O94.2) (g := (mkF m 72 #[iv pi0, .unset, .unset, .unset] [(.int (10 : Int32)), (.ref b2), (.ref b2)])) rfl (hb hby at_72)
  have pre98 : ∀ t, Steps p.tables e below (T97.setTop (mkF m 75 #[iv pi0, .unset, .unset, .unset] [(.ref w_DEFINITION), (.int (10 : Int32)), (.ref b2), (.ref b2)])) t → Go t := fun t kt => pre96 t (st97 t kt)
  obtain ⟨c99, Ar99, q99, S99, M99, H99, G99⟩ := id f95
  have hin99 : ¬ ((10 : Int32) < 0 ∨ c99.slots.size ≤ ((10 : Int32)).toNatClampNeg) := inb_of S99 ⟨by decide, by decide⟩
  obtain ⟨T100, h100, X100, e100, W100, st100⟩ := stR X97 hx hZ e97 Ar99 (j := (10 : Int32)) hin99 rfl (Sto.ofV Ar99 q99 V2 (Ins.self (E_w_DEFINITION.ext O94.2))) (g := (mkF m 75 #[iv pi0, .unset, .unset, .unset] [(.ref w_DEFINITION), (.int (10 : Int32)), (.ref b2), (.ref b2)])) rfl rfl (hb hby at_75)
  have pre101 : ∀ t, Steps p.tables e below (T100.setTop (mkF m 76 #[iv pi0, .unset, .unset, .unset] [(.ref b2)])) t → Go t := fun t kt => pre98 t (st100 t kt)
  have N103 := Fr.snoc X100 N94 G4
  have O103 := O94.wr W100 G4
  have f104 : Arv Z h100 b2 k2 (.object "com/example/certline/certline/capture/Script$Kind") (12 : Int32) [(.ref w_BEGIN), (.ref w_COMMIT), (.ref w_ROLLBACK), (.ref w_PREPARE_TRANSACTION), (.ref w_SET), (.ref w_CHANGES_NO_ROW), (.ref w_DISCARD), (.ref w_DEALLOCATE), (.ref w_PREPARE), (.ref w_COPY), (.ref w_DEFINITION), .null] .null := Arv.set Ar99 q99 S99 M99 H99 G99 rfl W100 10 rfl (Nat.le_of_ble_eq_true rfl)
  have pre105 : ∀ t, Steps p.tables e below (T100.setTop (mkF m 79 #[iv pi0, .unset, .unset, .unset] [(.int (11 : Int32)), (.ref b2), (.ref b2)])) t → Go t := fun t kt => pre101 t (by
      refine y_dup X100.here hx (hb hby at_76) rfl (pc' := 77) rfl ?_
      refine y_bipush X100.here hx (hb hby at_77) (v := (11 : Int32)) rfl (pc' := 79) rfl ?_
      exact kt)
  obtain ⟨T106, X106, e106, st106⟩ := getS2 X100 hx hZ hown (host := "") (Or.inl (hw _ (List.mem_of_getElem? (i := 26) rfl))) Via.refl e100 (S_OTHER.ext O103.2) (g := (mkF m 79 #[iv pi0, .unset, .unset, .unset] [(.int (11 : Int32)), (.ref b2), (.ref b2)])) rfl (hb hby at_79)
  have pre107 : ∀ t, Steps p.tables e below (T106.setTop (mkF m 82 #[iv pi0, .unset, .unset, .unset] [(.ref w_OTHER), (.int (11 : Int32)), (.ref b2), (.ref b2)])) t → Go t := fun t kt => pre105 t (st106 t kt)
  obtain ⟨c108, Ar108, q108, S108, M108, H108, G108⟩ := id f104
  have hin108 : ¬ ((11 : Int32) < 0 ∨ c108.slots.size ≤ ((11 : Int32)).toNatClampNeg) := inb_of S108 ⟨by decide, by decide⟩
  obtain ⟨T109, h109, X109, e109, W109, st109⟩ := stR X106 hx hZ e106 Ar108 (j := (11 : Int32)) hin108 rfl (Sto.ofV Ar108 q108 V2 (Ins.self (E_w_OTHER.ext O103.2))) (g := (mkF m 82 #[iv pi0, .unset, .unset, .unset] [(.ref w_OTHER), (.int (11 : Int32)), (.ref b2), (.ref b2)])) rfl rfl (hb hby at_82)
  have pre110 : ∀ t, Steps p.tables e below (T109.setTop (mkF m 83 #[iv pi0, .unset, .unset, .unset] [(.ref b2)])) t → Go t := fun t kt => pre107 t (st109 t kt)
  have N112 := Fr.snoc X109 N103 G4
  have O112 := O103.wr W109 G4
  have f113 : Arv Z h109 b2 k2 (.object "com/example/certline/certline/capture/Script$Kind") (12 : Int32) [(.ref w_BEGIN), (.ref w_COMMIT), (.ref w_ROLLBACK), (.ref w_PREPARE_TRANSACTION), (.ref w_SET), (.ref w_CHANGES_NO_ROW), (.ref w_DISCARD), (.ref w_DEALLOCATE), (.ref w_PREPARE), (.ref w_COPY), (.ref w_DEFINITION), (.ref w_OTHER)] .null := Arv.set Ar108 q108 S108 M108 H108 G108 rfl W109 11 rfl (Nat.le_of_ble_eq_true rfl)
  have pre114 : ∀ t, Steps p.tables e below (T109.setTop (mkF m 86 #[iv pi0, rv b2, .unset, .unset] [(.int (12 : Int32))])) t → Go t := fun t kt => pre110 t (by
      refine y_astoreN X109.here hx (hb hby at_83) rfl (l' := #[iv pi0, rv b2, .unset, .unset]) rfl (pc' := 84) rfl ?_
      refine y_bipush X109.here hx (hb hby at_84) (v := (12 : Int32)) rfl (pc' := 86) rfl ?_
      exact kt)
  obtain ⟨T115, h115, k115, X115, e115, E115, A115, st115⟩ := newP X109 hx hZ (hw _ (List.mem_of_getElem? (i := 28) rfl)) e109 (g := (mkF m 86 #[iv pi0, rv b2, .unset, .unset] [(.int (12 : Int32))])) rfl (hb hby at_86) rfl (by decide) (cap := 12) (by decide) (by decide) (by decide) (by decide)
  obtain ⟨b115, g115⟩ : ∃ z, z = h109.size := ⟨_, rfl⟩
  rw [← g115] at A115 st115
  have pre116 : ∀ t, Steps p.tables e below (T115.setTop (mkF m 88 #[iv pi0, rv b2, .unset, .unset] [(.ref b115)])) t → Go t := fun t kt => pre114 t (st115 t kt)
  have lt117 : b2 < b115 := Nat.lt_of_lt_of_le f113.lt (Nat.le_of_eq g115.symm)
  have ne117 : b2 ≠ b115 := Nat.ne_of_lt lt117
  have G118 : n0 ≤ b115 := Nat.le_trans (O112.1 ▸ O112.2.1) (Nat.le_of_eq g115.symm)
  have f119 : Arv Z h115 b2 k2 (.object "com/example/certline/certline/capture/Script$Kind") (12 : Int32) [(.ref w_BEGIN), (.ref w_COMMIT), (.ref w_ROLLBACK), (.ref w_PREPARE_TRANSACTION), (.ref w_SET), (.ref w_CHANGES_NO_ROW), (.ref w_DISCARD), (.ref w_DEALLOCATE), (.ref w_PREPARE), (.ref w_COPY), (.ref w_DEFINITION), (.ref w_OTHER)] .null := (f113.ext E115)
  have O118 := O112.ext E115
  have f120 : Arv Z h115 b115 k115 .boolean (12 : Int32) [(.int (0 : Int32)), (.int (0 : Int32)), (.int (0 : Int32)), (.int (0 : Int32)), (.int (0 : Int32)), (.int (0 : Int32)), (.int (0 : Int32)), (.int (0 : Int32)), (.int (0 : Int32)), (.int (0 : Int32)), (.int (0 : Int32)), (.int (0 : Int32))] (.int (0 : Int32)) := (Arv.new A115 (by decide)).pad (pad_rep [] (.int (0 : Int32)) 12)
  have pre121 : ∀ t, Steps p.tables e below (T115.setTop (mkF m 91 #[iv pi0, rv b2, .unset, .unset] [(.int (0 : Int32)), (.int (0 : Int32)), (.ref b115), (.ref b115)])) t → Go t := fun t kt => pre116 t (by
      refine y_dup X115.here hx (hb hby at_88) rfl (pc' := 89) rfl ?_
      refine y_iconst X115.here hx (hb hby at_89) (v := (0 : Int32)) rfl (pc' := 90) rfl ?_
      refine y_iconst X115.here hx (hb hby at_90) (v := (0 : Int32)) rfl (pc' := 91) rfl ?_
      exact kt)
  obtain ⟨c122, Ar122, q122, S122, M122, H122, G122⟩ := id f120
  have hin122 : ¬ ((0 : Int32) < 0 ∨ c122.slots.size ≤ ((0 : Int32)).toNatClampNeg) := inb_of S122 ⟨by decide, by decide⟩
  obtain ⟨T123, h123, X123, e123, W123, st123⟩ := stZ X115 hx hZ e115 Ar122 (j := (0 : Int32)) hin122 (g := (mkF m 91 #[iv pi0, rv b2, .unset, .unset] [(.int (0 : Int32)), (.int (0 : Int32)), (.ref b115), (.ref b115)])) rfl rfl (hb hby at_91)
  have pre124 : ∀ t, Steps p.tables e below (T123.setTop (mkF m 92 #[iv pi0, rv b2, .unset, .unset] [(.ref b115)])) t → Go t := fun t kt => pre121 t (st123 t kt)
  have f125 : Arv Z h123 b2 k2 (.object "com/example/certline/certline/capture/Script$Kind") (12 : Int32) [(.ref w_BEGIN), (.ref w_COMMIT), (.ref w_ROLLBACK), (.ref w_PREPARE_TRANSACTION), (.ref w_SET), (.ref w_CHANGES_NO_ROW), (.ref w_DISCARD), (.ref w_DEALLOCATE), (.ref w_PREPARE), (.ref w_COPY), (.ref w_DEFINITION), (.ref w_OTHER)] .null := (f119.other W123 ne117)
  have N127 := Fr.snoc X123 N112 G118
  have O127 := O118.wr W123 G118
  have f128 : Arv Z h123 b115 k115 .boolean (12 : Int32) [(.int (0 : Int32)), (.int (0 : Int32)), (.int (0 : Int32)), (.int (0 : Int32)), (.int (0 : Int32)), (.int (0 : Int32)), (.int (0 : Int32)), (.int (0 : Int32)), (.int (0 : Int32)), (.int (0 : Int32)), (.int (0 : Int32)), (.int (0 : Int32))] (.int (0 : Int32)) := Arv.set Ar122 q122 S122 M122 H122 G122 rfl W123 0 rfl (Nat.le_of_ble_eq_true rfl)
  have pre129 : ∀ t, Steps p.tables e below (T123.setTop (mkF m 95 #[iv pi0, rv b2, .unset, .unset] [(.int (0 : Int32)), (.int (1 : Int32)), (.ref b115), (.ref b115)])) t → Go t := fun t kt => pre124 t (by
      refine y_dup X123.here hx (hb hby at_92) rfl (pc' := 93) rfl ?_
      refine y_iconst X123.here hx (hb hby at_93) (v := (1 : Int32)) rfl (pc' := 94) rfl ?_
      refine y_iconst X123.here hx (hb hby at_94) (v := (0 : Int32)) rfl (pc' := 95) rfl ?_
      exact kt)
  obtain ⟨c130, Ar130, q130, S130, M130, H130, G130⟩ := id f128
  have hin130 : ¬ ((1 : Int32) < 0 ∨ c130.slots.size ≤ ((1 : Int32)).toNatClampNeg) := inb_of S130 ⟨by decide, by decide⟩
  obtain ⟨T131, h131, X131, e131, W131, st131⟩ := stZ X123 hx hZ e123 Ar130 (j := (1 : Int32)) hin130 (g := (mkF m 95 #[iv pi0, rv b2, .unset, .unset] [(.int (0 : Int32)), (.int (1 : Int32)), (.ref b115), (.ref b115)])) rfl rfl (hb hby at_95)
  have pre132 : ∀ t, Steps p.tables e below (T131.setTop (mkF m 96 #[iv pi0, rv b2, .unset, .unset] [(.ref b115)])) t → Go t := fun t kt => pre129 t (st131 t kt)
  have f133 : Arv Z h131 b2 k2 (.object "com/example/certline/certline/capture/Script$Kind") (12 : Int32) [(.ref w_BEGIN), (.ref w_COMMIT), (.ref w_ROLLBACK), (.ref w_PREPARE_TRANSACTION), (.ref w_SET), (.ref w_CHANGES_NO_ROW), (.ref w_DISCARD), (.ref w_DEALLOCATE), (.ref w_PREPARE), (.ref w_COPY), (.ref w_DEFINITION), (.ref w_OTHER)] .null := (f125.other W131 ne117)
  have N135 := Fr.snoc X131 N127 G118
  have O135 := O127.wr W131 G118
  have f136 : Arv Z h131 b115 k115 .boolean (12 : Int32) [(.int (0 : Int32)), (.int (0 : Int32)), (.int (0 : Int32)), (.int (0 : Int32)), (.int (0 : Int32)), (.int (0 : Int32)), (.int (0 : Int32)), (.int (0 : Int32)), (.int (0 : Int32)), (.int (0 : Int32)), (.int (0 : Int32)), (.int (0 : Int32))] (.int (0 : Int32)) := Arv.set Ar130 q130 S130 M130 H130 G130 rfl W131 1 rfl (Nat.le_of_ble_eq_true rfl)
  have pre137 : ∀ t, Steps p.tables e below (T131.setTop (mkF m 99 #[iv pi0, rv b2, .unset, .unset] [(.int (0 : Int32)), (.int (2 : Int32)), (.ref b115), (.ref b115)])) t → Go t := fun t kt => pre132 t (by
      refine y_dup X131.here hx (hb hby at_96) rfl (pc' := 97) rfl ?_
      refine y_iconst X131.here hx (hb hby at_97) (v := (2 : Int32)) rfl (pc' := 98) rfl ?_
      refine y_iconst X131.here hx (hb hby at_98) (v := (0 : Int32)) rfl (pc' := 99) rfl ?_
      exact kt)
  obtain ⟨c138, Ar138, q138, S138, M138, H138, G138⟩ := id f136
  have hin138 : ¬ ((2 : Int32) < 0 ∨ c138.slots.size ≤ ((2 : Int32)).toNatClampNeg) := inb_of S138 ⟨by decide, by decide⟩
  obtain ⟨T139, h139, X139, e139, W139, st139⟩ := stZ X131 hx hZ e131 Ar138 (j := (2 : Int32)) hin138 (g := (mkF m 99 #[iv pi0, rv b2, .unset, .unset] [(.int (0 : Int32)), (.int (2 : Int32)), (.ref b115), (.ref b115)])) rfl rfl (hb hby at_99)
  have pre140 : ∀ t, Steps p.tables e below (T139.setTop (mkF m 100 #[iv pi0, rv b2, .unset, .unset] [(.ref b115)])) t → Go t := fun t kt => pre137 t (st139 t kt)
  have f141 : Arv Z h139 b2 k2 (.object "com/example/certline/certline/capture/Script$Kind") (12 : Int32) [(.ref w_BEGIN), (.ref w_COMMIT), (.ref w_ROLLBACK), (.ref w_PREPARE_TRANSACTION), (.ref w_SET), (.ref w_CHANGES_NO_ROW), (.ref w_DISCARD), (.ref w_DEALLOCATE), (.ref w_PREPARE), (.ref w_COPY), (.ref w_DEFINITION), (.ref w_OTHER)] .null := (f133.other W139 ne117)
  have N143 := Fr.snoc X139 N135 G118
  have O143 := O135.wr W139 G118
  have f144 : Arv Z h139 b115 k115 .boolean (12 : Int32) [(.int (0 : Int32)), (.int (0 : Int32)), (.int (0 : Int32)), (.int (0 : Int32)), (.int (0 : Int32)), (.int (0 : Int32)), (.int (0 : Int32)), (.int (0 : Int32)), (.int (0 : Int32)), (.int (0 : Int32)), (.int (0 : Int32)), (.int (0 : Int32))] (.int (0 : Int32)) := Arv.set Ar138 q138 S138 M138 H138 G138 rfl W139 2 rfl (Nat.le_of_ble_eq_true rfl)
  have pre145 : ∀ t, Steps p.tables e below (T139.setTop (mkF m 103 #[iv pi0, rv b2, .unset, .unset] [(.int (0 : Int32)), (.int (3 : Int32)), (.ref b115), (.ref b115)])) t → Go t := fun t kt => pre140 t (by
      refine y_dup X139.here hx (hb hby at_100) rfl (pc' := 101) rfl ?_
      refine y_iconst X139.here hx (hb hby at_101) (v := (3 : Int32)) rfl (pc' := 102) rfl ?_
      refine y_iconst X139.here hx (hb hby at_102) (v := (0 : Int32)) rfl (pc' := 103) rfl ?_
      exact kt)
  obtain ⟨c146, Ar146, q146, S146, M146, H146, G146⟩ := id f144
  have hin146 : ¬ ((3 : Int32) < 0 ∨ c146.slots.size ≤ ((3 : Int32)).toNatClampNeg) := inb_of S146 ⟨by decide, by decide⟩
  obtain ⟨T147, h147, X147, e147, W147, st147⟩ := stZ X139 hx hZ e139 Ar146 (j := (3 : Int32)) hin146 (g := (mkF m 103 #[iv pi0, rv b2, .unset, .unset] [(.int (0 : Int32)), (.int (3 : Int32)), (.ref b115), (.ref b115)])) rfl rfl (hb hby at_103)
  have pre148 : ∀ t, Steps p.tables e below (T147.setTop (mkF m 104 #[iv pi0, rv b2, .unset, .unset] [(.ref b115)])) t → Go t := fun t kt => pre145 t (st147 t kt)
  have f149 : Arv Z h147 b2 k2 (.object "com/example/certline/certline/capture/Script$Kind") (12 : Int32) [(.ref w_BEGIN), (.ref w_COMMIT), (.ref w_ROLLBACK), (.ref w_PREPARE_TRANSACTION), (.ref w_SET), (.ref w_CHANGES_NO_ROW), (.ref w_DISCARD), (.ref w_DEALLOCATE), (.ref w_PREPARE), (.ref w_COPY), (.ref w_DEFINITION), (.ref w_OTHER)] .null := (f141.other W147 ne117)
  have N151 := Fr.snoc X147 N143 G118
  have O151 := O143.wr W147 G118
  have f152 : Arv Z h147 b115 k115 .boolean (12 : Int32) [(.int (0 : Int32)), (.int (0 : Int32)), (.int (0 : Int32)), (.int (0 : Int32)), (.int (0 : Int32)), (.int (0 : Int32)), (.int (0 : Int32)), (.int (0 : Int32)), (.int (0 : Int32)), (.int (0 : Int32)), (.int (0 : Int32)), (.int (0 : Int32))] (.int (0 : Int32)) := Arv.set Ar146 q146 S146 M146 H146 G146 rfl W147 3 rfl (Nat.le_of_ble_eq_true rfl)
  have pre153 : ∀ t, Steps p.tables e below (T147.setTop (mkF m 107 #[iv pi0, rv b2, .unset, .unset] [(.int (0 : Int32)), (.int (4 : Int32)), (.ref b115), (.ref b115)])) t → Go t := fun t kt => pre148 t (by
      refine y_dup X147.here hx (hb hby at_104) rfl (pc' := 105) rfl ?_
      refine y_iconst X147.here hx (hb hby at_105) (v := (4 : Int32)) rfl (pc' := 106) rfl ?_
      refine y_iconst X147.here hx (hb hby at_106) (v := (0 : Int32)) rfl (pc' := 107) rfl ?_
      exact kt)
  obtain ⟨c154, Ar154, q154, S154, M154, H154, G154⟩ := id f152
  have hin154 : ¬ ((4 : Int32) < 0 ∨ c154.slots.size ≤ ((4 : Int32)).toNatClampNeg) := inb_of S154 ⟨by decide, by decide⟩
  obtain ⟨T155, h155, X155, e155, W155, st155⟩ := stZ X147 hx hZ e147 Ar154 (j := (4 : Int32)) hin154 (g := (mkF m 107 #[iv pi0, rv b2, .unset, .unset] [(.int (0 : Int32)), (.int (4 : Int32)), (.ref b115), (.ref b115)])) rfl rfl (hb hby at_107)
  have pre156 : ∀ t, Steps p.tables e below (T155.setTop (mkF m 108 #[iv pi0, rv b2, .unset, .unset] [(.ref b115)])) t → Go t := fun t kt => pre153 t (st155 t kt)
  have f157 : Arv Z h155 b2 k2 (.object "com/example/certline/certline/capture/Script$Kind") (12 : Int32) [(.ref w_BEGIN), (.ref w_COMMIT), (.ref w_ROLLBACK), (.ref w_PREPARE_TRANSACTION), (.ref w_SET), (.ref w_CHANGES_NO_ROW), (.ref w_DISCARD), (.ref w_DEALLOCATE), (.ref w_PREPARE), (.ref w_COPY), (.ref w_DEFINITION), (.ref w_OTHER)] .null := (f149.other W155 ne117)
  have N159 := Fr.snoc X155 N151 G118
  have O159 := O151.wr W155 G118
  have f160 : Arv Z h155 b115 k115 .boolean (12 : Int32) [(.int (0 : Int32)), (.int (0 : Int32)), (.int (0 : Int32)), (.int (0 : Int32)), (.int (0 : Int32)), (.int (0 : Int32)), (.int (0 : Int32)), (.int (0 : Int32)), (.int (0 : Int32)), (.int (0 : Int32)), (.int (0 : Int32)), (.int (0 : Int32))] (.int (0 : Int32)) := Arv.set Ar154 q154 S154 M154 H154 G154 rfl W155 4 rfl (Nat.le_of_ble_eq_true rfl)
  have pre161 : ∀ t, Steps p.tables e below (T155.setTop (mkF m 111 #[iv pi0, rv b2, .unset, .unset] [(.int (0 : Int32)), (.int (5 : Int32)), (.ref b115), (.ref b115)])) t → Go t := fun t kt => pre156 t (by
      refine y_dup X155.here hx (hb hby at_108) rfl (pc' := 109) rfl ?_
      refine y_iconst X155.here hx (hb hby at_109) (v := (5 : Int32)) rfl (pc' := 110) rfl ?_
      refine y_iconst X155.here hx (hb hby at_110) (v := (0 : Int32)) rfl (pc' := 111) rfl ?_
      exact kt)
  obtain ⟨c162, Ar162, q162, S162, M162, H162, G162⟩ := id f160
  have hin162 : ¬ ((5 : Int32) < 0 ∨ c162.slots.size ≤ ((5 : Int32)).toNatClampNeg) := inb_of S162 ⟨by decide, by decide⟩
  obtain ⟨T163, h163, X163, e163, W163, st163⟩ := stZ X155 hx hZ e155 Ar162 (j := (5 : Int32)) hin162 (g := (mkF m 111 #[iv pi0, rv b2, .unset, .unset] [(.int (0 : Int32)), (.int (5 : Int32)), (.ref b115), (.ref b115)])) rfl rfl (hb hby at_111)
  have pre164 : ∀ t, Steps p.tables e below (T163.setTop (mkF m 112 #[iv pi0, rv b2, .unset, .unset] [(.ref b115)])) t → Go t := fun t kt => pre161 t (st163 t kt)
  have f165 : Arv Z h163 b2 k2 (.object "com/example/certline/certline/capture/Script$Kind") (12 : Int32) [(.ref w_BEGIN), (.ref w_COMMIT), (.ref w_ROLLBACK), (.ref w_PREPARE_TRANSACTION), (.ref w_SET), (.ref w_CHANGES_NO_ROW), (.ref w_DISCARD), (.ref w_DEALLOCATE), (.ref w_PREPARE), (.ref w_COPY), (.ref w_DEFINITION), (.ref w_OTHER)] .null := (f157.other W163 ne117)
  have N167 := Fr.snoc X163 N159 G118
  have O167 := O159.wr W163 G118
  have f168 : Arv Z h163 b115 k115 .boolean (12 : Int32) [(.int (0 : Int32)), (.int (0 : Int32)), (.int (0 : Int32)), (.int (0 : Int32)), (.int (0 : Int32)), (.int (0 : Int32)), (.int (0 : Int32)), (.int (0 : Int32)), (.int (0 : Int32)), (.int (0 : Int32)), (.int (0 : Int32)), (.int (0 : Int32))] (.int (0 : Int32)) := Arv.set Ar162 q162 S162 M162 H162 G162 rfl W163 5 rfl (Nat.le_of_ble_eq_true rfl)
  have pre169 : ∀ t, Steps p.tables e below (T163.setTop (mkF m 116 #[iv pi0, rv b2, .unset, .unset] [(.int (0 : Int32)), (.int (6 : Int32)), (.ref b115), (.ref b115)])) t → Go t := fun t kt => pre164 t (by
      refine y_dup X163.here hx (hb hby at_112) rfl (pc' := 113) rfl ?_
      refine y_bipush X163.here hx (hb hby at_113) (v := (6 : Int32)) rfl (pc' := 115) rfl ?_
      refine y_iconst X163.here hx (hb hby at_115) (v := (0 : Int32)) rfl (pc' := 116) rfl ?_
      exact kt)
  obtain ⟨c170, Ar170, q170, S170, M170, H170, G170⟩ := id f168
  have hin170 : ¬ ((6 : Int32) < 0 ∨ c170.slots.size ≤ ((6 : Int32)).toNatClampNeg) := inb_of S170 ⟨by decide, by decide⟩
  obtain ⟨T171, h171, X171, e171, W171, st171⟩ := stZ X163 hx hZ e163 Ar170 (j := (6 : Int32)) hin170 (g := (mkF m 116 #[iv pi0, rv b2, .unset, .unset] [(.int (0 : Int32)), (.int (6 : Int32)), (.ref b115), (.ref b115)])) rfl rfl (hb hby at_116)
  have pre172 : ∀ t, Steps p.tables e below (T171.setTop (mkF m 117 #[iv pi0, rv b2, .unset, .unset] [(.ref b115)])) t → Go t := fun t kt => pre169 t (st171 t kt)
  have f173 : Arv Z h171 b2 k2 (.object "com/example/certline/certline/capture/Script$Kind") (12 : Int32) [(.ref w_BEGIN), (.ref w_COMMIT), (.ref w_ROLLBACK), (.ref w_PREPARE_TRANSACTION), (.ref w_SET), (.ref w_CHANGES_NO_ROW), (.ref w_DISCARD), (.ref w_DEALLOCATE), (.ref w_PREPARE), (.ref w_COPY), (.ref w_DEFINITION), (.ref w_OTHER)] .null := (f165.other W171 ne117)
  have N175 := Fr.snoc X171 N167 G118
  have O175 := O167.wr W171 G118
  have f176 : Arv Z h171 b115 k115 .boolean (12 : Int32) [(.int (0 : Int32)), (.int (0 : Int32)), (.int (0 : Int32)), (.int (0 : Int32)), (.int (0 : Int32)), (.int (0 : Int32)), (.int (0 : Int32)), (.int (0 : Int32)), (.int (0 : Int32)), (.int (0 : Int32)), (.int (0 : Int32)), (.int (0 : Int32))] (.int (0 : Int32)) := Arv.set Ar170 q170 S170 M170 H170 G170 rfl W171 6 rfl (Nat.le_of_ble_eq_true rfl)
  have pre177 : ∀ t, Steps p.tables e below (T171.setTop (mkF m 121 #[iv pi0, rv b2, .unset, .unset] [(.int (0 : Int32)), (.int (7 : Int32)), (.ref b115), (.ref b115)])) t → Go t := fun t kt => pre172 t (by
      refine y_dup X171.here hx (hb hby at_117) rfl (pc' := 118) rfl ?_
      refine y_bipush X171.here hx (hb hby at_118) (v := (7 : Int32)) rfl (pc' := 120) rfl ?_
      refine y_iconst X171.here hx (hb hby at_120) (v := (0 : Int32)) rfl (pc' := 121) rfl ?_
      exact kt)
  obtain ⟨c178, Ar178, q178, S178, M178, H178, G178⟩ := id f176
  have hin178 : ¬ ((7 : Int32) < 0 ∨ c178.slots.size ≤ ((7 : Int32)).toNatClampNeg) := inb_of S178 ⟨by decide, by decide⟩
  obtain ⟨T179, h179, X179, e179, W179, st179⟩ := stZ X171 hx hZ e171 Ar178 (j := (7 : Int32)) hin178 (g := (mkF m 121 #[iv pi0, rv b2, .unset, .unset] [(.int (0 : Int32)), (.int (7 : Int32)), (.ref b115), (.ref b115)])) rfl rfl (hb hby at_121)
  have pre180 : ∀ t, Steps p.tables e below (T179.setTop (mkF m 122 #[iv pi0, rv b2, .unset, .unset] [(.ref b115)])) t → Go t := fun t kt => pre177 t (st179 t kt)
  have f181 : Arv Z h179 b2 k2 (.object "com/example/certline/certline/capture/Script$Kind") (12 : Int32) [(.ref w_BEGIN), (.ref w_COMMIT), (.ref w_ROLLBACK), (.ref w_PREPARE_TRANSACTION), (.ref w_SET), (.ref w_CHANGES_NO_ROW), (.ref w_DISCARD), (.ref w_DEALLOCATE), (.ref w_PREPARE), (.ref w_COPY), (.ref w_DEFINITION), (.ref w_OTHER)] .null := (f173.other W179 ne117)
  have N183 := Fr.snoc X179 N175 G118
  have O183 := O175.wr W179 G118
  have f184 : Arv Z h179 b115 k115 .boolean (12 : Int32) [(.int (0 : Int32)), (.int (0 : Int32)), (.int (0 : Int32)), (.int (0 : Int32)), (.int (0 : Int32)), (.int (0 : Int32)), (.int (0 : Int32)), (.int (0 : Int32)), (.int (0 : Int32)), (.int (0 : Int32)), (.int (0 : Int32)), (.int (0 : Int32))] (.int (0 : Int32)) := Arv.set Ar178 q178 S178 M178 H178 G178 rfl W179 7 rfl (Nat.le_of_ble_eq_true rfl)
  have pre185 : ∀ t, Steps p.tables e below (T179.setTop (mkF m 126 #[iv pi0, rv b2, .unset, .unset] [(.int (0 : Int32)), (.int (8 : Int32)), (.ref b115), (.ref b115)])) t → Go t := fun t kt => pre180 t (by
      refine y_dup X179.here hx (hb hby at_122) rfl (pc' := 123) rfl ?_
      refine y_bipush X179.here hx (hb hby at_123) (v := (8 : Int32)) rfl (pc' := 125) rfl ?_
      refine y_iconst X179.here hx (hb hby at_125) (v := (0 : Int32)) rfl (pc' := 126) rfl ?_
      exact kt)
  obtain ⟨c186, Ar186, q186, S186, M186, H186, G186⟩ := id f184
  have hin186 : ¬ ((8 : Int32) < 0 ∨ c186.slots.size ≤ ((8 : Int32)).toNatClampNeg) := inb_of S186 ⟨by decide, by decide⟩
  obtain ⟨T187, h187, X187, e187, W187, st187⟩ := stZ X179 hx hZ e179 Ar186 (j := (8 : Int32)) hin186 (g := (mkF m 126 #[iv pi0, rv b2, .unset, .unset] [(.int (0 : Int32)), (.int (8 : Int32)), (.ref b115), (.ref b115)])) rfl rfl (hb hby at_126)
  have pre188 : ∀ t, Steps p.tables e below (T187.setTop (mkF m 127 #[iv pi0, rv b2, .unset, .unset] [(.ref b115)])) t → Go t := fun t kt => pre185 t (st187 t kt)
  have f189 : Arv Z h187 b2 k2 (.object "com/example/certline/certline/capture/Script$Kind") (12 : Int32) [(.ref w_BEGIN), (.ref w_COMMIT), (.ref w_ROLLBACK), (.ref w_PREPARE_TRANSACTION), (.ref w_SET), (.ref w_CHANGES_NO_ROW), (.ref w_DISCARD), (.ref w_DEALLOCATE), (.ref w_PREPARE), (.ref w_COPY), (.ref w_DEFINITION), (.ref w_OTHER)] .null := (f181.other W187 ne117)
  have N191 := Fr.snoc X187 N183 G118
  have O191 := O183.wr W187 G118
  have f192 : Arv Z h187 b115 k115 .boolean (12 : Int32) [(.int (0 : Int32)), (.int (0 : Int32)), (.int (0 : Int32)), (.int (0 : Int32)), (.int (0 : Int32)), (.int (0 : Int32)), (.int (0 : Int32)), (.int (0 : Int32)), (.int (0 : Int32)), (.int (0 : Int32)), (.int (0 : Int32)), (.int (0 : Int32))] (.int (0 : Int32)) := Arv.set Ar186 q186 S186 M186 H186 G186 rfl W187 8 rfl (Nat.le_of_ble_eq_true rfl)
  have pre193 : ∀ t, Steps p.tables e below (T187.setTop (mkF m 131 #[iv pi0, rv b2, .unset, .unset] [(.int (1 : Int32)), (.int (9 : Int32)), (.ref b115), (.ref b115)])) t → Go t := fun t kt => pre188 t (by
      refine y_dup X187.here hx (hb hby at_127) rfl (pc' := 128) rfl ?_
      refine y_bipush X187.here hx (hb hby at_128) (v := (9 : Int32)) rfl (pc' := 130) rfl ?_
      refine y_iconst X187.here hx (hb hby at_130) (v := (1 : Int32)) rfl (pc' := 131) rfl ?_
      exact kt)
  obtain ⟨c194, Ar194, q194, S194, M194, H194, G194⟩ := id f192
  have hin194 : ¬ ((9 : Int32) < 0 ∨ c194.slots.size ≤ ((9 : Int32)).toNatClampNeg) := inb_of S194 ⟨by decide, by decide⟩
  obtain ⟨T195, h195, X195, e195, W195, st195⟩ := stZ X187 hx hZ e187 Ar194 (j := (9 : Int32)) hin194 (g := (mkF m 131 #[iv pi0, rv b2, .unset, .unset] [(.int (1 : Int32)), (.int (9 : Int32)), (.ref b115), (.ref b115)])) rfl rfl (hb hby at_131)
  have pre196 : ∀ t, Steps p.tables e below (T195.setTop (mkF m 132 #[iv pi0, rv b2, .unset, .unset] [(.ref b115)])) t → Go t := fun t kt => pre193 t (st195 t kt)
  have f197 : Arv Z h195 b2 k2 (.object "com/example/certline/certline/capture/Script$Kind") (12 : Int32) [(.ref w_BEGIN), (.ref w_COMMIT), (.ref w_ROLLBACK), (.ref w_PREPARE_TRANSACTION), (.ref w_SET), (.ref w_CHANGES_NO_ROW), (.ref w_DISCARD), (.ref w_DEALLOCATE), (.ref w_PREPARE), (.ref w_COPY), (.ref w_DEFINITION), (.ref w_OTHER)] .null := (f189.other W195 ne117)
  have N199 := Fr.snoc X195 N191 G118
  have O199 := O191.wr W195 G118
  have f200 : Arv Z h195 b115 k115 .boolean (12 : Int32) [(.int (0 : Int32)), (.int (0 : Int32)), (.int (0 : Int32)), (.int (0 : Int32)), (.int (0 : Int32)), (.int (0 : Int32)), (.int (0 : Int32)), (.int (0 : Int32)), (.int (0 : Int32)), (.int (1 : Int32)), (.int (0 : Int32)), (.int (0 : Int32))] (.int (0 : Int32)) := Arv.set Ar194 q194 S194 M194 H194 G194 rfl W195 9 rfl (Nat.le_of_ble_eq_true rfl)
  have pre201 : ∀ t, Steps p.tables e below (T195.setTop (mkF m 136 #[iv pi0, rv b2, .unset, .unset] [(.int (1 : Int32)), (.int (10 : Int32)), (.ref b115), (.ref b115)])) t → Go t := fun t kt => pre196 t (by
      refine y_dup X195.here hx (hb hby at_132) rfl (pc' := 133) rfl ?_
      refine y_bipush X195.here hx (hb hby at_133) (v := (10 : Int32)) rfl (pc' := 135) rfl ?_
      refine y_iconst X195.here hx (hb hby at_135) (v := (1 : Int32)) rfl (pc' := 136) rfl ?_
      exact kt)
  obtain ⟨c202, Ar202, q202, S202, M202, H202, G202⟩ := id f200
  have hin202 : ¬ ((10 : Int32) < 0 ∨ c202.slots.size ≤ ((10 : Int32)).toNatClampNeg) := inb_of S202 ⟨by decide, by decide⟩
  obtain ⟨T203, h203, X203, e203, W203, st203⟩ := stZ X195 hx hZ e195 Ar202 (j := (10 : Int32)) hin202 (g := (mkF m 136 #[iv pi0, rv b2, .unset, .unset] [(.int (1 : Int32)), (.int (10 : Int32)), (.ref b115), (.ref b115)])) rfl rfl (hb hby at_136)
  have pre204 : ∀ t, Steps p.tables e below (T203.setTop (mkF m 137 #[iv pi0, rv b2, .unset, .unset] [(.ref b115)])) t → Go t := fun t kt => pre201 t (st203 t kt)
  have f205 : Arv Z h203 b2 k2 (.object "com/example/certline/certline/capture/Script$Kind") (12 : Int32) [(.ref w_BEGIN), (.ref w_COMMIT), (.ref w_ROLLBACK), (.ref w_PREPARE_TRANSACTION), (.ref w_SET), (.ref w_CHANGES_NO_ROW), (.ref w_DISCARD), (.ref w_DEALLOCATE), (.ref w_PREPARE), (.ref w_COPY), (.ref w_DEFINITION), (.ref w_OTHER)] .null := (f197.other W203 ne117)
  have N207 := Fr.snoc X203 N199 G118
  have O207 := O199.wr W203 G118
  have f208 : Arv Z h203 b115 k115 .boolean (12 : Int32) [(.int (0 : Int32)), (.int (0 : Int32)), (.int (0 : Int32)), (.int (0 : Int32)), (.int (0 : Int32)), (.int (0 : Int32)), (.int (0 : Int32)), (.int (0 : Int32)), (.int (0 : Int32)), (.int (1 : Int32)), (.int (1 : Int32)), (.int (0 : Int32))] (.int (0 : Int32)) := Arv.set Ar202 q202 S202 M202 H202 G202 rfl W203 10 rfl (Nat.le_of_ble_eq_true rfl)
  have pre209 : ∀ t, Steps p.tables e below (T203.setTop (mkF m 141 #[iv pi0, rv b2, .unset, .unset] [(.int (1 : Int32)), (.int (11 : Int32)), (.ref b115), (.ref b115)])) t → Go t := fun t kt => pre204 t (by
      refine y_dup X203.here hx (hb hby at_137) rfl (pc' := 138) rfl ?_
      refine y_bipush X203.here hx (hb hby at_138) (v := (11 : Int32)) rfl (pc' := 140) rfl ?_
      refine y_iconst X203.here hx (hb hby at_140) (v := (1 : Int32)) rfl (pc' := 141) rfl ?_
      exact kt)
  obtain ⟨c210, Ar210, q210, S210, M210, H210, G210⟩ := id f208
  have hin210 : ¬ ((11 : Int32) < 0 ∨ c210.slots.size ≤ ((11 : Int32)).toNatClampNeg) := inb_of S210 ⟨by decide, by decide⟩
  obtain ⟨T211, h211, X211, e211, W211, st211⟩ := stZ X203 hx hZ e203 Ar210 (j := (11 : Int32)) hin210 (g := (mkF m 141 #[iv pi0, rv b2, .unset, .unset] [(.int (1 : Int32)), (.int (11 : Int32)), (.ref b115), (.ref b115)])) rfl rfl (hb hby at_141)
  have pre212 : ∀ t, Steps p.tables e below (T211.setTop (mkF m 142 #[iv pi0, rv b2, .unset, .unset] [(.ref b115)])) t → Go t := fun t kt => pre209 t (st211 t kt)
  have f213 : Arv Z h211 b2 k2 (.object "com/example/certline/certline/capture/Script$Kind") (12 : Int32) [(.ref w_BEGIN), (.ref w_COMMIT), (.ref w_ROLLBACK), (.ref w_PREPARE_TRANSACTION), (.ref w_SET), (.ref w_CHANGES_NO_ROW), (.ref w_DISCARD), (.ref w_DEALLOCATE), (.ref w_PREPARE), (.ref w_COPY), (.ref w_DEFINITION), (.ref w_OTHER)] .null := (f205.other W211 ne117)
  have N215 := Fr.snoc X211 N207 G118
  have O215 := O207.wr W211 G118
  have f216 : Arv Z h211 b115 k115 .boolean (12 : Int32) [(.int (0 : Int32)), (.int (0 : Int32)), (.int (0 : Int32)), (.int (0 : Int32)), (.int (0 : Int32)), (.int (0 : Int32)), (.int (0 : Int32)), (.int (0 : Int32)), (.int (0 : Int32)), (.int (1 : Int32)), (.int (1 : Int32)), (.int (1 : Int32))] (.int (0 : Int32)) := Arv.set Ar210 q210 S210 M210 H210 G210 rfl W211 11 rfl (Nat.le_of_ble_eq_true rfl)
  obtain ⟨x217, hx217⟩ : ∃ z : Int32, z = ((pi0 &&& (2147483647 : Int32)) % (12 : Int32)) := ⟨_, rfl⟩
  have pre218 : ∀ t, Steps p.tables e below (T211.setTop (mkF m 151 #[iv pi0, rv b2, rv b115, iv x217] [])) t → Go t := fun t kt => pre212 t (by
      subst hx217
      refine y_astoreN X211.here hx (hb hby at_142) rfl (l' := #[iv pi0, rv b2, rv b115, .unset]) rfl (pc' := 143) rfl ?_
      refine y_iloadN X211.here hx (hb hby at_143) rfl (pc' := 144) rfl ?_
      refine X211.ldcInt hx hown (mvT hZ (hw _ (List.mem_of_getElem? (i := 29) rfl))) (g := (mkF m 144 #[iv pi0, rv b2, rv b115, .unset] [(.int pi0)])) rfl (hb hby at_144) _ ?_
      show Steps p.tables e below (T211.setTop (mkF m 146 #[iv pi0, rv b2, rv b115, .unset] [(.int (2147483647 : Int32)), (.int pi0)])) _
      refine y_iand X211.here hx (hb hby at_146) rfl (pc' := 147) rfl ?_
      refine y_bipush X211.here hx (hb hby at_147) (v := (12 : Int32)) rfl (pc' := 149) rfl ?_
      refine iremM (g := (mkF m 149 #[iv pi0, rv b2, rv b115, .unset] [(.int (12 : Int32)), (.int (pi0 &&& (2147483647 : Int32)))])) X211 hx rfl (hb hby at_149) rfl (by decide) ?_
      show Steps p.tables e below (T211.setTop (mkF m 150 #[iv pi0, rv b2, rv b115, .unset] [(.int ((pi0 &&& (2147483647 : Int32)) % (12 : Int32)))])) _
      refine y_istoreN X211.here hx (hb hby at_150) (l' := #[iv pi0, rv b2, rv b115, iv ((pi0 &&& (2147483647 : Int32)) % (12 : Int32))]) rfl (pc' := 151) rfl ?_
      exact kt)
  have pre219 : ∀ t, Steps p.tables e below (T211.setTop (mkF m 153 #[iv pi0, rv b2, rv b115, iv x217] [(.int x217), (.ref b2)])) t → Go t := fun t kt => pre218 t (by
      refine y_aloadN X211.here hx (hb hby at_151) rfl rfl (pc' := 152) rfl ?_
      refine y_iloadN X211.here hx (hb hby at_152) rfl (pc' := 153) rfl ?_
      exact kt)
  (try clear pre1)
  (try clear e2)
  (try clear E2)
  (try clear A2)
  (try clear st2)
  (try clear g2)
  (try clear pre3)
  (try clear O4)
  (try clear f5)
  (try clear pre6)
  (try clear e7)
  (try clear st7)
  (try clear pre8)
  (try clear q9)
  (try clear S9)
  (try clear M9)
  (try clear H9)
  (try clear G9)
  (try clear hin9)
  (try clear e10)
  (try clear W10)
  (try clear st10)
  (try clear pre11)
  (try clear N13)
  (try clear O13)
  (try clear f14)
  (try clear pre15)
  (try clear e16)
  (try clear st16)
  (try clear pre17)
  (try clear q18)
  (try clear S18)
  (try clear M18)
  (try clear H18)
  (try clear G18)
  (try clear hin18)
  (try clear e19)
  (try clear W19)
  (try clear st19)
  (try clear pre20)
  (try clear N22)
  (try clear O22)
  (try clear f23)
  (try clear pre24)
  (try clear e25)
  (try clear st25)
  (try clear pre26)
  (try clear q27)
  (try clear S27)
  (try clear M27)
  (try clear H27)
  (try clear G27)
  (try clear hin27)
  (try clear e28)
  (try clear W28)
  (try clear st28)
  (try clear pre29)
  (try clear N31)
  (try clear O31)
  (try clear f32)
  (try clear pre33)
  (try clear e34)
  (try clear st34)
  (try clear pre35)
  (try clear q36)
  (try clear S36)
  (try clear M36)
  (try clear H36)
  (try clear G36)
  (try clear hin36)
  (try clear e37)
  (try clear W37)
  (try clear st37)
  (try clear pre38)
  (try clear N40)
  (try clear O40)
  (try clear f41)
  (try clear pre42)
  (try clear e43)
  (try clear st43)
  (try clear pre44)
  (try clear q45)
  (try clear S45)
  (try clear M45)
  (try clear H45)
  (try clear G45)
  (try clear hin45)
  (try clear e46)
  (try clear W46)
  (try clear st46)
  (try clear pre47)
  (try clear N49)
  (try clear O49)
  (try clear f50)
  (try clear pre51)
  (try clear e52)
  (try clear st52)
  (try clear pre53)
  (try clear q54)
  (try clear S54)
  (try clear M54)
  (try clear H54)
  (try clear G54)
  (try clear hin54)
  (try clear e55)
  (try clear W55)
  (try clear st55)
  (try clear pre56)
  (try clear N58)
  (try clear O58)
  (try clear f59)
  (try clear pre60)
  (try clear e61)
  (try clear st61)
  (try clear pre62)
  (try clear q63)
  (try clear S63)
  (try clear M63)
  (try clear H63)
  (try clear G63)
  (try clear hin63)
  (try clear e64)
  (try clear W64)
  (try clear st64)
  (try clear pre65)
  (try clear N67)
  (try clear O67)
  (try clear f68)
  (try clear pre69)
  (try clear e70)
  (try clear st70)
  (try clear pre71)
  (try clear q72)
  (try clear S72)
  (try clear M72)
  (try clear H72)
  (try clear G72)
  (try clear hin72)
  (try clear e73)
  (try clear W73)
  (try clear st73)
  (try clear pre74)
  (try clear N76)
  (try clear O76)
  (try clear f77)
  (try clear pre78)
  (try clear e79)
  (try clear st79)
  (try clear pre80)
  (try clear q81)
  (try clear S81)
  (try clear M81)
  (try clear H81)
  (try clear G81)
  (try clear hin81)
  (try clear e82)
  (try clear W82)
  (try clear st82)
  (try clear pre83)
  (try clear N85)
  (try clear O85)
  (try clear f86)
  (try clear pre87)
  (try clear e88)
  (try clear st88)
  (try clear pre89)
  (try clear q90)
  (try clear S90)
  (try clear M90)
  (try clear H90)
  (try clear G90)
  (try clear hin90)
  (try clear e91)
  (try clear W91)
  (try clear st91)
  (try clear pre92)
  (try clear N94)
  (try clear O94)
  (try clear f95)
  (try clear pre96)
  (try clear e97)
  (try clear st97)
  (try clear pre98)
  (try clear q99)
  (try clear S99)
  (try clear M99)
  (try clear H99)
  (try clear G99)
  (try clear hin99)
  (try clear e100)
  (try clear W100)
  (try clear st100)
  (try clear pre101)
  (try clear N103)
  (try clear O103)
  (try clear f104)
  (try clear pre105)
  (try clear e106)
  (try clear st106)
  (try clear pre107)
  (try clear q108)
  (try clear S108)
  (try clear M108)
  (try clear H108)
  (try clear G108)
  (try clear hin108)
  (try clear e109)
  (try clear W109)
  (try clear st109)
  (try clear pre110)
  (try clear N112)
  (try clear O112)
  (try clear f113)
  (try clear pre114)
  (try clear e115)
  (try clear E115)
  (try clear A115)
  (try clear st115)
  (try clear g115)
  (try clear pre116)
  (try clear f119)
  (try clear O118)
  (try clear f120)
  (try clear pre121)
  (try clear q122)
  (try clear S122)
  (try clear M122)
  (try clear H122)
  (try clear G122)
  (try clear hin122)
  (try clear e123)
  (try clear W123)
  (try clear st123)
  (try clear pre124)
  (try clear f125)
  (try clear N127)
  (try clear O127)
  (try clear f128)
  (try clear pre129)
  (try clear q130)
  (try clear S130)
  (try clear M130)
  (try clear H130)
  (try clear G130)
  (try clear hin130)
  (try clear e131)
  (try clear W131)
  (try clear st131)
  (try clear pre132)
  (try clear f133)
  (try clear N135)
  (try clear O135)
  (try clear f136)
  (try clear pre137)
  (try clear q138)
  (try clear S138)
  (try clear M138)
  (try clear H138)
  (try clear G138)
  (try clear hin138)
  (try clear e139)
  (try clear W139)
  (try clear st139)
  (try clear pre140)
  (try clear f141)
  (try clear N143)
  (try clear O143)
  (try clear f144)
  (try clear pre145)
  (try clear q146)
  (try clear S146)
  (try clear M146)
  (try clear H146)
  (try clear G146)
  (try clear hin146)
  (try clear e147)
  (try clear W147)
  (try clear st147)
  (try clear pre148)
  (try clear f149)
  (try clear N151)
  (try clear O151)
  (try clear f152)
  (try clear pre153)
  (try clear q154)
  (try clear S154)
  (try clear M154)
  (try clear H154)
  (try clear G154)
  (try clear hin154)
  (try clear e155)
  (try clear W155)
  (try clear st155)
  (try clear pre156)
  (try clear f157)
  (try clear N159)
  (try clear O159)
  (try clear f160)
  (try clear pre161)
  (try clear q162)
  (try clear S162)
  (try clear M162)
  (try clear H162)
  (try clear G162)
  (try clear hin162)
  (try clear e163)
  (try clear W163)
  (try clear st163)
  (try clear pre164)
  (try clear f165)
  (try clear N167)
  (try clear O167)
  (try clear f168)
  (try clear pre169)
  (try clear q170)
  (try clear S170)
  (try clear M170)
  (try clear H170)
  (try clear G170)
  (try clear hin170)
  (try clear e171)
  (try clear W171)
  (try clear st171)
  (try clear pre172)
  (try clear f173)
  (try clear N175)
  (try clear O175)
  (try clear f176)
  (try clear pre177)
  (try clear q178)
  (try clear S178)
  (try clear M178)
  (try clear H178)
  (try clear G178)
  (try clear hin178)
  (try clear e179)
  (try clear W179)
  (try clear st179)
  (try clear pre180)
  (try clear f181)
  (try clear N183)
  (try clear O183)
  (try clear f184)
  (try clear pre185)
  (try clear q186)
  (try clear S186)
  (try clear M186)
  (try clear H186)
  (try clear G186)
  (try clear hin186)
  (try clear e187)
  (try clear W187)
  (try clear st187)
  (try clear pre188)
  (try clear f189)
  (try clear N191)
  (try clear O191)
  (try clear f192)
  (try clear pre193)
  (try clear q194)
  (try clear S194)
  (try clear M194)
  (try clear H194)
  (try clear G194)
  (try clear hin194)
  (try clear e195)
  (try clear W195)
  (try clear st195)
  (try clear pre196)
  (try clear f197)
  (try clear N199)
  (try clear O199)
  (try clear f200)
  (try clear pre201)
  (try clear q202)
  (try clear S202)
  (try clear M202)
  (try clear H202)
  (try clear G202)
  (try clear hin202)
  (try clear e203)
  (try clear W203)
  (try clear st203)
  (try clear pre204)
  (try clear f205)
  (try clear N207)
  (try clear O207)
  (try clear f208)
  (try clear pre209)
  (try clear q210)
  (try clear S210)
  (try clear M210)
  (try clear H210)
  (try clear G210)
  (try clear hin210)
  (try clear W211)
  (try clear st211)
  (try clear pre212)
  (try clear pre218)
  have HS : x217 = (0 : Int32) ∨ x217 = (1 : Int32) ∨ x217 = (2 : Int32) ∨ x217 = (3 : Int32) ∨ x217 = (4 : Int32) ∨ x217 = (5 : Int32) ∨ x217 = (6 : Int32) ∨ x217 = (7 : Int32) ∨ x217 = (8 : Int32) ∨ x217 = (9 : Int32) ∨ x217 = (10 : Int32) ∨ x217 = (11 : Int32) := by rw [hx217]; exact own_rem12 _
  obtain ⟨cA, ArA, qA, SA, MA, HA, GA⟩ := id f213
  obtain ⟨cB, ArB, qB, SB, MB, HB, GB⟩ := id f216
  have hinA := inb_of SA (own_rng HS)
  have hinB := inb_of SB (own_rng HS)
  obtain ⟨kk, vv, hatA, hatB, E_kk, hvv⟩ := own_pick SA HA SB HB E_w_BEGIN E_w_COMMIT E_w_ROLLBACK E_w_PREPARE_TRANSACTION E_w_SET E_w_CHANGES_NO_ROW E_w_DISCARD E_w_DEALLOCATE E_w_PREPARE E_w_COPY E_w_DEFINITION E_w_OTHER ne_BEGIN_COPY ne_BEGIN_DEFINITION ne_BEGIN_OTHER ne_COMMIT_COPY ne_COMMIT_DEFINITION ne_COMMIT_OTHER ne_ROLLBACK_COPY ne_ROLLBACK_DEFINITION ne_ROLLBACK_OTHER ne_PREPARE_TRANSACTION_COPY ne_PREPARE_TRANSACTION_DEFINITION ne_PREPARE_TRANSACTION_OTHER ne_SET_COPY ne_SET_DEFINITION ne_SET_OTHER ne_CHANGES_NO_ROW_COPY ne_CHANGES_NO_ROW_DEFINITION ne_CHANGES_NO_ROW_OTHER ne_DISCARD_COPY ne_DISCARD_DEFINITION ne_DISCARD_OTHER ne_DEALLOCATE_COPY ne_DEALLOCATE_DEFINITION ne_DEALLOCATE_OTHER ne_PREPARE_COPY ne_PREPARE_DEFINITION ne_PREPARE_OTHER ne_COPY_OTHER ne_DEFINITION_OTHER ne_COPY_DEFINITION x217 HS
  have pre220 : ∀ t, Steps p.tables e below (T211.setTop (mkF m 154 #[iv pi0, rv b2, rv b115, iv x217] [(.ref kk)])) t → Go t := fun t kt => pre219 t (by
      refine X211.aaload hx (j := x217) (v := (.ref kk)) (by rw [e211]; exact ArA.1) (State.isArrayOf_alike hZ.alike ArA.2.1) rfl ArA.2.2 hinA hatA (g := (mkF m 153 #[iv pi0, rv b2, rv b115, iv x217] [(.int x217), (.ref b2)])) rfl rfl (hb hby at_153) _ ?_
      show Steps p.tables e below (T211.setTop (mkF m 154 #[iv pi0, rv b2, rv b115, iv x217] [(.ref kk)])) _
      exact kt)
  obtain ⟨cq221, kq221, q221a, q221b, q221c⟩ := isOf hZ e211 (E_kk.ext O215.2)
  obtain ⟨v221, _, ⟨T221, L221, k221, n221⟩, -, X221, ⟨Lc221, hQ221, l221, y221, z221⟩, st221⟩ := X211.virtualBack hx (y := (⟨"com/example/certline/certline/capture/Script$Kind", "mayChangeRows", "()Z"⟩ : MethodName)) (z := (⟨"com/example/certline/certline/capture/Script$Kind", "mayChangeRows", "()Z"⟩ : MethodName)) hown (mvT hZ (hw _ (List.mem_of_getElem? (i := 30) rfl))) (mvT hZ (hw _ (List.mem_of_getElem? (i := 31) rfl))) (notFace_of_selects (args := #[]) (mvT hZ (hw _ (List.mem_of_getElem? (i := 33) rfl)))) (mvT hZ (hw _ (List.mem_of_getElem? (i := 33) rfl))) (mvT hZ (hw _ (List.mem_of_getElem? (i := 32) rfl))) (by decide) (backOf (W := 0) (rm1 l Z a0 hw [] kk w_OTHER w_COPY w_DEFINITION h211 n0 O215 S_OTHER S_COPY S_DEFINITION) hZ (hw _ (List.mem_of_getElem? (i := 34) rfl)) (hw _ (List.mem_of_getElem? (i := 3) rfl)) (by decide) (by decide)) q221a q221c (g := (mkF m 154 #[iv pi0, rv b2, rv b115, iv x217] [(.ref kk)])) rfl (by rw [hml]; rfl) (Steps.refl _) (argsL := []) (rest := []) (lenOf pd___Z rfl) rfl (by show 2 * 0 + _ ≤ _; exact Nat.le_of_eq rfl) (hb hby at_154) (fun _ _ => ⟨rfl, e211, (by decide : 2 + 0 ≤ _), (by decide : 24 + 0 ≤ _)⟩)
  dsimp only [Pt.U, Pt.locs, Pt.cells, Pt.slots] at X221 l221 y221 z221 st221 hQ221
  replace l221 := l221.symm
  subst l221 y221 z221
  obtain ⟨hv221, N221q, e221q⟩ := hQ221
  have N222 := Fr.app N215 N221q
  have hw221 := hv221
  obtain ⟨x223, hx223⟩ : ∃ z : Int32, z = (if kk = w_OTHER then (1 : Int32) else (if kk = w_COPY then (1 : Int32) else (if kk = w_DEFINITION then (1 : Int32) else (0 : Int32)))) := ⟨_, rfl⟩
  rw [← hx223] at hw221
  subst hw221
  have pre224 : ∀ t, Steps p.tables e below (T221.setTop (mkF m 157 #[iv pi0, rv b2, rv b115, iv x217] [(.int x223)])) t → Go t := fun t kt => pre220 t (st221.trans kt)
  have pre225 : ∀ t, Steps p.tables e below (T221.setTop (mkF m 159 #[iv pi0, rv b2, rv b115, iv x217] [(.int x217), (.ref b115), (.int x223)])) t → Go t := fun t kt => pre224 t (by
      refine y_aloadN X221.here hx (hb hby at_157) rfl rfl (pc' := 158) rfl ?_
      refine y_iloadN X221.here hx (hb hby at_158) rfl (pc' := 159) rfl ?_
      exact kt)
  have pre226 : ∀ t, Steps p.tables e below (T221.setTop (mkF m 160 #[iv pi0, rv b2, rv b115, iv x217] [(.int vv), (.int x223)])) t → Go t := fun t kt => pre225 t (by
      refine X221.baloadBooleans hx (j := x217) (v := (.int vv)) (by rw [e221q]; exact ArB.1) (State.isArrayOf_alike hZ.alike ArB.2.1) ArB.2.2 hinB hatB (g := (mkF m 159 #[iv pi0, rv b2, rv b115, iv x217] [(.int x217), (.ref b115), (.int x223)])) rfl rfl (hb hby at_159) _ ?_
      show Steps p.tables e below (T221.setTop (mkF m 160 #[iv pi0, rv b2, rv b115, iv x217] [(.int vv), (.int x223)])) _
      exact kt)
  have hf160_227 : x223 = vv := by
      rw [hx223]; exact hvv
  have pre228 : ∀ t, Steps p.tables e below (T221.setTop (mkF m 168 #[iv pi0, rv b2, rv b115, iv x217] [(.int (1 : Int32))])) t → Go t := fun t kt => pre226 t (by
      refine y_icmpNo X221.here hx (hb hby at_160) (teq hf160_227).2 (pc' := 163) rfl ?_
      refine y_iconst X221.here hx (hb hby at_163) (v := (1 : Int32)) rfl (pc' := 164) rfl ?_
      refine y_goto X221.here hx (hb hby at_164) (pc' := 168) (by decide) rfl ?_
      exact kt)
  obtain ⟨fs, hr, hrun, hended, hW, hsame⟩ := X221.leave (v := some (.int (1 : Int32))) (fun h => by rw [Bd.returns] at h; cases h)
  refine ⟨_, _, (hGo _).mp (pre228 _ ?_), hrun, hended, _, _, rfl, ?_, ⟨_, rfl⟩, hW, hsame.mono (by decide) (by decide)⟩
  · exact retN X221 hx (t := .boolean) Bd.returns (by simp) (hb hby at_168) hr
  · show Q0 Z pi0 w_BEGIN w_COMMIT w_ROLLBACK w_PREPARE_TRANSACTION w_SET w_CHANGES_NO_ROW w_DISCARD w_DEALLOCATE w_PREPARE w_COPY w_DEFINITION w_OTHER h0 n0 _ T221.heap _
    rw [e221q]
    exact ⟨rfl, N222⟩
set_option maxRecDepth 65536 in
set_option maxHeartbeats 40000000 in
theorem comes_1 {Post : Tables → Env → Array Value → State → Outcome → State → Prop} (hpost : ∀ tb e args s v u, (limb_1_1.after args s (.returned v) u = true ∧ limb_1_2.after args s (.returned v) u = true ∧ True) → FrameEnd s (.returned v) u (Jvm.fieldLocs frame_1_writes args s ++ Jvm.arrayLocs frame_1_arrays args s ++ Jvm.staticLocs frame_1_statics s) 16 128 → Post tb e args s (.returned v) u) :
    ArmFor flags0 classFile x code maxLocals ret World_1 tables_1 room_1 Calls_1 rest_1 Pre_1 Post := by
  intro l hfl _ _ p e ha hc hk s m args below hf hA hF happ hP
  obtain ⟨hcalls, hrest, hpre⟩ := hP
  obtain ⟨-, -, -, hnamed, -, -, -, hat⟩ := (Spec.applies_iff hf).mp happ
  obtain ⟨hg, hn⟩ := and_e (Cond.before_iff.mp (show (Jvm.Cond.and given_1 narrow_1).before args s = true from hpre))
  obtain ⟨g0, gr0⟩ := and_e hg
  obtain ⟨w0, rfl⟩ : ∃ w0 : Value, args = #[w0] := by
    have hs : args.size = 1 := by simpa [Cond.value, given_1] using g0
    obtain ⟨L⟩ := args
    match L, hs with
    | [w0], _ => exact ⟨w0, rfl⟩
  have hw := fun d (hd : d ∈ tables_1) => atoms_spec (ws := Jvm.Cond.code x code maxLocals ret :: tables_1) hat d (List.mem_cons_of_mem _ hd)
  have hfit : Fit s := fun {y c} hc i hi => by
    obtain ⟨ha, rfl⟩ := Array.getElem?_eq_some_iff.mp hc
    have q := List.all_eq_true.mp ((Array.all_eq_true_iff_forall_mem.mp hF) _ (Array.getElem_mem ha)) i (List.mem_range.mpr hi)
    simpa [Array.getElem?_eq_getElem hi] using q
  obtain ⟨i0, ei0⟩ := is_v gr0
  obtain rfl : w0 = (.int i0) := Option.some.inj ei0
  obtain ⟨n0, nr0⟩ := and_e hn
  obtain ⟨n1, nr1⟩ := and_e nr0
  obtain ⟨n2, nr2⟩ := and_e nr1
  obtain ⟨n3, nr3⟩ := and_e nr2
  obtain ⟨n4, nr4⟩ := and_e nr3
  obtain ⟨n5, nr5⟩ := and_e nr4
  obtain ⟨n6, nr6⟩ := and_e nr5
  obtain ⟨n7, nr7⟩ := and_e nr6
  obtain ⟨n8, nr8⟩ := and_e nr7
  obtain ⟨n9, nr9⟩ := and_e nr8
  obtain ⟨n10, nr10⟩ := and_e nr9
  obtain ⟨n11, nr11⟩ := and_e nr10
  obtain ⟨n12, nr12⟩ := and_e nr11
  obtain ⟨n13, nr13⟩ := and_e nr12
  obtain ⟨n14, nr14⟩ := and_e nr13
  obtain ⟨n15, nr15⟩ := and_e nr14
  obtain ⟨n16, nr16⟩ := and_e nr15
  obtain ⟨n17, nr17⟩ := and_e nr16
  obtain ⟨n18, nr18⟩ := and_e nr17
  obtain ⟨n19, nr19⟩ := and_e nr18
  obtain ⟨n20, nr20⟩ := and_e nr19
  obtain ⟨n21, nr21⟩ := and_e nr20
  obtain ⟨n22, nr22⟩ := and_e nr21
  obtain ⟨w_BEGIN, ev_BEGIN⟩ := exa_v n0
  have S_BEGIN := Sta.start ev_BEGIN (Or.inr ⟨(hw _ (List.mem_of_getElem? (i := 3) rfl)), (hw _ (List.mem_of_getElem? (i := 4) rfl))⟩)
  have E_w_BEGIN := Exa.start ev_BEGIN n0
  obtain ⟨w_COMMIT, ev_COMMIT⟩ := exa_v n1
  have S_COMMIT := Sta.start ev_COMMIT (Or.inr ⟨(hw _ (List.mem_of_getElem? (i := 3) rfl)), (hw _ (List.mem_of_getElem? (i := 7) rfl))⟩)
  have E_w_COMMIT := Exa.start ev_COMMIT n1
  obtain ⟨w_ROLLBACK, ev_ROLLBACK⟩ := exa_v n2
  have S_ROLLBACK := Sta.start ev_ROLLBACK (Or.inr ⟨(hw _ (List.mem_of_getElem? (i := 3) rfl)), (hw _ (List.mem_of_getElem? (i := 9) rfl))⟩)
  have E_w_ROLLBACK := Exa.start ev_ROLLBACK n2
  obtain ⟨w_PREPARE_TRANSACTION, ev_PREPARE_TRANSACTION⟩ := exa_v n3
  have S_PREPARE_TRANSACTION := Sta.start ev_PREPARE_TRANSACTION (Or.inr ⟨(hw _ (List.mem_of_getElem? (i := 3) rfl)), (hw _ (List.mem_of_getElem? (i := 11) rfl))⟩)
  have E_w_PREPARE_TRANSACTION := Exa.start ev_PREPARE_TRANSACTION n3
  obtain ⟨w_SET, ev_SET⟩ := exa_v n4
  have S_SET := Sta.start ev_SET (Or.inr ⟨(hw _ (List.mem_of_getElem? (i := 3) rfl)), (hw _ (List.mem_of_getElem? (i := 13) rfl))⟩)
  have E_w_SET := Exa.start ev_SET n4
  obtain ⟨w_CHANGES_NO_ROW, ev_CHANGES_NO_ROW⟩ := exa_v n5
  have S_CHANGES_NO_ROW := Sta.start ev_CHANGES_NO_ROW (Or.inr ⟨(hw _ (List.mem_of_getElem? (i := 3) rfl)), (hw _ (List.mem_of_getElem? (i := 15) rfl))⟩)
  have E_w_CHANGES_NO_ROW := Exa.start ev_CHANGES_NO_ROW n5
  obtain ⟨w_DISCARD, ev_DISCARD⟩ := exa_v n6
  have S_DISCARD := Sta.start ev_DISCARD (Or.inr ⟨(hw _ (List.mem_of_getElem? (i := 3) rfl)), (hw _ (List.mem_of_getElem? (i := 17) rfl))⟩)
  have E_w_DISCARD := Exa.start ev_DISCARD n6
  obtain ⟨w_DEALLOCATE, ev_DEALLOCATE⟩ := exa_v n7
  have S_DEALLOCATE := Sta.start ev_DEALLOCATE (Or.inr ⟨(hw _ (List.mem_of_getElem? (i := 3) rfl)), (hw _ (List.mem_of_getElem? (i := 19) rfl))⟩)
  have E_w_DEALLOCATE := Exa.start ev_DEALLOCATE n7
  obtain ⟨w_PREPARE, ev_PREPARE⟩ := exa_v n8
  have S_PREPARE := Sta.start ev_PREPARE (Or.inr ⟨(hw _ (List.mem_of_getElem? (i := 3) rfl)), (hw _ (List.mem_of_getElem? (i := 21) rfl))⟩)
  have E_w_PREPARE := Exa.start ev_PREPARE n8
  obtain ⟨w_COPY, ev_COPY⟩ := exa_v n9
  have S_COPY := Sta.start ev_COPY (Or.inr ⟨(hw _ (List.mem_of_getElem? (i := 3) rfl)), (hw _ (List.mem_of_getElem? (i := 23) rfl))⟩)
  have E_w_COPY := Exa.start ev_COPY n9
  obtain ⟨w_DEFINITION, ev_DEFINITION⟩ := exa_v n10
  have S_DEFINITION := Sta.start ev_DEFINITION (Or.inr ⟨(hw _ (List.mem_of_getElem? (i := 3) rfl)), (hw _ (List.mem_of_getElem? (i := 25) rfl))⟩)
  have E_w_DEFINITION := Exa.start ev_DEFINITION n10
  obtain ⟨w_OTHER, ev_OTHER⟩ := exa_v n11
  have S_OTHER := Sta.start ev_OTHER (Or.inr ⟨(hw _ (List.mem_of_getElem? (i := 3) rfl)), (hw _ (List.mem_of_getElem? (i := 27) rfl))⟩)
  have E_w_OTHER := Exa.start ev_OTHER n11
  have F_ordinal_w_BEGIN := Fld.start ((fld_at ev_BEGIN).symm.trans (own_eqI n12))
  have F_ordinal_w_OTHER := Fld.start ((fld_at ev_OTHER).symm.trans (own_eqI n13))
  have F_ordinal_w_COPY := Fld.start ((fld_at ev_COPY).symm.trans (own_eqI n14))
  have F_ordinal_w_DEFINITION := Fld.start ((fld_at ev_DEFINITION).symm.trans (own_eqI n15))
  have F_ordinal_w_PREPARE_TRANSACTION := Fld.start ((fld_at ev_PREPARE_TRANSACTION).symm.trans (own_eqI n16))
  have F_ordinal_w_ROLLBACK := Fld.start ((fld_at ev_ROLLBACK).symm.trans (own_eqI n17))
  have F_ordinal_w_DEALLOCATE := Fld.start ((fld_at ev_DEALLOCATE).symm.trans (own_eqI n18))
  have F_ordinal_w_SET := Fld.start ((fld_at ev_SET).symm.trans (own_eqI n19))
  have F_ordinal_w_PREPARE := Fld.start ((fld_at ev_PREPARE).symm.trans (own_eqI n20))
  have F_ordinal_w_COMMIT := Fld.start ((fld_at ev_COMMIT).symm.trans (own_eqI n21))
  have F_ordinal_w_DISCARD := Fld.start ((fld_at ev_DISCARD).symm.trans (own_eqI n22))
  have F_ordinal_w_CHANGES_NO_ROW := Fld.start ((fld_at ev_CHANGES_NO_ROW).symm.trans (own_eqI nr22))
  have ne_BEGIN_COMMIT : w_BEGIN ≠ w_COMMIT := Fld.ne F_ordinal_w_BEGIN F_ordinal_w_COMMIT (fun q => absurd (Value.int.inj q) (by decide))
  have ne_BEGIN_ROLLBACK : w_BEGIN ≠ w_ROLLBACK := Fld.ne F_ordinal_w_BEGIN F_ordinal_w_ROLLBACK (fun q => absurd (Value.int.inj q) (by decide))
  have ne_BEGIN_PREPARE_TRANSACTION : w_BEGIN ≠ w_PREPARE_TRANSACTION := Fld.ne F_ordinal_w_BEGIN F_ordinal_w_PREPARE_TRANSACTION (fun q => absurd (Value.int.inj q) (by decide))
  have ne_BEGIN_SET : w_BEGIN ≠ w_SET := Fld.ne F_ordinal_w_BEGIN F_ordinal_w_SET (fun q => absurd (Value.int.inj q) (by decide))
  have ne_BEGIN_CHANGES_NO_ROW : w_BEGIN ≠ w_CHANGES_NO_ROW := Fld.ne F_ordinal_w_BEGIN F_ordinal_w_CHANGES_NO_ROW (fun q => absurd (Value.int.inj q) (by decide))
  have ne_BEGIN_DISCARD : w_BEGIN ≠ w_DISCARD := Fld.ne F_ordinal_w_BEGIN F_ordinal_w_DISCARD (fun q => absurd (Value.int.inj q) (by decide))
  have ne_BEGIN_DEALLOCATE : w_BEGIN ≠ w_DEALLOCATE := Fld.ne F_ordinal_w_BEGIN F_ordinal_w_DEALLOCATE (fun q => absurd (Value.int.inj q) (by decide))
  have ne_BEGIN_PREPARE : w_BEGIN ≠ w_PREPARE := Fld.ne F_ordinal_w_BEGIN F_ordinal_w_PREPARE (fun q => absurd (Value.int.inj q) (by decide))
  have ne_BEGIN_COPY : w_BEGIN ≠ w_COPY := Fld.ne F_ordinal_w_BEGIN F_ordinal_w_COPY (fun q => absurd (Value.int.inj q) (by decide))
  have ne_BEGIN_DEFINITION : w_BEGIN ≠ w_DEFINITION := Fld.ne F_ordinal_w_BEGIN F_ordinal_w_DEFINITION (fun q => absurd (Value.int.inj q) (by decide))
  have ne_BEGIN_OTHER : w_BEGIN ≠ w_OTHER := Fld.ne F_ordinal_w_BEGIN F_ordinal_w_OTHER (fun q => absurd (Value.int.inj q) (by decide))
  have ne_COMMIT_ROLLBACK : w_COMMIT ≠ w_ROLLBACK := Fld.ne F_ordinal_w_COMMIT F_ordinal_w_ROLLBACK (fun q => absurd (Value.int.inj q) (by decide))
  have ne_COMMIT_PREPARE_TRANSACTION : w_COMMIT ≠ w_PREPARE_TRANSACTION := Fld.ne F_ordinal_w_COMMIT F_ordinal_w_PREPARE_TRANSACTION (fun q => absurd (Value.int.inj q) (by decide))
  have ne_COMMIT_SET : w_COMMIT ≠ w_SET := Fld.ne F_ordinal_w_COMMIT F_ordinal_w_SET (fun q => absurd (Value.int.inj q) (by decide))
  have ne_COMMIT_CHANGES_NO_ROW : w_COMMIT ≠ w_CHANGES_NO_ROW := Fld.ne F_ordinal_w_COMMIT F_ordinal_w_CHANGES_NO_ROW (fun q => absurd (Value.int.inj q) (by decide))
  have ne_COMMIT_DISCARD : w_COMMIT ≠ w_DISCARD := Fld.ne F_ordinal_w_COMMIT F_ordinal_w_DISCARD (fun q => absurd (Value.int.inj q) (by decide))
  have ne_COMMIT_DEALLOCATE : w_COMMIT ≠ w_DEALLOCATE := Fld.ne F_ordinal_w_COMMIT F_ordinal_w_DEALLOCATE (fun q => absurd (Value.int.inj q) (by decide))
  have ne_COMMIT_PREPARE : w_COMMIT ≠ w_PREPARE := Fld.ne F_ordinal_w_COMMIT F_ordinal_w_PREPARE (fun q => absurd (Value.int.inj q) (by decide))
  have ne_COMMIT_COPY : w_COMMIT ≠ w_COPY := Fld.ne F_ordinal_w_COMMIT F_ordinal_w_COPY (fun q => absurd (Value.int.inj q) (by decide))
  have ne_COMMIT_DEFINITION : w_COMMIT ≠ w_DEFINITION := Fld.ne F_ordinal_w_COMMIT F_ordinal_w_DEFINITION (fun q => absurd (Value.int.inj q) (by decide))
  have ne_COMMIT_OTHER : w_COMMIT ≠ w_OTHER := Fld.ne F_ordinal_w_COMMIT F_ordinal_w_OTHER (fun q => absurd (Value.int.inj q) (by decide))
  have ne_ROLLBACK_PREPARE_TRANSACTION : w_ROLLBACK ≠ w_PREPARE_TRANSACTION := Fld.ne F_ordinal_w_ROLLBACK F_ordinal_w_PREPARE_TRANSACTION (fun q => absurd (Value.int.inj q) (by decide))
  have ne_ROLLBACK_SET : w_ROLLBACK ≠ w_SET := Fld.ne F_ordinal_w_ROLLBACK F_ordinal_w_SET (fun q => absurd (Value.int.inj q) (by decide))
  have ne_ROLLBACK_CHANGES_NO_ROW : w_ROLLBACK ≠ w_CHANGES_NO_ROW := Fld.ne F_ordinal_w_ROLLBACK F_ordinal_w_CHANGES_NO_ROW (fun q => absurd (Value.int.inj q) (by decide))
  have ne_ROLLBACK_DISCARD : w_ROLLBACK ≠ w_DISCARD := Fld.ne F_ordinal_w_ROLLBACK F_ordinal_w_DISCARD (fun q => absurd (Value.int.inj q) (by decide))
  have ne_ROLLBACK_DEALLOCATE : w_ROLLBACK ≠ w_DEALLOCATE := Fld.ne F_ordinal_w_ROLLBACK F_ordinal_w_DEALLOCATE (fun q => absurd (Value.int.inj q) (by decide))
  have ne_ROLLBACK_PREPARE : w_ROLLBACK ≠ w_PREPARE := Fld.ne F_ordinal_w_ROLLBACK F_ordinal_w_PREPARE (fun q => absurd (Value.int.inj q) (by decide))
  have ne_ROLLBACK_COPY : w_ROLLBACK ≠ w_COPY := Fld.ne F_ordinal_w_ROLLBACK F_ordinal_w_COPY (fun q => absurd (Value.int.inj q) (by decide))
  have ne_ROLLBACK_DEFINITION : w_ROLLBACK ≠ w_DEFINITION := Fld.ne F_ordinal_w_ROLLBACK F_ordinal_w_DEFINITION (fun q => absurd (Value.int.inj q) (by decide))
  have ne_ROLLBACK_OTHER : w_ROLLBACK ≠ w_OTHER := Fld.ne F_ordinal_w_ROLLBACK F_ordinal_w_OTHER (fun q => absurd (Value.int.inj q) (by decide))
  have ne_PREPARE_TRANSACTION_SET : w_PREPARE_TRANSACTION ≠ w_SET := Fld.ne F_ordinal_w_PREPARE_TRANSACTION F_ordinal_w_SET (fun q => absurd (Value.int.inj q) (by decide))
  have ne_PREPARE_TRANSACTION_CHANGES_NO_ROW : w_PREPARE_TRANSACTION ≠ w_CHANGES_NO_ROW := Fld.ne F_ordinal_w_PREPARE_TRANSACTION F_ordinal_w_CHANGES_NO_ROW (fun q => absurd (Value.int.inj q) (by decide))
  have ne_PREPARE_TRANSACTION_DISCARD : w_PREPARE_TRANSACTION ≠ w_DISCARD := Fld.ne F_ordinal_w_PREPARE_TRANSACTION F_ordinal_w_DISCARD (fun q => absurd (Value.int.inj q) (by decide))
  have ne_PREPARE_TRANSACTION_DEALLOCATE : w_PREPARE_TRANSACTION ≠ w_DEALLOCATE := Fld.ne F_ordinal_w_PREPARE_TRANSACTION F_ordinal_w_DEALLOCATE (fun q => absurd (Value.int.inj q) (by decide))
  have ne_PREPARE_TRANSACTION_PREPARE : w_PREPARE_TRANSACTION ≠ w_PREPARE := Fld.ne F_ordinal_w_PREPARE_TRANSACTION F_ordinal_w_PREPARE (fun q => absurd (Value.int.inj q) (by decide))
  have ne_PREPARE_TRANSACTION_COPY : w_PREPARE_TRANSACTION ≠ w_COPY := Fld.ne F_ordinal_w_PREPARE_TRANSACTION F_ordinal_w_COPY (fun q => absurd (Value.int.inj q) (by decide))
  have ne_PREPARE_TRANSACTION_DEFINITION : w_PREPARE_TRANSACTION ≠ w_DEFINITION := Fld.ne F_ordinal_w_PREPARE_TRANSACTION F_ordinal_w_DEFINITION (fun q => absurd (Value.int.inj q) (by decide))
  have ne_PREPARE_TRANSACTION_OTHER : w_PREPARE_TRANSACTION ≠ w_OTHER := Fld.ne F_ordinal_w_PREPARE_TRANSACTION F_ordinal_w_OTHER (fun q => absurd (Value.int.inj q) (by decide))
  have ne_SET_CHANGES_NO_ROW : w_SET ≠ w_CHANGES_NO_ROW := Fld.ne F_ordinal_w_SET F_ordinal_w_CHANGES_NO_ROW (fun q => absurd (Value.int.inj q) (by decide))
  have ne_SET_DISCARD : w_SET ≠ w_DISCARD := Fld.ne F_ordinal_w_SET F_ordinal_w_DISCARD (fun q => absurd (Value.int.inj q) (by decide))
  have ne_SET_DEALLOCATE : w_SET ≠ w_DEALLOCATE := Fld.ne F_ordinal_w_SET F_ordinal_w_DEALLOCATE (fun q => absurd (Value.int.inj q) (by decide))
  have ne_SET_PREPARE : w_SET ≠ w_PREPARE := Fld.ne F_ordinal_w_SET F_ordinal_w_PREPARE (fun q => absurd (Value.int.inj q) (by decide))
  have ne_SET_COPY : w_SET ≠ w_COPY := Fld.ne F_ordinal_w_SET F_ordinal_w_COPY (fun q => absurd (Value.int.inj q) (by decide))
  have ne_SET_DEFINITION : w_SET ≠ w_DEFINITION := Fld.ne F_ordinal_w_SET F_ordinal_w_DEFINITION (fun q => absurd (Value.int.inj q) (by decide))
  have ne_SET_OTHER : w_SET ≠ w_OTHER := Fld.ne F_ordinal_w_SET F_ordinal_w_OTHER (fun q => absurd (Value.int.inj q) (by decide))
  have ne_CHANGES_NO_ROW_DISCARD : w_CHANGES_NO_ROW ≠ w_DISCARD := Fld.ne F_ordinal_w_CHANGES_NO_ROW F_ordinal_w_DISCARD (fun q => absurd (Value.int.inj q) (by decide))
  have ne_CHANGES_NO_ROW_DEALLOCATE : w_CHANGES_NO_ROW ≠ w_DEALLOCATE := Fld.ne F_ordinal_w_CHANGES_NO_ROW F_ordinal_w_DEALLOCATE (fun q => absurd (Value.int.inj q) (by decide))
  have ne_CHANGES_NO_ROW_PREPARE : w_CHANGES_NO_ROW ≠ w_PREPARE := Fld.ne F_ordinal_w_CHANGES_NO_ROW F_ordinal_w_PREPARE (fun q => absurd (Value.int.inj q) (by decide))
  have ne_CHANGES_NO_ROW_COPY : w_CHANGES_NO_ROW ≠ w_COPY := Fld.ne F_ordinal_w_CHANGES_NO_ROW F_ordinal_w_COPY (fun q => absurd (Value.int.inj q) (by decide))
  have ne_CHANGES_NO_ROW_DEFINITION : w_CHANGES_NO_ROW ≠ w_DEFINITION := Fld.ne F_ordinal_w_CHANGES_NO_ROW F_ordinal_w_DEFINITION (fun q => absurd (Value.int.inj q) (by decide))
  have ne_CHANGES_NO_ROW_OTHER : w_CHANGES_NO_ROW ≠ w_OTHER := Fld.ne F_ordinal_w_CHANGES_NO_ROW F_ordinal_w_OTHER (fun q => absurd (Value.int.inj q) (by decide))
  have ne_DISCARD_DEALLOCATE : w_DISCARD ≠ w_DEALLOCATE := Fld.ne F_ordinal_w_DISCARD F_ordinal_w_DEALLOCATE (fun q => absurd (Value.int.inj q) (by decide))
  have ne_DISCARD_PREPARE : w_DISCARD ≠ w_PREPARE := Fld.ne F_ordinal_w_DISCARD F_ordinal_w_PREPARE (fun q => absurd (Value.int.inj q) (by decide))
  have ne_DISCARD_COPY : w_DISCARD ≠ w_COPY := Fld.ne F_ordinal_w_DISCARD F_ordinal_w_COPY (fun q => absurd (Value.int.inj q) (by decide))
  have ne_DISCARD_DEFINITION : w_DISCARD ≠ w_DEFINITION := Fld.ne F_ordinal_w_DISCARD F_ordinal_w_DEFINITION (fun q => absurd (Value.int.inj q) (by decide))
  have ne_DISCARD_OTHER : w_DISCARD ≠ w_OTHER := Fld.ne F_ordinal_w_DISCARD F_ordinal_w_OTHER (fun q => absurd (Value.int.inj q) (by decide))
  have ne_DEALLOCATE_PREPARE : w_DEALLOCATE ≠ w_PREPARE := Fld.ne F_ordinal_w_DEALLOCATE F_ordinal_w_PREPARE (fun q => absurd (Value.int.inj q) (by decide))
  have ne_DEALLOCATE_COPY : w_DEALLOCATE ≠ w_COPY := Fld.ne F_ordinal_w_DEALLOCATE F_ordinal_w_COPY (fun q => absurd (Value.int.inj q) (by decide))
  have ne_DEALLOCATE_DEFINITION : w_DEALLOCATE ≠ w_DEFINITION := Fld.ne F_ordinal_w_DEALLOCATE F_ordinal_w_DEFINITION (fun q => absurd (Value.int.inj q) (by decide))
  have ne_DEALLOCATE_OTHER : w_DEALLOCATE ≠ w_OTHER := Fld.ne F_ordinal_w_DEALLOCATE F_ordinal_w_OTHER (fun q => absurd (Value.int.inj q) (by decide))
  have ne_PREPARE_COPY : w_PREPARE ≠ w_COPY := Fld.ne F_ordinal_w_PREPARE F_ordinal_w_COPY (fun q => absurd (Value.int.inj q) (by decide))
  have ne_PREPARE_DEFINITION : w_PREPARE ≠ w_DEFINITION := Fld.ne F_ordinal_w_PREPARE F_ordinal_w_DEFINITION (fun q => absurd (Value.int.inj q) (by decide))
  have ne_PREPARE_OTHER : w_PREPARE ≠ w_OTHER := Fld.ne F_ordinal_w_PREPARE F_ordinal_w_OTHER (fun q => absurd (Value.int.inj q) (by decide))
  have ne_COPY_DEFINITION : w_COPY ≠ w_DEFINITION := Fld.ne F_ordinal_w_COPY F_ordinal_w_DEFINITION (fun q => absurd (Value.int.inj q) (by decide))
  have ne_COPY_OTHER : w_COPY ≠ w_OTHER := Fld.ne F_ordinal_w_COPY F_ordinal_w_OTHER (fun q => absurd (Value.int.inj q) (by decide))
  have ne_DEFINITION_OTHER : w_DEFINITION ≠ w_OTHER := Fld.ne F_ordinal_w_DEFINITION F_ordinal_w_OTHER (fun q => absurd (Value.int.inj q) (by decide))
  obtain ⟨n, o, h1, h2, h3, _, L, rfl, ⟨rfl, N⟩, hq⟩ := rm0 l s _ hw tables_1 i0 w_BEGIN w_COMMIT w_ROLLBACK w_PREPARE_TRANSACTION w_SET w_CHANGES_NO_ROW w_DISCARD w_DEALLOCATE w_PREPARE w_COPY w_DEFINITION w_OTHER s.heap s.heap.size (Old.start s) S_BEGIN S_COMMIT S_ROLLBACK S_PREPARE_TRANSACTION S_SET S_CHANGES_NO_ROW S_DISCARD S_DEALLOCATE S_PREPARE S_COPY S_DEFINITION S_OTHER E_w_BEGIN E_w_COMMIT E_w_ROLLBACK E_w_PREPARE_TRANSACTION E_w_SET E_w_CHANGES_NO_ROW E_w_DISCARD E_w_DEALLOCATE E_w_PREPARE E_w_COPY E_w_DEFINITION E_w_OTHER ne_BEGIN_COMMIT ne_BEGIN_ROLLBACK ne_BEGIN_PREPARE_TRANSACTION ne_BEGIN_SET ne_BEGIN_CHANGES_NO_ROW ne_BEGIN_DISCARD ne_BEGIN_DEALLOCATE ne_BEGIN_PREPARE ne_BEGIN_COPY ne_BEGIN_DEFINITION ne_BEGIN_OTHER ne_COMMIT_ROLLBACK ne_COMMIT_PREPARE_TRANSACTION ne_COMMIT_SET ne_COMMIT_CHANGES_NO_ROW ne_COMMIT_DISCARD ne_COMMIT_DEALLOCATE ne_COMMIT_PREPARE ne_COMMIT_COPY ne_COMMIT_DEFINITION ne_COMMIT_OTHER ne_ROLLBACK_PREPARE_TRANSACTION ne_ROLLBACK_SET ne_ROLLBACK_CHANGES_NO_ROW ne_ROLLBACK_DISCARD ne_ROLLBACK_DEALLOCATE ne_ROLLBACK_PREPARE ne_ROLLBACK_COPY ne_ROLLBACK_DEFINITION ne_ROLLBACK_OTHER ne_PREPARE_TRANSACTION_SET ne_PREPARE_TRANSACTION_CHANGES_NO_ROW ne_PREPARE_TRANSACTION_DISCARD ne_PREPARE_TRANSACTION_DEALLOCATE ne_PREPARE_TRANSACTION_PREPARE ne_PREPARE_TRANSACTION_COPY ne_PREPARE_TRANSACTION_DEFINITION ne_PREPARE_TRANSACTION_OTHER ne_SET_CHANGES_NO_ROW ne_SET_DISCARD ne_SET_DEALLOCATE ne_SET_PREPARE ne_SET_COPY ne_SET_DEFINITION ne_SET_OTHER ne_CHANGES_NO_ROW_DISCARD ne_CHANGES_NO_ROW_DEALLOCATE ne_CHANGES_NO_ROW_PREPARE ne_CHANGES_NO_ROW_COPY ne_CHANGES_NO_ROW_DEFINITION ne_CHANGES_NO_ROW_OTHER ne_DISCARD_DEALLOCATE ne_DISCARD_PREPARE ne_DISCARD_COPY ne_DISCARD_DEFINITION ne_DISCARD_OTHER ne_DEALLOCATE_PREPARE ne_DEALLOCATE_COPY ne_DEALLOCATE_DEFINITION ne_DEALLOCATE_OTHER ne_PREPARE_COPY ne_PREPARE_DEFINITION ne_PREPARE_OTHER ne_COPY_DEFINITION ne_COPY_OTHER ne_DEFINITION_OTHER p e ha hc hk s m _ below hf ((Spec.applies_iff_loose hf).mp happ).1 ⟨rfl, State.Warmed39.refl s, rfl⟩ trivial
  refine ⟨n, _, h1, h2, h3, hpost _ _ _ _ _ _ ⟨Cond.after_iff.mpr rfl, Cond.after_iff.mpr (eq_i res_at (Term.int_eval (1)) rfl), trivial⟩ ⟨hq.1, hq.2.1, (hq.2.2.sift fun y hy => Or.inr (N y hy)).mono (by decide) (by decide)⟩⟩
theorem main_1_1 : Claimed_1_1 := comes_1 fun _ _ _ _ _ _ h hF => ⟨h.1, hF⟩
theorem main_1_2 : Claimed_1_2 := comes_1 fun _ _ _ _ _ _ h hF => ⟨h.2.1, hF⟩
end Jvm.Pilot.@@N@@
namespace Jvm.Pilot.@@N@@
open Jvm Jvm.ClassFile Sem Op Lib Jvm.Free Jvm.Stand Jvm.Pilot.@@N@@.Jvm.D
/-! MADE BY PROGRAM (witnessworld.py) out of the Statement's table words and the real class files: 15 classes; the members and pool entries that the words name. The judged class is class 1, her method 1. -/
namespace start1
open Jvm.ClassFile
def u (s : String) : CpInfo := .utf8 (stringToUtf16 s)
/-- a pool by its gaps: so many unusable entries, then the entry; so many at the end -/
def gap : Nat → List CpInfo → List CpInfo
  | 0, r => r
  | n + 1, r => .unusable :: gap n r
def poolList (es : List (Nat × CpInfo)) (last : Nat) : List CpInfo := es.foldr (fun e r => gap e.1 (e.2 :: r)) (gap last [])
def pool (es : List (Nat × CpInfo)) (last : Nat) : Array CpInfo := ⟨poolList es last⟩
def fileOf (pool : Array CpInfo) (this : Nat) (attrs : Array Attribute := #[]) (ms : Array MethodInfo := #[]) (fl : Nat := 33) (sup : Nat := 0) (ifs : Array Nat := #[]) (fds : Array FieldInfo := #[]) : ClassFile where
  minorVersion := 0
  majorVersion := 65
  constantPool := pool
  accessFlags := fl
  thisClass := this
  superClass := sup
  interfaces := ifs
  fields := fds
  methods := ms
  attributes := attrs
def plain (name : String) (sup : Option ClassId) : Class where
  name := name
  kind := .ordinary
  loader := none
  accessFlags := 33
  super := sup
  interfaces := #[]
  cf := none
  fields := #[]
  methods := #[]
  instanceTypes := #[]
  staticTypes := #[]
  resolved := #[]
  callSites := []
  init := .initialized
  statics := none
  mirror := none

def pool0 : Array CpInfo := pool [(5, u "<init>"), (0, u "()V"), (1, .class_ 10), (1, u "java/lang/Object")] 113

def k0m0 : Method := { name := "<init>", desc := "()V", sig := { parameters := [], returnType := none }, accessFlags := 1, code := none }
/-- java/lang/Object -/
def k0 : Class := { plain "java/lang/Object" none with
  accessFlags := 33
  interfaces := #[]
  cf := some (fileOf pool0 8 #[] #[{ accessFlags := 1, nameIndex := 5, descriptorIndex := 6, attributes := #[] }] 33 0 #[] #[])
  fields := #[]
  methods := #[k0m0]
  instanceTypes := #[]
  staticTypes := #[]
  resolved := Array.replicate 124 none
  statics := none }

def pool1 : Array CpInfo := pool [(2, .class_ 4), (1, u "java/lang/Object"), (0, u "<init>"), (0, u "()V"), (0, .class_ 8), (0, u "com/example/certline/certline/capture/Script$Kind"), (0, .fieldref 7 10), (0, .nameAndType 11 12), (0, u "BEGIN"), (0, u "Lcom/example/certline/certline/capture/Script$Kind;"), (0, .fieldref 7 14), (0, .nameAndType 15 12), (0, u "COMMIT"), (0, .fieldref 7 17), (0, .nameAndType 18 12), (0, u "ROLLBACK"), (0, .fieldref 7 20), (0, .nameAndType 21 12), (0, u "PREPARE_TRANSACTION"), (0, .fieldref 7 23), (0, .nameAndType 24 12), (0, u "SET"), (0, .fieldref 7 26), (0, .nameAndType 27 12), (0, u "CHANGES_NO_ROW"), (0, .fieldref 7 29), (0, .nameAndType 30 12), (0, u "DISCARD"), (0, .fieldref 7 32), (0, .nameAndType 33 12), (0, u "DEALLOCATE"), (0, .fieldref 7 35), (0, .nameAndType 36 12), (0, u "PREPARE"), (0, .fieldref 7 38), (0, .nameAndType 39 12), (0, u "COPY"), (0, .fieldref 7 41), (0, .nameAndType 42 12), (0, u "DEFINITION"), (0, .fieldref 7 44), (0, .nameAndType 45 12), (0, u "OTHER"), (0, .integer 2147483647), (0, .methodref 7 48), (0, .nameAndType 49 50), (0, u "mayChangeRows"), (0, u "()Z"), (0, .class_ 52), (0, u "com/example/certline/certline/capture/KindMayChangeRowsPinLaw"), (2, u "law"), (0, u "(I)Z")] 11

def k1m0 : Method := { name := "<init>", desc := "()V", sig := { parameters := [], returnType := none }, accessFlags := 2, code := none }
def k1c1 : Code := { maxStack := 4, maxLocals := 4, code := code, exceptionTable := #[], attributes := #[] }
def k1m1 : Method := { name := "law", desc := "(I)Z", sig := { parameters := [.int], returnType := some .boolean }, accessFlags := 9, code := some k1c1 }
/-- com/example/certline/certline/capture/KindMayChangeRowsPinLaw -/
def k1 : Class := { plain "com/example/certline/certline/capture/KindMayChangeRowsPinLaw" (some 0) with
  accessFlags := 49
  interfaces := #[]
  cf := some (fileOf pool1 51 #[] #[{ accessFlags := 2, nameIndex := 5, descriptorIndex := 6, attributes := #[] }, { accessFlags := 9, nameIndex := 55, descriptorIndex := 56, attributes := #[] }] 49 2 #[] #[])
  fields := #[]
  methods := #[k1m0, k1m1]
  instanceTypes := #[]
  staticTypes := #[]
  resolved := Array.replicate 68 none
  statics := none }

def pool2 : Array CpInfo := pool [(1, .class_ 2), (0, u "java/lang/constant/Constable"), (0, .class_ 4), (0, u "java/lang/Object")] 6

/-- java/lang/constant/Constable -/
def k2 : Class := { plain "java/lang/constant/Constable" (some 0) with
  accessFlags := 1537
  interfaces := #[]
  cf := some (fileOf pool2 1 #[] #[] 1537 3 #[] #[])
  fields := #[]
  methods := #[]
  instanceTypes := #[]
  staticTypes := #[]
  resolved := Array.replicate 11 none
  statics := none }

def pool3 : Array CpInfo := pool [(1, .class_ 2), (0, u "java/lang/Comparable"), (0, .class_ 4), (0, u "java/lang/Object")] 7

/-- java/lang/Comparable -/
def k3 : Class := { plain "java/lang/Comparable" (some 0) with
  accessFlags := 1537
  interfaces := #[]
  cf := some (fileOf pool3 1 #[] #[] 1537 3 #[] #[])
  fields := #[]
  methods := #[]
  instanceTypes := #[]
  staticTypes := #[]
  resolved := Array.replicate 12 none
  statics := none }

def pool4 : Array CpInfo := pool [(1, .class_ 2), (0, u "java/io/Serializable"), (0, .class_ 4), (0, u "java/lang/Object")] 2

/-- java/io/Serializable -/
def k4 : Class := { plain "java/io/Serializable" (some 0) with
  accessFlags := 1537
  interfaces := #[]
  cf := some (fileOf pool4 1 #[] #[] 1537 3 #[] #[])
  fields := #[]
  methods := #[]
  instanceTypes := #[]
  staticTypes := #[]
  resolved := Array.replicate 7 none
  statics := none }

def pool5 : Array CpInfo := pool [(2, .class_ 4), (1, u "java/lang/Enum"), (0, u "name"), (0, u "Ljava/lang/String;"), (2, u "ordinal"), (0, u "I"), (1, .class_ 14), (1, u "java/lang/Object"), (4, u "hash"), (86, .class_ 108), (1, u "java/lang/Enum$EnumDesc"), (2, .class_ 112), (0, u "java/lang/constant/Constable"), (0, .class_ 114), (0, u "java/lang/Comparable"), (0, .class_ 116), (0, u "java/io/Serializable")] 87

/-- java/lang/Enum -/
def k5 : Class := { plain "java/lang/Enum" (some 0) with
  accessFlags := 1057
  interfaces := #[2, 3, 4]
  cf := some (fileOf pool5 2 #[.nestMembers #[106]] #[] 1057 12 #[111, 113, 115] #[{ accessFlags := 18, nameIndex := 5, descriptorIndex := 6, attributes := #[] }, { accessFlags := 18, nameIndex := 9, descriptorIndex := 10, attributes := #[] }, { accessFlags := 2, nameIndex := 19, descriptorIndex := 10, attributes := #[] }])
  fields := #[{ name := "name", type := (.object "java/lang/String"), accessFlags := 18, slot := 0, constantValue := 0 }, { name := "ordinal", type := .int, accessFlags := 18, slot := 1, constantValue := 0 }, { name := "hash", type := .int, accessFlags := 2, slot := 2, constantValue := 0 }]
  methods := #[]
  instanceTypes := #[(.object "java/lang/String"), .int, .int]
  staticTypes := #[]
  resolved := Array.replicate 204 none
  statics := none }

def pool6 : Array CpInfo := pool [(1, .class_ 2), (0, u "com/example/certline/certline/capture/Script$Kind"), (2, u "BEGIN"), (0, u "Lcom/example/certline/certline/capture/Script$Kind;"), (2, u "COMMIT"), (2, u "ROLLBACK"), (2, u "PREPARE_TRANSACTION"), (2, u "SET"), (2, u "CHANGES_NO_ROW"), (2, u "DISCARD"), (2, u "DEALLOCATE"), (2, u "PREPARE"), (0, .fieldref 1 32), (0, .nameAndType 33 6), (0, u "COPY"), (0, .fieldref 1 35), (0, .nameAndType 36 6), (0, u "DEFINITION"), (0, .fieldref 1 38), (0, .nameAndType 39 6), (0, u "OTHER"), (2, u "$VALUES"), (0, u "[Lcom/example/certline/certline/capture/Script$Kind;"), (6, .class_ 52), (1, u "java/lang/Enum"), (30, u "mayChangeRows"), (0, u "()Z"), (6, .class_ 92), (0, u "com/example/certline/certline/capture/Script")] 2

def k6c0 : Code := { maxStack := 2, maxLocals := 1, code := prog_15_method_4_code, exceptionTable := #[], attributes := #[] }
def k6m0 : Method := { name := "mayChangeRows", desc := "()Z", sig := { parameters := [], returnType := some .boolean }, accessFlags := 1, code := some k6c0 }
/-- com/example/certline/certline/capture/Script$Kind -/
def k6 : Class := { plain "com/example/certline/certline/capture/Script$Kind" (some 5) with
  accessFlags := 16433
  interfaces := #[]
  cf := some (fileOf pool6 1 #[.nestHost 91] #[{ accessFlags := 1, nameIndex := 83, descriptorIndex := 84, attributes := #[] }] 16433 50 #[] #[{ accessFlags := 16409, nameIndex := 5, descriptorIndex := 6, attributes := #[] }, { accessFlags := 16409, nameIndex := 9, descriptorIndex := 6, attributes := #[] }, { accessFlags := 16409, nameIndex := 12, descriptorIndex := 6, attributes := #[] }, { accessFlags := 16409, nameIndex := 15, descriptorIndex := 6, attributes := #[] }, { accessFlags := 16409, nameIndex := 18, descriptorIndex := 6, attributes := #[] }, { accessFlags := 16409, nameIndex := 21, descriptorIndex := 6, attributes := #[] }, { accessFlags := 16409, nameIndex := 24, descriptorIndex := 6, attributes := #[] }, { accessFlags := 16409, nameIndex := 27, descriptorIndex := 6, attributes := #[] }, { accessFlags := 16409, nameIndex := 30, descriptorIndex := 6, attributes := #[] }, { accessFlags := 16409, nameIndex := 33, descriptorIndex := 6, attributes := #[] }, { accessFlags := 16409, nameIndex := 36, descriptorIndex := 6, attributes := #[] }, { accessFlags := 16409, nameIndex := 39, descriptorIndex := 6, attributes := #[] }, { accessFlags := 4122, nameIndex := 42, descriptorIndex := 43, attributes := #[] }])
  fields := #[{ name := "BEGIN", type := (.object "com/example/certline/certline/capture/Script$Kind"), accessFlags := 16409, slot := 0, constantValue := 0 }, { name := "COMMIT", type := (.object "com/example/certline/certline/capture/Script$Kind"), accessFlags := 16409, slot := 1, constantValue := 0 }, { name := "ROLLBACK", type := (.object "com/example/certline/certline/capture/Script$Kind"), accessFlags := 16409, slot := 2, constantValue := 0 }, { name := "PREPARE_TRANSACTION", type := (.object "com/example/certline/certline/capture/Script$Kind"), accessFlags := 16409, slot := 3, constantValue := 0 }, { name := "SET", type := (.object "com/example/certline/certline/capture/Script$Kind"), accessFlags := 16409, slot := 4, constantValue := 0 }, { name := "CHANGES_NO_ROW", type := (.object "com/example/certline/certline/capture/Script$Kind"), accessFlags := 16409, slot := 5, constantValue := 0 }, { name := "DISCARD", type := (.object "com/example/certline/certline/capture/Script$Kind"), accessFlags := 16409, slot := 6, constantValue := 0 }, { name := "DEALLOCATE", type := (.object "com/example/certline/certline/capture/Script$Kind"), accessFlags := 16409, slot := 7, constantValue := 0 }, { name := "PREPARE", type := (.object "com/example/certline/certline/capture/Script$Kind"), accessFlags := 16409, slot := 8, constantValue := 0 }, { name := "COPY", type := (.object "com/example/certline/certline/capture/Script$Kind"), accessFlags := 16409, slot := 9, constantValue := 0 }, { name := "DEFINITION", type := (.object "com/example/certline/certline/capture/Script$Kind"), accessFlags := 16409, slot := 10, constantValue := 0 }, { name := "OTHER", type := (.object "com/example/certline/certline/capture/Script$Kind"), accessFlags := 16409, slot := 11, constantValue := 0 }, { name := "$VALUES", type := (.array (.object "com/example/certline/certline/capture/Script$Kind")), accessFlags := 4122, slot := 12, constantValue := 0 }]
  methods := #[k6m0]
  instanceTypes := #[(.object "java/lang/String"), .int, .int]
  staticTypes := #[(.object "com/example/certline/certline/capture/Script$Kind"), (.object "com/example/certline/certline/capture/Script$Kind"), (.object "com/example/certline/certline/capture/Script$Kind"), (.object "com/example/certline/certline/capture/Script$Kind"), (.object "com/example/certline/certline/capture/Script$Kind"), (.object "com/example/certline/certline/capture/Script$Kind"), (.object "com/example/certline/certline/capture/Script$Kind"), (.object "com/example/certline/certline/capture/Script$Kind"), (.object "com/example/certline/certline/capture/Script$Kind"), (.object "com/example/certline/certline/capture/Script$Kind"), (.object "com/example/certline/certline/capture/Script$Kind"), (.object "com/example/certline/certline/capture/Script$Kind"), (.array (.object "com/example/certline/certline/capture/Script$Kind"))]
  resolved := Array.replicate 95 none
  statics := some 0 }

def pool7 : Array CpInfo := pool [(1, u "java/lang/Cloneable"), (0, .class_ 1), (0, u "java/lang/Object"), (0, .class_ 3)] 3

/-- java/lang/Cloneable -/
def k7 : Class := { plain "java/lang/Cloneable" (some 0) with
  accessFlags := 1537
  interfaces := #[]
  cf := some (fileOf pool7 2 #[] #[] 1537 4 #[] #[])
  fields := #[]
  methods := #[]
  instanceTypes := #[]
  staticTypes := #[]
  resolved := Array.replicate 8 none
  statics := none }

/-- the primitive boolean -/
def k8 : Class := { plain "boolean" none with kind := .primitive 'Z', accessFlags := 0x411 }
/-- [Z -/
def k9 : Class := { plain "[Z" (some 0) with kind := .array 8 .boolean, interfaces := #[7, 4], accessFlags := 1041 }

/-- the primitive byte -/
def k10 : Class := { plain "byte" none with kind := .primitive 'B', accessFlags := 0x411 }
/-- [B -/
def k11 : Class := { plain "[B" (some 0) with kind := .array 10 .byte, interfaces := #[7, 4], accessFlags := 1041 }

/-- the primitive int -/
def k12 : Class := { plain "int" none with kind := .primitive 'I', accessFlags := 0x411 }
/-- [I -/
def k13 : Class := { plain "[I" (some 0) with kind := .array 12 .int, interfaces := #[7, 4], accessFlags := 1041 }

/-- [Lcom/example/certline/certline/capture/Script$Kind; -/
def k14 : Class := { plain "[Lcom/example/certline/certline/capture/Script$Kind;" (some 0) with kind := .array 6 (.object "com/example/certline/certline/capture/Script$Kind"), interfaces := #[7, 4], accessFlags := 1041 }

def heap : Heap := #[{ cls := 6, slots := #[.ref 1, .ref 2, .ref 3, .ref 4, .ref 5, .ref 6, .ref 7, .ref 8, .ref 9, .ref 10, .ref 11, .ref 12, .null], vm := .statics 6 },
  { cls := 6, slots := #[.null, .int 0, .int 0], vm := .none },
  { cls := 6, slots := #[.null, .int 1, .int 0], vm := .none },
  { cls := 6, slots := #[.null, .int 2, .int 0], vm := .none },
  { cls := 6, slots := #[.null, .int 3, .int 0], vm := .none },
  { cls := 6, slots := #[.null, .int 4, .int 0], vm := .none },
  { cls := 6, slots := #[.null, .int 5, .int 0], vm := .none },
  { cls := 6, slots := #[.null, .int 6, .int 0], vm := .none },
  { cls := 6, slots := #[.null, .int 7, .int 0], vm := .none },
  { cls := 6, slots := #[.null, .int 8, .int 0], vm := .none },
  { cls := 6, slots := #[.null, .int 9, .int 0], vm := .none },
  { cls := 6, slots := #[.null, .int 10, .int 0], vm := .none },
  { cls := 6, slots := #[.null, .int 11, .int 0], vm := .none }]
def classes : Array Class := #[k0, k1, k2, k3, k4, k5, k6, k7, k8, k9, k10, k11, k12, k13, k14]
def interned : List (Array UInt16 × Addr) := []
def slotsUsed : Nat := 49
def theMethod : MethodId := ⟨1, 1⟩
def args0 : Array Value := #[.int 5]
def aboutOver (below : List Frame) : State where
  vm := { classes := classes, interned := interned.toArray }
  heap := heap
  slotsUsed := slotsUsed
  threads := #[{ frames := .invoking theMethod args0 :: below }]
def below0 : List Frame := [.native { method := ⟨0, 0⟩, args := #[] }]
def about1 : State := aboutOver below0
def p0 : Program := .bare "" "" ""
def e0 : Env := launch0.env 0 0 0
theorem w_frames : about1.frames = Frame.invoking theMethod args0 :: below0 := rfl
set_option maxRecDepth 65536 in
theorem w_args : argsFit about1.vm theMethod args0 = true := by decide +kernel
set_option maxRecDepth 65536 in
theorem w_heap : heapFits about1 = true := by decide +kernel
set_option maxRecDepth 65536 in
theorem w_runnable : about1.curStatus? = some .runnable := by decide +kernel
set_option maxRecDepth 65536 in
theorem w_alone : about1.alone = true := by decide +kernel
set_option maxRecDepth 65536 in
theorem w_named : about1.methodNamed? x = some theMethod := by decide +kernel
set_option maxRecDepth 65536 in
theorem w_hears : about1.hears theMethod below0 = true := by decide +kernel
set_option maxRecDepth 65536 in
theorem w_ripe : about1.ripe theMethod args0 below0 = true := by decide +kernel
theorem w_running : about1.status = .running := rfl
set_option maxRecDepth 65536 in
theorem w_room : about1.hasRoom e0.platform room_1 = true :=
  launch0.hasRoom_least _ room_1 (by decide +kernel) (by decide +kernel) (by decide +kernel) (by decide +kernel) (by decide +kernel) (by decide +kernel)
theorem allAtoms_all (ts : List Jvm.Cond) (a : Array Jvm.Value) (st : Jvm.State) : (allAtoms ts).before a st = ts.all (fun c => c.before a st) := by
  induction ts with
  | nil => rfl
  | cons c t ih =>
    show (Jvm.Cond.and c (allAtoms t)).before a st = _
    rw [Jvm.Cond.before_and, ih, List.all_cons]
def words1 : List Jvm.Cond := Jvm.Cond.code x code maxLocals ret :: tables_1
/-- a 'code' word, met by the world's own term for the bytes: nothing is compared byte by byte -/
theorem code_word {y : MethodName} {bytes : ByteArray} {mx : Nat} {rt : Option FieldType} {a : Array Value} {s : State} {m : MethodId} {meth : Method} {c : Code} (h1 : s.methodNamed? y = some m) (h2 : s.vm.method? m = some meth) (h3 : meth.code = some c) (h4 : c.code = bytes)
    (h5 : (c.maxLocals == mx && c.exceptionTable.isEmpty && decide (c.maxStack ≤ mostOperands) && decide (meth.sig.returnType = rt) && !meth.locks && decide (parseMethodDescriptor y.desc = some meth.sig)) = true) : (Jvm.Cond.code y bytes mx rt).before a s = true := by
  simp only [Bool.and_eq_true, beq_iff_eq, Bool.not_eq_true', decide_eq_true_eq] at h5
  obtain ⟨⟨⟨⟨⟨g1, g2⟩, g3⟩, g4⟩, g5⟩, g6⟩ := h5
  simp [Cond.before, Cond.holds, Cond.value, h1, h2, h3, h4, g1, g2, g3, g4, g5, g6]
def isCode : Jvm.Cond → Bool
  | .code _ _ _ _ => true
  | _ => false
theorem all_split {L : List Jvm.Cond} {P : Jvm.Cond → Bool} (h1 : L.all (fun c => isCode c || P c) = true) (h2 : ∀ c ∈ L.filter isCode, P c = true) : L.all P = true := by
  refine List.all_eq_true.mpr fun c hc => ?_
  have h := List.all_eq_true.mp h1 c hc
  rcases Bool.eq_false_or_eq_true (isCode c) with hi | hi
  · exact h2 c (List.mem_filter.mpr ⟨hc, hi⟩)
  · simpa [hi] using h
set_option maxRecDepth 65536 in
theorem w_c0 : (Jvm.Cond.code x code maxLocals ret).before args0 about1 = true := code_word (m := ⟨1, 1⟩) (meth := k1m1) (c := k1c1) (by decide +kernel) rfl rfl rfl (by decide +kernel)
set_option maxRecDepth 65536 in
theorem w_c1 : (Jvm.Cond.code ({ cls := "com/example/certline/certline/capture/Script$Kind", name := "mayChangeRows", desc := "()Z" } : Jvm.MethodName) prog_15_method_4_code (1 : Nat) (Option.some Jvm.ClassFile.FieldType.boolean)).before args0 about1 = true := code_word (m := ⟨6, 0⟩) (meth := k6m0) (c := k6c0) (by decide +kernel) rfl rfl rfl (by decide +kernel)
def codes1 : List Jvm.Cond := [Jvm.Cond.code x code maxLocals ret, Jvm.Cond.code ({ cls := "com/example/certline/certline/capture/Script$Kind", name := "mayChangeRows", desc := "()Z" } : Jvm.MethodName) prog_15_method_4_code (1 : Nat) (Option.some Jvm.ClassFile.FieldType.boolean)]
set_option maxRecDepth 65536 in
theorem codes_eq : words1.filter isCode = codes1 := rfl
theorem w_codes : ∀ c ∈ words1.filter isCode, c.before args0 about1 = true := by
  rw [codes_eq]
  intro c hc
  simp only [codes1, List.mem_cons, List.not_mem_nil, or_false] at hc
  rcases hc with rfl | rfl
  · exact w_c0
  · exact w_c1
set_option maxRecDepth 65536 in
theorem w_t1 : (words1.take 24).all (fun c => isCode c || c.before args0 about1) = true := by decide +kernel
set_option maxRecDepth 65536 in
theorem w_t2 : (words1.drop 24).all (fun c => isCode c || c.before args0 about1) = true := by decide +kernel
theorem w_tables : (allAtoms (Jvm.Cond.code x code maxLocals ret :: tables_1)).before args0 about1 = true := by
  rw [allAtoms_all]
  show words1.all (fun c => c.before args0 about1) = true
  refine all_split ?_ w_codes
  rw [← List.take_append_drop 24 words1, List.all_append, w_t1, w_t2]
  rfl
set_option maxRecDepth 65536 in
theorem w_case : (Jvm.Cond.and given_1 narrow_1).before args0 about1 = true := by decide +kernel
theorem w_applies : (headSpec (Jvm.Cond.code x code maxLocals ret :: tables_1) room_1).applies x e0.platform about1 = true :=
  (Spec.applies_iff w_frames).mpr ⟨w_running, w_runnable, w_alone, w_named, w_hears, w_ripe, w_room, w_tables⟩
theorem atStart : AtStart classFile x code maxLocals ret World_1 tables_1 room_1 Calls_1 rest_1 Pre_1 launch0 p0 e0 about1 theMethod args0 below0 :=
  ⟨lists_1, trivial, launch0.admits_env _ _ _, launch0.least_env, fairChoices_fair.cas, fairChoices_fair.clock, w_frames, w_args, w_heap, w_applies, trivial, trivial, w_case⟩
end start1
theorem witness_1 : WitnessClaimed_1 := ⟨start1.p0, start1.e0, start1.about1, start1.theMethod, start1.args0, start1.below0, start1.atStart⟩
end Jvm.Pilot.@@N@@
