import JvmDerived
import JvmDerived.Pilot.@@N@@Statement
import JvmDerived.Pilot.@@N@@Code
set_option linter.unusedVariables false
set_option linter.unusedSimpArgs false
namespace Jvm.Pilot.@@N@@
open Jvm Jvm.ClassFile Sem Op Lib Jvm.Free Jvm.Stand Jvm.LawKit Jvm.RoadKit Bundle Jvm.Pilot.@@N@@.Jvm.D
/-- the run stands at T' as it stood at T: the heap is the same -/
def Nx {p : Program} {l : Launch} {e : Env} {R : Room} {s : State} {m : MethodId} {args : Array Value} {below : List Frame} {meth : Method} {c : Code} {T : State} {locs : List Loc} {cells slots : Nat} (X : Stand p l e R s m args below meth c T locs cells slots) (T' : State) : Prop := Stand p l e R s m args below meth c T' locs cells slots ∧ T'.heap = T.heap
theorem lq_eq {x y : Int64} (h : x = y) : lcmpW x y = 0 := (lcW x y).trans ((lc_eq x y).mpr h)
theorem lq_ne {x y : Int64} (h : ¬ x = y) : ¬ lcmpW x y = 0 := fun q => h ((lc_eq x y).mp ((lcW x y).symm.trans q))
theorem lq_lt {x y : Int64} (h : x < y) : lcmpW x y < 0 := by rw [lcW]; exact (lc_lt x y).mpr h
theorem lq_nlt {x y : Int64} (h : ¬ x < y) : ¬ lcmpW x y < 0 := by rw [lcW]; exact fun q => h ((lc_lt x y).mp q)
theorem lq_gt {x y : Int64} (h : y < x) : 0 < lcmpW x y := by rw [lcW]; exact (lc_gt x y).mpr h
theorem lq_ngt {x y : Int64} (h : ¬ y < x) : ¬ 0 < lcmpW x y := by rw [lcW]; exact fun q => h ((lc_gt x y).mp q)
theorem own_eqI {args : Array Value} {first s : State} {o : Option Outcome} {idx : List Nat} {t : Term} {k : Int32} (h : (Jvm.Cond.eq t (.int k)).value args first o s idx = some true) : t.eval args first o idx s = some (.int k) := by
  simp only [Cond.value, Term.eval] at h
  cases ht : t.eval args first o idx s with
  | none => simp [ht] at h
  | some x => cases x <;> simp [ht] at h ⊢; exact h
theorem own_eqL {args : Array Value} {first s : State} {o : Option Outcome} {idx : List Nat} {t : Term} {k : Int64} (h : (Jvm.Cond.eq t (.long k)).value args first o s idx = some true) : t.eval args first o idx s = some (.long k) := by
  simp only [Cond.value, Term.eval] at h
  cases ht : t.eval args first o idx s with
  | none => simp [ht] at h
  | some x => cases x <;> simp [ht] at h ⊢; exact h
abbrev jv (x : Int64) : Slot := .val (.long x)
theorem y_iloadN {tb : Tables} [Ours tb] {e : Env} {below : List Frame} {T target : State} {m : MethodId} {c : Code} (h : At T m c below) (hx : tb.exec = Jvm.exec) {pc pc' : Nat} {L : Array Slot} {S : List Value} {k : Fin 4} {v : Int32} (hd : decode c.code pc = .ok (.iload_n k, 1)) (hl : L[k.val]? = some (.val (.int v))) (hp : pc + 1 = pc') (hr : Steps tb e below (T.setTop (mkF m pc' L (.int v :: S))) target) : Steps tb e below (T.setTop (mkF m pc L S)) target := by subst hp; exact XS.iloadN h hx rfl hd hl hr
theorem y_lloadN {tb : Tables} [Ours tb] {e : Env} {below : List Frame} {T target : State} {m : MethodId} {c : Code} (h : At T m c below) (hx : tb.exec = Jvm.exec) {pc pc' : Nat} {L : Array Slot} {S : List Value} {k : Fin 4} {v : Int64} (hd : decode c.code pc = .ok (.lload_n k, 1)) (hl : L[k.val]? = some (.val (.long v))) (hp : pc + 1 = pc') (hr : Steps tb e below (T.setTop (mkF m pc' L (.long v :: S))) target) : Steps tb e below (T.setTop (mkF m pc L S)) target := by subst hp; exact XS.lloadN h hx rfl hd hl hr
theorem y_aloadN {tb : Tables} [Ours tb] {e : Env} {below : List Frame} {T target : State} {m : MethodId} {c : Code} (h : At T m c below) (hx : tb.exec = Jvm.exec) {pc pc' : Nat} {L : Array Slot} {S : List Value} {k : Fin 4} {v : Value} (hd : decode c.code pc = .ok (.aload_n k, 1)) (hl : L[k.val]? = some (.val v)) (hv : v.isRef = true) (hp : pc + 1 = pc') (hr : Steps tb e below (T.setTop (mkF m pc' L (v :: S))) target) : Steps tb e below (T.setTop (mkF m pc L S)) target := by subst hp; exact XS.aloadN h hx rfl hd hl hv hr
theorem y_istoreN {tb : Tables} [Ours tb] {e : Env} {below : List Frame} {T target : State} {m : MethodId} {c : Code} (h : At T m c below) (hx : tb.exec = Jvm.exec) {pc pc' : Nat} {L : Array Slot} {S : List Value} {k : Fin 4} {v : Int32} {l' : Array Slot} (hd : decode c.code pc = .ok (.istore_n k, 1)) (hl : storeLocals L k.val (.int v) = some l') (hp : pc + 1 = pc') (hr : Steps tb e below (T.setTop (mkF m pc' l' S)) target) : Steps tb e below (T.setTop (mkF m pc L (.int v :: S))) target := by subst hp; exact XS.istoreN h hx rfl hd rfl hl hr
theorem y_lstoreN {tb : Tables} [Ours tb] {e : Env} {below : List Frame} {T target : State} {m : MethodId} {c : Code} (h : At T m c below) (hx : tb.exec = Jvm.exec) {pc pc' : Nat} {L : Array Slot} {S : List Value} {k : Fin 4} {v : Int64} {l' : Array Slot} (hd : decode c.code pc = .ok (.lstore_n k, 1)) (hl : storeLocals L k.val (.long v) = some l') (hp : pc + 1 = pc') (hr : Steps tb e below (T.setTop (mkF m pc' l' S)) target) : Steps tb e below (T.setTop (mkF m pc L (.long v :: S))) target := by subst hp; exact XS.lstoreN h hx rfl hd rfl hl hr
theorem y_astoreN {tb : Tables} [Ours tb] {e : Env} {below : List Frame} {T target : State} {m : MethodId} {c : Code} (h : At T m c below) (hx : tb.exec = Jvm.exec) {pc pc' : Nat} {L : Array Slot} {S : List Value} {k : Fin 4} {v : Value} {l' : Array Slot} (hd : decode c.code pc = .ok (.astore_n k, 1)) (hv : v.isRef = true) (hl : storeLocals L k.val v = some l') (hp : pc + 1 = pc') (hr : Steps tb e below (T.setTop (mkF m pc' l' S)) target) : Steps tb e below (T.setTop (mkF m pc L (v :: S))) target := by subst hp; exact XS.astoreN h hx rfl hd rfl hv hl hr
theorem y_iload {tb : Tables} [Ours tb] {e : Env} {below : List Frame} {T target : State} {m : MethodId} {c : Code} (h : At T m c below) (hx : tb.exec = Jvm.exec) {pc pc' : Nat} {L : Array Slot} {S : List Value} {k : Nat} {v : Int32} (hd : decode c.code pc = .ok (.iload k, 2)) (hl : L[k]? = some (.val (.int v))) (hp : pc + 2 = pc') (hr : Steps tb e below (T.setTop (mkF m pc' L (.int v :: S))) target) : Steps tb e below (T.setTop (mkF m pc L S)) target := by subst hp; exact XS.iload h hx rfl hd hl hr
theorem y_lload {tb : Tables} [Ours tb] {e : Env} {below : List Frame} {T target : State} {m : MethodId} {c : Code} (h : At T m c below) (hx : tb.exec = Jvm.exec) {pc pc' : Nat} {L : Array Slot} {S : List Value} {k : Nat} {v : Int64} (hd : decode c.code pc = .ok (.lload k, 2)) (hl : L[k]? = some (.val (.long v))) (hp : pc + 2 = pc') (hr : Steps tb e below (T.setTop (mkF m pc' L (.long v :: S))) target) : Steps tb e below (T.setTop (mkF m pc L S)) target := by subst hp; exact XS.lload h hx rfl hd hl hr
theorem y_aload {tb : Tables} [Ours tb] {e : Env} {below : List Frame} {T target : State} {m : MethodId} {c : Code} (h : At T m c below) (hx : tb.exec = Jvm.exec) {pc pc' : Nat} {L : Array Slot} {S : List Value} {k : Nat} {v : Value} (hd : decode c.code pc = .ok (.aload k, 2)) (hl : L[k]? = some (.val v)) (hv : v.isRef = true) (hp : pc + 2 = pc') (hr : Steps tb e below (T.setTop (mkF m pc' L (v :: S))) target) : Steps tb e below (T.setTop (mkF m pc L S)) target := by subst hp; exact XS.aload h hx rfl hd hl hv hr
theorem y_istore {tb : Tables} [Ours tb] {e : Env} {below : List Frame} {T target : State} {m : MethodId} {c : Code} (h : At T m c below) (hx : tb.exec = Jvm.exec) {pc pc' : Nat} {L : Array Slot} {S : List Value} {k : Nat} {v : Int32} {l' : Array Slot} (hd : decode c.code pc = .ok (.istore k, 2)) (hl : storeLocals L k (.int v) = some l') (hp : pc + 2 = pc') (hr : Steps tb e below (T.setTop (mkF m pc' l' S)) target) : Steps tb e below (T.setTop (mkF m pc L (.int v :: S))) target := by subst hp; exact XS.istore h hx rfl hd rfl hl hr
theorem y_lstore {tb : Tables} [Ours tb] {e : Env} {below : List Frame} {T target : State} {m : MethodId} {c : Code} (h : At T m c below) (hx : tb.exec = Jvm.exec) {pc pc' : Nat} {L : Array Slot} {S : List Value} {k : Nat} {v : Int64} {l' : Array Slot} (hd : decode c.code pc = .ok (.lstore k, 2)) (hl : storeLocals L k (.long v) = some l') (hp : pc + 2 = pc') (hr : Steps tb e below (T.setTop (mkF m pc' l' S)) target) : Steps tb e below (T.setTop (mkF m pc L (.long v :: S))) target := by subst hp; exact XS.lstore h hx rfl hd rfl hl hr
theorem y_astore {tb : Tables} [Ours tb] {e : Env} {below : List Frame} {T target : State} {m : MethodId} {c : Code} (h : At T m c below) (hx : tb.exec = Jvm.exec) {pc pc' : Nat} {L : Array Slot} {S : List Value} {k : Nat} {v : Value} {l' : Array Slot} (hd : decode c.code pc = .ok (.astore k, 2)) (hv : v.isRef = true) (hl : storeLocals L k v = some l') (hp : pc + 2 = pc') (hr : Steps tb e below (T.setTop (mkF m pc' l' S)) target) : Steps tb e below (T.setTop (mkF m pc L (v :: S))) target := by subst hp; exact XS.astore h hx rfl hd rfl hv hl hr
theorem y_iconst {tb : Tables} [Ours tb] {e : Env} {below : List Frame} {T target : State} {m : MethodId} {c : Code} (h : At T m c below) (hx : tb.exec = Jvm.exec) {pc pc' : Nat} {L : Array Slot} {S : List Value} {i : Int} {v : Int32} (hd : decode c.code pc = .ok (.iconst i, 1)) (hv : Int32.ofInt i = v) (hp : pc + 1 = pc') (hr : Steps tb e below (T.setTop (mkF m pc' L (.int v :: S))) target) : Steps tb e below (T.setTop (mkF m pc L S)) target := by subst hp; exact XS.iconst h hx rfl hd (by rw [hv]; exact hr)
theorem y_bipush {tb : Tables} [Ours tb] {e : Env} {below : List Frame} {T target : State} {m : MethodId} {c : Code} (h : At T m c below) (hx : tb.exec = Jvm.exec) {pc pc' : Nat} {L : Array Slot} {S : List Value} {i : Int} {v : Int32} (hd : decode c.code pc = .ok (.bipush i, 2)) (hv : (Int8.ofInt i).toInt32 = v) (hp : pc + 2 = pc') (hr : Steps tb e below (T.setTop (mkF m pc' L (.int v :: S))) target) : Steps tb e below (T.setTop (mkF m pc L S)) target := by subst hp; exact XS.bipush h hx rfl hd (by rw [hv]; exact hr)
theorem y_sipush {tb : Tables} [Ours tb] {e : Env} {below : List Frame} {T target : State} {m : MethodId} {c : Code} (h : At T m c below) (hx : tb.exec = Jvm.exec) {pc pc' : Nat} {L : Array Slot} {S : List Value} {i : Int} {v : Int32} (hd : decode c.code pc = .ok (.sipush i, 3)) (hv : (Int16.ofInt i).toInt32 = v) (hp : pc + 3 = pc') (hr : Steps tb e below (T.setTop (mkF m pc' L (.int v :: S))) target) : Steps tb e below (T.setTop (mkF m pc L S)) target := by subst hp; exact XS.sipush h hx rfl hd (by rw [hv]; exact hr)
theorem y_lconst {tb : Tables} [Ours tb] {e : Env} {below : List Frame} {T target : State} {m : MethodId} {c : Code} (h : At T m c below) (hx : tb.exec = Jvm.exec) {pc pc' : Nat} {L : Array Slot} {S : List Value} {k : Fin 2} {v : Int64} (hd : decode c.code pc = .ok (.lconst k, 1)) (hv : Int64.ofNat k.val = v) (hp : pc + 1 = pc') (hr : Steps tb e below (T.setTop (mkF m pc' L (.long v :: S))) target) : Steps tb e below (T.setTop (mkF m pc L S)) target := by subst hp; exact XS.lconst h hx rfl hd (by first | exact hv ▸ hr | (rw [hv]; exact hr) | (subst hv; exact hr))
theorem y_aconstNull {tb : Tables} [Ours tb] {e : Env} {below : List Frame} {T target : State} {m : MethodId} {c : Code} (h : At T m c below) (hx : tb.exec = Jvm.exec) {pc pc' : Nat} {L : Array Slot} {S : List Value} (hd : decode c.code pc = .ok (.aconst_null, 1)) (hp : pc + 1 = pc') (hr : Steps tb e below (T.setTop (mkF m pc' L (.null :: S))) target) : Steps tb e below (T.setTop (mkF m pc L S)) target := by subst hp; exact XS.aconstNull h hx rfl hd hr
theorem y_iadd {tb : Tables} [Ours tb] {e : Env} {below : List Frame} {T target : State} {m : MethodId} {c : Code} (h : At T m c below) (hx : tb.exec = Jvm.exec) {pc pc' : Nat} {L : Array Slot} {S : List Value} {x y z : Int32} (hd : decode c.code pc = .ok (.iadd, 1)) (hz : x + y = z) (hp : pc + 1 = pc') (hr : Steps tb e below (T.setTop (mkF m pc' L (.int z :: S))) target) : Steps tb e below (T.setTop (mkF m pc L (.int y :: .int x :: S))) target := by subst hp; exact XS.iadd h hx rfl hd rfl (by rw [hz]; exact hr)
theorem y_isub {tb : Tables} [Ours tb] {e : Env} {below : List Frame} {T target : State} {m : MethodId} {c : Code} (h : At T m c below) (hx : tb.exec = Jvm.exec) {pc pc' : Nat} {L : Array Slot} {S : List Value} {x y z : Int32} (hd : decode c.code pc = .ok (.isub, 1)) (hz : x - y = z) (hp : pc + 1 = pc') (hr : Steps tb e below (T.setTop (mkF m pc' L (.int z :: S))) target) : Steps tb e below (T.setTop (mkF m pc L (.int y :: .int x :: S))) target := by subst hp; exact XS.isub h hx rfl hd rfl (by rw [hz]; exact hr)
theorem y_imul {tb : Tables} [Ours tb] {e : Env} {below : List Frame} {T target : State} {m : MethodId} {c : Code} (h : At T m c below) (hx : tb.exec = Jvm.exec) {pc pc' : Nat} {L : Array Slot} {S : List Value} {x y z : Int32} (hd : decode c.code pc = .ok (.imul, 1)) (hz : x * y = z) (hp : pc + 1 = pc') (hr : Steps tb e below (T.setTop (mkF m pc' L (.int z :: S))) target) : Steps tb e below (T.setTop (mkF m pc L (.int y :: .int x :: S))) target := by subst hp; exact XS.imul h hx rfl hd rfl (by rw [hz]; exact hr)
theorem y_iand {tb : Tables} [Ours tb] {e : Env} {below : List Frame} {T target : State} {m : MethodId} {c : Code} (h : At T m c below) (hx : tb.exec = Jvm.exec) {pc pc' : Nat} {L : Array Slot} {S : List Value} {x y z : Int32} (hd : decode c.code pc = .ok (.iand, 1)) (hz : x &&& y = z) (hp : pc + 1 = pc') (hr : Steps tb e below (T.setTop (mkF m pc' L (.int z :: S))) target) : Steps tb e below (T.setTop (mkF m pc L (.int y :: .int x :: S))) target := by subst hp; exact XS.iand h hx rfl hd rfl (by rw [hz]; exact hr)
theorem y_ior {tb : Tables} [Ours tb] {e : Env} {below : List Frame} {T target : State} {m : MethodId} {c : Code} (h : At T m c below) (hx : tb.exec = Jvm.exec) {pc pc' : Nat} {L : Array Slot} {S : List Value} {x y z : Int32} (hd : decode c.code pc = .ok (.ior, 1)) (hz : x ||| y = z) (hp : pc + 1 = pc') (hr : Steps tb e below (T.setTop (mkF m pc' L (.int z :: S))) target) : Steps tb e below (T.setTop (mkF m pc L (.int y :: .int x :: S))) target := by subst hp; exact XS.ior h hx rfl hd rfl (by rw [hz]; exact hr)
theorem y_ixor {tb : Tables} [Ours tb] {e : Env} {below : List Frame} {T target : State} {m : MethodId} {c : Code} (h : At T m c below) (hx : tb.exec = Jvm.exec) {pc pc' : Nat} {L : Array Slot} {S : List Value} {x y z : Int32} (hd : decode c.code pc = .ok (.ixor, 1)) (hz : x ^^^ y = z) (hp : pc + 1 = pc') (hr : Steps tb e below (T.setTop (mkF m pc' L (.int z :: S))) target) : Steps tb e below (T.setTop (mkF m pc L (.int y :: .int x :: S))) target := by subst hp; exact XS.ixor h hx rfl hd rfl (by rw [hz]; exact hr)
theorem y_ladd {tb : Tables} [Ours tb] {e : Env} {below : List Frame} {T target : State} {m : MethodId} {c : Code} (h : At T m c below) (hx : tb.exec = Jvm.exec) {pc pc' : Nat} {L : Array Slot} {S : List Value} {x y z : Int64} (hd : decode c.code pc = .ok (.ladd, 1)) (hz : x + y = z) (hp : pc + 1 = pc') (hr : Steps tb e below (T.setTop (mkF m pc' L (.long z :: S))) target) : Steps tb e below (T.setTop (mkF m pc L (.long y :: .long x :: S))) target := by subst hp; exact XS.ladd h hx rfl hd rfl (by rw [hz]; exact hr)
theorem y_lsub {tb : Tables} [Ours tb] {e : Env} {below : List Frame} {T target : State} {m : MethodId} {c : Code} (h : At T m c below) (hx : tb.exec = Jvm.exec) {pc pc' : Nat} {L : Array Slot} {S : List Value} {x y z : Int64} (hd : decode c.code pc = .ok (.lsub, 1)) (hz : x - y = z) (hp : pc + 1 = pc') (hr : Steps tb e below (T.setTop (mkF m pc' L (.long z :: S))) target) : Steps tb e below (T.setTop (mkF m pc L (.long y :: .long x :: S))) target := by subst hp; exact XS.lsub h hx rfl hd rfl (by rw [hz]; exact hr)
theorem y_lmul {tb : Tables} [Ours tb] {e : Env} {below : List Frame} {T target : State} {m : MethodId} {c : Code} (h : At T m c below) (hx : tb.exec = Jvm.exec) {pc pc' : Nat} {L : Array Slot} {S : List Value} {x y z : Int64} (hd : decode c.code pc = .ok (.lmul, 1)) (hz : x * y = z) (hp : pc + 1 = pc') (hr : Steps tb e below (T.setTop (mkF m pc' L (.long z :: S))) target) : Steps tb e below (T.setTop (mkF m pc L (.long y :: .long x :: S))) target := by subst hp; exact XS.lmul h hx rfl hd rfl (by rw [hz]; exact hr)
theorem y_land {tb : Tables} [Ours tb] {e : Env} {below : List Frame} {T target : State} {m : MethodId} {c : Code} (h : At T m c below) (hx : tb.exec = Jvm.exec) {pc pc' : Nat} {L : Array Slot} {S : List Value} {x y z : Int64} (hd : decode c.code pc = .ok (.land, 1)) (hz : x &&& y = z) (hp : pc + 1 = pc') (hr : Steps tb e below (T.setTop (mkF m pc' L (.long z :: S))) target) : Steps tb e below (T.setTop (mkF m pc L (.long y :: .long x :: S))) target := by subst hp; exact XS.land h hx rfl hd rfl (by rw [hz]; exact hr)
theorem y_lor {tb : Tables} [Ours tb] {e : Env} {below : List Frame} {T target : State} {m : MethodId} {c : Code} (h : At T m c below) (hx : tb.exec = Jvm.exec) {pc pc' : Nat} {L : Array Slot} {S : List Value} {x y z : Int64} (hd : decode c.code pc = .ok (.lor, 1)) (hz : x ||| y = z) (hp : pc + 1 = pc') (hr : Steps tb e below (T.setTop (mkF m pc' L (.long z :: S))) target) : Steps tb e below (T.setTop (mkF m pc L (.long y :: .long x :: S))) target := by subst hp; exact XS.lor h hx rfl hd rfl (by rw [hz]; exact hr)
theorem y_lxor {tb : Tables} [Ours tb] {e : Env} {below : List Frame} {T target : State} {m : MethodId} {c : Code} (h : At T m c below) (hx : tb.exec = Jvm.exec) {pc pc' : Nat} {L : Array Slot} {S : List Value} {x y z : Int64} (hd : decode c.code pc = .ok (.lxor, 1)) (hz : x ^^^ y = z) (hp : pc + 1 = pc') (hr : Steps tb e below (T.setTop (mkF m pc' L (.long z :: S))) target) : Steps tb e below (T.setTop (mkF m pc L (.long y :: .long x :: S))) target := by subst hp; exact XS.lxor h hx rfl hd rfl (by rw [hz]; exact hr)
theorem y_ineg {tb : Tables} [Ours tb] {e : Env} {below : List Frame} {T target : State} {m : MethodId} {c : Code} (h : At T m c below) (hx : tb.exec = Jvm.exec) {pc pc' : Nat} {L : Array Slot} {S : List Value} {x : Int32} {z : Int32} (hd : decode c.code pc = .ok (.ineg, 1)) (hz : -x = z) (hp : pc + 1 = pc') (hr : Steps tb e below (T.setTop (mkF m pc' L (.int z :: S))) target) : Steps tb e below (T.setTop (mkF m pc L (.int x :: S))) target := by subst hp; exact XS.ineg h hx rfl hd rfl (by subst hz; exact hr)
theorem y_lneg {tb : Tables} [Ours tb] {e : Env} {below : List Frame} {T target : State} {m : MethodId} {c : Code} (h : At T m c below) (hx : tb.exec = Jvm.exec) {pc pc' : Nat} {L : Array Slot} {S : List Value} {x : Int64} {z : Int64} (hd : decode c.code pc = .ok (.lneg, 1)) (hz : -x = z) (hp : pc + 1 = pc') (hr : Steps tb e below (T.setTop (mkF m pc' L (.long z :: S))) target) : Steps tb e below (T.setTop (mkF m pc L (.long x :: S))) target := by subst hp; exact XS.lneg h hx rfl hd rfl (by subst hz; exact hr)
theorem y_i2l {tb : Tables} [Ours tb] {e : Env} {below : List Frame} {T target : State} {m : MethodId} {c : Code} (h : At T m c below) (hx : tb.exec = Jvm.exec) {pc pc' : Nat} {L : Array Slot} {S : List Value} {x : Int32} {z : Int64} (hd : decode c.code pc = .ok (.i2l, 1)) (hz : x.toInt64 = z) (hp : pc + 1 = pc') (hr : Steps tb e below (T.setTop (mkF m pc' L (.long z :: S))) target) : Steps tb e below (T.setTop (mkF m pc L (.int x :: S))) target := by subst hp; exact XS.i2l h hx rfl hd rfl (by subst hz; exact hr)
theorem y_l2i {tb : Tables} [Ours tb] {e : Env} {below : List Frame} {T target : State} {m : MethodId} {c : Code} (h : At T m c below) (hx : tb.exec = Jvm.exec) {pc pc' : Nat} {L : Array Slot} {S : List Value} {x : Int64} {z : Int32} (hd : decode c.code pc = .ok (.l2i, 1)) (hz : x.toInt32 = z) (hp : pc + 1 = pc') (hr : Steps tb e below (T.setTop (mkF m pc' L (.int z :: S))) target) : Steps tb e below (T.setTop (mkF m pc L (.long x :: S))) target := by subst hp; exact XS.l2i h hx rfl hd rfl (by subst hz; exact hr)
theorem y_i2b {tb : Tables} [Ours tb] {e : Env} {below : List Frame} {T target : State} {m : MethodId} {c : Code} (h : At T m c below) (hx : tb.exec = Jvm.exec) {pc pc' : Nat} {L : Array Slot} {S : List Value} {x : Int32} {z : Int32} (hd : decode c.code pc = .ok (.i2b, 1)) (hz : x.toInt8.toInt32 = z) (hp : pc + 1 = pc') (hr : Steps tb e below (T.setTop (mkF m pc' L (.int z :: S))) target) : Steps tb e below (T.setTop (mkF m pc L (.int x :: S))) target := by subst hp; exact XS.i2b h hx rfl hd rfl (by subst hz; exact hr)
theorem y_i2s {tb : Tables} [Ours tb] {e : Env} {below : List Frame} {T target : State} {m : MethodId} {c : Code} (h : At T m c below) (hx : tb.exec = Jvm.exec) {pc pc' : Nat} {L : Array Slot} {S : List Value} {x : Int32} {z : Int32} (hd : decode c.code pc = .ok (.i2s, 1)) (hz : x.toInt16.toInt32 = z) (hp : pc + 1 = pc') (hr : Steps tb e below (T.setTop (mkF m pc' L (.int z :: S))) target) : Steps tb e below (T.setTop (mkF m pc L (.int x :: S))) target := by subst hp; exact XS.i2s h hx rfl hd rfl (by subst hz; exact hr)
theorem y_i2c {tb : Tables} [Ours tb] {e : Env} {below : List Frame} {T target : State} {m : MethodId} {c : Code} (h : At T m c below) (hx : tb.exec = Jvm.exec) {pc pc' : Nat} {L : Array Slot} {S : List Value} {x : Int32} {z : Int32} (hd : decode c.code pc = .ok (.i2c, 1)) (hz : x.toUInt32.toUInt16.toUInt32.toInt32 = z) (hp : pc + 1 = pc') (hr : Steps tb e below (T.setTop (mkF m pc' L (.int z :: S))) target) : Steps tb e below (T.setTop (mkF m pc L (.int x :: S))) target := by subst hp; exact XS.i2c h hx rfl hd rfl (by subst hz; exact hr)
theorem y_ishl {tb : Tables} [Ours tb] {e : Env} {below : List Frame} {T target : State} {m : MethodId} {c : Code} (h : At T m c below) (hx : tb.exec = Jvm.exec) {pc pc' : Nat} {L : Array Slot} {S : List Value} {x z : Int32} {y : Int32} (hd : decode c.code pc = .ok (.ishl, 1)) (hz : (x <<< (y &&& 31)) = z) (hp : pc + 1 = pc') (hr : Steps tb e below (T.setTop (mkF m pc' L (.int z :: S))) target) : Steps tb e below (T.setTop (mkF m pc L (.int y :: .int x :: S))) target := by subst hp; exact XS.ishl h hx rfl hd rfl (by subst hz; exact hr)
theorem y_ishr {tb : Tables} [Ours tb] {e : Env} {below : List Frame} {T target : State} {m : MethodId} {c : Code} (h : At T m c below) (hx : tb.exec = Jvm.exec) {pc pc' : Nat} {L : Array Slot} {S : List Value} {x z : Int32} {y : Int32} (hd : decode c.code pc = .ok (.ishr, 1)) (hz : (x >>> (y &&& 31)) = z) (hp : pc + 1 = pc') (hr : Steps tb e below (T.setTop (mkF m pc' L (.int z :: S))) target) : Steps tb e below (T.setTop (mkF m pc L (.int y :: .int x :: S))) target := by subst hp; exact XS.ishr h hx rfl hd rfl (by subst hz; exact hr)
theorem y_iushr {tb : Tables} [Ours tb] {e : Env} {below : List Frame} {T target : State} {m : MethodId} {c : Code} (h : At T m c below) (hx : tb.exec = Jvm.exec) {pc pc' : Nat} {L : Array Slot} {S : List Value} {x z : Int32} {y : Int32} (hd : decode c.code pc = .ok (.iushr, 1)) (hz : ((x.toUInt32 >>> (y &&& 31).toUInt32).toInt32) = z) (hp : pc + 1 = pc') (hr : Steps tb e below (T.setTop (mkF m pc' L (.int z :: S))) target) : Steps tb e below (T.setTop (mkF m pc L (.int y :: .int x :: S))) target := by subst hp; exact XS.iushr h hx rfl hd rfl (by subst hz; exact hr)
theorem y_lshl {tb : Tables} [Ours tb] {e : Env} {below : List Frame} {T target : State} {m : MethodId} {c : Code} (h : At T m c below) (hx : tb.exec = Jvm.exec) {pc pc' : Nat} {L : Array Slot} {S : List Value} {x z : Int64} {y : Int32} (hd : decode c.code pc = .ok (.lshl, 1)) (hz : (x <<< (y &&& 0x3f).toInt64) = z) (hp : pc + 1 = pc') (hr : Steps tb e below (T.setTop (mkF m pc' L (.long z :: S))) target) : Steps tb e below (T.setTop (mkF m pc L (.int y :: .long x :: S))) target := by subst hp; exact XS.lshl h hx rfl hd rfl (by subst hz; exact hr)
theorem y_lshr {tb : Tables} [Ours tb] {e : Env} {below : List Frame} {T target : State} {m : MethodId} {c : Code} (h : At T m c below) (hx : tb.exec = Jvm.exec) {pc pc' : Nat} {L : Array Slot} {S : List Value} {x z : Int64} {y : Int32} (hd : decode c.code pc = .ok (.lshr, 1)) (hz : (x >>> (y &&& 0x3f).toInt64) = z) (hp : pc + 1 = pc') (hr : Steps tb e below (T.setTop (mkF m pc' L (.long z :: S))) target) : Steps tb e below (T.setTop (mkF m pc L (.int y :: .long x :: S))) target := by subst hp; exact XS.lshr h hx rfl hd rfl (by subst hz; exact hr)
theorem y_lushr {tb : Tables} [Ours tb] {e : Env} {below : List Frame} {T target : State} {m : MethodId} {c : Code} (h : At T m c below) (hx : tb.exec = Jvm.exec) {pc pc' : Nat} {L : Array Slot} {S : List Value} {x z : Int64} {y : Int32} (hd : decode c.code pc = .ok (.lushr, 1)) (hz : ((x.toUInt64 >>> (y &&& 0x3f).toInt64.toUInt64).toInt64) = z) (hp : pc + 1 = pc') (hr : Steps tb e below (T.setTop (mkF m pc' L (.long z :: S))) target) : Steps tb e below (T.setTop (mkF m pc L (.int y :: .long x :: S))) target := by subst hp; exact XS.lushr h hx rfl hd rfl (by subst hz; exact hr)
theorem y_lcmp {tb : Tables} [Ours tb] {e : Env} {below : List Frame} {T target : State} {m : MethodId} {c : Code} (h : At T m c below) (hx : tb.exec = Jvm.exec) {pc pc' : Nat} {L : Array Slot} {S : List Value} {x y : Int64} (hd : decode c.code pc = .ok (.lcmp, 1)) (hp : pc + 1 = pc') (hr : Steps tb e below (T.setTop (mkF m pc' L (.int (lcmpW x y) :: S))) target) : Steps tb e below (T.setTop (mkF m pc L (.long y :: .long x :: S))) target := by subst hp; exact XS.lcmp h hx rfl hd rfl hr
theorem y_iinc {tb : Tables} [Ours tb] {e : Env} {below : List Frame} {T target : State} {m : MethodId} {c : Code} (h : At T m c below) (hx : tb.exec = Jvm.exec) {pc pc' : Nat} {L : Array Slot} {S : List Value} {k : Nat} {cst : Int} {x : Int32} {l' : Array Slot} (hd : decode c.code pc = .ok (.iinc k cst, 3)) (hl : L[k]? = some (.val (.int x))) (hl' : storeLocals L k (.int (x + Int32.ofInt cst)) = some l') (hp : pc + 3 = pc') (hr : Steps tb e below (T.setTop (mkF m pc' l' S)) target) : Steps tb e below (T.setTop (mkF m pc L S)) target := by subst hp; exact XS.iinc h hx rfl hd hl hl' hr
theorem y_dup {tb : Tables} [Ours tb] {e : Env} {below : List Frame} {T target : State} {m : MethodId} {c : Code} (h : At T m c below) (hx : tb.exec = Jvm.exec) {pc pc' : Nat} {L : Array Slot} {S : List Value} {v : Value} (hd : decode c.code pc = .ok (.dup, 1)) (hc : v.category = 1) (hp : pc + 1 = pc') (hr : Steps tb e below (T.setTop (mkF m pc' L (v :: v :: S))) target) : Steps tb e below (T.setTop (mkF m pc L (v :: S))) target := by subst hp; exact XS.dup h hx rfl hd rfl hc hr
theorem y_goto {tb : Tables} [Ours tb] {e : Env} {below : List Frame} {T target : State} {m : MethodId} {c : Code} (h : At T m c below) (hx : tb.exec = Jvm.exec) {pc pc' : Nat} {L : Array Slot} {S : List Value} {o : Int} (hd : decode c.code pc = .ok (.goto o, 3)) (ho : 0 ≤ (pc : Int) + o) (hp : ((pc : Int) + o).toNat = pc') (hr : Steps tb e below (T.setTop (mkF m pc' L S)) target) : Steps tb e below (T.setTop (mkF m pc L S)) target := XS.goto h hx rfl rfl hd ho hp hr
theorem y_ifYes {tb : Tables} [Ours tb] {e : Env} {below : List Frame} {T target : State} {m : MethodId} {c : Code} (h : At T m c below) (hx : tb.exec = Jvm.exec) {pc pc' : Nat} {L : Array Slot} {S : List Value} {cd : ClassFile.Cond} {x : Int32} {o : Int} (hd : decode c.code pc = .ok (.ifCond cd o, 3)) (hc : ifCond.holds cd x = true) (ho : 0 ≤ (pc : Int) + o) (hp : ((pc : Int) + o).toNat = pc') (hr : Steps tb e below (T.setTop (mkF m pc' L S)) target) : Steps tb e below (T.setTop (mkF m pc L (.int x :: S))) target := XS.ifYes h hx rfl rfl hd rfl hc ho hp hr
theorem y_ifNo {tb : Tables} [Ours tb] {e : Env} {below : List Frame} {T target : State} {m : MethodId} {c : Code} (h : At T m c below) (hx : tb.exec = Jvm.exec) {pc pc' : Nat} {L : Array Slot} {S : List Value} {cd : ClassFile.Cond} {x : Int32} {o : Int} (hd : decode c.code pc = .ok (.ifCond cd o, 3)) (hc : ifCond.holds cd x = false) (hp : pc + 3 = pc') (hr : Steps tb e below (T.setTop (mkF m pc' L S)) target) : Steps tb e below (T.setTop (mkF m pc L (.int x :: S))) target := by subst hp; exact XS.ifNo h hx rfl hd rfl hc hr
theorem y_icmpYes {tb : Tables} [Ours tb] {e : Env} {below : List Frame} {T target : State} {m : MethodId} {c : Code} (h : At T m c below) (hx : tb.exec = Jvm.exec) {pc pc' : Nat} {L : Array Slot} {S : List Value} {cd : ClassFile.Cond} {x y : Int32} {o : Int} (hd : decode c.code pc = .ok (.if_icmp cd o, 3)) (hc : if_icmp.holds cd x y = true) (ho : 0 ≤ (pc : Int) + o) (hp : ((pc : Int) + o).toNat = pc') (hr : Steps tb e below (T.setTop (mkF m pc' L S)) target) : Steps tb e below (T.setTop (mkF m pc L (.int y :: .int x :: S))) target := XS.icmpYes h hx rfl rfl hd rfl hc ho hp hr
theorem y_icmpNo {tb : Tables} [Ours tb] {e : Env} {below : List Frame} {T target : State} {m : MethodId} {c : Code} (h : At T m c below) (hx : tb.exec = Jvm.exec) {pc pc' : Nat} {L : Array Slot} {S : List Value} {cd : ClassFile.Cond} {x y : Int32} {o : Int} (hd : decode c.code pc = .ok (.if_icmp cd o, 3)) (hc : if_icmp.holds cd x y = false) (hp : pc + 3 = pc') (hr : Steps tb e below (T.setTop (mkF m pc' L S)) target) : Steps tb e below (T.setTop (mkF m pc L (.int y :: .int x :: S))) target := by subst hp; exact XS.icmpNo h hx rfl hd rfl hc hr
theorem own_of {x k : Int32} (h : x.toInt = k.toInt) : x = k := Int32.toInt_inj.mp h
theorem own_and3 (k : Int32) : k &&& 3 = 0 ∨ k &&& 3 = 1 ∨ k &&& 3 = 2 ∨ k &&& 3 = 3 := by
  have q : (k &&& 3).toInt = k.toInt % 4 := c_mask k 3 2 (by decide) (by decide)
  generalize k &&& 3 = x at q ⊢
  have : x.toInt = 0 ∨ x.toInt = 1 ∨ x.toInt = 2 ∨ x.toInt = 3 := by omega
  rcases this with h | h | h | h
  · exact Or.inl (own_of h)
  · exact Or.inr (Or.inl (own_of h))
  · exact Or.inr (Or.inr (Or.inl (own_of h)))
  · exact Or.inr (Or.inr (Or.inr (own_of h)))
theorem d1_0 : decode prog_95_method_1_code 0 = .ok (.aload_n 0, 1) := by decide +kernel
theorem d1_1 : decode prog_95_method_1_code 1 = .ok (.invokespecial 1, 3) := by decide +kernel
theorem d1_4 : decode prog_95_method_1_code 4 = .ok (.aload_n 0, 1) := by decide +kernel
theorem d1_5 : decode prog_95_method_1_code 5 = .ok (.getstatic 7, 3) := by decide +kernel
theorem d1_8 : decode prog_95_method_1_code 8 = .ok (.putfield 13, 3) := by decide +kernel
theorem d1_11 : decode prog_95_method_1_code 11 = .ok (.return_, 1) := by decide +kernel
theorem pn_com_example_certline_certline_transport_Backoff : plainName "com/example/certline/certline/transport/Backoff" = true := by first | (simp [plainName, overriddenIn]; done) | decide +kernel
theorem ef_1 (m : MethodId) (x0 : Addr) : entryFrame m #[(.ref x0)] 1 = mkF m 0 #[rv x0] [] := by first | (simp [entryFrame, mkF, argsToLocals, Value.category]; done) | rfl
def Q1 (Z : State) (pr0 : Addr) (h0 : Heap) (n0 : Nat) (v : Option Value) (h : Heap) (L : List Loc) : Prop := v = none ∧ Fr n0 L ∧ Keep h0 h [pr0] ∧ Fld Z h pr0 "com/example/certline/certline/transport/Backoff" "next" "J" (.long (100000000 : Int64))
set_option maxRecDepth 65536 in
set_option maxHeartbeats 40000000 in
theorem rm1 (l : Launch) (Z : State) (a0 : Array Value) (hw : ∀ d ∈ tables_1, d.before a0 Z = true) (ws : List Jvm.Cond) (pr0 : Addr) (h0 : Heap) (n0 : Nat) (O0 : Old Z n0 h0) (S_FIRST_NANOS : Sta Z Z.heap "com/example/certline/certline/transport/Backoff" "FIRST_NANOS" "J" (.long (100000000 : Int64))) (E_pr0 : Exa Z h0 pr0 "com/example/certline/certline/transport/Backoff") (F_next_pr0 : Fld Z h0 pr0 "com/example/certline/certline/transport/Backoff" "next" "J" (.long (0 : Int64))) (G_pr0 : n0 ≤ pr0) :
    MetFree l (⟨"com/example/certline/certline/transport/Backoff", "<init>", "()V"⟩ : MethodName) (head1 (Jvm.Cond.code (⟨"com/example/certline/certline/transport/Backoff", "<init>", "()V"⟩ : MethodName) prog_95_method_1_code 1 none :: ws) ({ frames := 1, cells := 0, slots := 0, locals := 12 } : Room)) (fun a U => a = #[(.ref pr0)] ∧ Z.Warmed39 U.vm ∧ U.heap = h0) (fun _ _ _ _ _ => True) (fun _ U o U' => ∃ v L, o = .returned v ∧ Q1 Z pr0 h0 n0 v U'.heap L ∧ FrameEnd U o U' L ({ frames := 1, cells := 0, slots := 0, locals := 12 } : Room).cells ({ frames := 1, cells := 0, slots := 0, locals := 12 } : Room).slots) := by
  refine MetFree.of_bodySF (plainFor_of_name pn_com_example_certline_certline_transport_Backoff) hisR ?_
  intro p e s m args below meth c s₁ Bd hml0 hP hK
  obtain ⟨rfl, hZ, hh⟩ := hP
  have hx := Bd.exec
  have hby := Bd.bytes
  have hml : c.maxLocals = 1 := hml0
  have hown : s.vm.findClass "com/example/certline/certline/transport/Backoff" = some m.cls := findClass_of_methodNamed Bd.named
  have hnm := (name_of_methodNamed Bd.named Bd.method).1
  have X0 : Stand p l e ({ frames := 1, cells := 0, slots := 0, locals := 12 } : Room) s m #[(.ref pr0)] below meth c s₁ [] 0 0 := Stand.of_body Bd
  have e0 : s₁.heap = h0 := by rw [← hh, Bd.state]; rfl
  have N0 := Fr.nil n0
  obtain ⟨Go, hGo⟩ : ∃ P : State → Prop, ∀ t, P t ↔ Steps p.tables e below (s₁.setTop (entryFrame m #[(.ref pr0)] 1)) t := ⟨_, fun _ => Iff.rfl⟩
  have pre0 : ∀ t, Steps p.tables e below (s₁.setTop (mkF m 0 #[rv pr0] [])) t → Go t := fun t k => (hGo t).mpr (castTop (ef_1 m pr0) k)
  have K0 : Keep h0 h0 [pr0] := Keep.refl _ _
  have pre1 : ∀ t, Steps p.tables e below (s₁.setTop (mkF m 1 #[rv pr0] [(.ref pr0)])) t → Go t := fun t kt => pre0 t (by
      refine y_aloadN X0.here hx (hb hby d1_0) rfl rfl (pc' := 1) rfl ?_
      exact kt)
  obtain ⟨T2, X2, e2, st2⟩ := initO X0 hx hZ hown (hw _ (List.mem_of_getElem? (i := 6) rfl)) (hw _ (List.mem_of_getElem? (i := 7) rfl)) (hw _ (List.mem_of_getElem? (i := 8) rfl)) e0 (g := (mkF m 1 #[rv pr0] [(.ref pr0)])) rfl (by rw [hml]; rfl) rfl (hb hby d1_1) (by decide) (W := 0) (by show 2 * 0 + _ ≤ _; exact Nat.le_of_eq rfl) (by decide)
  have pre3 : ∀ t, Steps p.tables e below (T2.setTop (mkF m 4 #[rv pr0] [])) t → Go t := fun t kt => pre1 t (st2 t kt)
  have pre4 : ∀ t, Steps p.tables e below (T2.setTop (mkF m 5 #[rv pr0] [(.ref pr0)])) t → Go t := fun t kt => pre3 t (by
      refine y_aloadN X2.here hx (hb hby d1_4) rfl rfl (pc' := 5) rfl ?_
      exact kt)
  obtain ⟨T5, X5, e5, st5⟩ := getS2 X2 hx hZ hown (host := "") (Or.inl (hw _ (List.mem_of_getElem? (i := 9) rfl))) Via.refl e2 (S_FIRST_NANOS.ext O0.2) (g := (mkF m 5 #[rv pr0] [(.ref pr0)])) rfl (hb hby d1_5)
  have pre6 : ∀ t, Steps p.tables e below (T5.setTop (mkF m 8 #[rv pr0] [(.long (100000000 : Int64)), (.ref pr0)])) t → Go t := fun t kt => pre4 t (st5 t kt)
  obtain ⟨T7, h7, X7, e7, W7, st7⟩ := putF X5 hx hZ hown (host := "") (Or.inl (hw _ (List.mem_of_getElem? (i := 11) rfl))) Via.refl e5 F_next_pr0 E_pr0 (Or.inl (hw _ (List.mem_of_getElem? (i := 12) rfl))) (hw _ (List.mem_of_getElem? (i := 1) rfl)) (ty := .long) (by decide) rfl rfl (g := (mkF m 8 #[rv pr0] [(.long (100000000 : Int64)), (.ref pr0)])) rfl rfl (hb hby d1_8)
  have pre8 : ∀ t, Steps p.tables e below (T7.setTop (mkF m 11 #[rv pr0] [])) t → Go t := fun t kt => pre6 t (st7 t kt)
  have f9 : Exa Z h7 pr0 "com/example/certline/certline/transport/Backoff" := (E_pr0.wr W7)
  have f11 : Fld Z h7 pr0 "com/example/certline/certline/transport/Backoff" "next" "J" (.long (100000000 : Int64)) := F_next_pr0.same W7
  have N12 := Fr.snoc X7 N0 G_pr0
  have O12 := O0.wr W7 G_pr0
  have K12 : Keep h0 h7 [pr0] := K0.wr W7 (Or.inl (List.mem_of_getElem? (i := 0) rfl))
  obtain ⟨fs, hr, hrun, hended, hW, hsame⟩ := X7.leave (v := none) (fun _ => rfl)
  refine ⟨_, _, (hGo _).mp (pre8 _ ?_), hrun, hended, _, _, rfl, ?_, ⟨_, rfl⟩, hW, hsame.mono (by decide) (by decide)⟩
  · exact X7.returnOut hx Bd.returns (hb hby d1_11) hr
  · show Q1 Z pr0 h0 n0 _ T7.heap _
    rw [e7]
    exact ⟨rfl, N12, K12, f11⟩
theorem d4_0 : decode prog_95_method_3_code 0 = .ok (.aload_n 0, 1) := by decide +kernel
theorem d4_1 : decode prog_95_method_3_code 1 = .ok (.getstatic 7, 3) := by decide +kernel
theorem d4_4 : decode prog_95_method_3_code 4 = .ok (.putfield 13, 3) := by decide +kernel
theorem d4_7 : decode prog_95_method_3_code 7 = .ok (.return_, 1) := by decide +kernel
theorem ef_4 (m : MethodId) (x0 : Addr) : entryFrame m #[(.ref x0)] 1 = mkF m 0 #[rv x0] [] := by first | (simp [entryFrame, mkF, argsToLocals, Value.category]; done) | rfl
def Q4 (Z : State) (pr0 : Addr) (u_next_pr0 : Int64) (h0 : Heap) (n0 : Nat) (v : Option Value) (h : Heap) (L : List Loc) : Prop := v = none ∧ Fr n0 L ∧ Keep h0 h [pr0] ∧ Fld Z h pr0 "com/example/certline/certline/transport/Backoff" "next" "J" (.long (100000000 : Int64))
set_option maxRecDepth 65536 in
set_option maxHeartbeats 40000000 in
theorem rm4 (l : Launch) (Z : State) (a0 : Array Value) (hw : ∀ d ∈ tables_1, d.before a0 Z = true) (ws : List Jvm.Cond) (pr0 : Addr) (u_next_pr0 : Int64) (h0 : Heap) (n0 : Nat) (O0 : Old Z n0 h0) (S_FIRST_NANOS : Sta Z Z.heap "com/example/certline/certline/transport/Backoff" "FIRST_NANOS" "J" (.long (100000000 : Int64))) (E_pr0 : Exa Z h0 pr0 "com/example/certline/certline/transport/Backoff") (F_next_pr0 : Fld Z h0 pr0 "com/example/certline/certline/transport/Backoff" "next" "J" (.long u_next_pr0)) (G_pr0 : n0 ≤ pr0) :
    MetFree l (⟨"com/example/certline/certline/transport/Backoff", "reset", "()V"⟩ : MethodName) (head1 (Jvm.Cond.code (⟨"com/example/certline/certline/transport/Backoff", "reset", "()V"⟩ : MethodName) prog_95_method_3_code 1 none :: ws) ({ frames := 0, cells := 0, slots := 0, locals := 0 } : Room)) (fun a U => a = #[(.ref pr0)] ∧ Z.Warmed39 U.vm ∧ U.heap = h0) (fun _ _ _ _ _ => True) (fun _ U o U' => ∃ v L, o = .returned v ∧ Q4 Z pr0 u_next_pr0 h0 n0 v U'.heap L ∧ FrameEnd U o U' L ({ frames := 0, cells := 0, slots := 0, locals := 0 } : Room).cells ({ frames := 0, cells := 0, slots := 0, locals := 0 } : Room).slots) := by
  refine MetFree.of_bodySF (plainFor_of_name pn_com_example_certline_certline_transport_Backoff) hisR ?_
  intro p e s m args below meth c s₁ Bd hml0 hP hK
  obtain ⟨rfl, hZ, hh⟩ := hP
  have hx := Bd.exec
  have hby := Bd.bytes
  have hml : c.maxLocals = 1 := hml0
  have hown : s.vm.findClass "com/example/certline/certline/transport/Backoff" = some m.cls := findClass_of_methodNamed Bd.named
  have hnm := (name_of_methodNamed Bd.named Bd.method).1
  have X0 : Stand p l e ({ frames := 0, cells := 0, slots := 0, locals := 0 } : Room) s m #[(.ref pr0)] below meth c s₁ [] 0 0 := Stand.of_body Bd
  have e0 : s₁.heap = h0 := by rw [← hh, Bd.state]; rfl
  have N0 := Fr.nil n0
  obtain ⟨Go, hGo⟩ : ∃ P : State → Prop, ∀ t, P t ↔ Steps p.tables e below (s₁.setTop (entryFrame m #[(.ref pr0)] 1)) t := ⟨_, fun _ => Iff.rfl⟩
  have pre0 : ∀ t, Steps p.tables e below (s₁.setTop (mkF m 0 #[rv pr0] [])) t → Go t := fun t k => (hGo t).mpr (castTop (ef_4 m pr0) k)
  have K0 : Keep h0 h0 [pr0] := Keep.refl _ _
  have pre1 : ∀ t, Steps p.tables e below (s₁.setTop (mkF m 1 #[rv pr0] [(.ref pr0)])) t → Go t := fun t kt => pre0 t (by
      refine y_aloadN X0.here hx (hb hby d4_0) rfl rfl (pc' := 1) rfl ?_
      exact kt)
  obtain ⟨T2, X2, e2, st2⟩ := getS2 X0 hx hZ hown (host := "") (Or.inl (hw _ (List.mem_of_getElem? (i := 9) rfl))) Via.refl e0 (S_FIRST_NANOS.ext O0.2) (g := (mkF m 1 #[rv pr0] [(.ref pr0)])) rfl (hb hby d4_1)
  have pre3 : ∀ t, Steps p.tables e below (T2.setTop (mkF m 4 #[rv pr0] [(.long (100000000 : Int64)), (.ref pr0)])) t → Go t := fun t kt => pre1 t (st2 t kt)
  obtain ⟨T4, h4, X4, e4, W4, st4⟩ := putF X2 hx hZ hown (host := "") (Or.inl (hw _ (List.mem_of_getElem? (i := 11) rfl))) Via.refl e2 F_next_pr0 E_pr0 (Or.inl (hw _ (List.mem_of_getElem? (i := 12) rfl))) (hw _ (List.mem_of_getElem? (i := 1) rfl)) (ty := .long) (by decide) rfl rfl (g := (mkF m 4 #[rv pr0] [(.long (100000000 : Int64)), (.ref pr0)])) rfl rfl (hb hby d4_4)
  have pre5 : ∀ t, Steps p.tables e below (T4.setTop (mkF m 7 #[rv pr0] [])) t → Go t := fun t kt => pre3 t (st4 t kt)
  have f6 : Exa Z h4 pr0 "com/example/certline/certline/transport/Backoff" := (E_pr0.wr W4)
  have f8 : Fld Z h4 pr0 "com/example/certline/certline/transport/Backoff" "next" "J" (.long (100000000 : Int64)) := F_next_pr0.same W4
  have N9 := Fr.snoc X4 N0 G_pr0
  have O9 := O0.wr W4 G_pr0
  have K9 : Keep h0 h4 [pr0] := K0.wr W4 (Or.inl (List.mem_of_getElem? (i := 0) rfl))
  obtain ⟨fs, hr, hrun, hended, hW, hsame⟩ := X4.leave (v := none) (fun _ => rfl)
  refine ⟨_, _, (hGo _).mp (pre5 _ ?_), hrun, hended, _, _, rfl, ?_, ⟨_, rfl⟩, hW, hsame.mono (by decide) (by decide)⟩
  · exact X4.returnOut hx Bd.returns (hb hby d4_7) hr
  · show Q4 Z pr0 u_next_pr0 h0 n0 _ T4.heap _
    rw [e4]
    exact ⟨rfl, N9, K9, f8⟩
theorem d6_0 : decode jdk_29_method_70_code 0 = .ok (.lload_n 0, 1) := by decide +kernel
theorem d6_1 : decode jdk_29_method_70_code 1 = .ok (.lload_n 2, 1) := by decide +kernel
theorem d6_2 : decode jdk_29_method_70_code 2 = .ok (.lcmp, 1) := by decide +kernel
theorem d6_3 : decode jdk_29_method_70_code 3 = .ok (.ifCond .gt 7, 3) := by decide +kernel
theorem d6_6 : decode jdk_29_method_70_code 6 = .ok (.lload_n 0, 1) := by decide +kernel
theorem d6_7 : decode jdk_29_method_70_code 7 = .ok (.goto 4, 3) := by decide +kernel
theorem d6_10 : decode jdk_29_method_70_code 10 = .ok (.lload_n 2, 1) := by decide +kernel
theorem d6_11 : decode jdk_29_method_70_code 11 = .ok (.lreturn, 1) := by decide +kernel
theorem ef_6 (m : MethodId) (x0 : Int64) (x1 : Int64) : entryFrame m #[(.long x0), (.long x1)] 4 = mkF m 0 #[jv x0, .second, jv x1, .second] [] := by first | (simp [entryFrame, mkF, argsToLocals, Value.category]; done) | rfl
def Q6 (Z : State) (pj0 : Int64) (pj1 : Int64) (h0 : Heap) (n0 : Nat) (v : Option Value) (h : Heap) (L : List Loc) : Prop := v = some (.long (if pj1 < pj0 then pj1 else pj0)) ∧ Fr n0 L ∧ h = h0
set_option maxRecDepth 65536 in
set_option maxHeartbeats 40000000 in
theorem rm6 (l : Launch) (Z : State) (a0 : Array Value) (hw : ∀ d ∈ tables_1, d.before a0 Z = true) (ws : List Jvm.Cond) (pj0 : Int64) (pj1 : Int64) (h0 : Heap) (n0 : Nat) (O0 : Old Z n0 h0) :
    MetFree l (⟨"java/lang/Math", "min", "(JJ)J"⟩ : MethodName) (head1 (Jvm.Cond.code (⟨"java/lang/Math", "min", "(JJ)J"⟩ : MethodName) jdk_29_method_70_code 4 (some .long) :: ws) ({ frames := 0, cells := 0, slots := 0, locals := 0 } : Room)) (fun a U => a = #[(.long pj0), (.long pj1)] ∧ Z.Warmed39 U.vm ∧ U.heap = h0) (fun _ _ _ _ _ => True) (fun _ U o U' => ∃ v L, o = .returned v ∧ Q6 Z pj0 pj1 h0 n0 v U'.heap L ∧ FrameEnd U o U' L ({ frames := 0, cells := 0, slots := 0, locals := 0 } : Room).cells ({ frames := 0, cells := 0, slots := 0, locals := 0 } : Room).slots) := by
  refine MetFree.of_bodySF (Jvm.Free.JP.mathPlain rfl (by decide +kernel)) hisR ?_
  intro p e s m args below meth c s₁ Bd hml0 hP hK
  obtain ⟨rfl, hZ, hh⟩ := hP
  have hx := Bd.exec
  have hby := Bd.bytes
  have hml : c.maxLocals = 4 := hml0
  have hown : s.vm.findClass "java/lang/Math" = some m.cls := findClass_of_methodNamed Bd.named
  have hnm := (name_of_methodNamed Bd.named Bd.method).1
  have X0 : Stand p l e ({ frames := 0, cells := 0, slots := 0, locals := 0 } : Room) s m #[(.long pj0), (.long pj1)] below meth c s₁ [] 0 0 := Stand.of_body Bd
  have e0 : s₁.heap = h0 := by rw [← hh, Bd.state]; rfl
  have N0 := Fr.nil n0
  obtain ⟨Go, hGo⟩ : ∃ P : State → Prop, ∀ t, P t ↔ Steps p.tables e below (s₁.setTop (entryFrame m #[(.long pj0), (.long pj1)] 4)) t := ⟨_, fun _ => Iff.rfl⟩
  have pre0 : ∀ t, Steps p.tables e below (s₁.setTop (mkF m 0 #[jv pj0, .second, jv pj1, .second] [])) t → Go t := fun t k => (hGo t).mpr (castTop (ef_6 m pj0 pj1) k)
  have pre1 : ∀ t, Steps p.tables e below (s₁.setTop (mkF m 3 #[jv pj0, .second, jv pj1, .second] [(.int (lcmpW pj0 pj1))])) t → Go t := fun t kt => pre0 t (by
      refine y_lloadN X0.here hx (hb hby d6_0) rfl (pc' := 1) rfl ?_
      refine y_lloadN X0.here hx (hb hby d6_1) rfl (pc' := 2) rfl ?_
      refine y_lcmp X0.here hx (hb hby d6_2) (pc' := 3) rfl ?_
      exact kt)
  by_cases hc3_2 : pj1 < pj0
  · have pre3 : ∀ t, Steps p.tables e below (s₁.setTop (mkF m 11 #[jv pj0, .second, jv pj1, .second] [(.long pj1)])) t → Go t := fun t kt => pre1 t (by
        refine y_ifYes X0.here hx (hb hby d6_3) ((if0 _ _).trans (tlt (lq_gt hc3_2)).2.2.1) (pc' := 10) (by decide) rfl ?_
        refine y_lloadN X0.here hx (hb hby d6_10) rfl (pc' := 11) rfl ?_
        exact kt)
    obtain ⟨fs, hr, hrun, hended, hW, hsame⟩ := X0.leave (v := some (.long pj1)) (fun h => by rw [Bd.returns] at h; cases h)
    refine ⟨_, _, (hGo _).mp (pre3 _ ?_), hrun, hended, _, _, rfl, ?_, ⟨_, rfl⟩, hW, hsame.mono (by decide) (by decide)⟩
    · exact retOut X0 hx Bd.returns rfl (Or.inr (Or.inl ⟨rfl, rfl, _, rfl⟩)) (hb hby d6_11) hr
    · show Q6 Z pj0 pj1 h0 n0 _ s₁.heap _
      rw [e0]
      exact ⟨(by first | (simp only [if_pos hc3_2]; done) | (simp only [if_pos hc3_2]; exact rfl) | exact rfl), N0, rfl⟩
  · have pre4 : ∀ t, Steps p.tables e below (s₁.setTop (mkF m 11 #[jv pj0, .second, jv pj1, .second] [(.long pj0)])) t → Go t := fun t kt => pre1 t (by
        refine y_ifNo X0.here hx (hb hby d6_3) ((if0 _ _).trans (flt (lq_ngt hc3_2)).2.2.1) (pc' := 6) rfl ?_
        refine y_lloadN X0.here hx (hb hby d6_6) rfl (pc' := 7) rfl ?_
        refine y_goto X0.here hx (hb hby d6_7) (pc' := 11) (by decide) rfl ?_
        exact kt)
    obtain ⟨fs, hr, hrun, hended, hW, hsame⟩ := X0.leave (v := some (.long pj0)) (fun h => by rw [Bd.returns] at h; cases h)
    refine ⟨_, _, (hGo _).mp (pre4 _ ?_), hrun, hended, _, _, rfl, ?_, ⟨_, rfl⟩, hW, hsame.mono (by decide) (by decide)⟩
    · exact retOut X0 hx Bd.returns rfl (Or.inr (Or.inl ⟨rfl, rfl, _, rfl⟩)) (hb hby d6_11) hr
    · show Q6 Z pj0 pj1 h0 n0 _ s₁.heap _
      rw [e0]
      exact ⟨(by first | (simp only [if_neg hc3_2]; done) | (simp only [if_neg hc3_2]; exact rfl) | exact rfl), N0, rfl⟩
theorem d5_0 : decode prog_95_method_2_code 0 = .ok (.aload_n 0, 1) := by decide +kernel
theorem d5_1 : decode prog_95_method_2_code 1 = .ok (.getfield 13, 3) := by decide +kernel
theorem d5_4 : decode prog_95_method_2_code 4 = .ok (.lstore_n 1, 1) := by decide +kernel
theorem d5_5 : decode prog_95_method_2_code 5 = .ok (.aload_n 0, 1) := by decide +kernel
theorem d5_6 : decode prog_95_method_2_code 6 = .ok (.ldc2_w 16, 3) := by decide +kernel
theorem d5_9 : decode prog_95_method_2_code 9 = .ok (.aload_n 0, 1) := by decide +kernel
theorem d5_10 : decode prog_95_method_2_code 10 = .ok (.getfield 13, 3) := by decide +kernel
theorem d5_13 : decode prog_95_method_2_code 13 = .ok (.lmul, 1) := by decide +kernel
theorem d5_14 : decode prog_95_method_2_code 14 = .ok (.getstatic 18, 3) := by decide +kernel
theorem d5_17 : decode prog_95_method_2_code 17 = .ok (.invokestatic 21, 3) := by decide +kernel
theorem d5_20 : decode prog_95_method_2_code 20 = .ok (.putfield 13, 3) := by decide +kernel
theorem d5_23 : decode prog_95_method_2_code 23 = .ok (.lload_n 1, 1) := by decide +kernel
theorem d5_24 : decode prog_95_method_2_code 24 = .ok (.lreturn, 1) := by decide +kernel
theorem pd__JJ_J : parseMethodDescriptor "(JJ)J" = some ⟨[.long, .long], some .long⟩ := by decide +kernel
theorem ef_5 (m : MethodId) (x0 : Addr) : entryFrame m #[(.ref x0)] 3 = mkF m 0 #[rv x0, .unset, .unset] [] := by first | (simp [entryFrame, mkF, argsToLocals, Value.category]; done) | rfl
def Q5 (Z : State) (pr0 : Addr) (u_next_pr0 : Int64) (h0 : Heap) (n0 : Nat) (v : Option Value) (h : Heap) (L : List Loc) : Prop := v = some (.long u_next_pr0) ∧ Fr n0 L ∧ Keep h0 h [pr0] ∧ Fld Z h pr0 "com/example/certline/certline/transport/Backoff" "next" "J" (.long (if (1000000000 : Int64) < ((2 : Int64) * u_next_pr0) then (1000000000 : Int64) else ((2 : Int64) * u_next_pr0)))
set_option maxRecDepth 65536 in
set_option maxHeartbeats 40000000 in
theorem rm5 (l : Launch) (Z : State) (a0 : Array Value) (hw : ∀ d ∈ tables_1, d.before a0 Z = true) (ws : List Jvm.Cond) (pr0 : Addr) (u_next_pr0 : Int64) (h0 : Heap) (n0 : Nat) (O0 : Old Z n0 h0) (S_LIMIT_NANOS : Sta Z Z.heap "com/example/certline/certline/transport/Backoff" "LIMIT_NANOS" "J" (.long (1000000000 : Int64))) (E_pr0 : Exa Z h0 pr0 "com/example/certline/certline/transport/Backoff") (F_next_pr0 : Fld Z h0 pr0 "com/example/certline/certline/transport/Backoff" "next" "J" (.long u_next_pr0)) (G_pr0 : n0 ≤ pr0) :
    MetFree l (⟨"com/example/certline/certline/transport/Backoff", "next", "()J"⟩ : MethodName) (head1 (Jvm.Cond.code (⟨"com/example/certline/certline/transport/Backoff", "next", "()J"⟩ : MethodName) prog_95_method_2_code 3 (some .long) :: ws) ({ frames := 1, cells := 0, slots := 0, locals := 16 } : Room)) (fun a U => a = #[(.ref pr0)] ∧ Z.Warmed39 U.vm ∧ U.heap = h0) (fun _ _ _ _ _ => True) (fun _ U o U' => ∃ v L, o = .returned v ∧ Q5 Z pr0 u_next_pr0 h0 n0 v U'.heap L ∧ FrameEnd U o U' L ({ frames := 1, cells := 0, slots := 0, locals := 16 } : Room).cells ({ frames := 1, cells := 0, slots := 0, locals := 16 } : Room).slots) := by
  refine MetFree.of_bodySF (plainFor_of_name pn_com_example_certline_certline_transport_Backoff) hisR ?_
  intro p e s m args below meth c s₁ Bd hml0 hP hK
  obtain ⟨rfl, hZ, hh⟩ := hP
  have hx := Bd.exec
  have hby := Bd.bytes
  have hml : c.maxLocals = 3 := hml0
  have hown : s.vm.findClass "com/example/certline/certline/transport/Backoff" = some m.cls := findClass_of_methodNamed Bd.named
  have hnm := (name_of_methodNamed Bd.named Bd.method).1
  have X0 : Stand p l e ({ frames := 1, cells := 0, slots := 0, locals := 16 } : Room) s m #[(.ref pr0)] below meth c s₁ [] 0 0 := Stand.of_body Bd
  have e0 : s₁.heap = h0 := by rw [← hh, Bd.state]; rfl
  have N0 := Fr.nil n0
  obtain ⟨Go, hGo⟩ : ∃ P : State → Prop, ∀ t, P t ↔ Steps p.tables e below (s₁.setTop (entryFrame m #[(.ref pr0)] 3)) t := ⟨_, fun _ => Iff.rfl⟩
  have pre0 : ∀ t, Steps p.tables e below (s₁.setTop (mkF m 0 #[rv pr0, .unset, .unset] [])) t → Go t := fun t k => (hGo t).mpr (castTop (ef_5 m pr0) k)
  have K0 : Keep h0 h0 [pr0] := Keep.refl _ _
  have pre1 : ∀ t, Steps p.tables e below (s₁.setTop (mkF m 1 #[rv pr0, .unset, .unset] [(.ref pr0)])) t → Go t := fun t kt => pre0 t (by
      refine y_aloadN X0.here hx (hb hby d5_0) rfl rfl (pc' := 1) rfl ?_
      exact kt)
  obtain ⟨T2, X2, e2, st2⟩ := getF X0 hx hZ hown (host := "") (Or.inl (hw _ (List.mem_of_getElem? (i := 11) rfl))) Via.refl e0 F_next_pr0 (g := (mkF m 1 #[rv pr0, .unset, .unset] [(.ref pr0)])) rfl rfl (hb hby d5_1)
  have pre3 : ∀ t, Steps p.tables e below (T2.setTop (mkF m 4 #[rv pr0, .unset, .unset] [(.long u_next_pr0)])) t → Go t := fun t kt => pre1 t (st2 t kt)
  have pre4 : ∀ t, Steps p.tables e below (T2.setTop (mkF m 10 #[rv pr0, jv u_next_pr0, .second] [(.ref pr0), (.long (2 : Int64)), (.ref pr0)])) t → Go t := fun t kt => pre3 t (by
      refine y_lstoreN X2.here hx (hb hby d5_4) (l' := #[rv pr0, jv u_next_pr0, .second]) rfl (pc' := 5) rfl ?_
      refine y_aloadN X2.here hx (hb hby d5_5) rfl rfl (pc' := 6) rfl ?_
      refine X2.ldc2Long hx hown (mvT hZ (hw _ (List.mem_of_getElem? (i := 27) rfl))) (g := (mkF m 6 #[rv pr0, jv u_next_pr0, .second] [(.ref pr0)])) rfl (hb hby d5_6) _ ?_
      show Steps p.tables e below (T2.setTop (mkF m 9 #[rv pr0, jv u_next_pr0, .second] [(.long (2 : Int64)), (.ref pr0)])) _
      refine y_aloadN X2.here hx (hb hby d5_9) rfl rfl (pc' := 10) rfl ?_
      exact kt)
  obtain ⟨T5, X5, e5, st5⟩ := getF X2 hx hZ hown (host := "") (Or.inl (hw _ (List.mem_of_getElem? (i := 11) rfl))) Via.refl e2 F_next_pr0 (g := (mkF m 10 #[rv pr0, jv u_next_pr0, .second] [(.ref pr0), (.long (2 : Int64)), (.ref pr0)])) rfl rfl (hb hby d5_10)
  have pre6 : ∀ t, Steps p.tables e below (T5.setTop (mkF m 13 #[rv pr0, jv u_next_pr0, .second] [(.long u_next_pr0), (.long (2 : Int64)), (.ref pr0)])) t → Go t := fun t kt => pre4 t (st5 t kt)
  have pre7 : ∀ t, Steps p.tables e below (T5.setTop (mkF m 14 #[rv pr0, jv u_next_pr0, .second] [(.long ((2 : Int64) * u_next_pr0)), (.ref pr0)])) t → Go t := fun t kt => pre6 t (by
      refine y_lmul X5.here hx (hb hby d5_13) rfl (pc' := 14) rfl ?_
      exact kt)
  obtain ⟨T8, X8, e8, st8⟩ := getS2 X5 hx hZ hown (host := "") (Or.inl (hw _ (List.mem_of_getElem? (i := 28) rfl))) Via.refl e5 (S_LIMIT_NANOS.ext O0.2) (g := (mkF m 14 #[rv pr0, jv u_next_pr0, .second] [(.long ((2 : Int64) * u_next_pr0)), (.ref pr0)])) rfl (hb hby d5_14)
  have pre9 : ∀ t, Steps p.tables e below (T8.setTop (mkF m 17 #[rv pr0, jv u_next_pr0, .second] [(.long (1000000000 : Int64)), (.long ((2 : Int64) * u_next_pr0)), (.ref pr0)])) t → Go t := fun t kt => pre7 t (st8 t kt)
  obtain ⟨v10, _, ⟨T10, L10, k10, n10⟩, -, X10, ⟨Lc10, hQ10, l10, y10, z10⟩, st10⟩ := Jvm.LawKit.callS X8 hx (y := (⟨"java/lang/Math", "min", "(JJ)J"⟩ : MethodName)) hown (mvT hZ (hw _ (List.mem_of_getElem? (i := 30) rfl))) (mvT hZ (hw _ (List.mem_of_getElem? (i := 31) rfl))) (mvT hZ (hw _ (List.mem_of_getElem? (i := 32) rfl))) (mvT hZ (hw _ (List.mem_of_getElem? (i := 33) rfl))) (by decide) (backOf (W := 1) (rm6 l Z a0 hw [] ((2 : Int64) * u_next_pr0) (1000000000 : Int64) h0 n0 O0 ) hZ (hw _ (List.mem_of_getElem? (i := 33) rfl)) (hw _ (List.mem_of_getElem? (i := 32) rfl)) (by decide) (by decide)) (g := (mkF m 17 #[rv pr0, jv u_next_pr0, .second] [(.long (1000000000 : Int64)), (.long ((2 : Int64) * u_next_pr0)), (.ref pr0)])) rfl (by rw [hml]; rfl) (argsL := [(.long ((2 : Int64) * u_next_pr0)), (.long (1000000000 : Int64))]) (rest := [(.ref pr0)]) (lenOf pd__JJ_J rfl) rfl (by show 2 * 0 + _ ≤ _; exact Nat.le_of_eq rfl) (hb hby d5_17) (fun _ _ => ⟨rfl, e8, (by decide : 0 + 0 ≤ _), (by decide : 0 + 0 ≤ _)⟩)
  dsimp only [Pt.U, Pt.locs, Pt.cells, Pt.slots] at X10 l10 y10 z10 st10 hQ10
  subst l10 y10 z10
  obtain ⟨hv10, N10q, e10q⟩ := hQ10
  have N11 := Fr.app N0 N10q
  have hw10 := hv10
  obtain ⟨x12, hx12⟩ : ∃ z : Int64, z = (if (1000000000 : Int64) < ((2 : Int64) * u_next_pr0) then (1000000000 : Int64) else ((2 : Int64) * u_next_pr0)) := ⟨_, rfl⟩
  rw [← hx12] at hw10
  subst hw10
  have pre13 : ∀ t, Steps p.tables e below (T10.setTop (mkF m 20 #[rv pr0, jv u_next_pr0, .second] [(.long x12), (.ref pr0)])) t → Go t := fun t kt => pre9 t (st10 t kt)
  obtain ⟨T14, h14, X14, e14, W14, st14⟩ := putF X10 hx hZ hown (host := "") (Or.inl (hw _ (List.mem_of_getElem? (i := 11) rfl))) Via.refl e10q F_next_pr0 E_pr0 (Or.inl (hw _ (List.mem_of_getElem? (i := 12) rfl))) (hw _ (List.mem_of_getElem? (i := 1) rfl)) (ty := .long) (by decide) rfl rfl (g := (mkF m 20 #[rv pr0, jv u_next_pr0, .second] [(.long x12), (.ref pr0)])) rfl rfl (hb hby d5_20)
  have pre15 : ∀ t, Steps p.tables e below (T14.setTop (mkF m 23 #[rv pr0, jv u_next_pr0, .second] [])) t → Go t := fun t kt => pre13 t (st14 t kt)
  have f16 : Exa Z h14 pr0 "com/example/certline/certline/transport/Backoff" := (E_pr0.wr W14)
  have f18 : Fld Z h14 pr0 "com/example/certline/certline/transport/Backoff" "next" "J" (.long x12) := F_next_pr0.same W14
  have N19 := Fr.snoc X14 N11 G_pr0
  have O19 := O0.wr W14 G_pr0
  have K19 : Keep h0 h14 [pr0] := K0.wr W14 (Or.inl (List.mem_of_getElem? (i := 0) rfl))
  have pre20 : ∀ t, Steps p.tables e below (T14.setTop (mkF m 24 #[rv pr0, jv u_next_pr0, .second] [(.long u_next_pr0)])) t → Go t := fun t kt => pre15 t (by
      refine y_lloadN X14.here hx (hb hby d5_23) rfl (pc' := 24) rfl ?_
      exact kt)
  obtain ⟨fs, hr, hrun, hended, hW, hsame⟩ := X14.leave (v := some (.long u_next_pr0)) (fun h => by rw [Bd.returns] at h; cases h)
  refine ⟨_, _, (hGo _).mp (pre20 _ ?_), hrun, hended, _, _, rfl, ?_, ⟨_, rfl⟩, hW, hsame.mono (by decide) (by decide)⟩
  · exact retOut X14 hx Bd.returns rfl (Or.inr (Or.inl ⟨rfl, rfl, _, rfl⟩)) (hb hby d5_24) hr
  · show Q5 Z pr0 u_next_pr0 h0 n0 _ T14.heap _
    rw [e14]
    subst hx12
    exact ⟨rfl, N19, K19, (by first | (simp only []; done) | (simp only []; exact f18) | exact f18)⟩
def fr7 (pi0 : Int32) : Int64 := (if pi0 = (0 : Int32) then (100000000 : Int64) else (if pi0 = (1 : Int32) then (200000000 : Int64) else (if pi0 = (2 : Int32) then (400000000 : Int64) else (if pi0 = (3 : Int32) then (800000000 : Int64) else (1000000000 : Int64)))))
theorem d7_0 : decode method_2_code 0 = .ok (.iload_n 0, 1) := by decide +kernel
theorem d7_1 : decode method_2_code 1 = .ok (.ifCond .ne 7, 3) := by decide +kernel
theorem d7_4 : decode method_2_code 4 = .ok (.ldc2_w 7, 3) := by decide +kernel
theorem d7_7 : decode method_2_code 7 = .ok (.lreturn, 1) := by decide +kernel
theorem d7_8 : decode method_2_code 8 = .ok (.iload_n 0, 1) := by decide +kernel
theorem d7_9 : decode method_2_code 9 = .ok (.iconst 1, 1) := by decide +kernel
theorem d7_10 : decode method_2_code 10 = .ok (.if_icmp .ne 7, 3) := by decide +kernel
theorem d7_13 : decode method_2_code 13 = .ok (.ldc2_w 9, 3) := by decide +kernel
theorem d7_16 : decode method_2_code 16 = .ok (.lreturn, 1) := by decide +kernel
theorem d7_17 : decode method_2_code 17 = .ok (.iload_n 0, 1) := by decide +kernel
theorem d7_18 : decode method_2_code 18 = .ok (.iconst 2, 1) := by decide +kernel
theorem d7_19 : decode method_2_code 19 = .ok (.if_icmp .ne 7, 3) := by decide +kernel
theorem d7_22 : decode method_2_code 22 = .ok (.ldc2_w 11, 3) := by decide +kernel
theorem d7_25 : decode method_2_code 25 = .ok (.lreturn, 1) := by decide +kernel
theorem d7_26 : decode method_2_code 26 = .ok (.iload_n 0, 1) := by decide +kernel
theorem d7_27 : decode method_2_code 27 = .ok (.iconst 3, 1) := by decide +kernel
theorem d7_28 : decode method_2_code 28 = .ok (.if_icmp .ne 7, 3) := by decide +kernel
theorem d7_31 : decode method_2_code 31 = .ok (.ldc2_w 13, 3) := by decide +kernel
theorem d7_34 : decode method_2_code 34 = .ok (.lreturn, 1) := by decide +kernel
theorem d7_35 : decode method_2_code 35 = .ok (.ldc2_w 15, 3) := by decide +kernel
theorem d7_38 : decode method_2_code 38 = .ok (.lreturn, 1) := by decide +kernel
theorem pn_com_example_certline_certline_transport_BackoffNextPinLaw : plainName "com/example/certline/certline/transport/BackoffNextPinLaw" = true := by first | (simp [plainName, overriddenIn]; done) | decide +kernel
theorem ef_7 (m : MethodId) (x0 : Int32) : entryFrame m #[(.int x0)] 1 = mkF m 0 #[iv x0] [] := by first | (simp [entryFrame, mkF, argsToLocals, Value.category]; done) | rfl
def Q7 (Z : State) (pi0 : Int32) (h0 : Heap) (n0 : Nat) (v : Option Value) (h : Heap) (L : List Loc) : Prop := v = some (.long (fr7 pi0)) ∧ Fr n0 L ∧ h = h0
set_option maxRecDepth 65536 in
set_option maxHeartbeats 40000000 in
theorem rm7 (l : Launch) (Z : State) (a0 : Array Value) (hw : ∀ d ∈ tables_1, d.before a0 Z = true) (ws : List Jvm.Cond) (pi0 : Int32) (h0 : Heap) (n0 : Nat) (O0 : Old Z n0 h0) :
    MetFree l (⟨"com/example/certline/certline/transport/BackoffNextPinLaw", "expected", "(I)J"⟩ : MethodName) (head1 (Jvm.Cond.code (⟨"com/example/certline/certline/transport/BackoffNextPinLaw", "expected", "(I)J"⟩ : MethodName) method_2_code 1 (some .long) :: ws) ({ frames := 0, cells := 0, slots := 0, locals := 0 } : Room)) (fun a U => a = #[(.int pi0)] ∧ Z.Warmed39 U.vm ∧ U.heap = h0) (fun _ _ _ _ _ => True) (fun _ U o U' => ∃ v L, o = .returned v ∧ Q7 Z pi0 h0 n0 v U'.heap L ∧ FrameEnd U o U' L ({ frames := 0, cells := 0, slots := 0, locals := 0 } : Room).cells ({ frames := 0, cells := 0, slots := 0, locals := 0 } : Room).slots) := by
  refine MetFree.of_bodySF (plainFor_of_name pn_com_example_certline_certline_transport_BackoffNextPinLaw) hisR ?_
  intro p e s m args below meth c s₁ Bd hml0 hP hK
  obtain ⟨rfl, hZ, hh⟩ := hP
  have hx := Bd.exec
  have hby := Bd.bytes
  have hml : c.maxLocals = 1 := hml0
  have hown : s.vm.findClass "com/example/certline/certline/transport/BackoffNextPinLaw" = some m.cls := findClass_of_methodNamed Bd.named
  have hnm := (name_of_methodNamed Bd.named Bd.method).1
  have X0 : Stand p l e ({ frames := 0, cells := 0, slots := 0, locals := 0 } : Room) s m #[(.int pi0)] below meth c s₁ [] 0 0 := Stand.of_body Bd
  have e0 : s₁.heap = h0 := by rw [← hh, Bd.state]; rfl
  have N0 := Fr.nil n0
  obtain ⟨Go, hGo⟩ : ∃ P : State → Prop, ∀ t, P t ↔ Steps p.tables e below (s₁.setTop (entryFrame m #[(.int pi0)] 1)) t := ⟨_, fun _ => Iff.rfl⟩
  have pre0 : ∀ t, Steps p.tables e below (s₁.setTop (mkF m 0 #[iv pi0] [])) t → Go t := fun t k => (hGo t).mpr (castTop (ef_7 m pi0) k)
  have pre1 : ∀ t, Steps p.tables e below (s₁.setTop (mkF m 1 #[iv pi0] [(.int pi0)])) t → Go t := fun t kt => pre0 t (by
      refine y_iloadN X0.here hx (hb hby d7_0) rfl (pc' := 1) rfl ?_
      exact kt)
  by_cases hc1_2 : pi0 = (0 : Int32)
  · have pre3 : ∀ t, Steps p.tables e below (s₁.setTop (mkF m 7 #[iv pi0] [(.long (100000000 : Int64))])) t → Go t := fun t kt => pre1 t (by
        refine y_ifNo X0.here hx (hb hby d7_1) ((if0 _ _).trans (teq hc1_2).2) (pc' := 4) rfl ?_
        refine X0.ldc2Long hx hown (mvT hZ (hw _ (List.mem_of_getElem? (i := 37) rfl))) (g := (mkF m 4 #[iv pi0] [])) rfl (hb hby d7_4) _ ?_
        show Steps p.tables e below (s₁.setTop (mkF m 7 #[iv pi0] [(.long (100000000 : Int64))])) _
        exact kt)
    obtain ⟨fs, hr, hrun, hended, hW, hsame⟩ := X0.leave (v := some (.long (100000000 : Int64))) (fun h => by rw [Bd.returns] at h; cases h)
    refine ⟨_, _, (hGo _).mp (pre3 _ ?_), hrun, hended, _, _, rfl, ?_, ⟨_, rfl⟩, hW, hsame.mono (by decide) (by decide)⟩
    · exact retOut X0 hx Bd.returns rfl (Or.inr (Or.inl ⟨rfl, rfl, _, rfl⟩)) (hb hby d7_7) hr
    · show Q7 Z pi0 h0 n0 _ s₁.heap _
      rw [e0]
      exact ⟨(by first | (simp only [fr7, if_pos hc1_2]; done) | (simp only [fr7, if_pos hc1_2]; exact rfl) | exact rfl), N0, rfl⟩
  · have pre4 : ∀ t, Steps p.tables e below (s₁.setTop (mkF m 10 #[iv pi0] [(.int (1 : Int32)), (.int pi0)])) t → Go t := fun t kt => pre1 t (by
        refine y_ifYes X0.here hx (hb hby d7_1) ((if0 _ _).trans (feq hc1_2).2) (pc' := 8) (by decide) rfl ?_
        refine y_iloadN X0.here hx (hb hby d7_8) rfl (pc' := 9) rfl ?_
        refine y_iconst X0.here hx (hb hby d7_9) (v := (1 : Int32)) rfl (pc' := 10) rfl ?_
        exact kt)
    by_cases hc10_5 : pi0 = (1 : Int32)
    · have pre6 : ∀ t, Steps p.tables e below (s₁.setTop (mkF m 16 #[iv pi0] [(.long (200000000 : Int64))])) t → Go t := fun t kt => pre4 t (by
          refine y_icmpNo X0.here hx (hb hby d7_10) (teq hc10_5).2 (pc' := 13) rfl ?_
          refine X0.ldc2Long hx hown (mvT hZ (hw _ (List.mem_of_getElem? (i := 38) rfl))) (g := (mkF m 13 #[iv pi0] [])) rfl (hb hby d7_13) _ ?_
          show Steps p.tables e below (s₁.setTop (mkF m 16 #[iv pi0] [(.long (200000000 : Int64))])) _
          exact kt)
      obtain ⟨fs, hr, hrun, hended, hW, hsame⟩ := X0.leave (v := some (.long (200000000 : Int64))) (fun h => by rw [Bd.returns] at h; cases h)
      refine ⟨_, _, (hGo _).mp (pre6 _ ?_), hrun, hended, _, _, rfl, ?_, ⟨_, rfl⟩, hW, hsame.mono (by decide) (by decide)⟩
      · exact retOut X0 hx Bd.returns rfl (Or.inr (Or.inl ⟨rfl, rfl, _, rfl⟩)) (hb hby d7_16) hr
      · show Q7 Z pi0 h0 n0 _ s₁.heap _
        rw [e0]
        exact ⟨(by first | (simp only [fr7, if_neg hc1_2, if_pos hc10_5]; done) | (simp only [fr7, if_neg hc1_2, if_pos hc10_5]; exact rfl) | exact rfl), N0, rfl⟩
    · have pre7 : ∀ t, Steps p.tables e below (s₁.setTop (mkF m 19 #[iv pi0] [(.int (2 : Int32)), (.int pi0)])) t → Go t := fun t kt => pre4 t (by
          refine y_icmpYes X0.here hx (hb hby d7_10) (feq hc10_5).2 (pc' := 17) (by decide) rfl ?_
          refine y_iloadN X0.here hx (hb hby d7_17) rfl (pc' := 18) rfl ?_
          refine y_iconst X0.here hx (hb hby d7_18) (v := (2 : Int32)) rfl (pc' := 19) rfl ?_
          exact kt)
      by_cases hc19_8 : pi0 = (2 : Int32)
      · have pre9 : ∀ t, Steps p.tables e below (s₁.setTop (mkF m 25 #[iv pi0] [(.long (400000000 : Int64))])) t → Go t := fun t kt => pre7 t (by
            refine y_icmpNo X0.here hx (hb hby d7_19) (teq hc19_8).2 (pc' := 22) rfl ?_
            refine X0.ldc2Long hx hown (mvT hZ (hw _ (List.mem_of_getElem? (i := 39) rfl))) (g := (mkF m 22 #[iv pi0] [])) rfl (hb hby d7_22) _ ?_
            show Steps p.tables e below (s₁.setTop (mkF m 25 #[iv pi0] [(.long (400000000 : Int64))])) _
            exact kt)
        obtain ⟨fs, hr, hrun, hended, hW, hsame⟩ := X0.leave (v := some (.long (400000000 : Int64))) (fun h => by rw [Bd.returns] at h; cases h)
        refine ⟨_, _, (hGo _).mp (pre9 _ ?_), hrun, hended, _, _, rfl, ?_, ⟨_, rfl⟩, hW, hsame.mono (by decide) (by decide)⟩
        · exact retOut X0 hx Bd.returns rfl (Or.inr (Or.inl ⟨rfl, rfl, _, rfl⟩)) (hb hby d7_25) hr
        · show Q7 Z pi0 h0 n0 _ s₁.heap _
          rw [e0]
          exact ⟨(by first | (simp only [fr7, if_neg hc1_2, if_neg hc10_5, if_pos hc19_8]; done) | (simp only [fr7, if_neg hc1_2, if_neg hc10_5, if_pos hc19_8]; exact rfl) | exact rfl), N0, rfl⟩
      · have pre10 : ∀ t, Steps p.tables e below (s₁.setTop (mkF m 28 #[iv pi0] [(.int (3 : Int32)), (.int pi0)])) t → Go t := fun t kt => pre7 t (by
            refine y_icmpYes X0.here hx (hb hby d7_19) (feq hc19_8).2 (pc' := 26) (by decide) rfl ?_
            refine y_iloadN X0.here hx (hb hby d7_26) rfl (pc' := 27) rfl ?_
            refine y_iconst X0.here hx (hb hby d7_27) (v := (3 : Int32)) rfl (pc' := 28) rfl ?_
            exact kt)
        by_cases hc28_11 : pi0 = (3 : Int32)
        · have pre12 : ∀ t, Steps p.tables e below (s₁.setTop (mkF m 34 #[iv pi0] [(.long (800000000 : Int64))])) t → Go t := fun t kt => pre10 t (by
              refine y_icmpNo X0.here hx (hb hby d7_28) (teq hc28_11).2 (pc' := 31) rfl ?_
              refine X0.ldc2Long hx hown (mvT hZ (hw _ (List.mem_of_getElem? (i := 40) rfl))) (g := (mkF m 31 #[iv pi0] [])) rfl (hb hby d7_31) _ ?_
              show Steps p.tables e below (s₁.setTop (mkF m 34 #[iv pi0] [(.long (800000000 : Int64))])) _
              exact kt)
          obtain ⟨fs, hr, hrun, hended, hW, hsame⟩ := X0.leave (v := some (.long (800000000 : Int64))) (fun h => by rw [Bd.returns] at h; cases h)
          refine ⟨_, _, (hGo _).mp (pre12 _ ?_), hrun, hended, _, _, rfl, ?_, ⟨_, rfl⟩, hW, hsame.mono (by decide) (by decide)⟩
          · exact retOut X0 hx Bd.returns rfl (Or.inr (Or.inl ⟨rfl, rfl, _, rfl⟩)) (hb hby d7_34) hr
          · show Q7 Z pi0 h0 n0 _ s₁.heap _
            rw [e0]
            exact ⟨(by first | (simp only [fr7, if_neg hc1_2, if_neg hc10_5, if_neg hc19_8, if_pos hc28_11]; done) | (simp only [fr7, if_neg hc1_2, if_neg hc10_5, if_neg hc19_8, if_pos hc28_11]; exact rfl) | exact rfl), N0, rfl⟩
        · have pre13 : ∀ t, Steps p.tables e below (s₁.setTop (mkF m 38 #[iv pi0] [(.long (1000000000 : Int64))])) t → Go t := fun t kt => pre10 t (by
              refine y_icmpYes X0.here hx (hb hby d7_28) (feq hc28_11).2 (pc' := 35) (by decide) rfl ?_
              refine X0.ldc2Long hx hown (mvT hZ (hw _ (List.mem_of_getElem? (i := 41) rfl))) (g := (mkF m 35 #[iv pi0] [])) rfl (hb hby d7_35) _ ?_
              show Steps p.tables e below (s₁.setTop (mkF m 38 #[iv pi0] [(.long (1000000000 : Int64))])) _
              exact kt)
          obtain ⟨fs, hr, hrun, hended, hW, hsame⟩ := X0.leave (v := some (.long (1000000000 : Int64))) (fun h => by rw [Bd.returns] at h; cases h)
          refine ⟨_, _, (hGo _).mp (pre13 _ ?_), hrun, hended, _, _, rfl, ?_, ⟨_, rfl⟩, hW, hsame.mono (by decide) (by decide)⟩
          · exact retOut X0 hx Bd.returns rfl (Or.inr (Or.inl ⟨rfl, rfl, _, rfl⟩)) (hb hby d7_38) hr
          · show Q7 Z pi0 h0 n0 _ s₁.heap _
            rw [e0]
            exact ⟨(by first | (simp only [fr7, if_neg hc1_2, if_neg hc10_5, if_neg hc19_8, if_neg hc28_11]; done) | (simp only [fr7, if_neg hc1_2, if_neg hc10_5, if_neg hc19_8, if_neg hc28_11]; exact rfl) | exact rfl), N0, rfl⟩
def fr3 (pi1 : Int32) (pi2 : Int32) (pi3 : Int32) (u_next_pr0 : Int64) : Int32 := (if pi1 = pi2 then (if (100000000 : Int64) = (fr7 (pi1 - (if pi1 < pi3 then (if pi1 < pi2 then (0 : Int32) else pi2) else (if (if pi1 < pi2 then (0 : Int32) else pi2) < pi3 then pi3 else (if pi1 < pi2 then (0 : Int32) else pi2))))) then (1 : Int32) else (0 : Int32)) else (if pi1 = pi3 then (if (100000000 : Int64) = (fr7 (pi1 - (if pi1 < pi3 then (if pi1 < pi2 then (0 : Int32) else pi2) else (if (if pi1 < pi2 then (0 : Int32) else pi2) < pi3 then pi3 else (if pi1 < pi2 then (0 : Int32) else pi2))))) then (1 : Int32) else (0 : Int32)) else (if u_next_pr0 = (fr7 (pi1 - (if pi1 < pi3 then (if pi1 < pi2 then (0 : Int32) else pi2) else (if (if pi1 < pi2 then (0 : Int32) else pi2) < pi3 then pi3 else (if pi1 < pi2 then (0 : Int32) else pi2))))) then (1 : Int32) else (0 : Int32))))
def fp3_next (pi1 : Int32) (pi2 : Int32) (pi3 : Int32) (u_next_pr0 : Int64) : Int64 := (if pi1 = pi2 then (if (1000000000 : Int64) < ((2 : Int64) * (100000000 : Int64)) then (1000000000 : Int64) else ((2 : Int64) * (100000000 : Int64))) else (if pi1 = pi3 then (if (1000000000 : Int64) < ((2 : Int64) * (100000000 : Int64)) then (1000000000 : Int64) else ((2 : Int64) * (100000000 : Int64))) else (if (1000000000 : Int64) < ((2 : Int64) * u_next_pr0) then (1000000000 : Int64) else ((2 : Int64) * u_next_pr0))))
theorem d3_0 : decode method_3_code 0 = .ok (.iload_n 1, 1) := by decide +kernel
theorem d3_1 : decode method_3_code 1 = .ok (.iload_n 2, 1) := by decide +kernel
theorem d3_2 : decode method_3_code 2 = .ok (.if_icmp .ne 7, 3) := by decide +kernel
theorem d3_5 : decode method_3_code 5 = .ok (.aload_n 0, 1) := by decide +kernel
theorem d3_6 : decode method_3_code 6 = .ok (.invokevirtual 17, 3) := by decide +kernel
theorem d3_9 : decode method_3_code 9 = .ok (.iload_n 1, 1) := by decide +kernel
theorem d3_10 : decode method_3_code 10 = .ok (.iload_n 3, 1) := by decide +kernel
theorem d3_11 : decode method_3_code 11 = .ok (.if_icmp .ne 7, 3) := by decide +kernel
theorem d3_14 : decode method_3_code 14 = .ok (.aload_n 0, 1) := by decide +kernel
theorem d3_15 : decode method_3_code 15 = .ok (.invokevirtual 17, 3) := by decide +kernel
theorem d3_18 : decode method_3_code 18 = .ok (.iconst 0, 1) := by decide +kernel
theorem d3_19 : decode method_3_code 19 = .ok (.istore 4, 2) := by decide +kernel
theorem d3_21 : decode method_3_code 21 = .ok (.iload_n 2, 1) := by decide +kernel
theorem d3_22 : decode method_3_code 22 = .ok (.iload_n 1, 1) := by decide +kernel
theorem d3_23 : decode method_3_code 23 = .ok (.if_icmp .gt 6, 3) := by decide +kernel
theorem d3_26 : decode method_3_code 26 = .ok (.iload_n 2, 1) := by decide +kernel
theorem d3_27 : decode method_3_code 27 = .ok (.istore 4, 2) := by decide +kernel
theorem d3_29 : decode method_3_code 29 = .ok (.iload_n 3, 1) := by decide +kernel
theorem d3_30 : decode method_3_code 30 = .ok (.iload_n 1, 1) := by decide +kernel
theorem d3_31 : decode method_3_code 31 = .ok (.if_icmp .gt 12, 3) := by decide +kernel
theorem d3_34 : decode method_3_code 34 = .ok (.iload_n 3, 1) := by decide +kernel
theorem d3_35 : decode method_3_code 35 = .ok (.iload 4, 2) := by decide +kernel
theorem d3_37 : decode method_3_code 37 = .ok (.if_icmp .le 6, 3) := by decide +kernel
theorem d3_40 : decode method_3_code 40 = .ok (.iload_n 3, 1) := by decide +kernel
theorem d3_41 : decode method_3_code 41 = .ok (.istore 4, 2) := by decide +kernel
theorem d3_43 : decode method_3_code 43 = .ok (.iload_n 1, 1) := by decide +kernel
theorem d3_44 : decode method_3_code 44 = .ok (.iload 4, 2) := by decide +kernel
theorem d3_46 : decode method_3_code 46 = .ok (.isub, 1) := by decide +kernel
theorem d3_47 : decode method_3_code 47 = .ok (.istore 5, 2) := by decide +kernel
theorem d3_49 : decode method_3_code 49 = .ok (.aload_n 0, 1) := by decide +kernel
theorem d3_50 : decode method_3_code 50 = .ok (.invokevirtual 22, 3) := by decide +kernel
theorem d3_53 : decode method_3_code 53 = .ok (.iload 5, 2) := by decide +kernel
theorem d3_55 : decode method_3_code 55 = .ok (.invokestatic 26, 3) := by decide +kernel
theorem d3_58 : decode method_3_code 58 = .ok (.lcmp, 1) := by decide +kernel
theorem d3_59 : decode method_3_code 59 = .ok (.ifCond .ne 7, 3) := by decide +kernel
theorem d3_62 : decode method_3_code 62 = .ok (.iconst 1, 1) := by decide +kernel
theorem d3_63 : decode method_3_code 63 = .ok (.goto 4, 3) := by decide +kernel
theorem d3_66 : decode method_3_code 66 = .ok (.iconst 0, 1) := by decide +kernel
theorem d3_67 : decode method_3_code 67 = .ok (.ireturn, 1) := by decide +kernel
theorem pd___V : parseMethodDescriptor "()V" = some ⟨[], none⟩ := by decide +kernel
theorem pd___J : parseMethodDescriptor "()J" = some ⟨[], some .long⟩ := by decide +kernel
theorem pd__I_J : parseMethodDescriptor "(I)J" = some ⟨[.int], some .long⟩ := by decide +kernel
theorem ef_3 (m : MethodId) (x0 : Addr) (x1 : Int32) (x2 : Int32) (x3 : Int32) : entryFrame m #[(.ref x0), (.int x1), (.int x2), (.int x3)] 6 = mkF m 0 #[rv x0, iv x1, iv x2, iv x3, .unset, .unset] [] := by first | (simp [entryFrame, mkF, argsToLocals, Value.category]; done) | rfl
def Q3 (Z : State) (pr0 : Addr) (pi1 : Int32) (pi2 : Int32) (pi3 : Int32) (u_next_pr0 : Int64) (h0 : Heap) (n0 : Nat) (v : Option Value) (h : Heap) (L : List Loc) : Prop := v = some (.int (fr3 pi1 pi2 pi3 u_next_pr0)) ∧ Fr n0 L ∧ Keep h0 h [pr0] ∧ Fld Z h pr0 "com/example/certline/certline/transport/Backoff" "next" "J" (.long (fp3_next pi1 pi2 pi3 u_next_pr0))
set_option maxRecDepth 65536 in
set_option maxHeartbeats 40000000 in
theorem rm3 (l : Launch) (Z : State) (a0 : Array Value) (hw : ∀ d ∈ tables_1, d.before a0 Z = true) (ws : List Jvm.Cond) (pr0 : Addr) (pi1 : Int32) (pi2 : Int32) (pi3 : Int32) (u_next_pr0 : Int64) (h0 : Heap) (n0 : Nat) (O0 : Old Z n0 h0) (S_FIRST_NANOS : Sta Z Z.heap "com/example/certline/certline/transport/Backoff" "FIRST_NANOS" "J" (.long (100000000 : Int64))) (S_LIMIT_NANOS : Sta Z Z.heap "com/example/certline/certline/transport/Backoff" "LIMIT_NANOS" "J" (.long (1000000000 : Int64))) (E_pr0 : Exa Z h0 pr0 "com/example/certline/certline/transport/Backoff") (F_next_pr0 : Fld Z h0 pr0 "com/example/certline/certline/transport/Backoff" "next" "J" (.long u_next_pr0)) (G_pr0 : n0 ≤ pr0) :
    MetFree l (⟨"com/example/certline/certline/transport/BackoffNextPinLaw", "step", "(Lcom/example/certline/certline/transport/Backoff;III)Z"⟩ : MethodName) (head1 (Jvm.Cond.code (⟨"com/example/certline/certline/transport/BackoffNextPinLaw", "step", "(Lcom/example/certline/certline/transport/Backoff;III)Z"⟩ : MethodName) method_3_code 6 (some .boolean) :: ws) ({ frames := 2, cells := 0, slots := 0, locals := 30 } : Room)) (fun a U => a = #[(.ref pr0), (.int pi1), (.int pi2), (.int pi3)] ∧ Z.Warmed39 U.vm ∧ U.heap = h0) (fun _ _ _ _ _ => True) (fun _ U o U' => ∃ v L, o = .returned v ∧ Q3 Z pr0 pi1 pi2 pi3 u_next_pr0 h0 n0 v U'.heap L ∧ FrameEnd U o U' L ({ frames := 2, cells := 0, slots := 0, locals := 30 } : Room).cells ({ frames := 2, cells := 0, slots := 0, locals := 30 } : Room).slots) := by
  refine MetFree.of_bodySF (plainFor_of_name pn_com_example_certline_certline_transport_BackoffNextPinLaw) hisR ?_
  intro p e s m args below meth c s₁ Bd hml0 hP hK
  obtain ⟨rfl, hZ, hh⟩ := hP
  have hx := Bd.exec
  have hby := Bd.bytes
  have hml : c.maxLocals = 6 := hml0
  have hown : s.vm.findClass "com/example/certline/certline/transport/BackoffNextPinLaw" = some m.cls := findClass_of_methodNamed Bd.named
  have hnm := (name_of_methodNamed Bd.named Bd.method).1
  have X0 : Stand p l e ({ frames := 2, cells := 0, slots := 0, locals := 30 } : Room) s m #[(.ref pr0), (.int pi1), (.int pi2), (.int pi3)] below meth c s₁ [] 0 0 := Stand.of_body Bd
  have e0 : s₁.heap = h0 := by rw [← hh, Bd.state]; rfl
  have N0 := Fr.nil n0
  obtain ⟨Go, hGo⟩ : ∃ P : State → Prop, ∀ t, P t ↔ Steps p.tables e below (s₁.setTop (entryFrame m #[(.ref pr0), (.int pi1), (.int pi2), (.int pi3)] 6)) t := ⟨_, fun _ => Iff.rfl⟩
  have pre0 : ∀ t, Steps p.tables e below (s₁.setTop (mkF m 0 #[rv pr0, iv pi1, iv pi2, iv pi3, .unset, .unset] [])) t → Go t := fun t k => (hGo t).mpr (castTop (ef_3 m pr0 pi1 pi2 pi3) k)
  have K0 : Keep h0 h0 [pr0] := Keep.refl _ _
  have pre1 : ∀ t, Steps p.tables e below (s₁.setTop (mkF m 2 #[rv pr0, iv pi1, iv pi2, iv pi3, .unset, .unset] [(.int pi2), (.int pi1)])) t → Go t := fun t kt => pre0 t (by
      refine y_iloadN X0.here hx (hb hby d3_0) rfl (pc' := 1) rfl ?_
      refine y_iloadN X0.here hx (hb hby d3_1) rfl (pc' := 2) rfl ?_
      exact kt)
  by_cases hc2_2 : pi1 = pi2
  · have pre3 : ∀ t, Steps p.tables e below (s₁.setTop (mkF m 6 #[rv pr0, iv pi1, iv pi2, iv pi3, .unset, .unset] [(.ref pr0)])) t → Go t := fun t kt => pre1 t (by
        refine y_icmpNo X0.here hx (hb hby d3_2) (teq hc2_2).2 (pc' := 5) rfl ?_
        refine y_aloadN X0.here hx (hb hby d3_5) rfl rfl (pc' := 6) rfl ?_
        exact kt)
    obtain ⟨cq4, kq4, q4a, q4b, q4c⟩ := isOf hZ e0 E_pr0
    obtain ⟨v4, _, ⟨T4, L4, k4, n4⟩, -, X4, ⟨Lc4, hQ4, l4, y4, z4⟩, st4⟩ := X0.virtualBack hx (y := (⟨"com/example/certline/certline/transport/Backoff", "reset", "()V"⟩ : MethodName)) (z := (⟨"com/example/certline/certline/transport/Backoff", "reset", "()V"⟩ : MethodName)) hown (mvT hZ (hw _ (List.mem_of_getElem? (i := 17) rfl))) (mvT hZ (hw _ (List.mem_of_getElem? (i := 18) rfl))) (notFace_of_selects (args := #[]) (mvT hZ (hw _ (List.mem_of_getElem? (i := 20) rfl)))) (mvT hZ (hw _ (List.mem_of_getElem? (i := 20) rfl))) (mvT hZ (hw _ (List.mem_of_getElem? (i := 19) rfl))) (by decide) (backOf (W := 0) (rm4 l Z a0 hw [] pr0 u_next_pr0 h0 n0 O0 S_FIRST_NANOS E_pr0 F_next_pr0 G_pr0) hZ (hw _ (List.mem_of_getElem? (i := 21) rfl)) (hw _ (List.mem_of_getElem? (i := 2) rfl)) (by decide) (by decide)) q4a q4c (g := (mkF m 6 #[rv pr0, iv pi1, iv pi2, iv pi3, .unset, .unset] [(.ref pr0)])) rfl (by rw [hml]; rfl) (Steps.refl _) (argsL := []) (rest := []) (lenOf pd___V rfl) rfl (by show 2 * 0 + _ ≤ _; exact Nat.le_of_eq rfl) (hb hby d3_6) (fun _ _ => ⟨rfl, e0, (by decide : 0 + 0 ≤ _), (by decide : 0 + 0 ≤ _)⟩)
    dsimp only [Pt.U, Pt.locs, Pt.cells, Pt.slots] at X4 l4 y4 z4 st4 hQ4
    subst l4 y4 z4
    obtain ⟨hv4, N4q, K4q, p4_0⟩ := hQ4
    have N5 := Fr.app N0 N4q
    subst hv4
    have pre6 : ∀ t, Steps p.tables e below (T4.setTop (mkF m 9 #[rv pr0, iv pi1, iv pi2, iv pi3, .unset, .unset] [])) t → Go t := fun t kt => pre3 t (st4.trans kt)
    obtain ⟨h4, eh4⟩ : ∃ z, T4.heap = z := ⟨_, rfl⟩
    rw [eh4] at K4q p4_0
    have f7 : Exa Z h4 pr0 "com/example/certline/certline/transport/Backoff" := (E_pr0.keep K4q)
    have O9 := O0.keep K4q (allS G_pr0 all0)
    have K9 : Keep h0 h4 [pr0] := K0.trans K4q (allS (P := fun x => x ∈ [pr0] ∨ h0.size ≤ x) (Or.inl (List.mem_of_getElem? (i := 0) rfl)) all0)
    have pre10 : ∀ t, Steps p.tables e below (T4.setTop (mkF m 11 #[rv pr0, iv pi1, iv pi2, iv pi3, .unset, .unset] [(.int pi3), (.int pi1)])) t → Go t := fun t kt => pre6 t (by
        refine y_iloadN X4.here hx (hb hby d3_9) rfl (pc' := 10) rfl ?_
        refine y_iloadN X4.here hx (hb hby d3_10) rfl (pc' := 11) rfl ?_
        exact kt)
    by_cases hc11_11 : pi1 = pi3
    · have pre12 : ∀ t, Steps p.tables e below (T4.setTop (mkF m 15 #[rv pr0, iv pi1, iv pi2, iv pi3, .unset, .unset] [(.ref pr0)])) t → Go t := fun t kt => pre10 t (by
          refine y_icmpNo X4.here hx (hb hby d3_11) (teq hc11_11).2 (pc' := 14) rfl ?_
          refine y_aloadN X4.here hx (hb hby d3_14) rfl rfl (pc' := 15) rfl ?_
          exact kt)
      obtain ⟨cq13, kq13, q13a, q13b, q13c⟩ := isOf hZ eh4 f7
      obtain ⟨v13, _, ⟨T13, L13, k13, n13⟩, -, X13, ⟨Lc13, hQ13, l13, y13, z13⟩, st13⟩ := X4.virtualBack hx (y := (⟨"com/example/certline/certline/transport/Backoff", "reset", "()V"⟩ : MethodName)) (z := (⟨"com/example/certline/certline/transport/Backoff", "reset", "()V"⟩ : MethodName)) hown (mvT hZ (hw _ (List.mem_of_getElem? (i := 17) rfl))) (mvT hZ (hw _ (List.mem_of_getElem? (i := 18) rfl))) (notFace_of_selects (args := #[]) (mvT hZ (hw _ (List.mem_of_getElem? (i := 20) rfl)))) (mvT hZ (hw _ (List.mem_of_getElem? (i := 20) rfl))) (mvT hZ (hw _ (List.mem_of_getElem? (i := 19) rfl))) (by decide) (backOf (W := 0) (rm4 l Z a0 hw [] pr0 (100000000 : Int64) h4 n0 O9 S_FIRST_NANOS f7 p4_0 G_pr0) hZ (hw _ (List.mem_of_getElem? (i := 21) rfl)) (hw _ (List.mem_of_getElem? (i := 2) rfl)) (by decide) (by decide)) q13a q13c (g := (mkF m 15 #[rv pr0, iv pi1, iv pi2, iv pi3, .unset, .unset] [(.ref pr0)])) rfl (by rw [hml]; rfl) (Steps.refl _) (argsL := []) (rest := []) (lenOf pd___V rfl) rfl (by show 2 * 0 + _ ≤ _; exact Nat.le_of_eq rfl) (hb hby d3_15) (fun _ _ => ⟨rfl, eh4, (by decide : 0 + 0 ≤ _), (by decide : 0 + 0 ≤ _)⟩)
      dsimp only [Pt.U, Pt.locs, Pt.cells, Pt.slots] at X13 l13 y13 z13 st13 hQ13
      subst l13 y13 z13
      obtain ⟨hv13, N13q, K13q, p13_0⟩ := hQ13
      have N14 := Fr.app N5 N13q
      subst hv13
      have pre15 : ∀ t, Steps p.tables e below (T13.setTop (mkF m 18 #[rv pr0, iv pi1, iv pi2, iv pi3, .unset, .unset] [])) t → Go t := fun t kt => pre12 t (st13.trans kt)
      obtain ⟨h13, eh13⟩ : ∃ z, T13.heap = z := ⟨_, rfl⟩
      rw [eh13] at K13q p13_0
      have f16 : Exa Z h13 pr0 "com/example/certline/certline/transport/Backoff" := (f7.keep K13q)
      have O18 := O9.keep K13q (allS G_pr0 all0)
      have K18 : Keep h0 h13 [pr0] := K9.trans K13q (allS (P := fun x => x ∈ [pr0] ∨ h0.size ≤ x) (Or.inl (List.mem_of_getElem? (i := 0) rfl)) all0)
      have pre19 : ∀ t, Steps p.tables e below (T13.setTop (mkF m 23 #[rv pr0, iv pi1, iv pi2, iv pi3, iv (0 : Int32), .unset] [(.int pi1), (.int pi2)])) t → Go t := fun t kt => pre15 t (by
          refine y_iconst X13.here hx (hb hby d3_18) (v := (0 : Int32)) rfl (pc' := 19) rfl ?_
          refine y_istore X13.here hx (hb hby d3_19) (l' := #[rv pr0, iv pi1, iv pi2, iv pi3, iv (0 : Int32), .unset]) rfl (pc' := 21) rfl ?_
          refine y_iloadN X13.here hx (hb hby d3_21) rfl (pc' := 22) rfl ?_
          refine y_iloadN X13.here hx (hb hby d3_22) rfl (pc' := 23) rfl ?_
          exact kt)
      obtain ⟨x20, hx20⟩ : ∃ z : Int32, z = (if pi1 < pi2 then (0 : Int32) else pi2) := ⟨_, rfl⟩
      obtain ⟨T21, ⟨X21, q21⟩, st21⟩ : ∃ T', Nx X13 T' ∧ ∀ t, Steps p.tables e below (T'.setTop (mkF m 29 #[rv pr0, iv pi1, iv pi2, iv pi3, iv x20, .unset] [])) t → Steps p.tables e below (T13.setTop (mkF m 23 #[rv pr0, iv pi1, iv pi2, iv pi3, iv (0 : Int32), .unset] [(.int pi1), (.int pi2)])) t := by
        have pre21_ : ∀ t, Steps p.tables e below (T13.setTop (mkF m 23 #[rv pr0, iv pi1, iv pi2, iv pi3, iv (0 : Int32), .unset] [(.int pi1), (.int pi2)])) t → Steps p.tables e below (T13.setTop (mkF m 23 #[rv pr0, iv pi1, iv pi2, iv pi3, iv (0 : Int32), .unset] [(.int pi1), (.int pi2)])) t := fun t kt => kt
        subst hx20
        by_cases hm23_22 : pi1 < pi2
        · have pre23 : ∀ t, Steps p.tables e below (T13.setTop (mkF m 29 #[rv pr0, iv pi1, iv pi2, iv pi3, iv (0 : Int32), .unset] [])) t → Steps p.tables e below (T13.setTop (mkF m 23 #[rv pr0, iv pi1, iv pi2, iv pi3, iv (0 : Int32), .unset] [(.int pi1), (.int pi2)])) t := fun t kt => pre21_ t (by
              refine y_icmpYes X13.here hx (hb hby d3_23) (tlt hm23_22).2.2.1 (pc' := 29) (by decide) rfl ?_
              exact kt)
          refine ⟨T13, ⟨X13, eh13.trans eh13.symm⟩, fun t kt => pre23 t ?_⟩
          (try simp only [if_pos hm23_22] at kt)
          exact kt
        · have pre24 : ∀ t, Steps p.tables e below (T13.setTop (mkF m 29 #[rv pr0, iv pi1, iv pi2, iv pi3, iv pi2, .unset] [])) t → Steps p.tables e below (T13.setTop (mkF m 23 #[rv pr0, iv pi1, iv pi2, iv pi3, iv (0 : Int32), .unset] [(.int pi1), (.int pi2)])) t := fun t kt => pre21_ t (by
              refine y_icmpNo X13.here hx (hb hby d3_23) (flt hm23_22).2.2.1 (pc' := 26) rfl ?_
              refine y_iloadN X13.here hx (hb hby d3_26) rfl (pc' := 27) rfl ?_
              refine y_istore X13.here hx (hb hby d3_27) (l' := #[rv pr0, iv pi1, iv pi2, iv pi3, iv pi2, .unset]) rfl (pc' := 29) rfl ?_
              exact kt)
          refine ⟨T13, ⟨X13, eh13.trans eh13.symm⟩, fun t kt => pre24 t ?_⟩
          (try simp only [if_neg hm23_22] at kt)
          exact kt
      have e21 : T21.heap = h13 := q21.trans eh13
      have pre25 : ∀ t, Steps p.tables e below (T21.setTop (mkF m 29 #[rv pr0, iv pi1, iv pi2, iv pi3, iv x20, .unset] [])) t → Go t := fun t kt => pre19 t (st21 t kt)
      have pre26 : ∀ t, Steps p.tables e below (T21.setTop (mkF m 31 #[rv pr0, iv pi1, iv pi2, iv pi3, iv x20, .unset] [(.int pi1), (.int pi3)])) t → Go t := fun t kt => pre25 t (by
          refine y_iloadN X21.here hx (hb hby d3_29) rfl (pc' := 30) rfl ?_
          refine y_iloadN X21.here hx (hb hby d3_30) rfl (pc' := 31) rfl ?_
          exact kt)
      obtain ⟨x27, hx27⟩ : ∃ z : Int32, z = (if pi1 < pi3 then x20 else (if x20 < pi3 then pi3 else x20)) := ⟨_, rfl⟩
      obtain ⟨T28, ⟨X28, q28⟩, st28⟩ : ∃ T', Nx X21 T' ∧ ∀ t, Steps p.tables e below (T'.setTop (mkF m 43 #[rv pr0, iv pi1, iv pi2, iv pi3, iv x27, .unset] [])) t → Steps p.tables e below (T21.setTop (mkF m 31 #[rv pr0, iv pi1, iv pi2, iv pi3, iv x20, .unset] [(.int pi1), (.int pi3)])) t := by
        have pre28_ : ∀ t, Steps p.tables e below (T21.setTop (mkF m 31 #[rv pr0, iv pi1, iv pi2, iv pi3, iv x20, .unset] [(.int pi1), (.int pi3)])) t → Steps p.tables e below (T21.setTop (mkF m 31 #[rv pr0, iv pi1, iv pi2, iv pi3, iv x20, .unset] [(.int pi1), (.int pi3)])) t := fun t kt => kt
        subst hx27
        by_cases hm31_29 : pi1 < pi3
        · have pre30 : ∀ t, Steps p.tables e below (T21.setTop (mkF m 43 #[rv pr0, iv pi1, iv pi2, iv pi3, iv x20, .unset] [])) t → Steps p.tables e below (T21.setTop (mkF m 31 #[rv pr0, iv pi1, iv pi2, iv pi3, iv x20, .unset] [(.int pi1), (.int pi3)])) t := fun t kt => pre28_ t (by
              refine y_icmpYes X21.here hx (hb hby d3_31) (tlt hm31_29).2.2.1 (pc' := 43) (by decide) rfl ?_
              exact kt)
          refine ⟨T21, ⟨X21, e21.trans e21.symm⟩, fun t kt => pre30 t ?_⟩
          (try simp only [if_pos hm31_29] at kt)
          exact kt
        · have pre31 : ∀ t, Steps p.tables e below (T21.setTop (mkF m 37 #[rv pr0, iv pi1, iv pi2, iv pi3, iv x20, .unset] [(.int x20), (.int pi3)])) t → Steps p.tables e below (T21.setTop (mkF m 31 #[rv pr0, iv pi1, iv pi2, iv pi3, iv x20, .unset] [(.int pi1), (.int pi3)])) t := fun t kt => pre28_ t (by
              refine y_icmpNo X21.here hx (hb hby d3_31) (flt hm31_29).2.2.1 (pc' := 34) rfl ?_
              refine y_iloadN X21.here hx (hb hby d3_34) rfl (pc' := 35) rfl ?_
              refine y_iload X21.here hx (hb hby d3_35) rfl (pc' := 37) rfl ?_
              exact kt)
          by_cases hm37_32 : x20 < pi3
          · have pre33 : ∀ t, Steps p.tables e below (T21.setTop (mkF m 43 #[rv pr0, iv pi1, iv pi2, iv pi3, iv pi3, .unset] [])) t → Steps p.tables e below (T21.setTop (mkF m 31 #[rv pr0, iv pi1, iv pi2, iv pi3, iv x20, .unset] [(.int pi1), (.int pi3)])) t := fun t kt => pre31 t (by
                refine y_icmpNo X21.here hx (hb hby d3_37) (tlt hm37_32).2.2.2 (pc' := 40) rfl ?_
                refine y_iloadN X21.here hx (hb hby d3_40) rfl (pc' := 41) rfl ?_
                refine y_istore X21.here hx (hb hby d3_41) (l' := #[rv pr0, iv pi1, iv pi2, iv pi3, iv pi3, .unset]) rfl (pc' := 43) rfl ?_
                exact kt)
            refine ⟨T21, ⟨X21, e21.trans e21.symm⟩, fun t kt => pre33 t ?_⟩
            (try simp only [if_neg hm31_29, if_pos hm37_32] at kt)
            exact kt
          · have pre34 : ∀ t, Steps p.tables e below (T21.setTop (mkF m 43 #[rv pr0, iv pi1, iv pi2, iv pi3, iv x20, .unset] [])) t → Steps p.tables e below (T21.setTop (mkF m 31 #[rv pr0, iv pi1, iv pi2, iv pi3, iv x20, .unset] [(.int pi1), (.int pi3)])) t := fun t kt => pre31 t (by
                refine y_icmpYes X21.here hx (hb hby d3_37) (flt hm37_32).2.2.2 (pc' := 43) (by decide) rfl ?_
                exact kt)
            refine ⟨T21, ⟨X21, e21.trans e21.symm⟩, fun t kt => pre34 t ?_⟩
            (try simp only [if_neg hm31_29, if_neg hm37_32] at kt)
            exact kt
      have e28 : T28.heap = h13 := q28.trans e21
      have pre35 : ∀ t, Steps p.tables e below (T28.setTop (mkF m 43 #[rv pr0, iv pi1, iv pi2, iv pi3, iv x27, .unset] [])) t → Go t := fun t kt => pre26 t (st28 t kt)
      obtain ⟨x36, hx36⟩ : ∃ z : Int32, z = (pi1 - x27) := ⟨_, rfl⟩
      have pre37 : ∀ t, Steps p.tables e below (T28.setTop (mkF m 49 #[rv pr0, iv pi1, iv pi2, iv pi3, iv x27, iv x36] [])) t → Go t := fun t kt => pre35 t (by
          subst hx36
          refine y_iloadN X28.here hx (hb hby d3_43) rfl (pc' := 44) rfl ?_
          refine y_iload X28.here hx (hb hby d3_44) rfl (pc' := 46) rfl ?_
          refine y_isub X28.here hx (hb hby d3_46) rfl (pc' := 47) rfl ?_
          refine y_istore X28.here hx (hb hby d3_47) (l' := #[rv pr0, iv pi1, iv pi2, iv pi3, iv x27, iv (pi1 - x27)]) rfl (pc' := 49) rfl ?_
          exact kt)
      have pre38 : ∀ t, Steps p.tables e below (T28.setTop (mkF m 50 #[rv pr0, iv pi1, iv pi2, iv pi3, iv x27, iv x36] [(.ref pr0)])) t → Go t := fun t kt => pre37 t (by
          refine y_aloadN X28.here hx (hb hby d3_49) rfl rfl (pc' := 50) rfl ?_
          exact kt)
      obtain ⟨cq39, kq39, q39a, q39b, q39c⟩ := isOf hZ e28 f16
      obtain ⟨v39, _, ⟨T39, L39, k39, n39⟩, -, X39, ⟨Lc39, hQ39, l39, y39, z39⟩, st39⟩ := X28.virtualBack hx (y := (⟨"com/example/certline/certline/transport/Backoff", "next", "()J"⟩ : MethodName)) (z := (⟨"com/example/certline/certline/transport/Backoff", "next", "()J"⟩ : MethodName)) hown (mvT hZ (hw _ (List.mem_of_getElem? (i := 22) rfl))) (mvT hZ (hw _ (List.mem_of_getElem? (i := 23) rfl))) (notFace_of_selects (args := #[]) (mvT hZ (hw _ (List.mem_of_getElem? (i := 25) rfl)))) (mvT hZ (hw _ (List.mem_of_getElem? (i := 25) rfl))) (mvT hZ (hw _ (List.mem_of_getElem? (i := 24) rfl))) (by decide) (backOf (W := 0) (rm5 l Z a0 hw [] pr0 (100000000 : Int64) h13 n0 O18 S_LIMIT_NANOS f16 p13_0 G_pr0) hZ (hw _ (List.mem_of_getElem? (i := 26) rfl)) (hw _ (List.mem_of_getElem? (i := 2) rfl)) (by decide) (by decide)) q39a q39c (g := (mkF m 50 #[rv pr0, iv pi1, iv pi2, iv pi3, iv x27, iv x36] [(.ref pr0)])) rfl (by rw [hml]; rfl) (Steps.refl _) (argsL := []) (rest := []) (lenOf pd___J rfl) rfl (by show 2 * 0 + _ ≤ _; exact Nat.le_of_eq rfl) (hb hby d3_50) (fun _ _ => ⟨rfl, e28, (by decide : 0 + 0 ≤ _), (by decide : 0 + 0 ≤ _)⟩)
      dsimp only [Pt.U, Pt.locs, Pt.cells, Pt.slots] at X39 l39 y39 z39 st39 hQ39
      subst l39 y39 z39
      obtain ⟨hv39, N39q, K39q, p39_0⟩ := hQ39
      have N40 := Fr.app N14 N39q
      have hw39 := hv39
      subst hw39
      have pre41 : ∀ t, Steps p.tables e below (T39.setTop (mkF m 53 #[rv pr0, iv pi1, iv pi2, iv pi3, iv x27, iv x36] [(.long (100000000 : Int64))])) t → Go t := fun t kt => pre38 t (st39.trans kt)
      obtain ⟨h39, eh39⟩ : ∃ z, T39.heap = z := ⟨_, rfl⟩
      rw [eh39] at K39q p39_0
      have f42 : Exa Z h39 pr0 "com/example/certline/certline/transport/Backoff" := (f16.keep K39q)
      obtain ⟨x44, hx44⟩ : ∃ z : Int64, z = (if (1000000000 : Int64) < ((2 : Int64) * (100000000 : Int64)) then (1000000000 : Int64) else ((2 : Int64) * (100000000 : Int64))) := ⟨_, rfl⟩
      rw [← hx44] at p39_0
      have O45 := O18.keep K39q (allS G_pr0 all0)
      have K45 : Keep h0 h39 [pr0] := K18.trans K39q (allS (P := fun x => x ∈ [pr0] ∨ h0.size ≤ x) (Or.inl (List.mem_of_getElem? (i := 0) rfl)) all0)
      have pre46 : ∀ t, Steps p.tables e below (T39.setTop (mkF m 55 #[rv pr0, iv pi1, iv pi2, iv pi3, iv x27, iv x36] [(.int x36), (.long (100000000 : Int64))])) t → Go t := fun t kt => pre41 t (by
          refine y_iload X39.here hx (hb hby d3_53) rfl (pc' := 55) rfl ?_
          exact kt)
      obtain ⟨v47, _, ⟨T47, L47, k47, n47⟩, -, X47, ⟨Lc47, hQ47, l47, y47, z47⟩, st47⟩ := Jvm.LawKit.callS X39 hx (y := (⟨"com/example/certline/certline/transport/BackoffNextPinLaw", "expected", "(I)J"⟩ : MethodName)) hown (mvT hZ (hw _ (List.mem_of_getElem? (i := 34) rfl))) (mvT hZ (hw _ (List.mem_of_getElem? (i := 35) rfl))) (mvT hZ (hw _ (List.mem_of_getElem? (i := 15) rfl))) (mvT hZ (hw _ (List.mem_of_getElem? (i := 36) rfl))) (by decide) (backOf (W := 2) (rm7 l Z a0 hw [] x36 h39 n0 O45 ) hZ (hw _ (List.mem_of_getElem? (i := 36) rfl)) (hw _ (List.mem_of_getElem? (i := 15) rfl)) (by decide) (by decide)) (g := (mkF m 55 #[rv pr0, iv pi1, iv pi2, iv pi3, iv x27, iv x36] [(.int x36), (.long (100000000 : Int64))])) rfl (by rw [hml]; rfl) (argsL := [(.int x36)]) (rest := [(.long (100000000 : Int64))]) (lenOf pd__I_J rfl) rfl (by show 2 * 0 + _ ≤ _; exact Nat.le_of_eq rfl) (hb hby d3_55) (fun _ _ => ⟨rfl, eh39, (by decide : 0 + 0 ≤ _), (by decide : 0 + 0 ≤ _)⟩)
      dsimp only [Pt.U, Pt.locs, Pt.cells, Pt.slots] at X47 l47 y47 z47 st47 hQ47
      subst l47 y47 z47
      obtain ⟨hv47, N47q, e47q⟩ := hQ47
      have N48 := Fr.app N40 N47q
      have hw47 := hv47
      obtain ⟨x49, hx49⟩ : ∃ z : Int64, z = (fr7 x36) := ⟨_, rfl⟩
      rw [← hx49] at hw47
      subst hw47
      have pre50 : ∀ t, Steps p.tables e below (T47.setTop (mkF m 58 #[rv pr0, iv pi1, iv pi2, iv pi3, iv x27, iv x36] [(.long x49), (.long (100000000 : Int64))])) t → Go t := fun t kt => pre46 t (st47 t kt)
      have pre51 : ∀ t, Steps p.tables e below (T47.setTop (mkF m 59 #[rv pr0, iv pi1, iv pi2, iv pi3, iv x27, iv x36] [(.int (lcmpW (100000000 : Int64) x49))])) t → Go t := fun t kt => pre50 t (by
          refine y_lcmp X47.here hx (hb hby d3_58) (pc' := 59) rfl ?_
          exact kt)
      by_cases hc59_52 : (100000000 : Int64) = x49
      · have pre53 : ∀ t, Steps p.tables e below (T47.setTop (mkF m 67 #[rv pr0, iv pi1, iv pi2, iv pi3, iv x27, iv x36] [(.int (1 : Int32))])) t → Go t := fun t kt => pre51 t (by
            refine y_ifNo X47.here hx (hb hby d3_59) ((if0 _ _).trans (teq (lq_eq hc59_52)).2) (pc' := 62) rfl ?_
            refine y_iconst X47.here hx (hb hby d3_62) (v := (1 : Int32)) rfl (pc' := 63) rfl ?_
            refine y_goto X47.here hx (hb hby d3_63) (pc' := 67) (by decide) rfl ?_
            exact kt)
        obtain ⟨fs, hr, hrun, hended, hW, hsame⟩ := X47.leave (v := some (.int (1 : Int32))) (fun h => by rw [Bd.returns] at h; cases h)
        refine ⟨_, _, (hGo _).mp (pre53 _ ?_), hrun, hended, _, _, rfl, ?_, ⟨_, rfl⟩, hW, hsame.mono (by decide) (by decide)⟩
        · exact retN X47 hx (t := .boolean) Bd.returns (by simp) (hb hby d3_67) hr
        · show Q3 Z pr0 pi1 pi2 pi3 u_next_pr0 h0 n0 _ T47.heap _
          rw [e47q]
          subst hx20 hx27 hx36 hx44 hx49
          exact ⟨(by first | (simp only [fr3, if_pos hc2_2, if_pos hc11_11, if_pos hc59_52]; done) | (simp only [fr3, if_pos hc2_2, if_pos hc11_11, if_pos hc59_52]; exact rfl) | exact rfl), N48, K45, (by first | (simp only [fp3_next, if_pos hc2_2, if_pos hc11_11, if_pos hc59_52]; done) | (simp only [fp3_next, if_pos hc2_2, if_pos hc11_11, if_pos hc59_52]; exact p39_0) | exact p39_0)⟩
      · have pre54 : ∀ t, Steps p.tables e below (T47.setTop (mkF m 67 #[rv pr0, iv pi1, iv pi2, iv pi3, iv x27, iv x36] [(.int (0 : Int32))])) t → Go t := fun t kt => pre51 t (by
            refine y_ifYes X47.here hx (hb hby d3_59) ((if0 _ _).trans (feq (lq_ne hc59_52)).2) (pc' := 66) (by decide) rfl ?_
            refine y_iconst X47.here hx (hb hby d3_66) (v := (0 : Int32)) rfl (pc' := 67) rfl ?_
            exact kt)
        obtain ⟨fs, hr, hrun, hended, hW, hsame⟩ := X47.leave (v := some (.int (0 : Int32))) (fun h => by rw [Bd.returns] at h; cases h)
        refine ⟨_, _, (hGo _).mp (pre54 _ ?_), hrun, hended, _, _, rfl, ?_, ⟨_, rfl⟩, hW, hsame.mono (by decide) (by decide)⟩
        · exact retN X47 hx (t := .boolean) Bd.returns (by simp) (hb hby d3_67) hr
        · show Q3 Z pr0 pi1 pi2 pi3 u_next_pr0 h0 n0 _ T47.heap _
          rw [e47q]
          subst hx20 hx27 hx36 hx44 hx49
          exact ⟨(by first | (simp only [fr3, if_pos hc2_2, if_pos hc11_11, if_neg hc59_52]; done) | (simp only [fr3, if_pos hc2_2, if_pos hc11_11, if_neg hc59_52]; exact rfl) | exact rfl), N48, K45, (by first | (simp only [fp3_next, if_pos hc2_2, if_pos hc11_11, if_neg hc59_52]; done) | (simp only [fp3_next, if_pos hc2_2, if_pos hc11_11, if_neg hc59_52]; exact p39_0) | exact p39_0)⟩
    · have pre55 : ∀ t, Steps p.tables e below (T4.setTop (mkF m 23 #[rv pr0, iv pi1, iv pi2, iv pi3, iv (0 : Int32), .unset] [(.int pi1), (.int pi2)])) t → Go t := fun t kt => pre10 t (by
          refine y_icmpYes X4.here hx (hb hby d3_11) (feq hc11_11).2 (pc' := 18) (by decide) rfl ?_
          refine y_iconst X4.here hx (hb hby d3_18) (v := (0 : Int32)) rfl (pc' := 19) rfl ?_
          refine y_istore X4.here hx (hb hby d3_19) (l' := #[rv pr0, iv pi1, iv pi2, iv pi3, iv (0 : Int32), .unset]) rfl (pc' := 21) rfl ?_
          refine y_iloadN X4.here hx (hb hby d3_21) rfl (pc' := 22) rfl ?_
          refine y_iloadN X4.here hx (hb hby d3_22) rfl (pc' := 23) rfl ?_
          exact kt)
      obtain ⟨x56, hx56⟩ : ∃ z : Int32, z = (if pi1 < pi2 then (0 : Int32) else pi2) := ⟨_, rfl⟩
      obtain ⟨T57, ⟨X57, q57⟩, st57⟩ : ∃ T', Nx X4 T' ∧ ∀ t, Steps p.tables e below (T'.setTop (mkF m 29 #[rv pr0, iv pi1, iv pi2, iv pi3, iv x56, .unset] [])) t → Steps p.tables e below (T4.setTop (mkF m 23 #[rv pr0, iv pi1, iv pi2, iv pi3, iv (0 : Int32), .unset] [(.int pi1), (.int pi2)])) t := by
        have pre57_ : ∀ t, Steps p.tables e below (T4.setTop (mkF m 23 #[rv pr0, iv pi1, iv pi2, iv pi3, iv (0 : Int32), .unset] [(.int pi1), (.int pi2)])) t → Steps p.tables e below (T4.setTop (mkF m 23 #[rv pr0, iv pi1, iv pi2, iv pi3, iv (0 : Int32), .unset] [(.int pi1), (.int pi2)])) t := fun t kt => kt
        subst hx56
        by_cases hm23_58 : pi1 < pi2
        · have pre59 : ∀ t, Steps p.tables e below (T4.setTop (mkF m 29 #[rv pr0, iv pi1, iv pi2, iv pi3, iv (0 : Int32), .unset] [])) t → Steps p.tables e below (T4.setTop (mkF m 23 #[rv pr0, iv pi1, iv pi2, iv pi3, iv (0 : Int32), .unset] [(.int pi1), (.int pi2)])) t := fun t kt => pre57_ t (by
              refine y_icmpYes X4.here hx (hb hby d3_23) (tlt hm23_58).2.2.1 (pc' := 29) (by decide) rfl ?_
              exact kt)
          refine ⟨T4, ⟨X4, eh4.trans eh4.symm⟩, fun t kt => pre59 t ?_⟩
          (try simp only [if_pos hm23_58] at kt)
          exact kt
        · have pre60 : ∀ t, Steps p.tables e below (T4.setTop (mkF m 29 #[rv pr0, iv pi1, iv pi2, iv pi3, iv pi2, .unset] [])) t → Steps p.tables e below (T4.setTop (mkF m 23 #[rv pr0, iv pi1, iv pi2, iv pi3, iv (0 : Int32), .unset] [(.int pi1), (.int pi2)])) t := fun t kt => pre57_ t (by
              refine y_icmpNo X4.here hx (hb hby d3_23) (flt hm23_58).2.2.1 (pc' := 26) rfl ?_
              refine y_iloadN X4.here hx (hb hby d3_26) rfl (pc' := 27) rfl ?_
              refine y_istore X4.here hx (hb hby d3_27) (l' := #[rv pr0, iv pi1, iv pi2, iv pi3, iv pi2, .unset]) rfl (pc' := 29) rfl ?_
              exact kt)
          refine ⟨T4, ⟨X4, eh4.trans eh4.symm⟩, fun t kt => pre60 t ?_⟩
          (try simp only [if_neg hm23_58] at kt)
          exact kt
      have e57 : T57.heap = h4 := q57.trans eh4
      have pre61 : ∀ t, Steps p.tables e below (T57.setTop (mkF m 29 #[rv pr0, iv pi1, iv pi2, iv pi3, iv x56, .unset] [])) t → Go t := fun t kt => pre55 t (st57 t kt)
      have pre62 : ∀ t, Steps p.tables e below (T57.setTop (mkF m 31 #[rv pr0, iv pi1, iv pi2, iv pi3, iv x56, .unset] [(.int pi1), (.int pi3)])) t → Go t := fun t kt => pre61 t (by
          refine y_iloadN X57.here hx (hb hby d3_29) rfl (pc' := 30) rfl ?_
          refine y_iloadN X57.here hx (hb hby d3_30) rfl (pc' := 31) rfl ?_
          exact kt)
      obtain ⟨x63, hx63⟩ : ∃ z : Int32, z = (if pi1 < pi3 then x56 else (if x56 < pi3 then pi3 else x56)) := ⟨_, rfl⟩
      obtain ⟨T64, ⟨X64, q64⟩, st64⟩ : ∃ T', Nx X57 T' ∧ ∀ t, Steps p.tables e below (T'.setTop (mkF m 43 #[rv pr0, iv pi1, iv pi2, iv pi3, iv x63, .unset] [])) t → Steps p.tables e below (T57.setTop (mkF m 31 #[rv pr0, iv pi1, iv pi2, iv pi3, iv x56, .unset] [(.int pi1), (.int pi3)])) t := by
        have pre64_ : ∀ t, Steps p.tables e below (T57.setTop (mkF m 31 #[rv pr0, iv pi1, iv pi2, iv pi3, iv x56, .unset] [(.int pi1), (.int pi3)])) t → Steps p.tables e below (T57.setTop (mkF m 31 #[rv pr0, iv pi1, iv pi2, iv pi3, iv x56, .unset] [(.int pi1), (.int pi3)])) t := fun t kt => kt
        subst hx63
        by_cases hm31_65 : pi1 < pi3
        · have pre66 : ∀ t, Steps p.tables e below (T57.setTop (mkF m 43 #[rv pr0, iv pi1, iv pi2, iv pi3, iv x56, .unset] [])) t → Steps p.tables e below (T57.setTop (mkF m 31 #[rv pr0, iv pi1, iv pi2, iv pi3, iv x56, .unset] [(.int pi1), (.int pi3)])) t := fun t kt => pre64_ t (by
              refine y_icmpYes X57.here hx (hb hby d3_31) (tlt hm31_65).2.2.1 (pc' := 43) (by decide) rfl ?_
              exact kt)
          refine ⟨T57, ⟨X57, e57.trans e57.symm⟩, fun t kt => pre66 t ?_⟩
          (try simp only [if_pos hm31_65] at kt)
          exact kt
        · have pre67 : ∀ t, Steps p.tables e below (T57.setTop (mkF m 37 #[rv pr0, iv pi1, iv pi2, iv pi3, iv x56, .unset] [(.int x56), (.int pi3)])) t → Steps p.tables e below (T57.setTop (mkF m 31 #[rv pr0, iv pi1, iv pi2, iv pi3, iv x56, .unset] [(.int pi1), (.int pi3)])) t := fun t kt => pre64_ t (by
              refine y_icmpNo X57.here hx (hb hby d3_31) (flt hm31_65).2.2.1 (pc' := 34) rfl ?_
              refine y_iloadN X57.here hx (hb hby d3_34) rfl (pc' := 35) rfl ?_
              refine y_iload X57.here hx (hb hby d3_35) rfl (pc' := 37) rfl ?_
              exact kt)
          by_cases hm37_68 : x56 < pi3
          · have pre69 : ∀ t, Steps p.tables e below (T57.setTop (mkF m 43 #[rv pr0, iv pi1, iv pi2, iv pi3, iv pi3, .unset] [])) t → Steps p.tables e below (T57.setTop (mkF m 31 #[rv pr0, iv pi1, iv pi2, iv pi3, iv x56, .unset] [(.int pi1), (.int pi3)])) t := fun t kt => pre67 t (by
                refine y_icmpNo X57.here hx (hb hby d3_37) (tlt hm37_68).2.2.2 (pc' := 40) rfl ?_
                refine y_iloadN X57.here hx (hb hby d3_40) rfl (pc' := 41) rfl ?_
                refine y_istore X57.here hx (hb hby d3_41) (l' := #[rv pr0, iv pi1, iv pi2, iv pi3, iv pi3, .unset]) rfl (pc' := 43) rfl ?_
                exact kt)
            refine ⟨T57, ⟨X57, e57.trans e57.symm⟩, fun t kt => pre69 t ?_⟩
            (try simp only [if_neg hm31_65, if_pos hm37_68] at kt)
            exact kt
          · have pre70 : ∀ t, Steps p.tables e below (T57.setTop (mkF m 43 #[rv pr0, iv pi1, iv pi2, iv pi3, iv x56, .unset] [])) t → Steps p.tables e below (T57.setTop (mkF m 31 #[rv pr0, iv pi1, iv pi2, iv pi3, iv x56, .unset] [(.int pi1), (.int pi3)])) t := fun t kt => pre67 t (by
                refine y_icmpYes X57.here hx (hb hby d3_37) (flt hm37_68).2.2.2 (pc' := 43) (by decide) rfl ?_
                exact kt)
            refine ⟨T57, ⟨X57, e57.trans e57.symm⟩, fun t kt => pre70 t ?_⟩
            (try simp only [if_neg hm31_65, if_neg hm37_68] at kt)
            exact kt
      have e64 : T64.heap = h4 := q64.trans e57
      have pre71 : ∀ t, Steps p.tables e below (T64.setTop (mkF m 43 #[rv pr0, iv pi1, iv pi2, iv pi3, iv x63, .unset] [])) t → Go t := fun t kt => pre62 t (st64 t kt)
      obtain ⟨x72, hx72⟩ : ∃ z : Int32, z = (pi1 - x63) := ⟨_, rfl⟩
      have pre73 : ∀ t, Steps p.tables e below (T64.setTop (mkF m 49 #[rv pr0, iv pi1, iv pi2, iv pi3, iv x63, iv x72] [])) t → Go t := fun t kt => pre71 t (by
          subst hx72
          refine y_iloadN X64.here hx (hb hby d3_43) rfl (pc' := 44) rfl ?_
          refine y_iload X64.here hx (hb hby d3_44) rfl (pc' := 46) rfl ?_
          refine y_isub X64.here hx (hb hby d3_46) rfl (pc' := 47) rfl ?_
          refine y_istore X64.here hx (hb hby d3_47) (l' := #[rv pr0, iv pi1, iv pi2, iv pi3, iv x63, iv (pi1 - x63)]) rfl (pc' := 49) rfl ?_
          exact kt)
      have pre74 : ∀ t, Steps p.tables e below (T64.setTop (mkF m 50 #[rv pr0, iv pi1, iv pi2, iv pi3, iv x63, iv x72] [(.ref pr0)])) t → Go t := fun t kt => pre73 t (by
          refine y_aloadN X64.here hx (hb hby d3_49) rfl rfl (pc' := 50) rfl ?_
          exact kt)
      obtain ⟨cq75, kq75, q75a, q75b, q75c⟩ := isOf hZ e64 f7
      obtain ⟨v75, _, ⟨T75, L75, k75, n75⟩, -, X75, ⟨Lc75, hQ75, l75, y75, z75⟩, st75⟩ := X64.virtualBack hx (y := (⟨"com/example/certline/certline/transport/Backoff", "next", "()J"⟩ : MethodName)) (z := (⟨"com/example/certline/certline/transport/Backoff", "next", "()J"⟩ : MethodName)) hown (mvT hZ (hw _ (List.mem_of_getElem? (i := 22) rfl))) (mvT hZ (hw _ (List.mem_of_getElem? (i := 23) rfl))) (notFace_of_selects (args := #[]) (mvT hZ (hw _ (List.mem_of_getElem? (i := 25) rfl)))) (mvT hZ (hw _ (List.mem_of_getElem? (i := 25) rfl))) (mvT hZ (hw _ (List.mem_of_getElem? (i := 24) rfl))) (by decide) (backOf (W := 0) (rm5 l Z a0 hw [] pr0 (100000000 : Int64) h4 n0 O9 S_LIMIT_NANOS f7 p4_0 G_pr0) hZ (hw _ (List.mem_of_getElem? (i := 26) rfl)) (hw _ (List.mem_of_getElem? (i := 2) rfl)) (by decide) (by decide)) q75a q75c (g := (mkF m 50 #[rv pr0, iv pi1, iv pi2, iv pi3, iv x63, iv x72] [(.ref pr0)])) rfl (by rw [hml]; rfl) (Steps.refl _) (argsL := []) (rest := []) (lenOf pd___J rfl) rfl (by show 2 * 0 + _ ≤ _; exact Nat.le_of_eq rfl) (hb hby d3_50) (fun _ _ => ⟨rfl, e64, (by decide : 0 + 0 ≤ _), (by decide : 0 + 0 ≤ _)⟩)
      dsimp only [Pt.U, Pt.locs, Pt.cells, Pt.slots] at X75 l75 y75 z75 st75 hQ75
      subst l75 y75 z75
      obtain ⟨hv75, N75q, K75q, p75_0⟩ := hQ75
      have N76 := Fr.app N5 N75q
      have hw75 := hv75
      subst hw75
      have pre77 : ∀ t, Steps p.tables e below (T75.setTop (mkF m 53 #[rv pr0, iv pi1, iv pi2, iv pi3, iv x63, iv x72] [(.long (100000000 : Int64))])) t → Go t := fun t kt => pre74 t (st75.trans kt)
      obtain ⟨h75, eh75⟩ : ∃ z, T75.heap = z := ⟨_, rfl⟩
      rw [eh75] at K75q p75_0
      have f78 : Exa Z h75 pr0 "com/example/certline/certline/transport/Backoff" := (f7.keep K75q)
      obtain ⟨x80, hx80⟩ : ∃ z : Int64, z = (if (1000000000 : Int64) < ((2 : Int64) * (100000000 : Int64)) then (1000000000 : Int64) else ((2 : Int64) * (100000000 : Int64))) := ⟨_, rfl⟩
      rw [← hx80] at p75_0
      have O81 := O9.keep K75q (allS G_pr0 all0)
      have K81 : Keep h0 h75 [pr0] := K9.trans K75q (allS (P := fun x => x ∈ [pr0] ∨ h0.size ≤ x) (Or.inl (List.mem_of_getElem? (i := 0) rfl)) all0)
      have pre82 : ∀ t, Steps p.tables e below (T75.setTop (mkF m 55 #[rv pr0, iv pi1, iv pi2, iv pi3, iv x63, iv x72] [(.int x72), (.long (100000000 : Int64))])) t → Go t := fun t kt => pre77 t (by
          refine y_iload X75.here hx (hb hby d3_53) rfl (pc' := 55) rfl ?_
          exact kt)
      obtain ⟨v83, _, ⟨T83, L83, k83, n83⟩, -, X83, ⟨Lc83, hQ83, l83, y83, z83⟩, st83⟩ := Jvm.LawKit.callS X75 hx (y := (⟨"com/example/certline/certline/transport/BackoffNextPinLaw", "expected", "(I)J"⟩ : MethodName)) hown (mvT hZ (hw _ (List.mem_of_getElem? (i := 34) rfl))) (mvT hZ (hw _ (List.mem_of_getElem? (i := 35) rfl))) (mvT hZ (hw _ (List.mem_of_getElem? (i := 15) rfl))) (mvT hZ (hw _ (List.mem_of_getElem? (i := 36) rfl))) (by decide) (backOf (W := 2) (rm7 l Z a0 hw [] x72 h75 n0 O81 ) hZ (hw _ (List.mem_of_getElem? (i := 36) rfl)) (hw _ (List.mem_of_getElem? (i := 15) rfl)) (by decide) (by decide)) (g := (mkF m 55 #[rv pr0, iv pi1, iv pi2, iv pi3, iv x63, iv x72] [(.int x72), (.long (100000000 : Int64))])) rfl (by rw [hml]; rfl) (argsL := [(.int x72)]) (rest := [(.long (100000000 : Int64))]) (lenOf pd__I_J rfl) rfl (by show 2 * 0 + _ ≤ _; exact Nat.le_of_eq rfl) (hb hby d3_55) (fun _ _ => ⟨rfl, eh75, (by decide : 0 + 0 ≤ _), (by decide : 0 + 0 ≤ _)⟩)
      dsimp only [Pt.U, Pt.locs, Pt.cells, Pt.slots] at X83 l83 y83 z83 st83 hQ83
      subst l83 y83 z83
      obtain ⟨hv83, N83q, e83q⟩ := hQ83
      have N84 := Fr.app N76 N83q
      have hw83 := hv83
      obtain ⟨x85, hx85⟩ : ∃ z : Int64, z = (fr7 x72) := ⟨_, rfl⟩
      rw [← hx85] at hw83
      subst hw83
      have pre86 : ∀ t, Steps p.tables e below (T83.setTop (mkF m 58 #[rv pr0, iv pi1, iv pi2, iv pi3, iv x63, iv x72] [(.long x85), (.long (100000000 : Int64))])) t → Go t := fun t kt => pre82 t (st83 t kt)
      have pre87 : ∀ t, Steps p.tables e below (T83.setTop (mkF m 59 #[rv pr0, iv pi1, iv pi2, iv pi3, iv x63, iv x72] [(.int (lcmpW (100000000 : Int64) x85))])) t → Go t := fun t kt => pre86 t (by
          refine y_lcmp X83.here hx (hb hby d3_58) (pc' := 59) rfl ?_
          exact kt)
      by_cases hc59_88 : (100000000 : Int64) = x85
      · have pre89 : ∀ t, Steps p.tables e below (T83.setTop (mkF m 67 #[rv pr0, iv pi1, iv pi2, iv pi3, iv x63, iv x72] [(.int (1 : Int32))])) t → Go t := fun t kt => pre87 t (by
            refine y_ifNo X83.here hx (hb hby d3_59) ((if0 _ _).trans (teq (lq_eq hc59_88)).2) (pc' := 62) rfl ?_
            refine y_iconst X83.here hx (hb hby d3_62) (v := (1 : Int32)) rfl (pc' := 63) rfl ?_
            refine y_goto X83.here hx (hb hby d3_63) (pc' := 67) (by decide) rfl ?_
            exact kt)
        obtain ⟨fs, hr, hrun, hended, hW, hsame⟩ := X83.leave (v := some (.int (1 : Int32))) (fun h => by rw [Bd.returns] at h; cases h)
        refine ⟨_, _, (hGo _).mp (pre89 _ ?_), hrun, hended, _, _, rfl, ?_, ⟨_, rfl⟩, hW, hsame.mono (by decide) (by decide)⟩
        · exact retN X83 hx (t := .boolean) Bd.returns (by simp) (hb hby d3_67) hr
        · show Q3 Z pr0 pi1 pi2 pi3 u_next_pr0 h0 n0 _ T83.heap _
          rw [e83q]
          subst hx56 hx63 hx72 hx80 hx85
          exact ⟨(by first | (simp only [fr3, if_pos hc2_2, if_neg hc11_11, if_pos hc59_88]; done) | (simp only [fr3, if_pos hc2_2, if_neg hc11_11, if_pos hc59_88]; exact rfl) | exact rfl), N84, K81, (by first | (simp only [fp3_next, if_pos hc2_2, if_neg hc11_11, if_pos hc59_88]; done) | (simp only [fp3_next, if_pos hc2_2, if_neg hc11_11, if_pos hc59_88]; exact p75_0) | exact p75_0)⟩
      · have pre90 : ∀ t, Steps p.tables e below (T83.setTop (mkF m 67 #[rv pr0, iv pi1, iv pi2, iv pi3, iv x63, iv x72] [(.int (0 : Int32))])) t → Go t := fun t kt => pre87 t (by
            refine y_ifYes X83.here hx (hb hby d3_59) ((if0 _ _).trans (feq (lq_ne hc59_88)).2) (pc' := 66) (by decide) rfl ?_
            refine y_iconst X83.here hx (hb hby d3_66) (v := (0 : Int32)) rfl (pc' := 67) rfl ?_
            exact kt)
        obtain ⟨fs, hr, hrun, hended, hW, hsame⟩ := X83.leave (v := some (.int (0 : Int32))) (fun h => by rw [Bd.returns] at h; cases h)
        refine ⟨_, _, (hGo _).mp (pre90 _ ?_), hrun, hended, _, _, rfl, ?_, ⟨_, rfl⟩, hW, hsame.mono (by decide) (by decide)⟩
        · exact retN X83 hx (t := .boolean) Bd.returns (by simp) (hb hby d3_67) hr
        · show Q3 Z pr0 pi1 pi2 pi3 u_next_pr0 h0 n0 _ T83.heap _
          rw [e83q]
          subst hx56 hx63 hx72 hx80 hx85
          exact ⟨(by first | (simp only [fr3, if_pos hc2_2, if_neg hc11_11, if_neg hc59_88]; done) | (simp only [fr3, if_pos hc2_2, if_neg hc11_11, if_neg hc59_88]; exact rfl) | exact rfl), N84, K81, (by first | (simp only [fp3_next, if_pos hc2_2, if_neg hc11_11, if_neg hc59_88]; done) | (simp only [fp3_next, if_pos hc2_2, if_neg hc11_11, if_neg hc59_88]; exact p75_0) | exact p75_0)⟩
  · have pre91 : ∀ t, Steps p.tables e below (s₁.setTop (mkF m 11 #[rv pr0, iv pi1, iv pi2, iv pi3, .unset, .unset] [(.int pi3), (.int pi1)])) t → Go t := fun t kt => pre1 t (by
        refine y_icmpYes X0.here hx (hb hby d3_2) (feq hc2_2).2 (pc' := 9) (by decide) rfl ?_
        refine y_iloadN X0.here hx (hb hby d3_9) rfl (pc' := 10) rfl ?_
        refine y_iloadN X0.here hx (hb hby d3_10) rfl (pc' := 11) rfl ?_
        exact kt)
    by_cases hc11_92 : pi1 = pi3
    · have pre93 : ∀ t, Steps p.tables e below (s₁.setTop (mkF m 15 #[rv pr0, iv pi1, iv pi2, iv pi3, .unset, .unset] [(.ref pr0)])) t → Go t := fun t kt => pre91 t (by
          refine y_icmpNo X0.here hx (hb hby d3_11) (teq hc11_92).2 (pc' := 14) rfl ?_
          refine y_aloadN X0.here hx (hb hby d3_14) rfl rfl (pc' := 15) rfl ?_
          exact kt)
      obtain ⟨cq94, kq94, q94a, q94b, q94c⟩ := isOf hZ e0 E_pr0
      obtain ⟨v94, _, ⟨T94, L94, k94, n94⟩, -, X94, ⟨Lc94, hQ94, l94, y94, z94⟩, st94⟩ := X0.virtualBack hx (y := (⟨"com/example/certline/certline/transport/Backoff", "reset", "()V"⟩ : MethodName)) (z := (⟨"com/example/certline/certline/transport/Backoff", "reset", "()V"⟩ : MethodName)) hown (mvT hZ (hw _ (List.mem_of_getElem? (i := 17) rfl))) (mvT hZ (hw _ (List.mem_of_getElem? (i := 18) rfl))) (notFace_of_selects (args := #[]) (mvT hZ (hw _ (List.mem_of_getElem? (i := 20) rfl)))) (mvT hZ (hw _ (List.mem_of_getElem? (i := 20) rfl))) (mvT hZ (hw _ (List.mem_of_getElem? (i := 19) rfl))) (by decide) (backOf (W := 0) (rm4 l Z a0 hw [] pr0 u_next_pr0 h0 n0 O0 S_FIRST_NANOS E_pr0 F_next_pr0 G_pr0) hZ (hw _ (List.mem_of_getElem? (i := 21) rfl)) (hw _ (List.mem_of_getElem? (i := 2) rfl)) (by decide) (by decide)) q94a q94c (g := (mkF m 15 #[rv pr0, iv pi1, iv pi2, iv pi3, .unset, .unset] [(.ref pr0)])) rfl (by rw [hml]; rfl) (Steps.refl _) (argsL := []) (rest := []) (lenOf pd___V rfl) rfl (by show 2 * 0 + _ ≤ _; exact Nat.le_of_eq rfl) (hb hby d3_15) (fun _ _ => ⟨rfl, e0, (by decide : 0 + 0 ≤ _), (by decide : 0 + 0 ≤ _)⟩)
      dsimp only [Pt.U, Pt.locs, Pt.cells, Pt.slots] at X94 l94 y94 z94 st94 hQ94
      subst l94 y94 z94
      obtain ⟨hv94, N94q, K94q, p94_0⟩ := hQ94
      have N95 := Fr.app N0 N94q
      subst hv94
      have pre96 : ∀ t, Steps p.tables e below (T94.setTop (mkF m 18 #[rv pr0, iv pi1, iv pi2, iv pi3, .unset, .unset] [])) t → Go t := fun t kt => pre93 t (st94.trans kt)
      obtain ⟨h94, eh94⟩ : ∃ z, T94.heap = z := ⟨_, rfl⟩
      rw [eh94] at K94q p94_0
      have f97 : Exa Z h94 pr0 "com/example/certline/certline/transport/Backoff" := (E_pr0.keep K94q)
      have O99 := O0.keep K94q (allS G_pr0 all0)
      have K99 : Keep h0 h94 [pr0] := K0.trans K94q (allS (P := fun x => x ∈ [pr0] ∨ h0.size ≤ x) (Or.inl (List.mem_of_getElem? (i := 0) rfl)) all0)
      have pre100 : ∀ t, Steps p.tables e below (T94.setTop (mkF m 23 #[rv pr0, iv pi1, iv pi2, iv pi3, iv (0 : Int32), .unset] [(.int pi1), (.int pi2)])) t → Go t := fun t kt => pre96 t (by
          refine y_iconst X94.here hx (hb hby d3_18) (v := (0 : Int32)) rfl (pc' := 19) rfl ?_
          refine y_istore X94.here hx (hb hby d3_19) (l' := #[rv pr0, iv pi1, iv pi2, iv pi3, iv (0 : Int32), .unset]) rfl (pc' := 21) rfl ?_
          refine y_iloadN X94.here hx (hb hby d3_21) rfl (pc' := 22) rfl ?_
          refine y_iloadN X94.here hx (hb hby d3_22) rfl (pc' := 23) rfl ?_
          exact kt)
      obtain ⟨x101, hx101⟩ : ∃ z : Int32, z = (if pi1 < pi2 then (0 : Int32) else pi2) := ⟨_, rfl⟩
      obtain ⟨T102, ⟨X102, q102⟩, st102⟩ : ∃ T', Nx X94 T' ∧ ∀ t, Steps p.tables e below (T'.setTop (mkF m 29 #[rv pr0, iv pi1, iv pi2, iv pi3, iv x101, .unset] [])) t → Steps p.tables e below (T94.setTop (mkF m 23 #[rv pr0, iv pi1, iv pi2, iv pi3, iv (0 : Int32), .unset] [(.int pi1), (.int pi2)])) t := by
        have pre102_ : ∀ t, Steps p.tables e below (T94.setTop (mkF m 23 #[rv pr0, iv pi1, iv pi2, iv pi3, iv (0 : Int32), .unset] [(.int pi1), (.int pi2)])) t → Steps p.tables e below (T94.setTop (mkF m 23 #[rv pr0, iv pi1, iv pi2, iv pi3, iv (0 : Int32), .unset] [(.int pi1), (.int pi2)])) t := fun t kt => kt
        subst hx101
        by_cases hm23_103 : pi1 < pi2
        · have pre104 : ∀ t, Steps p.tables e below (T94.setTop (mkF m 29 #[rv pr0, iv pi1, iv pi2, iv pi3, iv (0 : Int32), .unset] [])) t → Steps p.tables e below (T94.setTop (mkF m 23 #[rv pr0, iv pi1, iv pi2, iv pi3, iv (0 : Int32), .unset] [(.int pi1), (.int pi2)])) t := fun t kt => pre102_ t (by
              refine y_icmpYes X94.here hx (hb hby d3_23) (tlt hm23_103).2.2.1 (pc' := 29) (by decide) rfl ?_
              exact kt)
          refine ⟨T94, ⟨X94, eh94.trans eh94.symm⟩, fun t kt => pre104 t ?_⟩
          (try simp only [if_pos hm23_103] at kt)
          exact kt
        · have pre105 : ∀ t, Steps p.tables e below (T94.setTop (mkF m 29 #[rv pr0, iv pi1, iv pi2, iv pi3, iv pi2, .unset] [])) t → Steps p.tables e below (T94.setTop (mkF m 23 #[rv pr0, iv pi1, iv pi2, iv pi3, iv (0 : Int32), .unset] [(.int pi1), (.int pi2)])) t := fun t kt => pre102_ t (by
              refine y_icmpNo X94.here hx (hb hby d3_23) (flt hm23_103).2.2.1 (pc' := 26) rfl ?_
              refine y_iloadN X94.here hx (hb hby d3_26) rfl (pc' := 27) rfl ?_
              refine y_istore X94.here hx (hb hby d3_27) (l' := #[rv pr0, iv pi1, iv pi2, iv pi3, iv pi2, .unset]) rfl (pc' := 29) rfl ?_
              exact kt)
          refine ⟨T94, ⟨X94, eh94.trans eh94.symm⟩, fun t kt => pre105 t ?_⟩
          (try simp only [if_neg hm23_103] at kt)
          exact kt
      have e102 : T102.heap = h94 := q102.trans eh94
      have pre106 : ∀ t, Steps p.tables e below (T102.setTop (mkF m 29 #[rv pr0, iv pi1, iv pi2, iv pi3, iv x101, .unset] [])) t → Go t := fun t kt => pre100 t (st102 t kt)
      have pre107 : ∀ t, Steps p.tables e below (T102.setTop (mkF m 31 #[rv pr0, iv pi1, iv pi2, iv pi3, iv x101, .unset] [(.int pi1), (.int pi3)])) t → Go t := fun t kt => pre106 t (by
          refine y_iloadN X102.here hx (hb hby d3_29) rfl (pc' := 30) rfl ?_
          refine y_iloadN X102.here hx (hb hby d3_30) rfl (pc' := 31) rfl ?_
          exact kt)
      obtain ⟨x108, hx108⟩ : ∃ z : Int32, z = (if pi1 < pi3 then x101 else (if x101 < pi3 then pi3 else x101)) := ⟨_, rfl⟩
      obtain ⟨T109, ⟨X109, q109⟩, st109⟩ : ∃ T', Nx X102 T' ∧ ∀ t, Steps p.tables e below (T'.setTop (mkF m 43 #[rv pr0, iv pi1, iv pi2, iv pi3, iv x108, .unset] [])) t → Steps p.tables e below (T102.setTop (mkF m 31 #[rv pr0, iv pi1, iv pi2, iv pi3, iv x101, .unset] [(.int pi1), (.int pi3)])) t := by
        have pre109_ : ∀ t, Steps p.tables e below (T102.setTop (mkF m 31 #[rv pr0, iv pi1, iv pi2, iv pi3, iv x101, .unset] [(.int pi1), (.int pi3)])) t → Steps p.tables e below (T102.setTop (mkF m 31 #[rv pr0, iv pi1, iv pi2, iv pi3, iv x101, .unset] [(.int pi1), (.int pi3)])) t := fun t kt => kt
        subst hx108
        by_cases hm31_110 : pi1 < pi3
        · have pre111 : ∀ t, Steps p.tables e below (T102.setTop (mkF m 43 #[rv pr0, iv pi1, iv pi2, iv pi3, iv x101, .unset] [])) t → Steps p.tables e below (T102.setTop (mkF m 31 #[rv pr0, iv pi1, iv pi2, iv pi3, iv x101, .unset] [(.int pi1), (.int pi3)])) t := fun t kt => pre109_ t (by
              refine y_icmpYes X102.here hx (hb hby d3_31) (tlt hm31_110).2.2.1 (pc' := 43) (by decide) rfl ?_
              exact kt)
          refine ⟨T102, ⟨X102, e102.trans e102.symm⟩, fun t kt => pre111 t ?_⟩
          (try simp only [if_pos hm31_110] at kt)
          exact kt
        · have pre112 : ∀ t, Steps p.tables e below (T102.setTop (mkF m 37 #[rv pr0, iv pi1, iv pi2, iv pi3, iv x101, .unset] [(.int x101), (.int pi3)])) t → Steps p.tables e below (T102.setTop (mkF m 31 #[rv pr0, iv pi1, iv pi2, iv pi3, iv x101, .unset] [(.int pi1), (.int pi3)])) t := fun t kt => pre109_ t (by
              refine y_icmpNo X102.here hx (hb hby d3_31) (flt hm31_110).2.2.1 (pc' := 34) rfl ?_
              refine y_iloadN X102.here hx (hb hby d3_34) rfl (pc' := 35) rfl ?_
              refine y_iload X102.here hx (hb hby d3_35) rfl (pc' := 37) rfl ?_
              exact kt)
          by_cases hm37_113 : x101 < pi3
          · have pre114 : ∀ t, Steps p.tables e below (T102.setTop (mkF m 43 #[rv pr0, iv pi1, iv pi2, iv pi3, iv pi3, .unset] [])) t → Steps p.tables e below (T102.setTop (mkF m 31 #[rv pr0, iv pi1, iv pi2, iv pi3, iv x101, .unset] [(.int pi1), (.int pi3)])) t := fun t kt => pre112 t (by
                refine y_icmpNo X102.here hx (hb hby d3_37) (tlt hm37_113).2.2.2 (pc' := 40) rfl ?_
                refine y_iloadN X102.here hx (hb hby d3_40) rfl (pc' := 41) rfl ?_
                refine y_istore X102.here hx (hb hby d3_41) (l' := #[rv pr0, iv pi1, iv pi2, iv pi3, iv pi3, .unset]) rfl (pc' := 43) rfl ?_
                exact kt)
            refine ⟨T102, ⟨X102, e102.trans e102.symm⟩, fun t kt => pre114 t ?_⟩
            (try simp only [if_neg hm31_110, if_pos hm37_113] at kt)
            exact kt
          · have pre115 : ∀ t, Steps p.tables e below (T102.setTop (mkF m 43 #[rv pr0, iv pi1, iv pi2, iv pi3, iv x101, .unset] [])) t → Steps p.tables e below (T102.setTop (mkF m 31 #[rv pr0, iv pi1, iv pi2, iv pi3, iv x101, .unset] [(.int pi1), (.int pi3)])) t := fun t kt => pre112 t (by
                refine y_icmpYes X102.here hx (hb hby d3_37) (flt hm37_113).2.2.2 (pc' := 43) (by decide) rfl ?_
                exact kt)
            refine ⟨T102, ⟨X102, e102.trans e102.symm⟩, fun t kt => pre115 t ?_⟩
            (try simp only [if_neg hm31_110, if_neg hm37_113] at kt)
            exact kt
      have e109 : T109.heap = h94 := q109.trans e102
      have pre116 : ∀ t, Steps p.tables e below (T109.setTop (mkF m 43 #[rv pr0, iv pi1, iv pi2, iv pi3, iv x108, .unset] [])) t → Go t := fun t kt => pre107 t (st109 t kt)
      obtain ⟨x117, hx117⟩ : ∃ z : Int32, z = (pi1 - x108) := ⟨_, rfl⟩
      have pre118 : ∀ t, Steps p.tables e below (T109.setTop (mkF m 49 #[rv pr0, iv pi1, iv pi2, iv pi3, iv x108, iv x117] [])) t → Go t := fun t kt => pre116 t (by
          subst hx117
          refine y_iloadN X109.here hx (hb hby d3_43) rfl (pc' := 44) rfl ?_
          refine y_iload X109.here hx (hb hby d3_44) rfl (pc' := 46) rfl ?_
          refine y_isub X109.here hx (hb hby d3_46) rfl (pc' := 47) rfl ?_
          refine y_istore X109.here hx (hb hby d3_47) (l' := #[rv pr0, iv pi1, iv pi2, iv pi3, iv x108, iv (pi1 - x108)]) rfl (pc' := 49) rfl ?_
          exact kt)
      have pre119 : ∀ t, Steps p.tables e below (T109.setTop (mkF m 50 #[rv pr0, iv pi1, iv pi2, iv pi3, iv x108, iv x117] [(.ref pr0)])) t → Go t := fun t kt => pre118 t (by
          refine y_aloadN X109.here hx (hb hby d3_49) rfl rfl (pc' := 50) rfl ?_
          exact kt)
      obtain ⟨cq120, kq120, q120a, q120b, q120c⟩ := isOf hZ e109 f97
      obtain ⟨v120, _, ⟨T120, L120, k120, n120⟩, -, X120, ⟨Lc120, hQ120, l120, y120, z120⟩, st120⟩ := X109.virtualBack hx (y := (⟨"com/example/certline/certline/transport/Backoff", "next", "()J"⟩ : MethodName)) (z := (⟨"com/example/certline/certline/transport/Backoff", "next", "()J"⟩ : MethodName)) hown (mvT hZ (hw _ (List.mem_of_getElem? (i := 22) rfl))) (mvT hZ (hw _ (List.mem_of_getElem? (i := 23) rfl))) (notFace_of_selects (args := #[]) (mvT hZ (hw _ (List.mem_of_getElem? (i := 25) rfl)))) (mvT hZ (hw _ (List.mem_of_getElem? (i := 25) rfl))) (mvT hZ (hw _ (List.mem_of_getElem? (i := 24) rfl))) (by decide) (backOf (W := 0) (rm5 l Z a0 hw [] pr0 (100000000 : Int64) h94 n0 O99 S_LIMIT_NANOS f97 p94_0 G_pr0) hZ (hw _ (List.mem_of_getElem? (i := 26) rfl)) (hw _ (List.mem_of_getElem? (i := 2) rfl)) (by decide) (by decide)) q120a q120c (g := (mkF m 50 #[rv pr0, iv pi1, iv pi2, iv pi3, iv x108, iv x117] [(.ref pr0)])) rfl (by rw [hml]; rfl) (Steps.refl _) (argsL := []) (rest := []) (lenOf pd___J rfl) rfl (by show 2 * 0 + _ ≤ _; exact Nat.le_of_eq rfl) (hb hby d3_50) (fun _ _ => ⟨rfl, e109, (by decide : 0 + 0 ≤ _), (by decide : 0 + 0 ≤ _)⟩)
      dsimp only [Pt.U, Pt.locs, Pt.cells, Pt.slots] at X120 l120 y120 z120 st120 hQ120
      subst l120 y120 z120
      obtain ⟨hv120, N120q, K120q, p120_0⟩ := hQ120
      have N121 := Fr.app N95 N120q
      have hw120 := hv120
      subst hw120
      have pre122 : ∀ t, Steps p.tables e below (T120.setTop (mkF m 53 #[rv pr0, iv pi1, iv pi2, iv pi3, iv x108, iv x117] [(.long (100000000 : Int64))])) t → Go t := fun t kt => pre119 t (st120.trans kt)
      obtain ⟨h120, eh120⟩ : ∃ z, T120.heap = z := ⟨_, rfl⟩
      rw [eh120] at K120q p120_0
      have f123 : Exa Z h120 pr0 "com/example/certline/certline/transport/Backoff" := (f97.keep K120q)
      obtain ⟨x125, hx125⟩ : ∃ z : Int64, z = (if (1000000000 : Int64) < ((2 : Int64) * (100000000 : Int64)) then (1000000000 : Int64) else ((2 : Int64) * (100000000 : Int64))) := ⟨_, rfl⟩
      rw [← hx125] at p120_0
      have O126 := O99.keep K120q (allS G_pr0 all0)
      have K126 : Keep h0 h120 [pr0] := K99.trans K120q (allS (P := fun x => x ∈ [pr0] ∨ h0.size ≤ x) (Or.inl (List.mem_of_getElem? (i := 0) rfl)) all0)
      have pre127 : ∀ t, Steps p.tables e below (T120.setTop (mkF m 55 #[rv pr0, iv pi1, iv pi2, iv pi3, iv x108, iv x117] [(.int x117), (.long (100000000 : Int64))])) t → Go t := fun t kt => pre122 t (by
          refine y_iload X120.here hx (hb hby d3_53) rfl (pc' := 55) rfl ?_
          exact kt)
      obtain ⟨v128, _, ⟨T128, L128, k128, n128⟩, -, X128, ⟨Lc128, hQ128, l128, y128, z128⟩, st128⟩ := Jvm.LawKit.callS X120 hx (y := (⟨"com/example/certline/certline/transport/BackoffNextPinLaw", "expected", "(I)J"⟩ : MethodName)) hown (mvT hZ (hw _ (List.mem_of_getElem? (i := 34) rfl))) (mvT hZ (hw _ (List.mem_of_getElem? (i := 35) rfl))) (mvT hZ (hw _ (List.mem_of_getElem? (i := 15) rfl))) (mvT hZ (hw _ (List.mem_of_getElem? (i := 36) rfl))) (by decide) (backOf (W := 2) (rm7 l Z a0 hw [] x117 h120 n0 O126 ) hZ (hw _ (List.mem_of_getElem? (i := 36) rfl)) (hw _ (List.mem_of_getElem? (i := 15) rfl)) (by decide) (by decide)) (g := (mkF m 55 #[rv pr0, iv pi1, iv pi2, iv pi3, iv x108, iv x117] [(.int x117), (.long (100000000 : Int64))])) rfl (by rw [hml]; rfl) (argsL := [(.int x117)]) (rest := [(.long (100000000 : Int64))]) (lenOf pd__I_J rfl) rfl (by show 2 * 0 + _ ≤ _; exact Nat.le_of_eq rfl) (hb hby d3_55) (fun _ _ => ⟨rfl, eh120, (by decide : 0 + 0 ≤ _), (by decide : 0 + 0 ≤ _)⟩)
      dsimp only [Pt.U, Pt.locs, Pt.cells, Pt.slots] at X128 l128 y128 z128 st128 hQ128
      subst l128 y128 z128
      obtain ⟨hv128, N128q, e128q⟩ := hQ128
      have N129 := Fr.app N121 N128q
      have hw128 := hv128
      obtain ⟨x130, hx130⟩ : ∃ z : Int64, z = (fr7 x117) := ⟨_, rfl⟩
      rw [← hx130] at hw128
      subst hw128
      have pre131 : ∀ t, Steps p.tables e below (T128.setTop (mkF m 58 #[rv pr0, iv pi1, iv pi2, iv pi3, iv x108, iv x117] [(.long x130), (.long (100000000 : Int64))])) t → Go t := fun t kt => pre127 t (st128 t kt)
      have pre132 : ∀ t, Steps p.tables e below (T128.setTop (mkF m 59 #[rv pr0, iv pi1, iv pi2, iv pi3, iv x108, iv x117] [(.int (lcmpW (100000000 : Int64) x130))])) t → Go t := fun t kt => pre131 t (by
          refine y_lcmp X128.here hx (hb hby d3_58) (pc' := 59) rfl ?_
          exact kt)
      by_cases hc59_133 : (100000000 : Int64) = x130
      · have pre134 : ∀ t, Steps p.tables e below (T128.setTop (mkF m 67 #[rv pr0, iv pi1, iv pi2, iv pi3, iv x108, iv x117] [(.int (1 : Int32))])) t → Go t := fun t kt => pre132 t (by
            refine y_ifNo X128.here hx (hb hby d3_59) ((if0 _ _).trans (teq (lq_eq hc59_133)).2) (pc' := 62) rfl ?_
            refine y_iconst X128.here hx (hb hby d3_62) (v := (1 : Int32)) rfl (pc' := 63) rfl ?_
            refine y_goto X128.here hx (hb hby d3_63) (pc' := 67) (by decide) rfl ?_
            exact kt)
        obtain ⟨fs, hr, hrun, hended, hW, hsame⟩ := X128.leave (v := some (.int (1 : Int32))) (fun h => by rw [Bd.returns] at h; cases h)
        refine ⟨_, _, (hGo _).mp (pre134 _ ?_), hrun, hended, _, _, rfl, ?_, ⟨_, rfl⟩, hW, hsame.mono (by decide) (by decide)⟩
        · exact retN X128 hx (t := .boolean) Bd.returns (by simp) (hb hby d3_67) hr
        · show Q3 Z pr0 pi1 pi2 pi3 u_next_pr0 h0 n0 _ T128.heap _
          rw [e128q]
          subst hx101 hx108 hx117 hx125 hx130
          exact ⟨(by first | (simp only [fr3, if_neg hc2_2, if_pos hc11_92, if_pos hc59_133]; done) | (simp only [fr3, if_neg hc2_2, if_pos hc11_92, if_pos hc59_133]; exact rfl) | exact rfl), N129, K126, (by first | (simp only [fp3_next, if_neg hc2_2, if_pos hc11_92, if_pos hc59_133]; done) | (simp only [fp3_next, if_neg hc2_2, if_pos hc11_92, if_pos hc59_133]; exact p120_0) | exact p120_0)⟩
      · have pre135 : ∀ t, Steps p.tables e below (T128.setTop (mkF m 67 #[rv pr0, iv pi1, iv pi2, iv pi3, iv x108, iv x117] [(.int (0 : Int32))])) t → Go t := fun t kt => pre132 t (by
            refine y_ifYes X128.here hx (hb hby d3_59) ((if0 _ _).trans (feq (lq_ne hc59_133)).2) (pc' := 66) (by decide) rfl ?_
            refine y_iconst X128.here hx (hb hby d3_66) (v := (0 : Int32)) rfl (pc' := 67) rfl ?_
            exact kt)
        obtain ⟨fs, hr, hrun, hended, hW, hsame⟩ := X128.leave (v := some (.int (0 : Int32))) (fun h => by rw [Bd.returns] at h; cases h)
        refine ⟨_, _, (hGo _).mp (pre135 _ ?_), hrun, hended, _, _, rfl, ?_, ⟨_, rfl⟩, hW, hsame.mono (by decide) (by decide)⟩
        · exact retN X128 hx (t := .boolean) Bd.returns (by simp) (hb hby d3_67) hr
        · show Q3 Z pr0 pi1 pi2 pi3 u_next_pr0 h0 n0 _ T128.heap _
          rw [e128q]
          subst hx101 hx108 hx117 hx125 hx130
          exact ⟨(by first | (simp only [fr3, if_neg hc2_2, if_pos hc11_92, if_neg hc59_133]; done) | (simp only [fr3, if_neg hc2_2, if_pos hc11_92, if_neg hc59_133]; exact rfl) | exact rfl), N129, K126, (by first | (simp only [fp3_next, if_neg hc2_2, if_pos hc11_92, if_neg hc59_133]; done) | (simp only [fp3_next, if_neg hc2_2, if_pos hc11_92, if_neg hc59_133]; exact p120_0) | exact p120_0)⟩
    · have pre136 : ∀ t, Steps p.tables e below (s₁.setTop (mkF m 23 #[rv pr0, iv pi1, iv pi2, iv pi3, iv (0 : Int32), .unset] [(.int pi1), (.int pi2)])) t → Go t := fun t kt => pre91 t (by
          refine y_icmpYes X0.here hx (hb hby d3_11) (feq hc11_92).2 (pc' := 18) (by decide) rfl ?_
          refine y_iconst X0.here hx (hb hby d3_18) (v := (0 : Int32)) rfl (pc' := 19) rfl ?_
          refine y_istore X0.here hx (hb hby d3_19) (l' := #[rv pr0, iv pi1, iv pi2, iv pi3, iv (0 : Int32), .unset]) rfl (pc' := 21) rfl ?_
          refine y_iloadN X0.here hx (hb hby d3_21) rfl (pc' := 22) rfl ?_
          refine y_iloadN X0.here hx (hb hby d3_22) rfl (pc' := 23) rfl ?_
          exact kt)
      obtain ⟨x137, hx137⟩ : ∃ z : Int32, z = (if pi1 < pi2 then (0 : Int32) else pi2) := ⟨_, rfl⟩
      obtain ⟨T138, ⟨X138, q138⟩, st138⟩ : ∃ T', Nx X0 T' ∧ ∀ t, Steps p.tables e below (T'.setTop (mkF m 29 #[rv pr0, iv pi1, iv pi2, iv pi3, iv x137, .unset] [])) t → Steps p.tables e below (s₁.setTop (mkF m 23 #[rv pr0, iv pi1, iv pi2, iv pi3, iv (0 : Int32), .unset] [(.int pi1), (.int pi2)])) t := by
        have pre138_ : ∀ t, Steps p.tables e below (s₁.setTop (mkF m 23 #[rv pr0, iv pi1, iv pi2, iv pi3, iv (0 : Int32), .unset] [(.int pi1), (.int pi2)])) t → Steps p.tables e below (s₁.setTop (mkF m 23 #[rv pr0, iv pi1, iv pi2, iv pi3, iv (0 : Int32), .unset] [(.int pi1), (.int pi2)])) t := fun t kt => kt
        subst hx137
        by_cases hm23_139 : pi1 < pi2
        · have pre140 : ∀ t, Steps p.tables e below (s₁.setTop (mkF m 29 #[rv pr0, iv pi1, iv pi2, iv pi3, iv (0 : Int32), .unset] [])) t → Steps p.tables e below (s₁.setTop (mkF m 23 #[rv pr0, iv pi1, iv pi2, iv pi3, iv (0 : Int32), .unset] [(.int pi1), (.int pi2)])) t := fun t kt => pre138_ t (by
              refine y_icmpYes X0.here hx (hb hby d3_23) (tlt hm23_139).2.2.1 (pc' := 29) (by decide) rfl ?_
              exact kt)
          refine ⟨s₁, ⟨X0, e0.trans e0.symm⟩, fun t kt => pre140 t ?_⟩
          (try simp only [if_pos hm23_139] at kt)
          exact kt
        · have pre141 : ∀ t, Steps p.tables e below (s₁.setTop (mkF m 29 #[rv pr0, iv pi1, iv pi2, iv pi3, iv pi2, .unset] [])) t → Steps p.tables e below (s₁.setTop (mkF m 23 #[rv pr0, iv pi1, iv pi2, iv pi3, iv (0 : Int32), .unset] [(.int pi1), (.int pi2)])) t := fun t kt => pre138_ t (by
              refine y_icmpNo X0.here hx (hb hby d3_23) (flt hm23_139).2.2.1 (pc' := 26) rfl ?_
              refine y_iloadN X0.here hx (hb hby d3_26) rfl (pc' := 27) rfl ?_
              refine y_istore X0.here hx (hb hby d3_27) (l' := #[rv pr0, iv pi1, iv pi2, iv pi3, iv pi2, .unset]) rfl (pc' := 29) rfl ?_
              exact kt)
          refine ⟨s₁, ⟨X0, e0.trans e0.symm⟩, fun t kt => pre141 t ?_⟩
          (try simp only [if_neg hm23_139] at kt)
          exact kt
      have e138 : T138.heap = h0 := q138.trans e0
      have pre142 : ∀ t, Steps p.tables e below (T138.setTop (mkF m 29 #[rv pr0, iv pi1, iv pi2, iv pi3, iv x137, .unset] [])) t → Go t := fun t kt => pre136 t (st138 t kt)
      have pre143 : ∀ t, Steps p.tables e below (T138.setTop (mkF m 31 #[rv pr0, iv pi1, iv pi2, iv pi3, iv x137, .unset] [(.int pi1), (.int pi3)])) t → Go t := fun t kt => pre142 t (by
          refine y_iloadN X138.here hx (hb hby d3_29) rfl (pc' := 30) rfl ?_
          refine y_iloadN X138.here hx (hb hby d3_30) rfl (pc' := 31) rfl ?_
          exact kt)
      obtain ⟨x144, hx144⟩ : ∃ z : Int32, z = (if pi1 < pi3 then x137 else (if x137 < pi3 then pi3 else x137)) := ⟨_, rfl⟩
      obtain ⟨T145, ⟨X145, q145⟩, st145⟩ : ∃ T', Nx X138 T' ∧ ∀ t, Steps p.tables e below (T'.setTop (mkF m 43 #[rv pr0, iv pi1, iv pi2, iv pi3, iv x144, .unset] [])) t → Steps p.tables e below (T138.setTop (mkF m 31 #[rv pr0, iv pi1, iv pi2, iv pi3, iv x137, .unset] [(.int pi1), (.int pi3)])) t := by
        have pre145_ : ∀ t, Steps p.tables e below (T138.setTop (mkF m 31 #[rv pr0, iv pi1, iv pi2, iv pi3, iv x137, .unset] [(.int pi1), (.int pi3)])) t → Steps p.tables e below (T138.setTop (mkF m 31 #[rv pr0, iv pi1, iv pi2, iv pi3, iv x137, .unset] [(.int pi1), (.int pi3)])) t := fun t kt => kt
        subst hx144
        by_cases hm31_146 : pi1 < pi3
        · have pre147 : ∀ t, Steps p.tables e below (T138.setTop (mkF m 43 #[rv pr0, iv pi1, iv pi2, iv pi3, iv x137, .unset] [])) t → Steps p.tables e below (T138.setTop (mkF m 31 #[rv pr0, iv pi1, iv pi2, iv pi3, iv x137, .unset] [(.int pi1), (.int pi3)])) t := fun t kt => pre145_ t (by
              refine y_icmpYes X138.here hx (hb hby d3_31) (tlt hm31_146).2.2.1 (pc' := 43) (by decide) rfl ?_
              exact kt)
          refine ⟨T138, ⟨X138, e138.trans e138.symm⟩, fun t kt => pre147 t ?_⟩
          (try simp only [if_pos hm31_146] at kt)
          exact kt
        · have pre148 : ∀ t, Steps p.tables e below (T138.setTop (mkF m 37 #[rv pr0, iv pi1, iv pi2, iv pi3, iv x137, .unset] [(.int x137), (.int pi3)])) t → Steps p.tables e below (T138.setTop (mkF m 31 #[rv pr0, iv pi1, iv pi2, iv pi3, iv x137, .unset] [(.int pi1), (.int pi3)])) t := fun t kt => pre145_ t (by
              refine y_icmpNo X138.here hx (hb hby d3_31) (flt hm31_146).2.2.1 (pc' := 34) rfl ?_
              refine y_iloadN X138.here hx (hb hby d3_34) rfl (pc' := 35) rfl ?_
              refine y_iload X138.here hx (hb hby d3_35) rfl (pc' := 37) rfl ?_
              exact kt)
          by_cases hm37_149 : x137 < pi3
          · have pre150 : ∀ t, Steps p.tables e below (T138.setTop (mkF m 43 #[rv pr0, iv pi1, iv pi2, iv pi3, iv pi3, .unset] [])) t → Steps p.tables e below (T138.setTop (mkF m 31 #[rv pr0, iv pi1, iv pi2, iv pi3, iv x137, .unset] [(.int pi1), (.int pi3)])) t := fun t kt => pre148 t (by
                refine y_icmpNo X138.here hx (hb hby d3_37) (tlt hm37_149).2.2.2 (pc' := 40) rfl ?_
                refine y_iloadN X138.here hx (hb hby d3_40) rfl (pc' := 41) rfl ?_
                refine y_istore X138.here hx (hb hby d3_41) (l' := #[rv pr0, iv pi1, iv pi2, iv pi3, iv pi3, .unset]) rfl (pc' := 43) rfl ?_
                exact kt)
            refine ⟨T138, ⟨X138, e138.trans e138.symm⟩, fun t kt => pre150 t ?_⟩
            (try simp only [if_neg hm31_146, if_pos hm37_149] at kt)
            exact kt
          · have pre151 : ∀ t, Steps p.tables e below (T138.setTop (mkF m 43 #[rv pr0, iv pi1, iv pi2, iv pi3, iv x137, .unset] [])) t → Steps p.tables e below (T138.setTop (mkF m 31 #[rv pr0, iv pi1, iv pi2, iv pi3, iv x137, .unset] [(.int pi1), (.int pi3)])) t := fun t kt => pre148 t (by
                refine y_icmpYes X138.here hx (hb hby d3_37) (flt hm37_149).2.2.2 (pc' := 43) (by decide) rfl ?_
                exact kt)
            refine ⟨T138, ⟨X138, e138.trans e138.symm⟩, fun t kt => pre151 t ?_⟩
            (try simp only [if_neg hm31_146, if_neg hm37_149] at kt)
            exact kt
      have e145 : T145.heap = h0 := q145.trans e138
      have pre152 : ∀ t, Steps p.tables e below (T145.setTop (mkF m 43 #[rv pr0, iv pi1, iv pi2, iv pi3, iv x144, .unset] [])) t → Go t := fun t kt => pre143 t (st145 t kt)
      obtain ⟨x153, hx153⟩ : ∃ z : Int32, z = (pi1 - x144) := ⟨_, rfl⟩
      have pre154 : ∀ t, Steps p.tables e below (T145.setTop (mkF m 49 #[rv pr0, iv pi1, iv pi2, iv pi3, iv x144, iv x153] [])) t → Go t := fun t kt => pre152 t (by
          subst hx153
          refine y_iloadN X145.here hx (hb hby d3_43) rfl (pc' := 44) rfl ?_
          refine y_iload X145.here hx (hb hby d3_44) rfl (pc' := 46) rfl ?_
          refine y_isub X145.here hx (hb hby d3_46) rfl (pc' := 47) rfl ?_
          refine y_istore X145.here hx (hb hby d3_47) (l' := #[rv pr0, iv pi1, iv pi2, iv pi3, iv x144, iv (pi1 - x144)]) rfl (pc' := 49) rfl ?_
          exact kt)
      have pre155 : ∀ t, Steps p.tables e below (T145.setTop (mkF m 50 #[rv pr0, iv pi1, iv pi2, iv pi3, iv x144, iv x153] [(.ref pr0)])) t → Go t := fun t kt => pre154 t (by
          refine y_aloadN X145.here hx (hb hby d3_49) rfl rfl (pc' := 50) rfl ?_
          exact kt)
      obtain ⟨cq156, kq156, q156a, q156b, q156c⟩ := isOf hZ e145 E_pr0
      obtain ⟨v156, _, ⟨T156, L156, k156, n156⟩, -, X156, ⟨Lc156, hQ156, l156, y156, z156⟩, st156⟩ := X145.virtualBack hx (y := (⟨"com/example/certline/certline/transport/Backoff", "next", "()J"⟩ : MethodName)) (z := (⟨"com/example/certline/certline/transport/Backoff", "next", "()J"⟩ : MethodName)) hown (mvT hZ (hw _ (List.mem_of_getElem? (i := 22) rfl))) (mvT hZ (hw _ (List.mem_of_getElem? (i := 23) rfl))) (notFace_of_selects (args := #[]) (mvT hZ (hw _ (List.mem_of_getElem? (i := 25) rfl)))) (mvT hZ (hw _ (List.mem_of_getElem? (i := 25) rfl))) (mvT hZ (hw _ (List.mem_of_getElem? (i := 24) rfl))) (by decide) (backOf (W := 0) (rm5 l Z a0 hw [] pr0 u_next_pr0 h0 n0 O0 S_LIMIT_NANOS E_pr0 F_next_pr0 G_pr0) hZ (hw _ (List.mem_of_getElem? (i := 26) rfl)) (hw _ (List.mem_of_getElem? (i := 2) rfl)) (by decide) (by decide)) q156a q156c (g := (mkF m 50 #[rv pr0, iv pi1, iv pi2, iv pi3, iv x144, iv x153] [(.ref pr0)])) rfl (by rw [hml]; rfl) (Steps.refl _) (argsL := []) (rest := []) (lenOf pd___J rfl) rfl (by show 2 * 0 + _ ≤ _; exact Nat.le_of_eq rfl) (hb hby d3_50) (fun _ _ => ⟨rfl, e145, (by decide : 0 + 0 ≤ _), (by decide : 0 + 0 ≤ _)⟩)
      dsimp only [Pt.U, Pt.locs, Pt.cells, Pt.slots] at X156 l156 y156 z156 st156 hQ156
      subst l156 y156 z156
      obtain ⟨hv156, N156q, K156q, p156_0⟩ := hQ156
      have N157 := Fr.app N0 N156q
      have hw156 := hv156
      subst hw156
      have pre158 : ∀ t, Steps p.tables e below (T156.setTop (mkF m 53 #[rv pr0, iv pi1, iv pi2, iv pi3, iv x144, iv x153] [(.long u_next_pr0)])) t → Go t := fun t kt => pre155 t (st156.trans kt)
      obtain ⟨h156, eh156⟩ : ∃ z, T156.heap = z := ⟨_, rfl⟩
      rw [eh156] at K156q p156_0
      have f159 : Exa Z h156 pr0 "com/example/certline/certline/transport/Backoff" := (E_pr0.keep K156q)
      obtain ⟨x161, hx161⟩ : ∃ z : Int64, z = (if (1000000000 : Int64) < ((2 : Int64) * u_next_pr0) then (1000000000 : Int64) else ((2 : Int64) * u_next_pr0)) := ⟨_, rfl⟩
      rw [← hx161] at p156_0
      have O162 := O0.keep K156q (allS G_pr0 all0)
      have K162 : Keep h0 h156 [pr0] := K0.trans K156q (allS (P := fun x => x ∈ [pr0] ∨ h0.size ≤ x) (Or.inl (List.mem_of_getElem? (i := 0) rfl)) all0)
      have pre163 : ∀ t, Steps p.tables e below (T156.setTop (mkF m 55 #[rv pr0, iv pi1, iv pi2, iv pi3, iv x144, iv x153] [(.int x153), (.long u_next_pr0)])) t → Go t := fun t kt => pre158 t (by
          refine y_iload X156.here hx (hb hby d3_53) rfl (pc' := 55) rfl ?_
          exact kt)
      obtain ⟨v164, _, ⟨T164, L164, k164, n164⟩, -, X164, ⟨Lc164, hQ164, l164, y164, z164⟩, st164⟩ := Jvm.LawKit.callS X156 hx (y := (⟨"com/example/certline/certline/transport/BackoffNextPinLaw", "expected", "(I)J"⟩ : MethodName)) hown (mvT hZ (hw _ (List.mem_of_getElem? (i := 34) rfl))) (mvT hZ (hw _ (List.mem_of_getElem? (i := 35) rfl))) (mvT hZ (hw _ (List.mem_of_getElem? (i := 15) rfl))) (mvT hZ (hw _ (List.mem_of_getElem? (i := 36) rfl))) (by decide) (backOf (W := 2) (rm7 l Z a0 hw [] x153 h156 n0 O162 ) hZ (hw _ (List.mem_of_getElem? (i := 36) rfl)) (hw _ (List.mem_of_getElem? (i := 15) rfl)) (by decide) (by decide)) (g := (mkF m 55 #[rv pr0, iv pi1, iv pi2, iv pi3, iv x144, iv x153] [(.int x153), (.long u_next_pr0)])) rfl (by rw [hml]; rfl) (argsL := [(.int x153)]) (rest := [(.long u_next_pr0)]) (lenOf pd__I_J rfl) rfl (by show 2 * 0 + _ ≤ _; exact Nat.le_of_eq rfl) (hb hby d3_55) (fun _ _ => ⟨rfl, eh156, (by decide : 0 + 0 ≤ _), (by decide : 0 + 0 ≤ _)⟩)
      dsimp only [Pt.U, Pt.locs, Pt.cells, Pt.slots] at X164 l164 y164 z164 st164 hQ164
      subst l164 y164 z164
      obtain ⟨hv164, N164q, e164q⟩ := hQ164
      have N165 := Fr.app N157 N164q
      have hw164 := hv164
      obtain ⟨x166, hx166⟩ : ∃ z : Int64, z = (fr7 x153) := ⟨_, rfl⟩
      rw [← hx166] at hw164
      subst hw164
      have pre167 : ∀ t, Steps p.tables e below (T164.setTop (mkF m 58 #[rv pr0, iv pi1, iv pi2, iv pi3, iv x144, iv x153] [(.long x166), (.long u_next_pr0)])) t → Go t := fun t kt => pre163 t (st164 t kt)
      have pre168 : ∀ t, Steps p.tables e below (T164.setTop (mkF m 59 #[rv pr0, iv pi1, iv pi2, iv pi3, iv x144, iv x153] [(.int (lcmpW u_next_pr0 x166))])) t → Go t := fun t kt => pre167 t (by
          refine y_lcmp X164.here hx (hb hby d3_58) (pc' := 59) rfl ?_
          exact kt)
      by_cases hc59_169 : u_next_pr0 = x166
      · have pre170 : ∀ t, Steps p.tables e below (T164.setTop (mkF m 67 #[rv pr0, iv pi1, iv pi2, iv pi3, iv x144, iv x153] [(.int (1 : Int32))])) t → Go t := fun t kt => pre168 t (by
            refine y_ifNo X164.here hx (hb hby d3_59) ((if0 _ _).trans (teq (lq_eq hc59_169)).2) (pc' := 62) rfl ?_
            refine y_iconst X164.here hx (hb hby d3_62) (v := (1 : Int32)) rfl (pc' := 63) rfl ?_
            refine y_goto X164.here hx (hb hby d3_63) (pc' := 67) (by decide) rfl ?_
            exact kt)
        obtain ⟨fs, hr, hrun, hended, hW, hsame⟩ := X164.leave (v := some (.int (1 : Int32))) (fun h => by rw [Bd.returns] at h; cases h)
        refine ⟨_, _, (hGo _).mp (pre170 _ ?_), hrun, hended, _, _, rfl, ?_, ⟨_, rfl⟩, hW, hsame.mono (by decide) (by decide)⟩
        · exact retN X164 hx (t := .boolean) Bd.returns (by simp) (hb hby d3_67) hr
        · show Q3 Z pr0 pi1 pi2 pi3 u_next_pr0 h0 n0 _ T164.heap _
          rw [e164q]
          subst hx137 hx144 hx153 hx161 hx166
          exact ⟨(by first | (simp only [fr3, if_neg hc2_2, if_neg hc11_92, if_pos hc59_169]; done) | (simp only [fr3, if_neg hc2_2, if_neg hc11_92, if_pos hc59_169]; exact rfl) | exact rfl), N165, K162, (by first | (simp only [fp3_next, if_neg hc2_2, if_neg hc11_92, if_pos hc59_169]; done) | (simp only [fp3_next, if_neg hc2_2, if_neg hc11_92, if_pos hc59_169]; exact p156_0) | exact p156_0)⟩
      · have pre171 : ∀ t, Steps p.tables e below (T164.setTop (mkF m 67 #[rv pr0, iv pi1, iv pi2, iv pi3, iv x144, iv x153] [(.int (0 : Int32))])) t → Go t := fun t kt => pre168 t (by
            refine y_ifYes X164.here hx (hb hby d3_59) ((if0 _ _).trans (feq (lq_ne hc59_169)).2) (pc' := 66) (by decide) rfl ?_
            refine y_iconst X164.here hx (hb hby d3_66) (v := (0 : Int32)) rfl (pc' := 67) rfl ?_
            exact kt)
        obtain ⟨fs, hr, hrun, hended, hW, hsame⟩ := X164.leave (v := some (.int (0 : Int32))) (fun h => by rw [Bd.returns] at h; cases h)
        refine ⟨_, _, (hGo _).mp (pre171 _ ?_), hrun, hended, _, _, rfl, ?_, ⟨_, rfl⟩, hW, hsame.mono (by decide) (by decide)⟩
        · exact retN X164 hx (t := .boolean) Bd.returns (by simp) (hb hby d3_67) hr
        · show Q3 Z pr0 pi1 pi2 pi3 u_next_pr0 h0 n0 _ T164.heap _
          rw [e164q]
          subst hx137 hx144 hx153 hx161 hx166
          exact ⟨(by first | (simp only [fr3, if_neg hc2_2, if_neg hc11_92, if_neg hc59_169]; done) | (simp only [fr3, if_neg hc2_2, if_neg hc11_92, if_neg hc59_169]; exact rfl) | exact rfl), N165, K162, (by first | (simp only [fp3_next, if_neg hc2_2, if_neg hc11_92, if_neg hc59_169]; done) | (simp only [fp3_next, if_neg hc2_2, if_neg hc11_92, if_neg hc59_169]; exact p156_0) | exact p156_0)⟩
def own_chain (p q : Int32) : Int32 :=
  let n1 : Int64 := fp3_next (0 : Int32) p q (100000000 : Int64)
  let n2 : Int64 := fp3_next (1 : Int32) p q n1
  let n3 : Int64 := fp3_next (2 : Int32) p q n2
  let n4 : Int64 := fp3_next (3 : Int32) p q n3
  let n5 : Int64 := fp3_next (4 : Int32) p q n4
  let n6 : Int64 := fp3_next (5 : Int32) p q n5
  ((((((((1 : Int32) &&& fr3 (0 : Int32) p q (100000000 : Int64)) &&& fr3 (1 : Int32) p q n1) &&& fr3 (2 : Int32) p q n2) &&& fr3 (3 : Int32) p q n3) &&& fr3 (4 : Int32) p q n4) &&& fr3 (5 : Int32) p q n5) &&& fr3 (6 : Int32) p q n6)
theorem own_law0 : ∀ p q : Fin 8, own_chain (Int32.ofNat p) (Int32.ofNat q) = 1 := by decide +kernel
theorem own_and7 (k : Int32) : ∃ i : Fin 8, k &&& 7 = Int32.ofNat i := by
  have q : (k &&& 7).toInt = k.toInt % 8 := c_mask k 7 3 (by decide) (by decide)
  refine ⟨⟨(k.toInt % 8).toNat, by omega⟩, own_of ?_⟩
  rw [q, Int32.toInt_ofNat_small (by show (k.toInt % 8).toNat < _; omega)]
  show _ = ((k.toInt % 8).toNat : Int)
  omega
theorem pd__Lcom_example_certline_certline_transport_Backoff_III_Z : parseMethodDescriptor "(Lcom/example/certline/certline/transport/Backoff;III)Z" = some ⟨[(.object "com/example/certline/certline/transport/Backoff"), .int, .int, .int], some .boolean⟩ := by decide +kernel
theorem ef_0 (m : MethodId) (x0 : Int32) (x1 : Int32) : entryFrame m #[(.int x0), (.int x1)] maxLocals = mkF m 0 #[iv x0, iv x1, .unset, .unset, .unset, .unset] [] := by first | (simp [entryFrame, mkF, argsToLocals, Value.category, maxLocals]; done) | rfl
def Q0 (Z : State) (pi0 : Int32) (pi1 : Int32) (h0 : Heap) (n0 : Nat) (v : Option Value) (h : Heap) (L : List Loc) : Prop := v = some (.int (1 : Int32)) ∧ Fr n0 L
set_option maxRecDepth 65536 in
set_option maxHeartbeats 40000000 in
theorem rm0 (l : Launch) (Z : State) (a0 : Array Value) (hw : ∀ d ∈ tables_1, d.before a0 Z = true) (ws : List Jvm.Cond) (pi0 : Int32) (pi1 : Int32) (h0 : Heap) (n0 : Nat) (O0 : Old Z n0 h0) (S_FIRST_NANOS : Sta Z Z.heap "com/example/certline/certline/transport/Backoff" "FIRST_NANOS" "J" (.long (100000000 : Int64))) (S_LIMIT_NANOS : Sta Z Z.heap "com/example/certline/certline/transport/Backoff" "LIMIT_NANOS" "J" (.long (1000000000 : Int64))) :
    MetFree l x (head1 (Jvm.Cond.code x code maxLocals ret :: ws) room_1) (fun a U => a = #[(.int pi0), (.int pi1)] ∧ Z.Warmed39 U.vm ∧ U.heap = h0) (fun _ _ _ _ _ => True) (fun _ U o U' => ∃ v L, o = .returned v ∧ Q0 Z pi0 pi1 h0 n0 v U'.heap L ∧ FrameEnd U o U' L room_1.cells room_1.slots) := by
  refine MetFree.of_bodySF (plainFor_of_name pn_com_example_certline_certline_transport_BackoffNextPinLaw) hisR ?_
  intro p e s m args below meth c s₁ Bd hml0 hP hK
  obtain ⟨rfl, hZ, hh⟩ := hP
  have hx := Bd.exec
  have hby := Bd.bytes
  have hml : c.maxLocals = 6 := hml0
  have hown : s.vm.findClass "com/example/certline/certline/transport/BackoffNextPinLaw" = some m.cls := findClass_of_methodNamed Bd.named
  have hnm := (name_of_methodNamed Bd.named Bd.method).1
  have X0 : Stand p l e room_1 s m #[(.int pi0), (.int pi1)] below meth c s₁ [] 0 0 := Stand.of_body Bd
  have e0 : s₁.heap = h0 := by rw [← hh, Bd.state]; rfl
  have N0 := Fr.nil n0
  obtain ⟨Go, hGo⟩ : ∃ P : State → Prop, ∀ t, P t ↔ Steps p.tables e below (s₁.setTop (entryFrame m #[(.int pi0), (.int pi1)] maxLocals)) t := ⟨_, fun _ => Iff.rfl⟩
  have pre0 : ∀ t, Steps p.tables e below (s₁.setTop (mkF m 0 #[iv pi0, iv pi1, .unset, .unset, .unset, .unset] [])) t → Go t := fun t k => (hGo t).mpr (castTop (ef_0 m pi0 pi1) k)
  obtain ⟨x1, hx1⟩ : ∃ z : Int32, z = (pi0 &&& (7 : Int32)) := ⟨_, rfl⟩
  have pre2 : ∀ t, Steps p.tables e below (s₁.setTop (mkF m 5 #[iv pi0, iv pi1, iv x1, .unset, .unset, .unset] [])) t → Go t := fun t kt => pre0 t (by
      subst hx1
      refine y_iloadN X0.here hx (hb hby at_0) rfl (pc' := 1) rfl ?_
      refine y_bipush X0.here hx (hb hby at_1) (v := (7 : Int32)) rfl (pc' := 3) rfl ?_
      refine y_iand X0.here hx (hb hby at_3) rfl (pc' := 4) rfl ?_
      refine y_istoreN X0.here hx (hb hby at_4) (l' := #[iv pi0, iv pi1, iv (pi0 &&& (7 : Int32)), .unset, .unset, .unset]) rfl (pc' := 5) rfl ?_
      exact kt)
  obtain ⟨x3, hx3⟩ : ∃ z : Int32, z = (pi1 &&& (7 : Int32)) := ⟨_, rfl⟩
  have pre4 : ∀ t, Steps p.tables e below (s₁.setTop (mkF m 10 #[iv pi0, iv pi1, iv x1, iv x3, .unset, .unset] [])) t → Go t := fun t kt => pre2 t (by
      subst hx3
      refine y_iloadN X0.here hx (hb hby at_5) rfl (pc' := 6) rfl ?_
      refine y_bipush X0.here hx (hb hby at_6) (v := (7 : Int32)) rfl (pc' := 8) rfl ?_
      refine y_iand X0.here hx (hb hby at_8) rfl (pc' := 9) rfl ?_
      refine y_istoreN X0.here hx (hb hby at_9) (l' := #[iv pi0, iv pi1, iv x1, iv (pi1 &&& (7 : Int32)), .unset, .unset]) rfl (pc' := 10) rfl ?_
      exact kt)
  obtain ⟨T5, h5, X5, e5, E5, A5, D5, -, st5⟩ := newO X0 hx hZ hown (hw _ (List.mem_of_getElem? (i := 0) rfl)) (hw _ (List.mem_of_getElem? (i := 1) rfl)) (hw _ (List.mem_of_getElem? (i := 2) rfl)) e0 (g := (mkF m 10 #[iv pi0, iv pi1, iv x1, iv x3, .unset, .unset] [])) rfl (hb hby at_10) (by decide) (by decide)
  obtain ⟨b5, g5⟩ : ∃ z, z = h0.size := ⟨_, rfl⟩
  rw [← g5] at A5 D5 st5
  have pre6 : ∀ t, Steps p.tables e below (T5.setTop (mkF m 13 #[iv pi0, iv pi1, iv x1, iv x3, .unset, .unset] [(.ref b5)])) t → Go t := fun t kt => pre4 t (st5 t kt)
  have G7 : n0 ≤ b5 := Nat.le_trans (O0.1 ▸ O0.2.1) (Nat.le_of_eq g5.symm)
  have O7 := O0.ext E5
  have f8 : Fld Z h5 b5 "com/example/certline/certline/transport/Backoff" "next" "J" (.long (0 : Int64)) := D5 (Or.inl (hw _ (List.mem_of_getElem? (i := 12) rfl))) (ty := .long) (by decide)
  have pre9 : ∀ t, Steps p.tables e below (T5.setTop (mkF m 14 #[iv pi0, iv pi1, iv x1, iv x3, .unset, .unset] [(.ref b5), (.ref b5)])) t → Go t := fun t kt => pre6 t (by
      refine y_dup X5.here hx (hb hby at_13) rfl (pc' := 14) rfl ?_
      exact kt)
  obtain ⟨v10, _, ⟨T10, L10, k10, n10⟩, -, X10, ⟨Lc10, hQ10, l10, y10, z10⟩, st10⟩ := X5.specialBack hx (y := (⟨"com/example/certline/certline/transport/Backoff", "<init>", "()V"⟩ : MethodName)) rfl hown (mvT hZ (hw _ (List.mem_of_getElem? (i := 3) rfl))) (mvT hZ (hw _ (List.mem_of_getElem? (i := 4) rfl))) (mvT hZ (hw _ (List.mem_of_getElem? (i := 5) rfl))) (by decide) (backOf (W := 1) (rm1 l Z a0 hw [] b5 h5 n0 O7 S_FIRST_NANOS A5 f8 G7) hZ (hw _ (List.mem_of_getElem? (i := 5) rfl)) (hw _ (List.mem_of_getElem? (i := 2) rfl)) (by decide) (by decide)) (g := (mkF m 14 #[iv pi0, iv pi1, iv x1, iv x3, .unset, .unset] [(.ref b5), (.ref b5)])) rfl (by rw [hml]; rfl) (Steps.refl _) (a := b5) (argsL := []) (rest := [(.ref b5)]) (lenOf pd___V rfl) rfl (by show 2 * 0 + _ ≤ _; exact Nat.le_of_eq rfl) (hb hby at_14) (fun _ _ => ⟨rfl, e5, (by decide : 1 + 0 ≤ _), (by decide : 1 + 0 ≤ _)⟩)
  dsimp only [Pt.U, Pt.locs, Pt.cells, Pt.slots] at X10 l10 y10 z10 st10 hQ10
  subst l10 y10 z10
  obtain ⟨hv10, N10q, K10q, p10_0⟩ := hQ10
  have N11 := Fr.app N0 N10q
  subst hv10
  have pre12 : ∀ t, Steps p.tables e below (T10.setTop (mkF m 17 #[iv pi0, iv pi1, iv x1, iv x3, .unset, .unset] [(.ref b5)])) t → Go t := fun t kt => pre9 t (st10.trans kt)
  obtain ⟨h10, eh10⟩ : ∃ z, T10.heap = z := ⟨_, rfl⟩
  rw [eh10] at K10q p10_0
  have f13 : Exa Z h10 b5 "com/example/certline/certline/transport/Backoff" := (A5.keep K10q)
  have O15 := O7.keep K10q (allS G7 all0)
  have pre16 : ∀ t, Steps p.tables e below (T10.setTop (mkF m 29 #[iv pi0, iv pi1, iv x1, iv x3, rv b5, iv (1 : Int32)] [(.int x3), (.int x1), (.int (0 : Int32)), (.ref b5), (.int (1 : Int32))])) t → Go t := fun t kt => pre12 t (by
      refine y_astore X10.here hx (hb hby at_17) rfl (l' := #[iv pi0, iv pi1, iv x1, iv x3, rv b5, .unset]) rfl (pc' := 19) rfl ?_
      refine y_iconst X10.here hx (hb hby at_19) (v := (1 : Int32)) rfl (pc' := 20) rfl ?_
      refine y_istore X10.here hx (hb hby at_20) (l' := #[iv pi0, iv pi1, iv x1, iv x3, rv b5, iv (1 : Int32)]) rfl (pc' := 22) rfl ?_
      refine y_iload X10.here hx (hb hby at_22) rfl (pc' := 24) rfl ?_
      refine y_aload X10.here hx (hb hby at_24) rfl rfl (pc' := 26) rfl ?_
      refine y_iconst X10.here hx (hb hby at_26) (v := (0 : Int32)) rfl (pc' := 27) rfl ?_
      refine y_iloadN X10.here hx (hb hby at_27) rfl (pc' := 28) rfl ?_
      refine y_iloadN X10.here hx (hb hby at_28) rfl (pc' := 29) rfl ?_
      exact kt)
  obtain ⟨v17, _, ⟨T17, L17, k17, n17⟩, -, X17, ⟨Lc17, hQ17, l17, y17, z17⟩, st17⟩ := Jvm.LawKit.callS X10 hx (y := (⟨"com/example/certline/certline/transport/BackoffNextPinLaw", "step", "(Lcom/example/certline/certline/transport/Backoff;III)Z"⟩ : MethodName)) hown (mvT hZ (hw _ (List.mem_of_getElem? (i := 13) rfl))) (mvT hZ (hw _ (List.mem_of_getElem? (i := 14) rfl))) (mvT hZ (hw _ (List.mem_of_getElem? (i := 15) rfl))) (mvT hZ (hw _ (List.mem_of_getElem? (i := 16) rfl))) (by decide) (backOf (W := 1) (rm3 l Z a0 hw [] b5 (0 : Int32) x1 x3 (100000000 : Int64) h10 n0 O15 S_FIRST_NANOS S_LIMIT_NANOS f13 p10_0 G7) hZ (hw _ (List.mem_of_getElem? (i := 16) rfl)) (hw _ (List.mem_of_getElem? (i := 15) rfl)) (by decide) (by decide)) (g := (mkF m 29 #[iv pi0, iv pi1, iv x1, iv x3, rv b5, iv (1 : Int32)] [(.int x3), (.int x1), (.int (0 : Int32)), (.ref b5), (.int (1 : Int32))])) rfl (by rw [hml]; rfl) (argsL := [(.ref b5), (.int (0 : Int32)), (.int x1), (.int x3)]) (rest := [(.int (1 : Int32))]) (lenOf pd__Lcom_example_certline_certline_transport_Backoff_III_Z rfl) rfl (by show 2 * 0 + _ ≤ _; exact Nat.le_of_eq rfl) (hb hby at_29) (fun _ _ => ⟨rfl, eh10, (by decide : 1 + 0 ≤ _), (by decide : 1 + 0 ≤ _)⟩)
  dsimp only [Pt.U, Pt.locs, Pt.cells, Pt.slots] at X17 l17 y17 z17 st17 hQ17
  subst l17 y17 z17
  obtain ⟨hv17, N17q, K17q, p17_0⟩ := hQ17
  have N18 := Fr.app N11 N17q
  have hw17 := hv17
  obtain ⟨x19, hx19⟩ : ∃ z : Int32, z = (fr3 (0 : Int32) x1 x3 (100000000 : Int64)) := ⟨_, rfl⟩
  rw [← hx19] at hw17
  subst hw17
  have pre20 : ∀ t, Steps p.tables e below (T17.setTop (mkF m 32 #[iv pi0, iv pi1, iv x1, iv x3, rv b5, iv (1 : Int32)] [(.int x19), (.int (1 : Int32))])) t → Go t := fun t kt => pre16 t (st17 t kt)
  obtain ⟨h17, eh17⟩ : ∃ z, T17.heap = z := ⟨_, rfl⟩
  rw [eh17] at K17q p17_0
  have f21 : Exa Z h17 b5 "com/example/certline/certline/transport/Backoff" := (f13.keep K17q)
  obtain ⟨x23, hx23⟩ : ∃ z : Int64, z = (fp3_next (0 : Int32) x1 x3 (100000000 : Int64)) := ⟨_, rfl⟩
  rw [← hx23] at p17_0
  have O24 := O15.keep K17q (allS G7 all0)
  obtain ⟨x25, hx25⟩ : ∃ z : Int32, z = ((1 : Int32) &&& x19) := ⟨_, rfl⟩
  have pre26 : ∀ t, Steps p.tables e below (T17.setTop (mkF m 35 #[iv pi0, iv pi1, iv x1, iv x3, rv b5, iv x25] [])) t → Go t := fun t kt => pre20 t (by
      subst hx25
      refine y_iand X17.here hx (hb hby at_32) rfl (pc' := 33) rfl ?_
      refine y_istore X17.here hx (hb hby at_33) (l' := #[iv pi0, iv pi1, iv x1, iv x3, rv b5, iv ((1 : Int32) &&& x19)]) rfl (pc' := 35) rfl ?_
      exact kt)
  have pre27 : ∀ t, Steps p.tables e below (T17.setTop (mkF m 42 #[iv pi0, iv pi1, iv x1, iv x3, rv b5, iv x25] [(.int x3), (.int x1), (.int (1 : Int32)), (.ref b5), (.int x25)])) t → Go t := fun t kt => pre26 t (by
      refine y_iload X17.here hx (hb hby at_35) rfl (pc' := 37) rfl ?_
      refine y_aload X17.here hx (hb hby at_37) rfl rfl (pc' := 39) rfl ?_
      refine y_iconst X17.here hx (hb hby at_39) (v := (1 : Int32)) rfl (pc' := 40) rfl ?_
      refine y_iloadN X17.here hx (hb hby at_40) rfl (pc' := 41) rfl ?_
      refine y_iloadN X17.here hx (hb hby at_41) rfl (pc' := 42) rfl ?_
      exact kt)
  obtain ⟨v28, _, ⟨T28, L28, k28, n28⟩, -, X28, ⟨Lc28, hQ28, l28, y28, z28⟩, st28⟩ := Jvm.LawKit.callS X17 hx (y := (⟨"com/example/certline/certline/transport/BackoffNextPinLaw", "step", "(Lcom/example/certline/certline/transport/Backoff;III)Z"⟩ : MethodName)) hown (mvT hZ (hw _ (List.mem_of_getElem? (i := 13) rfl))) (mvT hZ (hw _ (List.mem_of_getElem? (i := 14) rfl))) (mvT hZ (hw _ (List.mem_of_getElem? (i := 15) rfl))) (mvT hZ (hw _ (List.mem_of_getElem? (i := 16) rfl))) (by decide) (backOf (W := 1) (rm3 l Z a0 hw [] b5 (1 : Int32) x1 x3 x23 h17 n0 O24 S_FIRST_NANOS S_LIMIT_NANOS f21 p17_0 G7) hZ (hw _ (List.mem_of_getElem? (i := 16) rfl)) (hw _ (List.mem_of_getElem? (i := 15) rfl)) (by decide) (by decide)) (g := (mkF m 42 #[iv pi0, iv pi1, iv x1, iv x3, rv b5, iv x25] [(.int x3), (.int x1), (.int (1 : Int32)), (.ref b5), (.int x25)])) rfl (by rw [hml]; rfl) (argsL := [(.ref b5), (.int (1 : Int32)), (.int x1), (.int x3)]) (rest := [(.int x25)]) (lenOf pd__Lcom_example_certline_certline_transport_Backoff_III_Z rfl) rfl (by show 2 * 0 + _ ≤ _; exact Nat.le_of_eq rfl) (hb hby at_42) (fun _ _ => ⟨rfl, eh17, (by decide : 1 + 0 ≤ _), (by decide : 1 + 0 ≤ _)⟩)
  dsimp only [Pt.U, Pt.locs, Pt.cells, Pt.slots] at X28 l28 y28 z28 st28 hQ28
  subst l28 y28 z28
  obtain ⟨hv28, N28q, K28q, p28_0⟩ := hQ28
  have N29 := Fr.app N18 N28q
  have hw28 := hv28
  obtain ⟨x30, hx30⟩ : ∃ z : Int32, z = (fr3 (1 : Int32) x1 x3 x23) := ⟨_, rfl⟩
  rw [← hx30] at hw28
  subst hw28
  have pre31 : ∀ t, Steps p.tables e below (T28.setTop (mkF m 45 #[iv pi0, iv pi1, iv x1, iv x3, rv b5, iv x25] [(.int x30), (.int x25)])) t → Go t := fun t kt => pre27 t (st28 t kt)
  obtain ⟨h28, eh28⟩ : ∃ z, T28.heap = z := ⟨_, rfl⟩
  rw [eh28] at K28q p28_0
  have f32 : Exa Z h28 b5 "com/example/certline/certline/transport/Backoff" := (f21.keep K28q)
  obtain ⟨x34, hx34⟩ : ∃ z : Int64, z = (fp3_next (1 : Int32) x1 x3 x23) := ⟨_, rfl⟩
  rw [← hx34] at p28_0
  have O35 := O24.keep K28q (allS G7 all0)
  obtain ⟨x36, hx36⟩ : ∃ z : Int32, z = (x25 &&& x30) := ⟨_, rfl⟩
  have pre37 : ∀ t, Steps p.tables e below (T28.setTop (mkF m 48 #[iv pi0, iv pi1, iv x1, iv x3, rv b5, iv x36] [])) t → Go t := fun t kt => pre31 t (by
      subst hx36
      refine y_iand X28.here hx (hb hby at_45) rfl (pc' := 46) rfl ?_
      refine y_istore X28.here hx (hb hby at_46) (l' := #[iv pi0, iv pi1, iv x1, iv x3, rv b5, iv (x25 &&& x30)]) rfl (pc' := 48) rfl ?_
      exact kt)
  have pre38 : ∀ t, Steps p.tables e below (T28.setTop (mkF m 55 #[iv pi0, iv pi1, iv x1, iv x3, rv b5, iv x36] [(.int x3), (.int x1), (.int (2 : Int32)), (.ref b5), (.int x36)])) t → Go t := fun t kt => pre37 t (by
      refine y_iload X28.here hx (hb hby at_48) rfl (pc' := 50) rfl ?_
      refine y_aload X28.here hx (hb hby at_50) rfl rfl (pc' := 52) rfl ?_
      refine y_iconst X28.here hx (hb hby at_52) (v := (2 : Int32)) rfl (pc' := 53) rfl ?_
      refine y_iloadN X28.here hx (hb hby at_53) rfl (pc' := 54) rfl ?_
      refine y_iloadN X28.here hx (hb hby at_54) rfl (pc' := 55) rfl ?_
      exact kt)
  obtain ⟨v39, _, ⟨T39, L39, k39, n39⟩, -, X39, ⟨Lc39, hQ39, l39, y39, z39⟩, st39⟩ := Jvm.LawKit.callS X28 hx (y := (⟨"com/example/certline/certline/transport/BackoffNextPinLaw", "step", "(Lcom/example/certline/certline/transport/Backoff;III)Z"⟩ : MethodName)) hown (mvT hZ (hw _ (List.mem_of_getElem? (i := 13) rfl))) (mvT hZ (hw _ (List.mem_of_getElem? (i := 14) rfl))) (mvT hZ (hw _ (List.mem_of_getElem? (i := 15) rfl))) (mvT hZ (hw _ (List.mem_of_getElem? (i := 16) rfl))) (by decide) (backOf (W := 1) (rm3 l Z a0 hw [] b5 (2 : Int32) x1 x3 x34 h28 n0 O35 S_FIRST_NANOS S_LIMIT_NANOS f32 p28_0 G7) hZ (hw _ (List.mem_of_getElem? (i := 16) rfl)) (hw _ (List.mem_of_getElem? (i := 15) rfl)) (by decide) (by decide)) (g := (mkF m 55 #[iv pi0, iv pi1, iv x1, iv x3, rv b5, iv x36] [(.int x3), (.int x1), (.int (2 : Int32)), (.ref b5), (.int x36)])) rfl (by rw [hml]; rfl) (argsL := [(.ref b5), (.int (2 : Int32)), (.int x1), (.int x3)]) (rest := [(.int x36)]) (lenOf pd__Lcom_example_certline_certline_transport_Backoff_III_Z rfl) rfl (by show 2 * 0 + _ ≤ _; exact Nat.le_of_eq rfl) (hb hby at_55) (fun _ _ => ⟨rfl, eh28, (by decide : 1 + 0 ≤ _), (by decide : 1 + 0 ≤ _)⟩)
  dsimp only [Pt.U, Pt.locs, Pt.cells, Pt.slots] at X39 l39 y39 z39 st39 hQ39
  subst l39 y39 z39
  obtain ⟨hv39, N39q, K39q, p39_0⟩ := hQ39
  have N40 := Fr.app N29 N39q
  have hw39 := hv39
  obtain ⟨x41, hx41⟩ : ∃ z : Int32, z = (fr3 (2 : Int32) x1 x3 x34) := ⟨_, rfl⟩
  rw [← hx41] at hw39
  subst hw39
  have pre42 : ∀ t, Steps p.tables e below (T39.setTop (mkF m 58 #[iv pi0, iv pi1, iv x1, iv x3, rv b5, iv x36] [(.int x41), (.int x36)])) t → Go t := fun t kt => pre38 t (st39 t kt)
  obtain ⟨h39, eh39⟩ : ∃ z, T39.heap = z := ⟨_, rfl⟩
  rw [eh39] at K39q p39_0
  have f43 : Exa Z h39 b5 "com/example/certline/certline/transport/Backoff" := (f32.keep K39q)
  obtain ⟨x45, hx45⟩ : ∃ z : Int64, z = (fp3_next (2 : Int32) x1 x3 x34) := ⟨_, rfl⟩
  rw [← hx45] at p39_0
  have O46 := O35.keep K39q (allS G7 all0)
  obtain ⟨x47, hx47⟩ : ∃ z : Int32, z = (x36 &&& x41) := ⟨_, rfl⟩
  have pre48 : ∀ t, Steps p.tables e below (T39.setTop (mkF m 61 #[iv pi0, iv pi1, iv x1, iv x3, rv b5, iv x47] [])) t → Go t := fun t kt => pre42 t (by
      subst hx47
      refine y_iand X39.here hx (hb hby at_58) rfl (pc' := 59) rfl ?_
      refine y_istore X39.here hx (hb hby at_59) (l' := #[iv pi0, iv pi1, iv x1, iv x3, rv b5, iv (x36 &&& x41)]) rfl (pc' := 61) rfl ?_
      exact kt)
  have pre49 : ∀ t, Steps p.tables e below (T39.setTop (mkF m 68 #[iv pi0, iv pi1, iv x1, iv x3, rv b5, iv x47] [(.int x3), (.int x1), (.int (3 : Int32)), (.ref b5), (.int x47)])) t → Go t := fun t kt => pre48 t (by
      refine y_iload X39.here hx (hb hby at_61) rfl (pc' := 63) rfl ?_
      refine y_aload X39.here hx (hb hby at_63) rfl rfl (pc' := 65) rfl ?_
      refine y_iconst X39.here hx (hb hby at_65) (v := (3 : Int32)) rfl (pc' := 66) rfl ?_
      refine y_iloadN X39.here hx (hb hby at_66) rfl (pc' := 67) rfl ?_
      refine y_iloadN X39.here hx (hb hby at_67) rfl (pc' := 68) rfl ?_
      exact kt)
  obtain ⟨v50, _, ⟨T50, L50, k50, n50⟩, -, X50, ⟨Lc50, hQ50, l50, y50, z50⟩, st50⟩ := Jvm.LawKit.callS X39 hx (y := (⟨"com/example/certline/certline/transport/BackoffNextPinLaw", "step", "(Lcom/example/certline/certline/transport/Backoff;III)Z"⟩ : MethodName)) hown (mvT hZ (hw _ (List.mem_of_getElem? (i := 13) rfl))) (mvT hZ (hw _ (List.mem_of_getElem? (i := 14) rfl))) (mvT hZ (hw _ (List.mem_of_getElem? (i := 15) rfl))) (mvT hZ (hw _ (List.mem_of_getElem? (i := 16) rfl))) (by decide) (backOf (W := 1) (rm3 l Z a0 hw [] b5 (3 : Int32) x1 x3 x45 h39 n0 O46 S_FIRST_NANOS S_LIMIT_NANOS f43 p39_0 G7) hZ (hw _ (List.mem_of_getElem? (i := 16) rfl)) (hw _ (List.mem_of_getElem? (i := 15) rfl)) (by decide) (by decide)) (g := (mkF m 68 #[iv pi0, iv pi1, iv x1, iv x3, rv b5, iv x47] [(.int x3), (.int x1), (.int (3 : Int32)), (.ref b5), (.int x47)])) rfl (by rw [hml]; rfl) (argsL := [(.ref b5), (.int (3 : Int32)), (.int x1), (.int x3)]) (rest := [(.int x47)]) (lenOf pd__Lcom_example_certline_certline_transport_Backoff_III_Z rfl) rfl (by show 2 * 0 + _ ≤ _; exact Nat.le_of_eq rfl) (hb hby at_68) (fun _ _ => ⟨rfl, eh39, (by decide : 1 + 0 ≤ _), (by decide : 1 + 0 ≤ _)⟩)
  dsimp only [Pt.U, Pt.locs, Pt.cells, Pt.slots] at X50 l50 y50 z50 st50 hQ50
  subst l50 y50 z50
  obtain ⟨hv50, N50q, K50q, p50_0⟩ := hQ50
  have N51 := Fr.app N40 N50q
  have hw50 := hv50
  obtain ⟨x52, hx52⟩ : ∃ z : Int32, z = (fr3 (3 : Int32) x1 x3 x45) := ⟨_, rfl⟩
  rw [← hx52] at hw50
  subst hw50
  have pre53 : ∀ t, Steps p.tables e below (T50.setTop (mkF m 71 #[iv pi0, iv pi1, iv x1, iv x3, rv b5, iv x47] [(.int x52), (.int x47)])) t → Go t := fun t kt => pre49 t (st50 t kt)
  obtain ⟨h50, eh50⟩ : ∃ z, T50.heap = z := ⟨_, rfl⟩
  rw [eh50] at K50q p50_0
  have f54 : Exa Z h50 b5 "com/example/certline/certline/transport/Backoff" := (f43.keep K50q)
  obtain ⟨x56, hx56⟩ : ∃ z : Int64, z = (fp3_next (3 : Int32) x1 x3 x45) := ⟨_, rfl⟩
  rw [← hx56] at p50_0
  have O57 := O46.keep K50q (allS G7 all0)
  obtain ⟨x58, hx58⟩ : ∃ z : Int32, z = (x47 &&& x52) := ⟨_, rfl⟩
  have pre59 : ∀ t, Steps p.tables e below (T50.setTop (mkF m 74 #[iv pi0, iv pi1, iv x1, iv x3, rv b5, iv x58] [])) t → Go t := fun t kt => pre53 t (by
      subst hx58
      refine y_iand X50.here hx (hb hby at_71) rfl (pc' := 72) rfl ?_
      refine y_istore X50.here hx (hb hby at_72) (l' := #[iv pi0, iv pi1, iv x1, iv x3, rv b5, iv (x47 &&& x52)]) rfl (pc' := 74) rfl ?_
      exact kt)
  have pre60 : ∀ t, Steps p.tables e below (T50.setTop (mkF m 81 #[iv pi0, iv pi1, iv x1, iv x3, rv b5, iv x58] [(.int x3), (.int x1), (.int (4 : Int32)), (.ref b5), (.int x58)])) t → Go t := fun t kt => pre59 t (by
      refine y_iload X50.here hx (hb hby at_74) rfl (pc' := 76) rfl ?_
      refine y_aload X50.here hx (hb hby at_76) rfl rfl (pc' := 78) rfl ?_
      refine y_iconst X50.here hx (hb hby at_78) (v := (4 : Int32)) rfl (pc' := 79) rfl ?_
      refine y_iloadN X50.here hx (hb hby at_79) rfl (pc' := 80) rfl ?_
      refine y_iloadN X50.here hx (hb hby at_80) rfl (pc' := 81) rfl ?_
      exact kt)
  obtain ⟨v61, _, ⟨T61, L61, k61, n61⟩, -, X61, ⟨Lc61, hQ61, l61, y61, z61⟩, st61⟩ := Jvm.LawKit.callS X50 hx (y := (⟨"com/example/certline/certline/transport/BackoffNextPinLaw", "step", "(Lcom/example/certline/certline/transport/Backoff;III)Z"⟩ : MethodName)) hown (mvT hZ (hw _ (List.mem_of_getElem? (i := 13) rfl))) (mvT hZ (hw _ (List.mem_of_getElem? (i := 14) rfl))) (mvT hZ (hw _ (List.mem_of_getElem? (i := 15) rfl))) (mvT hZ (hw _ (List.mem_of_getElem? (i := 16) rfl))) (by decide) (backOf (W := 1) (rm3 l Z a0 hw [] b5 (4 : Int32) x1 x3 x56 h50 n0 O57 S_FIRST_NANOS S_LIMIT_NANOS f54 p50_0 G7) hZ (hw _ (List.mem_of_getElem? (i := 16) rfl)) (hw _ (List.mem_of_getElem? (i := 15) rfl)) (by decide) (by decide)) (g := (mkF m 81 #[iv pi0, iv pi1, iv x1, iv x3, rv b5, iv x58] [(.int x3), (.int x1), (.int (4 : Int32)), (.ref b5), (.int x58)])) rfl (by rw [hml]; rfl) (argsL := [(.ref b5), (.int (4 : Int32)), (.int x1), (.int x3)]) (rest := [(.int x58)]) (lenOf pd__Lcom_example_certline_certline_transport_Backoff_III_Z rfl) rfl (by show 2 * 0 + _ ≤ _; exact Nat.le_of_eq rfl) (hb hby at_81) (fun _ _ => ⟨rfl, eh50, (by decide : 1 + 0 ≤ _), (by decide : 1 + 0 ≤ _)⟩)
  dsimp only [Pt.U, Pt.locs, Pt.cells, Pt.slots] at X61 l61 y61 z61 st61 hQ61
  subst l61 y61 z61
  obtain ⟨hv61, N61q, K61q, p61_0⟩ := hQ61
  have N62 := Fr.app N51 N61q
  have hw61 := hv61
  obtain ⟨x63, hx63⟩ : ∃ z : Int32, z = (fr3 (4 : Int32) x1 x3 x56) := ⟨_, rfl⟩
  rw [← hx63] at hw61
  subst hw61
  have pre64 : ∀ t, Steps p.tables e below (T61.setTop (mkF m 84 #[iv pi0, iv pi1, iv x1, iv x3, rv b5, iv x58] [(.int x63), (.int x58)])) t → Go t := fun t kt => pre60 t (st61 t kt)
  obtain ⟨h61, eh61⟩ : ∃ z, T61.heap = z := ⟨_, rfl⟩
  rw [eh61] at K61q p61_0
  have f65 : Exa Z h61 b5 "com/example/certline/certline/transport/Backoff" := (f54.keep K61q)
  obtain ⟨x67, hx67⟩ : ∃ z : Int64, z = (fp3_next (4 : Int32) x1 x3 x56) := ⟨_, rfl⟩
  rw [← hx67] at p61_0
  have O68 := O57.keep K61q (allS G7 all0)
  obtain ⟨x69, hx69⟩ : ∃ z : Int32, z = (x58 &&& x63) := ⟨_, rfl⟩
  have pre70 : ∀ t, Steps p.tables e below (T61.setTop (mkF m 87 #[iv pi0, iv pi1, iv x1, iv x3, rv b5, iv x69] [])) t → Go t := fun t kt => pre64 t (by
      subst hx69
      refine y_iand X61.here hx (hb hby at_84) rfl (pc' := 85) rfl ?_
      refine y_istore X61.here hx (hb hby at_85) (l' := #[iv pi0, iv pi1, iv x1, iv x3, rv b5, iv (x58 &&& x63)]) rfl (pc' := 87) rfl ?_
      exact kt)
  have pre71 : ∀ t, Steps p.tables e below (T61.setTop (mkF m 94 #[iv pi0, iv pi1, iv x1, iv x3, rv b5, iv x69] [(.int x3), (.int x1), (.int (5 : Int32)), (.ref b5), (.int x69)])) t → Go t := fun t kt => pre70 t (by
      refine y_iload X61.here hx (hb hby at_87) rfl (pc' := 89) rfl ?_
      refine y_aload X61.here hx (hb hby at_89) rfl rfl (pc' := 91) rfl ?_
      refine y_iconst X61.here hx (hb hby at_91) (v := (5 : Int32)) rfl (pc' := 92) rfl ?_
      refine y_iloadN X61.here hx (hb hby at_92) rfl (pc' := 93) rfl ?_
      refine y_iloadN X61.here hx (hb hby at_93) rfl (pc' := 94) rfl ?_
      exact kt)
  obtain ⟨v72, _, ⟨T72, L72, k72, n72⟩, -, X72, ⟨Lc72, hQ72, l72, y72, z72⟩, st72⟩ := Jvm.LawKit.callS X61 hx (y := (⟨"com/example/certline/certline/transport/BackoffNextPinLaw", "step", "(Lcom/example/certline/certline/transport/Backoff;III)Z"⟩ : MethodName)) hown (mvT hZ (hw _ (List.mem_of_getElem? (i := 13) rfl))) (mvT hZ (hw _ (List.mem_of_getElem? (i := 14) rfl))) (mvT hZ (hw _ (List.mem_of_getElem? (i := 15) rfl))) (mvT hZ (hw _ (List.mem_of_getElem? (i := 16) rfl))) (by decide) (backOf (W := 1) (rm3 l Z a0 hw [] b5 (5 : Int32) x1 x3 x67 h61 n0 O68 S_FIRST_NANOS S_LIMIT_NANOS f65 p61_0 G7) hZ (hw _ (List.mem_of_getElem? (i := 16) rfl)) (hw _ (List.mem_of_getElem? (i := 15) rfl)) (by decide) (by decide)) (g := (mkF m 94 #[iv pi0, iv pi1, iv x1, iv x3, rv b5, iv x69] [(.int x3), (.int x1), (.int (5 : Int32)), (.ref b5), (.int x69)])) rfl (by rw [hml]; rfl) (argsL := [(.ref b5), (.int (5 : Int32)), (.int x1), (.int x3)]) (rest := [(.int x69)]) (lenOf pd__Lcom_example_certline_certline_transport_Backoff_III_Z rfl) rfl (by show 2 * 0 + _ ≤ _; exact Nat.le_of_eq rfl) (hb hby at_94) (fun _ _ => ⟨rfl, eh61, (by decide : 1 + 0 ≤ _), (by decide : 1 + 0 ≤ _)⟩)
  dsimp only [Pt.U, Pt.locs, Pt.cells, Pt.slots] at X72 l72 y72 z72 st72 hQ72
  subst l72 y72 z72
  obtain ⟨hv72, N72q, K72q, p72_0⟩ := hQ72
  have N73 := Fr.app N62 N72q
  have hw72 := hv72
  obtain ⟨x74, hx74⟩ : ∃ z : Int32, z = (fr3 (5 : Int32) x1 x3 x67) := ⟨_, rfl⟩
  rw [← hx74] at hw72
  subst hw72
  have pre75 : ∀ t, Steps p.tables e below (T72.setTop (mkF m 97 #[iv pi0, iv pi1, iv x1, iv x3, rv b5, iv x69] [(.int x74), (.int x69)])) t → Go t := fun t kt => pre71 t (st72 t kt)
  obtain ⟨h72, eh72⟩ : ∃ z, T72.heap = z := ⟨_, rfl⟩
  rw [eh72] at K72q p72_0
  have f76 : Exa Z h72 b5 "com/example/certline/certline/transport/Backoff" := (f65.keep K72q)
  obtain ⟨x78, hx78⟩ : ∃ z : Int64, z = (fp3_next (5 : Int32) x1 x3 x67) := ⟨_, rfl⟩
  rw [← hx78] at p72_0
  have O79 := O68.keep K72q (allS G7 all0)
  obtain ⟨x80, hx80⟩ : ∃ z : Int32, z = (x69 &&& x74) := ⟨_, rfl⟩
  have pre81 : ∀ t, Steps p.tables e below (T72.setTop (mkF m 100 #[iv pi0, iv pi1, iv x1, iv x3, rv b5, iv x80] [])) t → Go t := fun t kt => pre75 t (by
      subst hx80
      refine y_iand X72.here hx (hb hby at_97) rfl (pc' := 98) rfl ?_
      refine y_istore X72.here hx (hb hby at_98) (l' := #[iv pi0, iv pi1, iv x1, iv x3, rv b5, iv (x69 &&& x74)]) rfl (pc' := 100) rfl ?_
      exact kt)
  have pre82 : ∀ t, Steps p.tables e below (T72.setTop (mkF m 108 #[iv pi0, iv pi1, iv x1, iv x3, rv b5, iv x80] [(.int x3), (.int x1), (.int (6 : Int32)), (.ref b5), (.int x80)])) t → Go t := fun t kt => pre81 t (by
      refine y_iload X72.here hx (hb hby at_100) rfl (pc' := 102) rfl ?_
      refine y_aload X72.here hx (hb hby at_102) rfl rfl (pc' := 104) rfl ?_
      refine y_bipush X72.here hx (hb hby at_104) (v := (6 : Int32)) rfl (pc' := 106) rfl ?_
      refine y_iloadN X72.here hx (hb hby at_106) rfl (pc' := 107) rfl ?_
      refine y_iloadN X72.here hx (hb hby at_107) rfl (pc' := 108) rfl ?_
      exact kt)
  obtain ⟨v83, _, ⟨T83, L83, k83, n83⟩, -, X83, ⟨Lc83, hQ83, l83, y83, z83⟩, st83⟩ := Jvm.LawKit.callS X72 hx (y := (⟨"com/example/certline/certline/transport/BackoffNextPinLaw", "step", "(Lcom/example/certline/certline/transport/Backoff;III)Z"⟩ : MethodName)) hown (mvT hZ (hw _ (List.mem_of_getElem? (i := 13) rfl))) (mvT hZ (hw _ (List.mem_of_getElem? (i := 14) rfl))) (mvT hZ (hw _ (List.mem_of_getElem? (i := 15) rfl))) (mvT hZ (hw _ (List.mem_of_getElem? (i := 16) rfl))) (by decide) (backOf (W := 1) (rm3 l Z a0 hw [] b5 (6 : Int32) x1 x3 x78 h72 n0 O79 S_FIRST_NANOS S_LIMIT_NANOS f76 p72_0 G7) hZ (hw _ (List.mem_of_getElem? (i := 16) rfl)) (hw _ (List.mem_of_getElem? (i := 15) rfl)) (by decide) (by decide)) (g := (mkF m 108 #[iv pi0, iv pi1, iv x1, iv x3, rv b5, iv x80] [(.int x3), (.int x1), (.int (6 : Int32)), (.ref b5), (.int x80)])) rfl (by rw [hml]; rfl) (argsL := [(.ref b5), (.int (6 : Int32)), (.int x1), (.int x3)]) (rest := [(.int x80)]) (lenOf pd__Lcom_example_certline_certline_transport_Backoff_III_Z rfl) rfl (by show 2 * 0 + _ ≤ _; exact Nat.le_of_eq rfl) (hb hby at_108) (fun _ _ => ⟨rfl, eh72, (by decide : 1 + 0 ≤ _), (by decide : 1 + 0 ≤ _)⟩)
  dsimp only [Pt.U, Pt.locs, Pt.cells, Pt.slots] at X83 l83 y83 z83 st83 hQ83
  subst l83 y83 z83
  obtain ⟨hv83, N83q, K83q, p83_0⟩ := hQ83
  have N84 := Fr.app N73 N83q
  have hw83 := hv83
  obtain ⟨x85, hx85⟩ : ∃ z : Int32, z = (fr3 (6 : Int32) x1 x3 x78) := ⟨_, rfl⟩
  rw [← hx85] at hw83
  subst hw83
  have pre86 : ∀ t, Steps p.tables e below (T83.setTop (mkF m 111 #[iv pi0, iv pi1, iv x1, iv x3, rv b5, iv x80] [(.int x85), (.int x80)])) t → Go t := fun t kt => pre82 t (st83 t kt)
  obtain ⟨h83, eh83⟩ : ∃ z, T83.heap = z := ⟨_, rfl⟩
  rw [eh83] at K83q p83_0
  have f87 : Exa Z h83 b5 "com/example/certline/certline/transport/Backoff" := (f76.keep K83q)
  obtain ⟨x89, hx89⟩ : ∃ z : Int64, z = (fp3_next (6 : Int32) x1 x3 x78) := ⟨_, rfl⟩
  rw [← hx89] at p83_0
  have O90 := O79.keep K83q (allS G7 all0)
  obtain ⟨x91, hx91⟩ : ∃ z : Int32, z = (x80 &&& x85) := ⟨_, rfl⟩
  have pre92 : ∀ t, Steps p.tables e below (T83.setTop (mkF m 114 #[iv pi0, iv pi1, iv x1, iv x3, rv b5, iv x91] [])) t → Go t := fun t kt => pre86 t (by
      subst hx91
      refine y_iand X83.here hx (hb hby at_111) rfl (pc' := 112) rfl ?_
      refine y_istore X83.here hx (hb hby at_112) (l' := #[iv pi0, iv pi1, iv x1, iv x3, rv b5, iv (x80 &&& x85)]) rfl (pc' := 114) rfl ?_
      exact kt)
  have pre93 : ∀ t, Steps p.tables e below (T83.setTop (mkF m 116 #[iv pi0, iv pi1, iv x1, iv x3, rv b5, iv x91] [(.int x91)])) t → Go t := fun t kt => pre92 t (by
      refine y_iload X83.here hx (hb hby at_114) rfl (pc' := 116) rfl ?_
      exact kt)
  obtain rfl : x91 = (1 : Int32) := by
      subst hx19 hx23 hx25 hx30 hx34 hx36 hx41 hx45 hx47 hx52 hx56 hx58 hx63 hx67 hx69 hx74 hx78 hx80 hx85 hx89 hx91
      show own_chain x1 x3 = 1
      obtain ⟨i, hi⟩ := own_and7 pi0
      obtain ⟨j, hj⟩ := own_and7 pi1
      rw [hx1, hx3, hi, hj]
      exact own_law0 i j
  obtain ⟨fs, hr, hrun, hended, hW, hsame⟩ := X83.leave (v := some (.int (1 : Int32))) (fun h => by rw [Bd.returns] at h; cases h)
  refine ⟨_, _, (hGo _).mp (pre93 _ ?_), hrun, hended, _, _, rfl, ?_, ⟨_, rfl⟩, hW, hsame.mono (by decide) (by decide)⟩
  · exact retN X83 hx (t := .boolean) Bd.returns (by simp) (hb hby at_116) hr
  · show Q0 Z pi0 pi1 h0 n0 _ T83.heap _
    rw [eh83]
    exact ⟨rfl, N84⟩
set_option maxRecDepth 65536 in
set_option maxHeartbeats 40000000 in
theorem comes_1 {Post : Tables → Env → Array Value → State → Outcome → State → Prop} (hpost : ∀ tb e args s v u, (limb_1_1.after args s (.returned v) u = true ∧ limb_1_2.after args s (.returned v) u = true ∧ True) → FrameEnd s (.returned v) u (Jvm.fieldLocs frame_1_writes args s ++ Jvm.arrayLocs frame_1_arrays args s ++ Jvm.staticLocs frame_1_statics s) 16 128 → Post tb e args s (.returned v) u) :
    ArmFor flags0 classFile x code maxLocals ret World_1 tables_1 room_1 Calls_1 rest_1 Pre_1 Post := by
  intro l hfl _ _ p e ha hc hk s m args below hf hA hF happ hP
  obtain ⟨hcalls, hrest, hpre⟩ := hP
  obtain ⟨-, -, -, hnamed, -, -, -, hat⟩ := (Spec.applies_iff hf).mp happ
  obtain ⟨hg, hn⟩ := and_e (Cond.before_iff.mp (show (Jvm.Cond.and given_1 narrow_1).before args s = true from hpre))
  obtain ⟨g0, gr0⟩ := and_e hg
  obtain ⟨g1, gr1⟩ := and_e gr0
  obtain ⟨w0, w1, rfl⟩ : ∃ w0 w1 : Value, args = #[w0, w1] := by
    have hs : args.size = 2 := by simpa [Cond.value, given_1] using g0
    obtain ⟨L⟩ := args
    match L, hs with
    | [w0, w1], _ => exact ⟨w0, w1, rfl⟩
  have hw := fun d (hd : d ∈ tables_1) => atoms_spec (ws := Jvm.Cond.code x code maxLocals ret :: tables_1) hat d (List.mem_cons_of_mem _ hd)
  have hfit : Fit s := fun {y c} hc i hi => by
    obtain ⟨ha, rfl⟩ := Array.getElem?_eq_some_iff.mp hc
    have q := List.all_eq_true.mp ((Array.all_eq_true_iff_forall_mem.mp hF) _ (Array.getElem_mem ha)) i (List.mem_range.mpr hi)
    simpa [Array.getElem?_eq_getElem hi] using q
  obtain ⟨i0, ei0⟩ := is_v g1
  obtain rfl : w0 = (.int i0) := Option.some.inj ei0
  obtain ⟨i1, ei1⟩ := is_v gr1
  obtain rfl : w1 = (.int i1) := Option.some.inj ei1
  obtain ⟨n0, nr0⟩ := and_e hn
  have S_FIRST_NANOS := Sta.start (own_eqL n0) (Or.inr ⟨(hw _ (List.mem_of_getElem? (i := 2) rfl)), (hw _ (List.mem_of_getElem? (i := 10) rfl))⟩)
  have S_LIMIT_NANOS := Sta.start (own_eqL nr0) (Or.inr ⟨(hw _ (List.mem_of_getElem? (i := 2) rfl)), (hw _ (List.mem_of_getElem? (i := 29) rfl))⟩)
  obtain ⟨n, o, h1, h2, h3, _, L, rfl, ⟨rfl, N⟩, hq⟩ := rm0 l s _ hw tables_1 i0 i1 s.heap s.heap.size (Old.start s) S_FIRST_NANOS S_LIMIT_NANOS p e ha hc hk s m _ below hf ((Spec.applies_iff_loose hf).mp happ).1 ⟨rfl, State.Warmed39.refl s, rfl⟩ trivial
  refine ⟨n, _, h1, h2, h3, hpost _ _ _ _ _ _ ⟨Cond.after_iff.mpr rfl, Cond.after_iff.mpr (eq_i res_at (Term.int_eval (1)) rfl), trivial⟩ ⟨hq.1, hq.2.1, (hq.2.2.sift fun y hy => Or.inr (N y hy)).mono (by decide) (by decide)⟩⟩
theorem main_1_1 : Claimed_1_1 := comes_1 fun _ _ _ _ _ _ h hF => ⟨h.1, hF⟩
theorem main_1_2 : Claimed_1_2 := comes_1 fun _ _ _ _ _ _ h hF => ⟨h.2.1, hF⟩
end Jvm.Pilot.@@N@@
namespace Jvm.Pilot.@@N@@
open Jvm Jvm.ClassFile Sem Op Lib Jvm.Free Jvm.Stand Jvm.Pilot.@@N@@.Jvm.D
/-! MADE BY PROGRAM (witnessworld.py) out of the Statement's table words and the real class files: 10 classes; the members and pool entries that the words name. The judged class is class 1, her method 3. -/
namespace start1
open Jvm.ClassFile
def u (s : String) : CpInfo := .utf8 (stringToUtf16 s)
/-- a pool by its gaps: so many unusable entries, then the entry; so many at the end -/
def gap : Nat → List CpInfo → List CpInfo
  | 0, r => r
  | n + 1, r => .unusable :: gap n r
def poolList (es : List (Nat × CpInfo)) (last : Nat) : List CpInfo := es.foldr (fun e r => gap e.1 (e.2 :: r)) (gap last [])
def pool (es : List (Nat × CpInfo)) (last : Nat) : Array CpInfo := ⟨poolList es last⟩
def fileOf (pool : Array CpInfo) (this : Nat) (attrs : Array Attribute := #[]) (ms : Array MethodInfo := #[]) (fl : Nat := 33) (sup : Nat := 0) (ifs : Array Nat := #[]) (fds : Array FieldInfo := #[]) : ClassFile where
  minorVersion := 0
  majorVersion := 65
  constantPool := pool
  accessFlags := fl
  thisClass := this
  superClass := sup
  interfaces := ifs
  fields := fds
  methods := ms
  attributes := attrs
def plain (name : String) (sup : Option ClassId) : Class where
  name := name
  kind := .ordinary
  loader := none
  accessFlags := 33
  super := sup
  interfaces := #[]
  cf := none
  fields := #[]
  methods := #[]
  instanceTypes := #[]
  staticTypes := #[]
  resolved := #[]
  callSites := []
  init := .initialized
  statics := none
  mirror := none

def pool0 : Array CpInfo := pool [(5, u "<init>"), (0, u "()V"), (1, .class_ 10), (1, u "java/lang/Object")] 113

def k0c0 : Code := { maxStack := 0, maxLocals := 1, code := object_method_1_code, exceptionTable := #[], attributes := #[] }
def k0m0 : Method := { name := "<init>", desc := "()V", sig := { parameters := [], returnType := none }, accessFlags := 1, code := some k0c0 }
/-- java/lang/Object -/
def k0 : Class := { plain "java/lang/Object" none with
  accessFlags := 33
  interfaces := #[]
  cf := some (fileOf pool0 8 #[] #[{ accessFlags := 1, nameIndex := 5, descriptorIndex := 6, attributes := #[] }] 33 0 #[] #[])
  fields := #[]
  methods := #[k0m0]
  instanceTypes := #[]
  staticTypes := #[]
  resolved := Array.replicate 124 none
  statics := none }

def pool1 : Array CpInfo := pool [(2, .class_ 4), (0, .nameAndType 5 6), (0, u "java/lang/Object"), (0, u "<init>"), (0, u "()V"), (0, .long 100000000), (1, .long 200000000), (1, .long 400000000), (1, .long 800000000), (1, .long 1000000000), (1, .methodref 18 19), (0, .class_ 20), (0, .nameAndType 21 6), (0, u "com/example/certline/certline/transport/Backoff"), (0, u "reset"), (0, .methodref 18 23), (0, .nameAndType 24 25), (0, u "next"), (0, u "()J"), (0, .methodref 27 28), (0, .class_ 29), (0, .nameAndType 30 31), (0, u "com/example/certline/certline/transport/BackoffNextPinLaw"), (0, u "expected"), (0, u "(I)J"), (0, .methodref 18 3), (0, .methodref 27 34), (0, .nameAndType 35 36), (0, u "step"), (0, u "(Lcom/example/certline/certline/transport/Backoff;III)Z"), (3, u "law"), (0, u "(II)Z")] 2

def k1m0 : Method := { name := "<init>", desc := "()V", sig := { parameters := [], returnType := none }, accessFlags := 1, code := none }
def k1c1 : Code := { maxStack := 2, maxLocals := 1, code := method_2_code, exceptionTable := #[], attributes := #[] }
def k1m1 : Method := { name := "expected", desc := "(I)J", sig := { parameters := [.int], returnType := some .long }, accessFlags := 10, code := some k1c1 }
def k1c2 : Code := { maxStack := 4, maxLocals := 6, code := method_3_code, exceptionTable := #[], attributes := #[] }
def k1m2 : Method := { name := "step", desc := "(Lcom/example/certline/certline/transport/Backoff;III)Z", sig := { parameters := [(.object "com/example/certline/certline/transport/Backoff"), .int, .int, .int], returnType := some .boolean }, accessFlags := 10, code := some k1c2 }
def k1c3 : Code := { maxStack := 5, maxLocals := 6, code := code, exceptionTable := #[], attributes := #[] }
def k1m3 : Method := { name := "law", desc := "(II)Z", sig := { parameters := [.int, .int], returnType := some .boolean }, accessFlags := 9, code := some k1c3 }
/-- com/example/certline/certline/transport/BackoffNextPinLaw -/
def k1 : Class := { plain "com/example/certline/certline/transport/BackoffNextPinLaw" (some 0) with
  accessFlags := 49
  interfaces := #[]
  cf := some (fileOf pool1 27 #[] #[{ accessFlags := 1, nameIndex := 5, descriptorIndex := 6, attributes := #[] }, { accessFlags := 10, nameIndex := 30, descriptorIndex := 31, attributes := #[] }, { accessFlags := 10, nameIndex := 35, descriptorIndex := 36, attributes := #[] }, { accessFlags := 9, nameIndex := 40, descriptorIndex := 41, attributes := #[] }] 49 2 #[] #[])
  fields := #[]
  methods := #[k1m0, k1m1, k1m2, k1m3]
  instanceTypes := #[]
  staticTypes := #[]
  resolved := Array.replicate 44 none
  statics := none }

def pool2 : Array CpInfo := pool [(1, .methodref 2 3), (0, .class_ 4), (0, .nameAndType 5 6), (0, u "java/lang/Object"), (0, u "<init>"), (0, u "()V"), (0, .fieldref 8 9), (0, .class_ 10), (0, .nameAndType 11 12), (0, u "com/example/certline/certline/transport/Backoff"), (0, u "FIRST_NANOS"), (0, u "J"), (0, .fieldref 8 14), (0, .nameAndType 15 12), (0, u "next"), (0, .long 2), (1, .fieldref 8 19), (0, .nameAndType 20 12), (0, u "LIMIT_NANOS"), (0, .methodref 22 23), (0, .class_ 24), (0, .nameAndType 25 26), (0, u "java/lang/Math"), (0, u "min"), (0, u "(JJ)J"), (17, u "()J"), (0, u "reset")] 3

def k2c0 : Code := { maxStack := 3, maxLocals := 1, code := prog_95_method_1_code, exceptionTable := #[], attributes := #[] }
def k2m0 : Method := { name := "<init>", desc := "()V", sig := { parameters := [], returnType := none }, accessFlags := 0, code := some k2c0 }
def k2c1 : Code := { maxStack := 5, maxLocals := 3, code := prog_95_method_2_code, exceptionTable := #[], attributes := #[] }
def k2m1 : Method := { name := "next", desc := "()J", sig := { parameters := [], returnType := some .long }, accessFlags := 0, code := some k2c1 }
def k2c2 : Code := { maxStack := 3, maxLocals := 1, code := prog_95_method_3_code, exceptionTable := #[], attributes := #[] }
def k2m2 : Method := { name := "reset", desc := "()V", sig := { parameters := [], returnType := none }, accessFlags := 0, code := some k2c2 }
/-- com/example/certline/certline/transport/Backoff -/
def k2 : Class := { plain "com/example/certline/certline/transport/Backoff" (some 0) with
  accessFlags := 48
  interfaces := #[]
  cf := some (fileOf pool2 8 #[] #[{ accessFlags := 0, nameIndex := 5, descriptorIndex := 6, attributes := #[] }, { accessFlags := 0, nameIndex := 15, descriptorIndex := 44, attributes := #[] }, { accessFlags := 0, nameIndex := 45, descriptorIndex := 6, attributes := #[] }] 48 2 #[] #[{ accessFlags := 24, nameIndex := 11, descriptorIndex := 12, attributes := #[] }, { accessFlags := 24, nameIndex := 20, descriptorIndex := 12, attributes := #[] }, { accessFlags := 2, nameIndex := 15, descriptorIndex := 12, attributes := #[] }])
  fields := #[{ name := "FIRST_NANOS", type := .long, accessFlags := 24, slot := 0, constantValue := 0 }, { name := "LIMIT_NANOS", type := .long, accessFlags := 24, slot := 1, constantValue := 0 }, { name := "next", type := .long, accessFlags := 2, slot := 0, constantValue := 0 }]
  methods := #[k2m0, k2m1, k2m2]
  instanceTypes := #[.long]
  staticTypes := #[.long, .long]
  resolved := Array.replicate 49 none
  statics := some 0 }

def pool3 : Array CpInfo := pool [(1, .class_ 2), (0, u "java/lang/Math"), (1, .class_ 6), (1, u "java/lang/Object"), (0, u "<init>"), (0, u "()V"), (89, .class_ 100), (1, u "java/lang/Math$RandomNumberGeneratorHolder"), (20, u "(JJ)J"), (50, u "negativeZeroFloatBits"), (0, u "J"), (2, u "negativeZeroDoubleBits"), (24, u "min"), (43, u "$assertionsDisabled"), (0, u "Z"), (91, u "twoToTheDoubleScaleDown"), (0, u "D"), (4, u "twoToTheDoubleScaleUp"), (9, u "E"), (3, u "PI"), (2, u "TAU"), (2, u "DEGREES_TO_RADIANS"), (0, u "RADIANS_TO_DEGREES")] 94

def k3m0 : Method := { name := "<init>", desc := "()V", sig := { parameters := [], returnType := none }, accessFlags := 2, code := none }
def k3c1 : Code := { maxStack := 4, maxLocals := 4, code := jdk_29_method_70_code, exceptionTable := #[], attributes := #[] }
def k3m1 : Method := { name := "min", desc := "(JJ)J", sig := { parameters := [.long, .long], returnType := some .long }, accessFlags := 9, code := some k3c1 }
/-- java/lang/Math -/
def k3 : Class := { plain "java/lang/Math" (some 0) with
  accessFlags := 49
  interfaces := #[]
  cf := some (fileOf pool3 1 #[.nestMembers #[98]] #[{ accessFlags := 2, nameIndex := 7, descriptorIndex := 8, attributes := #[] }, { accessFlags := 9, nameIndex := 201, descriptorIndex := 121, attributes := #[] }] 49 4 #[] #[{ accessFlags := 25, nameIndex := 354, descriptorIndex := 339, attributes := #[] }, { accessFlags := 25, nameIndex := 358, descriptorIndex := 339, attributes := #[] }, { accessFlags := 25, nameIndex := 361, descriptorIndex := 339, attributes := #[] }, { accessFlags := 26, nameIndex := 364, descriptorIndex := 339, attributes := #[] }, { accessFlags := 26, nameIndex := 365, descriptorIndex := 339, attributes := #[] }, { accessFlags := 26, nameIndex := 172, descriptorIndex := 173, attributes := #[] }, { accessFlags := 26, nameIndex := 176, descriptorIndex := 173, attributes := #[] }, { accessFlags := 8, nameIndex := 344, descriptorIndex := 339, attributes := #[] }, { accessFlags := 8, nameIndex := 338, descriptorIndex := 339, attributes := #[] }, { accessFlags := 4120, nameIndex := 245, descriptorIndex := 246, attributes := #[] }])
  fields := #[{ name := "E", type := .double, accessFlags := 25, slot := 0, constantValue := 0 }, { name := "PI", type := .double, accessFlags := 25, slot := 1, constantValue := 0 }, { name := "TAU", type := .double, accessFlags := 25, slot := 2, constantValue := 0 }, { name := "DEGREES_TO_RADIANS", type := .double, accessFlags := 26, slot := 3, constantValue := 0 }, { name := "RADIANS_TO_DEGREES", type := .double, accessFlags := 26, slot := 4, constantValue := 0 }, { name := "negativeZeroFloatBits", type := .long, accessFlags := 26, slot := 5, constantValue := 0 }, { name := "negativeZeroDoubleBits", type := .long, accessFlags := 26, slot := 6, constantValue := 0 }, { name := "twoToTheDoubleScaleUp", type := .double, accessFlags := 8, slot := 7, constantValue := 0 }, { name := "twoToTheDoubleScaleDown", type := .double, accessFlags := 8, slot := 8, constantValue := 0 }, { name := "$assertionsDisabled", type := .boolean, accessFlags := 4120, slot := 9, constantValue := 0 }]
  methods := #[k3m0, k3m1]
  instanceTypes := #[]
  staticTypes := #[.double, .double, .double, .double, .double, .long, .long, .double, .double, .boolean]
  resolved := Array.replicate 460 none
  statics := none }

def pool4 : Array CpInfo := pool [(1, u "java/lang/Cloneable"), (0, .class_ 1), (0, u "java/lang/Object"), (0, .class_ 3)] 3

/-- java/lang/Cloneable -/
def k4 : Class := { plain "java/lang/Cloneable" (some 0) with
  accessFlags := 1537
  interfaces := #[]
  cf := some (fileOf pool4 2 #[] #[] 1537 4 #[] #[])
  fields := #[]
  methods := #[]
  instanceTypes := #[]
  staticTypes := #[]
  resolved := Array.replicate 8 none
  statics := none }

def pool5 : Array CpInfo := pool [(1, u "java/io/Serializable"), (0, .class_ 1), (0, u "java/lang/Object"), (0, .class_ 3)] 3

/-- java/io/Serializable -/
def k5 : Class := { plain "java/io/Serializable" (some 0) with
  accessFlags := 1537
  interfaces := #[]
  cf := some (fileOf pool5 2 #[] #[] 1537 4 #[] #[])
  fields := #[]
  methods := #[]
  instanceTypes := #[]
  staticTypes := #[]
  resolved := Array.replicate 8 none
  statics := none }

/-- the primitive byte -/
def k6 : Class := { plain "byte" none with kind := .primitive 'B', accessFlags := 0x411 }
/-- [B -/
def k7 : Class := { plain "[B" (some 0) with kind := .array 6 .byte, interfaces := #[4, 5], accessFlags := 1041 }

/-- the primitive int -/
def k8 : Class := { plain "int" none with kind := .primitive 'I', accessFlags := 0x411 }
/-- [I -/
def k9 : Class := { plain "[I" (some 0) with kind := .array 8 .int, interfaces := #[4, 5], accessFlags := 1041 }

def heap : Heap := #[{ cls := 2, slots := #[.long 100000000, .long 1000000000], vm := .statics 2 }]
def classes : Array Class := #[k0, k1, k2, k3, k4, k5, k6, k7, k8, k9]
def interned : List (Array UInt16 × Addr) := []
def slotsUsed : Nat := 2
def theMethod : MethodId := ⟨1, 3⟩
def args0 : Array Value := #[.int 5, .int 3]
def aboutOver (below : List Frame) : State where
  vm := { classes := classes, interned := interned.toArray }
  heap := heap
  slotsUsed := slotsUsed
  threads := #[{ frames := .invoking theMethod args0 :: below }]
def below0 : List Frame := [.native { method := ⟨0, 0⟩, args := #[] }]
def about1 : State := aboutOver below0
def p0 : Program := .bare "" "" ""
def e0 : Env := launch0.env 0 0 0
theorem w_frames : about1.frames = Frame.invoking theMethod args0 :: below0 := rfl
set_option maxRecDepth 65536 in
theorem w_args : argsFit about1.vm theMethod args0 = true := by decide +kernel
set_option maxRecDepth 65536 in
theorem w_heap : heapFits about1 = true := by decide +kernel
set_option maxRecDepth 65536 in
theorem w_runnable : about1.curStatus? = some .runnable := by decide +kernel
set_option maxRecDepth 65536 in
theorem w_alone : about1.alone = true := by decide +kernel
set_option maxRecDepth 65536 in
theorem w_named : about1.methodNamed? x = some theMethod := by decide +kernel
set_option maxRecDepth 65536 in
theorem w_hears : about1.hears theMethod below0 = true := by decide +kernel
set_option maxRecDepth 65536 in
theorem w_ripe : about1.ripe theMethod args0 below0 = true := by decide +kernel
theorem w_running : about1.status = .running := rfl
set_option maxRecDepth 65536 in
theorem w_room : about1.hasRoom e0.platform room_1 = true :=
  launch0.hasRoom_least _ room_1 (by decide +kernel) (by decide +kernel) (by decide +kernel) (by decide +kernel) (by decide +kernel) (by decide +kernel)
theorem allAtoms_all (ts : List Jvm.Cond) (a : Array Jvm.Value) (st : Jvm.State) : (allAtoms ts).before a st = ts.all (fun c => c.before a st) := by
  induction ts with
  | nil => rfl
  | cons c t ih =>
    show (Jvm.Cond.and c (allAtoms t)).before a st = _
    rw [Jvm.Cond.before_and, ih, List.all_cons]
def words1 : List Jvm.Cond := Jvm.Cond.code x code maxLocals ret :: tables_1
/-- a 'code' word, met by the world's own term for the bytes: nothing is compared byte by byte -/
theorem code_word {y : MethodName} {bytes : ByteArray} {mx : Nat} {rt : Option FieldType} {a : Array Value} {s : State} {m : MethodId} {meth : Method} {c : Code} (h1 : s.methodNamed? y = some m) (h2 : s.vm.method? m = some meth) (h3 : meth.code = some c) (h4 : c.code = bytes)
    (h5 : (c.maxLocals == mx && c.exceptionTable.isEmpty && decide (c.maxStack ≤ mostOperands) && decide (meth.sig.returnType = rt) && !meth.locks && decide (parseMethodDescriptor y.desc = some meth.sig)) = true) : (Jvm.Cond.code y bytes mx rt).before a s = true := by
  simp only [Bool.and_eq_true, beq_iff_eq, Bool.not_eq_true', decide_eq_true_eq] at h5
  obtain ⟨⟨⟨⟨⟨g1, g2⟩, g3⟩, g4⟩, g5⟩, g6⟩ := h5
  simp [Cond.before, Cond.holds, Cond.value, h1, h2, h3, h4, g1, g2, g3, g4, g5, g6]
def isCode : Jvm.Cond → Bool
  | .code _ _ _ _ => true
  | _ => false
theorem all_split {L : List Jvm.Cond} {P : Jvm.Cond → Bool} (h1 : L.all (fun c => isCode c || P c) = true) (h2 : ∀ c ∈ L.filter isCode, P c = true) : L.all P = true := by
  refine List.all_eq_true.mpr fun c hc => ?_
  have h := List.all_eq_true.mp h1 c hc
  rcases Bool.eq_false_or_eq_true (isCode c) with hi | hi
  · exact h2 c (List.mem_filter.mpr ⟨hc, hi⟩)
  · simpa [hi] using h
set_option maxRecDepth 65536 in
theorem w_c0 : (Jvm.Cond.code x code maxLocals ret).before args0 about1 = true := code_word (m := ⟨1, 3⟩) (meth := k1m3) (c := k1c3) (by decide +kernel) rfl rfl rfl (by decide +kernel)
set_option maxRecDepth 65536 in
theorem w_c1 : (Jvm.Cond.code ({ cls := "com/example/certline/certline/transport/Backoff", name := "<init>", desc := "()V" } : Jvm.MethodName) prog_95_method_1_code (1 : Nat) (Option.none : Option Jvm.ClassFile.FieldType)).before args0 about1 = true := code_word (m := ⟨2, 0⟩) (meth := k2m0) (c := k2c0) (by decide +kernel) rfl rfl rfl (by decide +kernel)
set_option maxRecDepth 65536 in
theorem w_c2 : (Jvm.Cond.code ({ cls := "java/lang/Object", name := "<init>", desc := "()V" } : Jvm.MethodName) object_method_1_code (1 : Nat) (Option.none : Option Jvm.ClassFile.FieldType)).before args0 about1 = true := code_word (m := ⟨0, 0⟩) (meth := k0m0) (c := k0c0) (by decide +kernel) rfl rfl rfl (by decide +kernel)
set_option maxRecDepth 65536 in
theorem w_c3 : (Jvm.Cond.code ({ cls := "com/example/certline/certline/transport/BackoffNextPinLaw", name := "step", desc := "(Lcom/example/certline/certline/transport/Backoff;III)Z" } : Jvm.MethodName) method_3_code (6 : Nat) (Option.some Jvm.ClassFile.FieldType.boolean)).before args0 about1 = true := code_word (m := ⟨1, 2⟩) (meth := k1m2) (c := k1c2) (by decide +kernel) rfl rfl rfl (by decide +kernel)
set_option maxRecDepth 65536 in
theorem w_c4 : (Jvm.Cond.code ({ cls := "com/example/certline/certline/transport/Backoff", name := "reset", desc := "()V" } : Jvm.MethodName) prog_95_method_3_code (1 : Nat) (Option.none : Option Jvm.ClassFile.FieldType)).before args0 about1 = true := code_word (m := ⟨2, 2⟩) (meth := k2m2) (c := k2c2) (by decide +kernel) rfl rfl rfl (by decide +kernel)
set_option maxRecDepth 65536 in
theorem w_c5 : (Jvm.Cond.code ({ cls := "com/example/certline/certline/transport/Backoff", name := "next", desc := "()J" } : Jvm.MethodName) prog_95_method_2_code (3 : Nat) (Option.some Jvm.ClassFile.FieldType.long)).before args0 about1 = true := code_word (m := ⟨2, 1⟩) (meth := k2m1) (c := k2c1) (by decide +kernel) rfl rfl rfl (by decide +kernel)
set_option maxRecDepth 65536 in
theorem w_c6 : (Jvm.Cond.code ({ cls := "java/lang/Math", name := "min", desc := "(JJ)J" } : Jvm.MethodName) jdk_29_method_70_code (4 : Nat) (Option.some Jvm.ClassFile.FieldType.long)).before args0 about1 = true := code_word (m := ⟨3, 1⟩) (meth := k3m1) (c := k3c1) (by decide +kernel) rfl rfl rfl (by decide +kernel)
set_option maxRecDepth 65536 in
theorem w_c7 : (Jvm.Cond.code ({ cls := "com/example/certline/certline/transport/BackoffNextPinLaw", name := "expected", desc := "(I)J" } : Jvm.MethodName) method_2_code (1 : Nat) (Option.some Jvm.ClassFile.FieldType.long)).before args0 about1 = true := code_word (m := ⟨1, 1⟩) (meth := k1m1) (c := k1c1) (by decide +kernel) rfl rfl rfl (by decide +kernel)
def codes1 : List Jvm.Cond := [Jvm.Cond.code x code maxLocals ret, Jvm.Cond.code ({ cls := "com/example/certline/certline/transport/Backoff", name := "<init>", desc := "()V" } : Jvm.MethodName) prog_95_method_1_code (1 : Nat) (Option.none : Option Jvm.ClassFile.FieldType), Jvm.Cond.code ({ cls := "java/lang/Object", name := "<init>", desc := "()V" } : Jvm.MethodName) object_method_1_code (1 : Nat) (Option.none : Option Jvm.ClassFile.FieldType), Jvm.Cond.code ({ cls := "com/example/certline/certline/transport/BackoffNextPinLaw", name := "step", desc := "(Lcom/example/certline/certline/transport/Backoff;III)Z" } : Jvm.MethodName) method_3_code (6 : Nat) (Option.some Jvm.ClassFile.FieldType.boolean), Jvm.Cond.code ({ cls := "com/example/certline/certline/transport/Backoff", name := "reset", desc := "()V" } : Jvm.MethodName) prog_95_method_3_code (1 : Nat) (Option.none : Option Jvm.ClassFile.FieldType), Jvm.Cond.code ({ cls := "com/example/certline/certline/transport/Backoff", name := "next", desc := "()J" } : Jvm.MethodName) prog_95_method_2_code (3 : Nat) (Option.some Jvm.ClassFile.FieldType.long), Jvm.Cond.code ({ cls := "java/lang/Math", name := "min", desc := "(JJ)J" } : Jvm.MethodName) jdk_29_method_70_code (4 : Nat) (Option.some Jvm.ClassFile.FieldType.long), Jvm.Cond.code ({ cls := "com/example/certline/certline/transport/BackoffNextPinLaw", name := "expected", desc := "(I)J" } : Jvm.MethodName) method_2_code (1 : Nat) (Option.some Jvm.ClassFile.FieldType.long)]
set_option maxRecDepth 65536 in
theorem codes_eq : words1.filter isCode = codes1 := rfl
theorem w_codes : ∀ c ∈ words1.filter isCode, c.before args0 about1 = true := by
  rw [codes_eq]
  intro c hc
  simp only [codes1, List.mem_cons, List.not_mem_nil, or_false] at hc
  rcases hc with rfl | rfl | rfl | rfl | rfl | rfl | rfl | rfl
  · exact w_c0
  · exact w_c1
  · exact w_c2
  · exact w_c3
  · exact w_c4
  · exact w_c5
  · exact w_c6
  · exact w_c7
set_option maxRecDepth 65536 in
theorem w_t1 : (words1.take 24).all (fun c => isCode c || c.before args0 about1) = true := by decide +kernel
set_option maxRecDepth 65536 in
theorem w_t2 : (words1.drop 24).all (fun c => isCode c || c.before args0 about1) = true := by decide +kernel
theorem w_tables : (allAtoms (Jvm.Cond.code x code maxLocals ret :: tables_1)).before args0 about1 = true := by
  rw [allAtoms_all]
  show words1.all (fun c => c.before args0 about1) = true
  refine all_split ?_ w_codes
  rw [← List.take_append_drop 24 words1, List.all_append, w_t1, w_t2]
  rfl
set_option maxRecDepth 65536 in
theorem w_case : (Jvm.Cond.and given_1 narrow_1).before args0 about1 = true := by decide +kernel
theorem w_applies : (headSpec (Jvm.Cond.code x code maxLocals ret :: tables_1) room_1).applies x e0.platform about1 = true :=
  (Spec.applies_iff w_frames).mpr ⟨w_running, w_runnable, w_alone, w_named, w_hears, w_ripe, w_room, w_tables⟩
theorem atStart : AtStart classFile x code maxLocals ret World_1 tables_1 room_1 Calls_1 rest_1 Pre_1 launch0 p0 e0 about1 theMethod args0 below0 :=
  ⟨lists_1, trivial, launch0.admits_env _ _ _, launch0.least_env, fairChoices_fair.cas, fairChoices_fair.clock, w_frames, w_args, w_heap, w_applies, trivial, trivial, w_case⟩
end start1
theorem witness_1 : WitnessClaimed_1 := ⟨start1.p0, start1.e0, start1.about1, start1.theMethod, start1.args0, start1.below0, start1.atStart⟩
end Jvm.Pilot.@@N@@
