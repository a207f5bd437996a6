import JvmDerived
import JvmDerived.Pilot.@@N@@Statement
import JvmDerived.Pilot.@@N@@Code
set_option linter.unusedVariables false
set_option linter.unusedSimpArgs false
namespace Jvm.Pilot.@@N@@
open Jvm Jvm.ClassFile Sem Op Lib Jvm.Free Jvm.Stand Jvm.LawKit Jvm.RoadKit Bundle Jvm.Pilot.@@N@@.Jvm.D
/-- the run stands at T' as it stood at T: the heap is the same -/
def Nx {p : Program} {l : Launch} {e : Env} {R : Room} {s : State} {m : MethodId} {args : Array Value} {below : List Frame} {meth : Method} {c : Code} {T : State} {locs : List Loc} {cells slots : Nat} (X : Stand p l e R s m args below meth c T locs cells slots) (T' : State) : Prop := Stand p l e R s m args below meth c T' locs cells slots ∧ T'.heap = T.heap
theorem lq_eq {x y : Int64} (h : x = y) : lcmpW x y = 0 := (lcW x y).trans ((lc_eq x y).mpr h)
theorem lq_ne {x y : Int64} (h : ¬ x = y) : ¬ lcmpW x y = 0 := fun q => h ((lc_eq x y).mp ((lcW x y).symm.trans q))
theorem lq_lt {x y : Int64} (h : x < y) : lcmpW x y < 0 := by rw [lcW]; exact (lc_lt x y).mpr h
theorem lq_nlt {x y : Int64} (h : ¬ x < y) : ¬ lcmpW x y < 0 := by rw [lcW]; exact fun q => h ((lc_lt x y).mp q)
theorem lq_gt {x y : Int64} (h : y < x) : 0 < lcmpW x y := by rw [lcW]; exact (lc_gt x y).mpr h
theorem lq_ngt {x y : Int64} (h : ¬ y < x) : ¬ 0 < lcmpW x y := by rw [lcW]; exact fun q => h ((lc_gt x y).mp q)
theorem own_eqI {args : Array Value} {first s : State} {o : Option Outcome} {idx : List Nat} {t : Term} {k : Int32} (h : (Jvm.Cond.eq t (.int k)).value args first o s idx = some true) : t.eval args first o idx s = some (.int k) := by
  simp only [Cond.value, Term.eval] at h
  cases ht : t.eval args first o idx s with
  | none => simp [ht] at h
  | some x => cases x <;> simp [ht] at h ⊢; exact h
theorem own_eqL {args : Array Value} {first s : State} {o : Option Outcome} {idx : List Nat} {t : Term} {k : Int64} (h : (Jvm.Cond.eq t (.long k)).value args first o s idx = some true) : t.eval args first o idx s = some (.long k) := by
  simp only [Cond.value, Term.eval] at h
  cases ht : t.eval args first o idx s with
  | none => simp [ht] at h
  | some x => cases x <;> simp [ht] at h ⊢; exact h
abbrev jv (x : Int64) : Slot := .val (.long x)
theorem y_iloadN {tb : Tables} [Ours tb] {e : Env} {below : List Frame} {T target : State} {m : MethodId} {c : Code} (h : At T m c below) (hx : tb.exec = Jvm.exec) {pc pc' : Nat} {L : Array Slot} {S : List Value} {k : Fin 4} {v : Int32} (hd : decode c.code pc = .ok (.iload_n k, 1)) (hl : L[k.val]? = some (.val (.int v))) (hp : pc + 1 = pc') (hr : Steps tb e below (T.setTop (mkF m pc' L (.int v :: S))) target) : Steps tb e below (T.setTop (mkF m pc L S)) target := by subst hp; exact XS.iloadN h hx rfl hd hl hr
theorem y_lloadN {tb : Tables} [Ours tb] {e : Env} {below : List Frame} {T target : State} {m : MethodId} {c : Code} (h : At T m c below) (hx : tb.exec = Jvm.exec) {pc pc' : Nat} {L : Array Slot} {S : List Value} {k : Fin 4} {v : Int64} (hd : decode c.code pc = .ok (.lload_n k, 1)) (hl : L[k.val]? = some (.val (.long v))) (hp : pc + 1 = pc') (hr : Steps tb e below (T.setTop (mkF m pc' L (.long v :: S))) target) : Steps tb e below (T.setTop (mkF m pc L S)) target := by subst hp; exact XS.lloadN h hx rfl hd hl hr
theorem y_aloadN {tb : Tables} [Ours tb] {e : Env} {below : List Frame} {T target : State} {m : MethodId} {c : Code} (h : At T m c below) (hx : tb.exec = Jvm.exec) {pc pc' : Nat} {L : Array Slot} {S : List Value} {k : Fin 4} {v : Value} (hd : decode c.code pc = .ok (.aload_n k, 1)) (hl : L[k.val]? = some (.val v)) (hv : v.isRef = true) (hp : pc + 1 = pc') (hr : Steps tb e below (T.setTop (mkF m pc' L (v :: S))) target) : Steps tb e below (T.setTop (mkF m pc L S)) target := by subst hp; exact XS.aloadN h hx rfl hd hl hv hr
theorem y_istoreN {tb : Tables} [Ours tb] {e : Env} {below : List Frame} {T target : State} {m : MethodId} {c : Code} (h : At T m c below) (hx : tb.exec = Jvm.exec) {pc pc' : Nat} {L : Array Slot} {S : List Value} {k : Fin 4} {v : Int32} {l' : Array Slot} (hd : decode c.code pc = .ok (.istore_n k, 1)) (hl : storeLocals L k.val (.int v) = some l') (hp : pc + 1 = pc') (hr : Steps tb e below (T.setTop (mkF m pc' l' S)) target) : Steps tb e below (T.setTop (mkF m pc L (.int v :: S))) target := by subst hp; exact XS.istoreN h hx rfl hd rfl hl hr
theorem y_lstoreN {tb : Tables} [Ours tb] {e : Env} {below : List Frame} {T target : State} {m : MethodId} {c : Code} (h : At T m c below) (hx : tb.exec = Jvm.exec) {pc pc' : Nat} {L : Array Slot} {S : List Value} {k : Fin 4} {v : Int64} {l' : Array Slot} (hd : decode c.code pc = .ok (.lstore_n k, 1)) (hl : storeLocals L k.val (.long v) = some l') (hp : pc + 1 = pc') (hr : Steps tb e below (T.setTop (mkF m pc' l' S)) target) : Steps tb e below (T.setTop (mkF m pc L (.long v :: S))) target := by subst hp; exact XS.lstoreN h hx rfl hd rfl hl hr
theorem y_astoreN {tb : Tables} [Ours tb] {e : Env} {below : List Frame} {T target : State} {m : MethodId} {c : Code} (h : At T m c below) (hx : tb.exec = Jvm.exec) {pc pc' : Nat} {L : Array Slot} {S : List Value} {k : Fin 4} {v : Value} {l' : Array Slot} (hd : decode c.code pc = .ok (.astore_n k, 1)) (hv : v.isRef = true) (hl : storeLocals L k.val v = some l') (hp : pc + 1 = pc') (hr : Steps tb e below (T.setTop (mkF m pc' l' S)) target) : Steps tb e below (T.setTop (mkF m pc L (v :: S))) target := by subst hp; exact XS.astoreN h hx rfl hd rfl hv hl hr
theorem y_iload {tb : Tables} [Ours tb] {e : Env} {below : List Frame} {T target : State} {m : MethodId} {c : Code} (h : At T m c below) (hx : tb.exec = Jvm.exec) {pc pc' : Nat} {L : Array Slot} {S : List Value} {k : Nat} {v : Int32} (hd : decode c.code pc = .ok (.iload k, 2)) (hl : L[k]? = some (.val (.int v))) (hp : pc + 2 = pc') (hr : Steps tb e below (T.setTop (mkF m pc' L (.int v :: S))) target) : Steps tb e below (T.setTop (mkF m pc L S)) target := by subst hp; exact XS.iload h hx rfl hd hl hr
theorem y_lload {tb : Tables} [Ours tb] {e : Env} {below : List Frame} {T target : State} {m : MethodId} {c : Code} (h : At T m c below) (hx : tb.exec = Jvm.exec) {pc pc' : Nat} {L : Array Slot} {S : List Value} {k : Nat} {v : Int64} (hd : decode c.code pc = .ok (.lload k, 2)) (hl : L[k]? = some (.val (.long v))) (hp : pc + 2 = pc') (hr : Steps tb e below (T.setTop (mkF m pc' L (.long v :: S))) target) : Steps tb e below (T.setTop (mkF m pc L S)) target := by subst hp; exact XS.lload h hx rfl hd hl hr
theorem y_aload {tb : Tables} [Ours tb] {e : Env} {below : List Frame} {T target : State} {m : MethodId} {c : Code} (h : At T m c below) (hx : tb.exec = Jvm.exec) {pc pc' : Nat} {L : Array Slot} {S : List Value} {k : Nat} {v : Value} (hd : decode c.code pc = .ok (.aload k, 2)) (hl : L[k]? = some (.val v)) (hv : v.isRef = true) (hp : pc + 2 = pc') (hr : Steps tb e below (T.setTop (mkF m pc' L (v :: S))) target) : Steps tb e below (T.setTop (mkF m pc L S)) target := by subst hp; exact XS.aload h hx rfl hd hl hv hr
theorem y_istore {tb : Tables} [Ours tb] {e : Env} {below : List Frame} {T target : State} {m : MethodId} {c : Code} (h : At T m c below) (hx : tb.exec = Jvm.exec) {pc pc' : Nat} {L : Array Slot} {S : List Value} {k : Nat} {v : Int32} {l' : Array Slot} (hd : decode c.code pc = .ok (.istore k, 2)) (hl : storeLocals L k (.int v) = some l') (hp : pc + 2 = pc') (hr : Steps tb e below (T.setTop (mkF m pc' l' S)) target) : Steps tb e below (T.setTop (mkF m pc L (.int v :: S))) target := by subst hp; exact XS.istore h hx rfl hd rfl hl hr
theorem y_lstore {tb : Tables} [Ours tb] {e : Env} {below : List Frame} {T target : State} {m : MethodId} {c : Code} (h : At T m c below) (hx : tb.exec = Jvm.exec) {pc pc' : Nat} {L : Array Slot} {S : List Value} {k : Nat} {v : Int64} {l' : Array Slot} (hd : decode c.code pc = .ok (.lstore k, 2)) (hl : storeLocals L k (.long v) = some l') (hp : pc + 2 = pc') (hr : Steps tb e below (T.setTop (mkF m pc' l' S)) target) : Steps tb e below (T.setTop (mkF m pc L (.long v :: S))) target := by subst hp; exact XS.lstore h hx rfl hd rfl hl hr
theorem y_astore {tb : Tables} [Ours tb] {e : Env} {below : List Frame} {T target : State} {m : MethodId} {c : Code} (h : At T m c below) (hx : tb.exec = Jvm.exec) {pc pc' : Nat} {L : Array Slot} {S : List Value} {k : Nat} {v : Value} {l' : Array Slot} (hd : decode c.code pc = .ok (.astore k, 2)) (hv : v.isRef = true) (hl : storeLocals L k v = some l') (hp : pc + 2 = pc') (hr : Steps tb e below (T.setTop (mkF m pc' l' S)) target) : Steps tb e below (T.setTop (mkF m pc L (v :: S))) target := by subst hp; exact XS.astore h hx rfl hd rfl hv hl hr
theorem y_iconst {tb : Tables} [Ours tb] {e : Env} {below : List Frame} {T target : State} {m : MethodId} {c : Code} (h : At T m c below) (hx : tb.exec = Jvm.exec) {pc pc' : Nat} {L : Array Slot} {S : List Value} {i : Int} {v : Int32} (hd : decode c.code pc = .ok (.iconst i, 1)) (hv : Int32.ofInt i = v) (hp : pc + 1 = pc') (hr : Steps tb e below (T.setTop (mkF m pc' L (.int v :: S))) target) : Steps tb e below (T.setTop (mkF m pc L S)) target := by subst hp; exact XS.iconst h hx rfl hd (by rw [hv]; exact hr)
theorem y_bipush {tb : Tables} [Ours tb] {e : Env} {below : List Frame} {T target : State} {m : MethodId} {c : Code} (h : At T m c below) (hx : tb.exec = Jvm.exec) {pc pc' : Nat} {L : Array Slot} {S : List Value} {i : Int} {v : Int32} (hd : decode c.code pc = .ok (.bipush i, 2)) (hv : (Int8.ofInt i).toInt32 = v) (hp : pc + 2 = pc') (hr : Steps tb e below (T.setTop (mkF m pc' L (.int v :: S))) target) : Steps tb e below (T.setTop (mkF m pc L S)) target := by subst hp; exact XS.bipush h hx rfl hd (by rw [hv]; exact hr)
theorem y_sipush {tb : Tables} [Ours tb] {e : Env} {below : List Frame} {T target : State} {m : MethodId} {c : Code} (h : At T m c below) (hx : tb.exec = Jvm.exec) {pc pc' : Nat} {L : Array Slot} {S : List Value} {i : Int} {v : Int32} (hd : decode c.code pc = .ok (.sipush i, 3)) (hv : (Int16.ofInt i).toInt32 = v) (hp : pc + 3 = pc') (hr : Steps tb e below (T.setTop (mkF m pc' L (.int v :: S))) target) : Steps tb e below (T.setTop (mkF m pc L S)) target := by subst hp; exact XS.sipush h hx rfl hd (by rw [hv]; exact hr)
theorem y_lconst {tb : Tables} [Ours tb] {e : Env} {below : List Frame} {T target : State} {m : MethodId} {c : Code} (h : At T m c below) (hx : tb.exec = Jvm.exec) {pc pc' : Nat} {L : Array Slot} {S : List Value} {k : Fin 2} {v : Int64} (hd : decode c.code pc = .ok (.lconst k, 1)) (hv : Int64.ofNat k.val = v) (hp : pc + 1 = pc') (hr : Steps tb e below (T.setTop (mkF m pc' L (.long v :: S))) target) : Steps tb e below (T.setTop (mkF m pc L S)) target := by subst hp; exact XS.lconst h hx rfl hd (by first | exact hv ▸ hr | (rw [hv]; exact hr) | (subst hv; exact hr))
theorem y_aconstNull {tb : Tables} [Ours tb] {e : Env} {below : List Frame} {T target : State} {m : MethodId} {c : Code} (h : At T m c below) (hx : tb.exec = Jvm.exec) {pc pc' : Nat} {L : Array Slot} {S : List Value} (hd : decode c.code pc = .ok (.aconst_null, 1)) (hp : pc + 1 = pc') (hr : Steps tb e below (T.setTop (mkF m pc' L (.null :: S))) target) : Steps tb e below (T.setTop (mkF m pc L S)) target := by subst hp; exact XS.aconstNull h hx rfl hd hr
theorem y_iadd {tb : Tables} [Ours tb] {e : Env} {below : List Frame} {T target : State} {m : MethodId} {c : Code} (h : At T m c below) (hx : tb.exec = Jvm.exec) {pc pc' : Nat} {L : Array Slot} {S : List Value} {x y z : Int32} (hd : decode c.code pc = .ok (.iadd, 1)) (hz : x + y = z) (hp : pc + 1 = pc') (hr : Steps tb e below (T.setTop (mkF m pc' L (.int z :: S))) target) : Steps tb e below (T.setTop (mkF m pc L (.int y :: .int x :: S))) target := by subst hp; exact XS.iadd h hx rfl hd rfl (by rw [hz]; exact hr)
theorem y_isub {tb : Tables} [Ours tb] {e : Env} {below : List Frame} {T target : State} {m : MethodId} {c : Code} (h : At T m c below) (hx : tb.exec = Jvm.exec) {pc pc' : Nat} {L : Array Slot} {S : List Value} {x y z : Int32} (hd : decode c.code pc = .ok (.isub, 1)) (hz : x - y = z) (hp : pc + 1 = pc') (hr : Steps tb e below (T.setTop (mkF m pc' L (.int z :: S))) target) : Steps tb e below (T.setTop (mkF m pc L (.int y :: .int x :: S))) target := by subst hp; exact XS.isub h hx rfl hd rfl (by rw [hz]; exact hr)
theorem y_imul {tb : Tables} [Ours tb] {e : Env} {below : List Frame} {T target : State} {m : MethodId} {c : Code} (h : At T m c below) (hx : tb.exec = Jvm.exec) {pc pc' : Nat} {L : Array Slot} {S : List Value} {x y z : Int32} (hd : decode c.code pc = .ok (.imul, 1)) (hz : x * y = z) (hp : pc + 1 = pc') (hr : Steps tb e below (T.setTop (mkF m pc' L (.int z :: S))) target) : Steps tb e below (T.setTop (mkF m pc L (.int y :: .int x :: S))) target := by subst hp; exact XS.imul h hx rfl hd rfl (by rw [hz]; exact hr)
theorem y_iand {tb : Tables} [Ours tb] {e : Env} {below : List Frame} {T target : State} {m : MethodId} {c : Code} (h : At T m c below) (hx : tb.exec = Jvm.exec) {pc pc' : Nat} {L : Array Slot} {S : List Value} {x y z : Int32} (hd : decode c.code pc = .ok (.iand, 1)) (hz : x &&& y = z) (hp : pc + 1 = pc') (hr : Steps tb e below (T.setTop (mkF m pc' L (.int z :: S))) target) : Steps tb e below (T.setTop (mkF m pc L (.int y :: .int x :: S))) target := by subst hp; exact XS.iand h hx rfl hd rfl (by rw [hz]; exact hr)
theorem y_ior {tb : Tables} [Ours tb] {e : Env} {below : List Frame} {T target : State} {m : MethodId} {c : Code} (h : At T m c below) (hx : tb.exec = Jvm.exec) {pc pc' : Nat} {L : Array Slot} {S : List Value} {x y z : Int32} (hd : decode c.code pc = .ok (.ior, 1)) (hz : x ||| y = z) (hp : pc + 1 = pc') (hr : Steps tb e below (T.setTop (mkF m pc' L (.int z :: S))) target) : Steps tb e below (T.setTop (mkF m pc L (.int y :: .int x :: S))) target := by subst hp; exact XS.ior h hx rfl hd rfl (by rw [hz]; exact hr)
theorem y_ixor {tb : Tables} [Ours tb] {e : Env} {below : List Frame} {T target : State} {m : MethodId} {c : Code} (h : At T m c below) (hx : tb.exec = Jvm.exec) {pc pc' : Nat} {L : Array Slot} {S : List Value} {x y z : Int32} (hd : decode c.code pc = .ok (.ixor, 1)) (hz : x ^^^ y = z) (hp : pc + 1 = pc') (hr : Steps tb e below (T.setTop (mkF m pc' L (.int z :: S))) target) : Steps tb e below (T.setTop (mkF m pc L (.int y :: .int x :: S))) target := by subst hp; exact XS.ixor h hx rfl hd rfl (by rw [hz]; exact hr)
theorem y_ladd {tb : Tables} [Ours tb] {e : Env} {below : List Frame} {T target : State} {m : MethodId} {c : Code} (h : At T m c below) (hx : tb.exec = Jvm.exec) {pc pc' : Nat} {L : Array Slot} {S : List Value} {x y z : Int64} (hd : decode c.code pc = .ok (.ladd, 1)) (hz : x + y = z) (hp : pc + 1 = pc') (hr : Steps tb e below (T.setTop (mkF m pc' L (.long z :: S))) target) : Steps tb e below (T.setTop (mkF m pc L (.long y :: .long x :: S))) target := by subst hp; exact XS.ladd h hx rfl hd rfl (by rw [hz]; exact hr)
theorem y_lsub {tb : Tables} [Ours tb] {e : Env} {below : List Frame} {T target : State} {m : MethodId} {c : Code} (h : At T m c below) (hx : tb.exec = Jvm.exec) {pc pc' : Nat} {L : Array Slot} {S : List Value} {x y z : Int64} (hd : decode c.code pc = .ok (.lsub, 1)) (hz : x - y = z) (hp : pc + 1 = pc') (hr : Steps tb e below (T.setTop (mkF m pc' L (.long z :: S))) target) : Steps tb e below (T.setTop (mkF m pc L (.long y :: .long x :: S))) target := by subst hp; exact XS.lsub h hx rfl hd rfl (by rw [hz]; exact hr)
theorem y_lmul {tb : Tables} [Ours tb] {e : Env} {below : List Frame} {T target : State} {m : MethodId} {c : Code} (h : At T m c below) (hx : tb.exec = Jvm.exec) {pc pc' : Nat} {L : Array Slot} {S : List Value} {x y z : Int64} (hd : decode c.code pc = .ok (.lmul, 1)) (hz : x * y = z) (hp : pc + 1 = pc') (hr : Steps tb e below (T.setTop (mkF m pc' L (.long z :: S))) target) : Steps tb e below (T.setTop (mkF m pc L (.long y :: .long x :: S))) target := by subst hp; exact XS.lmul h hx rfl hd rfl (by rw [hz]; exact hr)
theorem y_land {tb : Tables} [Ours tb] {e : Env} {below : List Frame} {T target : State} {m : MethodId} {c : Code} (h : At T m c below) (hx : tb.exec = Jvm.exec) {pc pc' : Nat} {L : Array Slot} {S : List Value} {x y z : Int64} (hd : decode c.code pc = .ok (.land, 1)) (hz : x &&& y = z) (hp : pc + 1 = pc') (hr : Steps tb e below (T.setTop (mkF m pc' L (.long z :: S))) target) : Steps tb e below (T.setTop (mkF m pc L (.long y :: .long x :: S))) target := by subst hp; exact XS.land h hx rfl hd rfl (by rw [hz]; exact hr)
theorem y_lor {tb : Tables} [Ours tb] {e : Env} {below : List Frame} {T target : State} {m : MethodId} {c : Code} (h : At T m c below) (hx : tb.exec = Jvm.exec) {pc pc' : Nat} {L : Array Slot} {S : List Value} {x y z : Int64} (hd : decode c.code pc = .ok (.lor, 1)) (hz : x ||| y = z) (hp : pc + 1 = pc') (hr : Steps tb e below (T.setTop (mkF m pc' L (.long z :: S))) target) : Steps tb e below (T.setTop (mkF m pc L (.long y :: .long x :: S))) target := by subst hp; exact XS.lor h hx rfl hd rfl (by rw [hz]; exact hr)
theorem y_lxor {tb : Tables} [Ours tb] {e : Env} {below : List Frame} {T target : State} {m : MethodId} {c : Code} (h : At T m c below) (hx : tb.exec = Jvm.exec) {pc pc' : Nat} {L : Array Slot} {S : List Value} {x y z : Int64} (hd : decode c.code pc = .ok (.lxor, 1)) (hz : x ^^^ y = z) (hp : pc + 1 = pc') (hr : Steps tb e below (T.setTop (mkF m pc' L (.long z :: S))) target) : Steps tb e below (T.setTop (mkF m pc L (.long y :: .long x :: S))) target := by subst hp; exact XS.lxor h hx rfl hd rfl (by rw [hz]; exact hr)
theorem y_ineg {tb : Tables} [Ours tb] {e : Env} {below : List Frame} {T target : State} {m : MethodId} {c : Code} (h : At T m c below) (hx : tb.exec = Jvm.exec) {pc pc' : Nat} {L : Array Slot} {S : List Value} {x : Int32} {z : Int32} (hd : decode c.code pc = .ok (.ineg, 1)) (hz : -x = z) (hp : pc + 1 = pc') (hr : Steps tb e below (T.setTop (mkF m pc' L (.int z :: S))) target) : Steps tb e below (T.setTop (mkF m pc L (.int x :: S))) target := by subst hp; exact XS.ineg h hx rfl hd rfl (by subst hz; exact hr)
theorem y_lneg {tb : Tables} [Ours tb] {e : Env} {below : List Frame} {T target : State} {m : MethodId} {c : Code} (h : At T m c below) (hx : tb.exec = Jvm.exec) {pc pc' : Nat} {L : Array Slot} {S : List Value} {x : Int64} {z : Int64} (hd : decode c.code pc = .ok (.lneg, 1)) (hz : -x = z) (hp : pc + 1 = pc') (hr : Steps tb e below (T.setTop (mkF m pc' L (.long z :: S))) target) : Steps tb e below (T.setTop (mkF m pc L (.long x :: S))) target := by subst hp; exact XS.lneg h hx rfl hd rfl (by subst hz; exact hr)
theorem y_i2l {tb : Tables} [Ours tb] {e : Env} {below : List Frame} {T target : State} {m : MethodId} {c : Code} (h : At T m c below) (hx : tb.exec = Jvm.exec) {pc pc' : Nat} {L : Array Slot} {S : List Value} {x : Int32} {z : Int64} (hd : decode c.code pc = .ok (.i2l, 1)) (hz : x.toInt64 = z) (hp : pc + 1 = pc') (hr : Steps tb e below (T.setTop (mkF m pc' L (.long z :: S))) target) : Steps tb e below (T.setTop (mkF m pc L (.int x :: S))) target := by subst hp; exact XS.i2l h hx rfl hd rfl (by subst hz; exact hr)
theorem y_l2i {tb : Tables} [Ours tb] {e : Env} {below : List Frame} {T target : State} {m : MethodId} {c : Code} (h : At T m c below) (hx : tb.exec = Jvm.exec) {pc pc' : Nat} {L : Array Slot} {S : List Value} {x : Int64} {z : Int32} (hd : decode c.code pc = .ok (.l2i, 1)) (hz : x.toInt32 = z) (hp : pc + 1 = pc') (hr : Steps tb e below (T.setTop (mkF m pc' L (.int z :: S))) target) : Steps tb e below (T.setTop (mkF m pc L (.long x :: S))) target := by subst hp; exact XS.l2i h hx rfl hd rfl (by subst hz; exact hr)
theorem y_i2b {tb : Tables} [Ours tb] {e : Env} {below : List Frame} {T target : State} {m : MethodId} {c : Code} (h : At T m c below) (hx : tb.exec = Jvm.exec) {pc pc' : Nat} {L : Array Slot} {S : List Value} {x : Int32} {z : Int32} (hd : decode c.code pc = .ok (.i2b, 1)) (hz : x.toInt8.toInt32 = z) (hp : pc + 1 = pc') (hr : Steps tb e below (T.setTop (mkF m pc' L (.int z :: S))) target) : Steps tb e below (T.setTop (mkF m pc L (.int x :: S))) target := by subst hp; exact XS.i2b h hx rfl hd rfl (by subst hz; exact hr)
theorem y_i2s {tb : Tables} [Ours tb] {e : Env} {below : List Frame} {T target : State} {m : MethodId} {c : Code} (h : At T m c below) (hx : tb.exec = Jvm.exec) {pc pc' : Nat} {L : Array Slot} {S : List Value} {x : Int32} {z : Int32} (hd : decode c.code pc = .ok (.i2s, 1)) (hz : x.toInt16.toInt32 = z) (hp : pc + 1 = pc') (hr : Steps tb e below (T.setTop (mkF m pc' L (.int z :: S))) target) : Steps tb e below (T.setTop (mkF m pc L (.int x :: S))) target := by subst hp; exact XS.i2s h hx rfl hd rfl (by subst hz; exact hr)
theorem y_i2c {tb : Tables} [Ours tb] {e : Env} {below : List Frame} {T target : State} {m : MethodId} {c : Code} (h : At T m c below) (hx : tb.exec = Jvm.exec) {pc pc' : Nat} {L : Array Slot} {S : List Value} {x : Int32} {z : Int32} (hd : decode c.code pc = .ok (.i2c, 1)) (hz : x.toUInt32.toUInt16.toUInt32.toInt32 = z) (hp : pc + 1 = pc') (hr : Steps tb e below (T.setTop (mkF m pc' L (.int z :: S))) target) : Steps tb e below (T.setTop (mkF m pc L (.int x :: S))) target := by subst hp; exact XS.i2c h hx rfl hd rfl (by subst hz; exact hr)
theorem y_ishl {tb : Tables} [Ours tb] {e : Env} {below : List Frame} {T target : State} {m : MethodId} {c : Code} (h : At T m c below) (hx : tb.exec = Jvm.exec) {pc pc' : Nat} {L : Array Slot} {S : List Value} {x z : Int32} {y : Int32} (hd : decode c.code pc = .ok (.ishl, 1)) (hz : (x <<< (y &&& 31)) = z) (hp : pc + 1 = pc') (hr : Steps tb e below (T.setTop (mkF m pc' L (.int z :: S))) target) : Steps tb e below (T.setTop (mkF m pc L (.int y :: .int x :: S))) target := by subst hp; exact XS.ishl h hx rfl hd rfl (by subst hz; exact hr)
theorem y_ishr {tb : Tables} [Ours tb] {e : Env} {below : List Frame} {T target : State} {m : MethodId} {c : Code} (h : At T m c below) (hx : tb.exec = Jvm.exec) {pc pc' : Nat} {L : Array Slot} {S : List Value} {x z : Int32} {y : Int32} (hd : decode c.code pc = .ok (.ishr, 1)) (hz : (x >>> (y &&& 31)) = z) (hp : pc + 1 = pc') (hr : Steps tb e below (T.setTop (mkF m pc' L (.int z :: S))) target) : Steps tb e below (T.setTop (mkF m pc L (.int y :: .int x :: S))) target := by subst hp; exact XS.ishr h hx rfl hd rfl (by subst hz; exact hr)
theorem y_iushr {tb : Tables} [Ours tb] {e : Env} {below : List Frame} {T target : State} {m : MethodId} {c : Code} (h : At T m c below) (hx : tb.exec = Jvm.exec) {pc pc' : Nat} {L : Array Slot} {S : List Value} {x z : Int32} {y : Int32} (hd : decode c.code pc = .ok (.iushr, 1)) (hz : ((x.toUInt32 >>> (y &&& 31).toUInt32).toInt32) = z) (hp : pc + 1 = pc') (hr : Steps tb e below (T.setTop (mkF m pc' L (.int z :: S))) target) : Steps tb e below (T.setTop (mkF m pc L (.int y :: .int x :: S))) target := by subst hp; exact XS.iushr h hx rfl hd rfl (by subst hz; exact hr)
theorem y_lshl {tb : Tables} [Ours tb] {e : Env} {below : List Frame} {T target : State} {m : MethodId} {c : Code} (h : At T m c below) (hx : tb.exec = Jvm.exec) {pc pc' : Nat} {L : Array Slot} {S : List Value} {x z : Int64} {y : Int32} (hd : decode c.code pc = .ok (.lshl, 1)) (hz : (x <<< (y &&& 0x3f).toInt64) = z) (hp : pc + 1 = pc') (hr : Steps tb e below (T.setTop (mkF m pc' L (.long z :: S))) target) : Steps tb e below (T.setTop (mkF m pc L (.int y :: .long x :: S))) target := by subst hp; exact XS.lshl h hx rfl hd rfl (by subst hz; exact hr)
theorem y_lshr {tb : Tables} [Ours tb] {e : Env} {below : List Frame} {T target : State} {m : MethodId} {c : Code} (h : At T m c below) (hx : tb.exec = Jvm.exec) {pc pc' : Nat} {L : Array Slot} {S : List Value} {x z : Int64} {y : Int32} (hd : decode c.code pc = .ok (.lshr, 1)) (hz : (x >>> (y &&& 0x3f).toInt64) = z) (hp : pc + 1 = pc') (hr : Steps tb e below (T.setTop (mkF m pc' L (.long z :: S))) target) : Steps tb e below (T.setTop (mkF m pc L (.int y :: .long x :: S))) target := by subst hp; exact XS.lshr h hx rfl hd rfl (by subst hz; exact hr)
theorem y_lushr {tb : Tables} [Ours tb] {e : Env} {below : List Frame} {T target : State} {m : MethodId} {c : Code} (h : At T m c below) (hx : tb.exec = Jvm.exec) {pc pc' : Nat} {L : Array Slot} {S : List Value} {x z : Int64} {y : Int32} (hd : decode c.code pc = .ok (.lushr, 1)) (hz : ((x.toUInt64 >>> (y &&& 0x3f).toInt64.toUInt64).toInt64) = z) (hp : pc + 1 = pc') (hr : Steps tb e below (T.setTop (mkF m pc' L (.long z :: S))) target) : Steps tb e below (T.setTop (mkF m pc L (.int y :: .long x :: S))) target := by subst hp; exact XS.lushr h hx rfl hd rfl (by subst hz; exact hr)
theorem y_lcmp {tb : Tables} [Ours tb] {e : Env} {below : List Frame} {T target : State} {m : MethodId} {c : Code} (h : At T m c below) (hx : tb.exec = Jvm.exec) {pc pc' : Nat} {L : Array Slot} {S : List Value} {x y : Int64} (hd : decode c.code pc = .ok (.lcmp, 1)) (hp : pc + 1 = pc') (hr : Steps tb e below (T.setTop (mkF m pc' L (.int (lcmpW x y) :: S))) target) : Steps tb e below (T.setTop (mkF m pc L (.long y :: .long x :: S))) target := by subst hp; exact XS.lcmp h hx rfl hd rfl hr
theorem y_iinc {tb : Tables} [Ours tb] {e : Env} {below : List Frame} {T target : State} {m : MethodId} {c : Code} (h : At T m c below) (hx : tb.exec = Jvm.exec) {pc pc' : Nat} {L : Array Slot} {S : List Value} {k : Nat} {cst : Int} {x : Int32} {l' : Array Slot} (hd : decode c.code pc = .ok (.iinc k cst, 3)) (hl : L[k]? = some (.val (.int x))) (hl' : storeLocals L k (.int (x + Int32.ofInt cst)) = some l') (hp : pc + 3 = pc') (hr : Steps tb e below (T.setTop (mkF m pc' l' S)) target) : Steps tb e below (T.setTop (mkF m pc L S)) target := by subst hp; exact XS.iinc h hx rfl hd hl hl' hr
theorem y_dup {tb : Tables} [Ours tb] {e : Env} {below : List Frame} {T target : State} {m : MethodId} {c : Code} (h : At T m c below) (hx : tb.exec = Jvm.exec) {pc pc' : Nat} {L : Array Slot} {S : List Value} {v : Value} (hd : decode c.code pc = .ok (.dup, 1)) (hc : v.category = 1) (hp : pc + 1 = pc') (hr : Steps tb e below (T.setTop (mkF m pc' L (v :: v :: S))) target) : Steps tb e below (T.setTop (mkF m pc L (v :: S))) target := by subst hp; exact XS.dup h hx rfl hd rfl hc hr
theorem y_goto {tb : Tables} [Ours tb] {e : Env} {below : List Frame} {T target : State} {m : MethodId} {c : Code} (h : At T m c below) (hx : tb.exec = Jvm.exec) {pc pc' : Nat} {L : Array Slot} {S : List Value} {o : Int} (hd : decode c.code pc = .ok (.goto o, 3)) (ho : 0 ≤ (pc : Int) + o) (hp : ((pc : Int) + o).toNat = pc') (hr : Steps tb e below (T.setTop (mkF m pc' L S)) target) : Steps tb e below (T.setTop (mkF m pc L S)) target := XS.goto h hx rfl rfl hd ho hp hr
theorem y_ifYes {tb : Tables} [Ours tb] {e : Env} {below : List Frame} {T target : State} {m : MethodId} {c : Code} (h : At T m c below) (hx : tb.exec = Jvm.exec) {pc pc' : Nat} {L : Array Slot} {S : List Value} {cd : ClassFile.Cond} {x : Int32} {o : Int} (hd : decode c.code pc = .ok (.ifCond cd o, 3)) (hc : ifCond.holds cd x = true) (ho : 0 ≤ (pc : Int) + o) (hp : ((pc : Int) + o).toNat = pc') (hr : Steps tb e below (T.setTop (mkF m pc' L S)) target) : Steps tb e below (T.setTop (mkF m pc L (.int x :: S))) target := XS.ifYes h hx rfl rfl hd rfl hc ho hp hr
theorem y_ifNo {tb : Tables} [Ours tb] {e : Env} {below : List Frame} {T target : State} {m : MethodId} {c : Code} (h : At T m c below) (hx : tb.exec = Jvm.exec) {pc pc' : Nat} {L : Array Slot} {S : List Value} {cd : ClassFile.Cond} {x : Int32} {o : Int} (hd : decode c.code pc = .ok (.ifCond cd o, 3)) (hc : ifCond.holds cd x = false) (hp : pc + 3 = pc') (hr : Steps tb e below (T.setTop (mkF m pc' L S)) target) : Steps tb e below (T.setTop (mkF m pc L (.int x :: S))) target := by subst hp; exact XS.ifNo h hx rfl hd rfl hc hr
theorem y_icmpYes {tb : Tables} [Ours tb] {e : Env} {below : List Frame} {T target : State} {m : MethodId} {c : Code} (h : At T m c below) (hx : tb.exec = Jvm.exec) {pc pc' : Nat} {L : Array Slot} {S : List Value} {cd : ClassFile.Cond} {x y : Int32} {o : Int} (hd : decode c.code pc = .ok (.if_icmp cd o, 3)) (hc : if_icmp.holds cd x y = true) (ho : 0 ≤ (pc : Int) + o) (hp : ((pc : Int) + o).toNat = pc') (hr : Steps tb e below (T.setTop (mkF m pc' L S)) target) : Steps tb e below (T.setTop (mkF m pc L (.int y :: .int x :: S))) target := XS.icmpYes h hx rfl rfl hd rfl hc ho hp hr
theorem y_icmpNo {tb : Tables} [Ours tb] {e : Env} {below : List Frame} {T target : State} {m : MethodId} {c : Code} (h : At T m c below) (hx : tb.exec = Jvm.exec) {pc pc' : Nat} {L : Array Slot} {S : List Value} {cd : ClassFile.Cond} {x y : Int32} {o : Int} (hd : decode c.code pc = .ok (.if_icmp cd o, 3)) (hc : if_icmp.holds cd x y = false) (hp : pc + 3 = pc') (hr : Steps tb e below (T.setTop (mkF m pc' L S)) target) : Steps tb e below (T.setTop (mkF m pc L (.int y :: .int x :: S))) target := by subst hp; exact XS.icmpNo h hx rfl hd rfl hc hr
theorem own_of {x k : Int32} (h : x.toInt = k.toInt) : x = k := Int32.toInt_inj.mp h
theorem own_and3 (k : Int32) : k &&& 3 = 0 ∨ k &&& 3 = 1 ∨ k &&& 3 = 2 ∨ k &&& 3 = 3 := by
  have q : (k &&& 3).toInt = k.toInt % 4 := c_mask k 3 2 (by decide) (by decide)
  generalize k &&& 3 = x at q ⊢
  have : x.toInt = 0 ∨ x.toInt = 1 ∨ x.toInt = 2 ∨ x.toInt = 3 := by omega
  rcases this with h | h | h | h
  · exact Or.inl (own_of h)
  · exact Or.inr (Or.inl (own_of h))
  · exact Or.inr (Or.inr (Or.inl (own_of h)))
  · exact Or.inr (Or.inr (Or.inr (own_of h)))
theorem own_nK (k : Int32) : ¬ (2 : Int32) + (k &&& 7) < 0 ∧ ((2 : Int32) + (k &&& 7)).toNatClampNeg ≤ 9 ∧ (0 : Int32) < (2 : Int32) + (k &&& 7) ∧ (1 : Int32) < (2 : Int32) + (k &&& 7) := by
  have q : (k &&& 7).toInt = k.toInt % 8 := c_mask k 7 3 (by decide) (by decide)
  have q1 := c_iadd 2 (k &&& 7)
  have q2 := ((2 : Int32) + (k &&& 7)).le_toInt
  have q3 := ((2 : Int32) + (k &&& 7)).toInt_lt
  have e2 : (2 : Int32).toInt = 2 := rfl
  have e1 : (1 : Int32).toInt = 1 := rfl
  have e0 : (0 : Int32).toInt = 0 := rfl
  simp only [Int32.lt_iff_toInt_lt, Int32.toNatClampNeg]
  generalize ((2 : Int32) + (k &&& 7)).toInt = z at *
  omega

theorem fl_0 : decode jdk_65_method_103_code 0 = .ok (.iconst 0, 1) := by decide +kernel
theorem fl_1 : decode jdk_65_method_103_code 1 = .ok (.istore_n 2, 1) := by decide +kernel
theorem fl_2 : decode jdk_65_method_103_code 2 = .ok (.aload_n 0, 1) := by decide +kernel
theorem fl_3 : decode jdk_65_method_103_code 3 = .ok (.arraylength, 1) := by decide +kernel
theorem fl_4 : decode jdk_65_method_103_code 4 = .ok (.istore_n 3, 1) := by decide +kernel
theorem fl_5 : decode jdk_65_method_103_code 5 = .ok (.iload_n 2, 1) := by decide +kernel
theorem fl_6 : decode jdk_65_method_103_code 6 = .ok (.iload_n 3, 1) := by decide +kernel
theorem fl_7 : decode jdk_65_method_103_code 7 = .ok (.if_icmp .ge 13, 3) := by decide +kernel
theorem fl_10 : decode jdk_65_method_103_code 10 = .ok (.aload_n 0, 1) := by decide +kernel
theorem fl_11 : decode jdk_65_method_103_code 11 = .ok (.iload_n 2, 1) := by decide +kernel
theorem fl_12 : decode jdk_65_method_103_code 12 = .ok (.iload_n 1, 1) := by decide +kernel
theorem fl_13 : decode jdk_65_method_103_code 13 = .ok (.iastore, 1) := by decide +kernel
theorem fl_14 : decode jdk_65_method_103_code 14 = .ok (.iinc 2 1, 3) := by decide +kernel
theorem fl_17 : decode jdk_65_method_103_code 17 = .ok (.goto (-12), 3) := by decide +kernel
theorem fl_20 : decode jdk_65_method_103_code 20 = .ok (.return_, 1) := by decide +kernel
theorem own_succ {i n : Int32} (h0 : ¬ i < 0) (h : i < n) : ¬ (i + 1) < 0 ∧ (i + 1).toNatClampNeg = i.toNatClampNeg + 1 := by
  have q1 := c_iadd i 1
  have q2 := (i + 1).le_toInt
  have q3 := (i + 1).toInt_lt
  have q4 := n.toInt_lt
  have e1 : (1 : Int32).toInt = 1 := rfl
  have e0 : (0 : Int32).toInt = 0 := rfl
  rw [Int32.lt_iff_toInt_lt] at h0 h
  refine ⟨?_, ?_⟩
  · rw [Int32.lt_iff_toInt_lt]; omega
  · simp only [Int32.toNatClampNeg]; omega
theorem own_ltn {i n : Int32} (h0 : ¬ i < 0) (hn : ¬ n < 0) : i < n ↔ i.toNatClampNeg < n.toNatClampNeg := by
  have e0 : (0 : Int32).toInt = 0 := rfl
  rw [Int32.lt_iff_toInt_lt] at h0 hn ⊢
  simp only [Int32.toNatClampNeg]; omega
theorem own_eqn {i n : Int32} (h0 : ¬ i < 0) (hn : ¬ n < 0) (h : i.toNatClampNeg = n.toNatClampNeg) : i = n := by
  have e0 : (0 : Int32).toInt = 0 := rfl
  apply Int32.toInt_inj.mp
  rw [Int32.lt_iff_toInt_lt] at h0 hn
  simp only [Int32.toNatClampNeg] at h; omega
set_option maxRecDepth 65536 in
set_option maxHeartbeats 40000000 in
theorem fill_loop {p : Program} {l : Launch} {e : Env} {R : Room} {s : State} {m : MethodId} {args : Array Value} {below : List Frame} {meth : Method} {c : Code} {cells slots : Nat} {Z : State} (hx : p.tables.exec = Jvm.exec) (hZ : Z.Warmed39 s.vm) (hby : c.code = jdk_65_method_103_code) (a : Addr) (v n : Int32) (kk : ClassId) (n0 : Nat) (hn : ¬ n < 0) (G0 : n0 ≤ a) :
    ∀ (k : Nat) (i : Int32) (T : State) (h : Heap) (locs : List Loc) (cell : Cell), Stand p l e R s m args below meth c T locs cells slots → T.heap = h → Arr Z h a cell .int → cell.cls = kk → cell.slots.size = n.toNatClampNeg → ¬ i < 0 → i.toNatClampNeg + k = n.toNatClampNeg → (∀ j, j < i.toNatClampNeg → cell.slots[j]? = some (.int v)) → Fr n0 locs →
    ∃ (T' : State) (h' : Heap) (locs' : List Loc), Stand p l e R s m args below meth c T' locs' cells slots ∧ T'.heap = h' ∧ Keep h h' [a] ∧ Fr n0 locs' ∧ Arv Z h' a kk .int n [] (.int v) ∧ ∀ t, Steps p.tables e below (T'.setTop (mkF m 20 #[rv a, iv v, iv n, iv n] [])) t → Steps p.tables e below (T.setTop (mkF m 5 #[rv a, iv v, iv i, iv n] [])) t := by
  intro k
  induction k with
  | zero =>
    intro i T h locs cell X eT A q1 q2 hi hk hv N
    have ei : i = n := own_eqn hi hn (by omega)
    subst ei
    refine ⟨T, h, locs, X, eT, Keep.refl _ _, N, ⟨cell, A, q1, q2, hn, fun j hj => ?_, fun _ _ => rfl⟩, fun t kt => ?_⟩
    · exact (hv j (by omega)).trans rfl
    · refine y_iloadN X.here hx (hb hby fl_5) rfl (pc' := 6) rfl ?_
      refine y_iloadN X.here hx (hb hby fl_6) rfl (pc' := 7) rfl ?_
      refine y_icmpYes X.here hx (hb hby fl_7) (flt (fun q => absurd (Int32.lt_iff_toInt_lt.mp q) (Int.lt_irrefl _))).2.1 (pc' := 20) (by decide) rfl ?_
      exact kt
  | succ k ih =>
    intro i T h locs cell X eT A q1 q2 hi hk hv N
    have hlt : i < n := (own_ltn hi hn).mpr (by omega)
    obtain ⟨hi', hi2⟩ := own_succ hi hlt
    have hin : ¬ (i < 0 ∨ cell.slots.size ≤ i.toNatClampNeg) := inb_of q2 ⟨hi, hlt⟩
    obtain ⟨T1, h1, X1, e1, W1, st1⟩ := stI X hx hZ eT A (j := i) (x := v) hin (g := (mkF m 13 #[rv a, iv v, iv i, iv n] [.int v, .int i, .ref a])) rfl rfl (hb hby fl_13)
    obtain ⟨T', h', locs', X', e', K', N', V', st'⟩ := ih (i + 1) T1 h1 _ (cell.setSlot i.toNatClampNeg (.int v)) X1 e1 (A.same W1) q1 (by rw [sz_set]; exact q2) hi' (by omega) (fun j hj => by
      by_cases hji : j = i.toNatClampNeg
      · subst hji; exact get_hit hin rfl
      · show (cell.slots.setIfInBounds i.toNatClampNeg (.int v))[j]? = _
        rw [Array.getElem?_setIfInBounds_ne (Ne.symm hji)]; exact hv j (by omega)) (Fr.snoc X1 N G0)
    refine ⟨T', h', locs', X', e', (Keep.of_wr W1).trans K' (fun x hx => Or.inl hx), N', V', fun t kt => ?_⟩
    refine y_iloadN X.here hx (hb hby fl_5) rfl (pc' := 6) rfl ?_
    refine y_iloadN X.here hx (hb hby fl_6) rfl (pc' := 7) rfl ?_
    refine y_icmpNo X.here hx (hb hby fl_7) (tlt hlt).2.1 (pc' := 10) rfl ?_
    refine y_aloadN X.here hx (hb hby fl_10) rfl rfl (pc' := 11) rfl ?_
    refine y_iloadN X.here hx (hb hby fl_11) rfl (pc' := 12) rfl ?_
    refine y_iloadN X.here hx (hb hby fl_12) rfl (pc' := 13) rfl ?_
    refine st1 _ ?_
    show Steps p.tables e below (T1.setTop (mkF m 14 #[rv a, iv v, iv i, iv n] [])) _
    refine y_iinc X1.here hx (hb hby fl_14) rfl (l' := #[rv a, iv v, iv (i + 1), iv n]) rfl (pc' := 17) rfl ?_
    refine y_goto X1.here hx (hb hby fl_17) (pc' := 5) (by decide) rfl ?_
    exact st' t kt
theorem pn_fill : plainName "java/util/Arrays" = true := by first | (simp [plainName, overriddenIn]; done) | decide +kernel
theorem ef_fill (m : MethodId) (x0 : Addr) (x1 : Int32) : entryFrame m #[(.ref x0), (.int x1)] 4 = mkF m 0 #[rv x0, iv x1, .unset, .unset] [] := by first | (simp [entryFrame, mkF, argsToLocals, Value.category]; done) | rfl
def QF (Z : State) (pr0 : Addr) (pi1 n : Int32) (kk : ClassId) (h0 : Heap) (n0 : Nat) (v : Option Value) (h : Heap) (L : List Loc) : Prop := v = none ∧ Fr n0 L ∧ Keep h0 h [pr0] ∧ Arv Z h pr0 kk .int n [] (.int pi1)
set_option maxRecDepth 65536 in
set_option maxHeartbeats 40000000 in
theorem rmF (l : Launch) (Z : State) (a0 : Array Value) (hw : ∀ d ∈ tables_1, d.before a0 Z = true) (ws : List Jvm.Cond) (pr0 : Addr) (pi1 n : Int32) (kk : ClassId) (h0 : Heap) (n0 : Nat) (O0 : Old Z n0 h0) (V0 : Arv Z h0 pr0 kk .int n [] (.int (0 : Int32))) (G0 : n0 ≤ pr0) :
    MetFree l (⟨"java/util/Arrays", "fill", "([II)V"⟩ : MethodName) (head1 (Jvm.Cond.code (⟨"java/util/Arrays", "fill", "([II)V"⟩ : MethodName) jdk_65_method_103_code 4 none :: ws) ({ frames := 0, cells := 0, slots := 0, locals := 0 } : Room)) (fun a U => a = #[(.ref pr0), (.int pi1)] ∧ Z.Warmed39 U.vm ∧ U.heap = h0) (fun _ _ _ _ _ => True) (fun _ U o U' => ∃ v L, o = .returned v ∧ QF Z pr0 pi1 n kk h0 n0 v U'.heap L ∧ FrameEnd U o U' L ({ frames := 0, cells := 0, slots := 0, locals := 0 } : Room).cells ({ frames := 0, cells := 0, slots := 0, locals := 0 } : Room).slots) := by
  refine MetFree.of_bodySF (plainFor_of_name pn_fill) hisR ?_
  intro p e s m args below meth c s₁ Bd hml0 hP hK
  obtain ⟨rfl, hZ, hh⟩ := hP
  have hx := Bd.exec
  have hby := Bd.bytes
  have hml : c.maxLocals = 4 := hml0
  have X0 : Stand p l e ({ frames := 0, cells := 0, slots := 0, locals := 0 } : Room) s m #[(.ref pr0), (.int pi1)] below meth c s₁ [] 0 0 := Stand.of_body Bd
  have e0 : s₁.heap = h0 := by rw [← hh, Bd.state]; rfl
  obtain ⟨cell, A, q1, q2, hn, H, G⟩ := V0
  obtain ⟨T', h', locs', X', e', K', N', V', st'⟩ := fill_loop (R := ({ frames := 0, cells := 0, slots := 0, locals := 0 } : Room)) hx hZ hby pr0 pi1 n kk n0 hn G0 n.toNatClampNeg 0 s₁ h0 [] cell X0 e0 A q1 q2 (by decide) (by show 0 + _ = _; omega) (fun j hj => absurd hj (Nat.not_lt_zero _)) (Fr.nil n0)
  obtain ⟨fs, hr, hrun, hended, hW, hsame⟩ := X'.leave (v := none) (fun _ => rfl)
  refine ⟨_, _, castTop (ef_fill m pr0 pi1) ?_, hrun, hended, _, _, rfl, ?_, ⟨_, rfl⟩, hW, hsame.mono (by decide) (by decide)⟩
  · refine y_iconst X0.here hx (hb hby fl_0) (v := (0 : Int32)) rfl (pc' := 1) rfl ?_
    refine y_istoreN X0.here hx (hb hby fl_1) (l' := #[rv pr0, iv pi1, iv (0 : Int32), .unset]) rfl (pc' := 2) rfl ?_
    refine y_aloadN X0.here hx (hb hby fl_2) rfl rfl (pc' := 3) rfl ?_
    refine X0.arraylength hx (by rw [e0]; exact A.1) (State.isArrayOf_alike hZ.alike A.2.1) (g := (mkF m 3 #[rv pr0, iv pi1, iv (0 : Int32), .unset] [.ref pr0])) rfl rfl (hb hby fl_3) _ ?_
    rw [len_of q2 hn]
    show Steps p.tables e below (s₁.setTop (mkF m 4 #[rv pr0, iv pi1, iv (0 : Int32), .unset] [.int n])) _
    refine y_istoreN X0.here hx (hb hby fl_4) (l' := #[rv pr0, iv pi1, iv (0 : Int32), iv n]) rfl (pc' := 5) rfl ?_
    refine st' _ ?_
    exact X'.returnOut hx Bd.returns (hb hby fl_20) hr
  · show QF Z pr0 pi1 n kk h0 n0 _ T'.heap _
    rw [e']
    exact ⟨rfl, N', K', V'⟩

theorem d1_0 : decode prog_17_method_1_code 0 = .ok (.aload_n 0, 1) := by decide +kernel
theorem d1_1 : decode prog_17_method_1_code 1 = .ok (.invokespecial 1, 3) := by decide +kernel
theorem d1_4 : decode prog_17_method_1_code 4 = .ok (.aload_n 0, 1) := by decide +kernel
theorem d1_5 : decode prog_17_method_1_code 5 = .ok (.iload_n 1, 1) := by decide +kernel
theorem d1_6 : decode prog_17_method_1_code 6 = .ok (.newarray .int, 2) := by decide +kernel
theorem d1_8 : decode prog_17_method_1_code 8 = .ok (.putfield 7, 3) := by decide +kernel
theorem d1_11 : decode prog_17_method_1_code 11 = .ok (.aload_n 0, 1) := by decide +kernel
theorem d1_12 : decode prog_17_method_1_code 12 = .ok (.getfield 7, 3) := by decide +kernel
theorem d1_15 : decode prog_17_method_1_code 15 = .ok (.iconst (-1), 1) := by decide +kernel
theorem d1_16 : decode prog_17_method_1_code 16 = .ok (.invokestatic 13, 3) := by decide +kernel
theorem d1_19 : decode prog_17_method_1_code 19 = .ok (.aload_n 0, 1) := by decide +kernel
theorem d1_20 : decode prog_17_method_1_code 20 = .ok (.iload_n 1, 1) := by decide +kernel
theorem d1_21 : decode prog_17_method_1_code 21 = .ok (.anewarray 19, 3) := by decide +kernel
theorem d1_24 : decode prog_17_method_1_code 24 = .ok (.putfield 21, 3) := by decide +kernel
theorem d1_27 : decode prog_17_method_1_code 27 = .ok (.aload_n 0, 1) := by decide +kernel
theorem d1_28 : decode prog_17_method_1_code 28 = .ok (.iload_n 1, 1) := by decide +kernel
theorem d1_29 : decode prog_17_method_1_code 29 = .ok (.newarray .int, 2) := by decide +kernel
theorem d1_31 : decode prog_17_method_1_code 31 = .ok (.putfield 25, 3) := by decide +kernel
theorem d1_34 : decode prog_17_method_1_code 34 = .ok (.aload_n 0, 1) := by decide +kernel
theorem d1_35 : decode prog_17_method_1_code 35 = .ok (.iload_n 1, 1) := by decide +kernel
theorem d1_36 : decode prog_17_method_1_code 36 = .ok (.newarray .int, 2) := by decide +kernel
theorem d1_38 : decode prog_17_method_1_code 38 = .ok (.putfield 28, 3) := by decide +kernel
theorem d1_41 : decode prog_17_method_1_code 41 = .ok (.aload_n 0, 1) := by decide +kernel
theorem d1_42 : decode prog_17_method_1_code 42 = .ok (.iload_n 1, 1) := by decide +kernel
theorem d1_43 : decode prog_17_method_1_code 43 = .ok (.newarray .boolean, 2) := by decide +kernel
theorem d1_45 : decode prog_17_method_1_code 45 = .ok (.putfield 31, 3) := by decide +kernel
theorem d1_48 : decode prog_17_method_1_code 48 = .ok (.aload_n 0, 1) := by decide +kernel
theorem d1_49 : decode prog_17_method_1_code 49 = .ok (.iload_n 1, 1) := by decide +kernel
theorem d1_50 : decode prog_17_method_1_code 50 = .ok (.newarray .int, 2) := by decide +kernel
theorem d1_52 : decode prog_17_method_1_code 52 = .ok (.putfield 35, 3) := by decide +kernel
theorem d1_55 : decode prog_17_method_1_code 55 = .ok (.return_, 1) := by decide +kernel
theorem pn_com_example_stonegaze_stonegaze_Groups : plainName "com/example/stonegaze/stonegaze/Groups" = true := by first | (simp [plainName, overriddenIn]; done) | decide +kernel
theorem pd___II_V : parseMethodDescriptor "([II)V" = some ⟨[(.array .int), .int], none⟩ := by decide +kernel
theorem ef_1 (m : MethodId) (x0 : Addr) (x1 : Int32) : entryFrame m #[(.ref x0), (.int x1)] 2 = mkF m 0 #[rv x0, iv x1] [] := by first | (simp [entryFrame, mkF, argsToLocals, Value.category]; done) | rfl
def Q1 (Z : State) (pr0 : Addr) (pi1 : Int32) (h0 : Heap) (n0 : Nat) (v : Option Value) (h : Heap) (L : List Loc) : Prop := ∃ (z_groupOf z_colours z_stones z_liberties z_ringed z_aLiberty : Addr) (k_groupOf k_colours k_stones k_liberties k_ringed k_aLiberty : ClassId), v = none ∧ Fr n0 L ∧ Keep h0 h [pr0] ∧ Fld Z h pr0 "com/example/stonegaze/stonegaze/Groups" "groupOf" "[I" (.ref z_groupOf) ∧ Fld Z h pr0 "com/example/stonegaze/stonegaze/Groups" "colours" "[Lcom/example/stonegaze/stonegaze/Side;" (.ref z_colours) ∧ Fld Z h pr0 "com/example/stonegaze/stonegaze/Groups" "stones" "[I" (.ref z_stones) ∧ Fld Z h pr0 "com/example/stonegaze/stonegaze/Groups" "liberties" "[I" (.ref z_liberties) ∧ Fld Z h pr0 "com/example/stonegaze/stonegaze/Groups" "ringed" "[Z" (.ref z_ringed) ∧ Fld Z h pr0 "com/example/stonegaze/stonegaze/Groups" "aLiberty" "[I" (.ref z_aLiberty) ∧ Fld Z h pr0 "com/example/stonegaze/stonegaze/Groups" "count" "I" (.int (0 : Int32)) ∧ Arv Z h z_groupOf k_groupOf .int pi1 [] (.int (-1 : Int32)) ∧ Arv Z h z_colours k_colours (.object "com/example/stonegaze/stonegaze/Side") pi1 [.null, .null] .null ∧ Arv Z h z_stones k_stones .int pi1 [(.int (0 : Int32)), (.int (0 : Int32))] (.int (0 : Int32)) ∧ Arv Z h z_liberties k_liberties .int pi1 [(.int (0 : Int32)), (.int (0 : Int32))] (.int (0 : Int32)) ∧ Arv Z h z_ringed k_ringed .boolean pi1 [(.int (0 : Int32)), (.int (0 : Int32))] (.int (0 : Int32)) ∧ Arv Z h z_aLiberty k_aLiberty .int pi1 [(.int (0 : Int32)), (.int (0 : Int32))] (.int (0 : Int32)) ∧ Ovr Z k_colours "com/example/stonegaze/stonegaze/Side" ∧ h0.size ≤ z_groupOf ∧ @LT.lt Nat instLTNat z_groupOf z_colours ∧ @LT.lt Nat instLTNat z_colours z_stones ∧ @LT.lt Nat instLTNat z_stones z_liberties ∧ @LT.lt Nat instLTNat z_liberties z_ringed ∧ @LT.lt Nat instLTNat z_ringed z_aLiberty
set_option maxRecDepth 65536 in
set_option maxHeartbeats 40000000 in
theorem rm1 (l : Launch) (Z : State) (a0 : Array Value) (hw : ∀ d ∈ tables_1, d.before a0 Z = true) (ws : List Jvm.Cond) (pr0 : Addr) (pi1 : Int32) (h0 : Heap) (n0 : Nat) (O0 : Old Z n0 h0) (E_pr0 : Exa Z h0 pr0 "com/example/stonegaze/stonegaze/Groups") (F_groupOf_pr0 : Fld Z h0 pr0 "com/example/stonegaze/stonegaze/Groups" "groupOf" "[I" .null) (F_colours_pr0 : Fld Z h0 pr0 "com/example/stonegaze/stonegaze/Groups" "colours" "[Lcom/example/stonegaze/stonegaze/Side;" .null) (F_stones_pr0 : Fld Z h0 pr0 "com/example/stonegaze/stonegaze/Groups" "stones" "[I" .null) (F_liberties_pr0 : Fld Z h0 pr0 "com/example/stonegaze/stonegaze/Groups" "liberties" "[I" .null) (F_ringed_pr0 : Fld Z h0 pr0 "com/example/stonegaze/stonegaze/Groups" "ringed" "[Z" .null) (F_aLiberty_pr0 : Fld Z h0 pr0 "com/example/stonegaze/stonegaze/Groups" "aLiberty" "[I" .null) (F_count_pr0 : Fld Z h0 pr0 "com/example/stonegaze/stonegaze/Groups" "count" "I" (.int (0 : Int32))) (G_pr0 : n0 ≤ pr0) (NG : ¬ pi1 < 0) (NC : pi1.toNatClampNeg ≤ 9) :
    MetFree l (⟨"com/example/stonegaze/stonegaze/Groups", "<init>", "(I)V"⟩ : MethodName) (head1 (Jvm.Cond.code (⟨"com/example/stonegaze/stonegaze/Groups", "<init>", "(I)V"⟩ : MethodName) prog_17_method_1_code 2 none :: ws) ({ frames := 1, cells := 6, slots := 54, locals := 15 } : Room)) (fun a U => a = #[(.ref pr0), (.int pi1)] ∧ Z.Warmed39 U.vm ∧ U.heap = h0) (fun _ _ _ _ _ => True) (fun _ U o U' => ∃ v L, o = .returned v ∧ Q1 Z pr0 pi1 h0 n0 v U'.heap L ∧ FrameEnd U o U' L ({ frames := 1, cells := 6, slots := 54, locals := 15 } : Room).cells ({ frames := 1, cells := 6, slots := 54, locals := 15 } : Room).slots) := by
  refine MetFree.of_bodySF (plainFor_of_name pn_com_example_stonegaze_stonegaze_Groups) hisR ?_
  intro p e s m args below meth c s₁ Bd hml0 hP hK
  obtain ⟨rfl, hZ, hh⟩ := hP
  have hx := Bd.exec
  have hby := Bd.bytes
  have hml : c.maxLocals = 2 := hml0
  have hown : s.vm.findClass "com/example/stonegaze/stonegaze/Groups" = some m.cls := findClass_of_methodNamed Bd.named
  have hnm := (name_of_methodNamed Bd.named Bd.method).1
  have X0 : Stand p l e ({ frames := 1, cells := 6, slots := 54, locals := 15 } : Room) s m #[(.ref pr0), (.int pi1)] below meth c s₁ [] 0 0 := Stand.of_body Bd
  have e0 : s₁.heap = h0 := by rw [← hh, Bd.state]; rfl
  have N0 := Fr.nil n0
  obtain ⟨Go, hGo⟩ : ∃ P : State → Prop, ∀ t, P t ↔ Steps p.tables e below (s₁.setTop (entryFrame m #[(.ref pr0), (.int pi1)] 2)) t := ⟨_, fun _ => Iff.rfl⟩
  have pre0 : ∀ t, Steps p.tables e below (s₁.setTop (mkF m 0 #[rv pr0, iv pi1] [])) t → Go t := fun t k => (hGo t).mpr (castTop (ef_1 m pr0 pi1) k)
  have K0 : Keep h0 h0 [pr0] := Keep.refl _ _
  have pre1 : ∀ t, Steps p.tables e below (s₁.setTop (mkF m 1 #[rv pr0, iv pi1] [(.ref pr0)])) t → Go t := fun t kt => pre0 t (by
      refine y_aloadN X0.here hx (hb hby d1_0) rfl rfl (pc' := 1) rfl ?_
      exact kt)
  obtain ⟨T2, X2, e2, st2⟩ := initO X0 hx hZ hown (hw _ (List.mem_of_getElem? (i := 9) rfl)) (hw _ (List.mem_of_getElem? (i := 10) rfl)) (hw _ (List.mem_of_getElem? (i := 11) rfl)) e0 (g := (mkF m 1 #[rv pr0, iv pi1] [(.ref pr0)])) rfl (by rw [hml]; rfl) rfl (hb hby d1_1) (by decide) (W := 0) (by show 2 * 0 + _ ≤ _; exact Nat.le_of_eq rfl) (by decide)
  have pre3 : ∀ t, Steps p.tables e below (T2.setTop (mkF m 4 #[rv pr0, iv pi1] [])) t → Go t := fun t kt => pre1 t (st2 t kt)
  have pre4 : ∀ t, Steps p.tables e below (T2.setTop (mkF m 6 #[rv pr0, iv pi1] [(.int pi1), (.ref pr0)])) t → Go t := fun t kt => pre3 t (by
      refine y_aloadN X2.here hx (hb hby d1_4) rfl rfl (pc' := 5) rfl ?_
      refine y_iloadN X2.here hx (hb hby d1_5) rfl (pc' := 6) rfl ?_
      exact kt)
  obtain ⟨T5, h5, k5, X5, e5, E5, A5, st5⟩ := newP X2 hx hZ (hw _ (List.mem_of_getElem? (i := 12) rfl)) e2 (g := (mkF m 6 #[rv pr0, iv pi1] [(.int pi1), (.ref pr0)])) rfl (hb hby d1_6) rfl NG (cap := 9) NC (by decide) (by decide) (by decide)
  obtain ⟨b5, g5⟩ : ∃ z, z = h0.size := ⟨_, rfl⟩
  rw [← g5] at A5 st5
  have pre6 : ∀ t, Steps p.tables e below (T5.setTop (mkF m 8 #[rv pr0, iv pi1] [(.ref b5), (.ref pr0)])) t → Go t := fun t kt => pre4 t (st5 t kt)
  have lt7 : pr0 < b5 := Nat.lt_of_lt_of_le E_pr0.lt (Nat.le_of_eq g5.symm)
  have ne7 : pr0 ≠ b5 := Nat.ne_of_lt lt7
  have G8 : n0 ≤ b5 := Nat.le_trans (O0.1 ▸ O0.2.1) (Nat.le_of_eq g5.symm)
  have Z8 : h0.size ≤ b5 := Nat.le_trans K0.1 (Nat.le_of_eq g5.symm)
  have f9 : Exa Z h5 pr0 "com/example/stonegaze/stonegaze/Groups" := (E_pr0.ext E5)
  have f10 : Fld Z h5 pr0 "com/example/stonegaze/stonegaze/Groups" "groupOf" "[I" .null := (F_groupOf_pr0.ext E5)
  have f11 : Fld Z h5 pr0 "com/example/stonegaze/stonegaze/Groups" "colours" "[Lcom/example/stonegaze/stonegaze/Side;" .null := (F_colours_pr0.ext E5)
  have f12 : Fld Z h5 pr0 "com/example/stonegaze/stonegaze/Groups" "stones" "[I" .null := (F_stones_pr0.ext E5)
  have f13 : Fld Z h5 pr0 "com/example/stonegaze/stonegaze/Groups" "liberties" "[I" .null := (F_liberties_pr0.ext E5)
  have f14 : Fld Z h5 pr0 "com/example/stonegaze/stonegaze/Groups" "ringed" "[Z" .null := (F_ringed_pr0.ext E5)
  have f15 : Fld Z h5 pr0 "com/example/stonegaze/stonegaze/Groups" "aLiberty" "[I" .null := (F_aLiberty_pr0.ext E5)
  have f16 : Fld Z h5 pr0 "com/example/stonegaze/stonegaze/Groups" "count" "I" (.int (0 : Int32)) := (F_count_pr0.ext E5)
  have O8 := O0.ext E5
  have K8 : Keep h0 h5 [pr0] := K0.ext E5
  have f17 : Arv Z h5 b5 k5 .int pi1 [] (.int (0 : Int32)) := Arv.new A5 NG
  obtain ⟨T18, h18, X18, e18, W18, st18⟩ := putF X5 hx hZ hown (host := "") (Or.inl (hw _ (List.mem_of_getElem? (i := 13) rfl))) Via.refl e5 f10 f9 (Or.inr ⟨(hw _ (List.mem_of_getElem? (i := 14) rfl)), rfl, hnm⟩) (hw _ (List.mem_of_getElem? (i := 4) rfl)) (ty := (.array .int)) (by decide) rfl rfl (g := (mkF m 8 #[rv pr0, iv pi1] [(.ref b5), (.ref pr0)])) rfl rfl (hb hby d1_8)
  have pre19 : ∀ t, Steps p.tables e below (T18.setTop (mkF m 11 #[rv pr0, iv pi1] [])) t → Go t := fun t kt => pre6 t (st18 t kt)
  have f20 : Exa Z h18 pr0 "com/example/stonegaze/stonegaze/Groups" := (f9.wr W18)
  have f22 : Fld Z h18 pr0 "com/example/stonegaze/stonegaze/Groups" "colours" "[Lcom/example/stonegaze/stonegaze/Side;" .null := (f11.other W18 (Or.inr (slot_ne (Or.inr (hw _ (List.mem_of_getElem? (i := 22) rfl))) (Or.inr (hw _ (List.mem_of_getElem? (i := 14) rfl))) (by decide) (t := (.array (.object "com/example/stonegaze/stonegaze/Side"))) (t' := (.array .int)) (by decide) (by decide))))
  have f23 : Fld Z h18 pr0 "com/example/stonegaze/stonegaze/Groups" "stones" "[I" .null := (f12.other W18 (Or.inr (slot_ne (Or.inr (hw _ (List.mem_of_getElem? (i := 24) rfl))) (Or.inr (hw _ (List.mem_of_getElem? (i := 14) rfl))) (by decide) (t := (.array .int)) (t' := (.array .int)) (by decide) (by decide))))
  have f24 : Fld Z h18 pr0 "com/example/stonegaze/stonegaze/Groups" "liberties" "[I" .null := (f13.other W18 (Or.inr (slot_ne (Or.inr (hw _ (List.mem_of_getElem? (i := 26) rfl))) (Or.inr (hw _ (List.mem_of_getElem? (i := 14) rfl))) (by decide) (t := (.array .int)) (t' := (.array .int)) (by decide) (by decide))))
  have f25 : Fld Z h18 pr0 "com/example/stonegaze/stonegaze/Groups" "ringed" "[Z" .null := (f14.other W18 (Or.inr (slot_ne (Or.inr (hw _ (List.mem_of_getElem? (i := 29) rfl))) (Or.inr (hw _ (List.mem_of_getElem? (i := 14) rfl))) (by decide) (t := (.array .boolean)) (t' := (.array .int)) (by decide) (by decide))))
  have f26 : Fld Z h18 pr0 "com/example/stonegaze/stonegaze/Groups" "aLiberty" "[I" .null := (f15.other W18 (Or.inr (slot_ne (Or.inr (hw _ (List.mem_of_getElem? (i := 31) rfl))) (Or.inr (hw _ (List.mem_of_getElem? (i := 14) rfl))) (by decide) (t := (.array .int)) (t' := (.array .int)) (by decide) (by decide))))
  have f27 : Fld Z h18 pr0 "com/example/stonegaze/stonegaze/Groups" "count" "I" (.int (0 : Int32)) := (f16.other W18 (Or.inr (slot_ne (Or.inl (hw _ (List.mem_of_getElem? (i := 38) rfl))) (Or.inr (hw _ (List.mem_of_getElem? (i := 14) rfl))) (by decide) (t := .int) (t' := (.array .int)) (by decide) (by decide))))
  have f28 : Arv Z h18 b5 k5 .int pi1 [] (.int (0 : Int32)) := (f17.other W18 (Ne.symm ne7))
  have f29 : Fld Z h18 pr0 "com/example/stonegaze/stonegaze/Groups" "groupOf" "[I" (.ref b5) := f10.same W18
  have N30 := Fr.snoc X18 N0 G_pr0
  have O30 := O8.wr W18 G_pr0
  have K30 : Keep h0 h18 [pr0] := K8.wr W18 (Or.inl (List.mem_of_getElem? (i := 0) rfl))
  have pre31 : ∀ t, Steps p.tables e below (T18.setTop (mkF m 12 #[rv pr0, iv pi1] [(.ref pr0)])) t → Go t := fun t kt => pre19 t (by
      refine y_aloadN X18.here hx (hb hby d1_11) rfl rfl (pc' := 12) rfl ?_
      exact kt)
  obtain ⟨T32, X32, e32, st32⟩ := getF X18 hx hZ hown (host := "") (Or.inl (hw _ (List.mem_of_getElem? (i := 13) rfl))) Via.refl e18 f29 (g := (mkF m 12 #[rv pr0, iv pi1] [(.ref pr0)])) rfl rfl (hb hby d1_12)
  have pre33 : ∀ t, Steps p.tables e below (T32.setTop (mkF m 15 #[rv pr0, iv pi1] [(.ref b5)])) t → Go t := fun t kt => pre31 t (st32 t kt)
  have pre34 : ∀ t, Steps p.tables e below (T32.setTop (mkF m 16 #[rv pr0, iv pi1] [(.int (-1 : Int32)), (.ref b5)])) t → Go t := fun t kt => pre33 t (by
      refine y_iconst X32.here hx (hb hby d1_15) (v := (-1 : Int32)) rfl (pc' := 16) rfl ?_
      exact kt)
  obtain ⟨v35, _, ⟨T35, L35, k35, n35⟩, -, X35, ⟨Lc35, hQ35, l35, y35, z35⟩, st35⟩ := Jvm.LawKit.callS X32 hx (y := (⟨"java/util/Arrays", "fill", "([II)V"⟩ : MethodName)) hown (mvT hZ (hw _ (List.mem_of_getElem? (i := 15) rfl))) (mvT hZ (hw _ (List.mem_of_getElem? (i := 16) rfl))) (mvT hZ (hw _ (List.mem_of_getElem? (i := 17) rfl))) (mvT hZ (hw _ (List.mem_of_getElem? (i := 18) rfl))) (by decide) (backOf (W := 0) (rmF l Z a0 hw [] b5 (-1 : Int32) pi1 k5 h18 n0 O30 f28 G8) hZ (hw _ (List.mem_of_getElem? (i := 18) rfl)) (hw _ (List.mem_of_getElem? (i := 17) rfl)) (by decide) (by decide)) (g := (mkF m 16 #[rv pr0, iv pi1] [(.int (-1 : Int32)), (.ref b5)])) rfl (by rw [hml]; rfl) (argsL := [(.ref b5), (.int (-1 : Int32))]) (rest := []) (lenOf pd___II_V rfl) rfl (by show 2 * 0 + _ ≤ _; exact Nat.le_of_eq rfl) (hb hby d1_16) (fun _ _ => ⟨rfl, e32, (by decide : 1 + 0 ≤ _), (by decide : 9 + 0 ≤ _)⟩)
  dsimp only [Pt.U, Pt.locs, Pt.cells, Pt.slots] at X35 l35 y35 z35 st35 hQ35
  subst l35 y35 z35
  obtain ⟨hv35, N35q, K35q, p35_0⟩ := hQ35
  have N36 := Fr.app N30 N35q
  subst hv35
  have pre37 : ∀ t, Steps p.tables e below (T35.setTop (mkF m 19 #[rv pr0, iv pi1] [])) t → Go t := fun t kt => pre34 t (st35 t kt)
  obtain ⟨h35, eh35⟩ : ∃ z, T35.heap = z := ⟨_, rfl⟩
  rw [eh35] at K35q p35_0
  have f38 : Exa Z h35 pr0 "com/example/stonegaze/stonegaze/Groups" := (f20.keep K35q)
  have f39 : Fld Z h35 pr0 "com/example/stonegaze/stonegaze/Groups" "colours" "[Lcom/example/stonegaze/stonegaze/Side;" .null := (f22.keep K35q (ninS ne7 nin0))
  have f40 : Fld Z h35 pr0 "com/example/stonegaze/stonegaze/Groups" "stones" "[I" .null := (f23.keep K35q (ninS ne7 nin0))
  have f41 : Fld Z h35 pr0 "com/example/stonegaze/stonegaze/Groups" "liberties" "[I" .null := (f24.keep K35q (ninS ne7 nin0))
  have f42 : Fld Z h35 pr0 "com/example/stonegaze/stonegaze/Groups" "ringed" "[Z" .null := (f25.keep K35q (ninS ne7 nin0))
  have f43 : Fld Z h35 pr0 "com/example/stonegaze/stonegaze/Groups" "aLiberty" "[I" .null := (f26.keep K35q (ninS ne7 nin0))
  have f44 : Fld Z h35 pr0 "com/example/stonegaze/stonegaze/Groups" "count" "I" (.int (0 : Int32)) := (f27.keep K35q (ninS ne7 nin0))
  have f46 : Fld Z h35 pr0 "com/example/stonegaze/stonegaze/Groups" "groupOf" "[I" (.ref b5) := (f29.keep K35q (ninS ne7 nin0))
  have O47 := O30.keep K35q (allS G8 all0)
  have K47 : Keep h0 h35 [pr0] := K30.trans K35q (allS (P := fun x => x ∈ [pr0] ∨ h0.size ≤ x) (Or.inr Z8) all0)
  have pre48 : ∀ t, Steps p.tables e below (T35.setTop (mkF m 21 #[rv pr0, iv pi1] [(.int pi1), (.ref pr0)])) t → Go t := fun t kt => pre37 t (by
      refine y_aloadN X35.here hx (hb hby d1_19) rfl rfl (pc' := 20) rfl ?_
      refine y_iloadN X35.here hx (hb hby d1_20) rfl (pc' := 21) rfl ?_
      exact kt)
  obtain ⟨T49, h49, k49, X49, e49, E49, A49, V49, st49⟩ := newR X35 hx hZ hown (hw _ (List.mem_of_getElem? (i := 19) rfl)) (hw _ (List.mem_of_getElem? (i := 20) rfl)) eh35 (g := (mkF m 21 #[rv pr0, iv pi1] [(.int pi1), (.ref pr0)])) rfl (hb hby d1_21) rfl NG (cap := 9) NC (by decide) (by decide) (by decide)
  obtain ⟨b49, g49⟩ : ∃ z, z = h35.size := ⟨_, rfl⟩
  rw [← g49] at A49 st49
  have pre50 : ∀ t, Steps p.tables e below (T49.setTop (mkF m 24 #[rv pr0, iv pi1] [(.ref b49), (.ref pr0)])) t → Go t := fun t kt => pre48 t (st49 t kt)
  have lt51 : pr0 < b49 := Nat.lt_of_lt_of_le f38.lt (Nat.le_of_eq g49.symm)
  have ne51 : pr0 ≠ b49 := Nat.ne_of_lt lt51
  have lt52 : b5 < b49 := Nat.lt_of_lt_of_le p35_0.lt (Nat.le_of_eq g49.symm)
  have ne52 : b5 ≠ b49 := Nat.ne_of_lt lt52
  have G53 : n0 ≤ b49 := Nat.le_trans (O47.1 ▸ O47.2.1) (Nat.le_of_eq g49.symm)
  have Z53 : h0.size ≤ b49 := Nat.le_trans K47.1 (Nat.le_of_eq g49.symm)
  have f54 : Exa Z h49 pr0 "com/example/stonegaze/stonegaze/Groups" := (f38.ext E49)
  have f55 : Fld Z h49 pr0 "com/example/stonegaze/stonegaze/Groups" "colours" "[Lcom/example/stonegaze/stonegaze/Side;" .null := (f39.ext E49)
  have f56 : Fld Z h49 pr0 "com/example/stonegaze/stonegaze/Groups" "stones" "[I" .null := (f40.ext E49)
  have f57 : Fld Z h49 pr0 "com/example/stonegaze/stonegaze/Groups" "liberties" "[I" .null := (f41.ext E49)
  have f58 : Fld Z h49 pr0 "com/example/stonegaze/stonegaze/Groups" "ringed" "[Z" .null := (f42.ext E49)
  have f59 : Fld Z h49 pr0 "com/example/stonegaze/stonegaze/Groups" "aLiberty" "[I" .null := (f43.ext E49)
  have f60 : Fld Z h49 pr0 "com/example/stonegaze/stonegaze/Groups" "count" "I" (.int (0 : Int32)) := (f44.ext E49)
  have f61 : Fld Z h49 pr0 "com/example/stonegaze/stonegaze/Groups" "groupOf" "[I" (.ref b5) := (f46.ext E49)
  have f62 : Arv Z h49 b5 k5 .int pi1 [] (.int (-1 : Int32)) := (p35_0.ext E49)
  have O53 := O47.ext E49
  have K53 : Keep h0 h49 [pr0] := K47.ext E49
  have f63 : Arv Z h49 b49 k49 (.object "com/example/stonegaze/stonegaze/Side") pi1 [.null, .null] .null := (Arv.new A49 NG).pad (pad_rep [] .null 2)
  obtain ⟨T64, h64, X64, e64, W64, st64⟩ := putF X49 hx hZ hown (host := "") (Or.inl (hw _ (List.mem_of_getElem? (i := 21) rfl))) Via.refl e49 f55 f54 (Or.inr ⟨(hw _ (List.mem_of_getElem? (i := 22) rfl)), rfl, hnm⟩) (hw _ (List.mem_of_getElem? (i := 4) rfl)) (ty := (.array (.object "com/example/stonegaze/stonegaze/Side"))) (by decide) rfl rfl (g := (mkF m 24 #[rv pr0, iv pi1] [(.ref b49), (.ref pr0)])) rfl rfl (hb hby d1_24)
  have pre65 : ∀ t, Steps p.tables e below (T64.setTop (mkF m 27 #[rv pr0, iv pi1] [])) t → Go t := fun t kt => pre50 t (st64 t kt)
  have f66 : Exa Z h64 pr0 "com/example/stonegaze/stonegaze/Groups" := (f54.wr W64)
  have f68 : Fld Z h64 pr0 "com/example/stonegaze/stonegaze/Groups" "stones" "[I" .null := (f56.other W64 (Or.inr (slot_ne (Or.inr (hw _ (List.mem_of_getElem? (i := 24) rfl))) (Or.inr (hw _ (List.mem_of_getElem? (i := 22) rfl))) (by decide) (t := (.array .int)) (t' := (.array (.object "com/example/stonegaze/stonegaze/Side"))) (by decide) (by decide))))
  have f69 : Fld Z h64 pr0 "com/example/stonegaze/stonegaze/Groups" "liberties" "[I" .null := (f57.other W64 (Or.inr (slot_ne (Or.inr (hw _ (List.mem_of_getElem? (i := 26) rfl))) (Or.inr (hw _ (List.mem_of_getElem? (i := 22) rfl))) (by decide) (t := (.array .int)) (t' := (.array (.object "com/example/stonegaze/stonegaze/Side"))) (by decide) (by decide))))
  have f70 : Fld Z h64 pr0 "com/example/stonegaze/stonegaze/Groups" "ringed" "[Z" .null := (f58.other W64 (Or.inr (slot_ne (Or.inr (hw _ (List.mem_of_getElem? (i := 29) rfl))) (Or.inr (hw _ (List.mem_of_getElem? (i := 22) rfl))) (by decide) (t := (.array .boolean)) (t' := (.array (.object "com/example/stonegaze/stonegaze/Side"))) (by decide) (by decide))))
  have f71 : Fld Z h64 pr0 "com/example/stonegaze/stonegaze/Groups" "aLiberty" "[I" .null := (f59.other W64 (Or.inr (slot_ne (Or.inr (hw _ (List.mem_of_getElem? (i := 31) rfl))) (Or.inr (hw _ (List.mem_of_getElem? (i := 22) rfl))) (by decide) (t := (.array .int)) (t' := (.array (.object "com/example/stonegaze/stonegaze/Side"))) (by decide) (by decide))))
  have f72 : Fld Z h64 pr0 "com/example/stonegaze/stonegaze/Groups" "count" "I" (.int (0 : Int32)) := (f60.other W64 (Or.inr (slot_ne (Or.inl (hw _ (List.mem_of_getElem? (i := 38) rfl))) (Or.inr (hw _ (List.mem_of_getElem? (i := 22) rfl))) (by decide) (t := .int) (t' := (.array (.object "com/example/stonegaze/stonegaze/Side"))) (by decide) (by decide))))
  have f73 : Fld Z h64 pr0 "com/example/stonegaze/stonegaze/Groups" "groupOf" "[I" (.ref b5) := (f61.other W64 (Or.inr (slot_ne (Or.inr (hw _ (List.mem_of_getElem? (i := 14) rfl))) (Or.inr (hw _ (List.mem_of_getElem? (i := 22) rfl))) (by decide) (t := (.array .int)) (t' := (.array (.object "com/example/stonegaze/stonegaze/Side"))) (by decide) (by decide))))
  have f74 : Arv Z h64 b5 k5 .int pi1 [] (.int (-1 : Int32)) := (f62.other W64 (Ne.symm ne7))
  have f75 : Arv Z h64 b49 k49 (.object "com/example/stonegaze/stonegaze/Side") pi1 [.null, .null] .null := (f63.other W64 (Ne.symm ne51))
  have f76 : Fld Z h64 pr0 "com/example/stonegaze/stonegaze/Groups" "colours" "[Lcom/example/stonegaze/stonegaze/Side;" (.ref b49) := f55.same W64
  have N77 := Fr.snoc X64 N36 G_pr0
  have O77 := O53.wr W64 G_pr0
  have K77 : Keep h0 h64 [pr0] := K53.wr W64 (Or.inl (List.mem_of_getElem? (i := 0) rfl))
  have pre78 : ∀ t, Steps p.tables e below (T64.setTop (mkF m 29 #[rv pr0, iv pi1] [(.int pi1), (.ref pr0)])) t → Go t := fun t kt => pre65 t (by
      refine y_aloadN X64.here hx (hb hby d1_27) rfl rfl (pc' := 28) rfl ?_
      refine y_iloadN X64.here hx (hb hby d1_28) rfl (pc' := 29) rfl ?_
      exact kt)
  obtain ⟨T79, h79, k79, X79, e79, E79, A79, st79⟩ := newP X64 hx hZ (hw _ (List.mem_of_getElem? (i := 12) rfl)) e64 (g := (mkF m 29 #[rv pr0, iv pi1] [(.int pi1), (.ref pr0)])) rfl (hb hby d1_29) rfl NG (cap := 9) NC (by decide) (by decide) (by decide)
  obtain ⟨b79, g79⟩ : ∃ z, z = h64.size := ⟨_, rfl⟩
  rw [← g79] at A79 st79
  have pre80 : ∀ t, Steps p.tables e below (T79.setTop (mkF m 31 #[rv pr0, iv pi1] [(.ref b79), (.ref pr0)])) t → Go t := fun t kt => pre78 t (st79 t kt)
  have lt81 : pr0 < b79 := Nat.lt_of_lt_of_le f66.lt (Nat.le_of_eq g79.symm)
  have ne81 : pr0 ≠ b79 := Nat.ne_of_lt lt81
  have lt82 : b5 < b79 := Nat.lt_of_lt_of_le f74.lt (Nat.le_of_eq g79.symm)
  have ne82 : b5 ≠ b79 := Nat.ne_of_lt lt82
  have lt83 : b49 < b79 := Nat.lt_of_lt_of_le f75.lt (Nat.le_of_eq g79.symm)
  have ne83 : b49 ≠ b79 := Nat.ne_of_lt lt83
  have G84 : n0 ≤ b79 := Nat.le_trans (O77.1 ▸ O77.2.1) (Nat.le_of_eq g79.symm)
  have Z84 : h0.size ≤ b79 := Nat.le_trans K77.1 (Nat.le_of_eq g79.symm)
  have f85 : Exa Z h79 pr0 "com/example/stonegaze/stonegaze/Groups" := (f66.ext E79)
  have f86 : Fld Z h79 pr0 "com/example/stonegaze/stonegaze/Groups" "stones" "[I" .null := (f68.ext E79)
  have f87 : Fld Z h79 pr0 "com/example/stonegaze/stonegaze/Groups" "liberties" "[I" .null := (f69.ext E79)
  have f88 : Fld Z h79 pr0 "com/example/stonegaze/stonegaze/Groups" "ringed" "[Z" .null := (f70.ext E79)
  have f89 : Fld Z h79 pr0 "com/example/stonegaze/stonegaze/Groups" "aLiberty" "[I" .null := (f71.ext E79)
  have f90 : Fld Z h79 pr0 "com/example/stonegaze/stonegaze/Groups" "count" "I" (.int (0 : Int32)) := (f72.ext E79)
  have f91 : Fld Z h79 pr0 "com/example/stonegaze/stonegaze/Groups" "groupOf" "[I" (.ref b5) := (f73.ext E79)
  have f92 : Arv Z h79 b5 k5 .int pi1 [] (.int (-1 : Int32)) := (f74.ext E79)
  have f93 : Arv Z h79 b49 k49 (.object "com/example/stonegaze/stonegaze/Side") pi1 [.null, .null] .null := (f75.ext E79)
  have f94 : Fld Z h79 pr0 "com/example/stonegaze/stonegaze/Groups" "colours" "[Lcom/example/stonegaze/stonegaze/Side;" (.ref b49) := (f76.ext E79)
  have O84 := O77.ext E79
  have K84 : Keep h0 h79 [pr0] := K77.ext E79
  have f95 : Arv Z h79 b79 k79 .int pi1 [(.int (0 : Int32)), (.int (0 : Int32))] (.int (0 : Int32)) := (Arv.new A79 NG).pad (pad_rep [] (.int (0 : Int32)) 2)
  obtain ⟨T96, h96, X96, e96, W96, st96⟩ := putF X79 hx hZ hown (host := "") (Or.inl (hw _ (List.mem_of_getElem? (i := 23) rfl))) Via.refl e79 f86 f85 (Or.inr ⟨(hw _ (List.mem_of_getElem? (i := 24) rfl)), rfl, hnm⟩) (hw _ (List.mem_of_getElem? (i := 4) rfl)) (ty := (.array .int)) (by decide) rfl rfl (g := (mkF m 31 #[rv pr0, iv pi1] [(.ref b79), (.ref pr0)])) rfl rfl (hb hby d1_31)
  have pre97 : ∀ t, Steps p.tables e below (T96.setTop (mkF m 34 #[rv pr0, iv pi1] [])) t → Go t := fun t kt => pre80 t (st96 t kt)
  have f98 : Exa Z h96 pr0 "com/example/stonegaze/stonegaze/Groups" := (f85.wr W96)
  have f100 : Fld Z h96 pr0 "com/example/stonegaze/stonegaze/Groups" "liberties" "[I" .null := (f87.other W96 (Or.inr (slot_ne (Or.inr (hw _ (List.mem_of_getElem? (i := 26) rfl))) (Or.inr (hw _ (List.mem_of_getElem? (i := 24) rfl))) (by decide) (t := (.array .int)) (t' := (.array .int)) (by decide) (by decide))))
  have f101 : Fld Z h96 pr0 "com/example/stonegaze/stonegaze/Groups" "ringed" "[Z" .null := (f88.other W96 (Or.inr (slot_ne (Or.inr (hw _ (List.mem_of_getElem? (i := 29) rfl))) (Or.inr (hw _ (List.mem_of_getElem? (i := 24) rfl))) (by decide) (t := (.array .boolean)) (t' := (.array .int)) (by decide) (by decide))))
  have f102 : Fld Z h96 pr0 "com/example/stonegaze/stonegaze/Groups" "aLiberty" "[I" .null := (f89.other W96 (Or.inr (slot_ne (Or.inr (hw _ (List.mem_of_getElem? (i := 31) rfl))) (Or.inr (hw _ (List.mem_of_getElem? (i := 24) rfl))) (by decide) (t := (.array .int)) (t' := (.array .int)) (by decide) (by decide))))
  have f103 : Fld Z h96 pr0 "com/example/stonegaze/stonegaze/Groups" "count" "I" (.int (0 : Int32)) := (f90.other W96 (Or.inr (slot_ne (Or.inl (hw _ (List.mem_of_getElem? (i := 38) rfl))) (Or.inr (hw _ (List.mem_of_getElem? (i := 24) rfl))) (by decide) (t := .int) (t' := (.array .int)) (by decide) (by decide))))
  have f104 : Fld Z h96 pr0 "com/example/stonegaze/stonegaze/Groups" "groupOf" "[I" (.ref b5) := (f91.other W96 (Or.inr (slot_ne (Or.inr (hw _ (List.mem_of_getElem? (i := 14) rfl))) (Or.inr (hw _ (List.mem_of_getElem? (i := 24) rfl))) (by decide) (t := (.array .int)) (t' := (.array .int)) (by decide) (by decide))))
  have f105 : Arv Z h96 b5 k5 .int pi1 [] (.int (-1 : Int32)) := (f92.other W96 (Ne.symm ne7))
  have f106 : Arv Z h96 b49 k49 (.object "com/example/stonegaze/stonegaze/Side") pi1 [.null, .null] .null := (f93.other W96 (Ne.symm ne51))
  have f107 : Fld Z h96 pr0 "com/example/stonegaze/stonegaze/Groups" "colours" "[Lcom/example/stonegaze/stonegaze/Side;" (.ref b49) := (f94.other W96 (Or.inr (slot_ne (Or.inr (hw _ (List.mem_of_getElem? (i := 22) rfl))) (Or.inr (hw _ (List.mem_of_getElem? (i := 24) rfl))) (by decide) (t := (.array (.object "com/example/stonegaze/stonegaze/Side"))) (t' := (.array .int)) (by decide) (by decide))))
  have f108 : Arv Z h96 b79 k79 .int pi1 [(.int (0 : Int32)), (.int (0 : Int32))] (.int (0 : Int32)) := (f95.other W96 (Ne.symm ne81))
  have f109 : Fld Z h96 pr0 "com/example/stonegaze/stonegaze/Groups" "stones" "[I" (.ref b79) := f86.same W96
  have N110 := Fr.snoc X96 N77 G_pr0
  have O110 := O84.wr W96 G_pr0
  have K110 : Keep h0 h96 [pr0] := K84.wr W96 (Or.inl (List.mem_of_getElem? (i := 0) rfl))
  have pre111 : ∀ t, Steps p.tables e below (T96.setTop (mkF m 36 #[rv pr0, iv pi1] [(.int pi1), (.ref pr0)])) t → Go t := fun t kt => pre97 t (by
      refine y_aloadN X96.here hx (hb hby d1_34) rfl rfl (pc' := 35) rfl ?_
      refine y_iloadN X96.here hx (hb hby d1_35) rfl (pc' := 36) rfl ?_
      exact kt)
  obtain ⟨T112, h112, k112, X112, e112, E112, A112, st112⟩ := newP X96 hx hZ (hw _ (List.mem_of_getElem? (i := 12) rfl)) e96 (g := (mkF m 36 #[rv pr0, iv pi1] [(.int pi1), (.ref pr0)])) rfl (hb hby d1_36) rfl NG (cap := 9) NC (by decide) (by decide) (by decide)
  obtain ⟨b112, g112⟩ : ∃ z, z = h96.size := ⟨_, rfl⟩
  rw [← g112] at A112 st112
  have pre113 : ∀ t, Steps p.tables e below (T112.setTop (mkF m 38 #[rv pr0, iv pi1] [(.ref b112), (.ref pr0)])) t → Go t := fun t kt => pre111 t (st112 t kt)
  have lt114 : pr0 < b112 := Nat.lt_of_lt_of_le f98.lt (Nat.le_of_eq g112.symm)
  have ne114 : pr0 ≠ b112 := Nat.ne_of_lt lt114
  have lt115 : b5 < b112 := Nat.lt_of_lt_of_le f105.lt (Nat.le_of_eq g112.symm)
  have ne115 : b5 ≠ b112 := Nat.ne_of_lt lt115
  have lt116 : b49 < b112 := Nat.lt_of_lt_of_le f106.lt (Nat.le_of_eq g112.symm)
  have ne116 : b49 ≠ b112 := Nat.ne_of_lt lt116
  have lt117 : b79 < b112 := Nat.lt_of_lt_of_le f108.lt (Nat.le_of_eq g112.symm)
  have ne117 : b79 ≠ b112 := Nat.ne_of_lt lt117
  have G118 : n0 ≤ b112 := Nat.le_trans (O110.1 ▸ O110.2.1) (Nat.le_of_eq g112.symm)
  have Z118 : h0.size ≤ b112 := Nat.le_trans K110.1 (Nat.le_of_eq g112.symm)
  have f119 : Exa Z h112 pr0 "com/example/stonegaze/stonegaze/Groups" := (f98.ext E112)
  have f120 : Fld Z h112 pr0 "com/example/stonegaze/stonegaze/Groups" "liberties" "[I" .null := (f100.ext E112)
  have f121 : Fld Z h112 pr0 "com/example/stonegaze/stonegaze/Groups" "ringed" "[Z" .null := (f101.ext E112)
  have f122 : Fld Z h112 pr0 "com/example/stonegaze/stonegaze/Groups" "aLiberty" "[I" .null := (f102.ext E112)
  have f123 : Fld Z h112 pr0 "com/example/stonegaze/stonegaze/Groups" "count" "I" (.int (0 : Int32)) := (f103.ext E112)
  have f124 : Fld Z h112 pr0 "com/example/stonegaze/stonegaze/Groups" "groupOf" "[I" (.ref b5) := (f104.ext E112)
  have f125 : Arv Z h112 b5 k5 .int pi1 [] (.int (-1 : Int32)) := (f105.ext E112)
  have f126 : Arv Z h112 b49 k49 (.object "com/example/stonegaze/stonegaze/Side") pi1 [.null, .null] .null := (f106.ext E112)
  have f127 : Fld Z h112 pr0 "com/example/stonegaze/stonegaze/Groups" "colours" "[Lcom/example/stonegaze/stonegaze/Side;" (.ref b49) := (f107.ext E112)
  have f128 : Arv Z h112 b79 k79 .int pi1 [(.int (0 : Int32)), (.int (0 : Int32))] (.int (0 : Int32)) := (f108.ext E112)
  have f129 : Fld Z h112 pr0 "com/example/stonegaze/stonegaze/Groups" "stones" "[I" (.ref b79) := (f109.ext E112)
  have O118 := O110.ext E112
  have K118 : Keep h0 h112 [pr0] := K110.ext E112
  have f130 : Arv Z h112 b112 k112 .int pi1 [(.int (0 : Int32)), (.int (0 : Int32))] (.int (0 : Int32)) := (Arv.new A112 NG).pad (pad_rep [] (.int (0 : Int32)) 2)
  obtain ⟨T131, h131, X131, e131, W131, st131⟩ := putF X112 hx hZ hown (host := "") (Or.inl (hw _ (List.mem_of_getElem? (i := 25) rfl))) Via.refl e112 f120 f119 (Or.inr ⟨(hw _ (List.mem_of_getElem? (i := 26) rfl)), rfl, hnm⟩) (hw _ (List.mem_of_getElem? (i := 4) rfl)) (ty := (.array .int)) (by decide) rfl rfl (g := (mkF m 38 #[rv pr0, iv pi1] [(.ref b112), (.ref pr0)])) rfl rfl (hb hby d1_38)
  have pre132 : ∀ t, Steps p.tables e below (T131.setTop (mkF m 41 #[rv pr0, iv pi1] [])) t → Go t := fun t kt => pre113 t (st131 t kt)
  have f133 : Exa Z h131 pr0 "com/example/stonegaze/stonegaze/Groups" := (f119.wr W131)
  have f135 : Fld Z h131 pr0 "com/example/stonegaze/stonegaze/Groups" "ringed" "[Z" .null := (f121.other W131 (Or.inr (slot_ne (Or.inr (hw _ (List.mem_of_getElem? (i := 29) rfl))) (Or.inr (hw _ (List.mem_of_getElem? (i := 26) rfl))) (by decide) (t := (.array .boolean)) (t' := (.array .int)) (by decide) (by decide))))
  have f136 : Fld Z h131 pr0 "com/example/stonegaze/stonegaze/Groups" "aLiberty" "[I" .null := (f122.other W131 (Or.inr (slot_ne (Or.inr (hw _ (List.mem_of_getElem? (i := 31) rfl))) (Or.inr (hw _ (List.mem_of_getElem? (i := 26) rfl))) (by decide) (t := (.array .int)) (t' := (.array .int)) (by decide) (by decide))))
  have f137 : Fld Z h131 pr0 "com/example/stonegaze/stonegaze/Groups" "count" "I" (.int (0 : Int32)) := (f123.other W131 (Or.inr (slot_ne (Or.inl (hw _ (List.mem_of_getElem? (i := 38) rfl))) (Or.inr (hw _ (List.mem_of_getElem? (i := 26) rfl))) (by decide) (t := .int) (t' := (.array .int)) (by decide) (by decide))))
  have f138 : Fld Z h131 pr0 "com/example/stonegaze/stonegaze/Groups" "groupOf" "[I" (.ref b5) := (f124.other W131 (Or.inr (slot_ne (Or.inr (hw _ (List.mem_of_getElem? (i := 14) rfl))) (Or.inr (hw _ (List.mem_of_getElem? (i := 26) rfl))) (by decide) (t := (.array .int)) (t' := (.array .int)) (by decide) (by decide))))
  have f139 : Arv Z h131 b5 k5 .int pi1 [] (.int (-1 : Int32)) := (f125.other W131 (Ne.symm ne7))
  have f140 : Arv Z h131 b49 k49 (.object "com/example/stonegaze/stonegaze/Side") pi1 [.null, .null] .null := (f126.other W131 (Ne.symm ne51))
  have f141 : Fld Z h131 pr0 "com/example/stonegaze/stonegaze/Groups" "colours" "[Lcom/example/stonegaze/stonegaze/Side;" (.ref b49) := (f127.other W131 (Or.inr (slot_ne (Or.inr (hw _ (List.mem_of_getElem? (i := 22) rfl))) (Or.inr (hw _ (List.mem_of_getElem? (i := 26) rfl))) (by decide) (t := (.array (.object "com/example/stonegaze/stonegaze/Side"))) (t' := (.array .int)) (by decide) (by decide))))
  have f142 : Arv Z h131 b79 k79 .int pi1 [(.int (0 : Int32)), (.int (0 : Int32))] (.int (0 : Int32)) := (f128.other W131 (Ne.symm ne81))
  have f143 : Fld Z h131 pr0 "com/example/stonegaze/stonegaze/Groups" "stones" "[I" (.ref b79) := (f129.other W131 (Or.inr (slot_ne (Or.inr (hw _ (List.mem_of_getElem? (i := 24) rfl))) (Or.inr (hw _ (List.mem_of_getElem? (i := 26) rfl))) (by decide) (t := (.array .int)) (t' := (.array .int)) (by decide) (by decide))))
  have f144 : Arv Z h131 b112 k112 .int pi1 [(.int (0 : Int32)), (.int (0 : Int32))] (.int (0 : Int32)) := (f130.other W131 (Ne.symm ne114))
  have f145 : Fld Z h131 pr0 "com/example/stonegaze/stonegaze/Groups" "liberties" "[I" (.ref b112) := f120.same W131
  have N146 := Fr.snoc X131 N110 G_pr0
  have O146 := O118.wr W131 G_pr0
  have K146 : Keep h0 h131 [pr0] := K118.wr W131 (Or.inl (List.mem_of_getElem? (i := 0) rfl))
  have pre147 : ∀ t, Steps p.tables e below (T131.setTop (mkF m 43 #[rv pr0, iv pi1] [(.int pi1), (.ref pr0)])) t → Go t := fun t kt => pre132 t (by
      refine y_aloadN X131.here hx (hb hby d1_41) rfl rfl (pc' := 42) rfl ?_
      refine y_iloadN X131.here hx (hb hby d1_42) rfl (pc' := 43) rfl ?_
      exact kt)
  obtain ⟨T148, h148, k148, X148, e148, E148, A148, st148⟩ := newP X131 hx hZ (hw _ (List.mem_of_getElem? (i := 27) rfl)) e131 (g := (mkF m 43 #[rv pr0, iv pi1] [(.int pi1), (.ref pr0)])) rfl (hb hby d1_43) rfl NG (cap := 9) NC (by decide) (by decide) (by decide)
  obtain ⟨b148, g148⟩ : ∃ z, z = h131.size := ⟨_, rfl⟩
  rw [← g148] at A148 st148
  have pre149 : ∀ t, Steps p.tables e below (T148.setTop (mkF m 45 #[rv pr0, iv pi1] [(.ref b148), (.ref pr0)])) t → Go t := fun t kt => pre147 t (st148 t kt)
  have lt150 : pr0 < b148 := Nat.lt_of_lt_of_le f133.lt (Nat.le_of_eq g148.symm)
  have ne150 : pr0 ≠ b148 := Nat.ne_of_lt lt150
  have lt151 : b5 < b148 := Nat.lt_of_lt_of_le f139.lt (Nat.le_of_eq g148.symm)
  have ne151 : b5 ≠ b148 := Nat.ne_of_lt lt151
  have lt152 : b49 < b148 := Nat.lt_of_lt_of_le f140.lt (Nat.le_of_eq g148.symm)
  have ne152 : b49 ≠ b148 := Nat.ne_of_lt lt152
  have lt153 : b79 < b148 := Nat.lt_of_lt_of_le f142.lt (Nat.le_of_eq g148.symm)
  have ne153 : b79 ≠ b148 := Nat.ne_of_lt lt153
  have lt154 : b112 < b148 := Nat.lt_of_lt_of_le f144.lt (Nat.le_of_eq g148.symm)
  have ne154 : b112 ≠ b148 := Nat.ne_of_lt lt154
  have G155 : n0 ≤ b148 := Nat.le_trans (O146.1 ▸ O146.2.1) (Nat.le_of_eq g148.symm)
  have Z155 : h0.size ≤ b148 := Nat.le_trans K146.1 (Nat.le_of_eq g148.symm)
  have f156 : Exa Z h148 pr0 "com/example/stonegaze/stonegaze/Groups" := (f133.ext E148)
  have f157 : Fld Z h148 pr0 "com/example/stonegaze/stonegaze/Groups" "ringed" "[Z" .null := (f135.ext E148)
  have f158 : Fld Z h148 pr0 "com/example/stonegaze/stonegaze/Groups" "aLiberty" "[I" .null := (f136.ext E148)
  have f159 : Fld Z h148 pr0 "com/example/stonegaze/stonegaze/Groups" "count" "I" (.int (0 : Int32)) := (f137.ext E148)
  have f160 : Fld Z h148 pr0 "com/example/stonegaze/stonegaze/Groups" "groupOf" "[I" (.ref b5) := (f138.ext E148)
  have f161 : Arv Z h148 b5 k5 .int pi1 [] (.int (-1 : Int32)) := (f139.ext E148)
  have f162 : Arv Z h148 b49 k49 (.object "com/example/stonegaze/stonegaze/Side") pi1 [.null, .null] .null := (f140.ext E148)
  have f163 : Fld Z h148 pr0 "com/example/stonegaze/stonegaze/Groups" "colours" "[Lcom/example/stonegaze/stonegaze/Side;" (.ref b49) := (f141.ext E148)
  have f164 : Arv Z h148 b79 k79 .int pi1 [(.int (0 : Int32)), (.int (0 : Int32))] (.int (0 : Int32)) := (f142.ext E148)
  have f165 : Fld Z h148 pr0 "com/example/stonegaze/stonegaze/Groups" "stones" "[I" (.ref b79) := (f143.ext E148)
  have f166 : Arv Z h148 b112 k112 .int pi1 [(.int (0 : Int32)), (.int (0 : Int32))] (.int (0 : Int32)) := (f144.ext E148)
  have f167 : Fld Z h148 pr0 "com/example/stonegaze/stonegaze/Groups" "liberties" "[I" (.ref b112) := (f145.ext E148)
  have O155 := O146.ext E148
  have K155 : Keep h0 h148 [pr0] := K146.ext E148
  have f168 : Arv Z h148 b148 k148 .boolean pi1 [(.int (0 : Int32)), (.int (0 : Int32))] (.int (0 : Int32)) := (Arv.new A148 NG).pad (pad_rep [] (.int (0 : Int32)) 2)
  obtain ⟨T169, h169, X169, e169, W169, st169⟩ := putF X148 hx hZ hown (host := "") (Or.inl (hw _ (List.mem_of_getElem? (i := 28) rfl))) Via.refl e148 f157 f156 (Or.inr ⟨(hw _ (List.mem_of_getElem? (i := 29) rfl)), rfl, hnm⟩) (hw _ (List.mem_of_getElem? (i := 4) rfl)) (ty := (.array .boolean)) (by decide) rfl rfl (g := (mkF m 45 #[rv pr0, iv pi1] [(.ref b148), (.ref pr0)])) rfl rfl (hb hby d1_45)
  have pre170 : ∀ t, Steps p.tables e below (T169.setTop (mkF m 48 #[rv pr0, iv pi1] [])) t → Go t := fun t kt => pre149 t (st169 t kt)
  have f171 : Exa Z h169 pr0 "com/example/stonegaze/stonegaze/Groups" := (f156.wr W169)
  have f173 : Fld Z h169 pr0 "com/example/stonegaze/stonegaze/Groups" "aLiberty" "[I" .null := (f158.other W169 (Or.inr (slot_ne (Or.inr (hw _ (List.mem_of_getElem? (i := 31) rfl))) (Or.inr (hw _ (List.mem_of_getElem? (i := 29) rfl))) (by decide) (t := (.array .int)) (t' := (.array .boolean)) (by decide) (by decide))))
  have f174 : Fld Z h169 pr0 "com/example/stonegaze/stonegaze/Groups" "count" "I" (.int (0 : Int32)) := (f159.other W169 (Or.inr (slot_ne (Or.inl (hw _ (List.mem_of_getElem? (i := 38) rfl))) (Or.inr (hw _ (List.mem_of_getElem? (i := 29) rfl))) (by decide) (t := .int) (t' := (.array .boolean)) (by decide) (by decide))))
  have f175 : Fld Z h169 pr0 "com/example/stonegaze/stonegaze/Groups" "groupOf" "[I" (.ref b5) := (f160.other W169 (Or.inr (slot_ne (Or.inr (hw _ (List.mem_of_getElem? (i := 14) rfl))) (Or.inr (hw _ (List.mem_of_getElem? (i := 29) rfl))) (by decide) (t := (.array .int)) (t' := (.array .boolean)) (by decide) (by decide))))
  have f176 : Arv Z h169 b5 k5 .int pi1 [] (.int (-1 : Int32)) := (f161.other W169 (Ne.symm ne7))
  have f177 : Arv Z h169 b49 k49 (.object "com/example/stonegaze/stonegaze/Side") pi1 [.null, .null] .null := (f162.other W169 (Ne.symm ne51))
  have f178 : Fld Z h169 pr0 "com/example/stonegaze/stonegaze/Groups" "colours" "[Lcom/example/stonegaze/stonegaze/Side;" (.ref b49) := (f163.other W169 (Or.inr (slot_ne (Or.inr (hw _ (List.mem_of_getElem? (i := 22) rfl))) (Or.inr (hw _ (List.mem_of_getElem? (i := 29) rfl))) (by decide) (t := (.array (.object "com/example/stonegaze/stonegaze/Side"))) (t' := (.array .boolean)) (by decide) (by decide))))
  have f179 : Arv Z h169 b79 k79 .int pi1 [(.int (0 : Int32)), (.int (0 : Int32))] (.int (0 : Int32)) := (f164.other W169 (Ne.symm ne81))
  have f180 : Fld Z h169 pr0 "com/example/stonegaze/stonegaze/Groups" "stones" "[I" (.ref b79) := (f165.other W169 (Or.inr (slot_ne (Or.inr (hw _ (List.mem_of_getElem? (i := 24) rfl))) (Or.inr (hw _ (List.mem_of_getElem? (i := 29) rfl))) (by decide) (t := (.array .int)) (t' := (.array .boolean)) (by decide) (by decide))))
  have f181 : Arv Z h169 b112 k112 .int pi1 [(.int (0 : Int32)), (.int (0 : Int32))] (.int (0 : Int32)) := (f166.other W169 (Ne.symm ne114))
  have f182 : Fld Z h169 pr0 "com/example/stonegaze/stonegaze/Groups" "liberties" "[I" (.ref b112) := (f167.other W169 (Or.inr (slot_ne (Or.inr (hw _ (List.mem_of_getElem? (i := 26) rfl))) (Or.inr (hw _ (List.mem_of_getElem? (i := 29) rfl))) (by decide) (t := (.array .int)) (t' := (.array .boolean)) (by decide) (by decide))))
  have f183 : Arv Z h169 b148 k148 .boolean pi1 [(.int (0 : Int32)), (.int (0 : Int32))] (.int (0 : Int32)) := (f168.other W169 (Ne.symm ne150))
  have f184 : Fld Z h169 pr0 "com/example/stonegaze/stonegaze/Groups" "ringed" "[Z" (.ref b148) := f157.same W169
  have N185 := Fr.snoc X169 N146 G_pr0
  have O185 := O155.wr W169 G_pr0
  have K185 : Keep h0 h169 [pr0] := K155.wr W169 (Or.inl (List.mem_of_getElem? (i := 0) rfl))
  have pre186 : ∀ t, Steps p.tables e below (T169.setTop (mkF m 50 #[rv pr0, iv pi1] [(.int pi1), (.ref pr0)])) t → Go t := fun t kt => pre170 t (by
      refine y_aloadN X169.here hx (hb hby d1_48) rfl rfl (pc' := 49) rfl ?_
      refine y_iloadN X169.here hx (hb hby d1_49) rfl (pc' := 50) rfl ?_
      exact kt)
  obtain ⟨T187, h187, k187, X187, e187, E187, A187, st187⟩ := newP X169 hx hZ (hw _ (List.mem_of_getElem? (i := 12) rfl)) e169 (g := (mkF m 50 #[rv pr0, iv pi1] [(.int pi1), (.ref pr0)])) rfl (hb hby d1_50) rfl NG (cap := 9) NC (by decide) (by decide) (by decide)
  obtain ⟨b187, g187⟩ : ∃ z, z = h169.size := ⟨_, rfl⟩
  rw [← g187] at A187 st187
  have pre188 : ∀ t, Steps p.tables e below (T187.setTop (mkF m 52 #[rv pr0, iv pi1] [(.ref b187), (.ref pr0)])) t → Go t := fun t kt => pre186 t (st187 t kt)
  have lt189 : pr0 < b187 := Nat.lt_of_lt_of_le f171.lt (Nat.le_of_eq g187.symm)
  have ne189 : pr0 ≠ b187 := Nat.ne_of_lt lt189
  have lt190 : b5 < b187 := Nat.lt_of_lt_of_le f176.lt (Nat.le_of_eq g187.symm)
  have ne190 : b5 ≠ b187 := Nat.ne_of_lt lt190
  have lt191 : b49 < b187 := Nat.lt_of_lt_of_le f177.lt (Nat.le_of_eq g187.symm)
  have ne191 : b49 ≠ b187 := Nat.ne_of_lt lt191
  have lt192 : b79 < b187 := Nat.lt_of_lt_of_le f179.lt (Nat.le_of_eq g187.symm)
  have ne192 : b79 ≠ b187 := Nat.ne_of_lt lt192
  have lt193 : b112 < b187 := Nat.lt_of_lt_of_le f181.lt (Nat.le_of_eq g187.symm)
  have ne193 : b112 ≠ b187 := Nat.ne_of_lt lt193
  have lt194 : b148 < b187 := Nat.lt_of_lt_of_le f183.lt (Nat.le_of_eq g187.symm)
  have ne194 : b148 ≠ b187 := Nat.ne_of_lt lt194
  have G195 : n0 ≤ b187 := Nat.le_trans (O185.1 ▸ O185.2.1) (Nat.le_of_eq g187.symm)
  have Z195 : h0.size ≤ b187 := Nat.le_trans K185.1 (Nat.le_of_eq g187.symm)
  have f196 : Exa Z h187 pr0 "com/example/stonegaze/stonegaze/Groups" := (f171.ext E187)
  have f197 : Fld Z h187 pr0 "com/example/stonegaze/stonegaze/Groups" "aLiberty" "[I" .null := (f173.ext E187)
  have f198 : Fld Z h187 pr0 "com/example/stonegaze/stonegaze/Groups" "count" "I" (.int (0 : Int32)) := (f174.ext E187)
  have f199 : Fld Z h187 pr0 "com/example/stonegaze/stonegaze/Groups" "groupOf" "[I" (.ref b5) := (f175.ext E187)
  have f200 : Arv Z h187 b5 k5 .int pi1 [] (.int (-1 : Int32)) := (f176.ext E187)
  have f201 : Arv Z h187 b49 k49 (.object "com/example/stonegaze/stonegaze/Side") pi1 [.null, .null] .null := (f177.ext E187)
  have f202 : Fld Z h187 pr0 "com/example/stonegaze/stonegaze/Groups" "colours" "[Lcom/example/stonegaze/stonegaze/Side;" (.ref b49) := (f178.ext E187)
  have f203 : Arv Z h187 b79 k79 .int pi1 [(.int (0 : Int32)), (.int (0 : Int32))] (.int (0 : Int32)) := (f179.ext E187)
  have f204 : Fld Z h187 pr0 "com/example/stonegaze/stonegaze/Groups" "stones" "[I" (.ref b79) := (f180.ext E187)
  have f205 : Arv Z h187 b112 k112 .int pi1 [(.int (0 : Int32)), (.int (0 : Int32))] (.int (0 : Int32)) := (f181.ext E187)
  have f206 : Fld Z h187 pr0 "com/example/stonegaze/stonegaze/Groups" "liberties" "[I" (.ref b112) := (f182.ext E187)
  have f207 : Arv Z h187 b148 k148 .boolean pi1 [(.int (0 : Int32)), (.int (0 : Int32))] (.int (0 : Int32)) := (f183.ext E187)
  have f208 : Fld Z h187 pr0 "com/example/stonegaze/stonegaze/Groups" "ringed" "[Z" (.ref b148) := (f184.ext E187)
  have O195 := O185.ext E187
  have K195 : Keep h0 h187 [pr0] := K185.ext E187
  have f209 : Arv Z h187 b187 k187 .int pi1 [(.int (0 : Int32)), (.int (0 : Int32))] (.int (0 : Int32)) := (Arv.new A187 NG).pad (pad_rep [] (.int (0 : Int32)) 2)
  obtain ⟨T210, h210, X210, e210, W210, st210⟩ := putF X187 hx hZ hown (host := "") (Or.inl (hw _ (List.mem_of_getElem? (i := 30) rfl))) Via.refl e187 f197 f196 (Or.inr ⟨(hw _ (List.mem_of_getElem? (i := 31) rfl)), rfl, hnm⟩) (hw _ (List.mem_of_getElem? (i := 4) rfl)) (ty := (.array .int)) (by decide) rfl rfl (g := (mkF m 52 #[rv pr0, iv pi1] [(.ref b187), (.ref pr0)])) rfl rfl (hb hby d1_52)
  have pre211 : ∀ t, Steps p.tables e below (T210.setTop (mkF m 55 #[rv pr0, iv pi1] [])) t → Go t := fun t kt => pre188 t (st210 t kt)
  have f212 : Exa Z h210 pr0 "com/example/stonegaze/stonegaze/Groups" := (f196.wr W210)
  have f214 : Fld Z h210 pr0 "com/example/stonegaze/stonegaze/Groups" "count" "I" (.int (0 : Int32)) := (f198.other W210 (Or.inr (slot_ne (Or.inl (hw _ (List.mem_of_getElem? (i := 38) rfl))) (Or.inr (hw _ (List.mem_of_getElem? (i := 31) rfl))) (by decide) (t := .int) (t' := (.array .int)) (by decide) (by decide))))
  have f215 : Fld Z h210 pr0 "com/example/stonegaze/stonegaze/Groups" "groupOf" "[I" (.ref b5) := (f199.other W210 (Or.inr (slot_ne (Or.inr (hw _ (List.mem_of_getElem? (i := 14) rfl))) (Or.inr (hw _ (List.mem_of_getElem? (i := 31) rfl))) (by decide) (t := (.array .int)) (t' := (.array .int)) (by decide) (by decide))))
  have f216 : Arv Z h210 b5 k5 .int pi1 [] (.int (-1 : Int32)) := (f200.other W210 (Ne.symm ne7))
  have f217 : Arv Z h210 b49 k49 (.object "com/example/stonegaze/stonegaze/Side") pi1 [.null, .null] .null := (f201.other W210 (Ne.symm ne51))
  have f218 : Fld Z h210 pr0 "com/example/stonegaze/stonegaze/Groups" "colours" "[Lcom/example/stonegaze/stonegaze/Side;" (.ref b49) := (f202.other W210 (Or.inr (slot_ne (Or.inr (hw _ (List.mem_of_getElem? (i := 22) rfl))) (Or.inr (hw _ (List.mem_of_getElem? (i := 31) rfl))) (by decide) (t := (.array (.object "com/example/stonegaze/stonegaze/Side"))) (t' := (.array .int)) (by decide) (by decide))))
  have f219 : Arv Z h210 b79 k79 .int pi1 [(.int (0 : Int32)), (.int (0 : Int32))] (.int (0 : Int32)) := (f203.other W210 (Ne.symm ne81))
  have f220 : Fld Z h210 pr0 "com/example/stonegaze/stonegaze/Groups" "stones" "[I" (.ref b79) := (f204.other W210 (Or.inr (slot_ne (Or.inr (hw _ (List.mem_of_getElem? (i := 24) rfl))) (Or.inr (hw _ (List.mem_of_getElem? (i := 31) rfl))) (by decide) (t := (.array .int)) (t' := (.array .int)) (by decide) (by decide))))
  have f221 : Arv Z h210 b112 k112 .int pi1 [(.int (0 : Int32)), (.int (0 : Int32))] (.int (0 : Int32)) := (f205.other W210 (Ne.symm ne114))
  have f222 : Fld Z h210 pr0 "com/example/stonegaze/stonegaze/Groups" "liberties" "[I" (.ref b112) := (f206.other W210 (Or.inr (slot_ne (Or.inr (hw _ (List.mem_of_getElem? (i := 26) rfl))) (Or.inr (hw _ (List.mem_of_getElem? (i := 31) rfl))) (by decide) (t := (.array .int)) (t' := (.array .int)) (by decide) (by decide))))
  have f223 : Arv Z h210 b148 k148 .boolean pi1 [(.int (0 : Int32)), (.int (0 : Int32))] (.int (0 : Int32)) := (f207.other W210 (Ne.symm ne150))
  have f224 : Fld Z h210 pr0 "com/example/stonegaze/stonegaze/Groups" "ringed" "[Z" (.ref b148) := (f208.other W210 (Or.inr (slot_ne (Or.inr (hw _ (List.mem_of_getElem? (i := 29) rfl))) (Or.inr (hw _ (List.mem_of_getElem? (i := 31) rfl))) (by decide) (t := (.array .boolean)) (t' := (.array .int)) (by decide) (by decide))))
  have f225 : Arv Z h210 b187 k187 .int pi1 [(.int (0 : Int32)), (.int (0 : Int32))] (.int (0 : Int32)) := (f209.other W210 (Ne.symm ne189))
  have f226 : Fld Z h210 pr0 "com/example/stonegaze/stonegaze/Groups" "aLiberty" "[I" (.ref b187) := f197.same W210
  have N227 := Fr.snoc X210 N185 G_pr0
  have O227 := O195.wr W210 G_pr0
  have K227 : Keep h0 h210 [pr0] := K195.wr W210 (Or.inl (List.mem_of_getElem? (i := 0) rfl))
  obtain ⟨fs, hr, hrun, hended, hW, hsame⟩ := X210.leave (v := none) (fun _ => rfl)
  refine ⟨_, _, (hGo _).mp (pre211 _ ?_), hrun, hended, _, _, rfl, ?_, ⟨_, rfl⟩, hW, hsame.mono (by decide) (by decide)⟩
  · exact X210.returnOut hx Bd.returns (hb hby d1_55) hr
  · show Q1 Z pr0 pi1 h0 n0 _ T210.heap _
    rw [e210]
    exact ⟨b5, b49, b79, b112, b148, b187, k5, k49, k79, k112, k148, k187, rfl, N227, K227, f215, f218, f220, f222, f224, f226, f214, f216, f217, f219, f221, f223, f225, V49, Z8, lt52, lt83, lt117, lt154, lt194⟩
theorem d4_0 : decode prog_17_method_2_code 0 = .ok (.aload_n 0, 1) := by decide +kernel
theorem d4_1 : decode prog_17_method_2_code 1 = .ok (.getfield 21, 3) := by decide +kernel
theorem d4_4 : decode prog_17_method_2_code 4 = .ok (.aload_n 0, 1) := by decide +kernel
theorem d4_5 : decode prog_17_method_2_code 5 = .ok (.getfield 38, 3) := by decide +kernel
theorem d4_8 : decode prog_17_method_2_code 8 = .ok (.aload_n 1, 1) := by decide +kernel
theorem d4_9 : decode prog_17_method_2_code 9 = .ok (.aastore, 1) := by decide +kernel
theorem d4_10 : decode prog_17_method_2_code 10 = .ok (.aload_n 0, 1) := by decide +kernel
theorem d4_11 : decode prog_17_method_2_code 11 = .ok (.getfield 28, 3) := by decide +kernel
theorem d4_14 : decode prog_17_method_2_code 14 = .ok (.aload_n 0, 1) := by decide +kernel
theorem d4_15 : decode prog_17_method_2_code 15 = .ok (.getfield 38, 3) := by decide +kernel
theorem d4_18 : decode prog_17_method_2_code 18 = .ok (.iload_n 2, 1) := by decide +kernel
theorem d4_19 : decode prog_17_method_2_code 19 = .ok (.iastore, 1) := by decide +kernel
theorem d4_20 : decode prog_17_method_2_code 20 = .ok (.aload_n 0, 1) := by decide +kernel
theorem d4_21 : decode prog_17_method_2_code 21 = .ok (.getfield 35, 3) := by decide +kernel
theorem d4_24 : decode prog_17_method_2_code 24 = .ok (.aload_n 0, 1) := by decide +kernel
theorem d4_25 : decode prog_17_method_2_code 25 = .ok (.getfield 38, 3) := by decide +kernel
theorem d4_28 : decode prog_17_method_2_code 28 = .ok (.iload_n 3, 1) := by decide +kernel
theorem d4_29 : decode prog_17_method_2_code 29 = .ok (.iastore, 1) := by decide +kernel
theorem d4_30 : decode prog_17_method_2_code 30 = .ok (.aload_n 0, 1) := by decide +kernel
theorem d4_31 : decode prog_17_method_2_code 31 = .ok (.getfield 31, 3) := by decide +kernel
theorem d4_34 : decode prog_17_method_2_code 34 = .ok (.aload_n 0, 1) := by decide +kernel
theorem d4_35 : decode prog_17_method_2_code 35 = .ok (.getfield 38, 3) := by decide +kernel
theorem d4_38 : decode prog_17_method_2_code 38 = .ok (.iload 4, 2) := by decide +kernel
theorem d4_40 : decode prog_17_method_2_code 40 = .ok (.bastore, 1) := by decide +kernel
theorem d4_41 : decode prog_17_method_2_code 41 = .ok (.aload_n 0, 1) := by decide +kernel
theorem d4_42 : decode prog_17_method_2_code 42 = .ok (.dup, 1) := by decide +kernel
theorem d4_43 : decode prog_17_method_2_code 43 = .ok (.getfield 38, 3) := by decide +kernel
theorem d4_46 : decode prog_17_method_2_code 46 = .ok (.iconst 1, 1) := by decide +kernel
theorem d4_47 : decode prog_17_method_2_code 47 = .ok (.iadd, 1) := by decide +kernel
theorem d4_48 : decode prog_17_method_2_code 48 = .ok (.putfield 38, 3) := by decide +kernel
theorem d4_51 : decode prog_17_method_2_code 51 = .ok (.aload_n 0, 1) := by decide +kernel
theorem d4_52 : decode prog_17_method_2_code 52 = .ok (.getfield 38, 3) := by decide +kernel
theorem d4_55 : decode prog_17_method_2_code 55 = .ok (.iconst 1, 1) := by decide +kernel
theorem d4_56 : decode prog_17_method_2_code 56 = .ok (.isub, 1) := by decide +kernel
theorem d4_57 : decode prog_17_method_2_code 57 = .ok (.ireturn, 1) := by decide +kernel
theorem ef_4c0 (m : MethodId) (x0 : Addr) (x1 : Addr) (x2 : Int32) (x3 : Int32) (x4 : Int32) : entryFrame m #[(.ref x0), (.ref x1), (.int x2), (.int x3), (.int x4)] 5 = mkF m 0 #[rv x0, rv x1, iv x2, iv x3, iv x4] [] := by first | (simp [entryFrame, mkF, argsToLocals, Value.category]; done) | rfl
def Q4c0 (Z : State) (pr0 : Addr) (pr1 : Addr) (pi2 : Int32) (pi3 : Int32) (pi4 : Int32) (u_groupOf_pr0 : Addr) (u_colours_pr0 : Addr) (u_stones_pr0 : Addr) (u_liberties_pr0 : Addr) (u_ringed_pr0 : Addr) (u_aLiberty_pr0 : Addr) (nn : Int32) (kk_u_colours_pr0 : ClassId) (kk_u_liberties_pr0 : ClassId) (kk_u_aLiberty_pr0 : ClassId) (kk_u_ringed_pr0 : ClassId) (h0 : Heap) (n0 : Nat) (v : Option Value) (h : Heap) (L : List Loc) : Prop := v = some (.int (0 : Int32)) ∧ Fr n0 L ∧ Keep h0 h [pr0, u_colours_pr0, u_liberties_pr0, u_aLiberty_pr0, u_ringed_pr0] ∧ Fld Z h pr0 "com/example/stonegaze/stonegaze/Groups" "groupOf" "[I" (.ref u_groupOf_pr0) ∧ Fld Z h pr0 "com/example/stonegaze/stonegaze/Groups" "colours" "[Lcom/example/stonegaze/stonegaze/Side;" (.ref u_colours_pr0) ∧ Fld Z h pr0 "com/example/stonegaze/stonegaze/Groups" "stones" "[I" (.ref u_stones_pr0) ∧ Fld Z h pr0 "com/example/stonegaze/stonegaze/Groups" "liberties" "[I" (.ref u_liberties_pr0) ∧ Fld Z h pr0 "com/example/stonegaze/stonegaze/Groups" "ringed" "[Z" (.ref u_ringed_pr0) ∧ Fld Z h pr0 "com/example/stonegaze/stonegaze/Groups" "aLiberty" "[I" (.ref u_aLiberty_pr0) ∧ Fld Z h pr0 "com/example/stonegaze/stonegaze/Groups" "count" "I" (.int (1 : Int32)) ∧ Arv Z h u_colours_pr0 kk_u_colours_pr0 (.object "com/example/stonegaze/stonegaze/Side") nn [(.ref pr1), .null] .null ∧ Arv Z h u_liberties_pr0 kk_u_liberties_pr0 .int nn [(.int pi2), (.int (0 : Int32))] (.int (0 : Int32)) ∧ Arv Z h u_aLiberty_pr0 kk_u_aLiberty_pr0 .int nn [(.int pi3), (.int (0 : Int32))] (.int (0 : Int32)) ∧ Arv Z h u_ringed_pr0 kk_u_ringed_pr0 .boolean nn [(.int (nar .boolean pi4)), (.int (0 : Int32))] (.int (0 : Int32))
set_option maxRecDepth 65536 in
set_option maxHeartbeats 40000000 in
theorem rm4c0 (l : Launch) (Z : State) (a0 : Array Value) (hw : ∀ d ∈ tables_1, d.before a0 Z = true) (ws : List Jvm.Cond) (pr0 : Addr) (pr1 : Addr) (pi2 : Int32) (pi3 : Int32) (pi4 : Int32) (u_groupOf_pr0 : Addr) (u_colours_pr0 : Addr) (u_stones_pr0 : Addr) (u_liberties_pr0 : Addr) (u_ringed_pr0 : Addr) (u_aLiberty_pr0 : Addr) (nn : Int32) (kk_u_colours_pr0 : ClassId) (kk_u_liberties_pr0 : ClassId) (kk_u_aLiberty_pr0 : ClassId) (kk_u_ringed_pr0 : ClassId) (h0 : Heap) (n0 : Nat) (O0 : Old Z n0 h0) (E_pr0 : Exa Z h0 pr0 "com/example/stonegaze/stonegaze/Groups") (F_groupOf_pr0 : Fld Z h0 pr0 "com/example/stonegaze/stonegaze/Groups" "groupOf" "[I" (.ref u_groupOf_pr0)) (F_colours_pr0 : Fld Z h0 pr0 "com/example/stonegaze/stonegaze/Groups" "colours" "[Lcom/example/stonegaze/stonegaze/Side;" (.ref u_colours_pr0)) (F_stones_pr0 : Fld Z h0 pr0 "com/example/stonegaze/stonegaze/Groups" "stones" "[I" (.ref u_stones_pr0)) (F_liberties_pr0 : Fld Z h0 pr0 "com/example/stonegaze/stonegaze/Groups" "liberties" "[I" (.ref u_liberties_pr0)) (F_ringed_pr0 : Fld Z h0 pr0 "com/example/stonegaze/stonegaze/Groups" "ringed" "[Z" (.ref u_ringed_pr0)) (F_aLiberty_pr0 : Fld Z h0 pr0 "com/example/stonegaze/stonegaze/Groups" "aLiberty" "[I" (.ref u_aLiberty_pr0)) (F_count_pr0 : Fld Z h0 pr0 "com/example/stonegaze/stonegaze/Groups" "count" "I" (.int (0 : Int32))) (E_pr1 : Exa Z h0 pr1 "com/example/stonegaze/stonegaze/Side") (G_pr0 : n0 ≤ pr0) (G_u_colours_pr0 : n0 ≤ u_colours_pr0) (G_u_liberties_pr0 : n0 ≤ u_liberties_pr0) (G_u_aLiberty_pr0 : n0 ≤ u_aLiberty_pr0) (G_u_ringed_pr0 : n0 ≤ u_ringed_pr0) (OR : @LT.lt Nat instLTNat pr0 u_groupOf_pr0 ∧ @LT.lt Nat instLTNat u_groupOf_pr0 u_colours_pr0 ∧ @LT.lt Nat instLTNat u_colours_pr0 u_stones_pr0 ∧ @LT.lt Nat instLTNat u_stones_pr0 u_liberties_pr0 ∧ @LT.lt Nat instLTNat u_liberties_pr0 u_ringed_pr0 ∧ @LT.lt Nat instLTNat u_ringed_pr0 u_aLiberty_pr0) (L0 : (0 : Int32) < nn) (L1 : (1 : Int32) < nn) (V_u_colours_pr0 : Arv Z h0 u_colours_pr0 kk_u_colours_pr0 (.object "com/example/stonegaze/stonegaze/Side") nn [.null, .null] .null) (OV_u_colours_pr0 : Ovr Z kk_u_colours_pr0 "com/example/stonegaze/stonegaze/Side") (V_u_liberties_pr0 : Arv Z h0 u_liberties_pr0 kk_u_liberties_pr0 .int nn [(.int (0 : Int32)), (.int (0 : Int32))] (.int (0 : Int32))) (V_u_aLiberty_pr0 : Arv Z h0 u_aLiberty_pr0 kk_u_aLiberty_pr0 .int nn [(.int (0 : Int32)), (.int (0 : Int32))] (.int (0 : Int32))) (V_u_ringed_pr0 : Arv Z h0 u_ringed_pr0 kk_u_ringed_pr0 .boolean nn [(.int (0 : Int32)), (.int (0 : Int32))] (.int (0 : Int32))) :
    MetFree l (⟨"com/example/stonegaze/stonegaze/Groups", "add", "(Lcom/example/stonegaze/stonegaze/Side;IIZ)I"⟩ : MethodName) (head1 (Jvm.Cond.code (⟨"com/example/stonegaze/stonegaze/Groups", "add", "(Lcom/example/stonegaze/stonegaze/Side;IIZ)I"⟩ : MethodName) prog_17_method_2_code 5 (some .int) :: ws) ({ frames := 0, cells := 0, slots := 0, locals := 0 } : Room)) (fun a U => a = #[(.ref pr0), (.ref pr1), (.int pi2), (.int pi3), (.int pi4)] ∧ Z.Warmed39 U.vm ∧ U.heap = h0) (fun _ _ _ _ _ => True) (fun _ U o U' => ∃ v L, o = .returned v ∧ Q4c0 Z pr0 pr1 pi2 pi3 pi4 u_groupOf_pr0 u_colours_pr0 u_stones_pr0 u_liberties_pr0 u_ringed_pr0 u_aLiberty_pr0 nn kk_u_colours_pr0 kk_u_liberties_pr0 kk_u_aLiberty_pr0 kk_u_ringed_pr0 h0 n0 v U'.heap L ∧ FrameEnd U o U' L ({ frames := 0, cells := 0, slots := 0, locals := 0 } : Room).cells ({ frames := 0, cells := 0, slots := 0, locals := 0 } : Room).slots) := by
  refine MetFree.of_bodySF (plainFor_of_name pn_com_example_stonegaze_stonegaze_Groups) hisR ?_
  intro p e s m args below meth c s₁ Bd hml0 hP hK
  obtain ⟨rfl, hZ, hh⟩ := hP
  have hx := Bd.exec
  have hby := Bd.bytes
  have hml : c.maxLocals = 5 := hml0
  have hown : s.vm.findClass "com/example/stonegaze/stonegaze/Groups" = some m.cls := findClass_of_methodNamed Bd.named
  have hnm := (name_of_methodNamed Bd.named Bd.method).1
  have X0 : Stand p l e ({ frames := 0, cells := 0, slots := 0, locals := 0 } : Room) s m #[(.ref pr0), (.ref pr1), (.int pi2), (.int pi3), (.int pi4)] below meth c s₁ [] 0 0 := Stand.of_body Bd
  have e0 : s₁.heap = h0 := by rw [← hh, Bd.state]; rfl
  have N0 := Fr.nil n0
  obtain ⟨Go, hGo⟩ : ∃ P : State → Prop, ∀ t, P t ↔ Steps p.tables e below (s₁.setTop (entryFrame m #[(.ref pr0), (.ref pr1), (.int pi2), (.int pi3), (.int pi4)] 5)) t := ⟨_, fun _ => Iff.rfl⟩
  have pre0 : ∀ t, Steps p.tables e below (s₁.setTop (mkF m 0 #[rv pr0, rv pr1, iv pi2, iv pi3, iv pi4] [])) t → Go t := fun t k => (hGo t).mpr (castTop (ef_4c0 m pr0 pr1 pi2 pi3 pi4) k)
  have K0 : Keep h0 h0 [pr0, u_colours_pr0, u_liberties_pr0, u_aLiberty_pr0, u_ringed_pr0] := Keep.refl _ _
  have ne_pr0_u_groupOf_pr0 : pr0 ≠ u_groupOf_pr0 := Nat.ne_of_lt (by have := OR; omega)
  have ne_pr0_u_colours_pr0 : pr0 ≠ u_colours_pr0 := Nat.ne_of_lt (by have := OR; omega)
  have ne_pr0_u_stones_pr0 : pr0 ≠ u_stones_pr0 := Nat.ne_of_lt (by have := OR; omega)
  have ne_pr0_u_liberties_pr0 : pr0 ≠ u_liberties_pr0 := Nat.ne_of_lt (by have := OR; omega)
  have ne_pr0_u_ringed_pr0 : pr0 ≠ u_ringed_pr0 := Nat.ne_of_lt (by have := OR; omega)
  have ne_pr0_u_aLiberty_pr0 : pr0 ≠ u_aLiberty_pr0 := Nat.ne_of_lt (by have := OR; omega)
  have ne_u_groupOf_pr0_u_colours_pr0 : u_groupOf_pr0 ≠ u_colours_pr0 := Nat.ne_of_lt (by have := OR; omega)
  have ne_u_groupOf_pr0_u_stones_pr0 : u_groupOf_pr0 ≠ u_stones_pr0 := Nat.ne_of_lt (by have := OR; omega)
  have ne_u_groupOf_pr0_u_liberties_pr0 : u_groupOf_pr0 ≠ u_liberties_pr0 := Nat.ne_of_lt (by have := OR; omega)
  have ne_u_groupOf_pr0_u_ringed_pr0 : u_groupOf_pr0 ≠ u_ringed_pr0 := Nat.ne_of_lt (by have := OR; omega)
  have ne_u_groupOf_pr0_u_aLiberty_pr0 : u_groupOf_pr0 ≠ u_aLiberty_pr0 := Nat.ne_of_lt (by have := OR; omega)
  have ne_u_colours_pr0_u_stones_pr0 : u_colours_pr0 ≠ u_stones_pr0 := Nat.ne_of_lt (by have := OR; omega)
  have ne_u_colours_pr0_u_liberties_pr0 : u_colours_pr0 ≠ u_liberties_pr0 := Nat.ne_of_lt (by have := OR; omega)
  have ne_u_colours_pr0_u_ringed_pr0 : u_colours_pr0 ≠ u_ringed_pr0 := Nat.ne_of_lt (by have := OR; omega)
  have ne_u_colours_pr0_u_aLiberty_pr0 : u_colours_pr0 ≠ u_aLiberty_pr0 := Nat.ne_of_lt (by have := OR; omega)
  have ne_u_stones_pr0_u_liberties_pr0 : u_stones_pr0 ≠ u_liberties_pr0 := Nat.ne_of_lt (by have := OR; omega)
  have ne_u_stones_pr0_u_ringed_pr0 : u_stones_pr0 ≠ u_ringed_pr0 := Nat.ne_of_lt (by have := OR; omega)
  have ne_u_stones_pr0_u_aLiberty_pr0 : u_stones_pr0 ≠ u_aLiberty_pr0 := Nat.ne_of_lt (by have := OR; omega)
  have ne_u_liberties_pr0_u_ringed_pr0 : u_liberties_pr0 ≠ u_ringed_pr0 := Nat.ne_of_lt (by have := OR; omega)
  have ne_u_liberties_pr0_u_aLiberty_pr0 : u_liberties_pr0 ≠ u_aLiberty_pr0 := Nat.ne_of_lt (by have := OR; omega)
  have ne_u_ringed_pr0_u_aLiberty_pr0 : u_ringed_pr0 ≠ u_aLiberty_pr0 := Nat.ne_of_lt (by have := OR; omega)
  have pre1 : ∀ t, Steps p.tables e below (s₁.setTop (mkF m 1 #[rv pr0, rv pr1, iv pi2, iv pi3, iv pi4] [(.ref pr0)])) t → Go t := fun t kt => pre0 t (by
      refine y_aloadN X0.here hx (hb hby d4_0) rfl rfl (pc' := 1) rfl ?_
      exact kt)
  obtain ⟨T2, X2, e2, st2⟩ := getF X0 hx hZ hown (host := "") (Or.inl (hw _ (List.mem_of_getElem? (i := 21) rfl))) Via.refl e0 F_colours_pr0 (g := (mkF m 1 #[rv pr0, rv pr1, iv pi2, iv pi3, iv pi4] [(.ref pr0)])) rfl rfl (hb hby d4_1)
  have pre3 : ∀ t, Steps p.tables e below (T2.setTop (mkF m 4 #[rv pr0, rv pr1, iv pi2, iv pi3, iv pi4] [(.ref u_colours_pr0)])) t → Go t := fun t kt => pre1 t (st2 t kt)
  have pre4 : ∀ t, Steps p.tables e below (T2.setTop (mkF m 5 #[rv pr0, rv pr1, iv pi2, iv pi3, iv pi4] [(.ref pr0), (.ref u_colours_pr0)])) t → Go t := fun t kt => pre3 t (by
      refine y_aloadN X2.here hx (hb hby d4_4) rfl rfl (pc' := 5) rfl ?_
      exact kt)
  obtain ⟨T5, X5, e5, st5⟩ := getF X2 hx hZ hown (host := "") (Or.inl (hw _ (List.mem_of_getElem? (i := 37) rfl))) Via.refl e2 F_count_pr0 (g := (mkF m 5 #[rv pr0, rv pr1, iv pi2, iv pi3, iv pi4] [(.ref pr0), (.ref u_colours_pr0)])) rfl rfl (hb hby d4_5)
  have pre6 : ∀ t, Steps p.tables e below (T5.setTop (mkF m 8 #[rv pr0, rv pr1, iv pi2, iv pi3, iv pi4] [(.int (0 : Int32)), (.ref u_colours_pr0)])) t → Go t := fun t kt => pre4 t (st5 t kt)
  have pre7 : ∀ t, Steps p.tables e below (T5.setTop (mkF m 9 #[rv pr0, rv pr1, iv pi2, iv pi3, iv pi4] [(.ref pr1), (.int (0 : Int32)), (.ref u_colours_pr0)])) t → Go t := fun t kt => pre6 t (by
      refine y_aloadN X5.here hx (hb hby d4_8) rfl rfl (pc' := 9) rfl ?_
      exact kt)
  obtain ⟨c8, Ar8, q8, S8, M8, H8, G8⟩ := id V_u_colours_pr0
  have hin8 : ¬ ((0 : Int32) < 0 ∨ c8.slots.size ≤ ((0 : Int32)).toNatClampNeg) := inb_of S8 ⟨by decide, L0⟩
  obtain ⟨T9, h9, X9, e9, W9, st9⟩ := stR X5 hx hZ e5 Ar8 (j := (0 : Int32)) hin8 rfl (Sto.ofV Ar8 q8 OV_u_colours_pr0 (Ins.self E_pr1)) (g := (mkF m 9 #[rv pr0, rv pr1, iv pi2, iv pi3, iv pi4] [(.ref pr1), (.int (0 : Int32)), (.ref u_colours_pr0)])) rfl rfl (hb hby d4_9)
  have pre10 : ∀ t, Steps p.tables e below (T9.setTop (mkF m 10 #[rv pr0, rv pr1, iv pi2, iv pi3, iv pi4] [])) t → Go t := fun t kt => pre7 t (st9 t kt)
  have f12 : Arv Z h9 u_liberties_pr0 kk_u_liberties_pr0 .int nn [(.int (0 : Int32)), (.int (0 : Int32))] (.int (0 : Int32)) := (V_u_liberties_pr0.other W9 (Ne.symm ne_u_colours_pr0_u_liberties_pr0))
  have f13 : Arv Z h9 u_aLiberty_pr0 kk_u_aLiberty_pr0 .int nn [(.int (0 : Int32)), (.int (0 : Int32))] (.int (0 : Int32)) := (V_u_aLiberty_pr0.other W9 (Ne.symm ne_u_colours_pr0_u_aLiberty_pr0))
  have f14 : Arv Z h9 u_ringed_pr0 kk_u_ringed_pr0 .boolean nn [(.int (0 : Int32)), (.int (0 : Int32))] (.int (0 : Int32)) := (V_u_ringed_pr0.other W9 (Ne.symm ne_u_colours_pr0_u_ringed_pr0))
  have f15 : Exa Z h9 pr0 "com/example/stonegaze/stonegaze/Groups" := (E_pr0.wr W9)
  have f16 : Fld Z h9 pr0 "com/example/stonegaze/stonegaze/Groups" "groupOf" "[I" (.ref u_groupOf_pr0) := (F_groupOf_pr0.other W9 (Or.inl ne_pr0_u_colours_pr0))
  have f17 : Fld Z h9 pr0 "com/example/stonegaze/stonegaze/Groups" "colours" "[Lcom/example/stonegaze/stonegaze/Side;" (.ref u_colours_pr0) := (F_colours_pr0.other W9 (Or.inl ne_pr0_u_colours_pr0))
  have f18 : Fld Z h9 pr0 "com/example/stonegaze/stonegaze/Groups" "stones" "[I" (.ref u_stones_pr0) := (F_stones_pr0.other W9 (Or.inl ne_pr0_u_colours_pr0))
  have f19 : Fld Z h9 pr0 "com/example/stonegaze/stonegaze/Groups" "liberties" "[I" (.ref u_liberties_pr0) := (F_liberties_pr0.other W9 (Or.inl ne_pr0_u_colours_pr0))
  have f20 : Fld Z h9 pr0 "com/example/stonegaze/stonegaze/Groups" "ringed" "[Z" (.ref u_ringed_pr0) := (F_ringed_pr0.other W9 (Or.inl ne_pr0_u_colours_pr0))
  have f21 : Fld Z h9 pr0 "com/example/stonegaze/stonegaze/Groups" "aLiberty" "[I" (.ref u_aLiberty_pr0) := (F_aLiberty_pr0.other W9 (Or.inl ne_pr0_u_colours_pr0))
  have f22 : Fld Z h9 pr0 "com/example/stonegaze/stonegaze/Groups" "count" "I" (.int (0 : Int32)) := (F_count_pr0.other W9 (Or.inl ne_pr0_u_colours_pr0))
  have f23 : Exa Z h9 pr1 "com/example/stonegaze/stonegaze/Side" := (E_pr1.wr W9)
  have N24 := Fr.snoc X9 N0 G_u_colours_pr0
  have O24 := O0.wr W9 G_u_colours_pr0
  have K24 : Keep h0 h9 [pr0, u_colours_pr0, u_liberties_pr0, u_aLiberty_pr0, u_ringed_pr0] := K0.wr W9 (Or.inl (List.mem_of_getElem? (i := 1) rfl))
  have f25 : Arv Z h9 u_colours_pr0 kk_u_colours_pr0 (.object "com/example/stonegaze/stonegaze/Side") nn [(.ref pr1), .null] .null := Arv.set Ar8 q8 S8 M8 H8 G8 rfl W9 0 rfl (Nat.le_of_ble_eq_true rfl)
  have pre26 : ∀ t, Steps p.tables e below (T9.setTop (mkF m 11 #[rv pr0, rv pr1, iv pi2, iv pi3, iv pi4] [(.ref pr0)])) t → Go t := fun t kt => pre10 t (by
      refine y_aloadN X9.here hx (hb hby d4_10) rfl rfl (pc' := 11) rfl ?_
      exact kt)
  obtain ⟨T27, X27, e27, st27⟩ := getF X9 hx hZ hown (host := "") (Or.inl (hw _ (List.mem_of_getElem? (i := 25) rfl))) Via.refl e9 f19 (g := (mkF m 11 #[rv pr0, rv pr1, iv pi2, iv pi3, iv pi4] [(.ref pr0)])) rfl rfl (hb hby d4_11)
  have pre28 : ∀ t, Steps p.tables e below (T27.setTop (mkF m 14 #[rv pr0, rv pr1, iv pi2, iv pi3, iv pi4] [(.ref u_liberties_pr0)])) t → Go t := fun t kt => pre26 t (st27 t kt)
  have pre29 : ∀ t, Steps p.tables e below (T27.setTop (mkF m 15 #[rv pr0, rv pr1, iv pi2, iv pi3, iv pi4] [(.ref pr0), (.ref u_liberties_pr0)])) t → Go t := fun t kt => pre28 t (by
      refine y_aloadN X27.here hx (hb hby d4_14) rfl rfl (pc' := 15) rfl ?_
      exact kt)
  obtain ⟨T30, X30, e30, st30⟩ := getF X27 hx hZ hown (host := "") (Or.inl (hw _ (List.mem_of_getElem? (i := 37) rfl))) Via.refl e27 f22 (g := (mkF m 15 #[rv pr0, rv pr1, iv pi2, iv pi3, iv pi4] [(.ref pr0), (.ref u_liberties_pr0)])) rfl rfl (hb hby d4_15)
  have pre31 : ∀ t, Steps p.tables e below (T30.setTop (mkF m 18 #[rv pr0, rv pr1, iv pi2, iv pi3, iv pi4] [(.int (0 : Int32)), (.ref u_liberties_pr0)])) t → Go t := fun t kt => pre29 t (st30 t kt)
  have pre32 : ∀ t, Steps p.tables e below (T30.setTop (mkF m 19 #[rv pr0, rv pr1, iv pi2, iv pi3, iv pi4] [(.int pi2), (.int (0 : Int32)), (.ref u_liberties_pr0)])) t → Go t := fun t kt => pre31 t (by
      refine y_iloadN X30.here hx (hb hby d4_18) rfl (pc' := 19) rfl ?_
      exact kt)
  obtain ⟨c33, Ar33, q33, S33, M33, H33, G33⟩ := id f12
  have hin33 : ¬ ((0 : Int32) < 0 ∨ c33.slots.size ≤ ((0 : Int32)).toNatClampNeg) := inb_of S33 ⟨by decide, L0⟩
  obtain ⟨T34, h34, X34, e34, W34, st34⟩ := stI X30 hx hZ e30 Ar33 (j := (0 : Int32)) hin33 (g := (mkF m 19 #[rv pr0, rv pr1, iv pi2, iv pi3, iv pi4] [(.int pi2), (.int (0 : Int32)), (.ref u_liberties_pr0)])) rfl rfl (hb hby d4_19)
  have pre35 : ∀ t, Steps p.tables e below (T34.setTop (mkF m 20 #[rv pr0, rv pr1, iv pi2, iv pi3, iv pi4] [])) t → Go t := fun t kt => pre32 t (st34 t kt)
  have f37 : Arv Z h34 u_aLiberty_pr0 kk_u_aLiberty_pr0 .int nn [(.int (0 : Int32)), (.int (0 : Int32))] (.int (0 : Int32)) := (f13.other W34 (Ne.symm ne_u_liberties_pr0_u_aLiberty_pr0))
  have f38 : Arv Z h34 u_ringed_pr0 kk_u_ringed_pr0 .boolean nn [(.int (0 : Int32)), (.int (0 : Int32))] (.int (0 : Int32)) := (f14.other W34 (Ne.symm ne_u_liberties_pr0_u_ringed_pr0))
  have f39 : Exa Z h34 pr0 "com/example/stonegaze/stonegaze/Groups" := (f15.wr W34)
  have f40 : Fld Z h34 pr0 "com/example/stonegaze/stonegaze/Groups" "groupOf" "[I" (.ref u_groupOf_pr0) := (f16.other W34 (Or.inl ne_pr0_u_liberties_pr0))
  have f41 : Fld Z h34 pr0 "com/example/stonegaze/stonegaze/Groups" "colours" "[Lcom/example/stonegaze/stonegaze/Side;" (.ref u_colours_pr0) := (f17.other W34 (Or.inl ne_pr0_u_liberties_pr0))
  have f42 : Fld Z h34 pr0 "com/example/stonegaze/stonegaze/Groups" "stones" "[I" (.ref u_stones_pr0) := (f18.other W34 (Or.inl ne_pr0_u_liberties_pr0))
  have f43 : Fld Z h34 pr0 "com/example/stonegaze/stonegaze/Groups" "liberties" "[I" (.ref u_liberties_pr0) := (f19.other W34 (Or.inl ne_pr0_u_liberties_pr0))
  have f44 : Fld Z h34 pr0 "com/example/stonegaze/stonegaze/Groups" "ringed" "[Z" (.ref u_ringed_pr0) := (f20.other W34 (Or.inl ne_pr0_u_liberties_pr0))
  have f45 : Fld Z h34 pr0 "com/example/stonegaze/stonegaze/Groups" "aLiberty" "[I" (.ref u_aLiberty_pr0) := (f21.other W34 (Or.inl ne_pr0_u_liberties_pr0))
  have f46 : Fld Z h34 pr0 "com/example/stonegaze/stonegaze/Groups" "count" "I" (.int (0 : Int32)) := (f22.other W34 (Or.inl ne_pr0_u_liberties_pr0))
  have f47 : Exa Z h34 pr1 "com/example/stonegaze/stonegaze/Side" := (f23.wr W34)
  have f48 : Arv Z h34 u_colours_pr0 kk_u_colours_pr0 (.object "com/example/stonegaze/stonegaze/Side") nn [(.ref pr1), .null] .null := (f25.other W34 ne_u_colours_pr0_u_liberties_pr0)
  have N49 := Fr.snoc X34 N24 G_u_liberties_pr0
  have O49 := O24.wr W34 G_u_liberties_pr0
  have K49 : Keep h0 h34 [pr0, u_colours_pr0, u_liberties_pr0, u_aLiberty_pr0, u_ringed_pr0] := K24.wr W34 (Or.inl (List.mem_of_getElem? (i := 2) rfl))
  have f50 : Arv Z h34 u_liberties_pr0 kk_u_liberties_pr0 .int nn [(.int pi2), (.int (0 : Int32))] (.int (0 : Int32)) := Arv.set Ar33 q33 S33 M33 H33 G33 rfl W34 0 rfl (Nat.le_of_ble_eq_true rfl)
  have pre51 : ∀ t, Steps p.tables e below (T34.setTop (mkF m 21 #[rv pr0, rv pr1, iv pi2, iv pi3, iv pi4] [(.ref pr0)])) t → Go t := fun t kt => pre35 t (by
      refine y_aloadN X34.here hx (hb hby d4_20) rfl rfl (pc' := 21) rfl ?_
      exact kt)
  obtain ⟨T52, X52, e52, st52⟩ := getF X34 hx hZ hown (host := "") (Or.inl (hw _ (List.mem_of_getElem? (i := 30) rfl))) Via.refl e34 f45 (g := (mkF m 21 #[rv pr0, rv pr1, iv pi2, iv pi3, iv pi4] [(.ref pr0)])) rfl rfl (hb hby d4_21)
  have pre53 : ∀ t, Steps p.tables e below (T52.setTop (mkF m 24 #[rv pr0, rv pr1, iv pi2, iv pi3, iv pi4] [(.ref u_aLiberty_pr0)])) t → Go t := fun t kt => pre51 t (st52 t kt)
  have pre54 : ∀ t, Steps p.tables e below (T52.setTop (mkF m 25 #[rv pr0, rv pr1, iv pi2, iv pi3, iv pi4] [(.ref pr0), (.ref u_aLiberty_pr0)])) t → Go t := fun t kt => pre53 t (by
      refine y_aloadN X52.here hx (hb hby d4_24) rfl rfl (pc' := 25) rfl ?_
      exact kt)
  obtain ⟨T55, X55, e55, st55⟩ := getF X52 hx hZ hown (host := "") (Or.inl (hw _ (List.mem_of_getElem? (i := 37) rfl))) Via.refl e52 f46 (g := (mkF m 25 #[rv pr0, rv pr1, iv pi2, iv pi3, iv pi4] [(.ref pr0), (.ref u_aLiberty_pr0)])) rfl rfl (hb hby d4_25)
  have pre56 : ∀ t, Steps p.tables e below (T55.setTop (mkF m 28 #[rv pr0, rv pr1, iv pi2, iv pi3, iv pi4] [(.int (0 : Int32)), (.ref u_aLiberty_pr0)])) t → Go t := fun t kt => pre54 t (st55 t kt)
  have pre57 : ∀ t, Steps p.tables e below (T55.setTop (mkF m 29 #[rv pr0, rv pr1, iv pi2, iv pi3, iv pi4] [(.int pi3), (.int (0 : Int32)), (.ref u_aLiberty_pr0)])) t → Go t := fun t kt => pre56 t (by
      refine y_iloadN X55.here hx (hb hby d4_28) rfl (pc' := 29) rfl ?_
      exact kt)
  obtain ⟨c58, Ar58, q58, S58, M58, H58, G58⟩ := id f37
  have hin58 : ¬ ((0 : Int32) < 0 ∨ c58.slots.size ≤ ((0 : Int32)).toNatClampNeg) := inb_of S58 ⟨by decide, L0⟩
  obtain ⟨T59, h59, X59, e59, W59, st59⟩ := stI X55 hx hZ e55 Ar58 (j := (0 : Int32)) hin58 (g := (mkF m 29 #[rv pr0, rv pr1, iv pi2, iv pi3, iv pi4] [(.int pi3), (.int (0 : Int32)), (.ref u_aLiberty_pr0)])) rfl rfl (hb hby d4_29)
  have pre60 : ∀ t, Steps p.tables e below (T59.setTop (mkF m 30 #[rv pr0, rv pr1, iv pi2, iv pi3, iv pi4] [])) t → Go t := fun t kt => pre57 t (st59 t kt)
  have f62 : Arv Z h59 u_ringed_pr0 kk_u_ringed_pr0 .boolean nn [(.int (0 : Int32)), (.int (0 : Int32))] (.int (0 : Int32)) := (f38.other W59 ne_u_ringed_pr0_u_aLiberty_pr0)
  have f63 : Exa Z h59 pr0 "com/example/stonegaze/stonegaze/Groups" := (f39.wr W59)
  have f64 : Fld Z h59 pr0 "com/example/stonegaze/stonegaze/Groups" "groupOf" "[I" (.ref u_groupOf_pr0) := (f40.other W59 (Or.inl ne_pr0_u_aLiberty_pr0))
  have f65 : Fld Z h59 pr0 "com/example/stonegaze/stonegaze/Groups" "colours" "[Lcom/example/stonegaze/stonegaze/Side;" (.ref u_colours_pr0) := (f41.other W59 (Or.inl ne_pr0_u_aLiberty_pr0))
  have f66 : Fld Z h59 pr0 "com/example/stonegaze/stonegaze/Groups" "stones" "[I" (.ref u_stones_pr0) := (f42.other W59 (Or.inl ne_pr0_u_aLiberty_pr0))
  have f67 : Fld Z h59 pr0 "com/example/stonegaze/stonegaze/Groups" "liberties" "[I" (.ref u_liberties_pr0) := (f43.other W59 (Or.inl ne_pr0_u_aLiberty_pr0))
  have f68 : Fld Z h59 pr0 "com/example/stonegaze/stonegaze/Groups" "ringed" "[Z" (.ref u_ringed_pr0) := (f44.other W59 (Or.inl ne_pr0_u_aLiberty_pr0))
  have f69 : Fld Z h59 pr0 "com/example/stonegaze/stonegaze/Groups" "aLiberty" "[I" (.ref u_aLiberty_pr0) := (f45.other W59 (Or.inl ne_pr0_u_aLiberty_pr0))
  have f70 : Fld Z h59 pr0 "com/example/stonegaze/stonegaze/Groups" "count" "I" (.int (0 : Int32)) := (f46.other W59 (Or.inl ne_pr0_u_aLiberty_pr0))
  have f71 : Exa Z h59 pr1 "com/example/stonegaze/stonegaze/Side" := (f47.wr W59)
  have f72 : Arv Z h59 u_colours_pr0 kk_u_colours_pr0 (.object "com/example/stonegaze/stonegaze/Side") nn [(.ref pr1), .null] .null := (f48.other W59 ne_u_colours_pr0_u_aLiberty_pr0)
  have f73 : Arv Z h59 u_liberties_pr0 kk_u_liberties_pr0 .int nn [(.int pi2), (.int (0 : Int32))] (.int (0 : Int32)) := (f50.other W59 ne_u_liberties_pr0_u_aLiberty_pr0)
  have N74 := Fr.snoc X59 N49 G_u_aLiberty_pr0
  have O74 := O49.wr W59 G_u_aLiberty_pr0
  have K74 : Keep h0 h59 [pr0, u_colours_pr0, u_liberties_pr0, u_aLiberty_pr0, u_ringed_pr0] := K49.wr W59 (Or.inl (List.mem_of_getElem? (i := 3) rfl))
  have f75 : Arv Z h59 u_aLiberty_pr0 kk_u_aLiberty_pr0 .int nn [(.int pi3), (.int (0 : Int32))] (.int (0 : Int32)) := Arv.set Ar58 q58 S58 M58 H58 G58 rfl W59 0 rfl (Nat.le_of_ble_eq_true rfl)
  have pre76 : ∀ t, Steps p.tables e below (T59.setTop (mkF m 31 #[rv pr0, rv pr1, iv pi2, iv pi3, iv pi4] [(.ref pr0)])) t → Go t := fun t kt => pre60 t (by
      refine y_aloadN X59.here hx (hb hby d4_30) rfl rfl (pc' := 31) rfl ?_
      exact kt)
  obtain ⟨T77, X77, e77, st77⟩ := getF X59 hx hZ hown (host := "") (Or.inl (hw _ (List.mem_of_getElem? (i := 28) rfl))) Via.refl e59 f68 (g := (mkF m 31 #[rv pr0, rv pr1, iv pi2, iv pi3, iv pi4] [(.ref pr0)])) rfl rfl (hb hby d4_31)
  have pre78 : ∀ t, Steps p.tables e below (T77.setTop (mkF m 34 #[rv pr0, rv pr1, iv pi2, iv pi3, iv pi4] [(.ref u_ringed_pr0)])) t → Go t := fun t kt => pre76 t (st77 t kt)
  have pre79 : ∀ t, Steps p.tables e below (T77.setTop (mkF m 35 #[rv pr0, rv pr1, iv pi2, iv pi3, iv pi4] [(.ref pr0), (.ref u_ringed_pr0)])) t → Go t := fun t kt => pre78 t (by
      refine y_aloadN X77.here hx (hb hby d4_34) rfl rfl (pc' := 35) rfl ?_
      exact kt)
  obtain ⟨T80, X80, e80, st80⟩ := getF X77 hx hZ hown (host := "") (Or.inl (hw _ (List.mem_of_getElem? (i := 37) rfl))) Via.refl e77 f70 (g := (mkF m 35 #[rv pr0, rv pr1, iv pi2, iv pi3, iv pi4] [(.ref pr0), (.ref u_ringed_pr0)])) rfl rfl (hb hby d4_35)
  have pre81 : ∀ t, Steps p.tables e below (T80.setTop (mkF m 38 #[rv pr0, rv pr1, iv pi2, iv pi3, iv pi4] [(.int (0 : Int32)), (.ref u_ringed_pr0)])) t → Go t := fun t kt => pre79 t (st80 t kt)
  have pre82 : ∀ t, Steps p.tables e below (T80.setTop (mkF m 40 #[rv pr0, rv pr1, iv pi2, iv pi3, iv pi4] [(.int pi4), (.int (0 : Int32)), (.ref u_ringed_pr0)])) t → Go t := fun t kt => pre81 t (by
      refine y_iload X80.here hx (hb hby d4_38) rfl (pc' := 40) rfl ?_
      exact kt)
  obtain ⟨c83, Ar83, q83, S83, M83, H83, G83⟩ := id f62
  have hin83 : ¬ ((0 : Int32) < 0 ∨ c83.slots.size ≤ ((0 : Int32)).toNatClampNeg) := inb_of S83 ⟨by decide, L0⟩
  obtain ⟨T84, h84, X84, e84, W84, st84⟩ := stZ X80 hx hZ e80 Ar83 (j := (0 : Int32)) hin83 (g := (mkF m 40 #[rv pr0, rv pr1, iv pi2, iv pi3, iv pi4] [(.int pi4), (.int (0 : Int32)), (.ref u_ringed_pr0)])) rfl rfl (hb hby d4_40)
  have pre85 : ∀ t, Steps p.tables e below (T84.setTop (mkF m 41 #[rv pr0, rv pr1, iv pi2, iv pi3, iv pi4] [])) t → Go t := fun t kt => pre82 t (st84 t kt)
  have f87 : Exa Z h84 pr0 "com/example/stonegaze/stonegaze/Groups" := (f63.wr W84)
  have f88 : Fld Z h84 pr0 "com/example/stonegaze/stonegaze/Groups" "groupOf" "[I" (.ref u_groupOf_pr0) := (f64.other W84 (Or.inl ne_pr0_u_ringed_pr0))
  have f89 : Fld Z h84 pr0 "com/example/stonegaze/stonegaze/Groups" "colours" "[Lcom/example/stonegaze/stonegaze/Side;" (.ref u_colours_pr0) := (f65.other W84 (Or.inl ne_pr0_u_ringed_pr0))
  have f90 : Fld Z h84 pr0 "com/example/stonegaze/stonegaze/Groups" "stones" "[I" (.ref u_stones_pr0) := (f66.other W84 (Or.inl ne_pr0_u_ringed_pr0))
  have f91 : Fld Z h84 pr0 "com/example/stonegaze/stonegaze/Groups" "liberties" "[I" (.ref u_liberties_pr0) := (f67.other W84 (Or.inl ne_pr0_u_ringed_pr0))
  have f92 : Fld Z h84 pr0 "com/example/stonegaze/stonegaze/Groups" "ringed" "[Z" (.ref u_ringed_pr0) := (f68.other W84 (Or.inl ne_pr0_u_ringed_pr0))
  have f93 : Fld Z h84 pr0 "com/example/stonegaze/stonegaze/Groups" "aLiberty" "[I" (.ref u_aLiberty_pr0) := (f69.other W84 (Or.inl ne_pr0_u_ringed_pr0))
  have f94 : Fld Z h84 pr0 "com/example/stonegaze/stonegaze/Groups" "count" "I" (.int (0 : Int32)) := (f70.other W84 (Or.inl ne_pr0_u_ringed_pr0))
  have f95 : Exa Z h84 pr1 "com/example/stonegaze/stonegaze/Side" := (f71.wr W84)
  have f96 : Arv Z h84 u_colours_pr0 kk_u_colours_pr0 (.object "com/example/stonegaze/stonegaze/Side") nn [(.ref pr1), .null] .null := (f72.other W84 ne_u_colours_pr0_u_ringed_pr0)
  have f97 : Arv Z h84 u_liberties_pr0 kk_u_liberties_pr0 .int nn [(.int pi2), (.int (0 : Int32))] (.int (0 : Int32)) := (f73.other W84 ne_u_liberties_pr0_u_ringed_pr0)
  have f98 : Arv Z h84 u_aLiberty_pr0 kk_u_aLiberty_pr0 .int nn [(.int pi3), (.int (0 : Int32))] (.int (0 : Int32)) := (f75.other W84 (Ne.symm ne_u_ringed_pr0_u_aLiberty_pr0))
  have N99 := Fr.snoc X84 N74 G_u_ringed_pr0
  have O99 := O74.wr W84 G_u_ringed_pr0
  have K99 : Keep h0 h84 [pr0, u_colours_pr0, u_liberties_pr0, u_aLiberty_pr0, u_ringed_pr0] := K74.wr W84 (Or.inl (List.mem_of_getElem? (i := 4) rfl))
  have f100 : Arv Z h84 u_ringed_pr0 kk_u_ringed_pr0 .boolean nn [(.int (nar .boolean pi4)), (.int (0 : Int32))] (.int (0 : Int32)) := Arv.set Ar83 q83 S83 M83 H83 G83 (fits_nar_bool _) W84 0 rfl (Nat.le_of_ble_eq_true rfl)
  have pre101 : ∀ t, Steps p.tables e below (T84.setTop (mkF m 43 #[rv pr0, rv pr1, iv pi2, iv pi3, iv pi4] [(.ref pr0), (.ref pr0)])) t → Go t := fun t kt => pre85 t (by
      refine y_aloadN X84.here hx (hb hby d4_41) rfl rfl (pc' := 42) rfl ?_
      refine y_dup X84.here hx (hb hby d4_42) rfl (pc' := 43) rfl ?_
      exact kt)
  obtain ⟨T102, X102, e102, st102⟩ := getF X84 hx hZ hown (host := "") (Or.inl (hw _ (List.mem_of_getElem? (i := 37) rfl))) Via.refl e84 f94 (g := (mkF m 43 #[rv pr0, rv pr1, iv pi2, iv pi3, iv pi4] [(.ref pr0), (.ref pr0)])) rfl rfl (hb hby d4_43)
  have pre103 : ∀ t, Steps p.tables e below (T102.setTop (mkF m 46 #[rv pr0, rv pr1, iv pi2, iv pi3, iv pi4] [(.int (0 : Int32)), (.ref pr0)])) t → Go t := fun t kt => pre101 t (st102 t kt)
  have pre104 : ∀ t, Steps p.tables e below (T102.setTop (mkF m 48 #[rv pr0, rv pr1, iv pi2, iv pi3, iv pi4] [(.int (1 : Int32)), (.ref pr0)])) t → Go t := fun t kt => pre103 t (by
      refine y_iconst X102.here hx (hb hby d4_46) (v := (1 : Int32)) rfl (pc' := 47) rfl ?_
      refine y_iadd X102.here hx (hb hby d4_47) (z := (1 : Int32)) rfl (pc' := 48) rfl ?_
      exact kt)
  obtain ⟨T105, h105, X105, e105, W105, st105⟩ := putF X102 hx hZ hown (host := "") (Or.inl (hw _ (List.mem_of_getElem? (i := 37) rfl))) Via.refl e102 f94 f87 (Or.inl (hw _ (List.mem_of_getElem? (i := 38) rfl))) (hw _ (List.mem_of_getElem? (i := 4) rfl)) (ty := .int) (by decide) rfl rfl (g := (mkF m 48 #[rv pr0, rv pr1, iv pi2, iv pi3, iv pi4] [(.int (1 : Int32)), (.ref pr0)])) rfl rfl (hb hby d4_48)
  have pre106 : ∀ t, Steps p.tables e below (T105.setTop (mkF m 51 #[rv pr0, rv pr1, iv pi2, iv pi3, iv pi4] [])) t → Go t := fun t kt => pre104 t (st105 t kt)
  have f107 : Exa Z h105 pr0 "com/example/stonegaze/stonegaze/Groups" := (f87.wr W105)
  have f108 : Fld Z h105 pr0 "com/example/stonegaze/stonegaze/Groups" "groupOf" "[I" (.ref u_groupOf_pr0) := (f88.other W105 (Or.inr (slot_ne (Or.inr (hw _ (List.mem_of_getElem? (i := 14) rfl))) (Or.inl (hw _ (List.mem_of_getElem? (i := 38) rfl))) (by decide) (t := (.array .int)) (t' := .int) (by decide) (by decide))))
  have f109 : Fld Z h105 pr0 "com/example/stonegaze/stonegaze/Groups" "colours" "[Lcom/example/stonegaze/stonegaze/Side;" (.ref u_colours_pr0) := (f89.other W105 (Or.inr (slot_ne (Or.inr (hw _ (List.mem_of_getElem? (i := 22) rfl))) (Or.inl (hw _ (List.mem_of_getElem? (i := 38) rfl))) (by decide) (t := (.array (.object "com/example/stonegaze/stonegaze/Side"))) (t' := .int) (by decide) (by decide))))
  have f110 : Fld Z h105 pr0 "com/example/stonegaze/stonegaze/Groups" "stones" "[I" (.ref u_stones_pr0) := (f90.other W105 (Or.inr (slot_ne (Or.inr (hw _ (List.mem_of_getElem? (i := 24) rfl))) (Or.inl (hw _ (List.mem_of_getElem? (i := 38) rfl))) (by decide) (t := (.array .int)) (t' := .int) (by decide) (by decide))))
  have f111 : Fld Z h105 pr0 "com/example/stonegaze/stonegaze/Groups" "liberties" "[I" (.ref u_liberties_pr0) := (f91.other W105 (Or.inr (slot_ne (Or.inr (hw _ (List.mem_of_getElem? (i := 26) rfl))) (Or.inl (hw _ (List.mem_of_getElem? (i := 38) rfl))) (by decide) (t := (.array .int)) (t' := .int) (by decide) (by decide))))
  have f112 : Fld Z h105 pr0 "com/example/stonegaze/stonegaze/Groups" "ringed" "[Z" (.ref u_ringed_pr0) := (f92.other W105 (Or.inr (slot_ne (Or.inr (hw _ (List.mem_of_getElem? (i := 29) rfl))) (Or.inl (hw _ (List.mem_of_getElem? (i := 38) rfl))) (by decide) (t := (.array .boolean)) (t' := .int) (by decide) (by decide))))
  have f113 : Fld Z h105 pr0 "com/example/stonegaze/stonegaze/Groups" "aLiberty" "[I" (.ref u_aLiberty_pr0) := (f93.other W105 (Or.inr (slot_ne (Or.inr (hw _ (List.mem_of_getElem? (i := 31) rfl))) (Or.inl (hw _ (List.mem_of_getElem? (i := 38) rfl))) (by decide) (t := (.array .int)) (t' := .int) (by decide) (by decide))))
  have f115 : Exa Z h105 pr1 "com/example/stonegaze/stonegaze/Side" := (f95.wr W105)
  have f116 : Arv Z h105 u_colours_pr0 kk_u_colours_pr0 (.object "com/example/stonegaze/stonegaze/Side") nn [(.ref pr1), .null] .null := (f96.other W105 (Ne.symm ne_pr0_u_colours_pr0))
  have f117 : Arv Z h105 u_liberties_pr0 kk_u_liberties_pr0 .int nn [(.int pi2), (.int (0 : Int32))] (.int (0 : Int32)) := (f97.other W105 (Ne.symm ne_pr0_u_liberties_pr0))
  have f118 : Arv Z h105 u_aLiberty_pr0 kk_u_aLiberty_pr0 .int nn [(.int pi3), (.int (0 : Int32))] (.int (0 : Int32)) := (f98.other W105 (Ne.symm ne_pr0_u_aLiberty_pr0))
  have f119 : Arv Z h105 u_ringed_pr0 kk_u_ringed_pr0 .boolean nn [(.int (nar .boolean pi4)), (.int (0 : Int32))] (.int (0 : Int32)) := (f100.other W105 (Ne.symm ne_pr0_u_ringed_pr0))
  have f120 : Fld Z h105 pr0 "com/example/stonegaze/stonegaze/Groups" "count" "I" (.int (1 : Int32)) := f94.same W105
  have N121 := Fr.snoc X105 N99 G_pr0
  have O121 := O99.wr W105 G_pr0
  have K121 : Keep h0 h105 [pr0, u_colours_pr0, u_liberties_pr0, u_aLiberty_pr0, u_ringed_pr0] := K99.wr W105 (Or.inl (List.mem_of_getElem? (i := 0) rfl))
  have pre122 : ∀ t, Steps p.tables e below (T105.setTop (mkF m 52 #[rv pr0, rv pr1, iv pi2, iv pi3, iv pi4] [(.ref pr0)])) t → Go t := fun t kt => pre106 t (by
      refine y_aloadN X105.here hx (hb hby d4_51) rfl rfl (pc' := 52) rfl ?_
      exact kt)
  obtain ⟨T123, X123, e123, st123⟩ := getF X105 hx hZ hown (host := "") (Or.inl (hw _ (List.mem_of_getElem? (i := 37) rfl))) Via.refl e105 f120 (g := (mkF m 52 #[rv pr0, rv pr1, iv pi2, iv pi3, iv pi4] [(.ref pr0)])) rfl rfl (hb hby d4_52)
  have pre124 : ∀ t, Steps p.tables e below (T123.setTop (mkF m 55 #[rv pr0, rv pr1, iv pi2, iv pi3, iv pi4] [(.int (1 : Int32))])) t → Go t := fun t kt => pre122 t (st123 t kt)
  have pre125 : ∀ t, Steps p.tables e below (T123.setTop (mkF m 57 #[rv pr0, rv pr1, iv pi2, iv pi3, iv pi4] [(.int (0 : Int32))])) t → Go t := fun t kt => pre124 t (by
      refine y_iconst X123.here hx (hb hby d4_55) (v := (1 : Int32)) rfl (pc' := 56) rfl ?_
      refine y_isub X123.here hx (hb hby d4_56) (z := (0 : Int32)) rfl (pc' := 57) rfl ?_
      exact kt)
  obtain ⟨fs, hr, hrun, hended, hW, hsame⟩ := X123.leave (v := some (.int (0 : Int32))) (fun h => by rw [Bd.returns] at h; cases h)
  refine ⟨_, _, (hGo _).mp (pre125 _ ?_), hrun, hended, _, _, rfl, ?_, ⟨_, rfl⟩, hW, hsame.mono (by decide) (by decide)⟩
  · exact retOut X123 hx Bd.returns rfl (Or.inl ⟨rfl, Or.inl rfl, _, rfl⟩) (hb hby d4_57) hr
  · show Q4c0 Z pr0 pr1 pi2 pi3 pi4 u_groupOf_pr0 u_colours_pr0 u_stones_pr0 u_liberties_pr0 u_ringed_pr0 u_aLiberty_pr0 nn kk_u_colours_pr0 kk_u_liberties_pr0 kk_u_aLiberty_pr0 kk_u_ringed_pr0 h0 n0 _ T123.heap _
    rw [e123]
    exact ⟨rfl, N121, K121, f108, f109, f110, f111, f112, f113, f120, f116, f117, f118, f119⟩
theorem ef_4c1 (m : MethodId) (x0 : Addr) (x1 : Addr) (x2 : Int32) (x3 : Int32) (x4 : Int32) : entryFrame m #[(.ref x0), (.ref x1), (.int x2), (.int x3), (.int x4)] 5 = mkF m 0 #[rv x0, rv x1, iv x2, iv x3, iv x4] [] := by first | (simp [entryFrame, mkF, argsToLocals, Value.category]; done) | rfl
def Q4c1 (Z : State) (pr0 : Addr) (pr1 : Addr) (pi2 : Int32) (pi3 : Int32) (pi4 : Int32) (u_groupOf_pr0 : Addr) (u_colours_pr0 : Addr) (u_stones_pr0 : Addr) (u_liberties_pr0 : Addr) (u_ringed_pr0 : Addr) (u_aLiberty_pr0 : Addr) (nn : Int32) (kk_u_colours_pr0 : ClassId) (y_c0 : Addr) (kk_u_liberties_pr0 : ClassId) (y_l0 : Int32) (kk_u_aLiberty_pr0 : ClassId) (y_a0 : Int32) (kk_u_ringed_pr0 : ClassId) (y_r0 : Int32) (h0 : Heap) (n0 : Nat) (v : Option Value) (h : Heap) (L : List Loc) : Prop := v = some (.int (1 : Int32)) ∧ Fr n0 L ∧ Keep h0 h [pr0, u_colours_pr0, u_liberties_pr0, u_aLiberty_pr0, u_ringed_pr0] ∧ Fld Z h pr0 "com/example/stonegaze/stonegaze/Groups" "groupOf" "[I" (.ref u_groupOf_pr0) ∧ Fld Z h pr0 "com/example/stonegaze/stonegaze/Groups" "colours" "[Lcom/example/stonegaze/stonegaze/Side;" (.ref u_colours_pr0) ∧ Fld Z h pr0 "com/example/stonegaze/stonegaze/Groups" "stones" "[I" (.ref u_stones_pr0) ∧ Fld Z h pr0 "com/example/stonegaze/stonegaze/Groups" "liberties" "[I" (.ref u_liberties_pr0) ∧ Fld Z h pr0 "com/example/stonegaze/stonegaze/Groups" "ringed" "[Z" (.ref u_ringed_pr0) ∧ Fld Z h pr0 "com/example/stonegaze/stonegaze/Groups" "aLiberty" "[I" (.ref u_aLiberty_pr0) ∧ Fld Z h pr0 "com/example/stonegaze/stonegaze/Groups" "count" "I" (.int (2 : Int32)) ∧ Arv Z h u_colours_pr0 kk_u_colours_pr0 (.object "com/example/stonegaze/stonegaze/Side") nn [(.ref y_c0), (.ref pr1)] .null ∧ Arv Z h u_liberties_pr0 kk_u_liberties_pr0 .int nn [(.int y_l0), (.int pi2)] (.int (0 : Int32)) ∧ Arv Z h u_aLiberty_pr0 kk_u_aLiberty_pr0 .int nn [(.int y_a0), (.int pi3)] (.int (0 : Int32)) ∧ Arv Z h u_ringed_pr0 kk_u_ringed_pr0 .boolean nn [(.int y_r0), (.int (nar .boolean pi4))] (.int (0 : Int32))
set_option maxRecDepth 65536 in
set_option maxHeartbeats 40000000 in
theorem rm4c1 (l : Launch) (Z : State) (a0 : Array Value) (hw : ∀ d ∈ tables_1, d.before a0 Z = true) (ws : List Jvm.Cond) (pr0 : Addr) (pr1 : Addr) (pi2 : Int32) (pi3 : Int32) (pi4 : Int32) (u_groupOf_pr0 : Addr) (u_colours_pr0 : Addr) (u_stones_pr0 : Addr) (u_liberties_pr0 : Addr) (u_ringed_pr0 : Addr) (u_aLiberty_pr0 : Addr) (nn : Int32) (kk_u_colours_pr0 : ClassId) (y_c0 : Addr) (kk_u_liberties_pr0 : ClassId) (y_l0 : Int32) (kk_u_aLiberty_pr0 : ClassId) (y_a0 : Int32) (kk_u_ringed_pr0 : ClassId) (y_r0 : Int32) (h0 : Heap) (n0 : Nat) (O0 : Old Z n0 h0) (E_pr0 : Exa Z h0 pr0 "com/example/stonegaze/stonegaze/Groups") (F_groupOf_pr0 : Fld Z h0 pr0 "com/example/stonegaze/stonegaze/Groups" "groupOf" "[I" (.ref u_groupOf_pr0)) (F_colours_pr0 : Fld Z h0 pr0 "com/example/stonegaze/stonegaze/Groups" "colours" "[Lcom/example/stonegaze/stonegaze/Side;" (.ref u_colours_pr0)) (F_stones_pr0 : Fld Z h0 pr0 "com/example/stonegaze/stonegaze/Groups" "stones" "[I" (.ref u_stones_pr0)) (F_liberties_pr0 : Fld Z h0 pr0 "com/example/stonegaze/stonegaze/Groups" "liberties" "[I" (.ref u_liberties_pr0)) (F_ringed_pr0 : Fld Z h0 pr0 "com/example/stonegaze/stonegaze/Groups" "ringed" "[Z" (.ref u_ringed_pr0)) (F_aLiberty_pr0 : Fld Z h0 pr0 "com/example/stonegaze/stonegaze/Groups" "aLiberty" "[I" (.ref u_aLiberty_pr0)) (F_count_pr0 : Fld Z h0 pr0 "com/example/stonegaze/stonegaze/Groups" "count" "I" (.int (1 : Int32))) (E_pr1 : Exa Z h0 pr1 "com/example/stonegaze/stonegaze/Side") (G_pr0 : n0 ≤ pr0) (G_u_colours_pr0 : n0 ≤ u_colours_pr0) (G_u_liberties_pr0 : n0 ≤ u_liberties_pr0) (G_u_aLiberty_pr0 : n0 ≤ u_aLiberty_pr0) (G_u_ringed_pr0 : n0 ≤ u_ringed_pr0) (OR : @LT.lt Nat instLTNat pr0 u_groupOf_pr0 ∧ @LT.lt Nat instLTNat u_groupOf_pr0 u_colours_pr0 ∧ @LT.lt Nat instLTNat u_colours_pr0 u_stones_pr0 ∧ @LT.lt Nat instLTNat u_stones_pr0 u_liberties_pr0 ∧ @LT.lt Nat instLTNat u_liberties_pr0 u_ringed_pr0 ∧ @LT.lt Nat instLTNat u_ringed_pr0 u_aLiberty_pr0) (L0 : (0 : Int32) < nn) (L1 : (1 : Int32) < nn) (V_u_colours_pr0 : Arv Z h0 u_colours_pr0 kk_u_colours_pr0 (.object "com/example/stonegaze/stonegaze/Side") nn [(.ref y_c0), .null] .null) (OV_u_colours_pr0 : Ovr Z kk_u_colours_pr0 "com/example/stonegaze/stonegaze/Side") (V_u_liberties_pr0 : Arv Z h0 u_liberties_pr0 kk_u_liberties_pr0 .int nn [(.int y_l0), (.int (0 : Int32))] (.int (0 : Int32))) (V_u_aLiberty_pr0 : Arv Z h0 u_aLiberty_pr0 kk_u_aLiberty_pr0 .int nn [(.int y_a0), (.int (0 : Int32))] (.int (0 : Int32))) (V_u_ringed_pr0 : Arv Z h0 u_ringed_pr0 kk_u_ringed_pr0 .boolean nn [(.int y_r0), (.int (0 : Int32))] (.int (0 : Int32))) :
    MetFree l (⟨"com/example/stonegaze/stonegaze/Groups", "add", "(Lcom/example/stonegaze/stonegaze/Side;IIZ)I"⟩ : MethodName) (head1 (Jvm.Cond.code (⟨"com/example/stonegaze/stonegaze/Groups", "add", "(Lcom/example/stonegaze/stonegaze/Side;IIZ)I"⟩ : MethodName) prog_17_method_2_code 5 (some .int) :: ws) ({ frames := 0, cells := 0, slots := 0, locals := 0 } : Room)) (fun a U => a = #[(.ref pr0), (.ref pr1), (.int pi2), (.int pi3), (.int pi4)] ∧ Z.Warmed39 U.vm ∧ U.heap = h0) (fun _ _ _ _ _ => True) (fun _ U o U' => ∃ v L, o = .returned v ∧ Q4c1 Z pr0 pr1 pi2 pi3 pi4 u_groupOf_pr0 u_colours_pr0 u_stones_pr0 u_liberties_pr0 u_ringed_pr0 u_aLiberty_pr0 nn kk_u_colours_pr0 y_c0 kk_u_liberties_pr0 y_l0 kk_u_aLiberty_pr0 y_a0 kk_u_ringed_pr0 y_r0 h0 n0 v U'.heap L ∧ FrameEnd U o U' L ({ frames := 0, cells := 0, slots := 0, locals := 0 } : Room).cells ({ frames := 0, cells := 0, slots := 0, locals := 0 } : Room).slots) := by
  refine MetFree.of_bodySF (plainFor_of_name pn_com_example_stonegaze_stonegaze_Groups) hisR ?_
  intro p e s m args below meth c s₁ Bd hml0 hP hK
  obtain ⟨rfl, hZ, hh⟩ := hP
  have hx := Bd.exec
  have hby := Bd.bytes
  have hml : c.maxLocals = 5 := hml0
  have hown : s.vm.findClass "com/example/stonegaze/stonegaze/Groups" = some m.cls := findClass_of_methodNamed Bd.named
  have hnm := (name_of_methodNamed Bd.named Bd.method).1
  have X0 : Stand p l e ({ frames := 0, cells := 0, slots := 0, locals := 0 } : Room) s m #[(.ref pr0), (.ref pr1), (.int pi2), (.int pi3), (.int pi4)] below meth c s₁ [] 0 0 := Stand.of_body Bd
  have e0 : s₁.heap = h0 := by rw [← hh, Bd.state]; rfl
  have N0 := Fr.nil n0
  obtain ⟨Go, hGo⟩ : ∃ P : State → Prop, ∀ t, P t ↔ Steps p.tables e below (s₁.setTop (entryFrame m #[(.ref pr0), (.ref pr1), (.int pi2), (.int pi3), (.int pi4)] 5)) t := ⟨_, fun _ => Iff.rfl⟩
  have pre0 : ∀ t, Steps p.tables e below (s₁.setTop (mkF m 0 #[rv pr0, rv pr1, iv pi2, iv pi3, iv pi4] [])) t → Go t := fun t k => (hGo t).mpr (castTop (ef_4c1 m pr0 pr1 pi2 pi3 pi4) k)
  have K0 : Keep h0 h0 [pr0, u_colours_pr0, u_liberties_pr0, u_aLiberty_pr0, u_ringed_pr0] := Keep.refl _ _
  have ne_pr0_u_groupOf_pr0 : pr0 ≠ u_groupOf_pr0 := Nat.ne_of_lt (by have := OR; omega)
  have ne_pr0_u_colours_pr0 : pr0 ≠ u_colours_pr0 := Nat.ne_of_lt (by have := OR; omega)
  have ne_pr0_u_stones_pr0 : pr0 ≠ u_stones_pr0 := Nat.ne_of_lt (by have := OR; omega)
  have ne_pr0_u_liberties_pr0 : pr0 ≠ u_liberties_pr0 := Nat.ne_of_lt (by have := OR; omega)
  have ne_pr0_u_ringed_pr0 : pr0 ≠ u_ringed_pr0 := Nat.ne_of_lt (by have := OR; omega)
  have ne_pr0_u_aLiberty_pr0 : pr0 ≠ u_aLiberty_pr0 := Nat.ne_of_lt (by have := OR; omega)
  have ne_u_groupOf_pr0_u_colours_pr0 : u_groupOf_pr0 ≠ u_colours_pr0 := Nat.ne_of_lt (by have := OR; omega)
  have ne_u_groupOf_pr0_u_stones_pr0 : u_groupOf_pr0 ≠ u_stones_pr0 := Nat.ne_of_lt (by have := OR; omega)
  have ne_u_groupOf_pr0_u_liberties_pr0 : u_groupOf_pr0 ≠ u_liberties_pr0 := Nat.ne_of_lt (by have := OR; omega)
  have ne_u_groupOf_pr0_u_ringed_pr0 : u_groupOf_pr0 ≠ u_ringed_pr0 := Nat.ne_of_lt (by have := OR; omega)
  have ne_u_groupOf_pr0_u_aLiberty_pr0 : u_groupOf_pr0 ≠ u_aLiberty_pr0 := Nat.ne_of_lt (by have := OR; omega)
  have ne_u_colours_pr0_u_stones_pr0 : u_colours_pr0 ≠ u_stones_pr0 := Nat.ne_of_lt (by have := OR; omega)
  have ne_u_colours_pr0_u_liberties_pr0 : u_colours_pr0 ≠ u_liberties_pr0 := Nat.ne_of_lt (by have := OR; omega)
  have ne_u_colours_pr0_u_ringed_pr0 : u_colours_pr0 ≠ u_ringed_pr0 := Nat.ne_of_lt (by have := OR; omega)
  have ne_u_colours_pr0_u_aLiberty_pr0 : u_colours_pr0 ≠ u_aLiberty_pr0 := Nat.ne_of_lt (by have := OR; omega)
  have ne_u_stones_pr0_u_liberties_pr0 : u_stones_pr0 ≠ u_liberties_pr0 := Nat.ne_of_lt (by have := OR; omega)
  have ne_u_stones_pr0_u_ringed_pr0 : u_stones_pr0 ≠ u_ringed_pr0 := Nat.ne_of_lt (by have := OR; omega)
  have ne_u_stones_pr0_u_aLiberty_pr0 : u_stones_pr0 ≠ u_aLiberty_pr0 := Nat.ne_of_lt (by have := OR; omega)
  have ne_u_liberties_pr0_u_ringed_pr0 : u_liberties_pr0 ≠ u_ringed_pr0 := Nat.ne_of_lt (by have := OR; omega)
  have ne_u_liberties_pr0_u_aLiberty_pr0 : u_liberties_pr0 ≠ u_aLiberty_pr0 := Nat.ne_of_lt (by have := OR; omega)
  have ne_u_ringed_pr0_u_aLiberty_pr0 : u_ringed_pr0 ≠ u_aLiberty_pr0 := Nat.ne_of_lt (by have := OR; omega)
  have pre1 : ∀ t, Steps p.tables e below (s₁.setTop (mkF m 1 #[rv pr0, rv pr1, iv pi2, iv pi3, iv pi4] [(.ref pr0)])) t → Go t := fun t kt => pre0 t (by
      refine y_aloadN X0.here hx (hb hby d4_0) rfl rfl (pc' := 1) rfl ?_
      exact kt)
  obtain ⟨T2, X2, e2, st2⟩ := getF X0 hx hZ hown (host := "") (Or.inl (hw _ (List.mem_of_getElem? (i := 21) rfl))) Via.refl e0 F_colours_pr0 (g := (mkF m 1 #[rv pr0, rv pr1, iv pi2, iv pi3, iv pi4] [(.ref pr0)])) rfl rfl (hb hby d4_1)
  have pre3 : ∀ t, Steps p.tables e below (T2.setTop (mkF m 4 #[rv pr0, rv pr1, iv pi2, iv pi3, iv pi4] [(.ref u_colours_pr0)])) t → Go t := fun t kt => pre1 t (st2 t kt)
  have pre4 : ∀ t, Steps p.tables e below (T2.setTop (mkF m 5 #[rv pr0, rv pr1, iv pi2, iv pi3, iv pi4] [(.ref pr0), (.ref u_colours_pr0)])) t → Go t := fun t kt => pre3 t (by
      refine y_aloadN X2.here hx (hb hby d4_4) rfl rfl (pc' := 5) rfl ?_
      exact kt)
  obtain ⟨T5, X5, e5, st5⟩ := getF X2 hx hZ hown (host := "") (Or.inl (hw _ (List.mem_of_getElem? (i := 37) rfl))) Via.refl e2 F_count_pr0 (g := (mkF m 5 #[rv pr0, rv pr1, iv pi2, iv pi3, iv pi4] [(.ref pr0), (.ref u_colours_pr0)])) rfl rfl (hb hby d4_5)
  have pre6 : ∀ t, Steps p.tables e below (T5.setTop (mkF m 8 #[rv pr0, rv pr1, iv pi2, iv pi3, iv pi4] [(.int (1 : Int32)), (.ref u_colours_pr0)])) t → Go t := fun t kt => pre4 t (st5 t kt)
  have pre7 : ∀ t, Steps p.tables e below (T5.setTop (mkF m 9 #[rv pr0, rv pr1, iv pi2, iv pi3, iv pi4] [(.ref pr1), (.int (1 : Int32)), (.ref u_colours_pr0)])) t → Go t := fun t kt => pre6 t (by
      refine y_aloadN X5.here hx (hb hby d4_8) rfl rfl (pc' := 9) rfl ?_
      exact kt)
  obtain ⟨c8, Ar8, q8, S8, M8, H8, G8⟩ := id V_u_colours_pr0
  have hin8 : ¬ ((1 : Int32) < 0 ∨ c8.slots.size ≤ ((1 : Int32)).toNatClampNeg) := inb_of S8 ⟨by decide, L1⟩
  obtain ⟨T9, h9, X9, e9, W9, st9⟩ := stR X5 hx hZ e5 Ar8 (j := (1 : Int32)) hin8 rfl (Sto.ofV Ar8 q8 OV_u_colours_pr0 (Ins.self E_pr1)) (g := (mkF m 9 #[rv pr0, rv pr1, iv pi2, iv pi3, iv pi4] [(.ref pr1), (.int (1 : Int32)), (.ref u_colours_pr0)])) rfl rfl (hb hby d4_9)
  have pre10 : ∀ t, Steps p.tables e below (T9.setTop (mkF m 10 #[rv pr0, rv pr1, iv pi2, iv pi3, iv pi4] [])) t → Go t := fun t kt => pre7 t (st9 t kt)
  have f12 : Arv Z h9 u_liberties_pr0 kk_u_liberties_pr0 .int nn [(.int y_l0), (.int (0 : Int32))] (.int (0 : Int32)) := (V_u_liberties_pr0.other W9 (Ne.symm ne_u_colours_pr0_u_liberties_pr0))
  have f13 : Arv Z h9 u_aLiberty_pr0 kk_u_aLiberty_pr0 .int nn [(.int y_a0), (.int (0 : Int32))] (.int (0 : Int32)) := (V_u_aLiberty_pr0.other W9 (Ne.symm ne_u_colours_pr0_u_aLiberty_pr0))
  have f14 : Arv Z h9 u_ringed_pr0 kk_u_ringed_pr0 .boolean nn [(.int y_r0), (.int (0 : Int32))] (.int (0 : Int32)) := (V_u_ringed_pr0.other W9 (Ne.symm ne_u_colours_pr0_u_ringed_pr0))
  have f15 : Exa Z h9 pr0 "com/example/stonegaze/stonegaze/Groups" := (E_pr0.wr W9)
  have f16 : Fld Z h9 pr0 "com/example/stonegaze/stonegaze/Groups" "groupOf" "[I" (.ref u_groupOf_pr0) := (F_groupOf_pr0.other W9 (Or.inl ne_pr0_u_colours_pr0))
  have f17 : Fld Z h9 pr0 "com/example/stonegaze/stonegaze/Groups" "colours" "[Lcom/example/stonegaze/stonegaze/Side;" (.ref u_colours_pr0) := (F_colours_pr0.other W9 (Or.inl ne_pr0_u_colours_pr0))
  have f18 : Fld Z h9 pr0 "com/example/stonegaze/stonegaze/Groups" "stones" "[I" (.ref u_stones_pr0) := (F_stones_pr0.other W9 (Or.inl ne_pr0_u_colours_pr0))
  have f19 : Fld Z h9 pr0 "com/example/stonegaze/stonegaze/Groups" "liberties" "[I" (.ref u_liberties_pr0) := (F_liberties_pr0.other W9 (Or.inl ne_pr0_u_colours_pr0))
  have f20 : Fld Z h9 pr0 "com/example/stonegaze/stonegaze/Groups" "ringed" "[Z" (.ref u_ringed_pr0) := (F_ringed_pr0.other W9 (Or.inl ne_pr0_u_colours_pr0))
  have f21 : Fld Z h9 pr0 "com/example/stonegaze/stonegaze/Groups" "aLiberty" "[I" (.ref u_aLiberty_pr0) := (F_aLiberty_pr0.other W9 (Or.inl ne_pr0_u_colours_pr0))
  have f22 : Fld Z h9 pr0 "com/example/stonegaze/stonegaze/Groups" "count" "I" (.int (1 : Int32)) := (F_count_pr0.other W9 (Or.inl ne_pr0_u_colours_pr0))
  have f23 : Exa Z h9 pr1 "com/example/stonegaze/stonegaze/Side" := (E_pr1.wr W9)
  have N24 := Fr.snoc X9 N0 G_u_colours_pr0
  have O24 := O0.wr W9 G_u_colours_pr0
  have K24 : Keep h0 h9 [pr0, u_colours_pr0, u_liberties_pr0, u_aLiberty_pr0, u_ringed_pr0] := K0.wr W9 (Or.inl (List.mem_of_getElem? (i := 1) rfl))
  have f25 : Arv Z h9 u_colours_pr0 kk_u_colours_pr0 (.object "com/example/stonegaze/stonegaze/Side") nn [(.ref y_c0), (.ref pr1)] .null := Arv.set Ar8 q8 S8 M8 H8 G8 rfl W9 1 rfl (Nat.le_of_ble_eq_true rfl)
  have pre26 : ∀ t, Steps p.tables e below (T9.setTop (mkF m 11 #[rv pr0, rv pr1, iv pi2, iv pi3, iv pi4] [(.ref pr0)])) t → Go t := fun t kt => pre10 t (by
      refine y_aloadN X9.here hx (hb hby d4_10) rfl rfl (pc' := 11) rfl ?_
      exact kt)
  obtain ⟨T27, X27, e27, st27⟩ := getF X9 hx hZ hown (host := "") (Or.inl (hw _ (List.mem_of_getElem? (i := 25) rfl))) Via.refl e9 f19 (g := (mkF m 11 #[rv pr0, rv pr1, iv pi2, iv pi3, iv pi4] [(.ref pr0)])) rfl rfl (hb hby d4_11)
  have pre28 : ∀ t, Steps p.tables e below (T27.setTop (mkF m 14 #[rv pr0, rv pr1, iv pi2, iv pi3, iv pi4] [(.ref u_liberties_pr0)])) t → Go t := fun t kt => pre26 t (st27 t kt)
  have pre29 : ∀ t, Steps p.tables e below (T27.setTop (mkF m 15 #[rv pr0, rv pr1, iv pi2, iv pi3, iv pi4] [(.ref pr0), (.ref u_liberties_pr0)])) t → Go t := fun t kt => pre28 t (by
      refine y_aloadN X27.here hx (hb hby d4_14) rfl rfl (pc' := 15) rfl ?_
      exact kt)
  obtain ⟨T30, X30, e30, st30⟩ := getF X27 hx hZ hown (host := "") (Or.inl (hw _ (List.mem_of_getElem? (i := 37) rfl))) Via.refl e27 f22 (g := (mkF m 15 #[rv pr0, rv pr1, iv pi2, iv pi3, iv pi4] [(.ref pr0), (.ref u_liberties_pr0)])) rfl rfl (hb hby d4_15)
  have pre31 : ∀ t, Steps p.tables e below (T30.setTop (mkF m 18 #[rv pr0, rv pr1, iv pi2, iv pi3, iv pi4] [(.int (1 : Int32)), (.ref u_liberties_pr0)])) t → Go t := fun t kt => pre29 t (st30 t kt)
  have pre32 : ∀ t, Steps p.tables e below (T30.setTop (mkF m 19 #[rv pr0, rv pr1, iv pi2, iv pi3, iv pi4] [(.int pi2), (.int (1 : Int32)), (.ref u_liberties_pr0)])) t → Go t := fun t kt => pre31 t (by
      refine y_iloadN X30.here hx (hb hby d4_18) rfl (pc' := 19) rfl ?_
      exact kt)
  obtain ⟨c33, Ar33, q33, S33, M33, H33, G33⟩ := id f12
  have hin33 : ¬ ((1 : Int32) < 0 ∨ c33.slots.size ≤ ((1 : Int32)).toNatClampNeg) := inb_of S33 ⟨by decide, L1⟩
  obtain ⟨T34, h34, X34, e34, W34, st34⟩ := stI X30 hx hZ e30 Ar33 (j := (1 : Int32)) hin33 (g := (mkF m 19 #[rv pr0, rv pr1, iv pi2, iv pi3, iv pi4] [(.int pi2), (.int (1 : Int32)), (.ref u_liberties_pr0)])) rfl rfl (hb hby d4_19)
  have pre35 : ∀ t, Steps p.tables e below (T34.setTop (mkF m 20 #[rv pr0, rv pr1, iv pi2, iv pi3, iv pi4] [])) t → Go t := fun t kt => pre32 t (st34 t kt)
  have f37 : Arv Z h34 u_aLiberty_pr0 kk_u_aLiberty_pr0 .int nn [(.int y_a0), (.int (0 : Int32))] (.int (0 : Int32)) := (f13.other W34 (Ne.symm ne_u_liberties_pr0_u_aLiberty_pr0))
  have f38 : Arv Z h34 u_ringed_pr0 kk_u_ringed_pr0 .boolean nn [(.int y_r0), (.int (0 : Int32))] (.int (0 : Int32)) := (f14.other W34 (Ne.symm ne_u_liberties_pr0_u_ringed_pr0))
  have f39 : Exa Z h34 pr0 "com/example/stonegaze/stonegaze/Groups" := (f15.wr W34)
  have f40 : Fld Z h34 pr0 "com/example/stonegaze/stonegaze/Groups" "groupOf" "[I" (.ref u_groupOf_pr0) := (f16.other W34 (Or.inl ne_pr0_u_liberties_pr0))
  have f41 : Fld Z h34 pr0 "com/example/stonegaze/stonegaze/Groups" "colours" "[Lcom/example/stonegaze/stonegaze/Side;" (.ref u_colours_pr0) := (f17.other W34 (Or.inl ne_pr0_u_liberties_pr0))
  have f42 : Fld Z h34 pr0 "com/example/stonegaze/stonegaze/Groups" "stones" "[I" (.ref u_stones_pr0) := (f18.other W34 (Or.inl ne_pr0_u_liberties_pr0))
  have f43 : Fld Z h34 pr0 "com/example/stonegaze/stonegaze/Groups" "liberties" "[I" (.ref u_liberties_pr0) := (f19.other W34 (Or.inl ne_pr0_u_liberties_pr0))
  have f44 : Fld Z h34 pr0 "com/example/stonegaze/stonegaze/Groups" "ringed" "[Z" (.ref u_ringed_pr0) := (f20.other W34 (Or.inl ne_pr0_u_liberties_pr0))
  have f45 : Fld Z h34 pr0 "com/example/stonegaze/stonegaze/Groups" "aLiberty" "[I" (.ref u_aLiberty_pr0) := (f21.other W34 (Or.inl ne_pr0_u_liberties_pr0))
  have f46 : Fld Z h34 pr0 "com/example/stonegaze/stonegaze/Groups" "count" "I" (.int (1 : Int32)) := (f22.other W34 (Or.inl ne_pr0_u_liberties_pr0))
  have f47 : Exa Z h34 pr1 "com/example/stonegaze/stonegaze/Side" := (f23.wr W34)
  have f48 : Arv Z h34 u_colours_pr0 kk_u_colours_pr0 (.object "com/example/stonegaze/stonegaze/Side") nn [(.ref y_c0), (.ref pr1)] .null := (f25.other W34 ne_u_colours_pr0_u_liberties_pr0)
  have N49 := Fr.snoc X34 N24 G_u_liberties_pr0
  have O49 := O24.wr W34 G_u_liberties_pr0
  have K49 : Keep h0 h34 [pr0, u_colours_pr0, u_liberties_pr0, u_aLiberty_pr0, u_ringed_pr0] := K24.wr W34 (Or.inl (List.mem_of_getElem? (i := 2) rfl))
  have f50 : Arv Z h34 u_liberties_pr0 kk_u_liberties_pr0 .int nn [(.int y_l0), (.int pi2)] (.int (0 : Int32)) := Arv.set Ar33 q33 S33 M33 H33 G33 rfl W34 1 rfl (Nat.le_of_ble_eq_true rfl)
  have pre51 : ∀ t, Steps p.tables e below (T34.setTop (mkF m 21 #[rv pr0, rv pr1, iv pi2, iv pi3, iv pi4] [(.ref pr0)])) t → Go t := fun t kt => pre35 t (by
      refine y_aloadN X34.here hx (hb hby d4_20) rfl rfl (pc' := 21) rfl ?_
      exact kt)
  obtain ⟨T52, X52, e52, st52⟩ := getF X34 hx hZ hown (host := "") (Or.inl (hw _ (List.mem_of_getElem? (i := 30) rfl))) Via.refl e34 f45 (g := (mkF m 21 #[rv pr0, rv pr1, iv pi2, iv pi3, iv pi4] [(.ref pr0)])) rfl rfl (hb hby d4_21)
  have pre53 : ∀ t, Steps p.tables e below (T52.setTop (mkF m 24 #[rv pr0, rv pr1, iv pi2, iv pi3, iv pi4] [(.ref u_aLiberty_pr0)])) t → Go t := fun t kt => pre51 t (st52 t kt)
  have pre54 : ∀ t, Steps p.tables e below (T52.setTop (mkF m 25 #[rv pr0, rv pr1, iv pi2, iv pi3, iv pi4] [(.ref pr0), (.ref u_aLiberty_pr0)])) t → Go t := fun t kt => pre53 t (by
      refine y_aloadN X52.here hx (hb hby d4_24) rfl rfl (pc' := 25) rfl ?_
      exact kt)
  obtain ⟨T55, X55, e55, st55⟩ := getF X52 hx hZ hown (host := "") (Or.inl (hw _ (List.mem_of_getElem? (i := 37) rfl))) Via.refl e52 f46 (g := (mkF m 25 #[rv pr0, rv pr1, iv pi2, iv pi3, iv pi4] [(.ref pr0), (.ref u_aLiberty_pr0)])) rfl rfl (hb hby d4_25)
  have pre56 : ∀ t, Steps p.tables e below (T55.setTop (mkF m 28 #[rv pr0, rv pr1, iv pi2, iv pi3, iv pi4] [(.int (1 : Int32)), (.ref u_aLiberty_pr0)])) t → Go t := fun t kt => pre54 t (st55 t kt)
  have pre57 : ∀ t, Steps p.tables e below (T55.setTop (mkF m 29 #[rv pr0, rv pr1, iv pi2, iv pi3, iv pi4] [(.int pi3), (.int (1 : Int32)), (.ref u_aLiberty_pr0)])) t → Go t := fun t kt => pre56 t (by
      refine y_iloadN X55.here hx (hb hby d4_28) rfl (pc' := 29) rfl ?_
      exact kt)
  obtain ⟨c58, Ar58, q58, S58, M58, H58, G58⟩ := id f37
  have hin58 : ¬ ((1 : Int32) < 0 ∨ c58.slots.size ≤ ((1 : Int32)).toNatClampNeg) := inb_of S58 ⟨by decide, L1⟩
  obtain ⟨T59, h59, X59, e59, W59, st59⟩ := stI X55 hx hZ e55 Ar58 (j := (1 : Int32)) hin58 (g := (mkF m 29 #[rv pr0, rv pr1, iv pi2, iv pi3, iv pi4] [(.int pi3), (.int (1 : Int32)), (.ref u_aLiberty_pr0)])) rfl rfl (hb hby d4_29)
  have pre60 : ∀ t, Steps p.tables e below (T59.setTop (mkF m 30 #[rv pr0, rv pr1, iv pi2, iv pi3, iv pi4] [])) t → Go t := fun t kt => pre57 t (st59 t kt)
  have f62 : Arv Z h59 u_ringed_pr0 kk_u_ringed_pr0 .boolean nn [(.int y_r0), (.int (0 : Int32))] (.int (0 : Int32)) := (f38.other W59 ne_u_ringed_pr0_u_aLiberty_pr0)
  have f63 : Exa Z h59 pr0 "com/example/stonegaze/stonegaze/Groups" := (f39.wr W59)
  have f64 : Fld Z h59 pr0 "com/example/stonegaze/stonegaze/Groups" "groupOf" "[I" (.ref u_groupOf_pr0) := (f40.other W59 (Or.inl ne_pr0_u_aLiberty_pr0))
  have f65 : Fld Z h59 pr0 "com/example/stonegaze/stonegaze/Groups" "colours" "[Lcom/example/stonegaze/stonegaze/Side;" (.ref u_colours_pr0) := (f41.other W59 (Or.inl ne_pr0_u_aLiberty_pr0))
  have f66 : Fld Z h59 pr0 "com/example/stonegaze/stonegaze/Groups" "stones" "[I" (.ref u_stones_pr0) := (f42.other W59 (Or.inl ne_pr0_u_aLiberty_pr0))
  have f67 : Fld Z h59 pr0 "com/example/stonegaze/stonegaze/Groups" "liberties" "[I" (.ref u_liberties_pr0) := (f43.other W59 (Or.inl ne_pr0_u_aLiberty_pr0))
  have f68 : Fld Z h59 pr0 "com/example/stonegaze/stonegaze/Groups" "ringed" "[Z" (.ref u_ringed_pr0) := (f44.other W59 (Or.inl ne_pr0_u_aLiberty_pr0))
  have f69 : Fld Z h59 pr0 "com/example/stonegaze/stonegaze/Groups" "aLiberty" "[I" (.ref u_aLiberty_pr0) := (f45.other W59 (Or.inl ne_pr0_u_aLiberty_pr0))
  have f70 : Fld Z h59 pr0 "com/example/stonegaze/stonegaze/Groups" "count" "I" (.int (1 : Int32)) := (f46.other W59 (Or.inl ne_pr0_u_aLiberty_pr0))
  have f71 : Exa Z h59 pr1 "com/example/stonegaze/stonegaze/Side" := (f47.wr W59)
  have f72 : Arv Z h59 u_colours_pr0 kk_u_colours_pr0 (.object "com/example/stonegaze/stonegaze/Side") nn [(.ref y_c0), (.ref pr1)] .null := (f48.other W59 ne_u_colours_pr0_u_aLiberty_pr0)
  have f73 : Arv Z h59 u_liberties_pr0 kk_u_liberties_pr0 .int nn [(.int y_l0), (.int pi2)] (.int (0 : Int32)) := (f50.other W59 ne_u_liberties_pr0_u_aLiberty_pr0)
  have N74 := Fr.snoc X59 N49 G_u_aLiberty_pr0
  have O74 := O49.wr W59 G_u_aLiberty_pr0
  have K74 : Keep h0 h59 [pr0, u_colours_pr0, u_liberties_pr0, u_aLiberty_pr0, u_ringed_pr0] := K49.wr W59 (Or.inl (List.mem_of_getElem? (i := 3) rfl))
  have f75 : Arv Z h59 u_aLiberty_pr0 kk_u_aLiberty_pr0 .int nn [(.int y_a0), (.int pi3)] (.int (0 : Int32)) := Arv.set Ar58 q58 S58 M58 H58 G58 rfl W59 1 rfl (Nat.le_of_ble_eq_true rfl)
  have pre76 : ∀ t, Steps p.tables e below (T59.setTop (mkF m 31 #[rv pr0, rv pr1, iv pi2, iv pi3, iv pi4] [(.ref pr0)])) t → Go t := fun t kt => pre60 t (by
      refine y_aloadN X59.here hx (hb hby d4_30) rfl rfl (pc' := 31) rfl ?_
      exact kt)
  obtain ⟨T77, X77, e77, st77⟩ := getF X59 hx hZ hown (host := "") (Or.inl (hw _ (List.mem_of_getElem? (i := 28) rfl))) Via.refl e59 f68 (g := (mkF m 31 #[rv pr0, rv pr1, iv pi2, iv pi3, iv pi4] [(.ref pr0)])) rfl rfl (hb hby d4_31)
  have pre78 : ∀ t, Steps p.tables e below (T77.setTop (mkF m 34 #[rv pr0, rv pr1, iv pi2, iv pi3, iv pi4] [(.ref u_ringed_pr0)])) t → Go t := fun t kt => pre76 t (st77 t kt)
  have pre79 : ∀ t, Steps p.tables e below (T77.setTop (mkF m 35 #[rv pr0, rv pr1, iv pi2, iv pi3, iv pi4] [(.ref pr0), (.ref u_ringed_pr0)])) t → Go t := fun t kt => pre78 t (by
      refine y_aloadN X77.here hx (hb hby d4_34) rfl rfl (pc' := 35) rfl ?_
      exact kt)
  obtain ⟨T80, X80, e80, st80⟩ := getF X77 hx hZ hown (host := "") (Or.inl (hw _ (List.mem_of_getElem? (i := 37) rfl))) Via.refl e77 f70 (g := (mkF m 35 #[rv pr0, rv pr1, iv pi2, iv pi3, iv pi4] [(.ref pr0), (.ref u_ringed_pr0)])) rfl rfl (hb hby d4_35)
  have pre81 : ∀ t, Steps p.tables e below (T80.setTop (mkF m 38 #[rv pr0, rv pr1, iv pi2, iv pi3, iv pi4] [(.int (1 : Int32)), (.ref u_ringed_pr0)])) t → Go t := fun t kt => pre79 t (st80 t kt)
  have pre82 : ∀ t, Steps p.tables e below (T80.setTop (mkF m 40 #[rv pr0, rv pr1, iv pi2, iv pi3, iv pi4] [(.int pi4), (.int (1 : Int32)), (.ref u_ringed_pr0)])) t → Go t := fun t kt => pre81 t (by
      refine y_iload X80.here hx (hb hby d4_38) rfl (pc' := 40) rfl ?_
      exact kt)
  obtain ⟨c83, Ar83, q83, S83, M83, H83, G83⟩ := id f62
  have hin83 : ¬ ((1 : Int32) < 0 ∨ c83.slots.size ≤ ((1 : Int32)).toNatClampNeg) := inb_of S83 ⟨by decide, L1⟩
  obtain ⟨T84, h84, X84, e84, W84, st84⟩ := stZ X80 hx hZ e80 Ar83 (j := (1 : Int32)) hin83 (g := (mkF m 40 #[rv pr0, rv pr1, iv pi2, iv pi3, iv pi4] [(.int pi4), (.int (1 : Int32)), (.ref u_ringed_pr0)])) rfl rfl (hb hby d4_40)
  have pre85 : ∀ t, Steps p.tables e below (T84.setTop (mkF m 41 #[rv pr0, rv pr1, iv pi2, iv pi3, iv pi4] [])) t → Go t := fun t kt => pre82 t (st84 t kt)
  have f87 : Exa Z h84 pr0 "com/example/stonegaze/stonegaze/Groups" := (f63.wr W84)
  have f88 : Fld Z h84 pr0 "com/example/stonegaze/stonegaze/Groups" "groupOf" "[I" (.ref u_groupOf_pr0) := (f64.other W84 (Or.inl ne_pr0_u_ringed_pr0))
  have f89 : Fld Z h84 pr0 "com/example/stonegaze/stonegaze/Groups" "colours" "[Lcom/example/stonegaze/stonegaze/Side;" (.ref u_colours_pr0) := (f65.other W84 (Or.inl ne_pr0_u_ringed_pr0))
  have f90 : Fld Z h84 pr0 "com/example/stonegaze/stonegaze/Groups" "stones" "[I" (.ref u_stones_pr0) := (f66.other W84 (Or.inl ne_pr0_u_ringed_pr0))
  have f91 : Fld Z h84 pr0 "com/example/stonegaze/stonegaze/Groups" "liberties" "[I" (.ref u_liberties_pr0) := (f67.other W84 (Or.inl ne_pr0_u_ringed_pr0))
  have f92 : Fld Z h84 pr0 "com/example/stonegaze/stonegaze/Groups" "ringed" "[Z" (.ref u_ringed_pr0) := (f68.other W84 (Or.inl ne_pr0_u_ringed_pr0))
  have f93 : Fld Z h84 pr0 "com/example/stonegaze/stonegaze/Groups" "aLiberty" "[I" (.ref u_aLiberty_pr0) := (f69.other W84 (Or.inl ne_pr0_u_ringed_pr0))
  have f94 : Fld Z h84 pr0 "com/example/stonegaze/stonegaze/Groups" "count" "I" (.int (1 : Int32)) := (f70.other W84 (Or.inl ne_pr0_u_ringed_pr0))
  have f95 : Exa Z h84 pr1 "com/example/stonegaze/stonegaze/Side" := (f71.wr W84)
  have f96 : Arv Z h84 u_colours_pr0 kk_u_colours_pr0 (.object "com/example/stonegaze/stonegaze/Side") nn [(.ref y_c0), (.ref pr1)] .null := (f72.other W84 ne_u_colours_pr0_u_ringed_pr0)
  have f97 : Arv Z h84 u_liberties_pr0 kk_u_liberties_pr0 .int nn [(.int y_l0), (.int pi2)] (.int (0 : Int32)) := (f73.other W84 ne_u_liberties_pr0_u_ringed_pr0)
  have f98 : Arv Z h84 u_aLiberty_pr0 kk_u_aLiberty_pr0 .int nn [(.int y_a0), (.int pi3)] (.int (0 : Int32)) := (f75.other W84 (Ne.symm ne_u_ringed_pr0_u_aLiberty_pr0))
  have N99 := Fr.snoc X84 N74 G_u_ringed_pr0
  have O99 := O74.wr W84 G_u_ringed_pr0
  have K99 : Keep h0 h84 [pr0, u_colours_pr0, u_liberties_pr0, u_aLiberty_pr0, u_ringed_pr0] := K74.wr W84 (Or.inl (List.mem_of_getElem? (i := 4) rfl))
  have f100 : Arv Z h84 u_ringed_pr0 kk_u_ringed_pr0 .boolean nn [(.int y_r0), (.int (nar .boolean pi4))] (.int (0 : Int32)) := Arv.set Ar83 q83 S83 M83 H83 G83 (fits_nar_bool _) W84 1 rfl (Nat.le_of_ble_eq_true rfl)
  have pre101 : ∀ t, Steps p.tables e below (T84.setTop (mkF m 43 #[rv pr0, rv pr1, iv pi2, iv pi3, iv pi4] [(.ref pr0), (.ref pr0)])) t → Go t := fun t kt => pre85 t (by
      refine y_aloadN X84.here hx (hb hby d4_41) rfl rfl (pc' := 42) rfl ?_
      refine y_dup X84.here hx (hb hby d4_42) rfl (pc' := 43) rfl ?_
      exact kt)
  obtain ⟨T102, X102, e102, st102⟩ := getF X84 hx hZ hown (host := "") (Or.inl (hw _ (List.mem_of_getElem? (i := 37) rfl))) Via.refl e84 f94 (g := (mkF m 43 #[rv pr0, rv pr1, iv pi2, iv pi3, iv pi4] [(.ref pr0), (.ref pr0)])) rfl rfl (hb hby d4_43)
  have pre103 : ∀ t, Steps p.tables e below (T102.setTop (mkF m 46 #[rv pr0, rv pr1, iv pi2, iv pi3, iv pi4] [(.int (1 : Int32)), (.ref pr0)])) t → Go t := fun t kt => pre101 t (st102 t kt)
  have pre104 : ∀ t, Steps p.tables e below (T102.setTop (mkF m 48 #[rv pr0, rv pr1, iv pi2, iv pi3, iv pi4] [(.int (2 : Int32)), (.ref pr0)])) t → Go t := fun t kt => pre103 t (by
      refine y_iconst X102.here hx (hb hby d4_46) (v := (1 : Int32)) rfl (pc' := 47) rfl ?_
      refine y_iadd X102.here hx (hb hby d4_47) (z := (2 : Int32)) rfl (pc' := 48) rfl ?_
      exact kt)
  obtain ⟨T105, h105, X105, e105, W105, st105⟩ := putF X102 hx hZ hown (host := "") (Or.inl (hw _ (List.mem_of_getElem? (i := 37) rfl))) Via.refl e102 f94 f87 (Or.inl (hw _ (List.mem_of_getElem? (i := 38) rfl))) (hw _ (List.mem_of_getElem? (i := 4) rfl)) (ty := .int) (by decide) rfl rfl (g := (mkF m 48 #[rv pr0, rv pr1, iv pi2, iv pi3, iv pi4] [(.int (2 : Int32)), (.ref pr0)])) rfl rfl (hb hby d4_48)
  have pre106 : ∀ t, Steps p.tables e below (T105.setTop (mkF m 51 #[rv pr0, rv pr1, iv pi2, iv pi3, iv pi4] [])) t → Go t := fun t kt => pre104 t (st105 t kt)
  have f107 : Exa Z h105 pr0 "com/example/stonegaze/stonegaze/Groups" := (f87.wr W105)
  have f108 : Fld Z h105 pr0 "com/example/stonegaze/stonegaze/Groups" "groupOf" "[I" (.ref u_groupOf_pr0) := (f88.other W105 (Or.inr (slot_ne (Or.inr (hw _ (List.mem_of_getElem? (i := 14) rfl))) (Or.inl (hw _ (List.mem_of_getElem? (i := 38) rfl))) (by decide) (t := (.array .int)) (t' := .int) (by decide) (by decide))))
  have f109 : Fld Z h105 pr0 "com/example/stonegaze/stonegaze/Groups" "colours" "[Lcom/example/stonegaze/stonegaze/Side;" (.ref u_colours_pr0) := (f89.other W105 (Or.inr (slot_ne (Or.inr (hw _ (List.mem_of_getElem? (i := 22) rfl))) (Or.inl (hw _ (List.mem_of_getElem? (i := 38) rfl))) (by decide) (t := (.array (.object "com/example/stonegaze/stonegaze/Side"))) (t' := .int) (by decide) (by decide))))
  have f110 : Fld Z h105 pr0 "com/example/stonegaze/stonegaze/Groups" "stones" "[I" (.ref u_stones_pr0) := (f90.other W105 (Or.inr (slot_ne (Or.inr (hw _ (List.mem_of_getElem? (i := 24) rfl))) (Or.inl (hw _ (List.mem_of_getElem? (i := 38) rfl))) (by decide) (t := (.array .int)) (t' := .int) (by decide) (by decide))))
  have f111 : Fld Z h105 pr0 "com/example/stonegaze/stonegaze/Groups" "liberties" "[I" (.ref u_liberties_pr0) := (f91.other W105 (Or.inr (slot_ne (Or.inr (hw _ (List.mem_of_getElem? (i := 26) rfl))) (Or.inl (hw _ (List.mem_of_getElem? (i := 38) rfl))) (by decide) (t := (.array .int)) (t' := .int) (by decide) (by decide))))
  have f112 : Fld Z h105 pr0 "com/example/stonegaze/stonegaze/Groups" "ringed" "[Z" (.ref u_ringed_pr0) := (f92.other W105 (Or.inr (slot_ne (Or.inr (hw _ (List.mem_of_getElem? (i := 29) rfl))) (Or.inl (hw _ (List.mem_of_getElem? (i := 38) rfl))) (by decide) (t := (.array .boolean)) (t' := .int) (by decide) (by decide))))
  have f113 : Fld Z h105 pr0 "com/example/stonegaze/stonegaze/Groups" "aLiberty" "[I" (.ref u_aLiberty_pr0) := (f93.other W105 (Or.inr (slot_ne (Or.inr (hw _ (List.mem_of_getElem? (i := 31) rfl))) (Or.inl (hw _ (List.mem_of_getElem? (i := 38) rfl))) (by decide) (t := (.array .int)) (t' := .int) (by decide) (by decide))))
  have f115 : Exa Z h105 pr1 "com/example/stonegaze/stonegaze/Side" := (f95.wr W105)
  have f116 : Arv Z h105 u_colours_pr0 kk_u_colours_pr0 (.object "com/example/stonegaze/stonegaze/Side") nn [(.ref y_c0), (.ref pr1)] .null := (f96.other W105 (Ne.symm ne_pr0_u_colours_pr0))
  have f117 : Arv Z h105 u_liberties_pr0 kk_u_liberties_pr0 .int nn [(.int y_l0), (.int pi2)] (.int (0 : Int32)) := (f97.other W105 (Ne.symm ne_pr0_u_liberties_pr0))
  have f118 : Arv Z h105 u_aLiberty_pr0 kk_u_aLiberty_pr0 .int nn [(.int y_a0), (.int pi3)] (.int (0 : Int32)) := (f98.other W105 (Ne.symm ne_pr0_u_aLiberty_pr0))
  have f119 : Arv Z h105 u_ringed_pr0 kk_u_ringed_pr0 .boolean nn [(.int y_r0), (.int (nar .boolean pi4))] (.int (0 : Int32)) := (f100.other W105 (Ne.symm ne_pr0_u_ringed_pr0))
  have f120 : Fld Z h105 pr0 "com/example/stonegaze/stonegaze/Groups" "count" "I" (.int (2 : Int32)) := f94.same W105
  have N121 := Fr.snoc X105 N99 G_pr0
  have O121 := O99.wr W105 G_pr0
  have K121 : Keep h0 h105 [pr0, u_colours_pr0, u_liberties_pr0, u_aLiberty_pr0, u_ringed_pr0] := K99.wr W105 (Or.inl (List.mem_of_getElem? (i := 0) rfl))
  have pre122 : ∀ t, Steps p.tables e below (T105.setTop (mkF m 52 #[rv pr0, rv pr1, iv pi2, iv pi3, iv pi4] [(.ref pr0)])) t → Go t := fun t kt => pre106 t (by
      refine y_aloadN X105.here hx (hb hby d4_51) rfl rfl (pc' := 52) rfl ?_
      exact kt)
  obtain ⟨T123, X123, e123, st123⟩ := getF X105 hx hZ hown (host := "") (Or.inl (hw _ (List.mem_of_getElem? (i := 37) rfl))) Via.refl e105 f120 (g := (mkF m 52 #[rv pr0, rv pr1, iv pi2, iv pi3, iv pi4] [(.ref pr0)])) rfl rfl (hb hby d4_52)
  have pre124 : ∀ t, Steps p.tables e below (T123.setTop (mkF m 55 #[rv pr0, rv pr1, iv pi2, iv pi3, iv pi4] [(.int (2 : Int32))])) t → Go t := fun t kt => pre122 t (st123 t kt)
  have pre125 : ∀ t, Steps p.tables e below (T123.setTop (mkF m 57 #[rv pr0, rv pr1, iv pi2, iv pi3, iv pi4] [(.int (1 : Int32))])) t → Go t := fun t kt => pre124 t (by
      refine y_iconst X123.here hx (hb hby d4_55) (v := (1 : Int32)) rfl (pc' := 56) rfl ?_
      refine y_isub X123.here hx (hb hby d4_56) (z := (1 : Int32)) rfl (pc' := 57) rfl ?_
      exact kt)
  obtain ⟨fs, hr, hrun, hended, hW, hsame⟩ := X123.leave (v := some (.int (1 : Int32))) (fun h => by rw [Bd.returns] at h; cases h)
  refine ⟨_, _, (hGo _).mp (pre125 _ ?_), hrun, hended, _, _, rfl, ?_, ⟨_, rfl⟩, hW, hsame.mono (by decide) (by decide)⟩
  · exact retOut X123 hx Bd.returns rfl (Or.inl ⟨rfl, Or.inl rfl, _, rfl⟩) (hb hby d4_57) hr
  · show Q4c1 Z pr0 pr1 pi2 pi3 pi4 u_groupOf_pr0 u_colours_pr0 u_stones_pr0 u_liberties_pr0 u_ringed_pr0 u_aLiberty_pr0 nn kk_u_colours_pr0 y_c0 kk_u_liberties_pr0 y_l0 kk_u_aLiberty_pr0 y_a0 kk_u_ringed_pr0 y_r0 h0 n0 _ T123.heap _
    rw [e123]
    exact ⟨rfl, N121, K121, f108, f109, f110, f111, f112, f113, f120, f116, f117, f118, f119⟩
theorem d5_0 : decode prog_17_method_4_code 0 = .ok (.aload_n 0, 1) := by decide +kernel
theorem d5_1 : decode prog_17_method_4_code 1 = .ok (.getfield 38, 3) := by decide +kernel
theorem d5_4 : decode prog_17_method_4_code 4 = .ok (.ireturn, 1) := by decide +kernel
theorem ef_5 (m : MethodId) (x0 : Addr) : entryFrame m #[(.ref x0)] 1 = mkF m 0 #[rv x0] [] := by first | (simp [entryFrame, mkF, argsToLocals, Value.category]; done) | rfl
def Q5 (Z : State) (pr0 : Addr) (u_count_pr0 : Int32) (h0 : Heap) (n0 : Nat) (v : Option Value) (h : Heap) (L : List Loc) : Prop := v = some (.int u_count_pr0) ∧ Fr n0 L ∧ h = h0
set_option maxRecDepth 65536 in
set_option maxHeartbeats 40000000 in
theorem rm5 (l : Launch) (Z : State) (a0 : Array Value) (hw : ∀ d ∈ tables_1, d.before a0 Z = true) (ws : List Jvm.Cond) (pr0 : Addr) (u_count_pr0 : Int32) (h0 : Heap) (n0 : Nat) (O0 : Old Z n0 h0) (E_pr0 : Exa Z h0 pr0 "com/example/stonegaze/stonegaze/Groups") (F_count_pr0 : Fld Z h0 pr0 "com/example/stonegaze/stonegaze/Groups" "count" "I" (.int u_count_pr0)) :
    MetFree l (⟨"com/example/stonegaze/stonegaze/Groups", "count", "()I"⟩ : MethodName) (head1 (Jvm.Cond.code (⟨"com/example/stonegaze/stonegaze/Groups", "count", "()I"⟩ : MethodName) prog_17_method_4_code 1 (some .int) :: ws) ({ frames := 0, cells := 0, slots := 0, locals := 0 } : Room)) (fun a U => a = #[(.ref pr0)] ∧ Z.Warmed39 U.vm ∧ U.heap = h0) (fun _ _ _ _ _ => True) (fun _ U o U' => ∃ v L, o = .returned v ∧ Q5 Z pr0 u_count_pr0 h0 n0 v U'.heap L ∧ FrameEnd U o U' L ({ frames := 0, cells := 0, slots := 0, locals := 0 } : Room).cells ({ frames := 0, cells := 0, slots := 0, locals := 0 } : Room).slots) := by
  refine MetFree.of_bodySF (plainFor_of_name pn_com_example_stonegaze_stonegaze_Groups) hisR ?_
  intro p e s m args below meth c s₁ Bd hml0 hP hK
  obtain ⟨rfl, hZ, hh⟩ := hP
  have hx := Bd.exec
  have hby := Bd.bytes
  have hml : c.maxLocals = 1 := hml0
  have hown : s.vm.findClass "com/example/stonegaze/stonegaze/Groups" = some m.cls := findClass_of_methodNamed Bd.named
  have hnm := (name_of_methodNamed Bd.named Bd.method).1
  have X0 : Stand p l e ({ frames := 0, cells := 0, slots := 0, locals := 0 } : Room) s m #[(.ref pr0)] below meth c s₁ [] 0 0 := Stand.of_body Bd
  have e0 : s₁.heap = h0 := by rw [← hh, Bd.state]; rfl
  have N0 := Fr.nil n0
  obtain ⟨Go, hGo⟩ : ∃ P : State → Prop, ∀ t, P t ↔ Steps p.tables e below (s₁.setTop (entryFrame m #[(.ref pr0)] 1)) t := ⟨_, fun _ => Iff.rfl⟩
  have pre0 : ∀ t, Steps p.tables e below (s₁.setTop (mkF m 0 #[rv pr0] [])) t → Go t := fun t k => (hGo t).mpr (castTop (ef_5 m pr0) k)
  have pre1 : ∀ t, Steps p.tables e below (s₁.setTop (mkF m 1 #[rv pr0] [(.ref pr0)])) t → Go t := fun t kt => pre0 t (by
      refine y_aloadN X0.here hx (hb hby d5_0) rfl rfl (pc' := 1) rfl ?_
      exact kt)
  obtain ⟨T2, X2, e2, st2⟩ := getF X0 hx hZ hown (host := "") (Or.inl (hw _ (List.mem_of_getElem? (i := 37) rfl))) Via.refl e0 F_count_pr0 (g := (mkF m 1 #[rv pr0] [(.ref pr0)])) rfl rfl (hb hby d5_1)
  have pre3 : ∀ t, Steps p.tables e below (T2.setTop (mkF m 4 #[rv pr0] [(.int u_count_pr0)])) t → Go t := fun t kt => pre1 t (st2 t kt)
  obtain ⟨fs, hr, hrun, hended, hW, hsame⟩ := X2.leave (v := some (.int u_count_pr0)) (fun h => by rw [Bd.returns] at h; cases h)
  refine ⟨_, _, (hGo _).mp (pre3 _ ?_), hrun, hended, _, _, rfl, ?_, ⟨_, rfl⟩, hW, hsame.mono (by decide) (by decide)⟩
  · exact retOut X2 hx Bd.returns rfl (Or.inl ⟨rfl, Or.inl rfl, _, rfl⟩) (hb hby d5_4) hr
  · show Q5 Z pr0 u_count_pr0 h0 n0 _ T2.heap _
    rw [e2]
    exact ⟨rfl, N0, rfl⟩
theorem d6_0 : decode prog_17_method_6_code 0 = .ok (.aload_n 0, 1) := by decide +kernel
theorem d6_1 : decode prog_17_method_6_code 1 = .ok (.getfield 21, 3) := by decide +kernel
theorem d6_4 : decode prog_17_method_6_code 4 = .ok (.iload_n 1, 1) := by decide +kernel
theorem d6_5 : decode prog_17_method_6_code 5 = .ok (.aaload, 1) := by decide +kernel
theorem d6_6 : decode prog_17_method_6_code 6 = .ok (.areturn, 1) := by decide +kernel
theorem ef_6i0 (m : MethodId) (x0 : Addr) : entryFrame m #[(.ref x0), (.int (0 : Int32))] 2 = mkF m 0 #[rv x0, iv (0 : Int32)] [] := by first | (simp [entryFrame, mkF, argsToLocals, Value.category]; done) | rfl
def Q6i0 (Z : State) (pr0 : Addr) (u_colours_pr0 : Addr) (nn : Int32) (kk_u_colours_pr0 : ClassId) (y0_colours : Addr) (y1_colours : Addr) (h0 : Heap) (n0 : Nat) (v : Option Value) (h : Heap) (L : List Loc) : Prop := v = some (.ref y0_colours) ∧ Fr n0 L ∧ h = h0
set_option maxRecDepth 65536 in
set_option maxHeartbeats 40000000 in
theorem rm6i0 (l : Launch) (Z : State) (a0 : Array Value) (hw : ∀ d ∈ tables_1, d.before a0 Z = true) (ws : List Jvm.Cond) (pr0 : Addr) (u_colours_pr0 : Addr) (nn : Int32) (kk_u_colours_pr0 : ClassId) (y0_colours : Addr) (y1_colours : Addr) (h0 : Heap) (n0 : Nat) (O0 : Old Z n0 h0) (E_pr0 : Exa Z h0 pr0 "com/example/stonegaze/stonegaze/Groups") (F_colours_pr0 : Fld Z h0 pr0 "com/example/stonegaze/stonegaze/Groups" "colours" "[Lcom/example/stonegaze/stonegaze/Side;" (.ref u_colours_pr0)) (L0 : (0 : Int32) < nn) (L1 : (1 : Int32) < nn) (V_u_colours_pr0 : Arv Z h0 u_colours_pr0 kk_u_colours_pr0 (.object "com/example/stonegaze/stonegaze/Side") nn [(.ref y0_colours), (.ref y1_colours)] .null) (OV_u_colours_pr0 : Ovr Z kk_u_colours_pr0 "com/example/stonegaze/stonegaze/Side") :
    MetFree l (⟨"com/example/stonegaze/stonegaze/Groups", "colour", "(I)Lcom/example/stonegaze/stonegaze/Side;"⟩ : MethodName) (head1 (Jvm.Cond.code (⟨"com/example/stonegaze/stonegaze/Groups", "colour", "(I)Lcom/example/stonegaze/stonegaze/Side;"⟩ : MethodName) prog_17_method_6_code 2 (some (.object "com/example/stonegaze/stonegaze/Side")) :: ws) ({ frames := 0, cells := 0, slots := 0, locals := 0 } : Room)) (fun a U => a = #[(.ref pr0), (.int (0 : Int32))] ∧ Z.Warmed39 U.vm ∧ U.heap = h0) (fun _ _ _ _ _ => True) (fun _ U o U' => ∃ v L, o = .returned v ∧ Q6i0 Z pr0 u_colours_pr0 nn kk_u_colours_pr0 y0_colours y1_colours h0 n0 v U'.heap L ∧ FrameEnd U o U' L ({ frames := 0, cells := 0, slots := 0, locals := 0 } : Room).cells ({ frames := 0, cells := 0, slots := 0, locals := 0 } : Room).slots) := by
  refine MetFree.of_bodySF (plainFor_of_name pn_com_example_stonegaze_stonegaze_Groups) hisR ?_
  intro p e s m args below meth c s₁ Bd hml0 hP hK
  obtain ⟨rfl, hZ, hh⟩ := hP
  have hx := Bd.exec
  have hby := Bd.bytes
  have hml : c.maxLocals = 2 := hml0
  have hown : s.vm.findClass "com/example/stonegaze/stonegaze/Groups" = some m.cls := findClass_of_methodNamed Bd.named
  have hnm := (name_of_methodNamed Bd.named Bd.method).1
  have X0 : Stand p l e ({ frames := 0, cells := 0, slots := 0, locals := 0 } : Room) s m #[(.ref pr0), (.int (0 : Int32))] below meth c s₁ [] 0 0 := Stand.of_body Bd
  have e0 : s₁.heap = h0 := by rw [← hh, Bd.state]; rfl
  have N0 := Fr.nil n0
  obtain ⟨Go, hGo⟩ : ∃ P : State → Prop, ∀ t, P t ↔ Steps p.tables e below (s₁.setTop (entryFrame m #[(.ref pr0), (.int (0 : Int32))] 2)) t := ⟨_, fun _ => Iff.rfl⟩
  have pre0 : ∀ t, Steps p.tables e below (s₁.setTop (mkF m 0 #[rv pr0, iv (0 : Int32)] [])) t → Go t := fun t k => (hGo t).mpr (castTop (ef_6i0 m pr0) k)
  have pre1 : ∀ t, Steps p.tables e below (s₁.setTop (mkF m 1 #[rv pr0, iv (0 : Int32)] [(.ref pr0)])) t → Go t := fun t kt => pre0 t (by
      refine y_aloadN X0.here hx (hb hby d6_0) rfl rfl (pc' := 1) rfl ?_
      exact kt)
  obtain ⟨T2, X2, e2, st2⟩ := getF X0 hx hZ hown (host := "") (Or.inl (hw _ (List.mem_of_getElem? (i := 21) rfl))) Via.refl e0 F_colours_pr0 (g := (mkF m 1 #[rv pr0, iv (0 : Int32)] [(.ref pr0)])) rfl rfl (hb hby d6_1)
  have pre3 : ∀ t, Steps p.tables e below (T2.setTop (mkF m 4 #[rv pr0, iv (0 : Int32)] [(.ref u_colours_pr0)])) t → Go t := fun t kt => pre1 t (st2 t kt)
  have pre4 : ∀ t, Steps p.tables e below (T2.setTop (mkF m 5 #[rv pr0, iv (0 : Int32)] [(.int (0 : Int32)), (.ref u_colours_pr0)])) t → Go t := fun t kt => pre3 t (by
      refine y_iloadN X2.here hx (hb hby d6_4) rfl (pc' := 5) rfl ?_
      exact kt)
  obtain ⟨c5, Ar5, q5, S5, M5, H5, G5⟩ := id V_u_colours_pr0
  have hin5 : ¬ ((0 : Int32) < 0 ∨ c5.slots.size ≤ ((0 : Int32)).toNatClampNeg) := inb_of S5 ⟨by decide, L0⟩
  have hat5 : c5.slots[((0 : Int32)).toNatClampNeg]? = some (.ref y0_colours) := Has.at H5 hin5 rfl
  have pre6 : ∀ t, Steps p.tables e below (T2.setTop (mkF m 6 #[rv pr0, iv (0 : Int32)] [(.ref y0_colours)])) t → Go t := fun t kt => pre4 t (by
      refine X2.aaload hx (j := (0 : Int32)) (v := (.ref y0_colours)) (by rw [e2]; exact Ar5.1) (State.isArrayOf_alike hZ.alike Ar5.2.1) rfl Ar5.2.2 hin5 hat5 (g := (mkF m 5 #[rv pr0, iv (0 : Int32)] [(.int (0 : Int32)), (.ref u_colours_pr0)])) rfl rfl (hb hby d6_5) _ ?_
      show Steps p.tables e below (T2.setTop (mkF m 6 #[rv pr0, iv (0 : Int32)] [(.ref y0_colours)])) _
      exact kt)
  obtain ⟨fs, hr, hrun, hended, hW, hsame⟩ := X2.leave (v := some (.ref y0_colours)) (fun h => by rw [Bd.returns] at h; cases h)
  refine ⟨_, _, (hGo _).mp (pre6 _ ?_), hrun, hended, _, _, rfl, ?_, ⟨_, rfl⟩, hW, hsame.mono (by decide) (by decide)⟩
  · exact retOut X2 hx Bd.returns rfl (Or.inr (Or.inr (Or.inr (Or.inr ⟨rfl, rfl, rfl⟩)))) (hb hby d6_6) hr
  · show Q6i0 Z pr0 u_colours_pr0 nn kk_u_colours_pr0 y0_colours y1_colours h0 n0 _ T2.heap _
    rw [e2]
    exact ⟨rfl, N0, rfl⟩
theorem ef_6i1 (m : MethodId) (x0 : Addr) : entryFrame m #[(.ref x0), (.int (1 : Int32))] 2 = mkF m 0 #[rv x0, iv (1 : Int32)] [] := by first | (simp [entryFrame, mkF, argsToLocals, Value.category]; done) | rfl
def Q6i1 (Z : State) (pr0 : Addr) (u_colours_pr0 : Addr) (nn : Int32) (kk_u_colours_pr0 : ClassId) (y0_colours : Addr) (y1_colours : Addr) (h0 : Heap) (n0 : Nat) (v : Option Value) (h : Heap) (L : List Loc) : Prop := v = some (.ref y1_colours) ∧ Fr n0 L ∧ h = h0
set_option maxRecDepth 65536 in
set_option maxHeartbeats 40000000 in
theorem rm6i1 (l : Launch) (Z : State) (a0 : Array Value) (hw : ∀ d ∈ tables_1, d.before a0 Z = true) (ws : List Jvm.Cond) (pr0 : Addr) (u_colours_pr0 : Addr) (nn : Int32) (kk_u_colours_pr0 : ClassId) (y0_colours : Addr) (y1_colours : Addr) (h0 : Heap) (n0 : Nat) (O0 : Old Z n0 h0) (E_pr0 : Exa Z h0 pr0 "com/example/stonegaze/stonegaze/Groups") (F_colours_pr0 : Fld Z h0 pr0 "com/example/stonegaze/stonegaze/Groups" "colours" "[Lcom/example/stonegaze/stonegaze/Side;" (.ref u_colours_pr0)) (L0 : (0 : Int32) < nn) (L1 : (1 : Int32) < nn) (V_u_colours_pr0 : Arv Z h0 u_colours_pr0 kk_u_colours_pr0 (.object "com/example/stonegaze/stonegaze/Side") nn [(.ref y0_colours), (.ref y1_colours)] .null) (OV_u_colours_pr0 : Ovr Z kk_u_colours_pr0 "com/example/stonegaze/stonegaze/Side") :
    MetFree l (⟨"com/example/stonegaze/stonegaze/Groups", "colour", "(I)Lcom/example/stonegaze/stonegaze/Side;"⟩ : MethodName) (head1 (Jvm.Cond.code (⟨"com/example/stonegaze/stonegaze/Groups", "colour", "(I)Lcom/example/stonegaze/stonegaze/Side;"⟩ : MethodName) prog_17_method_6_code 2 (some (.object "com/example/stonegaze/stonegaze/Side")) :: ws) ({ frames := 0, cells := 0, slots := 0, locals := 0 } : Room)) (fun a U => a = #[(.ref pr0), (.int (1 : Int32))] ∧ Z.Warmed39 U.vm ∧ U.heap = h0) (fun _ _ _ _ _ => True) (fun _ U o U' => ∃ v L, o = .returned v ∧ Q6i1 Z pr0 u_colours_pr0 nn kk_u_colours_pr0 y0_colours y1_colours h0 n0 v U'.heap L ∧ FrameEnd U o U' L ({ frames := 0, cells := 0, slots := 0, locals := 0 } : Room).cells ({ frames := 0, cells := 0, slots := 0, locals := 0 } : Room).slots) := by
  refine MetFree.of_bodySF (plainFor_of_name pn_com_example_stonegaze_stonegaze_Groups) hisR ?_
  intro p e s m args below meth c s₁ Bd hml0 hP hK
  obtain ⟨rfl, hZ, hh⟩ := hP
  have hx := Bd.exec
  have hby := Bd.bytes
  have hml : c.maxLocals = 2 := hml0
  have hown : s.vm.findClass "com/example/stonegaze/stonegaze/Groups" = some m.cls := findClass_of_methodNamed Bd.named
  have hnm := (name_of_methodNamed Bd.named Bd.method).1
  have X0 : Stand p l e ({ frames := 0, cells := 0, slots := 0, locals := 0 } : Room) s m #[(.ref pr0), (.int (1 : Int32))] below meth c s₁ [] 0 0 := Stand.of_body Bd
  have e0 : s₁.heap = h0 := by rw [← hh, Bd.state]; rfl
  have N0 := Fr.nil n0
  obtain ⟨Go, hGo⟩ : ∃ P : State → Prop, ∀ t, P t ↔ Steps p.tables e below (s₁.setTop (entryFrame m #[(.ref pr0), (.int (1 : Int32))] 2)) t := ⟨_, fun _ => Iff.rfl⟩
  have pre0 : ∀ t, Steps p.tables e below (s₁.setTop (mkF m 0 #[rv pr0, iv (1 : Int32)] [])) t → Go t := fun t k => (hGo t).mpr (castTop (ef_6i1 m pr0) k)
  have pre1 : ∀ t, Steps p.tables e below (s₁.setTop (mkF m 1 #[rv pr0, iv (1 : Int32)] [(.ref pr0)])) t → Go t := fun t kt => pre0 t (by
      refine y_aloadN X0.here hx (hb hby d6_0) rfl rfl (pc' := 1) rfl ?_
      exact kt)
  obtain ⟨T2, X2, e2, st2⟩ := getF X0 hx hZ hown (host := "") (Or.inl (hw _ (List.mem_of_getElem? (i := 21) rfl))) Via.refl e0 F_colours_pr0 (g := (mkF m 1 #[rv pr0, iv (1 : Int32)] [(.ref pr0)])) rfl rfl (hb hby d6_1)
  have pre3 : ∀ t, Steps p.tables e below (T2.setTop (mkF m 4 #[rv pr0, iv (1 : Int32)] [(.ref u_colours_pr0)])) t → Go t := fun t kt => pre1 t (st2 t kt)
  have pre4 : ∀ t, Steps p.tables e below (T2.setTop (mkF m 5 #[rv pr0, iv (1 : Int32)] [(.int (1 : Int32)), (.ref u_colours_pr0)])) t → Go t := fun t kt => pre3 t (by
      refine y_iloadN X2.here hx (hb hby d6_4) rfl (pc' := 5) rfl ?_
      exact kt)
  obtain ⟨c5, Ar5, q5, S5, M5, H5, G5⟩ := id V_u_colours_pr0
  have hin5 : ¬ ((1 : Int32) < 0 ∨ c5.slots.size ≤ ((1 : Int32)).toNatClampNeg) := inb_of S5 ⟨by decide, L1⟩
  have hat5 : c5.slots[((1 : Int32)).toNatClampNeg]? = some (.ref y1_colours) := Has.at H5 hin5 rfl
  have pre6 : ∀ t, Steps p.tables e below (T2.setTop (mkF m 6 #[rv pr0, iv (1 : Int32)] [(.ref y1_colours)])) t → Go t := fun t kt => pre4 t (by
      refine X2.aaload hx (j := (1 : Int32)) (v := (.ref y1_colours)) (by rw [e2]; exact Ar5.1) (State.isArrayOf_alike hZ.alike Ar5.2.1) rfl Ar5.2.2 hin5 hat5 (g := (mkF m 5 #[rv pr0, iv (1 : Int32)] [(.int (1 : Int32)), (.ref u_colours_pr0)])) rfl rfl (hb hby d6_5) _ ?_
      show Steps p.tables e below (T2.setTop (mkF m 6 #[rv pr0, iv (1 : Int32)] [(.ref y1_colours)])) _
      exact kt)
  obtain ⟨fs, hr, hrun, hended, hW, hsame⟩ := X2.leave (v := some (.ref y1_colours)) (fun h => by rw [Bd.returns] at h; cases h)
  refine ⟨_, _, (hGo _).mp (pre6 _ ?_), hrun, hended, _, _, rfl, ?_, ⟨_, rfl⟩, hW, hsame.mono (by decide) (by decide)⟩
  · exact retOut X2 hx Bd.returns rfl (Or.inr (Or.inr (Or.inr (Or.inr ⟨rfl, rfl, rfl⟩)))) (hb hby d6_6) hr
  · show Q6i1 Z pr0 u_colours_pr0 nn kk_u_colours_pr0 y0_colours y1_colours h0 n0 _ T2.heap _
    rw [e2]
    exact ⟨rfl, N0, rfl⟩
theorem d7_0 : decode prog_17_method_8_code 0 = .ok (.aload_n 0, 1) := by decide +kernel
theorem d7_1 : decode prog_17_method_8_code 1 = .ok (.getfield 28, 3) := by decide +kernel
theorem d7_4 : decode prog_17_method_8_code 4 = .ok (.iload_n 1, 1) := by decide +kernel
theorem d7_5 : decode prog_17_method_8_code 5 = .ok (.iaload, 1) := by decide +kernel
theorem d7_6 : decode prog_17_method_8_code 6 = .ok (.ireturn, 1) := by decide +kernel
theorem ef_7i0 (m : MethodId) (x0 : Addr) : entryFrame m #[(.ref x0), (.int (0 : Int32))] 2 = mkF m 0 #[rv x0, iv (0 : Int32)] [] := by first | (simp [entryFrame, mkF, argsToLocals, Value.category]; done) | rfl
def Q7i0 (Z : State) (pr0 : Addr) (u_liberties_pr0 : Addr) (nn : Int32) (kk_u_liberties_pr0 : ClassId) (y0_liberties : Int32) (y1_liberties : Int32) (h0 : Heap) (n0 : Nat) (v : Option Value) (h : Heap) (L : List Loc) : Prop := v = some (.int y0_liberties) ∧ Fr n0 L ∧ h = h0
set_option maxRecDepth 65536 in
set_option maxHeartbeats 40000000 in
theorem rm7i0 (l : Launch) (Z : State) (a0 : Array Value) (hw : ∀ d ∈ tables_1, d.before a0 Z = true) (ws : List Jvm.Cond) (pr0 : Addr) (u_liberties_pr0 : Addr) (nn : Int32) (kk_u_liberties_pr0 : ClassId) (y0_liberties : Int32) (y1_liberties : Int32) (h0 : Heap) (n0 : Nat) (O0 : Old Z n0 h0) (E_pr0 : Exa Z h0 pr0 "com/example/stonegaze/stonegaze/Groups") (F_liberties_pr0 : Fld Z h0 pr0 "com/example/stonegaze/stonegaze/Groups" "liberties" "[I" (.ref u_liberties_pr0)) (L0 : (0 : Int32) < nn) (L1 : (1 : Int32) < nn) (V_u_liberties_pr0 : Arv Z h0 u_liberties_pr0 kk_u_liberties_pr0 .int nn [(.int y0_liberties), (.int y1_liberties)] (.int (0 : Int32))) :
    MetFree l (⟨"com/example/stonegaze/stonegaze/Groups", "liberties", "(I)I"⟩ : MethodName) (head1 (Jvm.Cond.code (⟨"com/example/stonegaze/stonegaze/Groups", "liberties", "(I)I"⟩ : MethodName) prog_17_method_8_code 2 (some .int) :: ws) ({ frames := 0, cells := 0, slots := 0, locals := 0 } : Room)) (fun a U => a = #[(.ref pr0), (.int (0 : Int32))] ∧ Z.Warmed39 U.vm ∧ U.heap = h0) (fun _ _ _ _ _ => True) (fun _ U o U' => ∃ v L, o = .returned v ∧ Q7i0 Z pr0 u_liberties_pr0 nn kk_u_liberties_pr0 y0_liberties y1_liberties h0 n0 v U'.heap L ∧ FrameEnd U o U' L ({ frames := 0, cells := 0, slots := 0, locals := 0 } : Room).cells ({ frames := 0, cells := 0, slots := 0, locals := 0 } : Room).slots) := by
  refine MetFree.of_bodySF (plainFor_of_name pn_com_example_stonegaze_stonegaze_Groups) hisR ?_
  intro p e s m args below meth c s₁ Bd hml0 hP hK
  obtain ⟨rfl, hZ, hh⟩ := hP
  have hx := Bd.exec
  have hby := Bd.bytes
  have hml : c.maxLocals = 2 := hml0
  have hown : s.vm.findClass "com/example/stonegaze/stonegaze/Groups" = some m.cls := findClass_of_methodNamed Bd.named
  have hnm := (name_of_methodNamed Bd.named Bd.method).1
  have X0 : Stand p l e ({ frames := 0, cells := 0, slots := 0, locals := 0 } : Room) s m #[(.ref pr0), (.int (0 : Int32))] below meth c s₁ [] 0 0 := Stand.of_body Bd
  have e0 : s₁.heap = h0 := by rw [← hh, Bd.state]; rfl
  have N0 := Fr.nil n0
  obtain ⟨Go, hGo⟩ : ∃ P : State → Prop, ∀ t, P t ↔ Steps p.tables e below (s₁.setTop (entryFrame m #[(.ref pr0), (.int (0 : Int32))] 2)) t := ⟨_, fun _ => Iff.rfl⟩
  have pre0 : ∀ t, Steps p.tables e below (s₁.setTop (mkF m 0 #[rv pr0, iv (0 : Int32)] [])) t → Go t := fun t k => (hGo t).mpr (castTop (ef_7i0 m pr0) k)
  have pre1 : ∀ t, Steps p.tables e below (s₁.setTop (mkF m 1 #[rv pr0, iv (0 : Int32)] [(.ref pr0)])) t → Go t := fun t kt => pre0 t (by
      refine y_aloadN X0.here hx (hb hby d7_0) rfl rfl (pc' := 1) rfl ?_
      exact kt)
  obtain ⟨T2, X2, e2, st2⟩ := getF X0 hx hZ hown (host := "") (Or.inl (hw _ (List.mem_of_getElem? (i := 25) rfl))) Via.refl e0 F_liberties_pr0 (g := (mkF m 1 #[rv pr0, iv (0 : Int32)] [(.ref pr0)])) rfl rfl (hb hby d7_1)
  have pre3 : ∀ t, Steps p.tables e below (T2.setTop (mkF m 4 #[rv pr0, iv (0 : Int32)] [(.ref u_liberties_pr0)])) t → Go t := fun t kt => pre1 t (st2 t kt)
  have pre4 : ∀ t, Steps p.tables e below (T2.setTop (mkF m 5 #[rv pr0, iv (0 : Int32)] [(.int (0 : Int32)), (.ref u_liberties_pr0)])) t → Go t := fun t kt => pre3 t (by
      refine y_iloadN X2.here hx (hb hby d7_4) rfl (pc' := 5) rfl ?_
      exact kt)
  obtain ⟨c5, Ar5, q5, S5, M5, H5, G5⟩ := id V_u_liberties_pr0
  have hin5 : ¬ ((0 : Int32) < 0 ∨ c5.slots.size ≤ ((0 : Int32)).toNatClampNeg) := inb_of S5 ⟨by decide, L0⟩
  have hat5 : c5.slots[((0 : Int32)).toNatClampNeg]? = some (.int y0_liberties) := Has.at H5 hin5 rfl
  have pre6 : ∀ t, Steps p.tables e below (T2.setTop (mkF m 6 #[rv pr0, iv (0 : Int32)] [(.int y0_liberties)])) t → Go t := fun t kt => pre4 t (by
      refine X2.iaload hx (j := (0 : Int32)) (v := (.int y0_liberties)) (by rw [e2]; exact Ar5.1) (State.isArrayOf_alike hZ.alike Ar5.2.1) Ar5.2.2 hin5 hat5 (g := (mkF m 5 #[rv pr0, iv (0 : Int32)] [(.int (0 : Int32)), (.ref u_liberties_pr0)])) rfl rfl (hb hby d7_5) _ ?_
      show Steps p.tables e below (T2.setTop (mkF m 6 #[rv pr0, iv (0 : Int32)] [(.int y0_liberties)])) _
      exact kt)
  obtain ⟨fs, hr, hrun, hended, hW, hsame⟩ := X2.leave (v := some (.int y0_liberties)) (fun h => by rw [Bd.returns] at h; cases h)
  refine ⟨_, _, (hGo _).mp (pre6 _ ?_), hrun, hended, _, _, rfl, ?_, ⟨_, rfl⟩, hW, hsame.mono (by decide) (by decide)⟩
  · exact retOut X2 hx Bd.returns rfl (Or.inl ⟨rfl, Or.inl rfl, _, rfl⟩) (hb hby d7_6) hr
  · show Q7i0 Z pr0 u_liberties_pr0 nn kk_u_liberties_pr0 y0_liberties y1_liberties h0 n0 _ T2.heap _
    rw [e2]
    exact ⟨rfl, N0, rfl⟩
theorem ef_7i1 (m : MethodId) (x0 : Addr) : entryFrame m #[(.ref x0), (.int (1 : Int32))] 2 = mkF m 0 #[rv x0, iv (1 : Int32)] [] := by first | (simp [entryFrame, mkF, argsToLocals, Value.category]; done) | rfl
def Q7i1 (Z : State) (pr0 : Addr) (u_liberties_pr0 : Addr) (nn : Int32) (kk_u_liberties_pr0 : ClassId) (y0_liberties : Int32) (y1_liberties : Int32) (h0 : Heap) (n0 : Nat) (v : Option Value) (h : Heap) (L : List Loc) : Prop := v = some (.int y1_liberties) ∧ Fr n0 L ∧ h = h0
set_option maxRecDepth 65536 in
set_option maxHeartbeats 40000000 in
theorem rm7i1 (l : Launch) (Z : State) (a0 : Array Value) (hw : ∀ d ∈ tables_1, d.before a0 Z = true) (ws : List Jvm.Cond) (pr0 : Addr) (u_liberties_pr0 : Addr) (nn : Int32) (kk_u_liberties_pr0 : ClassId) (y0_liberties : Int32) (y1_liberties : Int32) (h0 : Heap) (n0 : Nat) (O0 : Old Z n0 h0) (E_pr0 : Exa Z h0 pr0 "com/example/stonegaze/stonegaze/Groups") (F_liberties_pr0 : Fld Z h0 pr0 "com/example/stonegaze/stonegaze/Groups" "liberties" "[I" (.ref u_liberties_pr0)) (L0 : (0 : Int32) < nn) (L1 : (1 : Int32) < nn) (V_u_liberties_pr0 : Arv Z h0 u_liberties_pr0 kk_u_liberties_pr0 .int nn [(.int y0_liberties), (.int y1_liberties)] (.int (0 : Int32))) :
    MetFree l (⟨"com/example/stonegaze/stonegaze/Groups", "liberties", "(I)I"⟩ : MethodName) (head1 (Jvm.Cond.code (⟨"com/example/stonegaze/stonegaze/Groups", "liberties", "(I)I"⟩ : MethodName) prog_17_method_8_code 2 (some .int) :: ws) ({ frames := 0, cells := 0, slots := 0, locals := 0 } : Room)) (fun a U => a = #[(.ref pr0), (.int (1 : Int32))] ∧ Z.Warmed39 U.vm ∧ U.heap = h0) (fun _ _ _ _ _ => True) (fun _ U o U' => ∃ v L, o = .returned v ∧ Q7i1 Z pr0 u_liberties_pr0 nn kk_u_liberties_pr0 y0_liberties y1_liberties h0 n0 v U'.heap L ∧ FrameEnd U o U' L ({ frames := 0, cells := 0, slots := 0, locals := 0 } : Room).cells ({ frames := 0, cells := 0, slots := 0, locals := 0 } : Room).slots) := by
  refine MetFree.of_bodySF (plainFor_of_name pn_com_example_stonegaze_stonegaze_Groups) hisR ?_
  intro p e s m args below meth c s₁ Bd hml0 hP hK
  obtain ⟨rfl, hZ, hh⟩ := hP
  have hx := Bd.exec
  have hby := Bd.bytes
  have hml : c.maxLocals = 2 := hml0
  have hown : s.vm.findClass "com/example/stonegaze/stonegaze/Groups" = some m.cls := findClass_of_methodNamed Bd.named
  have hnm := (name_of_methodNamed Bd.named Bd.method).1
  have X0 : Stand p l e ({ frames := 0, cells := 0, slots := 0, locals := 0 } : Room) s m #[(.ref pr0), (.int (1 : Int32))] below meth c s₁ [] 0 0 := Stand.of_body Bd
  have e0 : s₁.heap = h0 := by rw [← hh, Bd.state]; rfl
  have N0 := Fr.nil n0
  obtain ⟨Go, hGo⟩ : ∃ P : State → Prop, ∀ t, P t ↔ Steps p.tables e below (s₁.setTop (entryFrame m #[(.ref pr0), (.int (1 : Int32))] 2)) t := ⟨_, fun _ => Iff.rfl⟩
  have pre0 : ∀ t, Steps p.tables e below (s₁.setTop (mkF m 0 #[rv pr0, iv (1 : Int32)] [])) t → Go t := fun t k => (hGo t).mpr (castTop (ef_7i1 m pr0) k)
  have pre1 : ∀ t, Steps p.tables e below (s₁.setTop (mkF m 1 #[rv pr0, iv (1 : Int32)] [(.ref pr0)])) t → Go t := fun t kt => pre0 t (by
      refine y_aloadN X0.here hx (hb hby d7_0) rfl rfl (pc' := 1) rfl ?_
      exact kt)
  obtain ⟨T2, X2, e2, st2⟩ := getF X0 hx hZ hown (host := "") (Or.inl (hw _ (List.mem_of_getElem? (i := 25) rfl))) Via.refl e0 F_liberties_pr0 (g := (mkF m 1 #[rv pr0, iv (1 : Int32)] [(.ref pr0)])) rfl rfl (hb hby d7_1)
  have pre3 : ∀ t, Steps p.tables e below (T2.setTop (mkF m 4 #[rv pr0, iv (1 : Int32)] [(.ref u_liberties_pr0)])) t → Go t := fun t kt => pre1 t (st2 t kt)
  have pre4 : ∀ t, Steps p.tables e below (T2.setTop (mkF m 5 #[rv pr0, iv (1 : Int32)] [(.int (1 : Int32)), (.ref u_liberties_pr0)])) t → Go t := fun t kt => pre3 t (by
      refine y_iloadN X2.here hx (hb hby d7_4) rfl (pc' := 5) rfl ?_
      exact kt)
  obtain ⟨c5, Ar5, q5, S5, M5, H5, G5⟩ := id V_u_liberties_pr0
  have hin5 : ¬ ((1 : Int32) < 0 ∨ c5.slots.size ≤ ((1 : Int32)).toNatClampNeg) := inb_of S5 ⟨by decide, L1⟩
  have hat5 : c5.slots[((1 : Int32)).toNatClampNeg]? = some (.int y1_liberties) := Has.at H5 hin5 rfl
  have pre6 : ∀ t, Steps p.tables e below (T2.setTop (mkF m 6 #[rv pr0, iv (1 : Int32)] [(.int y1_liberties)])) t → Go t := fun t kt => pre4 t (by
      refine X2.iaload hx (j := (1 : Int32)) (v := (.int y1_liberties)) (by rw [e2]; exact Ar5.1) (State.isArrayOf_alike hZ.alike Ar5.2.1) Ar5.2.2 hin5 hat5 (g := (mkF m 5 #[rv pr0, iv (1 : Int32)] [(.int (1 : Int32)), (.ref u_liberties_pr0)])) rfl rfl (hb hby d7_5) _ ?_
      show Steps p.tables e below (T2.setTop (mkF m 6 #[rv pr0, iv (1 : Int32)] [(.int y1_liberties)])) _
      exact kt)
  obtain ⟨fs, hr, hrun, hended, hW, hsame⟩ := X2.leave (v := some (.int y1_liberties)) (fun h => by rw [Bd.returns] at h; cases h)
  refine ⟨_, _, (hGo _).mp (pre6 _ ?_), hrun, hended, _, _, rfl, ?_, ⟨_, rfl⟩, hW, hsame.mono (by decide) (by decide)⟩
  · exact retOut X2 hx Bd.returns rfl (Or.inl ⟨rfl, Or.inl rfl, _, rfl⟩) (hb hby d7_6) hr
  · show Q7i1 Z pr0 u_liberties_pr0 nn kk_u_liberties_pr0 y0_liberties y1_liberties h0 n0 _ T2.heap _
    rw [e2]
    exact ⟨rfl, N0, rfl⟩
theorem d8_0 : decode prog_17_method_9_code 0 = .ok (.aload_n 0, 1) := by decide +kernel
theorem d8_1 : decode prog_17_method_9_code 1 = .ok (.getfield 35, 3) := by decide +kernel
theorem d8_4 : decode prog_17_method_9_code 4 = .ok (.iload_n 1, 1) := by decide +kernel
theorem d8_5 : decode prog_17_method_9_code 5 = .ok (.iaload, 1) := by decide +kernel
theorem d8_6 : decode prog_17_method_9_code 6 = .ok (.ireturn, 1) := by decide +kernel
theorem ef_8i0 (m : MethodId) (x0 : Addr) : entryFrame m #[(.ref x0), (.int (0 : Int32))] 2 = mkF m 0 #[rv x0, iv (0 : Int32)] [] := by first | (simp [entryFrame, mkF, argsToLocals, Value.category]; done) | rfl
def Q8i0 (Z : State) (pr0 : Addr) (u_aLiberty_pr0 : Addr) (nn : Int32) (kk_u_aLiberty_pr0 : ClassId) (y0_aLiberty : Int32) (y1_aLiberty : Int32) (h0 : Heap) (n0 : Nat) (v : Option Value) (h : Heap) (L : List Loc) : Prop := v = some (.int y0_aLiberty) ∧ Fr n0 L ∧ h = h0
set_option maxRecDepth 65536 in
set_option maxHeartbeats 40000000 in
theorem rm8i0 (l : Launch) (Z : State) (a0 : Array Value) (hw : ∀ d ∈ tables_1, d.before a0 Z = true) (ws : List Jvm.Cond) (pr0 : Addr) (u_aLiberty_pr0 : Addr) (nn : Int32) (kk_u_aLiberty_pr0 : ClassId) (y0_aLiberty : Int32) (y1_aLiberty : Int32) (h0 : Heap) (n0 : Nat) (O0 : Old Z n0 h0) (E_pr0 : Exa Z h0 pr0 "com/example/stonegaze/stonegaze/Groups") (F_aLiberty_pr0 : Fld Z h0 pr0 "com/example/stonegaze/stonegaze/Groups" "aLiberty" "[I" (.ref u_aLiberty_pr0)) (L0 : (0 : Int32) < nn) (L1 : (1 : Int32) < nn) (V_u_aLiberty_pr0 : Arv Z h0 u_aLiberty_pr0 kk_u_aLiberty_pr0 .int nn [(.int y0_aLiberty), (.int y1_aLiberty)] (.int (0 : Int32))) :
    MetFree l (⟨"com/example/stonegaze/stonegaze/Groups", "aLiberty", "(I)I"⟩ : MethodName) (head1 (Jvm.Cond.code (⟨"com/example/stonegaze/stonegaze/Groups", "aLiberty", "(I)I"⟩ : MethodName) prog_17_method_9_code 2 (some .int) :: ws) ({ frames := 0, cells := 0, slots := 0, locals := 0 } : Room)) (fun a U => a = #[(.ref pr0), (.int (0 : Int32))] ∧ Z.Warmed39 U.vm ∧ U.heap = h0) (fun _ _ _ _ _ => True) (fun _ U o U' => ∃ v L, o = .returned v ∧ Q8i0 Z pr0 u_aLiberty_pr0 nn kk_u_aLiberty_pr0 y0_aLiberty y1_aLiberty h0 n0 v U'.heap L ∧ FrameEnd U o U' L ({ frames := 0, cells := 0, slots := 0, locals := 0 } : Room).cells ({ frames := 0, cells := 0, slots := 0, locals := 0 } : Room).slots) := by
  refine MetFree.of_bodySF (plainFor_of_name pn_com_example_stonegaze_stonegaze_Groups) hisR ?_
  intro p e s m args below meth c s₁ Bd hml0 hP hK
  obtain ⟨rfl, hZ, hh⟩ := hP
  have hx := Bd.exec
  have hby := Bd.bytes
  have hml : c.maxLocals = 2 := hml0
  have hown : s.vm.findClass "com/example/stonegaze/stonegaze/Groups" = some m.cls := findClass_of_methodNamed Bd.named
  have hnm := (name_of_methodNamed Bd.named Bd.method).1
  have X0 : Stand p l e ({ frames := 0, cells := 0, slots := 0, locals := 0 } : Room) s m #[(.ref pr0), (.int (0 : Int32))] below meth c s₁ [] 0 0 := Stand.of_body Bd
  have e0 : s₁.heap = h0 := by rw [← hh, Bd.state]; rfl
  have N0 := Fr.nil n0
  obtain ⟨Go, hGo⟩ : ∃ P : State → Prop, ∀ t, P t ↔ Steps p.tables e below (s₁.setTop (entryFrame m #[(.ref pr0), (.int (0 : Int32))] 2)) t := ⟨_, fun _ => Iff.rfl⟩
  have pre0 : ∀ t, Steps p.tables e below (s₁.setTop (mkF m 0 #[rv pr0, iv (0 : Int32)] [])) t → Go t := fun t k => (hGo t).mpr (castTop (ef_8i0 m pr0) k)
  have pre1 : ∀ t, Steps p.tables e below (s₁.setTop (mkF m 1 #[rv pr0, iv (0 : Int32)] [(.ref pr0)])) t → Go t := fun t kt => pre0 t (by
      refine y_aloadN X0.here hx (hb hby d8_0) rfl rfl (pc' := 1) rfl ?_
      exact kt)
  obtain ⟨T2, X2, e2, st2⟩ := getF X0 hx hZ hown (host := "") (Or.inl (hw _ (List.mem_of_getElem? (i := 30) rfl))) Via.refl e0 F_aLiberty_pr0 (g := (mkF m 1 #[rv pr0, iv (0 : Int32)] [(.ref pr0)])) rfl rfl (hb hby d8_1)
  have pre3 : ∀ t, Steps p.tables e below (T2.setTop (mkF m 4 #[rv pr0, iv (0 : Int32)] [(.ref u_aLiberty_pr0)])) t → Go t := fun t kt => pre1 t (st2 t kt)
  have pre4 : ∀ t, Steps p.tables e below (T2.setTop (mkF m 5 #[rv pr0, iv (0 : Int32)] [(.int (0 : Int32)), (.ref u_aLiberty_pr0)])) t → Go t := fun t kt => pre3 t (by
      refine y_iloadN X2.here hx (hb hby d8_4) rfl (pc' := 5) rfl ?_
      exact kt)
  obtain ⟨c5, Ar5, q5, S5, M5, H5, G5⟩ := id V_u_aLiberty_pr0
  have hin5 : ¬ ((0 : Int32) < 0 ∨ c5.slots.size ≤ ((0 : Int32)).toNatClampNeg) := inb_of S5 ⟨by decide, L0⟩
  have hat5 : c5.slots[((0 : Int32)).toNatClampNeg]? = some (.int y0_aLiberty) := Has.at H5 hin5 rfl
  have pre6 : ∀ t, Steps p.tables e below (T2.setTop (mkF m 6 #[rv pr0, iv (0 : Int32)] [(.int y0_aLiberty)])) t → Go t := fun t kt => pre4 t (by
      refine X2.iaload hx (j := (0 : Int32)) (v := (.int y0_aLiberty)) (by rw [e2]; exact Ar5.1) (State.isArrayOf_alike hZ.alike Ar5.2.1) Ar5.2.2 hin5 hat5 (g := (mkF m 5 #[rv pr0, iv (0 : Int32)] [(.int (0 : Int32)), (.ref u_aLiberty_pr0)])) rfl rfl (hb hby d8_5) _ ?_
      show Steps p.tables e below (T2.setTop (mkF m 6 #[rv pr0, iv (0 : Int32)] [(.int y0_aLiberty)])) _
      exact kt)
  obtain ⟨fs, hr, hrun, hended, hW, hsame⟩ := X2.leave (v := some (.int y0_aLiberty)) (fun h => by rw [Bd.returns] at h; cases h)
  refine ⟨_, _, (hGo _).mp (pre6 _ ?_), hrun, hended, _, _, rfl, ?_, ⟨_, rfl⟩, hW, hsame.mono (by decide) (by decide)⟩
  · exact retOut X2 hx Bd.returns rfl (Or.inl ⟨rfl, Or.inl rfl, _, rfl⟩) (hb hby d8_6) hr
  · show Q8i0 Z pr0 u_aLiberty_pr0 nn kk_u_aLiberty_pr0 y0_aLiberty y1_aLiberty h0 n0 _ T2.heap _
    rw [e2]
    exact ⟨rfl, N0, rfl⟩
theorem ef_8i1 (m : MethodId) (x0 : Addr) : entryFrame m #[(.ref x0), (.int (1 : Int32))] 2 = mkF m 0 #[rv x0, iv (1 : Int32)] [] := by first | (simp [entryFrame, mkF, argsToLocals, Value.category]; done) | rfl
def Q8i1 (Z : State) (pr0 : Addr) (u_aLiberty_pr0 : Addr) (nn : Int32) (kk_u_aLiberty_pr0 : ClassId) (y0_aLiberty : Int32) (y1_aLiberty : Int32) (h0 : Heap) (n0 : Nat) (v : Option Value) (h : Heap) (L : List Loc) : Prop := v = some (.int y1_aLiberty) ∧ Fr n0 L ∧ h = h0
set_option maxRecDepth 65536 in
set_option maxHeartbeats 40000000 in
theorem rm8i1 (l : Launch) (Z : State) (a0 : Array Value) (hw : ∀ d ∈ tables_1, d.before a0 Z = true) (ws : List Jvm.Cond) (pr0 : Addr) (u_aLiberty_pr0 : Addr) (nn : Int32) (kk_u_aLiberty_pr0 : ClassId) (y0_aLiberty : Int32) (y1_aLiberty : Int32) (h0 : Heap) (n0 : Nat) (O0 : Old Z n0 h0) (E_pr0 : Exa Z h0 pr0 "com/example/stonegaze/stonegaze/Groups") (F_aLiberty_pr0 : Fld Z h0 pr0 "com/example/stonegaze/stonegaze/Groups" "aLiberty" "[I" (.ref u_aLiberty_pr0)) (L0 : (0 : Int32) < nn) (L1 : (1 : Int32) < nn) (V_u_aLiberty_pr0 : Arv Z h0 u_aLiberty_pr0 kk_u_aLiberty_pr0 .int nn [(.int y0_aLiberty), (.int y1_aLiberty)] (.int (0 : Int32))) :
    MetFree l (⟨"com/example/stonegaze/stonegaze/Groups", "aLiberty", "(I)I"⟩ : MethodName) (head1 (Jvm.Cond.code (⟨"com/example/stonegaze/stonegaze/Groups", "aLiberty", "(I)I"⟩ : MethodName) prog_17_method_9_code 2 (some .int) :: ws) ({ frames := 0, cells := 0, slots := 0, locals := 0 } : Room)) (fun a U => a = #[(.ref pr0), (.int (1 : Int32))] ∧ Z.Warmed39 U.vm ∧ U.heap = h0) (fun _ _ _ _ _ => True) (fun _ U o U' => ∃ v L, o = .returned v ∧ Q8i1 Z pr0 u_aLiberty_pr0 nn kk_u_aLiberty_pr0 y0_aLiberty y1_aLiberty h0 n0 v U'.heap L ∧ FrameEnd U o U' L ({ frames := 0, cells := 0, slots := 0, locals := 0 } : Room).cells ({ frames := 0, cells := 0, slots := 0, locals := 0 } : Room).slots) := by
  refine MetFree.of_bodySF (plainFor_of_name pn_com_example_stonegaze_stonegaze_Groups) hisR ?_
  intro p e s m args below meth c s₁ Bd hml0 hP hK
  obtain ⟨rfl, hZ, hh⟩ := hP
  have hx := Bd.exec
  have hby := Bd.bytes
  have hml : c.maxLocals = 2 := hml0
  have hown : s.vm.findClass "com/example/stonegaze/stonegaze/Groups" = some m.cls := findClass_of_methodNamed Bd.named
  have hnm := (name_of_methodNamed Bd.named Bd.method).1
  have X0 : Stand p l e ({ frames := 0, cells := 0, slots := 0, locals := 0 } : Room) s m #[(.ref pr0), (.int (1 : Int32))] below meth c s₁ [] 0 0 := Stand.of_body Bd
  have e0 : s₁.heap = h0 := by rw [← hh, Bd.state]; rfl
  have N0 := Fr.nil n0
  obtain ⟨Go, hGo⟩ : ∃ P : State → Prop, ∀ t, P t ↔ Steps p.tables e below (s₁.setTop (entryFrame m #[(.ref pr0), (.int (1 : Int32))] 2)) t := ⟨_, fun _ => Iff.rfl⟩
  have pre0 : ∀ t, Steps p.tables e below (s₁.setTop (mkF m 0 #[rv pr0, iv (1 : Int32)] [])) t → Go t := fun t k => (hGo t).mpr (castTop (ef_8i1 m pr0) k)
  have pre1 : ∀ t, Steps p.tables e below (s₁.setTop (mkF m 1 #[rv pr0, iv (1 : Int32)] [(.ref pr0)])) t → Go t := fun t kt => pre0 t (by
      refine y_aloadN X0.here hx (hb hby d8_0) rfl rfl (pc' := 1) rfl ?_
      exact kt)
  obtain ⟨T2, X2, e2, st2⟩ := getF X0 hx hZ hown (host := "") (Or.inl (hw _ (List.mem_of_getElem? (i := 30) rfl))) Via.refl e0 F_aLiberty_pr0 (g := (mkF m 1 #[rv pr0, iv (1 : Int32)] [(.ref pr0)])) rfl rfl (hb hby d8_1)
  have pre3 : ∀ t, Steps p.tables e below (T2.setTop (mkF m 4 #[rv pr0, iv (1 : Int32)] [(.ref u_aLiberty_pr0)])) t → Go t := fun t kt => pre1 t (st2 t kt)
  have pre4 : ∀ t, Steps p.tables e below (T2.setTop (mkF m 5 #[rv pr0, iv (1 : Int32)] [(.int (1 : Int32)), (.ref u_aLiberty_pr0)])) t → Go t := fun t kt => pre3 t (by
      refine y_iloadN X2.here hx (hb hby d8_4) rfl (pc' := 5) rfl ?_
      exact kt)
  obtain ⟨c5, Ar5, q5, S5, M5, H5, G5⟩ := id V_u_aLiberty_pr0
  have hin5 : ¬ ((1 : Int32) < 0 ∨ c5.slots.size ≤ ((1 : Int32)).toNatClampNeg) := inb_of S5 ⟨by decide, L1⟩
  have hat5 : c5.slots[((1 : Int32)).toNatClampNeg]? = some (.int y1_aLiberty) := Has.at H5 hin5 rfl
  have pre6 : ∀ t, Steps p.tables e below (T2.setTop (mkF m 6 #[rv pr0, iv (1 : Int32)] [(.int y1_aLiberty)])) t → Go t := fun t kt => pre4 t (by
      refine X2.iaload hx (j := (1 : Int32)) (v := (.int y1_aLiberty)) (by rw [e2]; exact Ar5.1) (State.isArrayOf_alike hZ.alike Ar5.2.1) Ar5.2.2 hin5 hat5 (g := (mkF m 5 #[rv pr0, iv (1 : Int32)] [(.int (1 : Int32)), (.ref u_aLiberty_pr0)])) rfl rfl (hb hby d8_5) _ ?_
      show Steps p.tables e below (T2.setTop (mkF m 6 #[rv pr0, iv (1 : Int32)] [(.int y1_aLiberty)])) _
      exact kt)
  obtain ⟨fs, hr, hrun, hended, hW, hsame⟩ := X2.leave (v := some (.int y1_aLiberty)) (fun h => by rw [Bd.returns] at h; cases h)
  refine ⟨_, _, (hGo _).mp (pre6 _ ?_), hrun, hended, _, _, rfl, ?_, ⟨_, rfl⟩, hW, hsame.mono (by decide) (by decide)⟩
  · exact retOut X2 hx Bd.returns rfl (Or.inl ⟨rfl, Or.inl rfl, _, rfl⟩) (hb hby d8_6) hr
  · show Q8i1 Z pr0 u_aLiberty_pr0 nn kk_u_aLiberty_pr0 y0_aLiberty y1_aLiberty h0 n0 _ T2.heap _
    rw [e2]
    exact ⟨rfl, N0, rfl⟩
theorem d9_0 : decode prog_17_method_11_code 0 = .ok (.aload_n 0, 1) := by decide +kernel
theorem d9_1 : decode prog_17_method_11_code 1 = .ok (.getfield 31, 3) := by decide +kernel
theorem d9_4 : decode prog_17_method_11_code 4 = .ok (.iload_n 1, 1) := by decide +kernel
theorem d9_5 : decode prog_17_method_11_code 5 = .ok (.baload, 1) := by decide +kernel
theorem d9_6 : decode prog_17_method_11_code 6 = .ok (.ireturn, 1) := by decide +kernel
theorem ef_9i0 (m : MethodId) (x0 : Addr) : entryFrame m #[(.ref x0), (.int (0 : Int32))] 2 = mkF m 0 #[rv x0, iv (0 : Int32)] [] := by first | (simp [entryFrame, mkF, argsToLocals, Value.category]; done) | rfl
def Q9i0 (Z : State) (pr0 : Addr) (u_ringed_pr0 : Addr) (nn : Int32) (kk_u_ringed_pr0 : ClassId) (y0_ringed : Int32) (y1_ringed : Int32) (h0 : Heap) (n0 : Nat) (v : Option Value) (h : Heap) (L : List Loc) : Prop := v = some (.int (nar .boolean y0_ringed)) ∧ Fr n0 L ∧ h = h0
set_option maxRecDepth 65536 in
set_option maxHeartbeats 40000000 in
theorem rm9i0 (l : Launch) (Z : State) (a0 : Array Value) (hw : ∀ d ∈ tables_1, d.before a0 Z = true) (ws : List Jvm.Cond) (pr0 : Addr) (u_ringed_pr0 : Addr) (nn : Int32) (kk_u_ringed_pr0 : ClassId) (y0_ringed : Int32) (y1_ringed : Int32) (h0 : Heap) (n0 : Nat) (O0 : Old Z n0 h0) (E_pr0 : Exa Z h0 pr0 "com/example/stonegaze/stonegaze/Groups") (F_ringed_pr0 : Fld Z h0 pr0 "com/example/stonegaze/stonegaze/Groups" "ringed" "[Z" (.ref u_ringed_pr0)) (L0 : (0 : Int32) < nn) (L1 : (1 : Int32) < nn) (V_u_ringed_pr0 : Arv Z h0 u_ringed_pr0 kk_u_ringed_pr0 .boolean nn [(.int y0_ringed), (.int y1_ringed)] (.int (0 : Int32))) :
    MetFree l (⟨"com/example/stonegaze/stonegaze/Groups", "ringed", "(I)Z"⟩ : MethodName) (head1 (Jvm.Cond.code (⟨"com/example/stonegaze/stonegaze/Groups", "ringed", "(I)Z"⟩ : MethodName) prog_17_method_11_code 2 (some .boolean) :: ws) ({ frames := 0, cells := 0, slots := 0, locals := 0 } : Room)) (fun a U => a = #[(.ref pr0), (.int (0 : Int32))] ∧ Z.Warmed39 U.vm ∧ U.heap = h0) (fun _ _ _ _ _ => True) (fun _ U o U' => ∃ v L, o = .returned v ∧ Q9i0 Z pr0 u_ringed_pr0 nn kk_u_ringed_pr0 y0_ringed y1_ringed h0 n0 v U'.heap L ∧ FrameEnd U o U' L ({ frames := 0, cells := 0, slots := 0, locals := 0 } : Room).cells ({ frames := 0, cells := 0, slots := 0, locals := 0 } : Room).slots) := by
  refine MetFree.of_bodySF (plainFor_of_name pn_com_example_stonegaze_stonegaze_Groups) hisR ?_
  intro p e s m args below meth c s₁ Bd hml0 hP hK
  obtain ⟨rfl, hZ, hh⟩ := hP
  have hx := Bd.exec
  have hby := Bd.bytes
  have hml : c.maxLocals = 2 := hml0
  have hown : s.vm.findClass "com/example/stonegaze/stonegaze/Groups" = some m.cls := findClass_of_methodNamed Bd.named
  have hnm := (name_of_methodNamed Bd.named Bd.method).1
  have X0 : Stand p l e ({ frames := 0, cells := 0, slots := 0, locals := 0 } : Room) s m #[(.ref pr0), (.int (0 : Int32))] below meth c s₁ [] 0 0 := Stand.of_body Bd
  have e0 : s₁.heap = h0 := by rw [← hh, Bd.state]; rfl
  have N0 := Fr.nil n0
  obtain ⟨Go, hGo⟩ : ∃ P : State → Prop, ∀ t, P t ↔ Steps p.tables e below (s₁.setTop (entryFrame m #[(.ref pr0), (.int (0 : Int32))] 2)) t := ⟨_, fun _ => Iff.rfl⟩
  have pre0 : ∀ t, Steps p.tables e below (s₁.setTop (mkF m 0 #[rv pr0, iv (0 : Int32)] [])) t → Go t := fun t k => (hGo t).mpr (castTop (ef_9i0 m pr0) k)
  have pre1 : ∀ t, Steps p.tables e below (s₁.setTop (mkF m 1 #[rv pr0, iv (0 : Int32)] [(.ref pr0)])) t → Go t := fun t kt => pre0 t (by
      refine y_aloadN X0.here hx (hb hby d9_0) rfl rfl (pc' := 1) rfl ?_
      exact kt)
  obtain ⟨T2, X2, e2, st2⟩ := getF X0 hx hZ hown (host := "") (Or.inl (hw _ (List.mem_of_getElem? (i := 28) rfl))) Via.refl e0 F_ringed_pr0 (g := (mkF m 1 #[rv pr0, iv (0 : Int32)] [(.ref pr0)])) rfl rfl (hb hby d9_1)
  have pre3 : ∀ t, Steps p.tables e below (T2.setTop (mkF m 4 #[rv pr0, iv (0 : Int32)] [(.ref u_ringed_pr0)])) t → Go t := fun t kt => pre1 t (st2 t kt)
  have pre4 : ∀ t, Steps p.tables e below (T2.setTop (mkF m 5 #[rv pr0, iv (0 : Int32)] [(.int (0 : Int32)), (.ref u_ringed_pr0)])) t → Go t := fun t kt => pre3 t (by
      refine y_iloadN X2.here hx (hb hby d9_4) rfl (pc' := 5) rfl ?_
      exact kt)
  obtain ⟨c5, Ar5, q5, S5, M5, H5, G5⟩ := id V_u_ringed_pr0
  have hin5 : ¬ ((0 : Int32) < 0 ∨ c5.slots.size ≤ ((0 : Int32)).toNatClampNeg) := inb_of S5 ⟨by decide, L0⟩
  have hat5 : c5.slots[((0 : Int32)).toNatClampNeg]? = some (.int y0_ringed) := Has.at H5 hin5 rfl
  have pre6 : ∀ t, Steps p.tables e below (T2.setTop (mkF m 6 #[rv pr0, iv (0 : Int32)] [(.int y0_ringed)])) t → Go t := fun t kt => pre4 t (by
      refine X2.baloadBooleans hx (j := (0 : Int32)) (v := (.int y0_ringed)) (by rw [e2]; exact Ar5.1) (State.isArrayOf_alike hZ.alike Ar5.2.1) Ar5.2.2 hin5 hat5 (g := (mkF m 5 #[rv pr0, iv (0 : Int32)] [(.int (0 : Int32)), (.ref u_ringed_pr0)])) rfl rfl (hb hby d9_5) _ ?_
      show Steps p.tables e below (T2.setTop (mkF m 6 #[rv pr0, iv (0 : Int32)] [(.int y0_ringed)])) _
      exact kt)
  obtain ⟨fs, hr, hrun, hended, hW, hsame⟩ := X2.leave (v := some (.int (nar .boolean y0_ringed))) (fun h => by rw [Bd.returns] at h; cases h)
  refine ⟨_, _, (hGo _).mp (pre6 _ ?_), hrun, hended, _, _, rfl, ?_, ⟨_, rfl⟩, hW, hsame.mono (by decide) (by decide)⟩
  · exact retN X2 hx (t := .boolean) Bd.returns (by simp) (hb hby d9_6) hr
  · show Q9i0 Z pr0 u_ringed_pr0 nn kk_u_ringed_pr0 y0_ringed y1_ringed h0 n0 _ T2.heap _
    rw [e2]
    exact ⟨rfl, N0, rfl⟩
theorem ef_9i1 (m : MethodId) (x0 : Addr) : entryFrame m #[(.ref x0), (.int (1 : Int32))] 2 = mkF m 0 #[rv x0, iv (1 : Int32)] [] := by first | (simp [entryFrame, mkF, argsToLocals, Value.category]; done) | rfl
def Q9i1 (Z : State) (pr0 : Addr) (u_ringed_pr0 : Addr) (nn : Int32) (kk_u_ringed_pr0 : ClassId) (y0_ringed : Int32) (y1_ringed : Int32) (h0 : Heap) (n0 : Nat) (v : Option Value) (h : Heap) (L : List Loc) : Prop := v = some (.int (nar .boolean y1_ringed)) ∧ Fr n0 L ∧ h = h0
set_option maxRecDepth 65536 in
set_option maxHeartbeats 40000000 in
theorem rm9i1 (l : Launch) (Z : State) (a0 : Array Value) (hw : ∀ d ∈ tables_1, d.before a0 Z = true) (ws : List Jvm.Cond) (pr0 : Addr) (u_ringed_pr0 : Addr) (nn : Int32) (kk_u_ringed_pr0 : ClassId) (y0_ringed : Int32) (y1_ringed : Int32) (h0 : Heap) (n0 : Nat) (O0 : Old Z n0 h0) (E_pr0 : Exa Z h0 pr0 "com/example/stonegaze/stonegaze/Groups") (F_ringed_pr0 : Fld Z h0 pr0 "com/example/stonegaze/stonegaze/Groups" "ringed" "[Z" (.ref u_ringed_pr0)) (L0 : (0 : Int32) < nn) (L1 : (1 : Int32) < nn) (V_u_ringed_pr0 : Arv Z h0 u_ringed_pr0 kk_u_ringed_pr0 .boolean nn [(.int y0_ringed), (.int y1_ringed)] (.int (0 : Int32))) :
    MetFree l (⟨"com/example/stonegaze/stonegaze/Groups", "ringed", "(I)Z"⟩ : MethodName) (head1 (Jvm.Cond.code (⟨"com/example/stonegaze/stonegaze/Groups", "ringed", "(I)Z"⟩ : MethodName) prog_17_method_11_code 2 (some .boolean) :: ws) ({ frames := 0, cells := 0, slots := 0, locals := 0 } : Room)) (fun a U => a = #[(.ref pr0), (.int (1 : Int32))] ∧ Z.Warmed39 U.vm ∧ U.heap = h0) (fun _ _ _ _ _ => True) (fun _ U o U' => ∃ v L, o = .returned v ∧ Q9i1 Z pr0 u_ringed_pr0 nn kk_u_ringed_pr0 y0_ringed y1_ringed h0 n0 v U'.heap L ∧ FrameEnd U o U' L ({ frames := 0, cells := 0, slots := 0, locals := 0 } : Room).cells ({ frames := 0, cells := 0, slots := 0, locals := 0 } : Room).slots) := by
  refine MetFree.of_bodySF (plainFor_of_name pn_com_example_stonegaze_stonegaze_Groups) hisR ?_
  intro p e s m args below meth c s₁ Bd hml0 hP hK
  obtain ⟨rfl, hZ, hh⟩ := hP
  have hx := Bd.exec
  have hby := Bd.bytes
  have hml : c.maxLocals = 2 := hml0
  have hown : s.vm.findClass "com/example/stonegaze/stonegaze/Groups" = some m.cls := findClass_of_methodNamed Bd.named
  have hnm := (name_of_methodNamed Bd.named Bd.method).1
  have X0 : Stand p l e ({ frames := 0, cells := 0, slots := 0, locals := 0 } : Room) s m #[(.ref pr0), (.int (1 : Int32))] below meth c s₁ [] 0 0 := Stand.of_body Bd
  have e0 : s₁.heap = h0 := by rw [← hh, Bd.state]; rfl
  have N0 := Fr.nil n0
  obtain ⟨Go, hGo⟩ : ∃ P : State → Prop, ∀ t, P t ↔ Steps p.tables e below (s₁.setTop (entryFrame m #[(.ref pr0), (.int (1 : Int32))] 2)) t := ⟨_, fun _ => Iff.rfl⟩
  have pre0 : ∀ t, Steps p.tables e below (s₁.setTop (mkF m 0 #[rv pr0, iv (1 : Int32)] [])) t → Go t := fun t k => (hGo t).mpr (castTop (ef_9i1 m pr0) k)
  have pre1 : ∀ t, Steps p.tables e below (s₁.setTop (mkF m 1 #[rv pr0, iv (1 : Int32)] [(.ref pr0)])) t → Go t := fun t kt => pre0 t (by
      refine y_aloadN X0.here hx (hb hby d9_0) rfl rfl (pc' := 1) rfl ?_
      exact kt)
  obtain ⟨T2, X2, e2, st2⟩ := getF X0 hx hZ hown (host := "") (Or.inl (hw _ (List.mem_of_getElem? (i := 28) rfl))) Via.refl e0 F_ringed_pr0 (g := (mkF m 1 #[rv pr0, iv (1 : Int32)] [(.ref pr0)])) rfl rfl (hb hby d9_1)
  have pre3 : ∀ t, Steps p.tables e below (T2.setTop (mkF m 4 #[rv pr0, iv (1 : Int32)] [(.ref u_ringed_pr0)])) t → Go t := fun t kt => pre1 t (st2 t kt)
  have pre4 : ∀ t, Steps p.tables e below (T2.setTop (mkF m 5 #[rv pr0, iv (1 : Int32)] [(.int (1 : Int32)), (.ref u_ringed_pr0)])) t → Go t := fun t kt => pre3 t (by
      refine y_iloadN X2.here hx (hb hby d9_4) rfl (pc' := 5) rfl ?_
      exact kt)
  obtain ⟨c5, Ar5, q5, S5, M5, H5, G5⟩ := id V_u_ringed_pr0
  have hin5 : ¬ ((1 : Int32) < 0 ∨ c5.slots.size ≤ ((1 : Int32)).toNatClampNeg) := inb_of S5 ⟨by decide, L1⟩
  have hat5 : c5.slots[((1 : Int32)).toNatClampNeg]? = some (.int y1_ringed) := Has.at H5 hin5 rfl
  have pre6 : ∀ t, Steps p.tables e below (T2.setTop (mkF m 6 #[rv pr0, iv (1 : Int32)] [(.int y1_ringed)])) t → Go t := fun t kt => pre4 t (by
      refine X2.baloadBooleans hx (j := (1 : Int32)) (v := (.int y1_ringed)) (by rw [e2]; exact Ar5.1) (State.isArrayOf_alike hZ.alike Ar5.2.1) Ar5.2.2 hin5 hat5 (g := (mkF m 5 #[rv pr0, iv (1 : Int32)] [(.int (1 : Int32)), (.ref u_ringed_pr0)])) rfl rfl (hb hby d9_5) _ ?_
      show Steps p.tables e below (T2.setTop (mkF m 6 #[rv pr0, iv (1 : Int32)] [(.int y1_ringed)])) _
      exact kt)
  obtain ⟨fs, hr, hrun, hended, hW, hsame⟩ := X2.leave (v := some (.int (nar .boolean y1_ringed))) (fun h => by rw [Bd.returns] at h; cases h)
  refine ⟨_, _, (hGo _).mp (pre6 _ ?_), hrun, hended, _, _, rfl, ?_, ⟨_, rfl⟩, hW, hsame.mono (by decide) (by decide)⟩
  · exact retN X2 hx (t := .boolean) Bd.returns (by simp) (hb hby d9_6) hr
  · show Q9i1 Z pr0 u_ringed_pr0 nn kk_u_ringed_pr0 y0_ringed y1_ringed h0 n0 _ T2.heap _
    rw [e2]
    exact ⟨rfl, N0, rfl⟩
theorem law0_160 (pi0 : Int32) (x28 : Int32) (x103 : Int32) (x156 : Int32) (hx28 : x28 = (if (pi0 &&& (4 : Int32)) = (0 : Int32) then (0 : Int32) else (1 : Int32))) (hx103 : x103 = (nar .boolean x28)) (hx156 : x156 = (nar .boolean x103)) : x156 = x28 := by
  subst hx28 hx103 hx156
  simp only [nar]
  repeat' split
  all_goals first | rfl | simp_all | contradiction
theorem law0_168 (pi0 : Int32) (x28 : Int32) (x35 : Int32) (x123 : Int32) (x156 : Int32) (x164 : Int32) (hx35 : x35 = (if (pi0 &&& (8 : Int32)) = (0 : Int32) then (0 : Int32) else (1 : Int32))) (hx123 : x123 = (nar .boolean x35)) (hx164 : x164 = (nar .boolean x123)) (hf199_158 : x156 = x28) : x164 = x35 := by
  subst hx35 hx123 hx164
  simp only [nar]
  repeat' split
  all_goals first | rfl | simp_all | contradiction
theorem pn_com_example_stonegaze_stonegaze_GroupsAddPinLaw : plainName "com/example/stonegaze/stonegaze/GroupsAddPinLaw" = true := by first | (simp [plainName, overriddenIn]; done) | decide +kernel
theorem pd__I_V : parseMethodDescriptor "(I)V" = some ⟨[.int], none⟩ := by decide +kernel
theorem pd__Lcom_example_stonegaze_stonegaze_Side_IIZ_I : parseMethodDescriptor "(Lcom/example/stonegaze/stonegaze/Side;IIZ)I" = some ⟨[(.object "com/example/stonegaze/stonegaze/Side"), .int, .int, .boolean], some .int⟩ := by decide +kernel
theorem pd___I : parseMethodDescriptor "()I" = some ⟨[], some .int⟩ := by decide +kernel
theorem pd__I_Lcom_example_stonegaze_stonegaze_Side_ : parseMethodDescriptor "(I)Lcom/example/stonegaze/stonegaze/Side;" = some ⟨[.int], some (.object "com/example/stonegaze/stonegaze/Side")⟩ := by decide +kernel
theorem pd__I_I : parseMethodDescriptor "(I)I" = some ⟨[.int], some .int⟩ := by decide +kernel
theorem pd__I_Z : parseMethodDescriptor "(I)Z" = some ⟨[.int], some .boolean⟩ := by decide +kernel
theorem ef_0 (m : MethodId) (x0 : Int32) (x1 : Int32) (x2 : Int32) (x3 : Int32) (x4 : Int32) (x5 : Int32) : entryFrame m #[(.int x0), (.int x1), (.int x2), (.int x3), (.int x4), (.int x5)] maxLocals = mkF m 0 #[iv x0, iv x1, iv x2, iv x3, iv x4, iv x5, .unset, .unset, .unset, .unset, .unset, .unset, .unset, .unset] [] := by first | (simp [entryFrame, mkF, argsToLocals, Value.category, maxLocals]; done) | rfl
def Q0 (Z : State) (pi0 : Int32) (pi1 : Int32) (pi2 : Int32) (pi3 : Int32) (pi4 : Int32) (pi5 : Int32) (w_WHITE : Addr) (w_BLACK : Addr) (h0 : Heap) (n0 : Nat) (v : Option Value) (h : Heap) (L : List Loc) : Prop := v = some (.int (1 : Int32)) ∧ Fr n0 L
set_option maxRecDepth 65536 in
set_option maxHeartbeats 40000000 in
theorem rm0 (l : Launch) (Z : State) (a0 : Array Value) (hw : ∀ d ∈ tables_1, d.before a0 Z = true) (ws : List Jvm.Cond) (pi0 : Int32) (pi1 : Int32) (pi2 : Int32) (pi3 : Int32) (pi4 : Int32) (pi5 : Int32) (w_WHITE : Addr) (w_BLACK : Addr) (h0 : Heap) (n0 : Nat) (O0 : Old Z n0 h0) (S_WHITE : Sta Z Z.heap "com/example/stonegaze/stonegaze/Side" "WHITE" "Lcom/example/stonegaze/stonegaze/Side;" (.ref w_WHITE)) (S_BLACK : Sta Z Z.heap "com/example/stonegaze/stonegaze/Side" "BLACK" "Lcom/example/stonegaze/stonegaze/Side;" (.ref w_BLACK)) (E_w_WHITE : Exa Z Z.heap w_WHITE "com/example/stonegaze/stonegaze/Side") (E_w_BLACK : Exa Z Z.heap w_BLACK "com/example/stonegaze/stonegaze/Side") :
    MetFree l x (head1 (Jvm.Cond.code x code maxLocals ret :: ws) room_1) (fun a U => a = #[(.int pi0), (.int pi1), (.int pi2), (.int pi3), (.int pi4), (.int pi5)] ∧ Z.Warmed39 U.vm ∧ U.heap = h0) (fun _ _ _ _ _ => True) (fun _ U o U' => ∃ v L, o = .returned v ∧ Q0 Z pi0 pi1 pi2 pi3 pi4 pi5 w_WHITE w_BLACK h0 n0 v U'.heap L ∧ FrameEnd U o U' L room_1.cells room_1.slots) := by
  refine MetFree.of_bodySF (plainFor_of_name pn_com_example_stonegaze_stonegaze_GroupsAddPinLaw) hisR ?_
  intro p e s m args below meth c s₁ Bd hml0 hP hK
  obtain ⟨rfl, hZ, hh⟩ := hP
  have hx := Bd.exec
  have hby := Bd.bytes
  have hml : c.maxLocals = 14 := hml0
  have hown : s.vm.findClass "com/example/stonegaze/stonegaze/GroupsAddPinLaw" = some m.cls := findClass_of_methodNamed Bd.named
  have hnm := (name_of_methodNamed Bd.named Bd.method).1
  have X0 : Stand p l e room_1 s m #[(.int pi0), (.int pi1), (.int pi2), (.int pi3), (.int pi4), (.int pi5)] below meth c s₁ [] 0 0 := Stand.of_body Bd
  have e0 : s₁.heap = h0 := by rw [← hh, Bd.state]; rfl
  have N0 := Fr.nil n0
  obtain ⟨Go, hGo⟩ : ∃ P : State → Prop, ∀ t, P t ↔ Steps p.tables e below (s₁.setTop (entryFrame m #[(.int pi0), (.int pi1), (.int pi2), (.int pi3), (.int pi4), (.int pi5)] maxLocals)) t := ⟨_, fun _ => Iff.rfl⟩
  have pre0 : ∀ t, Steps p.tables e below (s₁.setTop (mkF m 0 #[iv pi0, iv pi1, iv pi2, iv pi3, iv pi4, iv pi5, .unset, .unset, .unset, .unset, .unset, .unset, .unset, .unset] [])) t → Go t := fun t k => (hGo t).mpr (castTop (ef_0 m pi0 pi1 pi2 pi3 pi4 pi5) k)
  obtain ⟨x1, hx1⟩ : ∃ z : Int32, z = ((2 : Int32) + (pi5 &&& (7 : Int32))) := ⟨_, rfl⟩
  have pre2 : ∀ t, Steps p.tables e below (s₁.setTop (mkF m 9 #[iv pi0, iv pi1, iv pi2, iv pi3, iv pi4, iv pi5, iv x1, .unset, .unset, .unset, .unset, .unset, .unset, .unset] [])) t → Go t := fun t kt => pre0 t (by
      subst hx1
      refine y_iconst X0.here hx (hb hby at_0) (v := (2 : Int32)) rfl (pc' := 1) rfl ?_
      refine y_iload X0.here hx (hb hby at_1) rfl (pc' := 3) rfl ?_
      refine y_bipush X0.here hx (hb hby at_3) (v := (7 : Int32)) rfl (pc' := 5) rfl ?_
      refine y_iand X0.here hx (hb hby at_5) rfl (pc' := 6) rfl ?_
      refine y_iadd X0.here hx (hb hby at_6) rfl (pc' := 7) rfl ?_
      refine y_istore X0.here hx (hb hby at_7) (l' := #[iv pi0, iv pi1, iv pi2, iv pi3, iv pi4, iv pi5, iv ((2 : Int32) + (pi5 &&& (7 : Int32))), .unset, .unset, .unset, .unset, .unset, .unset, .unset]) rfl (pc' := 9) rfl ?_
      exact kt)
  have pre3 : ∀ t, Steps p.tables e below (s₁.setTop (mkF m 12 #[iv pi0, iv pi1, iv pi2, iv pi3, iv pi4, iv pi5, iv x1, .unset, .unset, .unset, .unset, .unset, .unset, .unset] [(.int (pi0 &&& (1 : Int32)))])) t → Go t := fun t kt => pre2 t (by
      refine y_iloadN X0.here hx (hb hby at_9) rfl (pc' := 10) rfl ?_
      refine y_iconst X0.here hx (hb hby at_10) (v := (1 : Int32)) rfl (pc' := 11) rfl ?_
      refine y_iand X0.here hx (hb hby at_11) rfl (pc' := 12) rfl ?_
      exact kt)
  obtain ⟨x4, hx4⟩ : ∃ z : Addr, z = (if (pi0 &&& (1 : Int32)) = (0 : Int32) then w_WHITE else w_BLACK) := ⟨_, rfl⟩
  have E_x4 : Exa Z Z.heap x4 "com/example/stonegaze/stonegaze/Side" := by rw [hx4]; split <;> assumption
  obtain ⟨T5, ⟨X5, q5⟩, st5⟩ : ∃ T', Nx X0 T' ∧ ∀ t, Steps p.tables e below (T'.setTop (mkF m 24 #[iv pi0, iv pi1, iv pi2, iv pi3, iv pi4, iv pi5, iv x1, .unset, .unset, .unset, .unset, .unset, .unset, .unset] [(.ref x4)])) t → Steps p.tables e below (s₁.setTop (mkF m 12 #[iv pi0, iv pi1, iv pi2, iv pi3, iv pi4, iv pi5, iv x1, .unset, .unset, .unset, .unset, .unset, .unset, .unset] [(.int (pi0 &&& (1 : Int32)))])) t := by
    have pre5_ : ∀ t, Steps p.tables e below (s₁.setTop (mkF m 12 #[iv pi0, iv pi1, iv pi2, iv pi3, iv pi4, iv pi5, iv x1, .unset, .unset, .unset, .unset, .unset, .unset, .unset] [(.int (pi0 &&& (1 : Int32)))])) t → Steps p.tables e below (s₁.setTop (mkF m 12 #[iv pi0, iv pi1, iv pi2, iv pi3, iv pi4, iv pi5, iv x1, .unset, .unset, .unset, .unset, .unset, .unset, .unset] [(.int (pi0 &&& (1 : Int32)))])) t := fun t kt => kt
    subst hx4
    by_cases hm12_6 : (pi0 &&& (1 : Int32)) = (0 : Int32)
    · have pre7 : ∀ t, Steps p.tables e below (s₁.setTop (mkF m 21 #[iv pi0, iv pi1, iv pi2, iv pi3, iv pi4, iv pi5, iv x1, .unset, .unset, .unset, .unset, .unset, .unset, .unset] [])) t → Steps p.tables e below (s₁.setTop (mkF m 12 #[iv pi0, iv pi1, iv pi2, iv pi3, iv pi4, iv pi5, iv x1, .unset, .unset, .unset, .unset, .unset, .unset, .unset] [(.int (pi0 &&& (1 : Int32)))])) t := fun t kt => pre5_ t (by
          refine y_ifYes X0.here hx (hb hby at_12) ((if0 _ _).trans (teq hm12_6).1) (pc' := 21) (by decide) rfl ?_
          exact kt)
      obtain ⟨T8, X8, e8, st8⟩ := getS2 X0 hx hZ hown (host := "") (Or.inl (hw _ (List.mem_of_getElem? (i := 0) rfl))) Via.refl e0 (S_WHITE.ext O0.2) (g := (mkF m 21 #[iv pi0, iv pi1, iv pi2, iv pi3, iv pi4, iv pi5, iv x1, .unset, .unset, .unset, .unset, .unset, .unset, .unset] [])) rfl (hb hby at_21)
      have pre9 : ∀ t, Steps p.tables e below (T8.setTop (mkF m 24 #[iv pi0, iv pi1, iv pi2, iv pi3, iv pi4, iv pi5, iv x1, .unset, .unset, .unset, .unset, .unset, .unset, .unset] [(.ref w_WHITE)])) t → Steps p.tables e below (s₁.setTop (mkF m 12 #[iv pi0, iv pi1, iv pi2, iv pi3, iv pi4, iv pi5, iv x1, .unset, .unset, .unset, .unset, .unset, .unset, .unset] [(.int (pi0 &&& (1 : Int32)))])) t := fun t kt => pre7 t (st8 t kt)
      refine ⟨T8, ⟨X8, e8.trans e0.symm⟩, fun t kt => pre9 t ?_⟩
      (try simp only [if_pos hm12_6] at kt)
      exact kt
    · have pre10 : ∀ t, Steps p.tables e below (s₁.setTop (mkF m 15 #[iv pi0, iv pi1, iv pi2, iv pi3, iv pi4, iv pi5, iv x1, .unset, .unset, .unset, .unset, .unset, .unset, .unset] [])) t → Steps p.tables e below (s₁.setTop (mkF m 12 #[iv pi0, iv pi1, iv pi2, iv pi3, iv pi4, iv pi5, iv x1, .unset, .unset, .unset, .unset, .unset, .unset, .unset] [(.int (pi0 &&& (1 : Int32)))])) t := fun t kt => pre5_ t (by
          refine y_ifNo X0.here hx (hb hby at_12) ((if0 _ _).trans (feq hm12_6).1) (pc' := 15) rfl ?_
          exact kt)
      obtain ⟨T11, X11, e11, st11⟩ := getS2 X0 hx hZ hown (host := "") (Or.inl (hw _ (List.mem_of_getElem? (i := 65) rfl))) Via.refl e0 (S_BLACK.ext O0.2) (g := (mkF m 15 #[iv pi0, iv pi1, iv pi2, iv pi3, iv pi4, iv pi5, iv x1, .unset, .unset, .unset, .unset, .unset, .unset, .unset] [])) rfl (hb hby at_15)
      have pre12 : ∀ t, Steps p.tables e below (T11.setTop (mkF m 18 #[iv pi0, iv pi1, iv pi2, iv pi3, iv pi4, iv pi5, iv x1, .unset, .unset, .unset, .unset, .unset, .unset, .unset] [(.ref w_BLACK)])) t → Steps p.tables e below (s₁.setTop (mkF m 12 #[iv pi0, iv pi1, iv pi2, iv pi3, iv pi4, iv pi5, iv x1, .unset, .unset, .unset, .unset, .unset, .unset, .unset] [(.int (pi0 &&& (1 : Int32)))])) t := fun t kt => pre10 t (st11 t kt)
      have pre13 : ∀ t, Steps p.tables e below (T11.setTop (mkF m 24 #[iv pi0, iv pi1, iv pi2, iv pi3, iv pi4, iv pi5, iv x1, .unset, .unset, .unset, .unset, .unset, .unset, .unset] [(.ref w_BLACK)])) t → Steps p.tables e below (s₁.setTop (mkF m 12 #[iv pi0, iv pi1, iv pi2, iv pi3, iv pi4, iv pi5, iv x1, .unset, .unset, .unset, .unset, .unset, .unset, .unset] [(.int (pi0 &&& (1 : Int32)))])) t := fun t kt => pre12 t (by
          refine y_goto X11.here hx (hb hby at_18) (pc' := 24) (by decide) rfl ?_
          exact kt)
      refine ⟨T11, ⟨X11, e11.trans e0.symm⟩, fun t kt => pre13 t ?_⟩
      (try simp only [if_neg hm12_6] at kt)
      exact kt
  have e5 : T5.heap = h0 := q5.trans e0
  have pre14 : ∀ t, Steps p.tables e below (T5.setTop (mkF m 24 #[iv pi0, iv pi1, iv pi2, iv pi3, iv pi4, iv pi5, iv x1, .unset, .unset, .unset, .unset, .unset, .unset, .unset] [(.ref x4)])) t → Go t := fun t kt => pre3 t (st5 t kt)
  have pre15 : ∀ t, Steps p.tables e below (T5.setTop (mkF m 29 #[iv pi0, iv pi1, iv pi2, iv pi3, iv pi4, iv pi5, iv x1, rv x4, .unset, .unset, .unset, .unset, .unset, .unset] [(.int (pi0 &&& (2 : Int32)))])) t → Go t := fun t kt => pre14 t (by
      refine y_astore X5.here hx (hb hby at_24) rfl (l' := #[iv pi0, iv pi1, iv pi2, iv pi3, iv pi4, iv pi5, iv x1, rv x4, .unset, .unset, .unset, .unset, .unset, .unset]) rfl (pc' := 26) rfl ?_
      refine y_iloadN X5.here hx (hb hby at_26) rfl (pc' := 27) rfl ?_
      refine y_iconst X5.here hx (hb hby at_27) (v := (2 : Int32)) rfl (pc' := 28) rfl ?_
      refine y_iand X5.here hx (hb hby at_28) rfl (pc' := 29) rfl ?_
      exact kt)
  obtain ⟨x16, hx16⟩ : ∃ z : Addr, z = (if (pi0 &&& (2 : Int32)) = (0 : Int32) then w_WHITE else w_BLACK) := ⟨_, rfl⟩
  have E_x16 : Exa Z Z.heap x16 "com/example/stonegaze/stonegaze/Side" := by rw [hx16]; split <;> assumption
  obtain ⟨T17, ⟨X17, q17⟩, st17⟩ : ∃ T', Nx X5 T' ∧ ∀ t, Steps p.tables e below (T'.setTop (mkF m 41 #[iv pi0, iv pi1, iv pi2, iv pi3, iv pi4, iv pi5, iv x1, rv x4, .unset, .unset, .unset, .unset, .unset, .unset] [(.ref x16)])) t → Steps p.tables e below (T5.setTop (mkF m 29 #[iv pi0, iv pi1, iv pi2, iv pi3, iv pi4, iv pi5, iv x1, rv x4, .unset, .unset, .unset, .unset, .unset, .unset] [(.int (pi0 &&& (2 : Int32)))])) t := by
    have pre17_ : ∀ t, Steps p.tables e below (T5.setTop (mkF m 29 #[iv pi0, iv pi1, iv pi2, iv pi3, iv pi4, iv pi5, iv x1, rv x4, .unset, .unset, .unset, .unset, .unset, .unset] [(.int (pi0 &&& (2 : Int32)))])) t → Steps p.tables e below (T5.setTop (mkF m 29 #[iv pi0, iv pi1, iv pi2, iv pi3, iv pi4, iv pi5, iv x1, rv x4, .unset, .unset, .unset, .unset, .unset, .unset] [(.int (pi0 &&& (2 : Int32)))])) t := fun t kt => kt
    subst hx16
    by_cases hm29_18 : (pi0 &&& (2 : Int32)) = (0 : Int32)
    · have pre19 : ∀ t, Steps p.tables e below (T5.setTop (mkF m 38 #[iv pi0, iv pi1, iv pi2, iv pi3, iv pi4, iv pi5, iv x1, rv x4, .unset, .unset, .unset, .unset, .unset, .unset] [])) t → Steps p.tables e below (T5.setTop (mkF m 29 #[iv pi0, iv pi1, iv pi2, iv pi3, iv pi4, iv pi5, iv x1, rv x4, .unset, .unset, .unset, .unset, .unset, .unset] [(.int (pi0 &&& (2 : Int32)))])) t := fun t kt => pre17_ t (by
          refine y_ifYes X5.here hx (hb hby at_29) ((if0 _ _).trans (teq hm29_18).1) (pc' := 38) (by decide) rfl ?_
          exact kt)
      obtain ⟨T20, X20, e20, st20⟩ := getS2 X5 hx hZ hown (host := "") (Or.inl (hw _ (List.mem_of_getElem? (i := 0) rfl))) Via.refl e5 (S_WHITE.ext O0.2) (g := (mkF m 38 #[iv pi0, iv pi1, iv pi2, iv pi3, iv pi4, iv pi5, iv x1, rv x4, .unset, .unset, .unset, .unset, .unset, .unset] [])) rfl (hb hby at_38)
      have pre21 : ∀ t, Steps p.tables e below (T20.setTop (mkF m 41 #[iv pi0, iv pi1, iv pi2, iv pi3, iv pi4, iv pi5, iv x1, rv x4, .unset, .unset, .unset, .unset, .unset, .unset] [(.ref w_WHITE)])) t → Steps p.tables e below (T5.setTop (mkF m 29 #[iv pi0, iv pi1, iv pi2, iv pi3, iv pi4, iv pi5, iv x1, rv x4, .unset, .unset, .unset, .unset, .unset, .unset] [(.int (pi0 &&& (2 : Int32)))])) t := fun t kt => pre19 t (st20 t kt)
      refine ⟨T20, ⟨X20, e20.trans e5.symm⟩, fun t kt => pre21 t ?_⟩
      (try simp only [if_pos hm29_18] at kt)
      exact kt
    · have pre22 : ∀ t, Steps p.tables e below (T5.setTop (mkF m 32 #[iv pi0, iv pi1, iv pi2, iv pi3, iv pi4, iv pi5, iv x1, rv x4, .unset, .unset, .unset, .unset, .unset, .unset] [])) t → Steps p.tables e below (T5.setTop (mkF m 29 #[iv pi0, iv pi1, iv pi2, iv pi3, iv pi4, iv pi5, iv x1, rv x4, .unset, .unset, .unset, .unset, .unset, .unset] [(.int (pi0 &&& (2 : Int32)))])) t := fun t kt => pre17_ t (by
          refine y_ifNo X5.here hx (hb hby at_29) ((if0 _ _).trans (feq hm29_18).1) (pc' := 32) rfl ?_
          exact kt)
      obtain ⟨T23, X23, e23, st23⟩ := getS2 X5 hx hZ hown (host := "") (Or.inl (hw _ (List.mem_of_getElem? (i := 65) rfl))) Via.refl e5 (S_BLACK.ext O0.2) (g := (mkF m 32 #[iv pi0, iv pi1, iv pi2, iv pi3, iv pi4, iv pi5, iv x1, rv x4, .unset, .unset, .unset, .unset, .unset, .unset] [])) rfl (hb hby at_32)
      have pre24 : ∀ t, Steps p.tables e below (T23.setTop (mkF m 35 #[iv pi0, iv pi1, iv pi2, iv pi3, iv pi4, iv pi5, iv x1, rv x4, .unset, .unset, .unset, .unset, .unset, .unset] [(.ref w_BLACK)])) t → Steps p.tables e below (T5.setTop (mkF m 29 #[iv pi0, iv pi1, iv pi2, iv pi3, iv pi4, iv pi5, iv x1, rv x4, .unset, .unset, .unset, .unset, .unset, .unset] [(.int (pi0 &&& (2 : Int32)))])) t := fun t kt => pre22 t (st23 t kt)
      have pre25 : ∀ t, Steps p.tables e below (T23.setTop (mkF m 41 #[iv pi0, iv pi1, iv pi2, iv pi3, iv pi4, iv pi5, iv x1, rv x4, .unset, .unset, .unset, .unset, .unset, .unset] [(.ref w_BLACK)])) t → Steps p.tables e below (T5.setTop (mkF m 29 #[iv pi0, iv pi1, iv pi2, iv pi3, iv pi4, iv pi5, iv x1, rv x4, .unset, .unset, .unset, .unset, .unset, .unset] [(.int (pi0 &&& (2 : Int32)))])) t := fun t kt => pre24 t (by
          refine y_goto X23.here hx (hb hby at_35) (pc' := 41) (by decide) rfl ?_
          exact kt)
      refine ⟨T23, ⟨X23, e23.trans e5.symm⟩, fun t kt => pre25 t ?_⟩
      (try simp only [if_neg hm29_18] at kt)
      exact kt
  have e17 : T17.heap = h0 := q17.trans e5
  have pre26 : ∀ t, Steps p.tables e below (T17.setTop (mkF m 41 #[iv pi0, iv pi1, iv pi2, iv pi3, iv pi4, iv pi5, iv x1, rv x4, .unset, .unset, .unset, .unset, .unset, .unset] [(.ref x16)])) t → Go t := fun t kt => pre15 t (st17 t kt)
  have pre27 : ∀ t, Steps p.tables e below (T17.setTop (mkF m 46 #[iv pi0, iv pi1, iv pi2, iv pi3, iv pi4, iv pi5, iv x1, rv x4, rv x16, .unset, .unset, .unset, .unset, .unset] [(.int (pi0 &&& (4 : Int32)))])) t → Go t := fun t kt => pre26 t (by
      refine y_astore X17.here hx (hb hby at_41) rfl (l' := #[iv pi0, iv pi1, iv pi2, iv pi3, iv pi4, iv pi5, iv x1, rv x4, rv x16, .unset, .unset, .unset, .unset, .unset]) rfl (pc' := 43) rfl ?_
      refine y_iloadN X17.here hx (hb hby at_43) rfl (pc' := 44) rfl ?_
      refine y_iconst X17.here hx (hb hby at_44) (v := (4 : Int32)) rfl (pc' := 45) rfl ?_
      refine y_iand X17.here hx (hb hby at_45) rfl (pc' := 46) rfl ?_
      exact kt)
  obtain ⟨x28, hx28⟩ : ∃ z : Int32, z = (if (pi0 &&& (4 : Int32)) = (0 : Int32) then (0 : Int32) else (1 : Int32)) := ⟨_, rfl⟩
  obtain ⟨T29, ⟨X29, q29⟩, st29⟩ : ∃ T', Nx X17 T' ∧ ∀ t, Steps p.tables e below (T'.setTop (mkF m 54 #[iv pi0, iv pi1, iv pi2, iv pi3, iv pi4, iv pi5, iv x1, rv x4, rv x16, .unset, .unset, .unset, .unset, .unset] [(.int x28)])) t → Steps p.tables e below (T17.setTop (mkF m 46 #[iv pi0, iv pi1, iv pi2, iv pi3, iv pi4, iv pi5, iv x1, rv x4, rv x16, .unset, .unset, .unset, .unset, .unset] [(.int (pi0 &&& (4 : Int32)))])) t := by
    have pre29_ : ∀ t, Steps p.tables e below (T17.setTop (mkF m 46 #[iv pi0, iv pi1, iv pi2, iv pi3, iv pi4, iv pi5, iv x1, rv x4, rv x16, .unset, .unset, .unset, .unset, .unset] [(.int (pi0 &&& (4 : Int32)))])) t → Steps p.tables e below (T17.setTop (mkF m 46 #[iv pi0, iv pi1, iv pi2, iv pi3, iv pi4, iv pi5, iv x1, rv x4, rv x16, .unset, .unset, .unset, .unset, .unset] [(.int (pi0 &&& (4 : Int32)))])) t := fun t kt => kt
    subst hx28
    by_cases hm46_30 : (pi0 &&& (4 : Int32)) = (0 : Int32)
    · have pre31 : ∀ t, Steps p.tables e below (T17.setTop (mkF m 54 #[iv pi0, iv pi1, iv pi2, iv pi3, iv pi4, iv pi5, iv x1, rv x4, rv x16, .unset, .unset, .unset, .unset, .unset] [(.int (0 : Int32))])) t → Steps p.tables e below (T17.setTop (mkF m 46 #[iv pi0, iv pi1, iv pi2, iv pi3, iv pi4, iv pi5, iv x1, rv x4, rv x16, .unset, .unset, .unset, .unset, .unset] [(.int (pi0 &&& (4 : Int32)))])) t := fun t kt => pre29_ t (by
          refine y_ifYes X17.here hx (hb hby at_46) ((if0 _ _).trans (teq hm46_30).1) (pc' := 53) (by decide) rfl ?_
          refine y_iconst X17.here hx (hb hby at_53) (v := (0 : Int32)) rfl (pc' := 54) rfl ?_
          exact kt)
      refine ⟨T17, ⟨X17, e17.trans e17.symm⟩, fun t kt => pre31 t ?_⟩
      (try simp only [if_pos hm46_30] at kt)
      exact kt
    · have pre32 : ∀ t, Steps p.tables e below (T17.setTop (mkF m 54 #[iv pi0, iv pi1, iv pi2, iv pi3, iv pi4, iv pi5, iv x1, rv x4, rv x16, .unset, .unset, .unset, .unset, .unset] [(.int (1 : Int32))])) t → Steps p.tables e below (T17.setTop (mkF m 46 #[iv pi0, iv pi1, iv pi2, iv pi3, iv pi4, iv pi5, iv x1, rv x4, rv x16, .unset, .unset, .unset, .unset, .unset] [(.int (pi0 &&& (4 : Int32)))])) t := fun t kt => pre29_ t (by
          refine y_ifNo X17.here hx (hb hby at_46) ((if0 _ _).trans (feq hm46_30).1) (pc' := 49) rfl ?_
          refine y_iconst X17.here hx (hb hby at_49) (v := (1 : Int32)) rfl (pc' := 50) rfl ?_
          refine y_goto X17.here hx (hb hby at_50) (pc' := 54) (by decide) rfl ?_
          exact kt)
      refine ⟨T17, ⟨X17, e17.trans e17.symm⟩, fun t kt => pre32 t ?_⟩
      (try simp only [if_neg hm46_30] at kt)
      exact kt
  have e29 : T29.heap = h0 := q29.trans e17
  have pre33 : ∀ t, Steps p.tables e below (T29.setTop (mkF m 54 #[iv pi0, iv pi1, iv pi2, iv pi3, iv pi4, iv pi5, iv x1, rv x4, rv x16, .unset, .unset, .unset, .unset, .unset] [(.int x28)])) t → Go t := fun t kt => pre27 t (st29 t kt)
  have pre34 : ∀ t, Steps p.tables e below (T29.setTop (mkF m 60 #[iv pi0, iv pi1, iv pi2, iv pi3, iv pi4, iv pi5, iv x1, rv x4, rv x16, iv x28, .unset, .unset, .unset, .unset] [(.int (pi0 &&& (8 : Int32)))])) t → Go t := fun t kt => pre33 t (by
      refine y_istore X29.here hx (hb hby at_54) (l' := #[iv pi0, iv pi1, iv pi2, iv pi3, iv pi4, iv pi5, iv x1, rv x4, rv x16, iv x28, .unset, .unset, .unset, .unset]) rfl (pc' := 56) rfl ?_
      refine y_iloadN X29.here hx (hb hby at_56) rfl (pc' := 57) rfl ?_
      refine y_bipush X29.here hx (hb hby at_57) (v := (8 : Int32)) rfl (pc' := 59) rfl ?_
      refine y_iand X29.here hx (hb hby at_59) rfl (pc' := 60) rfl ?_
      exact kt)
  obtain ⟨x35, hx35⟩ : ∃ z : Int32, z = (if (pi0 &&& (8 : Int32)) = (0 : Int32) then (0 : Int32) else (1 : Int32)) := ⟨_, rfl⟩
  obtain ⟨T36, ⟨X36, q36⟩, st36⟩ : ∃ T', Nx X29 T' ∧ ∀ t, Steps p.tables e below (T'.setTop (mkF m 68 #[iv pi0, iv pi1, iv pi2, iv pi3, iv pi4, iv pi5, iv x1, rv x4, rv x16, iv x28, .unset, .unset, .unset, .unset] [(.int x35)])) t → Steps p.tables e below (T29.setTop (mkF m 60 #[iv pi0, iv pi1, iv pi2, iv pi3, iv pi4, iv pi5, iv x1, rv x4, rv x16, iv x28, .unset, .unset, .unset, .unset] [(.int (pi0 &&& (8 : Int32)))])) t := by
    have pre36_ : ∀ t, Steps p.tables e below (T29.setTop (mkF m 60 #[iv pi0, iv pi1, iv pi2, iv pi3, iv pi4, iv pi5, iv x1, rv x4, rv x16, iv x28, .unset, .unset, .unset, .unset] [(.int (pi0 &&& (8 : Int32)))])) t → Steps p.tables e below (T29.setTop (mkF m 60 #[iv pi0, iv pi1, iv pi2, iv pi3, iv pi4, iv pi5, iv x1, rv x4, rv x16, iv x28, .unset, .unset, .unset, .unset] [(.int (pi0 &&& (8 : Int32)))])) t := fun t kt => kt
    subst hx35
    by_cases hm60_37 : (pi0 &&& (8 : Int32)) = (0 : Int32)
    · have pre38 : ∀ t, Steps p.tables e below (T29.setTop (mkF m 68 #[iv pi0, iv pi1, iv pi2, iv pi3, iv pi4, iv pi5, iv x1, rv x4, rv x16, iv x28, .unset, .unset, .unset, .unset] [(.int (0 : Int32))])) t → Steps p.tables e below (T29.setTop (mkF m 60 #[iv pi0, iv pi1, iv pi2, iv pi3, iv pi4, iv pi5, iv x1, rv x4, rv x16, iv x28, .unset, .unset, .unset, .unset] [(.int (pi0 &&& (8 : Int32)))])) t := fun t kt => pre36_ t (by
          refine y_ifYes X29.here hx (hb hby at_60) ((if0 _ _).trans (teq hm60_37).1) (pc' := 67) (by decide) rfl ?_
          refine y_iconst X29.here hx (hb hby at_67) (v := (0 : Int32)) rfl (pc' := 68) rfl ?_
          exact kt)
      refine ⟨T29, ⟨X29, e29.trans e29.symm⟩, fun t kt => pre38 t ?_⟩
      (try simp only [if_pos hm60_37] at kt)
      exact kt
    · have pre39 : ∀ t, Steps p.tables e below (T29.setTop (mkF m 68 #[iv pi0, iv pi1, iv pi2, iv pi3, iv pi4, iv pi5, iv x1, rv x4, rv x16, iv x28, .unset, .unset, .unset, .unset] [(.int (1 : Int32))])) t → Steps p.tables e below (T29.setTop (mkF m 60 #[iv pi0, iv pi1, iv pi2, iv pi3, iv pi4, iv pi5, iv x1, rv x4, rv x16, iv x28, .unset, .unset, .unset, .unset] [(.int (pi0 &&& (8 : Int32)))])) t := fun t kt => pre36_ t (by
          refine y_ifNo X29.here hx (hb hby at_60) ((if0 _ _).trans (feq hm60_37).1) (pc' := 63) rfl ?_
          refine y_iconst X29.here hx (hb hby at_63) (v := (1 : Int32)) rfl (pc' := 64) rfl ?_
          refine y_goto X29.here hx (hb hby at_64) (pc' := 68) (by decide) rfl ?_
          exact kt)
      refine ⟨T29, ⟨X29, e29.trans e29.symm⟩, fun t kt => pre39 t ?_⟩
      (try simp only [if_neg hm60_37] at kt)
      exact kt
  have e36 : T36.heap = h0 := q36.trans e29
  have pre40 : ∀ t, Steps p.tables e below (T36.setTop (mkF m 68 #[iv pi0, iv pi1, iv pi2, iv pi3, iv pi4, iv pi5, iv x1, rv x4, rv x16, iv x28, .unset, .unset, .unset, .unset] [(.int x35)])) t → Go t := fun t kt => pre34 t (st36 t kt)
  have pre41 : ∀ t, Steps p.tables e below (T36.setTop (mkF m 70 #[iv pi0, iv pi1, iv pi2, iv pi3, iv pi4, iv pi5, iv x1, rv x4, rv x16, iv x28, iv x35, .unset, .unset, .unset] [])) t → Go t := fun t kt => pre40 t (by
      refine y_istore X36.here hx (hb hby at_68) (l' := #[iv pi0, iv pi1, iv pi2, iv pi3, iv pi4, iv pi5, iv x1, rv x4, rv x16, iv x28, iv x35, .unset, .unset, .unset]) rfl (pc' := 70) rfl ?_
      exact kt)
  obtain ⟨NG_x1, NC_x1, L0_x1, L1_x1⟩ := own_nK pi5
  rw [← hx1] at NG_x1 NC_x1 L0_x1 L1_x1
  obtain ⟨T42, h42, X42, e42, E42, A42, D42, -, st42⟩ := newO X36 hx hZ hown (hw _ (List.mem_of_getElem? (i := 3) rfl)) (hw _ (List.mem_of_getElem? (i := 4) rfl)) (hw _ (List.mem_of_getElem? (i := 5) rfl)) e36 (g := (mkF m 70 #[iv pi0, iv pi1, iv pi2, iv pi3, iv pi4, iv pi5, iv x1, rv x4, rv x16, iv x28, iv x35, .unset, .unset, .unset] [])) rfl (hb hby at_70) (by decide) (by decide)
  obtain ⟨b42, g42⟩ : ∃ z, z = h0.size := ⟨_, rfl⟩
  rw [← g42] at A42 D42 st42
  have pre43 : ∀ t, Steps p.tables e below (T42.setTop (mkF m 73 #[iv pi0, iv pi1, iv pi2, iv pi3, iv pi4, iv pi5, iv x1, rv x4, rv x16, iv x28, iv x35, .unset, .unset, .unset] [(.ref b42)])) t → Go t := fun t kt => pre41 t (st42 t kt)
  have G44 : n0 ≤ b42 := Nat.le_trans (O0.1 ▸ O0.2.1) (Nat.le_of_eq g42.symm)
  have O44 := O0.ext E42
  have f45 : Fld Z h42 b42 "com/example/stonegaze/stonegaze/Groups" "groupOf" "[I" .null := D42 (Or.inr (hw _ (List.mem_of_getElem? (i := 14) rfl))) (ty := (.array .int)) (by decide)
  have f46 : Fld Z h42 b42 "com/example/stonegaze/stonegaze/Groups" "colours" "[Lcom/example/stonegaze/stonegaze/Side;" .null := D42 (Or.inr (hw _ (List.mem_of_getElem? (i := 22) rfl))) (ty := (.array (.object "com/example/stonegaze/stonegaze/Side"))) (by decide)
  have f47 : Fld Z h42 b42 "com/example/stonegaze/stonegaze/Groups" "stones" "[I" .null := D42 (Or.inr (hw _ (List.mem_of_getElem? (i := 24) rfl))) (ty := (.array .int)) (by decide)
  have f48 : Fld Z h42 b42 "com/example/stonegaze/stonegaze/Groups" "liberties" "[I" .null := D42 (Or.inr (hw _ (List.mem_of_getElem? (i := 26) rfl))) (ty := (.array .int)) (by decide)
  have f49 : Fld Z h42 b42 "com/example/stonegaze/stonegaze/Groups" "ringed" "[Z" .null := D42 (Or.inr (hw _ (List.mem_of_getElem? (i := 29) rfl))) (ty := (.array .boolean)) (by decide)
  have f50 : Fld Z h42 b42 "com/example/stonegaze/stonegaze/Groups" "aLiberty" "[I" .null := D42 (Or.inr (hw _ (List.mem_of_getElem? (i := 31) rfl))) (ty := (.array .int)) (by decide)
  have f51 : Fld Z h42 b42 "com/example/stonegaze/stonegaze/Groups" "count" "I" (.int (0 : Int32)) := D42 (Or.inl (hw _ (List.mem_of_getElem? (i := 38) rfl))) (ty := .int) (by decide)
  have pre52 : ∀ t, Steps p.tables e below (T42.setTop (mkF m 76 #[iv pi0, iv pi1, iv pi2, iv pi3, iv pi4, iv pi5, iv x1, rv x4, rv x16, iv x28, iv x35, .unset, .unset, .unset] [(.int x1), (.ref b42), (.ref b42)])) t → Go t := fun t kt => pre43 t (by
      refine y_dup X42.here hx (hb hby at_73) rfl (pc' := 74) rfl ?_
      refine y_iload X42.here hx (hb hby at_74) rfl (pc' := 76) rfl ?_
      exact kt)
  obtain ⟨v53, _, ⟨T53, L53, k53, n53⟩, -, X53, ⟨Lc53, hQ53, l53, y53, z53⟩, st53⟩ := X42.specialBack hx (y := (⟨"com/example/stonegaze/stonegaze/Groups", "<init>", "(I)V"⟩ : MethodName)) rfl hown (mvT hZ (hw _ (List.mem_of_getElem? (i := 6) rfl))) (mvT hZ (hw _ (List.mem_of_getElem? (i := 7) rfl))) (mvT hZ (hw _ (List.mem_of_getElem? (i := 8) rfl))) (by decide) (backOf (W := 1) (rm1 l Z a0 hw [] b42 x1 h42 n0 O44 A42 f45 f46 f47 f48 f49 f50 f51 G44 NG_x1 NC_x1) hZ (hw _ (List.mem_of_getElem? (i := 8) rfl)) (hw _ (List.mem_of_getElem? (i := 5) rfl)) (by decide) (by decide)) (g := (mkF m 76 #[iv pi0, iv pi1, iv pi2, iv pi3, iv pi4, iv pi5, iv x1, rv x4, rv x16, iv x28, iv x35, .unset, .unset, .unset] [(.int x1), (.ref b42), (.ref b42)])) rfl (by rw [hml]; rfl) (Steps.refl _) (a := b42) (argsL := [(.int x1)]) (rest := [(.ref b42)]) (lenOf pd__I_V rfl) rfl (by show 2 * 0 + _ ≤ _; exact Nat.le_of_eq rfl) (hb hby at_76) (fun _ _ => ⟨rfl, e42, (by decide : 1 + 6 ≤ _), (by decide : 7 + 54 ≤ _)⟩)
  dsimp only [Pt.U, Pt.locs, Pt.cells, Pt.slots] at X53 l53 y53 z53 st53 hQ53
  subst l53 y53 z53
  have bl53 := A42.lt
  obtain ⟨z53_groupOf, z53_colours, z53_stones, z53_liberties, z53_ringed, z53_aLiberty, k53_groupOf, k53_colours, k53_stones, k53_liberties, k53_ringed, k53_aLiberty, hv53, N53q, K53q, pF53_groupOf, pF53_colours, pF53_stones, pF53_liberties, pF53_ringed, pF53_aLiberty, pF53_count, pV53_groupOf, pV53_colours, pV53_stones, pV53_liberties, pV53_ringed, pV53_aLiberty, OV53, SZ53, lt53_colours, lt53_stones, lt53_liberties, lt53_ringed, lt53_aLiberty⟩ := hQ53
  have N54 := Fr.app N0 N53q
  subst hv53
  have pre55 : ∀ t, Steps p.tables e below (T53.setTop (mkF m 79 #[iv pi0, iv pi1, iv pi2, iv pi3, iv pi4, iv pi5, iv x1, rv x4, rv x16, iv x28, iv x35, .unset, .unset, .unset] [(.ref b42)])) t → Go t := fun t kt => pre52 t (st53.trans kt)
  obtain ⟨h53, eh53⟩ : ∃ z, T53.heap = z := ⟨_, rfl⟩
  rw [eh53] at K53q pF53_groupOf pF53_colours pF53_stones pF53_liberties pF53_ringed pF53_aLiberty pF53_count pV53_groupOf pV53_colours pV53_stones pV53_liberties pV53_ringed pV53_aLiberty
  have G53_groupOf : n0 ≤ z53_groupOf := by have := O44.1; have := O44.2.1; omega
  have G53_colours : n0 ≤ z53_colours := by have := O44.1; have := O44.2.1; omega
  have G53_stones : n0 ≤ z53_stones := by have := O44.1; have := O44.2.1; omega
  have G53_liberties : n0 ≤ z53_liberties := by have := O44.1; have := O44.2.1; omega
  have G53_ringed : n0 ≤ z53_ringed := by have := O44.1; have := O44.2.1; omega
  have G53_aLiberty : n0 ≤ z53_aLiberty := by have := O44.1; have := O44.2.1; omega
  have f56 : Exa Z h53 b42 "com/example/stonegaze/stonegaze/Groups" := (A42.keep K53q)
  have O54 := O44.keep K53q (allS G44 all0)
  have OR_b42 : @LT.lt Nat instLTNat b42 z53_groupOf ∧ @LT.lt Nat instLTNat z53_groupOf z53_colours ∧ @LT.lt Nat instLTNat z53_colours z53_stones ∧ @LT.lt Nat instLTNat z53_stones z53_liberties ∧ @LT.lt Nat instLTNat z53_liberties z53_ringed ∧ @LT.lt Nat instLTNat z53_ringed z53_aLiberty := ⟨Nat.lt_of_lt_of_le bl53 SZ53, lt53_colours, lt53_stones, lt53_liberties, lt53_ringed, lt53_aLiberty⟩
  have ne64 : b42 ≠ z53_groupOf := Nat.ne_of_lt (by have := OR_b42; omega)
  have ne65 : b42 ≠ z53_colours := Nat.ne_of_lt (by have := OR_b42; omega)
  have ne66 : b42 ≠ z53_stones := Nat.ne_of_lt (by have := OR_b42; omega)
  have ne67 : b42 ≠ z53_liberties := Nat.ne_of_lt (by have := OR_b42; omega)
  have ne68 : b42 ≠ z53_ringed := Nat.ne_of_lt (by have := OR_b42; omega)
  have ne69 : b42 ≠ z53_aLiberty := Nat.ne_of_lt (by have := OR_b42; omega)
  have ne70 : z53_groupOf ≠ z53_colours := Nat.ne_of_lt (by have := OR_b42; omega)
  have ne71 : z53_groupOf ≠ z53_stones := Nat.ne_of_lt (by have := OR_b42; omega)
  have ne72 : z53_groupOf ≠ z53_liberties := Nat.ne_of_lt (by have := OR_b42; omega)
  have ne73 : z53_groupOf ≠ z53_ringed := Nat.ne_of_lt (by have := OR_b42; omega)
  have ne74 : z53_groupOf ≠ z53_aLiberty := Nat.ne_of_lt (by have := OR_b42; omega)
  have ne75 : z53_colours ≠ z53_stones := Nat.ne_of_lt (by have := OR_b42; omega)
  have ne76 : z53_colours ≠ z53_liberties := Nat.ne_of_lt (by have := OR_b42; omega)
  have ne77 : z53_colours ≠ z53_ringed := Nat.ne_of_lt (by have := OR_b42; omega)
  have ne78 : z53_colours ≠ z53_aLiberty := Nat.ne_of_lt (by have := OR_b42; omega)
  have ne79 : z53_stones ≠ z53_liberties := Nat.ne_of_lt (by have := OR_b42; omega)
  have ne80 : z53_stones ≠ z53_ringed := Nat.ne_of_lt (by have := OR_b42; omega)
  have ne81 : z53_stones ≠ z53_aLiberty := Nat.ne_of_lt (by have := OR_b42; omega)
  have ne82 : z53_liberties ≠ z53_ringed := Nat.ne_of_lt (by have := OR_b42; omega)
  have ne83 : z53_liberties ≠ z53_aLiberty := Nat.ne_of_lt (by have := OR_b42; omega)
  have ne84 : z53_ringed ≠ z53_aLiberty := Nat.ne_of_lt (by have := OR_b42; omega)
  have pre85 : ∀ t, Steps p.tables e below (T53.setTop (mkF m 89 #[iv pi0, iv pi1, iv pi2, iv pi3, iv pi4, iv pi5, iv x1, rv x4, rv x16, iv x28, iv x35, rv b42, .unset, .unset] [(.int x28), (.int pi2), (.int pi1), (.ref x4), (.ref b42)])) t → Go t := fun t kt => pre55 t (by
      refine y_astore X53.here hx (hb hby at_79) rfl (l' := #[iv pi0, iv pi1, iv pi2, iv pi3, iv pi4, iv pi5, iv x1, rv x4, rv x16, iv x28, iv x35, rv b42, .unset, .unset]) rfl (pc' := 81) rfl ?_
      refine y_aload X53.here hx (hb hby at_81) rfl rfl (pc' := 83) rfl ?_
      refine y_aload X53.here hx (hb hby at_83) rfl rfl (pc' := 85) rfl ?_
      refine y_iloadN X53.here hx (hb hby at_85) rfl (pc' := 86) rfl ?_
      refine y_iloadN X53.here hx (hb hby at_86) rfl (pc' := 87) rfl ?_
      refine y_iload X53.here hx (hb hby at_87) rfl (pc' := 89) rfl ?_
      exact kt)
  obtain ⟨cq86, kq86, q86a, q86b, q86c⟩ := isOf hZ eh53 f56
  obtain ⟨v86, _, ⟨T86, L86, k86, n86⟩, -, X86, ⟨Lc86, hQ86, l86, y86, z86⟩, st86⟩ := X53.virtualBack hx (y := (⟨"com/example/stonegaze/stonegaze/Groups", "add", "(Lcom/example/stonegaze/stonegaze/Side;IIZ)I"⟩ : MethodName)) (z := (⟨"com/example/stonegaze/stonegaze/Groups", "add", "(Lcom/example/stonegaze/stonegaze/Side;IIZ)I"⟩ : MethodName)) hown (mvT hZ (hw _ (List.mem_of_getElem? (i := 32) rfl))) (mvT hZ (hw _ (List.mem_of_getElem? (i := 33) rfl))) (notFace_of_selects (args := #[]) (mvT hZ (hw _ (List.mem_of_getElem? (i := 35) rfl)))) (mvT hZ (hw _ (List.mem_of_getElem? (i := 35) rfl))) (mvT hZ (hw _ (List.mem_of_getElem? (i := 34) rfl))) (by decide) (backOf (W := 0) (rm4c0 l Z a0 hw [] b42 x4 pi1 pi2 x28 z53_groupOf z53_colours z53_stones z53_liberties z53_ringed z53_aLiberty x1 k53_colours k53_liberties k53_aLiberty k53_ringed h53 n0 O54 f56 pF53_groupOf pF53_colours pF53_stones pF53_liberties pF53_ringed pF53_aLiberty pF53_count (E_x4.ext O54.2) G44 G53_colours G53_liberties G53_aLiberty G53_ringed OR_b42 L0_x1 L1_x1 pV53_colours OV53 pV53_liberties pV53_aLiberty pV53_ringed) hZ (hw _ (List.mem_of_getElem? (i := 36) rfl)) (hw _ (List.mem_of_getElem? (i := 5) rfl)) (by decide) (by decide)) q86a q86c (g := (mkF m 89 #[iv pi0, iv pi1, iv pi2, iv pi3, iv pi4, iv pi5, iv x1, rv x4, rv x16, iv x28, iv x35, rv b42, .unset, .unset] [(.int x28), (.int pi2), (.int pi1), (.ref x4), (.ref b42)])) rfl (by rw [hml]; rfl) (Steps.refl _) (argsL := [(.ref x4), (.int pi1), (.int pi2), (.int x28)]) (rest := []) (lenOf pd__Lcom_example_stonegaze_stonegaze_Side_IIZ_I rfl) rfl (by show 2 * 0 + _ ≤ _; exact Nat.le_of_eq rfl) (hb hby at_89) (fun _ _ => ⟨rfl, eh53, (by decide : 7 + 0 ≤ _), (by decide : 61 + 0 ≤ _)⟩)
  dsimp only [Pt.U, Pt.locs, Pt.cells, Pt.slots] at X86 l86 y86 z86 st86 hQ86
  subst l86 y86 z86
  obtain ⟨hv86, N86q, K86q, p86_0, p86_1, p86_2, p86_3, p86_4, p86_5, p86_6, p86_7, p86_8, p86_9, p86_10⟩ := hQ86
  have N87 := Fr.app N54 N86q
  have hw86 := hv86
  subst hw86
  have pre88 : ∀ t, Steps p.tables e below (T86.setTop (mkF m 92 #[iv pi0, iv pi1, iv pi2, iv pi3, iv pi4, iv pi5, iv x1, rv x4, rv x16, iv x28, iv x35, rv b42, .unset, .unset] [(.int (0 : Int32))])) t → Go t := fun t kt => pre85 t (st86.trans kt)
  obtain ⟨h86, eh86⟩ : ∃ z, T86.heap = z := ⟨_, rfl⟩
  rw [eh86] at K86q p86_0 p86_1 p86_2 p86_3 p86_4 p86_5 p86_6 p86_7 p86_8 p86_9 p86_10
  have f89 : Exa Z h86 b42 "com/example/stonegaze/stonegaze/Groups" := (f56.keep K86q)
  have f91 : Arv Z h86 z53_groupOf k53_groupOf .int x1 [] (.int (-1 : Int32)) := (pV53_groupOf.keep K86q (ninS (Ne.symm ne64) (ninS ne70 (ninS ne72 (ninS ne74 (ninS ne73 nin0))))))
  have f95 : Arv Z h86 z53_stones k53_stones .int x1 [(.int (0 : Int32)), (.int (0 : Int32))] (.int (0 : Int32)) := (pV53_stones.keep K86q (ninS (Ne.symm ne66) (ninS (Ne.symm ne75) (ninS ne79 (ninS ne81 (ninS ne80 nin0))))))
  obtain ⟨x103, hx103⟩ : ∃ z : Int32, z = (nar .boolean x28) := ⟨_, rfl⟩
  rw [← hx103] at p86_10
  have O104 := O54.keep K86q (allS G44 (allS G53_colours (allS G53_liberties (allS G53_aLiberty (allS G53_ringed all0)))))
  have pre105 : ∀ t, Steps p.tables e below (T86.setTop (mkF m 103 #[iv pi0, iv pi1, iv pi2, iv pi3, iv pi4, iv pi5, iv x1, rv x4, rv x16, iv x28, iv x35, rv b42, iv (0 : Int32), .unset] [(.int x35), (.int pi4), (.int pi3), (.ref x16), (.ref b42)])) t → Go t := fun t kt => pre88 t (by
      refine y_istore X86.here hx (hb hby at_92) (l' := #[iv pi0, iv pi1, iv pi2, iv pi3, iv pi4, iv pi5, iv x1, rv x4, rv x16, iv x28, iv x35, rv b42, iv (0 : Int32), .unset]) rfl (pc' := 94) rfl ?_
      refine y_aload X86.here hx (hb hby at_94) rfl rfl (pc' := 96) rfl ?_
      refine y_aload X86.here hx (hb hby at_96) rfl rfl (pc' := 98) rfl ?_
      refine y_iloadN X86.here hx (hb hby at_98) rfl (pc' := 99) rfl ?_
      refine y_iload X86.here hx (hb hby at_99) rfl (pc' := 101) rfl ?_
      refine y_iload X86.here hx (hb hby at_101) rfl (pc' := 103) rfl ?_
      exact kt)
  obtain ⟨cq106, kq106, q106a, q106b, q106c⟩ := isOf hZ eh86 f89
  obtain ⟨v106, _, ⟨T106, L106, k106, n106⟩, -, X106, ⟨Lc106, hQ106, l106, y106, z106⟩, st106⟩ := X86.virtualBack hx (y := (⟨"com/example/stonegaze/stonegaze/Groups", "add", "(Lcom/example/stonegaze/stonegaze/Side;IIZ)I"⟩ : MethodName)) (z := (⟨"com/example/stonegaze/stonegaze/Groups", "add", "(Lcom/example/stonegaze/stonegaze/Side;IIZ)I"⟩ : MethodName)) hown (mvT hZ (hw _ (List.mem_of_getElem? (i := 32) rfl))) (mvT hZ (hw _ (List.mem_of_getElem? (i := 33) rfl))) (notFace_of_selects (args := #[]) (mvT hZ (hw _ (List.mem_of_getElem? (i := 35) rfl)))) (mvT hZ (hw _ (List.mem_of_getElem? (i := 35) rfl))) (mvT hZ (hw _ (List.mem_of_getElem? (i := 34) rfl))) (by decide) (backOf (W := 0) (rm4c1 l Z a0 hw [] b42 x16 pi3 pi4 x35 z53_groupOf z53_colours z53_stones z53_liberties z53_ringed z53_aLiberty x1 k53_colours x4 k53_liberties pi1 k53_aLiberty pi2 k53_ringed x103 h86 n0 O104 f89 p86_0 p86_1 p86_2 p86_3 p86_4 p86_5 p86_6 (E_x16.ext O104.2) G44 G53_colours G53_liberties G53_aLiberty G53_ringed OR_b42 L0_x1 L1_x1 p86_7 OV53 p86_8 p86_9 p86_10) hZ (hw _ (List.mem_of_getElem? (i := 36) rfl)) (hw _ (List.mem_of_getElem? (i := 5) rfl)) (by decide) (by decide)) q106a q106c (g := (mkF m 103 #[iv pi0, iv pi1, iv pi2, iv pi3, iv pi4, iv pi5, iv x1, rv x4, rv x16, iv x28, iv x35, rv b42, iv (0 : Int32), .unset] [(.int x35), (.int pi4), (.int pi3), (.ref x16), (.ref b42)])) rfl (by rw [hml]; rfl) (Steps.refl _) (argsL := [(.ref x16), (.int pi3), (.int pi4), (.int x35)]) (rest := []) (lenOf pd__Lcom_example_stonegaze_stonegaze_Side_IIZ_I rfl) rfl (by show 2 * 0 + _ ≤ _; exact Nat.le_of_eq rfl) (hb hby at_103) (fun _ _ => ⟨rfl, eh86, (by decide : 7 + 0 ≤ _), (by decide : 61 + 0 ≤ _)⟩)
  dsimp only [Pt.U, Pt.locs, Pt.cells, Pt.slots] at X106 l106 y106 z106 st106 hQ106
  subst l106 y106 z106
  obtain ⟨hv106, N106q, K106q, p106_0, p106_1, p106_2, p106_3, p106_4, p106_5, p106_6, p106_7, p106_8, p106_9, p106_10⟩ := hQ106
  have N107 := Fr.app N87 N106q
  have hw106 := hv106
  subst hw106
  have pre108 : ∀ t, Steps p.tables e below (T106.setTop (mkF m 106 #[iv pi0, iv pi1, iv pi2, iv pi3, iv pi4, iv pi5, iv x1, rv x4, rv x16, iv x28, iv x35, rv b42, iv (0 : Int32), .unset] [(.int (1 : Int32))])) t → Go t := fun t kt => pre105 t (st106.trans kt)
  obtain ⟨h106, eh106⟩ : ∃ z, T106.heap = z := ⟨_, rfl⟩
  rw [eh106] at K106q p106_0 p106_1 p106_2 p106_3 p106_4 p106_5 p106_6 p106_7 p106_8 p106_9 p106_10
  have f109 : Exa Z h106 b42 "com/example/stonegaze/stonegaze/Groups" := (f89.keep K106q)
  have f110 : Arv Z h106 z53_groupOf k53_groupOf .int x1 [] (.int (-1 : Int32)) := (f91.keep K106q (ninS (Ne.symm ne64) (ninS ne70 (ninS ne72 (ninS ne74 (ninS ne73 nin0))))))
  have f111 : Arv Z h106 z53_stones k53_stones .int x1 [(.int (0 : Int32)), (.int (0 : Int32))] (.int (0 : Int32)) := (f95.keep K106q (ninS (Ne.symm ne66) (ninS (Ne.symm ne75) (ninS ne79 (ninS ne81 (ninS ne80 nin0))))))
  obtain ⟨x123, hx123⟩ : ∃ z : Int32, z = (nar .boolean x35) := ⟨_, rfl⟩
  rw [← hx123] at p106_10
  have O124 := O104.keep K106q (allS G44 (allS G53_colours (allS G53_liberties (allS G53_aLiberty (allS G53_ringed all0)))))
  have pre125 : ∀ t, Steps p.tables e below (T106.setTop (mkF m 121 #[iv pi0, iv pi1, iv pi2, iv pi3, iv pi4, iv pi5, iv x1, rv x4, rv x16, iv x28, iv x35, rv b42, iv (0 : Int32), iv (1 : Int32)] [(.ref b42)])) t → Go t := fun t kt => pre108 t (by
      refine y_istore X106.here hx (hb hby at_106) (l' := #[iv pi0, iv pi1, iv pi2, iv pi3, iv pi4, iv pi5, iv x1, rv x4, rv x16, iv x28, iv x35, rv b42, iv (0 : Int32), iv (1 : Int32)]) rfl (pc' := 108) rfl ?_
      refine y_iload X106.here hx (hb hby at_108) rfl (pc' := 110) rfl ?_
      refine y_ifNo X106.here hx (hb hby at_110) ((if0 _ _).trans (teq (rfl : (0 : Int32) = (0 : Int32))).2) (pc' := 113) rfl ?_
      refine y_iload X106.here hx (hb hby at_113) rfl (pc' := 115) rfl ?_
      refine y_iconst X106.here hx (hb hby at_115) (v := (1 : Int32)) rfl (pc' := 116) rfl ?_
      refine y_icmpNo X106.here hx (hb hby at_116) (teq (rfl : (1 : Int32) = (1 : Int32))).2 (pc' := 119) rfl ?_
      refine y_aload X106.here hx (hb hby at_119) rfl rfl (pc' := 121) rfl ?_
      exact kt)
  obtain ⟨cq126, kq126, q126a, q126b, q126c⟩ := isOf hZ eh106 f109
  obtain ⟨v126, _, ⟨T126, L126, k126, n126⟩, -, X126, ⟨Lc126, hQ126, l126, y126, z126⟩, st126⟩ := X106.virtualBack hx (y := (⟨"com/example/stonegaze/stonegaze/Groups", "count", "()I"⟩ : MethodName)) (z := (⟨"com/example/stonegaze/stonegaze/Groups", "count", "()I"⟩ : MethodName)) hown (mvT hZ (hw _ (List.mem_of_getElem? (i := 40) rfl))) (mvT hZ (hw _ (List.mem_of_getElem? (i := 41) rfl))) (notFace_of_selects (args := #[]) (mvT hZ (hw _ (List.mem_of_getElem? (i := 43) rfl)))) (mvT hZ (hw _ (List.mem_of_getElem? (i := 43) rfl))) (mvT hZ (hw _ (List.mem_of_getElem? (i := 42) rfl))) (by decide) (backOf (W := 0) (rm5 l Z a0 hw [] b42 (2 : Int32) h106 n0 O124 f109 p106_6) hZ (hw _ (List.mem_of_getElem? (i := 44) rfl)) (hw _ (List.mem_of_getElem? (i := 5) rfl)) (by decide) (by decide)) q126a q126c (g := (mkF m 121 #[iv pi0, iv pi1, iv pi2, iv pi3, iv pi4, iv pi5, iv x1, rv x4, rv x16, iv x28, iv x35, rv b42, iv (0 : Int32), iv (1 : Int32)] [(.ref b42)])) rfl (by rw [hml]; rfl) (Steps.refl _) (argsL := []) (rest := []) (lenOf pd___I rfl) rfl (by show 2 * 0 + _ ≤ _; exact Nat.le_of_eq rfl) (hb hby at_121) (fun _ _ => ⟨rfl, eh106, (by decide : 7 + 0 ≤ _), (by decide : 61 + 0 ≤ _)⟩)
  dsimp only [Pt.U, Pt.locs, Pt.cells, Pt.slots] at X126 l126 y126 z126 st126 hQ126
  subst l126 y126 z126
  obtain ⟨hv126, N126q, e126q⟩ := hQ126
  have N127 := Fr.app N107 N126q
  have hw126 := hv126
  subst hw126
  have pre128 : ∀ t, Steps p.tables e below (T126.setTop (mkF m 124 #[iv pi0, iv pi1, iv pi2, iv pi3, iv pi4, iv pi5, iv x1, rv x4, rv x16, iv x28, iv x35, rv b42, iv (0 : Int32), iv (1 : Int32)] [(.int (2 : Int32))])) t → Go t := fun t kt => pre125 t (st126.trans kt)
  have pre129 : ∀ t, Steps p.tables e below (T126.setTop (mkF m 131 #[iv pi0, iv pi1, iv pi2, iv pi3, iv pi4, iv pi5, iv x1, rv x4, rv x16, iv x28, iv x35, rv b42, iv (0 : Int32), iv (1 : Int32)] [(.int (0 : Int32)), (.ref b42)])) t → Go t := fun t kt => pre128 t (by
      refine y_iconst X126.here hx (hb hby at_124) (v := (2 : Int32)) rfl (pc' := 125) rfl ?_
      refine y_icmpNo X126.here hx (hb hby at_125) (teq (rfl : (2 : Int32) = (2 : Int32))).2 (pc' := 128) rfl ?_
      refine y_aload X126.here hx (hb hby at_128) rfl rfl (pc' := 130) rfl ?_
      refine y_iconst X126.here hx (hb hby at_130) (v := (0 : Int32)) rfl (pc' := 131) rfl ?_
      exact kt)
  obtain ⟨cq130, kq130, q130a, q130b, q130c⟩ := isOf hZ e126q f109
  obtain ⟨v130, _, ⟨T130, L130, k130, n130⟩, -, X130, ⟨Lc130, hQ130, l130, y130, z130⟩, st130⟩ := X126.virtualBack hx (y := (⟨"com/example/stonegaze/stonegaze/Groups", "colour", "(I)Lcom/example/stonegaze/stonegaze/Side;"⟩ : MethodName)) (z := (⟨"com/example/stonegaze/stonegaze/Groups", "colour", "(I)Lcom/example/stonegaze/stonegaze/Side;"⟩ : MethodName)) hown (mvT hZ (hw _ (List.mem_of_getElem? (i := 45) rfl))) (mvT hZ (hw _ (List.mem_of_getElem? (i := 46) rfl))) (notFace_of_selects (args := #[]) (mvT hZ (hw _ (List.mem_of_getElem? (i := 48) rfl)))) (mvT hZ (hw _ (List.mem_of_getElem? (i := 48) rfl))) (mvT hZ (hw _ (List.mem_of_getElem? (i := 47) rfl))) (by decide) (backOf (W := 0) (rm6i0 l Z a0 hw [] b42 z53_colours x1 k53_colours x4 x16 h106 n0 O124 f109 p106_1 L0_x1 L1_x1 p106_7 OV53) hZ (hw _ (List.mem_of_getElem? (i := 49) rfl)) (hw _ (List.mem_of_getElem? (i := 5) rfl)) (by decide) (by decide)) q130a q130c (g := (mkF m 131 #[iv pi0, iv pi1, iv pi2, iv pi3, iv pi4, iv pi5, iv x1, rv x4, rv x16, iv x28, iv x35, rv b42, iv (0 : Int32), iv (1 : Int32)] [(.int (0 : Int32)), (.ref b42)])) rfl (by rw [hml]; rfl) (Steps.refl _) (argsL := [(.int (0 : Int32))]) (rest := []) (lenOf pd__I_Lcom_example_stonegaze_stonegaze_Side_ rfl) rfl (by show 2 * 0 + _ ≤ _; exact Nat.le_of_eq rfl) (hb hby at_131) (fun _ _ => ⟨rfl, e126q, (by decide : 7 + 0 ≤ _), (by decide : 61 + 0 ≤ _)⟩)
  dsimp only [Pt.U, Pt.locs, Pt.cells, Pt.slots] at X130 l130 y130 z130 st130 hQ130
  subst l130 y130 z130
  obtain ⟨hv130, N130q, e130q⟩ := hQ130
  have N131 := Fr.app N127 N130q
  have hw130 := hv130
  subst hw130
  have pre132 : ∀ t, Steps p.tables e below (T130.setTop (mkF m 134 #[iv pi0, iv pi1, iv pi2, iv pi3, iv pi4, iv pi5, iv x1, rv x4, rv x16, iv x28, iv x35, rv b42, iv (0 : Int32), iv (1 : Int32)] [(.ref x4)])) t → Go t := fun t kt => pre129 t (st130.trans kt)
  have pre133 : ∀ t, Steps p.tables e below (T130.setTop (mkF m 142 #[iv pi0, iv pi1, iv pi2, iv pi3, iv pi4, iv pi5, iv x1, rv x4, rv x16, iv x28, iv x35, rv b42, iv (0 : Int32), iv (1 : Int32)] [(.int (1 : Int32)), (.ref b42)])) t → Go t := fun t kt => pre132 t (by
      refine y_aload X130.here hx (hb hby at_134) rfl rfl (pc' := 136) rfl ?_
      refine Jvm.RoadKit.acmp (g := (mkF m 136 #[iv pi0, iv pi1, iv pi2, iv pi3, iv pi4, iv pi5, iv x1, rv x4, rv x16, iv x28, iv x35, rv b42, iv (0 : Int32), iv (1 : Int32)] [(.ref x4), (.ref x4)])) X130 hx rfl rfl rfl (pc0 := 136) (pc' := 139) (same := true) rfl (hb hby at_136) rfl (decide_eq_true (congrArg Value.ref (rfl : x4 = x4))) (by decide) (by decide) ?_
      show Steps p.tables e below (T130.setTop (mkF m 139 #[iv pi0, iv pi1, iv pi2, iv pi3, iv pi4, iv pi5, iv x1, rv x4, rv x16, iv x28, iv x35, rv b42, iv (0 : Int32), iv (1 : Int32)] [])) _
      refine y_aload X130.here hx (hb hby at_139) rfl rfl (pc' := 141) rfl ?_
      refine y_iconst X130.here hx (hb hby at_141) (v := (1 : Int32)) rfl (pc' := 142) rfl ?_
      exact kt)
  obtain ⟨cq134, kq134, q134a, q134b, q134c⟩ := isOf hZ e130q f109
  obtain ⟨v134, _, ⟨T134, L134, k134, n134⟩, -, X134, ⟨Lc134, hQ134, l134, y134, z134⟩, st134⟩ := X130.virtualBack hx (y := (⟨"com/example/stonegaze/stonegaze/Groups", "colour", "(I)Lcom/example/stonegaze/stonegaze/Side;"⟩ : MethodName)) (z := (⟨"com/example/stonegaze/stonegaze/Groups", "colour", "(I)Lcom/example/stonegaze/stonegaze/Side;"⟩ : MethodName)) hown (mvT hZ (hw _ (List.mem_of_getElem? (i := 45) rfl))) (mvT hZ (hw _ (List.mem_of_getElem? (i := 46) rfl))) (notFace_of_selects (args := #[]) (mvT hZ (hw _ (List.mem_of_getElem? (i := 48) rfl)))) (mvT hZ (hw _ (List.mem_of_getElem? (i := 48) rfl))) (mvT hZ (hw _ (List.mem_of_getElem? (i := 47) rfl))) (by decide) (backOf (W := 0) (rm6i1 l Z a0 hw [] b42 z53_colours x1 k53_colours x4 x16 h106 n0 O124 f109 p106_1 L0_x1 L1_x1 p106_7 OV53) hZ (hw _ (List.mem_of_getElem? (i := 49) rfl)) (hw _ (List.mem_of_getElem? (i := 5) rfl)) (by decide) (by decide)) q134a q134c (g := (mkF m 142 #[iv pi0, iv pi1, iv pi2, iv pi3, iv pi4, iv pi5, iv x1, rv x4, rv x16, iv x28, iv x35, rv b42, iv (0 : Int32), iv (1 : Int32)] [(.int (1 : Int32)), (.ref b42)])) rfl (by rw [hml]; rfl) (Steps.refl _) (argsL := [(.int (1 : Int32))]) (rest := []) (lenOf pd__I_Lcom_example_stonegaze_stonegaze_Side_ rfl) rfl (by show 2 * 0 + _ ≤ _; exact Nat.le_of_eq rfl) (hb hby at_142) (fun _ _ => ⟨rfl, e130q, (by decide : 7 + 0 ≤ _), (by decide : 61 + 0 ≤ _)⟩)
  dsimp only [Pt.U, Pt.locs, Pt.cells, Pt.slots] at X134 l134 y134 z134 st134 hQ134
  subst l134 y134 z134
  obtain ⟨hv134, N134q, e134q⟩ := hQ134
  have N135 := Fr.app N131 N134q
  have hw134 := hv134
  subst hw134
  have pre136 : ∀ t, Steps p.tables e below (T134.setTop (mkF m 145 #[iv pi0, iv pi1, iv pi2, iv pi3, iv pi4, iv pi5, iv x1, rv x4, rv x16, iv x28, iv x35, rv b42, iv (0 : Int32), iv (1 : Int32)] [(.ref x16)])) t → Go t := fun t kt => pre133 t (st134.trans kt)
  have pre137 : ∀ t, Steps p.tables e below (T134.setTop (mkF m 153 #[iv pi0, iv pi1, iv pi2, iv pi3, iv pi4, iv pi5, iv x1, rv x4, rv x16, iv x28, iv x35, rv b42, iv (0 : Int32), iv (1 : Int32)] [(.int (0 : Int32)), (.ref b42)])) t → Go t := fun t kt => pre136 t (by
      refine y_aload X134.here hx (hb hby at_145) rfl rfl (pc' := 147) rfl ?_
      refine Jvm.RoadKit.acmp (g := (mkF m 147 #[iv pi0, iv pi1, iv pi2, iv pi3, iv pi4, iv pi5, iv x1, rv x4, rv x16, iv x28, iv x35, rv b42, iv (0 : Int32), iv (1 : Int32)] [(.ref x16), (.ref x16)])) X134 hx rfl rfl rfl (pc0 := 147) (pc' := 150) (same := true) rfl (hb hby at_147) rfl (decide_eq_true (congrArg Value.ref (rfl : x16 = x16))) (by decide) (by decide) ?_
      show Steps p.tables e below (T134.setTop (mkF m 150 #[iv pi0, iv pi1, iv pi2, iv pi3, iv pi4, iv pi5, iv x1, rv x4, rv x16, iv x28, iv x35, rv b42, iv (0 : Int32), iv (1 : Int32)] [])) _
      refine y_aload X134.here hx (hb hby at_150) rfl rfl (pc' := 152) rfl ?_
      refine y_iconst X134.here hx (hb hby at_152) (v := (0 : Int32)) rfl (pc' := 153) rfl ?_
      exact kt)
  obtain ⟨cq138, kq138, q138a, q138b, q138c⟩ := isOf hZ e134q f109
  obtain ⟨v138, _, ⟨T138, L138, k138, n138⟩, -, X138, ⟨Lc138, hQ138, l138, y138, z138⟩, st138⟩ := X134.virtualBack hx (y := (⟨"com/example/stonegaze/stonegaze/Groups", "liberties", "(I)I"⟩ : MethodName)) (z := (⟨"com/example/stonegaze/stonegaze/Groups", "liberties", "(I)I"⟩ : MethodName)) hown (mvT hZ (hw _ (List.mem_of_getElem? (i := 50) rfl))) (mvT hZ (hw _ (List.mem_of_getElem? (i := 51) rfl))) (notFace_of_selects (args := #[]) (mvT hZ (hw _ (List.mem_of_getElem? (i := 53) rfl)))) (mvT hZ (hw _ (List.mem_of_getElem? (i := 53) rfl))) (mvT hZ (hw _ (List.mem_of_getElem? (i := 52) rfl))) (by decide) (backOf (W := 0) (rm7i0 l Z a0 hw [] b42 z53_liberties x1 k53_liberties pi1 pi3 h106 n0 O124 f109 p106_3 L0_x1 L1_x1 p106_8) hZ (hw _ (List.mem_of_getElem? (i := 54) rfl)) (hw _ (List.mem_of_getElem? (i := 5) rfl)) (by decide) (by decide)) q138a q138c (g := (mkF m 153 #[iv pi0, iv pi1, iv pi2, iv pi3, iv pi4, iv pi5, iv x1, rv x4, rv x16, iv x28, iv x35, rv b42, iv (0 : Int32), iv (1 : Int32)] [(.int (0 : Int32)), (.ref b42)])) rfl (by rw [hml]; rfl) (Steps.refl _) (argsL := [(.int (0 : Int32))]) (rest := []) (lenOf pd__I_I rfl) rfl (by show 2 * 0 + _ ≤ _; exact Nat.le_of_eq rfl) (hb hby at_153) (fun _ _ => ⟨rfl, e134q, (by decide : 7 + 0 ≤ _), (by decide : 61 + 0 ≤ _)⟩)
  dsimp only [Pt.U, Pt.locs, Pt.cells, Pt.slots] at X138 l138 y138 z138 st138 hQ138
  subst l138 y138 z138
  obtain ⟨hv138, N138q, e138q⟩ := hQ138
  have N139 := Fr.app N135 N138q
  have hw138 := hv138
  subst hw138
  have pre140 : ∀ t, Steps p.tables e below (T138.setTop (mkF m 156 #[iv pi0, iv pi1, iv pi2, iv pi3, iv pi4, iv pi5, iv x1, rv x4, rv x16, iv x28, iv x35, rv b42, iv (0 : Int32), iv (1 : Int32)] [(.int pi1)])) t → Go t := fun t kt => pre137 t (st138.trans kt)
  have pre141 : ∀ t, Steps p.tables e below (T138.setTop (mkF m 163 #[iv pi0, iv pi1, iv pi2, iv pi3, iv pi4, iv pi5, iv x1, rv x4, rv x16, iv x28, iv x35, rv b42, iv (0 : Int32), iv (1 : Int32)] [(.int (1 : Int32)), (.ref b42)])) t → Go t := fun t kt => pre140 t (by
      refine y_iloadN X138.here hx (hb hby at_156) rfl (pc' := 157) rfl ?_
      refine y_icmpNo X138.here hx (hb hby at_157) (teq (rfl : pi1 = pi1)).2 (pc' := 160) rfl ?_
      refine y_aload X138.here hx (hb hby at_160) rfl rfl (pc' := 162) rfl ?_
      refine y_iconst X138.here hx (hb hby at_162) (v := (1 : Int32)) rfl (pc' := 163) rfl ?_
      exact kt)
  obtain ⟨cq142, kq142, q142a, q142b, q142c⟩ := isOf hZ e138q f109
  obtain ⟨v142, _, ⟨T142, L142, k142, n142⟩, -, X142, ⟨Lc142, hQ142, l142, y142, z142⟩, st142⟩ := X138.virtualBack hx (y := (⟨"com/example/stonegaze/stonegaze/Groups", "liberties", "(I)I"⟩ : MethodName)) (z := (⟨"com/example/stonegaze/stonegaze/Groups", "liberties", "(I)I"⟩ : MethodName)) hown (mvT hZ (hw _ (List.mem_of_getElem? (i := 50) rfl))) (mvT hZ (hw _ (List.mem_of_getElem? (i := 51) rfl))) (notFace_of_selects (args := #[]) (mvT hZ (hw _ (List.mem_of_getElem? (i := 53) rfl)))) (mvT hZ (hw _ (List.mem_of_getElem? (i := 53) rfl))) (mvT hZ (hw _ (List.mem_of_getElem? (i := 52) rfl))) (by decide) (backOf (W := 0) (rm7i1 l Z a0 hw [] b42 z53_liberties x1 k53_liberties pi1 pi3 h106 n0 O124 f109 p106_3 L0_x1 L1_x1 p106_8) hZ (hw _ (List.mem_of_getElem? (i := 54) rfl)) (hw _ (List.mem_of_getElem? (i := 5) rfl)) (by decide) (by decide)) q142a q142c (g := (mkF m 163 #[iv pi0, iv pi1, iv pi2, iv pi3, iv pi4, iv pi5, iv x1, rv x4, rv x16, iv x28, iv x35, rv b42, iv (0 : Int32), iv (1 : Int32)] [(.int (1 : Int32)), (.ref b42)])) rfl (by rw [hml]; rfl) (Steps.refl _) (argsL := [(.int (1 : Int32))]) (rest := []) (lenOf pd__I_I rfl) rfl (by show 2 * 0 + _ ≤ _; exact Nat.le_of_eq rfl) (hb hby at_163) (fun _ _ => ⟨rfl, e138q, (by decide : 7 + 0 ≤ _), (by decide : 61 + 0 ≤ _)⟩)
  dsimp only [Pt.U, Pt.locs, Pt.cells, Pt.slots] at X142 l142 y142 z142 st142 hQ142
  subst l142 y142 z142
  obtain ⟨hv142, N142q, e142q⟩ := hQ142
  have N143 := Fr.app N139 N142q
  have hw142 := hv142
  subst hw142
  have pre144 : ∀ t, Steps p.tables e below (T142.setTop (mkF m 166 #[iv pi0, iv pi1, iv pi2, iv pi3, iv pi4, iv pi5, iv x1, rv x4, rv x16, iv x28, iv x35, rv b42, iv (0 : Int32), iv (1 : Int32)] [(.int pi3)])) t → Go t := fun t kt => pre141 t (st142.trans kt)
  have pre145 : ∀ t, Steps p.tables e below (T142.setTop (mkF m 173 #[iv pi0, iv pi1, iv pi2, iv pi3, iv pi4, iv pi5, iv x1, rv x4, rv x16, iv x28, iv x35, rv b42, iv (0 : Int32), iv (1 : Int32)] [(.int (0 : Int32)), (.ref b42)])) t → Go t := fun t kt => pre144 t (by
      refine y_iloadN X142.here hx (hb hby at_166) rfl (pc' := 167) rfl ?_
      refine y_icmpNo X142.here hx (hb hby at_167) (teq (rfl : pi3 = pi3)).2 (pc' := 170) rfl ?_
      refine y_aload X142.here hx (hb hby at_170) rfl rfl (pc' := 172) rfl ?_
      refine y_iconst X142.here hx (hb hby at_172) (v := (0 : Int32)) rfl (pc' := 173) rfl ?_
      exact kt)
  obtain ⟨cq146, kq146, q146a, q146b, q146c⟩ := isOf hZ e142q f109
  obtain ⟨v146, _, ⟨T146, L146, k146, n146⟩, -, X146, ⟨Lc146, hQ146, l146, y146, z146⟩, st146⟩ := X142.virtualBack hx (y := (⟨"com/example/stonegaze/stonegaze/Groups", "aLiberty", "(I)I"⟩ : MethodName)) (z := (⟨"com/example/stonegaze/stonegaze/Groups", "aLiberty", "(I)I"⟩ : MethodName)) hown (mvT hZ (hw _ (List.mem_of_getElem? (i := 55) rfl))) (mvT hZ (hw _ (List.mem_of_getElem? (i := 56) rfl))) (notFace_of_selects (args := #[]) (mvT hZ (hw _ (List.mem_of_getElem? (i := 58) rfl)))) (mvT hZ (hw _ (List.mem_of_getElem? (i := 58) rfl))) (mvT hZ (hw _ (List.mem_of_getElem? (i := 57) rfl))) (by decide) (backOf (W := 0) (rm8i0 l Z a0 hw [] b42 z53_aLiberty x1 k53_aLiberty pi2 pi4 h106 n0 O124 f109 p106_5 L0_x1 L1_x1 p106_9) hZ (hw _ (List.mem_of_getElem? (i := 59) rfl)) (hw _ (List.mem_of_getElem? (i := 5) rfl)) (by decide) (by decide)) q146a q146c (g := (mkF m 173 #[iv pi0, iv pi1, iv pi2, iv pi3, iv pi4, iv pi5, iv x1, rv x4, rv x16, iv x28, iv x35, rv b42, iv (0 : Int32), iv (1 : Int32)] [(.int (0 : Int32)), (.ref b42)])) rfl (by rw [hml]; rfl) (Steps.refl _) (argsL := [(.int (0 : Int32))]) (rest := []) (lenOf pd__I_I rfl) rfl (by show 2 * 0 + _ ≤ _; exact Nat.le_of_eq rfl) (hb hby at_173) (fun _ _ => ⟨rfl, e142q, (by decide : 7 + 0 ≤ _), (by decide : 61 + 0 ≤ _)⟩)
  dsimp only [Pt.U, Pt.locs, Pt.cells, Pt.slots] at X146 l146 y146 z146 st146 hQ146
  subst l146 y146 z146
  obtain ⟨hv146, N146q, e146q⟩ := hQ146
  have N147 := Fr.app N143 N146q
  have hw146 := hv146
  subst hw146
  have pre148 : ∀ t, Steps p.tables e below (T146.setTop (mkF m 176 #[iv pi0, iv pi1, iv pi2, iv pi3, iv pi4, iv pi5, iv x1, rv x4, rv x16, iv x28, iv x35, rv b42, iv (0 : Int32), iv (1 : Int32)] [(.int pi2)])) t → Go t := fun t kt => pre145 t (st146.trans kt)
  have pre149 : ∀ t, Steps p.tables e below (T146.setTop (mkF m 183 #[iv pi0, iv pi1, iv pi2, iv pi3, iv pi4, iv pi5, iv x1, rv x4, rv x16, iv x28, iv x35, rv b42, iv (0 : Int32), iv (1 : Int32)] [(.int (1 : Int32)), (.ref b42)])) t → Go t := fun t kt => pre148 t (by
      refine y_iloadN X146.here hx (hb hby at_176) rfl (pc' := 177) rfl ?_
      refine y_icmpNo X146.here hx (hb hby at_177) (teq (rfl : pi2 = pi2)).2 (pc' := 180) rfl ?_
      refine y_aload X146.here hx (hb hby at_180) rfl rfl (pc' := 182) rfl ?_
      refine y_iconst X146.here hx (hb hby at_182) (v := (1 : Int32)) rfl (pc' := 183) rfl ?_
      exact kt)
  obtain ⟨cq150, kq150, q150a, q150b, q150c⟩ := isOf hZ e146q f109
  obtain ⟨v150, _, ⟨T150, L150, k150, n150⟩, -, X150, ⟨Lc150, hQ150, l150, y150, z150⟩, st150⟩ := X146.virtualBack hx (y := (⟨"com/example/stonegaze/stonegaze/Groups", "aLiberty", "(I)I"⟩ : MethodName)) (z := (⟨"com/example/stonegaze/stonegaze/Groups", "aLiberty", "(I)I"⟩ : MethodName)) hown (mvT hZ (hw _ (List.mem_of_getElem? (i := 55) rfl))) (mvT hZ (hw _ (List.mem_of_getElem? (i := 56) rfl))) (notFace_of_selects (args := #[]) (mvT hZ (hw _ (List.mem_of_getElem? (i := 58) rfl)))) (mvT hZ (hw _ (List.mem_of_getElem? (i := 58) rfl))) (mvT hZ (hw _ (List.mem_of_getElem? (i := 57) rfl))) (by decide) (backOf (W := 0) (rm8i1 l Z a0 hw [] b42 z53_aLiberty x1 k53_aLiberty pi2 pi4 h106 n0 O124 f109 p106_5 L0_x1 L1_x1 p106_9) hZ (hw _ (List.mem_of_getElem? (i := 59) rfl)) (hw _ (List.mem_of_getElem? (i := 5) rfl)) (by decide) (by decide)) q150a q150c (g := (mkF m 183 #[iv pi0, iv pi1, iv pi2, iv pi3, iv pi4, iv pi5, iv x1, rv x4, rv x16, iv x28, iv x35, rv b42, iv (0 : Int32), iv (1 : Int32)] [(.int (1 : Int32)), (.ref b42)])) rfl (by rw [hml]; rfl) (Steps.refl _) (argsL := [(.int (1 : Int32))]) (rest := []) (lenOf pd__I_I rfl) rfl (by show 2 * 0 + _ ≤ _; exact Nat.le_of_eq rfl) (hb hby at_183) (fun _ _ => ⟨rfl, e146q, (by decide : 7 + 0 ≤ _), (by decide : 61 + 0 ≤ _)⟩)
  dsimp only [Pt.U, Pt.locs, Pt.cells, Pt.slots] at X150 l150 y150 z150 st150 hQ150
  subst l150 y150 z150
  obtain ⟨hv150, N150q, e150q⟩ := hQ150
  have N151 := Fr.app N147 N150q
  have hw150 := hv150
  subst hw150
  have pre152 : ∀ t, Steps p.tables e below (T150.setTop (mkF m 186 #[iv pi0, iv pi1, iv pi2, iv pi3, iv pi4, iv pi5, iv x1, rv x4, rv x16, iv x28, iv x35, rv b42, iv (0 : Int32), iv (1 : Int32)] [(.int pi4)])) t → Go t := fun t kt => pre149 t (st150.trans kt)
  have pre153 : ∀ t, Steps p.tables e below (T150.setTop (mkF m 194 #[iv pi0, iv pi1, iv pi2, iv pi3, iv pi4, iv pi5, iv x1, rv x4, rv x16, iv x28, iv x35, rv b42, iv (0 : Int32), iv (1 : Int32)] [(.int (0 : Int32)), (.ref b42)])) t → Go t := fun t kt => pre152 t (by
      refine y_iload X150.here hx (hb hby at_186) rfl (pc' := 188) rfl ?_
      refine y_icmpNo X150.here hx (hb hby at_188) (teq (rfl : pi4 = pi4)).2 (pc' := 191) rfl ?_
      refine y_aload X150.here hx (hb hby at_191) rfl rfl (pc' := 193) rfl ?_
      refine y_iconst X150.here hx (hb hby at_193) (v := (0 : Int32)) rfl (pc' := 194) rfl ?_
      exact kt)
  obtain ⟨cq154, kq154, q154a, q154b, q154c⟩ := isOf hZ e150q f109
  obtain ⟨v154, _, ⟨T154, L154, k154, n154⟩, -, X154, ⟨Lc154, hQ154, l154, y154, z154⟩, st154⟩ := X150.virtualBack hx (y := (⟨"com/example/stonegaze/stonegaze/Groups", "ringed", "(I)Z"⟩ : MethodName)) (z := (⟨"com/example/stonegaze/stonegaze/Groups", "ringed", "(I)Z"⟩ : MethodName)) hown (mvT hZ (hw _ (List.mem_of_getElem? (i := 60) rfl))) (mvT hZ (hw _ (List.mem_of_getElem? (i := 61) rfl))) (notFace_of_selects (args := #[]) (mvT hZ (hw _ (List.mem_of_getElem? (i := 63) rfl)))) (mvT hZ (hw _ (List.mem_of_getElem? (i := 63) rfl))) (mvT hZ (hw _ (List.mem_of_getElem? (i := 62) rfl))) (by decide) (backOf (W := 0) (rm9i0 l Z a0 hw [] b42 z53_ringed x1 k53_ringed x103 x123 h106 n0 O124 f109 p106_4 L0_x1 L1_x1 p106_10) hZ (hw _ (List.mem_of_getElem? (i := 64) rfl)) (hw _ (List.mem_of_getElem? (i := 5) rfl)) (by decide) (by decide)) q154a q154c (g := (mkF m 194 #[iv pi0, iv pi1, iv pi2, iv pi3, iv pi4, iv pi5, iv x1, rv x4, rv x16, iv x28, iv x35, rv b42, iv (0 : Int32), iv (1 : Int32)] [(.int (0 : Int32)), (.ref b42)])) rfl (by rw [hml]; rfl) (Steps.refl _) (argsL := [(.int (0 : Int32))]) (rest := []) (lenOf pd__I_Z rfl) rfl (by show 2 * 0 + _ ≤ _; exact Nat.le_of_eq rfl) (hb hby at_194) (fun _ _ => ⟨rfl, e150q, (by decide : 7 + 0 ≤ _), (by decide : 61 + 0 ≤ _)⟩)
  dsimp only [Pt.U, Pt.locs, Pt.cells, Pt.slots] at X154 l154 y154 z154 st154 hQ154
  subst l154 y154 z154
  obtain ⟨hv154, N154q, e154q⟩ := hQ154
  have N155 := Fr.app N151 N154q
  have hw154 := hv154
  obtain ⟨x156, hx156⟩ : ∃ z : Int32, z = (nar .boolean x103) := ⟨_, rfl⟩
  rw [← hx156] at hw154
  subst hw154
  have pre157 : ∀ t, Steps p.tables e below (T154.setTop (mkF m 197 #[iv pi0, iv pi1, iv pi2, iv pi3, iv pi4, iv pi5, iv x1, rv x4, rv x16, iv x28, iv x35, rv b42, iv (0 : Int32), iv (1 : Int32)] [(.int x156)])) t → Go t := fun t kt => pre153 t (st154.trans kt)
  have pre159 : ∀ t, Steps p.tables e below (T154.setTop (mkF m 199 #[iv pi0, iv pi1, iv pi2, iv pi3, iv pi4, iv pi5, iv x1, rv x4, rv x16, iv x28, iv x35, rv b42, iv (0 : Int32), iv (1 : Int32)] [(.int x28), (.int x156)])) t → Go t := fun t kt => pre157 t (by
      refine y_iload X154.here hx (hb hby at_197) rfl (pc' := 199) rfl ?_
      exact kt)
  have hf199_158 : x156 = x28 := by
      exact law0_160 pi0 x28 x103 x156 hx28 hx103 hx156
  have pre161 : ∀ t, Steps p.tables e below (T154.setTop (mkF m 205 #[iv pi0, iv pi1, iv pi2, iv pi3, iv pi4, iv pi5, iv x1, rv x4, rv x16, iv x28, iv x35, rv b42, iv (0 : Int32), iv (1 : Int32)] [(.int (1 : Int32)), (.ref b42)])) t → Go t := fun t kt => pre159 t (by
      refine y_icmpNo X154.here hx (hb hby at_199) (teq hf199_158).2 (pc' := 202) rfl ?_
      refine y_aload X154.here hx (hb hby at_202) rfl rfl (pc' := 204) rfl ?_
      refine y_iconst X154.here hx (hb hby at_204) (v := (1 : Int32)) rfl (pc' := 205) rfl ?_
      exact kt)
  obtain ⟨cq162, kq162, q162a, q162b, q162c⟩ := isOf hZ e154q f109
  obtain ⟨v162, _, ⟨T162, L162, k162, n162⟩, -, X162, ⟨Lc162, hQ162, l162, y162, z162⟩, st162⟩ := X154.virtualBack hx (y := (⟨"com/example/stonegaze/stonegaze/Groups", "ringed", "(I)Z"⟩ : MethodName)) (z := (⟨"com/example/stonegaze/stonegaze/Groups", "ringed", "(I)Z"⟩ : MethodName)) hown (mvT hZ (hw _ (List.mem_of_getElem? (i := 60) rfl))) (mvT hZ (hw _ (List.mem_of_getElem? (i := 61) rfl))) (notFace_of_selects (args := #[]) (mvT hZ (hw _ (List.mem_of_getElem? (i := 63) rfl)))) (mvT hZ (hw _ (List.mem_of_getElem? (i := 63) rfl))) (mvT hZ (hw _ (List.mem_of_getElem? (i := 62) rfl))) (by decide) (backOf (W := 0) (rm9i1 l Z a0 hw [] b42 z53_ringed x1 k53_ringed x103 x123 h106 n0 O124 f109 p106_4 L0_x1 L1_x1 p106_10) hZ (hw _ (List.mem_of_getElem? (i := 64) rfl)) (hw _ (List.mem_of_getElem? (i := 5) rfl)) (by decide) (by decide)) q162a q162c (g := (mkF m 205 #[iv pi0, iv pi1, iv pi2, iv pi3, iv pi4, iv pi5, iv x1, rv x4, rv x16, iv x28, iv x35, rv b42, iv (0 : Int32), iv (1 : Int32)] [(.int (1 : Int32)), (.ref b42)])) rfl (by rw [hml]; rfl) (Steps.refl _) (argsL := [(.int (1 : Int32))]) (rest := []) (lenOf pd__I_Z rfl) rfl (by show 2 * 0 + _ ≤ _; exact Nat.le_of_eq rfl) (hb hby at_205) (fun _ _ => ⟨rfl, e154q, (by decide : 7 + 0 ≤ _), (by decide : 61 + 0 ≤ _)⟩)
  dsimp only [Pt.U, Pt.locs, Pt.cells, Pt.slots] at X162 l162 y162 z162 st162 hQ162
  subst l162 y162 z162
  obtain ⟨hv162, N162q, e162q⟩ := hQ162
  have N163 := Fr.app N155 N162q
  have hw162 := hv162
  obtain ⟨x164, hx164⟩ : ∃ z : Int32, z = (nar .boolean x123) := ⟨_, rfl⟩
  rw [← hx164] at hw162
  subst hw162
  have pre165 : ∀ t, Steps p.tables e below (T162.setTop (mkF m 208 #[iv pi0, iv pi1, iv pi2, iv pi3, iv pi4, iv pi5, iv x1, rv x4, rv x16, iv x28, iv x35, rv b42, iv (0 : Int32), iv (1 : Int32)] [(.int x164)])) t → Go t := fun t kt => pre161 t (st162.trans kt)
  have pre167 : ∀ t, Steps p.tables e below (T162.setTop (mkF m 210 #[iv pi0, iv pi1, iv pi2, iv pi3, iv pi4, iv pi5, iv x1, rv x4, rv x16, iv x28, iv x35, rv b42, iv (0 : Int32), iv (1 : Int32)] [(.int x35), (.int x164)])) t → Go t := fun t kt => pre165 t (by
      refine y_iload X162.here hx (hb hby at_208) rfl (pc' := 210) rfl ?_
      exact kt)
  have hf210_166 : x164 = x35 := by
      exact law0_168 pi0 x28 x35 x123 x156 x164 hx35 hx123 hx164 hf199_158
  have pre169 : ∀ t, Steps p.tables e below (T162.setTop (mkF m 218 #[iv pi0, iv pi1, iv pi2, iv pi3, iv pi4, iv pi5, iv x1, rv x4, rv x16, iv x28, iv x35, rv b42, iv (0 : Int32), iv (1 : Int32)] [(.int (1 : Int32))])) t → Go t := fun t kt => pre167 t (by
      refine y_icmpNo X162.here hx (hb hby at_210) (teq hf210_166).2 (pc' := 213) rfl ?_
      refine y_iconst X162.here hx (hb hby at_213) (v := (1 : Int32)) rfl (pc' := 214) rfl ?_
      refine y_goto X162.here hx (hb hby at_214) (pc' := 218) (by decide) rfl ?_
      exact kt)
  obtain ⟨fs, hr, hrun, hended, hW, hsame⟩ := X162.leave (v := some (.int (1 : Int32))) (fun h => by rw [Bd.returns] at h; cases h)
  refine ⟨_, _, (hGo _).mp (pre169 _ ?_), hrun, hended, _, _, rfl, ?_, ⟨_, rfl⟩, hW, hsame.mono (by decide) (by decide)⟩
  · exact retN X162 hx (t := .boolean) Bd.returns (by simp) (hb hby at_218) hr
  · show Q0 Z pi0 pi1 pi2 pi3 pi4 pi5 w_WHITE w_BLACK h0 n0 _ T162.heap _
    rw [e162q]
    exact ⟨rfl, N163⟩
set_option maxRecDepth 65536 in
set_option maxHeartbeats 40000000 in
theorem comes_1 {Post : Tables → Env → Array Value → State → Outcome → State → Prop} (hpost : ∀ tb e args s v u, (limb_1_1.after args s (.returned v) u = true ∧ limb_1_2.after args s (.returned v) u = true ∧ True) → FrameEnd s (.returned v) u (Jvm.fieldLocs frame_1_writes args s ++ Jvm.arrayLocs frame_1_arrays args s ++ Jvm.staticLocs frame_1_statics s) 24 192 → Post tb e args s (.returned v) u) :
    ArmFor flags0 classFile x code maxLocals ret World_1 tables_1 room_1 Calls_1 rest_1 Pre_1 Post := by
  intro l hfl _ _ p e ha hc hk s m args below hf hA hF happ hP
  obtain ⟨hcalls, hrest, hpre⟩ := hP
  obtain ⟨-, -, -, hnamed, -, -, -, hat⟩ := (Spec.applies_iff hf).mp happ
  obtain ⟨hg, hn⟩ := and_e (Cond.before_iff.mp (show (Jvm.Cond.and given_1 narrow_1).before args s = true from hpre))
  obtain ⟨g0, gr0⟩ := and_e hg
  obtain ⟨g1, gr1⟩ := and_e gr0
  obtain ⟨g2, gr2⟩ := and_e gr1
  obtain ⟨g3, gr3⟩ := and_e gr2
  obtain ⟨g4, gr4⟩ := and_e gr3
  obtain ⟨g5, gr5⟩ := and_e gr4
  obtain ⟨w0, w1, w2, w3, w4, w5, rfl⟩ : ∃ w0 w1 w2 w3 w4 w5 : Value, args = #[w0, w1, w2, w3, w4, w5] := by
    have hs : args.size = 6 := by simpa [Cond.value, given_1] using g0
    obtain ⟨L⟩ := args
    match L, hs with
    | [w0, w1, w2, w3, w4, w5], _ => exact ⟨w0, w1, w2, w3, w4, w5, rfl⟩
  have hw := fun d (hd : d ∈ tables_1) => atoms_spec (ws := Jvm.Cond.code x code maxLocals ret :: tables_1) hat d (List.mem_cons_of_mem _ hd)
  have hfit : Fit s := fun {y c} hc i hi => by
    obtain ⟨ha, rfl⟩ := Array.getElem?_eq_some_iff.mp hc
    have q := List.all_eq_true.mp ((Array.all_eq_true_iff_forall_mem.mp hF) _ (Array.getElem_mem ha)) i (List.mem_range.mpr hi)
    simpa [Array.getElem?_eq_getElem hi] using q
  obtain ⟨i0, ei0⟩ := is_v g1
  obtain rfl : w0 = (.int i0) := Option.some.inj ei0
  obtain ⟨i1, ei1⟩ := is_v g2
  obtain rfl : w1 = (.int i1) := Option.some.inj ei1
  obtain ⟨i2, ei2⟩ := is_v g3
  obtain rfl : w2 = (.int i2) := Option.some.inj ei2
  obtain ⟨i3, ei3⟩ := is_v g4
  obtain rfl : w3 = (.int i3) := Option.some.inj ei3
  obtain ⟨i4, ei4⟩ := is_v g5
  obtain rfl : w4 = (.int i4) := Option.some.inj ei4
  obtain ⟨i5, ei5⟩ := is_v gr5
  obtain rfl : w5 = (.int i5) := Option.some.inj ei5
  obtain ⟨n0, nr0⟩ := and_e hn
  obtain ⟨w_WHITE, ev_WHITE⟩ := exa_v n0
  have S_WHITE := Sta.start ev_WHITE (Or.inr ⟨(hw _ (List.mem_of_getElem? (i := 1) rfl)), (hw _ (List.mem_of_getElem? (i := 2) rfl))⟩)
  have E_w_WHITE := Exa.start ev_WHITE n0
  obtain ⟨w_BLACK, ev_BLACK⟩ := exa_v nr0
  have S_BLACK := Sta.start ev_BLACK (Or.inr ⟨(hw _ (List.mem_of_getElem? (i := 1) rfl)), (hw _ (List.mem_of_getElem? (i := 66) rfl))⟩)
  have E_w_BLACK := Exa.start ev_BLACK nr0
  obtain ⟨n, o, h1, h2, h3, _, L, rfl, ⟨rfl, N⟩, hq⟩ := rm0 l s _ hw tables_1 i0 i1 i2 i3 i4 i5 w_WHITE w_BLACK s.heap s.heap.size (Old.start s) S_WHITE S_BLACK E_w_WHITE E_w_BLACK p e ha hc hk s m _ below hf ((Spec.applies_iff_loose hf).mp happ).1 ⟨rfl, State.Warmed39.refl s, rfl⟩ trivial
  refine ⟨n, _, h1, h2, h3, hpost _ _ _ _ _ _ ⟨Cond.after_iff.mpr rfl, Cond.after_iff.mpr (eq_i res_at (Term.int_eval (1)) rfl), trivial⟩ ⟨hq.1, hq.2.1, (hq.2.2.sift fun y hy => Or.inr (N y hy)).mono (by decide) (by decide)⟩⟩
theorem main_1_1 : Claimed_1_1 := comes_1 fun _ _ _ _ _ _ h hF => ⟨h.1, hF⟩
theorem main_1_2 : Claimed_1_2 := comes_1 fun _ _ _ _ _ _ h hF => ⟨h.2.1, hF⟩
end Jvm.Pilot.@@N@@
namespace Jvm.Pilot.@@N@@
open Jvm Jvm.ClassFile Sem Op Lib Jvm.Free Jvm.Stand Jvm.Pilot.@@N@@.Jvm.D
/-! MADE BY PROGRAM (witnessworld.py) out of the Statement's table words and the real class files: 17 classes; the members and pool entries that the words name. The judged class is class 1, her method 1. -/
namespace start1
open Jvm.ClassFile
def u (s : String) : CpInfo := .utf8 (stringToUtf16 s)
/-- a pool by its gaps: so many unusable entries, then the entry; so many at the end -/
def gap : Nat → List CpInfo → List CpInfo
  | 0, r => r
  | n + 1, r => .unusable :: gap n r
def poolList (es : List (Nat × CpInfo)) (last : Nat) : List CpInfo := es.foldr (fun e r => gap e.1 (e.2 :: r)) (gap last [])
def pool (es : List (Nat × CpInfo)) (last : Nat) : Array CpInfo := ⟨poolList es last⟩
def fileOf (pool : Array CpInfo) (this : Nat) (attrs : Array Attribute := #[]) (ms : Array MethodInfo := #[]) (fl : Nat := 33) (sup : Nat := 0) (ifs : Array Nat := #[]) (fds : Array FieldInfo := #[]) : ClassFile where
  minorVersion := 0
  majorVersion := 65
  constantPool := pool
  accessFlags := fl
  thisClass := this
  superClass := sup
  interfaces := ifs
  fields := fds
  methods := ms
  attributes := attrs
def plain (name : String) (sup : Option ClassId) : Class where
  name := name
  kind := .ordinary
  loader := none
  accessFlags := 33
  super := sup
  interfaces := #[]
  cf := none
  fields := #[]
  methods := #[]
  instanceTypes := #[]
  staticTypes := #[]
  resolved := #[]
  callSites := []
  init := .initialized
  statics := none
  mirror := none

def pool0 : Array CpInfo := pool [(5, u "<init>"), (0, u "()V"), (1, .class_ 10), (1, u "java/lang/Object")] 113

def k0c0 : Code := { maxStack := 0, maxLocals := 1, code := object_method_1_code, exceptionTable := #[], attributes := #[] }
def k0m0 : Method := { name := "<init>", desc := "()V", sig := { parameters := [], returnType := none }, accessFlags := 1, code := some k0c0 }
/-- java/lang/Object -/
def k0 : Class := { plain "java/lang/Object" none with
  accessFlags := 33
  interfaces := #[]
  cf := some (fileOf pool0 8 #[] #[{ accessFlags := 1, nameIndex := 5, descriptorIndex := 6, attributes := #[] }] 33 0 #[] #[])
  fields := #[]
  methods := #[k0m0]
  instanceTypes := #[]
  staticTypes := #[]
  resolved := Array.replicate 124 none
  statics := none }

def pool1 : Array CpInfo := pool [(2, .class_ 4), (1, u "java/lang/Object"), (0, u "<init>"), (0, u "()V"), (0, .fieldref 8 9), (0, .class_ 10), (0, .nameAndType 11 12), (0, u "com/example/stonegaze/stonegaze/Side"), (0, u "BLACK"), (0, u "Lcom/example/stonegaze/stonegaze/Side;"), (0, .fieldref 8 14), (0, .nameAndType 15 12), (0, u "WHITE"), (0, .class_ 17), (0, u "com/example/stonegaze/stonegaze/Groups"), (0, .methodref 16 19), (0, .nameAndType 5 20), (0, u "(I)V"), (0, .methodref 16 22), (0, .nameAndType 23 24), (0, u "add"), (0, u "(Lcom/example/stonegaze/stonegaze/Side;IIZ)I"), (0, .methodref 16 26), (0, .nameAndType 27 28), (0, u "count"), (0, u "()I"), (0, .methodref 16 30), (0, .nameAndType 31 32), (0, u "colour"), (0, u "(I)Lcom/example/stonegaze/stonegaze/Side;"), (0, .methodref 16 34), (0, .nameAndType 35 36), (0, u "liberties"), (0, u "(I)I"), (0, .methodref 16 38), (0, .nameAndType 39 36), (0, u "aLiberty"), (0, .methodref 16 41), (0, .nameAndType 42 43), (0, u "ringed"), (0, u "(I)Z"), (0, .class_ 45), (0, u "com/example/stonegaze/stonegaze/GroupsAddPinLaw"), (2, u "law"), (0, u "(IIIIII)Z")] 3

def k1m0 : Method := { name := "<init>", desc := "()V", sig := { parameters := [], returnType := none }, accessFlags := 1, code := none }
def k1c1 : Code := { maxStack := 5, maxLocals := 14, code := code, exceptionTable := #[], attributes := #[] }
def k1m1 : Method := { name := "law", desc := "(IIIIII)Z", sig := { parameters := [.int, .int, .int, .int, .int, .int], returnType := some .boolean }, accessFlags := 9, code := some k1c1 }
/-- com/example/stonegaze/stonegaze/GroupsAddPinLaw -/
def k1 : Class := { plain "com/example/stonegaze/stonegaze/GroupsAddPinLaw" (some 0) with
  accessFlags := 49
  interfaces := #[]
  cf := some (fileOf pool1 44 #[] #[{ accessFlags := 1, nameIndex := 5, descriptorIndex := 6, attributes := #[] }, { accessFlags := 9, nameIndex := 48, descriptorIndex := 49, attributes := #[] }] 49 2 #[] #[])
  fields := #[]
  methods := #[k1m0, k1m1]
  instanceTypes := #[]
  staticTypes := #[]
  resolved := Array.replicate 53 none
  statics := none }

def pool2 : Array CpInfo := pool [(1, .class_ 2), (0, u "java/lang/constant/Constable"), (0, .class_ 4), (0, u "java/lang/Object")] 6

/-- java/lang/constant/Constable -/
def k2 : Class := { plain "java/lang/constant/Constable" (some 0) with
  accessFlags := 1537
  interfaces := #[]
  cf := some (fileOf pool2 1 #[] #[] 1537 3 #[] #[])
  fields := #[]
  methods := #[]
  instanceTypes := #[]
  staticTypes := #[]
  resolved := Array.replicate 11 none
  statics := none }

def pool3 : Array CpInfo := pool [(1, .class_ 2), (0, u "java/lang/Comparable"), (0, .class_ 4), (0, u "java/lang/Object")] 7

/-- java/lang/Comparable -/
def k3 : Class := { plain "java/lang/Comparable" (some 0) with
  accessFlags := 1537
  interfaces := #[]
  cf := some (fileOf pool3 1 #[] #[] 1537 3 #[] #[])
  fields := #[]
  methods := #[]
  instanceTypes := #[]
  staticTypes := #[]
  resolved := Array.replicate 12 none
  statics := none }

def pool4 : Array CpInfo := pool [(1, .class_ 2), (0, u "java/io/Serializable"), (0, .class_ 4), (0, u "java/lang/Object")] 2

/-- java/io/Serializable -/
def k4 : Class := { plain "java/io/Serializable" (some 0) with
  accessFlags := 1537
  interfaces := #[]
  cf := some (fileOf pool4 1 #[] #[] 1537 3 #[] #[])
  fields := #[]
  methods := #[]
  instanceTypes := #[]
  staticTypes := #[]
  resolved := Array.replicate 7 none
  statics := none }

def pool5 : Array CpInfo := pool [(2, .class_ 4), (1, u "java/lang/Enum"), (0, u "name"), (0, u "Ljava/lang/String;"), (2, u "ordinal"), (0, u "I"), (1, .class_ 14), (1, u "java/lang/Object"), (4, u "hash"), (86, .class_ 108), (1, u "java/lang/Enum$EnumDesc"), (2, .class_ 112), (0, u "java/lang/constant/Constable"), (0, .class_ 114), (0, u "java/lang/Comparable"), (0, .class_ 116), (0, u "java/io/Serializable")] 87

/-- java/lang/Enum -/
def k5 : Class := { plain "java/lang/Enum" (some 0) with
  accessFlags := 1057
  interfaces := #[2, 3, 4]
  cf := some (fileOf pool5 2 #[.nestMembers #[106]] #[] 1057 12 #[111, 113, 115] #[{ accessFlags := 18, nameIndex := 5, descriptorIndex := 6, attributes := #[] }, { accessFlags := 18, nameIndex := 9, descriptorIndex := 10, attributes := #[] }, { accessFlags := 2, nameIndex := 19, descriptorIndex := 10, attributes := #[] }])
  fields := #[{ name := "name", type := (.object "java/lang/String"), accessFlags := 18, slot := 0, constantValue := 0 }, { name := "ordinal", type := .int, accessFlags := 18, slot := 1, constantValue := 0 }, { name := "hash", type := .int, accessFlags := 2, slot := 2, constantValue := 0 }]
  methods := #[]
  instanceTypes := #[(.object "java/lang/String"), .int, .int]
  staticTypes := #[]
  resolved := Array.replicate 204 none
  statics := none }

def pool6 : Array CpInfo := pool [(1, .class_ 2), (0, u "com/example/stonegaze/stonegaze/Side"), (2, u "WHITE"), (0, u "Lcom/example/stonegaze/stonegaze/Side;"), (2, u "BLACK"), (2, u "$VALUES"), (0, u "[Lcom/example/stonegaze/stonegaze/Side;"), (6, .class_ 22), (1, u "java/lang/Enum")] 35

/-- com/example/stonegaze/stonegaze/Side -/
def k6 : Class := { plain "com/example/stonegaze/stonegaze/Side" (some 5) with
  accessFlags := 16433
  interfaces := #[]
  cf := some (fileOf pool6 1 #[] #[] 16433 20 #[] #[{ accessFlags := 16409, nameIndex := 5, descriptorIndex := 6, attributes := #[] }, { accessFlags := 16409, nameIndex := 9, descriptorIndex := 6, attributes := #[] }, { accessFlags := 4122, nameIndex := 12, descriptorIndex := 13, attributes := #[] }])
  fields := #[{ name := "WHITE", type := (.object "com/example/stonegaze/stonegaze/Side"), accessFlags := 16409, slot := 0, constantValue := 0 }, { name := "BLACK", type := (.object "com/example/stonegaze/stonegaze/Side"), accessFlags := 16409, slot := 1, constantValue := 0 }, { name := "$VALUES", type := (.array (.object "com/example/stonegaze/stonegaze/Side")), accessFlags := 4122, slot := 2, constantValue := 0 }]
  methods := #[]
  instanceTypes := #[(.object "java/lang/String"), .int, .int]
  staticTypes := #[(.object "com/example/stonegaze/stonegaze/Side"), (.object "com/example/stonegaze/stonegaze/Side"), (.array (.object "com/example/stonegaze/stonegaze/Side"))]
  resolved := Array.replicate 58 none
  statics := some 0 }

def pool7 : Array CpInfo := pool [(1, .methodref 2 3), (0, .class_ 4), (0, .nameAndType 5 6), (0, u "java/lang/Object"), (0, u "<init>"), (0, u "()V"), (0, .fieldref 8 9), (0, .class_ 10), (0, .nameAndType 11 12), (0, u "com/example/stonegaze/stonegaze/Groups"), (0, u "groupOf"), (0, u "[I"), (0, .methodref 14 15), (0, .class_ 16), (0, .nameAndType 17 18), (0, u "java/util/Arrays"), (0, u "fill"), (0, u "([II)V"), (0, .class_ 20), (0, u "com/example/stonegaze/stonegaze/Side"), (0, .fieldref 8 22), (0, .nameAndType 23 24), (0, u "colours"), (0, u "[Lcom/example/stonegaze/stonegaze/Side;"), (0, .fieldref 8 26), (0, .nameAndType 27 12), (0, u "stones"), (0, .fieldref 8 29), (0, .nameAndType 30 12), (0, u "liberties"), (0, .fieldref 8 32), (0, .nameAndType 33 34), (0, u "ringed"), (0, u "[Z"), (0, .fieldref 8 36), (0, .nameAndType 37 12), (0, u "aLiberty"), (0, .fieldref 8 39), (0, .nameAndType 40 41), (0, u "count"), (0, u "I"), (0, u "(I)V"), (2, u "add"), (0, u "(Lcom/example/stonegaze/stonegaze/Side;IIZ)I"), (2, u "()I"), (1, u "(I)I"), (0, u "colour"), (0, u "(I)Lcom/example/stonegaze/stonegaze/Side;"), (1, u "(I)Z")] 3

def k7c0 : Code := { maxStack := 2, maxLocals := 2, code := prog_17_method_1_code, exceptionTable := #[], attributes := #[] }
def k7m0 : Method := { name := "<init>", desc := "(I)V", sig := { parameters := [.int], returnType := none }, accessFlags := 0, code := some k7c0 }
def k7c1 : Code := { maxStack := 3, maxLocals := 5, code := prog_17_method_2_code, exceptionTable := #[], attributes := #[] }
def k7m1 : Method := { name := "add", desc := "(Lcom/example/stonegaze/stonegaze/Side;IIZ)I", sig := { parameters := [(.object "com/example/stonegaze/stonegaze/Side"), .int, .int, .boolean], returnType := some .int }, accessFlags := 0, code := some k7c1 }
def k7c2 : Code := { maxStack := 1, maxLocals := 1, code := prog_17_method_4_code, exceptionTable := #[], attributes := #[] }
def k7m2 : Method := { name := "count", desc := "()I", sig := { parameters := [], returnType := some .int }, accessFlags := 0, code := some k7c2 }
def k7c3 : Code := { maxStack := 2, maxLocals := 2, code := prog_17_method_6_code, exceptionTable := #[], attributes := #[] }
def k7m3 : Method := { name := "colour", desc := "(I)Lcom/example/stonegaze/stonegaze/Side;", sig := { parameters := [.int], returnType := some (.object "com/example/stonegaze/stonegaze/Side") }, accessFlags := 0, code := some k7c3 }
def k7c4 : Code := { maxStack := 2, maxLocals := 2, code := prog_17_method_8_code, exceptionTable := #[], attributes := #[] }
def k7m4 : Method := { name := "liberties", desc := "(I)I", sig := { parameters := [.int], returnType := some .int }, accessFlags := 0, code := some k7c4 }
def k7c5 : Code := { maxStack := 2, maxLocals := 2, code := prog_17_method_9_code, exceptionTable := #[], attributes := #[] }
def k7m5 : Method := { name := "aLiberty", desc := "(I)I", sig := { parameters := [.int], returnType := some .int }, accessFlags := 0, code := some k7c5 }
def k7c6 : Code := { maxStack := 2, maxLocals := 2, code := prog_17_method_11_code, exceptionTable := #[], attributes := #[] }
def k7m6 : Method := { name := "ringed", desc := "(I)Z", sig := { parameters := [.int], returnType := some .boolean }, accessFlags := 0, code := some k7c6 }
/-- com/example/stonegaze/stonegaze/Groups -/
def k7 : Class := { plain "com/example/stonegaze/stonegaze/Groups" (some 0) with
  accessFlags := 48
  interfaces := #[]
  cf := some (fileOf pool7 8 #[] #[{ accessFlags := 0, nameIndex := 5, descriptorIndex := 42, attributes := #[] }, { accessFlags := 0, nameIndex := 45, descriptorIndex := 46, attributes := #[] }, { accessFlags := 0, nameIndex := 40, descriptorIndex := 49, attributes := #[] }, { accessFlags := 0, nameIndex := 52, descriptorIndex := 53, attributes := #[] }, { accessFlags := 0, nameIndex := 30, descriptorIndex := 51, attributes := #[] }, { accessFlags := 0, nameIndex := 37, descriptorIndex := 51, attributes := #[] }, { accessFlags := 0, nameIndex := 33, descriptorIndex := 55, attributes := #[] }] 48 2 #[] #[{ accessFlags := 18, nameIndex := 11, descriptorIndex := 12, attributes := #[] }, { accessFlags := 18, nameIndex := 23, descriptorIndex := 24, attributes := #[] }, { accessFlags := 18, nameIndex := 27, descriptorIndex := 12, attributes := #[] }, { accessFlags := 18, nameIndex := 30, descriptorIndex := 12, attributes := #[] }, { accessFlags := 18, nameIndex := 33, descriptorIndex := 34, attributes := #[] }, { accessFlags := 18, nameIndex := 37, descriptorIndex := 12, attributes := #[] }, { accessFlags := 2, nameIndex := 40, descriptorIndex := 41, attributes := #[] }])
  fields := #[{ name := "groupOf", type := (.array .int), accessFlags := 18, slot := 0, constantValue := 0 }, { name := "colours", type := (.array (.object "com/example/stonegaze/stonegaze/Side")), accessFlags := 18, slot := 1, constantValue := 0 }, { name := "stones", type := (.array .int), accessFlags := 18, slot := 2, constantValue := 0 }, { name := "liberties", type := (.array .int), accessFlags := 18, slot := 3, constantValue := 0 }, { name := "ringed", type := (.array .boolean), accessFlags := 18, slot := 4, constantValue := 0 }, { name := "aLiberty", type := (.array .int), accessFlags := 18, slot := 5, constantValue := 0 }, { name := "count", type := .int, accessFlags := 2, slot := 6, constantValue := 0 }]
  methods := #[k7m0, k7m1, k7m2, k7m3, k7m4, k7m5, k7m6]
  instanceTypes := #[(.array .int), (.array (.object "com/example/stonegaze/stonegaze/Side")), (.array .int), (.array .int), (.array .boolean), (.array .int), .int]
  staticTypes := #[]
  resolved := Array.replicate 59 none
  statics := none }

def pool8 : Array CpInfo := pool [(2, .class_ 4), (1, u "java/lang/Object"), (0, u "<init>"), (0, u "()V"), (7, .class_ 16), (1, u "java/util/Arrays"), (57, .class_ 76), (1, u "java/util/Arrays$NaturalOrder"), (36, .class_ 115), (1, u "java/util/Arrays$LegacyMergeSort"), (1, u "Z"), (257, .class_ 376), (0, u "java/util/Arrays$ArrayList"), (68, u "$assertionsDisabled"), (269, u "MIN_ARRAY_SORT_GRAN"), (0, u "I"), (2, u "INSERTIONSORT_THRESHOLD"), (120, u "fill"), (4, u "([II)V"), (129, .class_ 976), (0, u "java/util/Arrays$ArrayItr")] 52

def k8m0 : Method := { name := "<init>", desc := "()V", sig := { parameters := [], returnType := none }, accessFlags := 2, code := none }
def k8c1 : Code := { maxStack := 3, maxLocals := 4, code := jdk_65_method_103_code, exceptionTable := #[], attributes := #[] }
def k8m1 : Method := { name := "fill", desc := "([II)V", sig := { parameters := [(.array .int), .int], returnType := none }, accessFlags := 9, code := some k8c1 }
/-- java/util/Arrays -/
def k8 : Class := { plain "java/util/Arrays" (some 0) with
  accessFlags := 49
  interfaces := #[]
  cf := some (fileOf pool8 14 #[.nestMembers #[975, 375, 113, 74]] #[{ accessFlags := 2, nameIndex := 5, descriptorIndex := 6, attributes := #[] }, { accessFlags := 9, nameIndex := 840, descriptorIndex := 845, attributes := #[] }] 49 2 #[] #[{ accessFlags := 26, nameIndex := 715, descriptorIndex := 716, attributes := #[] }, { accessFlags := 26, nameIndex := 719, descriptorIndex := 716, attributes := #[] }, { accessFlags := 4120, nameIndex := 445, descriptorIndex := 117, attributes := #[] }])
  fields := #[{ name := "MIN_ARRAY_SORT_GRAN", type := .int, accessFlags := 26, slot := 0, constantValue := 0 }, { name := "INSERTIONSORT_THRESHOLD", type := .int, accessFlags := 26, slot := 1, constantValue := 0 }, { name := "$assertionsDisabled", type := .boolean, accessFlags := 4120, slot := 2, constantValue := 0 }]
  methods := #[k8m0, k8m1]
  instanceTypes := #[]
  staticTypes := #[.int, .int, .boolean]
  resolved := Array.replicate 1029 none
  statics := none }

def pool9 : Array CpInfo := pool [(1, u "java/lang/Cloneable"), (0, .class_ 1), (0, u "java/lang/Object"), (0, .class_ 3)] 3

/-- java/lang/Cloneable -/
def k9 : Class := { plain "java/lang/Cloneable" (some 0) with
  accessFlags := 1537
  interfaces := #[]
  cf := some (fileOf pool9 2 #[] #[] 1537 4 #[] #[])
  fields := #[]
  methods := #[]
  instanceTypes := #[]
  staticTypes := #[]
  resolved := Array.replicate 8 none
  statics := none }

/-- the primitive boolean -/
def k10 : Class := { plain "boolean" none with kind := .primitive 'Z', accessFlags := 0x411 }
/-- [Z -/
def k11 : Class := { plain "[Z" (some 0) with kind := .array 10 .boolean, interfaces := #[9, 4], accessFlags := 1041 }

/-- the primitive byte -/
def k12 : Class := { plain "byte" none with kind := .primitive 'B', accessFlags := 0x411 }
/-- [B -/
def k13 : Class := { plain "[B" (some 0) with kind := .array 12 .byte, interfaces := #[9, 4], accessFlags := 1041 }

/-- the primitive int -/
def k14 : Class := { plain "int" none with kind := .primitive 'I', accessFlags := 0x411 }
/-- [I -/
def k15 : Class := { plain "[I" (some 0) with kind := .array 14 .int, interfaces := #[9, 4], accessFlags := 1041 }

/-- [Lcom/example/stonegaze/stonegaze/Side; -/
def k16 : Class := { plain "[Lcom/example/stonegaze/stonegaze/Side;" (some 0) with kind := .array 6 (.object "com/example/stonegaze/stonegaze/Side"), interfaces := #[9, 4], accessFlags := 1041 }

def heap : Heap := #[{ cls := 6, slots := #[.ref 1, .ref 2, .null], vm := .statics 6 },
  { cls := 6, slots := #[.null, .int 0, .int 0], vm := .none },
  { cls := 6, slots := #[.null, .int 1, .int 0], vm := .none }]
def classes : Array Class := #[k0, k1, k2, k3, k4, k5, k6, k7, k8, k9, k10, k11, k12, k13, k14, k15, k16]
def interned : List (Array UInt16 × Addr) := []
def slotsUsed : Nat := 9
def theMethod : MethodId := ⟨1, 1⟩
def args0 : Array Value := #[.int 5, .int 1, .int 2, .int 3, .int 4, .int 6]
def aboutOver (below : List Frame) : State where
  vm := { classes := classes, interned := interned.toArray }
  heap := heap
  slotsUsed := slotsUsed
  threads := #[{ frames := .invoking theMethod args0 :: below }]
def below0 : List Frame := [.native { method := ⟨0, 0⟩, args := #[] }]
def about1 : State := aboutOver below0
def p0 : Program := .bare "" "" ""
def e0 : Env := launch0.env 0 0 0
theorem w_frames : about1.frames = Frame.invoking theMethod args0 :: below0 := rfl
set_option maxRecDepth 65536 in
theorem w_args : argsFit about1.vm theMethod args0 = true := by decide +kernel
set_option maxRecDepth 65536 in
theorem w_heap : heapFits about1 = true := by decide +kernel
set_option maxRecDepth 65536 in
theorem w_runnable : about1.curStatus? = some .runnable := by decide +kernel
set_option maxRecDepth 65536 in
theorem w_alone : about1.alone = true := by decide +kernel
set_option maxRecDepth 65536 in
theorem w_named : about1.methodNamed? x = some theMethod := by decide +kernel
set_option maxRecDepth 65536 in
theorem w_hears : about1.hears theMethod below0 = true := by decide +kernel
set_option maxRecDepth 65536 in
theorem w_ripe : about1.ripe theMethod args0 below0 = true := by decide +kernel
theorem w_running : about1.status = .running := rfl
set_option maxRecDepth 65536 in
theorem w_room : about1.hasRoom e0.platform room_1 = true :=
  launch0.hasRoom_least _ room_1 (by decide +kernel) (by decide +kernel) (by decide +kernel) (by decide +kernel) (by decide +kernel) (by decide +kernel)
theorem allAtoms_all (ts : List Jvm.Cond) (a : Array Jvm.Value) (st : Jvm.State) : (allAtoms ts).before a st = ts.all (fun c => c.before a st) := by
  induction ts with
  | nil => rfl
  | cons c t ih =>
    show (Jvm.Cond.and c (allAtoms t)).before a st = _
    rw [Jvm.Cond.before_and, ih, List.all_cons]
def words1 : List Jvm.Cond := Jvm.Cond.code x code maxLocals ret :: tables_1
/-- a 'code' word, met by the world's own term for the bytes: nothing is compared byte by byte -/
theorem code_word {y : MethodName} {bytes : ByteArray} {mx : Nat} {rt : Option FieldType} {a : Array Value} {s : State} {m : MethodId} {meth : Method} {c : Code} (h1 : s.methodNamed? y = some m) (h2 : s.vm.method? m = some meth) (h3 : meth.code = some c) (h4 : c.code = bytes)
    (h5 : (c.maxLocals == mx && c.exceptionTable.isEmpty && decide (c.maxStack ≤ mostOperands) && decide (meth.sig.returnType = rt) && !meth.locks && decide (parseMethodDescriptor y.desc = some meth.sig)) = true) : (Jvm.Cond.code y bytes mx rt).before a s = true := by
  simp only [Bool.and_eq_true, beq_iff_eq, Bool.not_eq_true', decide_eq_true_eq] at h5
  obtain ⟨⟨⟨⟨⟨g1, g2⟩, g3⟩, g4⟩, g5⟩, g6⟩ := h5
  simp [Cond.before, Cond.holds, Cond.value, h1, h2, h3, h4, g1, g2, g3, g4, g5, g6]
def isCode : Jvm.Cond → Bool
  | .code _ _ _ _ => true
  | _ => false
theorem all_split {L : List Jvm.Cond} {P : Jvm.Cond → Bool} (h1 : L.all (fun c => isCode c || P c) = true) (h2 : ∀ c ∈ L.filter isCode, P c = true) : L.all P = true := by
  refine List.all_eq_true.mpr fun c hc => ?_
  have h := List.all_eq_true.mp h1 c hc
  rcases Bool.eq_false_or_eq_true (isCode c) with hi | hi
  · exact h2 c (List.mem_filter.mpr ⟨hc, hi⟩)
  · simpa [hi] using h
set_option maxRecDepth 65536 in
theorem w_c0 : (Jvm.Cond.code x code maxLocals ret).before args0 about1 = true := code_word (m := ⟨1, 1⟩) (meth := k1m1) (c := k1c1) (by decide +kernel) rfl rfl rfl (by decide +kernel)
set_option maxRecDepth 65536 in
theorem w_c1 : (Jvm.Cond.code ({ cls := "com/example/stonegaze/stonegaze/Groups", name := "<init>", desc := "(I)V" } : Jvm.MethodName) prog_17_method_1_code (2 : Nat) (Option.none : Option Jvm.ClassFile.FieldType)).before args0 about1 = true := code_word (m := ⟨7, 0⟩) (meth := k7m0) (c := k7c0) (by decide +kernel) rfl rfl rfl (by decide +kernel)
set_option maxRecDepth 65536 in
theorem w_c2 : (Jvm.Cond.code ({ cls := "java/lang/Object", name := "<init>", desc := "()V" } : Jvm.MethodName) object_method_1_code (1 : Nat) (Option.none : Option Jvm.ClassFile.FieldType)).before args0 about1 = true := code_word (m := ⟨0, 0⟩) (meth := k0m0) (c := k0c0) (by decide +kernel) rfl rfl rfl (by decide +kernel)
set_option maxRecDepth 65536 in
theorem w_c3 : (Jvm.Cond.code ({ cls := "java/util/Arrays", name := "fill", desc := "([II)V" } : Jvm.MethodName) jdk_65_method_103_code (4 : Nat) (Option.none : Option Jvm.ClassFile.FieldType)).before args0 about1 = true := code_word (m := ⟨8, 1⟩) (meth := k8m1) (c := k8c1) (by decide +kernel) rfl rfl rfl (by decide +kernel)
set_option maxRecDepth 65536 in
theorem w_c4 : (Jvm.Cond.code ({ cls := "com/example/stonegaze/stonegaze/Groups", name := "add", desc := "(Lcom/example/stonegaze/stonegaze/Side;IIZ)I" } : Jvm.MethodName) prog_17_method_2_code (5 : Nat) (Option.some Jvm.ClassFile.FieldType.int)).before args0 about1 = true := code_word (m := ⟨7, 1⟩) (meth := k7m1) (c := k7c1) (by decide +kernel) rfl rfl rfl (by decide +kernel)
set_option maxRecDepth 65536 in
theorem w_c5 : (Jvm.Cond.code ({ cls := "com/example/stonegaze/stonegaze/Groups", name := "count", desc := "()I" } : Jvm.MethodName) prog_17_method_4_code (1 : Nat) (Option.some Jvm.ClassFile.FieldType.int)).before args0 about1 = true := code_word (m := ⟨7, 2⟩) (meth := k7m2) (c := k7c2) (by decide +kernel) rfl rfl rfl (by decide +kernel)
set_option maxRecDepth 65536 in
theorem w_c6 : (Jvm.Cond.code ({ cls := "com/example/stonegaze/stonegaze/Groups", name := "colour", desc := "(I)Lcom/example/stonegaze/stonegaze/Side;" } : Jvm.MethodName) prog_17_method_6_code (2 : Nat) (Option.some (Jvm.ClassFile.FieldType.object "com/example/stonegaze/stonegaze/Side"))).before args0 about1 = true := code_word (m := ⟨7, 3⟩) (meth := k7m3) (c := k7c3) (by decide +kernel) rfl rfl rfl (by decide +kernel)
set_option maxRecDepth 65536 in
theorem w_c7 : (Jvm.Cond.code ({ cls := "com/example/stonegaze/stonegaze/Groups", name := "liberties", desc := "(I)I" } : Jvm.MethodName) prog_17_method_8_code (2 : Nat) (Option.some Jvm.ClassFile.FieldType.int)).before args0 about1 = true := code_word (m := ⟨7, 4⟩) (meth := k7m4) (c := k7c4) (by decide +kernel) rfl rfl rfl (by decide +kernel)
set_option maxRecDepth 65536 in
theorem w_c8 : (Jvm.Cond.code ({ cls := "com/example/stonegaze/stonegaze/Groups", name := "aLiberty", desc := "(I)I" } : Jvm.MethodName) prog_17_method_9_code (2 : Nat) (Option.some Jvm.ClassFile.FieldType.int)).before args0 about1 = true := code_word (m := ⟨7, 5⟩) (meth := k7m5) (c := k7c5) (by decide +kernel) rfl rfl rfl (by decide +kernel)
set_option maxRecDepth 65536 in
theorem w_c9 : (Jvm.Cond.code ({ cls := "com/example/stonegaze/stonegaze/Groups", name := "ringed", desc := "(I)Z" } : Jvm.MethodName) prog_17_method_11_code (2 : Nat) (Option.some Jvm.ClassFile.FieldType.boolean)).before args0 about1 = true := code_word (m := ⟨7, 6⟩) (meth := k7m6) (c := k7c6) (by decide +kernel) rfl rfl rfl (by decide +kernel)
def codes1 : List Jvm.Cond := [Jvm.Cond.code x code maxLocals ret, Jvm.Cond.code ({ cls := "com/example/stonegaze/stonegaze/Groups", name := "<init>", desc := "(I)V" } : Jvm.MethodName) prog_17_method_1_code (2 : Nat) (Option.none : Option Jvm.ClassFile.FieldType), Jvm.Cond.code ({ cls := "java/lang/Object", name := "<init>", desc := "()V" } : Jvm.MethodName) object_method_1_code (1 : Nat) (Option.none : Option Jvm.ClassFile.FieldType), Jvm.Cond.code ({ cls := "java/util/Arrays", name := "fill", desc := "([II)V" } : Jvm.MethodName) jdk_65_method_103_code (4 : Nat) (Option.none : Option Jvm.ClassFile.FieldType), Jvm.Cond.code ({ cls := "com/example/stonegaze/stonegaze/Groups", name := "add", desc := "(Lcom/example/stonegaze/stonegaze/Side;IIZ)I" } : Jvm.MethodName) prog_17_method_2_code (5 : Nat) (Option.some Jvm.ClassFile.FieldType.int), Jvm.Cond.code ({ cls := "com/example/stonegaze/stonegaze/Groups", name := "count", desc := "()I" } : Jvm.MethodName) prog_17_method_4_code (1 : Nat) (Option.some Jvm.ClassFile.FieldType.int), Jvm.Cond.code ({ cls := "com/example/stonegaze/stonegaze/Groups", name := "colour", desc := "(I)Lcom/example/stonegaze/stonegaze/Side;" } : Jvm.MethodName) prog_17_method_6_code (2 : Nat) (Option.some (Jvm.ClassFile.FieldType.object "com/example/stonegaze/stonegaze/Side")), Jvm.Cond.code ({ cls := "com/example/stonegaze/stonegaze/Groups", name := "liberties", desc := "(I)I" } : Jvm.MethodName) prog_17_method_8_code (2 : Nat) (Option.some Jvm.ClassFile.FieldType.int), Jvm.Cond.code ({ cls := "com/example/stonegaze/stonegaze/Groups", name := "aLiberty", desc := "(I)I" } : Jvm.MethodName) prog_17_method_9_code (2 : Nat) (Option.some Jvm.ClassFile.FieldType.int), Jvm.Cond.code ({ cls := "com/example/stonegaze/stonegaze/Groups", name := "ringed", desc := "(I)Z" } : Jvm.MethodName) prog_17_method_11_code (2 : Nat) (Option.some Jvm.ClassFile.FieldType.boolean)]
set_option maxRecDepth 65536 in
theorem codes_eq : words1.filter isCode = codes1 := rfl
theorem w_codes : ∀ c ∈ words1.filter isCode, c.before args0 about1 = true := by
  rw [codes_eq]
  intro c hc
  simp only [codes1, List.mem_cons, List.not_mem_nil, or_false] at hc
  rcases hc with rfl | rfl | rfl | rfl | rfl | rfl | rfl | rfl | rfl | rfl
  · exact w_c0
  · exact w_c1
  · exact w_c2
  · exact w_c3
  · exact w_c4
  · exact w_c5
  · exact w_c6
  · exact w_c7
  · exact w_c8
  · exact w_c9
set_option maxRecDepth 65536 in
theorem w_t1 : (words1.take 24).all (fun c => isCode c || c.before args0 about1) = true := by decide +kernel
set_option maxRecDepth 65536 in
theorem w_t2 : ((words1.drop 24).take 24).all (fun c => isCode c || c.before args0 about1) = true := by decide +kernel
set_option maxRecDepth 65536 in
theorem w_t3 : ((words1.drop 24).drop 24).all (fun c => isCode c || c.before args0 about1) = true := by decide +kernel
theorem w_tables : (allAtoms (Jvm.Cond.code x code maxLocals ret :: tables_1)).before args0 about1 = true := by
  rw [allAtoms_all]
  show words1.all (fun c => c.before args0 about1) = true
  refine all_split ?_ w_codes
  rw [← List.take_append_drop 24 words1, List.all_append, w_t1, ← List.take_append_drop 24 (words1.drop 24), List.all_append, w_t2, w_t3]
  rfl
set_option maxRecDepth 65536 in
theorem w_case : (Jvm.Cond.and given_1 narrow_1).before args0 about1 = true := by decide +kernel
theorem w_applies : (headSpec (Jvm.Cond.code x code maxLocals ret :: tables_1) room_1).applies x e0.platform about1 = true :=
  (Spec.applies_iff w_frames).mpr ⟨w_running, w_runnable, w_alone, w_named, w_hears, w_ripe, w_room, w_tables⟩
theorem atStart : AtStart classFile x code maxLocals ret World_1 tables_1 room_1 Calls_1 rest_1 Pre_1 launch0 p0 e0 about1 theMethod args0 below0 :=
  ⟨lists_1, trivial, launch0.admits_env _ _ _, launch0.least_env, fairChoices_fair.cas, fairChoices_fair.clock, w_frames, w_args, w_heap, w_applies, trivial, trivial, w_case⟩
end start1
theorem witness_1 : WitnessClaimed_1 := ⟨start1.p0, start1.e0, start1.about1, start1.theMethod, start1.args0, start1.below0, start1.atStart⟩
end Jvm.Pilot.@@N@@
