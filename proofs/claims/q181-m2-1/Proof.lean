import JvmDerived
import JvmDerived.Pilot.@@N@@Statement
import JvmDerived.Pilot.@@N@@Code
set_option linter.unusedVariables false
set_option linter.unusedSimpArgs false
namespace Jvm.Pilot.@@N@@
open Jvm Jvm.ClassFile Sem Op Lib Jvm.Free Jvm.Stand Jvm.LawKit Jvm.RoadKit Bundle Jvm.Pilot.@@N@@.Jvm.D
/-- the run stands at T' as it stood at T: the heap is the same -/
def Nx {p : Program} {l : Launch} {e : Env} {R : Room} {s : State} {m : MethodId} {args : Array Value} {below : List Frame} {meth : Method} {c : Code} {T : State} {locs : List Loc} {cells slots : Nat} (X : Stand p l e R s m args below meth c T locs cells slots) (T' : State) : Prop := Stand p l e R s m args below meth c T' locs cells slots ∧ T'.heap = T.heap
theorem lq_eq {x y : Int64} (h : x = y) : lcmpW x y = 0 := (lcW x y).trans ((lc_eq x y).mpr h)
theorem lq_ne {x y : Int64} (h : ¬ x = y) : ¬ lcmpW x y = 0 := fun q => h ((lc_eq x y).mp ((lcW x y).symm.trans q))
theorem lq_lt {x y : Int64} (h : x < y) : lcmpW x y < 0 := by rw [lcW]; exact (lc_lt x y).mpr h
theorem lq_nlt {x y : Int64} (h : ¬ x < y) : ¬ lcmpW x y < 0 := by rw [lcW]; exact fun q => h ((lc_lt x y).mp q)
theorem lq_gt {x y : Int64} (h : y < x) : 0 < lcmpW x y := by rw [lcW]; exact (lc_gt x y).mpr h
theorem lq_ngt {x y : Int64} (h : ¬ y < x) : ¬ 0 < lcmpW x y := by rw [lcW]; exact fun q => h ((lc_gt x y).mp q)
theorem own_eqI {args : Array Value} {first s : State} {o : Option Outcome} {idx : List Nat} {t : Term} {k : Int32} (h : (Jvm.Cond.eq t (.int k)).value args first o s idx = some true) : t.eval args first o idx s = some (.int k) := by
  simp only [Cond.value, Term.eval] at h
  cases ht : t.eval args first o idx s with
  | none => simp [ht] at h
  | some x => cases x <;> simp [ht] at h ⊢; exact h
theorem own_eqL {args : Array Value} {first s : State} {o : Option Outcome} {idx : List Nat} {t : Term} {k : Int64} (h : (Jvm.Cond.eq t (.long k)).value args first o s idx = some true) : t.eval args first o idx s = some (.long k) := by
  simp only [Cond.value, Term.eval] at h
  cases ht : t.eval args first o idx s with
  | none => simp [ht] at h
  | some x => cases x <;> simp [ht] at h ⊢; exact h
abbrev jv (x : Int64) : Slot := .val (.long x)
theorem y_iloadN {tb : Tables} [Ours tb] {e : Env} {below : List Frame} {T target : State} {m : MethodId} {c : Code} (h : At T m c below) (hx : tb.exec = Jvm.exec) {pc pc' : Nat} {L : Array Slot} {S : List Value} {k : Fin 4} {v : Int32} (hd : decode c.code pc = .ok (.iload_n k, 1)) (hl : L[k.val]? = some (.val (.int v))) (hp : pc + 1 = pc') (hr : Steps tb e below (T.setTop (mkF m pc' L (.int v :: S))) target) : Steps tb e below (T.setTop (mkF m pc L S)) target := by subst hp; exact XS.iloadN h hx rfl hd hl hr
theorem y_lloadN {tb : Tables} [Ours tb] {e : Env} {below : List Frame} {T target : State} {m : MethodId} {c : Code} (h : At T m c below) (hx : tb.exec = Jvm.exec) {pc pc' : Nat} {L : Array Slot} {S : List Value} {k : Fin 4} {v : Int64} (hd : decode c.code pc = .ok (.lload_n k, 1)) (hl : L[k.val]? = some (.val (.long v))) (hp : pc + 1 = pc') (hr : Steps tb e below (T.setTop (mkF m pc' L (.long v :: S))) target) : Steps tb e below (T.setTop (mkF m pc L S)) target := by subst hp; exact XS.lloadN h hx rfl hd hl hr
theorem y_aloadN {tb : Tables} [Ours tb] {e : Env} {below : List Frame} {T target : State} {m : MethodId} {c : Code} (h : At T m c below) (hx : tb.exec = Jvm.exec) {pc pc' : Nat} {L : Array Slot} {S : List Value} {k : Fin 4} {v : Value} (hd : decode c.code pc = .ok (.aload_n k, 1)) (hl : L[k.val]? = some (.val v)) (hv : v.isRef = true) (hp : pc + 1 = pc') (hr : Steps tb e below (T.setTop (mkF m pc' L (v :: S))) target) : Steps tb e below (T.setTop (mkF m pc L S)) target := by subst hp; exact XS.aloadN h hx rfl hd hl hv hr
theorem y_istoreN {tb : Tables} [Ours tb] {e : Env} {below : List Frame} {T target : State} {m : MethodId} {c : Code} (h : At T m c below) (hx : tb.exec = Jvm.exec) {pc pc' : Nat} {L : Array Slot} {S : List Value} {k : Fin 4} {v : Int32} {l' : Array Slot} (hd : decode c.code pc = .ok (.istore_n k, 1)) (hl : storeLocals L k.val (.int v) = some l') (hp : pc + 1 = pc') (hr : Steps tb e below (T.setTop (mkF m pc' l' S)) target) : Steps tb e below (T.setTop (mkF m pc L (.int v :: S))) target := by subst hp; exact XS.istoreN h hx rfl hd rfl hl hr
theorem y_lstoreN {tb : Tables} [Ours tb] {e : Env} {below : List Frame} {T target : State} {m : MethodId} {c : Code} (h : At T m c below) (hx : tb.exec = Jvm.exec) {pc pc' : Nat} {L : Array Slot} {S : List Value} {k : Fin 4} {v : Int64} {l' : Array Slot} (hd : decode c.code pc = .ok (.lstore_n k, 1)) (hl : storeLocals L k.val (.long v) = some l') (hp : pc + 1 = pc') (hr : Steps tb e below (T.setTop (mkF m pc' l' S)) target) : Steps tb e below (T.setTop (mkF m pc L (.long v :: S))) target := by subst hp; exact XS.lstoreN h hx rfl hd rfl hl hr
theorem y_astoreN {tb : Tables} [Ours tb] {e : Env} {below : List Frame} {T target : State} {m : MethodId} {c : Code} (h : At T m c below) (hx : tb.exec = Jvm.exec) {pc pc' : Nat} {L : Array Slot} {S : List Value} {k : Fin 4} {v : Value} {l' : Array Slot} (hd : decode c.code pc = .ok (.astore_n k, 1)) (hv : v.isRef = true) (hl : storeLocals L k.val v = some l') (hp : pc + 1 = pc') (hr : Steps tb e below (T.setTop (mkF m pc' l' S)) target) : Steps tb e below (T.setTop (mkF m pc L (v :: S))) target := by subst hp; exact XS.astoreN h hx rfl hd rfl hv hl hr
theorem y_iload {tb : Tables} [Ours tb] {e : Env} {below : List Frame} {T target : State} {m : MethodId} {c : Code} (h : At T m c below) (hx : tb.exec = Jvm.exec) {pc pc' : Nat} {L : Array Slot} {S : List Value} {k : Nat} {v : Int32} (hd : decode c.code pc = .ok (.iload k, 2)) (hl : L[k]? = some (.val (.int v))) (hp : pc + 2 = pc') (hr : Steps tb e below (T.setTop (mkF m pc' L (.int v :: S))) target) : Steps tb e below (T.setTop (mkF m pc L S)) target := by subst hp; exact XS.iload h hx rfl hd hl hr
theorem y_lload {tb : Tables} [Ours tb] {e : Env} {below : List Frame} {T target : State} {m : MethodId} {c : Code} (h : At T m c below) (hx : tb.exec = Jvm.exec) {pc pc' : Nat} {L : Array Slot} {S : List Value} {k : Nat} {v : Int64} (hd : decode c.code pc = .ok (.lload k, 2)) (hl : L[k]? = some (.val (.long v))) (hp : pc + 2 = pc') (hr : Steps tb e below (T.setTop (mkF m pc' L (.long v :: S))) target) : Steps tb e below (T.setTop (mkF m pc L S)) target := by subst hp; exact XS.lload h hx rfl hd hl hr
theorem y_aload {tb : Tables} [Ours tb] {e : Env} {below : List Frame} {T target : State} {m : MethodId} {c : Code} (h : At T m c below) (hx : tb.exec = Jvm.exec) {pc pc' : Nat} {L : Array Slot} {S : List Value} {k : Nat} {v : Value} (hd : decode c.code pc = .ok (.aload k, 2)) (hl : L[k]? = some (.val v)) (hv : v.isRef = true) (hp : pc + 2 = pc') (hr : Steps tb e below (T.setTop (mkF m pc' L (v :: S))) target) : Steps tb e below (T.setTop (mkF m pc L S)) target := by subst hp; exact XS.aload h hx rfl hd hl hv hr
theorem y_istore {tb : Tables} [Ours tb] {e : Env} {below : List Frame} {T target : State} {m : MethodId} {c : Code} (h : At T m c below) (hx : tb.exec = Jvm.exec) {pc pc' : Nat} {L : Array Slot} {S : List Value} {k : Nat} {v : Int32} {l' : Array Slot} (hd : decode c.code pc = .ok (.istore k, 2)) (hl : storeLocals L k (.int v) = some l') (hp : pc + 2 = pc') (hr : Steps tb e below (T.setTop (mkF m pc' l' S)) target) : Steps tb e below (T.setTop (mkF m pc L (.int v :: S))) target := by subst hp; exact XS.istore h hx rfl hd rfl hl hr
theorem y_lstore {tb : Tables} [Ours tb] {e : Env} {below : List Frame} {T target : State} {m : MethodId} {c : Code} (h : At T m c below) (hx : tb.exec = Jvm.exec) {pc pc' : Nat} {L : Array Slot} {S : List Value} {k : Nat} {v : Int64} {l' : Array Slot} (hd : decode c.code pc = .ok (.lstore k, 2)) (hl : storeLocals L k (.long v) = some l') (hp : pc + 2 = pc') (hr : Steps tb e below (T.setTop (mkF m pc' l' S)) target) : Steps tb e below (T.setTop (mkF m pc L (.long v :: S))) target := by subst hp; exact XS.lstore h hx rfl hd rfl hl hr
theorem y_astore {tb : Tables} [Ours tb] {e : Env} {below : List Frame} {T target : State} {m : MethodId} {c : Code} (h : At T m c below) (hx : tb.exec = Jvm.exec) {pc pc' : Nat} {L : Array Slot} {S : List Value} {k : Nat} {v : Value} {l' : Array Slot} (hd : decode c.code pc = .ok (.astore k, 2)) (hv : v.isRef = true) (hl : storeLocals L k v = some l') (hp : pc + 2 = pc') (hr : Steps tb e below (T.setTop (mkF m pc' l' S)) target) : Steps tb e below (T.setTop (mkF m pc L (v :: S))) target := by subst hp; exact XS.astore h hx rfl hd rfl hv hl hr
theorem y_iconst {tb : Tables} [Ours tb] {e : Env} {below : List Frame} {T target : State} {m : MethodId} {c : Code} (h : At T m c below) (hx : tb.exec = Jvm.exec) {pc pc' : Nat} {L : Array Slot} {S : List Value} {i : Int} {v : Int32} (hd : decode c.code pc = .ok (.iconst i, 1)) (hv : Int32.ofInt i = v) (hp : pc + 1 = pc') (hr : Steps tb e below (T.setTop (mkF m pc' L (.int v :: S))) target) : Steps tb e below (T.setTop (mkF m pc L S)) target := by subst hp; exact XS.iconst h hx rfl hd (by rw [hv]; exact hr)
theorem y_bipush {tb : Tables} [Ours tb] {e : Env} {below : List Frame} {T target : State} {m : MethodId} {c : Code} (h : At T m c below) (hx : tb.exec = Jvm.exec) {pc pc' : Nat} {L : Array Slot} {S : List Value} {i : Int} {v : Int32} (hd : decode c.code pc = .ok (.bipush i, 2)) (hv : (Int8.ofInt i).toInt32 = v) (hp : pc + 2 = pc') (hr : Steps tb e below (T.setTop (mkF m pc' L (.int v :: S))) target) : Steps tb e below (T.setTop (mkF m pc L S)) target := by subst hp; exact XS.bipush h hx rfl hd (by rw [hv]; exact hr)
theorem y_sipush {tb : Tables} [Ours tb] {e : Env} {below : List Frame} {T target : State} {m : MethodId} {c : Code} (h : At T m c below) (hx : tb.exec = Jvm.exec) {pc pc' : Nat} {L : Array Slot} {S : List Value} {i : Int} {v : Int32} (hd : decode c.code pc = .ok (.sipush i, 3)) (hv : (Int16.ofInt i).toInt32 = v) (hp : pc + 3 = pc') (hr : Steps tb e below (T.setTop (mkF m pc' L (.int v :: S))) target) : Steps tb e below (T.setTop (mkF m pc L S)) target := by subst hp; exact XS.sipush h hx rfl hd (by rw [hv]; exact hr)
theorem y_lconst {tb : Tables} [Ours tb] {e : Env} {below : List Frame} {T target : State} {m : MethodId} {c : Code} (h : At T m c below) (hx : tb.exec = Jvm.exec) {pc pc' : Nat} {L : Array Slot} {S : List Value} {k : Fin 2} {v : Int64} (hd : decode c.code pc = .ok (.lconst k, 1)) (hv : Int64.ofNat k.val = v) (hp : pc + 1 = pc') (hr : Steps tb e below (T.setTop (mkF m pc' L (.long v :: S))) target) : Steps tb e below (T.setTop (mkF m pc L S)) target := by subst hp; exact XS.lconst h hx rfl hd (by first | exact hv ▸ hr | (rw [hv]; exact hr) | (subst hv; exact hr))
theorem y_aconstNull {tb : Tables} [Ours tb] {e : Env} {below : List Frame} {T target : State} {m : MethodId} {c : Code} (h : At T m c below) (hx : tb.exec = Jvm.exec) {pc pc' : Nat} {L : Array Slot} {S : List Value} (hd : decode c.code pc = .ok (.aconst_null, 1)) (hp : pc + 1 = pc') (hr : Steps tb e below (T.setTop (mkF m pc' L (.null :: S))) target) : Steps tb e below (T.setTop (mkF m pc L S)) target := by subst hp; exact XS.aconstNull h hx rfl hd hr
theorem y_iadd {tb : Tables} [Ours tb] {e : Env} {below : List Frame} {T target : State} {m : MethodId} {c : Code} (h : At T m c below) (hx : tb.exec = Jvm.exec) {pc pc' : Nat} {L : Array Slot} {S : List Value} {x y z : Int32} (hd : decode c.code pc = .ok (.iadd, 1)) (hz : x + y = z) (hp : pc + 1 = pc') (hr : Steps tb e below (T.setTop (mkF m pc' L (.int z :: S))) target) : Steps tb e below (T.setTop (mkF m pc L (.int y :: .int x :: S))) target := by subst hp; exact XS.iadd h hx rfl hd rfl (by rw [hz]; exact hr)
theorem y_isub {tb : Tables} [Ours tb] {e : Env} {below : List Frame} {T target : State} {m : MethodId} {c : Code} (h : At T m c below) (hx : tb.exec = Jvm.exec) {pc pc' : Nat} {L : Array Slot} {S : List Value} {x y z : Int32} (hd : decode c.code pc = .ok (.isub, 1)) (hz : x - y = z) (hp : pc + 1 = pc') (hr : Steps tb e below (T.setTop (mkF m pc' L (.int z :: S))) target) : Steps tb e below (T.setTop (mkF m pc L (.int y :: .int x :: S))) target := by subst hp; exact XS.isub h hx rfl hd rfl (by rw [hz]; exact hr)
theorem y_imul {tb : Tables} [Ours tb] {e : Env} {below : List Frame} {T target : State} {m : MethodId} {c : Code} (h : At T m c below) (hx : tb.exec = Jvm.exec) {pc pc' : Nat} {L : Array Slot} {S : List Value} {x y z : Int32} (hd : decode c.code pc = .ok (.imul, 1)) (hz : x * y = z) (hp : pc + 1 = pc') (hr : Steps tb e below (T.setTop (mkF m pc' L (.int z :: S))) target) : Steps tb e below (T.setTop (mkF m pc L (.int y :: .int x :: S))) target := by subst hp; exact XS.imul h hx rfl hd rfl (by rw [hz]; exact hr)
theorem y_iand {tb : Tables} [Ours tb] {e : Env} {below : List Frame} {T target : State} {m : MethodId} {c : Code} (h : At T m c below) (hx : tb.exec = Jvm.exec) {pc pc' : Nat} {L : Array Slot} {S : List Value} {x y z : Int32} (hd : decode c.code pc = .ok (.iand, 1)) (hz : x &&& y = z) (hp : pc + 1 = pc') (hr : Steps tb e below (T.setTop (mkF m pc' L (.int z :: S))) target) : Steps tb e below (T.setTop (mkF m pc L (.int y :: .int x :: S))) target := by subst hp; exact XS.iand h hx rfl hd rfl (by rw [hz]; exact hr)
theorem y_ior {tb : Tables} [Ours tb] {e : Env} {below : List Frame} {T target : State} {m : MethodId} {c : Code} (h : At T m c below) (hx : tb.exec = Jvm.exec) {pc pc' : Nat} {L : Array Slot} {S : List Value} {x y z : Int32} (hd : decode c.code pc = .ok (.ior, 1)) (hz : x ||| y = z) (hp : pc + 1 = pc') (hr : Steps tb e below (T.setTop (mkF m pc' L (.int z :: S))) target) : Steps tb e below (T.setTop (mkF m pc L (.int y :: .int x :: S))) target := by subst hp; exact XS.ior h hx rfl hd rfl (by rw [hz]; exact hr)
theorem y_ixor {tb : Tables} [Ours tb] {e : Env} {below : List Frame} {T target : State} {m : MethodId} {c : Code} (h : At T m c below) (hx : tb.exec = Jvm.exec) {pc pc' : Nat} {L : Array Slot} {S : List Value} {x y z : Int32} (hd : decode c.code pc = .ok (.ixor, 1)) (hz : x ^^^ y = z) (hp : pc + 1 = pc') (hr : Steps tb e below (T.setTop (mkF m pc' L (.int z :: S))) target) : Steps tb e below (T.setTop (mkF m pc L (.int y :: .int x :: S))) target := by subst hp; exact XS.ixor h hx rfl hd rfl (by rw [hz]; exact hr)
theorem y_ladd {tb : Tables} [Ours tb] {e : Env} {below : List Frame} {T target : State} {m : MethodId} {c : Code} (h : At T m c below) (hx : tb.exec = Jvm.exec) {pc pc' : Nat} {L : Array Slot} {S : List Value} {x y z : Int64} (hd : decode c.code pc = .ok (.ladd, 1)) (hz : x + y = z) (hp : pc + 1 = pc') (hr : Steps tb e below (T.setTop (mkF m pc' L (.long z :: S))) target) : Steps tb e below (T.setTop (mkF m pc L (.long y :: .long x :: S))) target := by subst hp; exact XS.ladd h hx rfl hd rfl (by rw [hz]; exact hr)
theorem y_lsub {tb : Tables} [Ours tb] {e : Env} {below : List Frame} {T target : State} {m : MethodId} {c : Code} (h : At T m c below) (hx : tb.exec = Jvm.exec) {pc pc' : Nat} {L : Array Slot} {S : List Value} {x y z : Int64} (hd : decode c.code pc = .ok (.lsub, 1)) (hz : x - y = z) (hp : pc + 1 = pc') (hr : Steps tb e below (T.setTop (mkF m pc' L (.long z :: S))) target) : Steps tb e below (T.setTop (mkF m pc L (.long y :: .long x :: S))) target := by subst hp; exact XS.lsub h hx rfl hd rfl (by rw [hz]; exact hr)
theorem y_lmul {tb : Tables} [Ours tb] {e : Env} {below : List Frame} {T target : State} {m : MethodId} {c : Code} (h : At T m c below) (hx : tb.exec = Jvm.exec) {pc pc' : Nat} {L : Array Slot} {S : List Value} {x y z : Int64} (hd : decode c.code pc = .ok (.lmul, 1)) (hz : x * y = z) (hp : pc + 1 = pc') (hr : Steps tb e below (T.setTop (mkF m pc' L (.long z :: S))) target) : Steps tb e below (T.setTop (mkF m pc L (.long y :: .long x :: S))) target := by subst hp; exact XS.lmul h hx rfl hd rfl (by rw [hz]; exact hr)
theorem y_land {tb : Tables} [Ours tb] {e : Env} {below : List Frame} {T target : State} {m : MethodId} {c : Code} (h : At T m c below) (hx : tb.exec = Jvm.exec) {pc pc' : Nat} {L : Array Slot} {S : List Value} {x y z : Int64} (hd : decode c.code pc = .ok (.land, 1)) (hz : x &&& y = z) (hp : pc + 1 = pc') (hr : Steps tb e below (T.setTop (mkF m pc' L (.long z :: S))) target) : Steps tb e below (T.setTop (mkF m pc L (.long y :: .long x :: S))) target := by subst hp; exact XS.land h hx rfl hd rfl (by rw [hz]; exact hr)
theorem y_lor {tb : Tables} [Ours tb] {e : Env} {below : List Frame} {T target : State} {m : MethodId} {c : Code} (h : At T m c below) (hx : tb.exec = Jvm.exec) {pc pc' : Nat} {L : Array Slot} {S : List Value} {x y z : Int64} (hd : decode c.code pc = .ok (.lor, 1)) (hz : x ||| y = z) (hp : pc + 1 = pc') (hr : Steps tb e below (T.setTop (mkF m pc' L (.long z :: S))) target) : Steps tb e below (T.setTop (mkF m pc L (.long y :: .long x :: S))) target := by subst hp; exact XS.lor h hx rfl hd rfl (by rw [hz]; exact hr)
theorem y_lxor {tb : Tables} [Ours tb] {e : Env} {below : List Frame} {T target : State} {m : MethodId} {c : Code} (h : At T m c below) (hx : tb.exec = Jvm.exec) {pc pc' : Nat} {L : Array Slot} {S : List Value} {x y z : Int64} (hd : decode c.code pc = .ok (.lxor, 1)) (hz : x ^^^ y = z) (hp : pc + 1 = pc') (hr : Steps tb e below (T.setTop (mkF m pc' L (.long z :: S))) target) : Steps tb e below (T.setTop (mkF m pc L (.long y :: .long x :: S))) target := by subst hp; exact XS.lxor h hx rfl hd rfl (by rw [hz]; exact hr)
theorem y_ineg {tb : Tables} [Ours tb] {e : Env} {below : List Frame} {T target : State} {m : MethodId} {c : Code} (h : At T m c below) (hx : tb.exec = Jvm.exec) {pc pc' : Nat} {L : Array Slot} {S : List Value} {x : Int32} {z : Int32} (hd : decode c.code pc = .ok (.ineg, 1)) (hz : -x = z) (hp : pc + 1 = pc') (hr : Steps tb e below (T.setTop (mkF m pc' L (.int z :: S))) target) : Steps tb e below (T.setTop (mkF m pc L (.int x :: S))) target := by subst hp; exact XS.ineg h hx rfl hd rfl (by subst hz; exact hr)
theorem y_lneg {tb : Tables} [Ours tb] {e : Env} {below : List Frame} {T target : State} {m : MethodId} {c : Code} (h : At T m c below) (hx : tb.exec = Jvm.exec) {pc pc' : Nat} {L : Array Slot} {S : List Value} {x : Int64} {z : Int64} (hd : decode c.code pc = .ok (.lneg, 1)) (hz : -x = z) (hp : pc + 1 = pc') (hr : Steps tb e below (T.setTop (mkF m pc' L (.long z :: S))) target) : Steps tb e below (T.setTop (mkF m pc L (.long x :: S))) target := by subst hp; exact XS.lneg h hx rfl hd rfl (by subst hz; exact hr)
theorem y_i2l {tb : Tables} [Ours tb] {e : Env} {below : List Frame} {T target : State} {m : MethodId} {c : Code} (h : At T m c below) (hx : tb.exec = Jvm.exec) {pc pc' : Nat} {L : Array Slot} {S : List Value} {x : Int32} {z : Int64} (hd : decode c.code pc = .ok (.i2l, 1)) (hz : x.toInt64 = z) (hp : pc + 1 = pc') (hr : Steps tb e below (T.setTop (mkF m pc' L (.long z :: S))) target) : Steps tb e below (T.setTop (mkF m pc L (.int x :: S))) target := by subst hp; exact XS.i2l h hx rfl hd rfl (by subst hz; exact hr)
theorem y_l2i {tb : Tables} [Ours tb] {e : Env} {below : List Frame} {T target : State} {m : MethodId} {c : Code} (h : At T m c below) (hx : tb.exec = Jvm.exec) {pc pc' : Nat} {L : Array Slot} {S : List Value} {x : Int64} {z : Int32} (hd : decode c.code pc = .ok (.l2i, 1)) (hz : x.toInt32 = z) (hp : pc + 1 = pc') (hr : Steps tb e below (T.setTop (mkF m pc' L (.int z :: S))) target) : Steps tb e below (T.setTop (mkF m pc L (.long x :: S))) target := by subst hp; exact XS.l2i h hx rfl hd rfl (by subst hz; exact hr)
theorem y_i2b {tb : Tables} [Ours tb] {e : Env} {below : List Frame} {T target : State} {m : MethodId} {c : Code} (h : At T m c below) (hx : tb.exec = Jvm.exec) {pc pc' : Nat} {L : Array Slot} {S : List Value} {x : Int32} {z : Int32} (hd : decode c.code pc = .ok (.i2b, 1)) (hz : x.toInt8.toInt32 = z) (hp : pc + 1 = pc') (hr : Steps tb e below (T.setTop (mkF m pc' L (.int z :: S))) target) : Steps tb e below (T.setTop (mkF m pc L (.int x :: S))) target := by subst hp; exact XS.i2b h hx rfl hd rfl (by subst hz; exact hr)
theorem y_i2s {tb : Tables} [Ours tb] {e : Env} {below : List Frame} {T target : State} {m : MethodId} {c : Code} (h : At T m c below) (hx : tb.exec = Jvm.exec) {pc pc' : Nat} {L : Array Slot} {S : List Value} {x : Int32} {z : Int32} (hd : decode c.code pc = .ok (.i2s, 1)) (hz : x.toInt16.toInt32 = z) (hp : pc + 1 = pc') (hr : Steps tb e below (T.setTop (mkF m pc' L (.int z :: S))) target) : Steps tb e below (T.setTop (mkF m pc L (.int x :: S))) target := by subst hp; exact XS.i2s h hx rfl hd rfl (by subst hz; exact hr)
theorem y_i2c {tb : Tables} [Ours tb] {e : Env} {below : List Frame} {T target : State} {m : MethodId} {c : Code} (h : At T m c below) (hx : tb.exec = Jvm.exec) {pc pc' : Nat} {L : Array Slot} {S : List Value} {x : Int32} {z : Int32} (hd : decode c.code pc = .ok (.i2c, 1)) (hz : x.toUInt32.toUInt16.toUInt32.toInt32 = z) (hp : pc + 1 = pc') (hr : Steps tb e below (T.setTop (mkF m pc' L (.int z :: S))) target) : Steps tb e below (T.setTop (mkF m pc L (.int x :: S))) target := by subst hp; exact XS.i2c h hx rfl hd rfl (by subst hz; exact hr)
theorem y_ishl {tb : Tables} [Ours tb] {e : Env} {below : List Frame} {T target : State} {m : MethodId} {c : Code} (h : At T m c below) (hx : tb.exec = Jvm.exec) {pc pc' : Nat} {L : Array Slot} {S : List Value} {x z : Int32} {y : Int32} (hd : decode c.code pc = .ok (.ishl, 1)) (hz : (x <<< (y &&& 31)) = z) (hp : pc + 1 = pc') (hr : Steps tb e below (T.setTop (mkF m pc' L (.int z :: S))) target) : Steps tb e below (T.setTop (mkF m pc L (.int y :: .int x :: S))) target := by subst hp; exact XS.ishl h hx rfl hd rfl (by subst hz; exact hr)
theorem y_ishr {tb : Tables} [Ours tb] {e : Env} {below : List Frame} {T target : State} {m : MethodId} {c : Code} (h : At T m c below) (hx : tb.exec = Jvm.exec) {pc pc' : Nat} {L : Array Slot} {S : List Value} {x z : Int32} {y : Int32} (hd : decode c.code pc = .ok (.ishr, 1)) (hz : (x >>> (y &&& 31)) = z) (hp : pc + 1 = pc') (hr : Steps tb e below (T.setTop (mkF m pc' L (.int z :: S))) target) : Steps tb e below (T.setTop (mkF m pc L (.int y :: .int x :: S))) target := by subst hp; exact XS.ishr h hx rfl hd rfl (by subst hz; exact hr)
theorem y_iushr {tb : Tables} [Ours tb] {e : Env} {below : List Frame} {T target : State} {m : MethodId} {c : Code} (h : At T m c below) (hx : tb.exec = Jvm.exec) {pc pc' : Nat} {L : Array Slot} {S : List Value} {x z : Int32} {y : Int32} (hd : decode c.code pc = .ok (.iushr, 1)) (hz : ((x.toUInt32 >>> (y &&& 31).toUInt32).toInt32) = z) (hp : pc + 1 = pc') (hr : Steps tb e below (T.setTop (mkF m pc' L (.int z :: S))) target) : Steps tb e below (T.setTop (mkF m pc L (.int y :: .int x :: S))) target := by subst hp; exact XS.iushr h hx rfl hd rfl (by subst hz; exact hr)
theorem y_lshl {tb : Tables} [Ours tb] {e : Env} {below : List Frame} {T target : State} {m : MethodId} {c : Code} (h : At T m c below) (hx : tb.exec = Jvm.exec) {pc pc' : Nat} {L : Array Slot} {S : List Value} {x z : Int64} {y : Int32} (hd : decode c.code pc = .ok (.lshl, 1)) (hz : (x <<< (y &&& 0x3f).toInt64) = z) (hp : pc + 1 = pc') (hr : Steps tb e below (T.setTop (mkF m pc' L (.long z :: S))) target) : Steps tb e below (T.setTop (mkF m pc L (.int y :: .long x :: S))) target := by subst hp; exact XS.lshl h hx rfl hd rfl (by subst hz; exact hr)
theorem y_lshr {tb : Tables} [Ours tb] {e : Env} {below : List Frame} {T target : State} {m : MethodId} {c : Code} (h : At T m c below) (hx : tb.exec = Jvm.exec) {pc pc' : Nat} {L : Array Slot} {S : List Value} {x z : Int64} {y : Int32} (hd : decode c.code pc = .ok (.lshr, 1)) (hz : (x >>> (y &&& 0x3f).toInt64) = z) (hp : pc + 1 = pc') (hr : Steps tb e below (T.setTop (mkF m pc' L (.long z :: S))) target) : Steps tb e below (T.setTop (mkF m pc L (.int y :: .long x :: S))) target := by subst hp; exact XS.lshr h hx rfl hd rfl (by subst hz; exact hr)
theorem y_lushr {tb : Tables} [Ours tb] {e : Env} {below : List Frame} {T target : State} {m : MethodId} {c : Code} (h : At T m c below) (hx : tb.exec = Jvm.exec) {pc pc' : Nat} {L : Array Slot} {S : List Value} {x z : Int64} {y : Int32} (hd : decode c.code pc = .ok (.lushr, 1)) (hz : ((x.toUInt64 >>> (y &&& 0x3f).toInt64.toUInt64).toInt64) = z) (hp : pc + 1 = pc') (hr : Steps tb e below (T.setTop (mkF m pc' L (.long z :: S))) target) : Steps tb e below (T.setTop (mkF m pc L (.int y :: .long x :: S))) target := by subst hp; exact XS.lushr h hx rfl hd rfl (by subst hz; exact hr)
theorem y_lcmp {tb : Tables} [Ours tb] {e : Env} {below : List Frame} {T target : State} {m : MethodId} {c : Code} (h : At T m c below) (hx : tb.exec = Jvm.exec) {pc pc' : Nat} {L : Array Slot} {S : List Value} {x y : Int64} (hd : decode c.code pc = .ok (.lcmp, 1)) (hp : pc + 1 = pc') (hr : Steps tb e below (T.setTop (mkF m pc' L (.int (lcmpW x y) :: S))) target) : Steps tb e below (T.setTop (mkF m pc L (.long y :: .long x :: S))) target := by subst hp; exact XS.lcmp h hx rfl hd rfl hr
theorem y_iinc {tb : Tables} [Ours tb] {e : Env} {below : List Frame} {T target : State} {m : MethodId} {c : Code} (h : At T m c below) (hx : tb.exec = Jvm.exec) {pc pc' : Nat} {L : Array Slot} {S : List Value} {k : Nat} {cst : Int} {x : Int32} {l' : Array Slot} (hd : decode c.code pc = .ok (.iinc k cst, 3)) (hl : L[k]? = some (.val (.int x))) (hl' : storeLocals L k (.int (x + Int32.ofInt cst)) = some l') (hp : pc + 3 = pc') (hr : Steps tb e below (T.setTop (mkF m pc' l' S)) target) : Steps tb e below (T.setTop (mkF m pc L S)) target := by subst hp; exact XS.iinc h hx rfl hd hl hl' hr
theorem y_dup {tb : Tables} [Ours tb] {e : Env} {below : List Frame} {T target : State} {m : MethodId} {c : Code} (h : At T m c below) (hx : tb.exec = Jvm.exec) {pc pc' : Nat} {L : Array Slot} {S : List Value} {v : Value} (hd : decode c.code pc = .ok (.dup, 1)) (hc : v.category = 1) (hp : pc + 1 = pc') (hr : Steps tb e below (T.setTop (mkF m pc' L (v :: v :: S))) target) : Steps tb e below (T.setTop (mkF m pc L (v :: S))) target := by subst hp; exact XS.dup h hx rfl hd rfl hc hr
theorem y_goto {tb : Tables} [Ours tb] {e : Env} {below : List Frame} {T target : State} {m : MethodId} {c : Code} (h : At T m c below) (hx : tb.exec = Jvm.exec) {pc pc' : Nat} {L : Array Slot} {S : List Value} {o : Int} (hd : decode c.code pc = .ok (.goto o, 3)) (ho : 0 ≤ (pc : Int) + o) (hp : ((pc : Int) + o).toNat = pc') (hr : Steps tb e below (T.setTop (mkF m pc' L S)) target) : Steps tb e below (T.setTop (mkF m pc L S)) target := XS.goto h hx rfl rfl hd ho hp hr
theorem y_ifYes {tb : Tables} [Ours tb] {e : Env} {below : List Frame} {T target : State} {m : MethodId} {c : Code} (h : At T m c below) (hx : tb.exec = Jvm.exec) {pc pc' : Nat} {L : Array Slot} {S : List Value} {cd : ClassFile.Cond} {x : Int32} {o : Int} (hd : decode c.code pc = .ok (.ifCond cd o, 3)) (hc : ifCond.holds cd x = true) (ho : 0 ≤ (pc : Int) + o) (hp : ((pc : Int) + o).toNat = pc') (hr : Steps tb e below (T.setTop (mkF m pc' L S)) target) : Steps tb e below (T.setTop (mkF m pc L (.int x :: S))) target := XS.ifYes h hx rfl rfl hd rfl hc ho hp hr
theorem y_ifNo {tb : Tables} [Ours tb] {e : Env} {below : List Frame} {T target : State} {m : MethodId} {c : Code} (h : At T m c below) (hx : tb.exec = Jvm.exec) {pc pc' : Nat} {L : Array Slot} {S : List Value} {cd : ClassFile.Cond} {x : Int32} {o : Int} (hd : decode c.code pc = .ok (.ifCond cd o, 3)) (hc : ifCond.holds cd x = false) (hp : pc + 3 = pc') (hr : Steps tb e below (T.setTop (mkF m pc' L S)) target) : Steps tb e below (T.setTop (mkF m pc L (.int x :: S))) target := by subst hp; exact XS.ifNo h hx rfl hd rfl hc hr
theorem y_icmpYes {tb : Tables} [Ours tb] {e : Env} {below : List Frame} {T target : State} {m : MethodId} {c : Code} (h : At T m c below) (hx : tb.exec = Jvm.exec) {pc pc' : Nat} {L : Array Slot} {S : List Value} {cd : ClassFile.Cond} {x y : Int32} {o : Int} (hd : decode c.code pc = .ok (.if_icmp cd o, 3)) (hc : if_icmp.holds cd x y = true) (ho : 0 ≤ (pc : Int) + o) (hp : ((pc : Int) + o).toNat = pc') (hr : Steps tb e below (T.setTop (mkF m pc' L S)) target) : Steps tb e below (T.setTop (mkF m pc L (.int y :: .int x :: S))) target := XS.icmpYes h hx rfl rfl hd rfl hc ho hp hr
theorem y_icmpNo {tb : Tables} [Ours tb] {e : Env} {below : List Frame} {T target : State} {m : MethodId} {c : Code} (h : At T m c below) (hx : tb.exec = Jvm.exec) {pc pc' : Nat} {L : Array Slot} {S : List Value} {cd : ClassFile.Cond} {x y : Int32} {o : Int} (hd : decode c.code pc = .ok (.if_icmp cd o, 3)) (hc : if_icmp.holds cd x y = false) (hp : pc + 3 = pc') (hr : Steps tb e below (T.setTop (mkF m pc' L S)) target) : Steps tb e below (T.setTop (mkF m pc L (.int y :: .int x :: S))) target := by subst hp; exact XS.icmpNo h hx rfl hd rfl hc hr
theorem own_nar01 {x : Int32} (h : x = 0 ∨ x = 1) : nar .boolean x = x := by rcases h with rfl | rfl <;> rfl
theorem own_ite01 {c : Prop} [Decidable c] : (if c then (0 : Int32) else (1 : Int32)) = 0 ∨ (if c then (0 : Int32) else (1 : Int32)) = 1 := by split <;> simp
theorem own_narI {c : Prop} [Decidable c] : nar .boolean (if c then (1 : Int32) else (0 : Int32)) = (if c then (1 : Int32) else (0 : Int32)) := by split <;> rfl
theorem own_of {x k : Int32} (h : x.toInt = k.toInt) : x = k := Int32.toInt_inj.mp h
theorem own_and3 (k : Int32) : k &&& 3 = 0 ∨ k &&& 3 = 1 ∨ k &&& 3 = 2 ∨ k &&& 3 = 3 := by
  have q : (k &&& 3).toInt = k.toInt % 4 := c_mask k 3 2 (by decide) (by decide)
  generalize k &&& 3 = x at q ⊢
  have : x.toInt = 0 ∨ x.toInt = 1 ∨ x.toInt = 2 ∨ x.toInt = 3 := by omega
  rcases this with h | h | h | h
  · exact Or.inl (own_of h)
  · exact Or.inr (Or.inl (own_of h))
  · exact Or.inr (Or.inr (Or.inl (own_of h)))
  · exact Or.inr (Or.inr (Or.inr (own_of h)))
theorem d1_0 : decode method_2_code 0 = .ok (.iload_n 0, 1) := by decide +kernel
theorem d1_1 : decode method_2_code 1 = .ok (.ifCond .ne 5, 3) := by decide +kernel
theorem d1_4 : decode method_2_code 4 = .ok (.iconst 1, 1) := by decide +kernel
theorem d1_5 : decode method_2_code 5 = .ok (.ireturn, 1) := by decide +kernel
theorem d1_6 : decode method_2_code 6 = .ok (.iload_n 0, 1) := by decide +kernel
theorem d1_7 : decode method_2_code 7 = .ok (.iconst 1, 1) := by decide +kernel
theorem d1_8 : decode method_2_code 8 = .ok (.if_icmp .ne 5, 3) := by decide +kernel
theorem d1_11 : decode method_2_code 11 = .ok (.iconst 0, 1) := by decide +kernel
theorem d1_12 : decode method_2_code 12 = .ok (.ireturn, 1) := by decide +kernel
theorem d1_13 : decode method_2_code 13 = .ok (.iload_n 0, 1) := by decide +kernel
theorem d1_14 : decode method_2_code 14 = .ok (.iconst 2, 1) := by decide +kernel
theorem d1_15 : decode method_2_code 15 = .ok (.if_icmp .ne 5, 3) := by decide +kernel
theorem d1_18 : decode method_2_code 18 = .ok (.iconst 2, 1) := by decide +kernel
theorem d1_19 : decode method_2_code 19 = .ok (.ireturn, 1) := by decide +kernel
theorem d1_20 : decode method_2_code 20 = .ok (.iload_n 1, 1) := by decide +kernel
theorem d1_21 : decode method_2_code 21 = .ok (.ireturn, 1) := by decide +kernel
theorem pn_com_example_stonegaze_stonegaze_GroupsInAtariPinLaw : plainName "com/example/stonegaze/stonegaze/GroupsInAtariPinLaw" = true := by first | (simp [plainName, overriddenIn]; done) | decide +kernel
theorem ef_1 (m : MethodId) (x0 : Int32) (x1 : Int32) : entryFrame m #[(.int x0), (.int x1)] 2 = mkF m 0 #[iv x0, iv x1] [] := by first | (simp [entryFrame, mkF, argsToLocals, Value.category]; done) | rfl
def Q1 (Z : State) (pi0 : Int32) (pi1 : Int32) (h0 : Heap) (n0 : Nat) (v : Option Value) (h : Heap) (L : List Loc) : Prop := v = some (.int (if pi0 = (0 : Int32) then (1 : Int32) else (if pi0 = (1 : Int32) then (0 : Int32) else (if pi0 = (2 : Int32) then (2 : Int32) else pi1)))) ∧ Fr n0 L ∧ h = h0
set_option maxRecDepth 65536 in
set_option maxHeartbeats 40000000 in
theorem rm1 (l : Launch) (Z : State) (a0 : Array Value) (hw : ∀ d ∈ tables_1, d.before a0 Z = true) (ws : List Jvm.Cond) (pi0 : Int32) (pi1 : Int32) (h0 : Heap) (n0 : Nat) (O0 : Old Z n0 h0) :
    MetFree l (⟨"com/example/stonegaze/stonegaze/GroupsInAtariPinLaw", "pick", "(II)I"⟩ : MethodName) (head1 (Jvm.Cond.code (⟨"com/example/stonegaze/stonegaze/GroupsInAtariPinLaw", "pick", "(II)I"⟩ : MethodName) method_2_code 2 (some .int) :: ws) ({ frames := 0, cells := 0, slots := 0, locals := 0 } : Room)) (fun a U => a = #[(.int pi0), (.int pi1)] ∧ Z.Warmed39 U.vm ∧ U.heap = h0) (fun _ _ _ _ _ => True) (fun _ U o U' => ∃ v L, o = .returned v ∧ Q1 Z pi0 pi1 h0 n0 v U'.heap L ∧ FrameEnd U o U' L ({ frames := 0, cells := 0, slots := 0, locals := 0 } : Room).cells ({ frames := 0, cells := 0, slots := 0, locals := 0 } : Room).slots) := by
  refine MetFree.of_bodySF (plainFor_of_name pn_com_example_stonegaze_stonegaze_GroupsInAtariPinLaw) hisR ?_
  intro p e s m args below meth c s₁ Bd hml0 hP hK
  obtain ⟨rfl, hZ, hh⟩ := hP
  have hx := Bd.exec
  have hby := Bd.bytes
  have hml : c.maxLocals = 2 := hml0
  have hown : s.vm.findClass "com/example/stonegaze/stonegaze/GroupsInAtariPinLaw" = some m.cls := findClass_of_methodNamed Bd.named
  have hnm := (name_of_methodNamed Bd.named Bd.method).1
  have X0 : Stand p l e ({ frames := 0, cells := 0, slots := 0, locals := 0 } : Room) s m #[(.int pi0), (.int pi1)] below meth c s₁ [] 0 0 := Stand.of_body Bd
  have e0 : s₁.heap = h0 := by rw [← hh, Bd.state]; rfl
  have N0 := Fr.nil n0
  obtain ⟨Go, hGo⟩ : ∃ P : State → Prop, ∀ t, P t ↔ Steps p.tables e below (s₁.setTop (entryFrame m #[(.int pi0), (.int pi1)] 2)) t := ⟨_, fun _ => Iff.rfl⟩
  have pre0 : ∀ t, Steps p.tables e below (s₁.setTop (mkF m 0 #[iv pi0, iv pi1] [])) t → Go t := fun t k => (hGo t).mpr (castTop (ef_1 m pi0 pi1) k)
  have pre1 : ∀ t, Steps p.tables e below (s₁.setTop (mkF m 1 #[iv pi0, iv pi1] [(.int pi0)])) t → Go t := fun t kt => pre0 t (by
      refine y_iloadN X0.here hx (hb hby d1_0) rfl (pc' := 1) rfl ?_
      exact kt)
  by_cases hc1_2 : pi0 = (0 : Int32)
  · have pre3 : ∀ t, Steps p.tables e below (s₁.setTop (mkF m 5 #[iv pi0, iv pi1] [(.int (1 : Int32))])) t → Go t := fun t kt => pre1 t (by
        refine y_ifNo X0.here hx (hb hby d1_1) ((if0 _ _).trans (teq hc1_2).2) (pc' := 4) rfl ?_
        refine y_iconst X0.here hx (hb hby d1_4) (v := (1 : Int32)) rfl (pc' := 5) rfl ?_
        exact kt)
    obtain ⟨fs, hr, hrun, hended, hW, hsame⟩ := X0.leave (v := some (.int (1 : Int32))) (fun h => by rw [Bd.returns] at h; cases h)
    refine ⟨_, _, (hGo _).mp (pre3 _ ?_), hrun, hended, _, _, rfl, ?_, ⟨_, rfl⟩, hW, hsame.mono (by decide) (by decide)⟩
    · exact retOut X0 hx Bd.returns rfl (Or.inl ⟨rfl, Or.inl rfl, _, rfl⟩) (hb hby d1_5) hr
    · show Q1 Z pi0 pi1 h0 n0 _ s₁.heap _
      rw [e0]
      exact ⟨(by first | (simp only [if_pos hc1_2]; done) | (simp only [if_pos hc1_2]; exact rfl) | exact rfl), N0, rfl⟩
  · have pre4 : ∀ t, Steps p.tables e below (s₁.setTop (mkF m 8 #[iv pi0, iv pi1] [(.int (1 : Int32)), (.int pi0)])) t → Go t := fun t kt => pre1 t (by
        refine y_ifYes X0.here hx (hb hby d1_1) ((if0 _ _).trans (feq hc1_2).2) (pc' := 6) (by decide) rfl ?_
        refine y_iloadN X0.here hx (hb hby d1_6) rfl (pc' := 7) rfl ?_
        refine y_iconst X0.here hx (hb hby d1_7) (v := (1 : Int32)) rfl (pc' := 8) rfl ?_
        exact kt)
    by_cases hc8_5 : pi0 = (1 : Int32)
    · have pre6 : ∀ t, Steps p.tables e below (s₁.setTop (mkF m 12 #[iv pi0, iv pi1] [(.int (0 : Int32))])) t → Go t := fun t kt => pre4 t (by
          refine y_icmpNo X0.here hx (hb hby d1_8) (teq hc8_5).2 (pc' := 11) rfl ?_
          refine y_iconst X0.here hx (hb hby d1_11) (v := (0 : Int32)) rfl (pc' := 12) rfl ?_
          exact kt)
      obtain ⟨fs, hr, hrun, hended, hW, hsame⟩ := X0.leave (v := some (.int (0 : Int32))) (fun h => by rw [Bd.returns] at h; cases h)
      refine ⟨_, _, (hGo _).mp (pre6 _ ?_), hrun, hended, _, _, rfl, ?_, ⟨_, rfl⟩, hW, hsame.mono (by decide) (by decide)⟩
      · exact retOut X0 hx Bd.returns rfl (Or.inl ⟨rfl, Or.inl rfl, _, rfl⟩) (hb hby d1_12) hr
      · show Q1 Z pi0 pi1 h0 n0 _ s₁.heap _
        rw [e0]
        exact ⟨(by first | (simp only [if_neg hc1_2, if_pos hc8_5]; done) | (simp only [if_neg hc1_2, if_pos hc8_5]; exact rfl) | exact rfl), N0, rfl⟩
    · have pre7 : ∀ t, Steps p.tables e below (s₁.setTop (mkF m 15 #[iv pi0, iv pi1] [(.int (2 : Int32)), (.int pi0)])) t → Go t := fun t kt => pre4 t (by
          refine y_icmpYes X0.here hx (hb hby d1_8) (feq hc8_5).2 (pc' := 13) (by decide) rfl ?_
          refine y_iloadN X0.here hx (hb hby d1_13) rfl (pc' := 14) rfl ?_
          refine y_iconst X0.here hx (hb hby d1_14) (v := (2 : Int32)) rfl (pc' := 15) rfl ?_
          exact kt)
      by_cases hc15_8 : pi0 = (2 : Int32)
      · have pre9 : ∀ t, Steps p.tables e below (s₁.setTop (mkF m 19 #[iv pi0, iv pi1] [(.int (2 : Int32))])) t → Go t := fun t kt => pre7 t (by
            refine y_icmpNo X0.here hx (hb hby d1_15) (teq hc15_8).2 (pc' := 18) rfl ?_
            refine y_iconst X0.here hx (hb hby d1_18) (v := (2 : Int32)) rfl (pc' := 19) rfl ?_
            exact kt)
        obtain ⟨fs, hr, hrun, hended, hW, hsame⟩ := X0.leave (v := some (.int (2 : Int32))) (fun h => by rw [Bd.returns] at h; cases h)
        refine ⟨_, _, (hGo _).mp (pre9 _ ?_), hrun, hended, _, _, rfl, ?_, ⟨_, rfl⟩, hW, hsame.mono (by decide) (by decide)⟩
        · exact retOut X0 hx Bd.returns rfl (Or.inl ⟨rfl, Or.inl rfl, _, rfl⟩) (hb hby d1_19) hr
        · show Q1 Z pi0 pi1 h0 n0 _ s₁.heap _
          rw [e0]
          exact ⟨(by first | (simp only [if_neg hc1_2, if_neg hc8_5, if_pos hc15_8]; done) | (simp only [if_neg hc1_2, if_neg hc8_5, if_pos hc15_8]; exact rfl) | exact rfl), N0, rfl⟩
      · have pre10 : ∀ t, Steps p.tables e below (s₁.setTop (mkF m 21 #[iv pi0, iv pi1] [(.int pi1)])) t → Go t := fun t kt => pre7 t (by
            refine y_icmpYes X0.here hx (hb hby d1_15) (feq hc15_8).2 (pc' := 20) (by decide) rfl ?_
            refine y_iloadN X0.here hx (hb hby d1_20) rfl (pc' := 21) rfl ?_
            exact kt)
        obtain ⟨fs, hr, hrun, hended, hW, hsame⟩ := X0.leave (v := some (.int pi1)) (fun h => by rw [Bd.returns] at h; cases h)
        refine ⟨_, _, (hGo _).mp (pre10 _ ?_), hrun, hended, _, _, rfl, ?_, ⟨_, rfl⟩, hW, hsame.mono (by decide) (by decide)⟩
        · exact retOut X0 hx Bd.returns rfl (Or.inl ⟨rfl, Or.inl rfl, _, rfl⟩) (hb hby d1_21) hr
        · show Q1 Z pi0 pi1 h0 n0 _ s₁.heap _
          rw [e0]
          exact ⟨(by first | (simp only [if_neg hc1_2, if_neg hc8_5, if_neg hc15_8]; done) | (simp only [if_neg hc1_2, if_neg hc8_5, if_neg hc15_8]; exact rfl) | exact rfl), N0, rfl⟩
theorem fl_0 : decode jdk_65_method_103_code 0 = .ok (.iconst 0, 1) := by decide +kernel
theorem fl_1 : decode jdk_65_method_103_code 1 = .ok (.istore_n 2, 1) := by decide +kernel
theorem fl_2 : decode jdk_65_method_103_code 2 = .ok (.aload_n 0, 1) := by decide +kernel
theorem fl_3 : decode jdk_65_method_103_code 3 = .ok (.arraylength, 1) := by decide +kernel
theorem fl_4 : decode jdk_65_method_103_code 4 = .ok (.istore_n 3, 1) := by decide +kernel
theorem fl_5 : decode jdk_65_method_103_code 5 = .ok (.iload_n 2, 1) := by decide +kernel
theorem fl_6 : decode jdk_65_method_103_code 6 = .ok (.iload_n 3, 1) := by decide +kernel
theorem fl_7 : decode jdk_65_method_103_code 7 = .ok (.if_icmp .ge 13, 3) := by decide +kernel
theorem fl_10 : decode jdk_65_method_103_code 10 = .ok (.aload_n 0, 1) := by decide +kernel
theorem fl_11 : decode jdk_65_method_103_code 11 = .ok (.iload_n 2, 1) := by decide +kernel
theorem fl_12 : decode jdk_65_method_103_code 12 = .ok (.iload_n 1, 1) := by decide +kernel
theorem fl_13 : decode jdk_65_method_103_code 13 = .ok (.iastore, 1) := by decide +kernel
theorem fl_14 : decode jdk_65_method_103_code 14 = .ok (.iinc 2 1, 3) := by decide +kernel
theorem fl_17 : decode jdk_65_method_103_code 17 = .ok (.goto (-12), 3) := by decide +kernel
theorem fl_20 : decode jdk_65_method_103_code 20 = .ok (.return_, 1) := by decide +kernel
theorem own_succ {i n : Int32} (h0 : ¬ i < 0) (h : i < n) : ¬ (i + 1) < 0 ∧ (i + 1).toNatClampNeg = i.toNatClampNeg + 1 := by
  have q1 := c_iadd i 1
  have q2 := (i + 1).le_toInt
  have q3 := (i + 1).toInt_lt
  have q4 := n.toInt_lt
  have e1 : (1 : Int32).toInt = 1 := rfl
  have e0 : (0 : Int32).toInt = 0 := rfl
  rw [Int32.lt_iff_toInt_lt] at h0 h
  refine ⟨?_, ?_⟩
  · rw [Int32.lt_iff_toInt_lt]; omega
  · simp only [Int32.toNatClampNeg]; omega
theorem own_ltn {i n : Int32} (h0 : ¬ i < 0) (hn : ¬ n < 0) : i < n ↔ i.toNatClampNeg < n.toNatClampNeg := by
  have e0 : (0 : Int32).toInt = 0 := rfl
  rw [Int32.lt_iff_toInt_lt] at h0 hn ⊢
  simp only [Int32.toNatClampNeg]; omega
theorem own_eqn {i n : Int32} (h0 : ¬ i < 0) (hn : ¬ n < 0) (h : i.toNatClampNeg = n.toNatClampNeg) : i = n := by
  have e0 : (0 : Int32).toInt = 0 := rfl
  apply Int32.toInt_inj.mp
  rw [Int32.lt_iff_toInt_lt] at h0 hn
  simp only [Int32.toNatClampNeg] at h; omega
set_option maxRecDepth 65536 in
set_option maxHeartbeats 40000000 in
theorem fill_loop {p : Program} {l : Launch} {e : Env} {R : Room} {s : State} {m : MethodId} {args : Array Value} {below : List Frame} {meth : Method} {c : Code} {cells slots : Nat} {Z : State} (hx : p.tables.exec = Jvm.exec) (hZ : Z.Warmed39 s.vm) (hby : c.code = jdk_65_method_103_code) (a : Addr) (v n : Int32) (kk : ClassId) (n0 : Nat) (hn : ¬ n < 0) (G0 : n0 ≤ a) :
    ∀ (k : Nat) (i : Int32) (T : State) (h : Heap) (locs : List Loc) (cell : Cell), Stand p l e R s m args below meth c T locs cells slots → T.heap = h → Arr Z h a cell .int → cell.cls = kk → cell.slots.size = n.toNatClampNeg → ¬ i < 0 → i.toNatClampNeg + k = n.toNatClampNeg → (∀ j, j < i.toNatClampNeg → cell.slots[j]? = some (.int v)) → Fr n0 locs →
    ∃ (T' : State) (h' : Heap) (locs' : List Loc), Stand p l e R s m args below meth c T' locs' cells slots ∧ T'.heap = h' ∧ Keep h h' [a] ∧ Fr n0 locs' ∧ Arv Z h' a kk .int n [] (.int v) ∧ ∀ t, Steps p.tables e below (T'.setTop (mkF m 20 #[rv a, iv v, iv n, iv n] [])) t → Steps p.tables e below (T.setTop (mkF m 5 #[rv a, iv v, iv i, iv n] [])) t := by
  intro k
  induction k with
  | zero =>
    intro i T h locs cell X eT A q1 q2 hi hk hv N
    have ei : i = n := own_eqn hi hn (by omega)
    subst ei
    refine ⟨T, h, locs, X, eT, Keep.refl _ _, N, ⟨cell, A, q1, q2, hn, fun j hj => ?_, fun _ _ => rfl⟩, fun t kt => ?_⟩
    · exact (hv j (by omega)).trans rfl
    · refine y_iloadN X.here hx (hb hby fl_5) rfl (pc' := 6) rfl ?_
      refine y_iloadN X.here hx (hb hby fl_6) rfl (pc' := 7) rfl ?_
      refine y_icmpYes X.here hx (hb hby fl_7) (flt (fun q => absurd (Int32.lt_iff_toInt_lt.mp q) (Int.lt_irrefl _))).2.1 (pc' := 20) (by decide) rfl ?_
      exact kt
  | succ k ih =>
    intro i T h locs cell X eT A q1 q2 hi hk hv N
    have hlt : i < n := (own_ltn hi hn).mpr (by omega)
    obtain ⟨hi', hi2⟩ := own_succ hi hlt
    have hin : ¬ (i < 0 ∨ cell.slots.size ≤ i.toNatClampNeg) := inb_of q2 ⟨hi, hlt⟩
    obtain ⟨T1, h1, X1, e1, W1, st1⟩ := stI X hx hZ eT A (j := i) (x := v) hin (g := (mkF m 13 #[rv a, iv v, iv i, iv n] [.int v, .int i, .ref a])) rfl rfl (hb hby fl_13)
    obtain ⟨T', h', locs', X', e', K', N', V', st'⟩ := ih (i + 1) T1 h1 _ (cell.setSlot i.toNatClampNeg (.int v)) X1 e1 (A.same W1) q1 (by rw [sz_set]; exact q2) hi' (by omega) (fun j hj => by
      by_cases hji : j = i.toNatClampNeg
      · subst hji; exact get_hit hin rfl
      · show (cell.slots.setIfInBounds i.toNatClampNeg (.int v))[j]? = _
        rw [Array.getElem?_setIfInBounds_ne (Ne.symm hji)]; exact hv j (by omega)) (Fr.snoc X1 N G0)
    refine ⟨T', h', locs', X', e', (Keep.of_wr W1).trans K' (fun x hx => Or.inl hx), N', V', fun t kt => ?_⟩
    refine y_iloadN X.here hx (hb hby fl_5) rfl (pc' := 6) rfl ?_
    refine y_iloadN X.here hx (hb hby fl_6) rfl (pc' := 7) rfl ?_
    refine y_icmpNo X.here hx (hb hby fl_7) (tlt hlt).2.1 (pc' := 10) rfl ?_
    refine y_aloadN X.here hx (hb hby fl_10) rfl rfl (pc' := 11) rfl ?_
    refine y_iloadN X.here hx (hb hby fl_11) rfl (pc' := 12) rfl ?_
    refine y_iloadN X.here hx (hb hby fl_12) rfl (pc' := 13) rfl ?_
    refine st1 _ ?_
    show Steps p.tables e below (T1.setTop (mkF m 14 #[rv a, iv v, iv i, iv n] [])) _
    refine y_iinc X1.here hx (hb hby fl_14) rfl (l' := #[rv a, iv v, iv (i + 1), iv n]) rfl (pc' := 17) rfl ?_
    refine y_goto X1.here hx (hb hby fl_17) (pc' := 5) (by decide) rfl ?_
    exact st' t kt
theorem pn_fill : plainName "java/util/Arrays" = true := by first | (simp [plainName, overriddenIn]; done) | decide +kernel
theorem ef_fill (m : MethodId) (x0 : Addr) (x1 : Int32) : entryFrame m #[(.ref x0), (.int x1)] 4 = mkF m 0 #[rv x0, iv x1, .unset, .unset] [] := by first | (simp [entryFrame, mkF, argsToLocals, Value.category]; done) | rfl
def QF (Z : State) (pr0 : Addr) (pi1 n : Int32) (kk : ClassId) (h0 : Heap) (n0 : Nat) (v : Option Value) (h : Heap) (L : List Loc) : Prop := v = none ∧ Fr n0 L ∧ Keep h0 h [pr0] ∧ Arv Z h pr0 kk .int n [] (.int pi1)
set_option maxRecDepth 65536 in
set_option maxHeartbeats 40000000 in
theorem rmF (l : Launch) (Z : State) (a0 : Array Value) (hw : ∀ d ∈ tables_1, d.before a0 Z = true) (ws : List Jvm.Cond) (pr0 : Addr) (pi1 n : Int32) (kk : ClassId) (h0 : Heap) (n0 : Nat) (O0 : Old Z n0 h0) (V0 : Arv Z h0 pr0 kk .int n [] (.int (0 : Int32))) (G0 : n0 ≤ pr0) :
    MetFree l (⟨"java/util/Arrays", "fill", "([II)V"⟩ : MethodName) (head1 (Jvm.Cond.code (⟨"java/util/Arrays", "fill", "([II)V"⟩ : MethodName) jdk_65_method_103_code 4 none :: ws) ({ frames := 0, cells := 0, slots := 0, locals := 0 } : Room)) (fun a U => a = #[(.ref pr0), (.int pi1)] ∧ Z.Warmed39 U.vm ∧ U.heap = h0) (fun _ _ _ _ _ => True) (fun _ U o U' => ∃ v L, o = .returned v ∧ QF Z pr0 pi1 n kk h0 n0 v U'.heap L ∧ FrameEnd U o U' L ({ frames := 0, cells := 0, slots := 0, locals := 0 } : Room).cells ({ frames := 0, cells := 0, slots := 0, locals := 0 } : Room).slots) := by
  refine MetFree.of_bodySF (plainFor_of_name pn_fill) hisR ?_
  intro p e s m args below meth c s₁ Bd hml0 hP hK
  obtain ⟨rfl, hZ, hh⟩ := hP
  have hx := Bd.exec
  have hby := Bd.bytes
  have hml : c.maxLocals = 4 := hml0
  have X0 : Stand p l e ({ frames := 0, cells := 0, slots := 0, locals := 0 } : Room) s m #[(.ref pr0), (.int pi1)] below meth c s₁ [] 0 0 := Stand.of_body Bd
  have e0 : s₁.heap = h0 := by rw [← hh, Bd.state]; rfl
  obtain ⟨cell, A, q1, q2, hn, H, G⟩ := V0
  obtain ⟨T', h', locs', X', e', K', N', V', st'⟩ := fill_loop (R := ({ frames := 0, cells := 0, slots := 0, locals := 0 } : Room)) hx hZ hby pr0 pi1 n kk n0 hn G0 n.toNatClampNeg 0 s₁ h0 [] cell X0 e0 A q1 q2 (by decide) (by show 0 + _ = _; omega) (fun j hj => absurd hj (Nat.not_lt_zero _)) (Fr.nil n0)
  obtain ⟨fs, hr, hrun, hended, hW, hsame⟩ := X'.leave (v := none) (fun _ => rfl)
  refine ⟨_, _, castTop (ef_fill m pr0 pi1) ?_, hrun, hended, _, _, rfl, ?_, ⟨_, rfl⟩, hW, hsame.mono (by decide) (by decide)⟩
  · refine y_iconst X0.here hx (hb hby fl_0) (v := (0 : Int32)) rfl (pc' := 1) rfl ?_
    refine y_istoreN X0.here hx (hb hby fl_1) (l' := #[rv pr0, iv pi1, iv (0 : Int32), .unset]) rfl (pc' := 2) rfl ?_
    refine y_aloadN X0.here hx (hb hby fl_2) rfl rfl (pc' := 3) rfl ?_
    refine X0.arraylength hx (by rw [e0]; exact A.1) (State.isArrayOf_alike hZ.alike A.2.1) (g := (mkF m 3 #[rv pr0, iv pi1, iv (0 : Int32), .unset] [.ref pr0])) rfl rfl (hb hby fl_3) _ ?_
    rw [len_of q2 hn]
    show Steps p.tables e below (s₁.setTop (mkF m 4 #[rv pr0, iv pi1, iv (0 : Int32), .unset] [.int n])) _
    refine y_istoreN X0.here hx (hb hby fl_4) (l' := #[rv pr0, iv pi1, iv (0 : Int32), iv n]) rfl (pc' := 5) rfl ?_
    refine st' _ ?_
    exact X'.returnOut hx Bd.returns (hb hby fl_20) hr
  · show QF Z pr0 pi1 n kk h0 n0 _ T'.heap _
    rw [e']
    exact ⟨rfl, N', K', V'⟩

theorem d2_0 : decode prog_17_method_1_code 0 = .ok (.aload_n 0, 1) := by decide +kernel
theorem d2_1 : decode prog_17_method_1_code 1 = .ok (.invokespecial 1, 3) := by decide +kernel
theorem d2_4 : decode prog_17_method_1_code 4 = .ok (.aload_n 0, 1) := by decide +kernel
theorem d2_5 : decode prog_17_method_1_code 5 = .ok (.iload_n 1, 1) := by decide +kernel
theorem d2_6 : decode prog_17_method_1_code 6 = .ok (.newarray .int, 2) := by decide +kernel
theorem d2_8 : decode prog_17_method_1_code 8 = .ok (.putfield 7, 3) := by decide +kernel
theorem d2_11 : decode prog_17_method_1_code 11 = .ok (.aload_n 0, 1) := by decide +kernel
theorem d2_12 : decode prog_17_method_1_code 12 = .ok (.getfield 7, 3) := by decide +kernel
theorem d2_15 : decode prog_17_method_1_code 15 = .ok (.iconst (-1), 1) := by decide +kernel
theorem d2_16 : decode prog_17_method_1_code 16 = .ok (.invokestatic 13, 3) := by decide +kernel
theorem d2_19 : decode prog_17_method_1_code 19 = .ok (.aload_n 0, 1) := by decide +kernel
theorem d2_20 : decode prog_17_method_1_code 20 = .ok (.iload_n 1, 1) := by decide +kernel
theorem d2_21 : decode prog_17_method_1_code 21 = .ok (.anewarray 19, 3) := by decide +kernel
theorem d2_24 : decode prog_17_method_1_code 24 = .ok (.putfield 21, 3) := by decide +kernel
theorem d2_27 : decode prog_17_method_1_code 27 = .ok (.aload_n 0, 1) := by decide +kernel
theorem d2_28 : decode prog_17_method_1_code 28 = .ok (.iload_n 1, 1) := by decide +kernel
theorem d2_29 : decode prog_17_method_1_code 29 = .ok (.newarray .int, 2) := by decide +kernel
theorem d2_31 : decode prog_17_method_1_code 31 = .ok (.putfield 25, 3) := by decide +kernel
theorem d2_34 : decode prog_17_method_1_code 34 = .ok (.aload_n 0, 1) := by decide +kernel
theorem d2_35 : decode prog_17_method_1_code 35 = .ok (.iload_n 1, 1) := by decide +kernel
theorem d2_36 : decode prog_17_method_1_code 36 = .ok (.newarray .int, 2) := by decide +kernel
theorem d2_38 : decode prog_17_method_1_code 38 = .ok (.putfield 28, 3) := by decide +kernel
theorem d2_41 : decode prog_17_method_1_code 41 = .ok (.aload_n 0, 1) := by decide +kernel
theorem d2_42 : decode prog_17_method_1_code 42 = .ok (.iload_n 1, 1) := by decide +kernel
theorem d2_43 : decode prog_17_method_1_code 43 = .ok (.newarray .boolean, 2) := by decide +kernel
theorem d2_45 : decode prog_17_method_1_code 45 = .ok (.putfield 31, 3) := by decide +kernel
theorem d2_48 : decode prog_17_method_1_code 48 = .ok (.aload_n 0, 1) := by decide +kernel
theorem d2_49 : decode prog_17_method_1_code 49 = .ok (.iload_n 1, 1) := by decide +kernel
theorem d2_50 : decode prog_17_method_1_code 50 = .ok (.newarray .int, 2) := by decide +kernel
theorem d2_52 : decode prog_17_method_1_code 52 = .ok (.putfield 35, 3) := by decide +kernel
theorem d2_55 : decode prog_17_method_1_code 55 = .ok (.return_, 1) := by decide +kernel
theorem pn_com_example_stonegaze_stonegaze_Groups : plainName "com/example/stonegaze/stonegaze/Groups" = true := by first | (simp [plainName, overriddenIn]; done) | decide +kernel
theorem pd___II_V : parseMethodDescriptor "([II)V" = some ⟨[(.array .int), .int], none⟩ := by decide +kernel
theorem ef_2 (m : MethodId) (x0 : Addr) (x1 : Int32) : entryFrame m #[(.ref x0), (.int x1)] 2 = mkF m 0 #[rv x0, iv x1] [] := by first | (simp [entryFrame, mkF, argsToLocals, Value.category]; done) | rfl
def Q2 (Z : State) (pr0 : Addr) (pi1 : Int32) (h0 : Heap) (n0 : Nat) (v : Option Value) (h : Heap) (L : List Loc) : Prop := ∃ (z_groupOf z_colours z_stones z_liberties z_ringed z_aLiberty : Addr) (k_groupOf k_colours k_stones k_liberties k_ringed k_aLiberty : ClassId), v = none ∧ Fr n0 L ∧ Keep h0 h [pr0] ∧ Fld Z h pr0 "com/example/stonegaze/stonegaze/Groups" "groupOf" "[I" (.ref z_groupOf) ∧ Fld Z h pr0 "com/example/stonegaze/stonegaze/Groups" "colours" "[Lcom/example/stonegaze/stonegaze/Side;" (.ref z_colours) ∧ Fld Z h pr0 "com/example/stonegaze/stonegaze/Groups" "stones" "[I" (.ref z_stones) ∧ Fld Z h pr0 "com/example/stonegaze/stonegaze/Groups" "liberties" "[I" (.ref z_liberties) ∧ Fld Z h pr0 "com/example/stonegaze/stonegaze/Groups" "ringed" "[Z" (.ref z_ringed) ∧ Fld Z h pr0 "com/example/stonegaze/stonegaze/Groups" "aLiberty" "[I" (.ref z_aLiberty) ∧ Fld Z h pr0 "com/example/stonegaze/stonegaze/Groups" "count" "I" (.int (0 : Int32)) ∧ Arv Z h z_groupOf k_groupOf .int pi1 [] (.int (-1 : Int32)) ∧ Arv Z h z_colours k_colours (.object "com/example/stonegaze/stonegaze/Side") pi1 [.null, .null] .null ∧ Arv Z h z_stones k_stones .int pi1 [(.int (0 : Int32)), (.int (0 : Int32))] (.int (0 : Int32)) ∧ Arv Z h z_liberties k_liberties .int pi1 [(.int (0 : Int32)), (.int (0 : Int32))] (.int (0 : Int32)) ∧ Arv Z h z_ringed k_ringed .boolean pi1 [(.int (0 : Int32)), (.int (0 : Int32))] (.int (0 : Int32)) ∧ Arv Z h z_aLiberty k_aLiberty .int pi1 [(.int (0 : Int32)), (.int (0 : Int32))] (.int (0 : Int32)) ∧ Ovr Z k_colours "com/example/stonegaze/stonegaze/Side" ∧ h0.size ≤ z_groupOf ∧ @LT.lt Nat instLTNat z_groupOf z_colours ∧ @LT.lt Nat instLTNat z_colours z_stones ∧ @LT.lt Nat instLTNat z_stones z_liberties ∧ @LT.lt Nat instLTNat z_liberties z_ringed ∧ @LT.lt Nat instLTNat z_ringed z_aLiberty
set_option maxRecDepth 65536 in
set_option maxHeartbeats 40000000 in
theorem rm2 (l : Launch) (Z : State) (a0 : Array Value) (hw : ∀ d ∈ tables_1, d.before a0 Z = true) (ws : List Jvm.Cond) (pr0 : Addr) (pi1 : Int32) (h0 : Heap) (n0 : Nat) (O0 : Old Z n0 h0) (E_pr0 : Exa Z h0 pr0 "com/example/stonegaze/stonegaze/Groups") (F_groupOf_pr0 : Fld Z h0 pr0 "com/example/stonegaze/stonegaze/Groups" "groupOf" "[I" .null) (F_colours_pr0 : Fld Z h0 pr0 "com/example/stonegaze/stonegaze/Groups" "colours" "[Lcom/example/stonegaze/stonegaze/Side;" .null) (F_stones_pr0 : Fld Z h0 pr0 "com/example/stonegaze/stonegaze/Groups" "stones" "[I" .null) (F_liberties_pr0 : Fld Z h0 pr0 "com/example/stonegaze/stonegaze/Groups" "liberties" "[I" .null) (F_ringed_pr0 : Fld Z h0 pr0 "com/example/stonegaze/stonegaze/Groups" "ringed" "[Z" .null) (F_aLiberty_pr0 : Fld Z h0 pr0 "com/example/stonegaze/stonegaze/Groups" "aLiberty" "[I" .null) (F_count_pr0 : Fld Z h0 pr0 "com/example/stonegaze/stonegaze/Groups" "count" "I" (.int (0 : Int32))) (G_pr0 : n0 ≤ pr0) (NG : ¬ pi1 < 0) (NC : pi1.toNatClampNeg ≤ 4) :
    MetFree l (⟨"com/example/stonegaze/stonegaze/Groups", "<init>", "(I)V"⟩ : MethodName) (head1 (Jvm.Cond.code (⟨"com/example/stonegaze/stonegaze/Groups", "<init>", "(I)V"⟩ : MethodName) prog_17_method_1_code 2 none :: ws) ({ frames := 1, cells := 6, slots := 24, locals := 15 } : Room)) (fun a U => a = #[(.ref pr0), (.int pi1)] ∧ Z.Warmed39 U.vm ∧ U.heap = h0) (fun _ _ _ _ _ => True) (fun _ U o U' => ∃ v L, o = .returned v ∧ Q2 Z pr0 pi1 h0 n0 v U'.heap L ∧ FrameEnd U o U' L ({ frames := 1, cells := 6, slots := 24, locals := 15 } : Room).cells ({ frames := 1, cells := 6, slots := 24, locals := 15 } : Room).slots) := by
  refine MetFree.of_bodySF (plainFor_of_name pn_com_example_stonegaze_stonegaze_Groups) hisR ?_
  intro p e s m args below meth c s₁ Bd hml0 hP hK
  obtain ⟨rfl, hZ, hh⟩ := hP
  have hx := Bd.exec
  have hby := Bd.bytes
  have hml : c.maxLocals = 2 := hml0
  have hown : s.vm.findClass "com/example/stonegaze/stonegaze/Groups" = some m.cls := findClass_of_methodNamed Bd.named
  have hnm := (name_of_methodNamed Bd.named Bd.method).1
  have X0 : Stand p l e ({ frames := 1, cells := 6, slots := 24, locals := 15 } : Room) s m #[(.ref pr0), (.int pi1)] below meth c s₁ [] 0 0 := Stand.of_body Bd
  have e0 : s₁.heap = h0 := by rw [← hh, Bd.state]; rfl
  have N0 := Fr.nil n0
  obtain ⟨Go, hGo⟩ : ∃ P : State → Prop, ∀ t, P t ↔ Steps p.tables e below (s₁.setTop (entryFrame m #[(.ref pr0), (.int pi1)] 2)) t := ⟨_, fun _ => Iff.rfl⟩
  have pre0 : ∀ t, Steps p.tables e below (s₁.setTop (mkF m 0 #[rv pr0, iv pi1] [])) t → Go t := fun t k => (hGo t).mpr (castTop (ef_2 m pr0 pi1) k)
  have K0 : Keep h0 h0 [pr0] := Keep.refl _ _
  have pre1 : ∀ t, Steps p.tables e below (s₁.setTop (mkF m 1 #[rv pr0, iv pi1] [(.ref pr0)])) t → Go t := fun t kt => pre0 t (by
      refine y_aloadN X0.here hx (hb hby d2_0) rfl rfl (pc' := 1) rfl ?_
      exact kt)
  obtain ⟨T2, X2, e2, st2⟩ := initO X0 hx hZ hown (hw _ (List.mem_of_getElem? (i := 10) rfl)) (hw _ (List.mem_of_getElem? (i := 11) rfl)) (hw _ (List.mem_of_getElem? (i := 12) rfl)) e0 (g := (mkF m 1 #[rv pr0, iv pi1] [(.ref pr0)])) rfl (by rw [hml]; rfl) rfl (hb hby d2_1) (by decide) (W := 0) (by show 2 * 0 + _ ≤ _; exact Nat.le_of_eq rfl) (by decide)
  have pre3 : ∀ t, Steps p.tables e below (T2.setTop (mkF m 4 #[rv pr0, iv pi1] [])) t → Go t := fun t kt => pre1 t (st2 t kt)
  have pre4 : ∀ t, Steps p.tables e below (T2.setTop (mkF m 6 #[rv pr0, iv pi1] [(.int pi1), (.ref pr0)])) t → Go t := fun t kt => pre3 t (by
      refine y_aloadN X2.here hx (hb hby d2_4) rfl rfl (pc' := 5) rfl ?_
      refine y_iloadN X2.here hx (hb hby d2_5) rfl (pc' := 6) rfl ?_
      exact kt)
  obtain ⟨T5, h5, k5, X5, e5, E5, A5, st5⟩ := newP X2 hx hZ (hw _ (List.mem_of_getElem? (i := 13) rfl)) e2 (g := (mkF m 6 #[rv pr0, iv pi1] [(.int pi1), (.ref pr0)])) rfl (hb hby d2_6) rfl NG (cap := 4) NC (by decide) (by decide) (by decide)
  obtain ⟨b5, g5⟩ : ∃ z, z = h0.size := ⟨_, rfl⟩
  rw [← g5] at A5 st5
  have pre6 : ∀ t, Steps p.tables e below (T5.setTop (mkF m 8 #[rv pr0, iv pi1] [(.ref b5), (.ref pr0)])) t → Go t := fun t kt => pre4 t (st5 t kt)
  have lt7 : pr0 < b5 := Nat.lt_of_lt_of_le E_pr0.lt (Nat.le_of_eq g5.symm)
  have ne7 : pr0 ≠ b5 := Nat.ne_of_lt lt7
  have G8 : n0 ≤ b5 := Nat.le_trans (O0.1 ▸ O0.2.1) (Nat.le_of_eq g5.symm)
  have Z8 : h0.size ≤ b5 := Nat.le_trans K0.1 (Nat.le_of_eq g5.symm)
  have f9 : Exa Z h5 pr0 "com/example/stonegaze/stonegaze/Groups" := (E_pr0.ext E5)
  have f10 : Fld Z h5 pr0 "com/example/stonegaze/stonegaze/Groups" "groupOf" "[I" .null := (F_groupOf_pr0.ext E5)
  have f11 : Fld Z h5 pr0 "com/example/stonegaze/stonegaze/Groups" "colours" "[Lcom/example/stonegaze/stonegaze/Side;" .null := (F_colours_pr0.ext E5)
  have f12 : Fld Z h5 pr0 "com/example/stonegaze/stonegaze/Groups" "stones" "[I" .null := (F_stones_pr0.ext E5)
  have f13 : Fld Z h5 pr0 "com/example/stonegaze/stonegaze/Groups" "liberties" "[I" .null := (F_liberties_pr0.ext E5)
  have f14 : Fld Z h5 pr0 "com/example/stonegaze/stonegaze/Groups" "ringed" "[Z" .null := (F_ringed_pr0.ext E5)
  have f15 : Fld Z h5 pr0 "com/example/stonegaze/stonegaze/Groups" "aLiberty" "[I" .null := (F_aLiberty_pr0.ext E5)
  have f16 : Fld Z h5 pr0 "com/example/stonegaze/stonegaze/Groups" "count" "I" (.int (0 : Int32)) := (F_count_pr0.ext E5)
  have O8 := O0.ext E5
  have K8 : Keep h0 h5 [pr0] := K0.ext E5
  have f17 : Arv Z h5 b5 k5 .int pi1 [] (.int (0 : Int32)) := Arv.new A5 NG
  obtain ⟨T18, h18, X18, e18, W18, st18⟩ := putF X5 hx hZ hown (host := "") (Or.inl (hw _ (List.mem_of_getElem? (i := 14) rfl))) Via.refl e5 f10 f9 (Or.inr ⟨(hw _ (List.mem_of_getElem? (i := 15) rfl)), rfl, hnm⟩) (hw _ (List.mem_of_getElem? (i := 5) rfl)) (ty := (.array .int)) (by decide) rfl rfl (g := (mkF m 8 #[rv pr0, iv pi1] [(.ref b5), (.ref pr0)])) rfl rfl (hb hby d2_8)
  have pre19 : ∀ t, Steps p.tables e below (T18.setTop (mkF m 11 #[rv pr0, iv pi1] [])) t → Go t := fun t kt => pre6 t (st18 t kt)
  have f20 : Exa Z h18 pr0 "com/example/stonegaze/stonegaze/Groups" := (f9.wr W18)
  have f22 : Fld Z h18 pr0 "com/example/stonegaze/stonegaze/Groups" "colours" "[Lcom/example/stonegaze/stonegaze/Side;" .null := (f11.other W18 (Or.inr (slot_ne (Or.inr (hw _ (List.mem_of_getElem? (i := 23) rfl))) (Or.inr (hw _ (List.mem_of_getElem? (i := 15) rfl))) (by decide) (t := (.array (.object "com/example/stonegaze/stonegaze/Side"))) (t' := (.array .int)) (by decide) (by decide))))
  have f23 : Fld Z h18 pr0 "com/example/stonegaze/stonegaze/Groups" "stones" "[I" .null := (f12.other W18 (Or.inr (slot_ne (Or.inr (hw _ (List.mem_of_getElem? (i := 25) rfl))) (Or.inr (hw _ (List.mem_of_getElem? (i := 15) rfl))) (by decide) (t := (.array .int)) (t' := (.array .int)) (by decide) (by decide))))
  have f24 : Fld Z h18 pr0 "com/example/stonegaze/stonegaze/Groups" "liberties" "[I" .null := (f13.other W18 (Or.inr (slot_ne (Or.inr (hw _ (List.mem_of_getElem? (i := 27) rfl))) (Or.inr (hw _ (List.mem_of_getElem? (i := 15) rfl))) (by decide) (t := (.array .int)) (t' := (.array .int)) (by decide) (by decide))))
  have f25 : Fld Z h18 pr0 "com/example/stonegaze/stonegaze/Groups" "ringed" "[Z" .null := (f14.other W18 (Or.inr (slot_ne (Or.inr (hw _ (List.mem_of_getElem? (i := 30) rfl))) (Or.inr (hw _ (List.mem_of_getElem? (i := 15) rfl))) (by decide) (t := (.array .boolean)) (t' := (.array .int)) (by decide) (by decide))))
  have f26 : Fld Z h18 pr0 "com/example/stonegaze/stonegaze/Groups" "aLiberty" "[I" .null := (f15.other W18 (Or.inr (slot_ne (Or.inr (hw _ (List.mem_of_getElem? (i := 32) rfl))) (Or.inr (hw _ (List.mem_of_getElem? (i := 15) rfl))) (by decide) (t := (.array .int)) (t' := (.array .int)) (by decide) (by decide))))
  have f27 : Fld Z h18 pr0 "com/example/stonegaze/stonegaze/Groups" "count" "I" (.int (0 : Int32)) := (f16.other W18 (Or.inr (slot_ne (Or.inl (hw _ (List.mem_of_getElem? (i := 42) rfl))) (Or.inr (hw _ (List.mem_of_getElem? (i := 15) rfl))) (by decide) (t := .int) (t' := (.array .int)) (by decide) (by decide))))
  have f28 : Arv Z h18 b5 k5 .int pi1 [] (.int (0 : Int32)) := (f17.other W18 (Ne.symm ne7))
  have f29 : Fld Z h18 pr0 "com/example/stonegaze/stonegaze/Groups" "groupOf" "[I" (.ref b5) := f10.same W18
  have N30 := Fr.snoc X18 N0 G_pr0
  have O30 := O8.wr W18 G_pr0
  have K30 : Keep h0 h18 [pr0] := K8.wr W18 (Or.inl (List.mem_of_getElem? (i := 0) rfl))
  have pre31 : ∀ t, Steps p.tables e below (T18.setTop (mkF m 12 #[rv pr0, iv pi1] [(.ref pr0)])) t → Go t := fun t kt => pre19 t (by
      refine y_aloadN X18.here hx (hb hby d2_11) rfl rfl (pc' := 12) rfl ?_
      exact kt)
  obtain ⟨T32, X32, e32, st32⟩ := getF X18 hx hZ hown (host := "") (Or.inl (hw _ (List.mem_of_getElem? (i := 14) rfl))) Via.refl e18 f29 (g := (mkF m 12 #[rv pr0, iv pi1] [(.ref pr0)])) rfl rfl (hb hby d2_12)
  have pre33 : ∀ t, Steps p.tables e below (T32.setTop (mkF m 15 #[rv pr0, iv pi1] [(.ref b5)])) t → Go t := fun t kt => pre31 t (st32 t kt)
  have pre34 : ∀ t, Steps p.tables e below (T32.setTop (mkF m 16 #[rv pr0, iv pi1] [(.int (-1 : Int32)), (.ref b5)])) t → Go t := fun t kt => pre33 t (by
      refine y_iconst X32.here hx (hb hby d2_15) (v := (-1 : Int32)) rfl (pc' := 16) rfl ?_
      exact kt)
  obtain ⟨v35, _, ⟨T35, L35, k35, n35⟩, -, X35, ⟨Lc35, hQ35, l35, y35, z35⟩, st35⟩ := Jvm.LawKit.callS X32 hx (y := (⟨"java/util/Arrays", "fill", "([II)V"⟩ : MethodName)) hown (mvT hZ (hw _ (List.mem_of_getElem? (i := 16) rfl))) (mvT hZ (hw _ (List.mem_of_getElem? (i := 17) rfl))) (mvT hZ (hw _ (List.mem_of_getElem? (i := 18) rfl))) (mvT hZ (hw _ (List.mem_of_getElem? (i := 19) rfl))) (by decide) (backOf (W := 0) (rmF l Z a0 hw [] b5 (-1 : Int32) pi1 k5 h18 n0 O30 f28 G8) hZ (hw _ (List.mem_of_getElem? (i := 19) rfl)) (hw _ (List.mem_of_getElem? (i := 18) rfl)) (by decide) (by decide)) (g := (mkF m 16 #[rv pr0, iv pi1] [(.int (-1 : Int32)), (.ref b5)])) rfl (by rw [hml]; rfl) (argsL := [(.ref b5), (.int (-1 : Int32))]) (rest := []) (lenOf pd___II_V rfl) rfl (by show 2 * 0 + _ ≤ _; exact Nat.le_of_eq rfl) (hb hby d2_16) (fun _ _ => ⟨rfl, e32, (by decide : 1 + 0 ≤ _), (by decide : 4 + 0 ≤ _)⟩)
  dsimp only [Pt.U, Pt.locs, Pt.cells, Pt.slots] at X35 l35 y35 z35 st35 hQ35
  subst l35 y35 z35
  obtain ⟨hv35, N35q, K35q, p35_0⟩ := hQ35
  have N36 := Fr.app N30 N35q
  subst hv35
  have pre37 : ∀ t, Steps p.tables e below (T35.setTop (mkF m 19 #[rv pr0, iv pi1] [])) t → Go t := fun t kt => pre34 t (st35 t kt)
  obtain ⟨h35, eh35⟩ : ∃ z, T35.heap = z := ⟨_, rfl⟩
  rw [eh35] at K35q p35_0
  have f38 : Exa Z h35 pr0 "com/example/stonegaze/stonegaze/Groups" := (f20.keep K35q)
  have f39 : Fld Z h35 pr0 "com/example/stonegaze/stonegaze/Groups" "colours" "[Lcom/example/stonegaze/stonegaze/Side;" .null := (f22.keep K35q (ninS ne7 nin0))
  have f40 : Fld Z h35 pr0 "com/example/stonegaze/stonegaze/Groups" "stones" "[I" .null := (f23.keep K35q (ninS ne7 nin0))
  have f41 : Fld Z h35 pr0 "com/example/stonegaze/stonegaze/Groups" "liberties" "[I" .null := (f24.keep K35q (ninS ne7 nin0))
  have f42 : Fld Z h35 pr0 "com/example/stonegaze/stonegaze/Groups" "ringed" "[Z" .null := (f25.keep K35q (ninS ne7 nin0))
  have f43 : Fld Z h35 pr0 "com/example/stonegaze/stonegaze/Groups" "aLiberty" "[I" .null := (f26.keep K35q (ninS ne7 nin0))
  have f44 : Fld Z h35 pr0 "com/example/stonegaze/stonegaze/Groups" "count" "I" (.int (0 : Int32)) := (f27.keep K35q (ninS ne7 nin0))
  have f46 : Fld Z h35 pr0 "com/example/stonegaze/stonegaze/Groups" "groupOf" "[I" (.ref b5) := (f29.keep K35q (ninS ne7 nin0))
  have O47 := O30.keep K35q (allS G8 all0)
  have K47 : Keep h0 h35 [pr0] := K30.trans K35q (allS (P := fun x => x ∈ [pr0] ∨ h0.size ≤ x) (Or.inr Z8) all0)
  have pre48 : ∀ t, Steps p.tables e below (T35.setTop (mkF m 21 #[rv pr0, iv pi1] [(.int pi1), (.ref pr0)])) t → Go t := fun t kt => pre37 t (by
      refine y_aloadN X35.here hx (hb hby d2_19) rfl rfl (pc' := 20) rfl ?_
      refine y_iloadN X35.here hx (hb hby d2_20) rfl (pc' := 21) rfl ?_
      exact kt)
  obtain ⟨T49, h49, k49, X49, e49, E49, A49, V49, st49⟩ := newR X35 hx hZ hown (hw _ (List.mem_of_getElem? (i := 20) rfl)) (hw _ (List.mem_of_getElem? (i := 21) rfl)) eh35 (g := (mkF m 21 #[rv pr0, iv pi1] [(.int pi1), (.ref pr0)])) rfl (hb hby d2_21) rfl NG (cap := 4) NC (by decide) (by decide) (by decide)
  obtain ⟨b49, g49⟩ : ∃ z, z = h35.size := ⟨_, rfl⟩
  rw [← g49] at A49 st49
  have pre50 : ∀ t, Steps p.tables e below (T49.setTop (mkF m 24 #[rv pr0, iv pi1] [(.ref b49), (.ref pr0)])) t → Go t := fun t kt => pre48 t (st49 t kt)
  have lt51 : pr0 < b49 := Nat.lt_of_lt_of_le f38.lt (Nat.le_of_eq g49.symm)
  have ne51 : pr0 ≠ b49 := Nat.ne_of_lt lt51
  have lt52 : b5 < b49 := Nat.lt_of_lt_of_le p35_0.lt (Nat.le_of_eq g49.symm)
  have ne52 : b5 ≠ b49 := Nat.ne_of_lt lt52
  have G53 : n0 ≤ b49 := Nat.le_trans (O47.1 ▸ O47.2.1) (Nat.le_of_eq g49.symm)
  have Z53 : h0.size ≤ b49 := Nat.le_trans K47.1 (Nat.le_of_eq g49.symm)
  have f54 : Exa Z h49 pr0 "com/example/stonegaze/stonegaze/Groups" := (f38.ext E49)
  have f55 : Fld Z h49 pr0 "com/example/stonegaze/stonegaze/Groups" "colours" "[Lcom/example/stonegaze/stonegaze/Side;" .null := (f39.ext E49)
  have f56 : Fld Z h49 pr0 "com/example/stonegaze/stonegaze/Groups" "stones" "[I" .null := (f40.ext E49)
  have f57 : Fld Z h49 pr0 "com/example/stonegaze/stonegaze/Groups" "liberties" "[I" .null := (f41.ext E49)
  have f58 : Fld Z h49 pr0 "com/example/stonegaze/stonegaze/Groups" "ringed" "[Z" .null := (f42.ext E49)
  have f59 : Fld Z h49 pr0 "com/example/stonegaze/stonegaze/Groups" "aLiberty" "[I" .null := (f43.ext E49)
  have f60 : Fld Z h49 pr0 "com/example/stonegaze/stonegaze/Groups" "count" "I" (.int (0 : Int32)) := (f44.ext E49)
  have f61 : Fld Z h49 pr0 "com/example/stonegaze/stonegaze/Groups" "groupOf" "[I" (.ref b5) := (f46.ext E49)
  have f62 : Arv Z h49 b5 k5 .int pi1 [] (.int (-1 : Int32)) := (p35_0.ext E49)
  have O53 := O47.ext E49
  have K53 : Keep h0 h49 [pr0] := K47.ext E49
  have f63 : Arv Z h49 b49 k49 (.object "com/example/stonegaze/stonegaze/Side") pi1 [.null, .null] .null := (Arv.new A49 NG).pad (pad_rep [] .null 2)
  obtain ⟨T64, h64, X64, e64, W64, st64⟩ := putF X49 hx hZ hown (host := "") (Or.inl (hw _ (List.mem_of_getElem? (i := 22) rfl))) Via.refl e49 f55 f54 (Or.inr ⟨(hw _ (List.mem_of_getElem? (i := 23) rfl)), rfl, hnm⟩) (hw _ (List.mem_of_getElem? (i := 5) rfl)) (ty := (.array (.object "com/example/stonegaze/stonegaze/Side"))) (by decide) rfl rfl (g := (mkF m 24 #[rv pr0, iv pi1] [(.ref b49), (.ref pr0)])) rfl rfl (hb hby d2_24)
  have pre65 : ∀ t, Steps p.tables e below (T64.setTop (mkF m 27 #[rv pr0, iv pi1] [])) t → Go t := fun t kt => pre50 t (st64 t kt)
  have f66 : Exa Z h64 pr0 "com/example/stonegaze/stonegaze/Groups" := (f54.wr W64)
  have f68 : Fld Z h64 pr0 "com/example/stonegaze/stonegaze/Groups" "stones" "[I" .null := (f56.other W64 (Or.inr (slot_ne (Or.inr (hw _ (List.mem_of_getElem? (i := 25) rfl))) (Or.inr (hw _ (List.mem_of_getElem? (i := 23) rfl))) (by decide) (t := (.array .int)) (t' := (.array (.object "com/example/stonegaze/stonegaze/Side"))) (by decide) (by decide))))
  have f69 : Fld Z h64 pr0 "com/example/stonegaze/stonegaze/Groups" "liberties" "[I" .null := (f57.other W64 (Or.inr (slot_ne (Or.inr (hw _ (List.mem_of_getElem? (i := 27) rfl))) (Or.inr (hw _ (List.mem_of_getElem? (i := 23) rfl))) (by decide) (t := (.array .int)) (t' := (.array (.object "com/example/stonegaze/stonegaze/Side"))) (by decide) (by decide))))
  have f70 : Fld Z h64 pr0 "com/example/stonegaze/stonegaze/Groups" "ringed" "[Z" .null := (f58.other W64 (Or.inr (slot_ne (Or.inr (hw _ (List.mem_of_getElem? (i := 30) rfl))) (Or.inr (hw _ (List.mem_of_getElem? (i := 23) rfl))) (by decide) (t := (.array .boolean)) (t' := (.array (.object "com/example/stonegaze/stonegaze/Side"))) (by decide) (by decide))))
  have f71 : Fld Z h64 pr0 "com/example/stonegaze/stonegaze/Groups" "aLiberty" "[I" .null := (f59.other W64 (Or.inr (slot_ne (Or.inr (hw _ (List.mem_of_getElem? (i := 32) rfl))) (Or.inr (hw _ (List.mem_of_getElem? (i := 23) rfl))) (by decide) (t := (.array .int)) (t' := (.array (.object "com/example/stonegaze/stonegaze/Side"))) (by decide) (by decide))))
  have f72 : Fld Z h64 pr0 "com/example/stonegaze/stonegaze/Groups" "count" "I" (.int (0 : Int32)) := (f60.other W64 (Or.inr (slot_ne (Or.inl (hw _ (List.mem_of_getElem? (i := 42) rfl))) (Or.inr (hw _ (List.mem_of_getElem? (i := 23) rfl))) (by decide) (t := .int) (t' := (.array (.object "com/example/stonegaze/stonegaze/Side"))) (by decide) (by decide))))
  have f73 : Fld Z h64 pr0 "com/example/stonegaze/stonegaze/Groups" "groupOf" "[I" (.ref b5) := (f61.other W64 (Or.inr (slot_ne (Or.inr (hw _ (List.mem_of_getElem? (i := 15) rfl))) (Or.inr (hw _ (List.mem_of_getElem? (i := 23) rfl))) (by decide) (t := (.array .int)) (t' := (.array (.object "com/example/stonegaze/stonegaze/Side"))) (by decide) (by decide))))
  have f74 : Arv Z h64 b5 k5 .int pi1 [] (.int (-1 : Int32)) := (f62.other W64 (Ne.symm ne7))
  have f75 : Arv Z h64 b49 k49 (.object "com/example/stonegaze/stonegaze/Side") pi1 [.null, .null] .null := (f63.other W64 (Ne.symm ne51))
  have f76 : Fld Z h64 pr0 "com/example/stonegaze/stonegaze/Groups" "colours" "[Lcom/example/stonegaze/stonegaze/Side;" (.ref b49) := f55.same W64
  have N77 := Fr.snoc X64 N36 G_pr0
  have O77 := O53.wr W64 G_pr0
  have K77 : Keep h0 h64 [pr0] := K53.wr W64 (Or.inl (List.mem_of_getElem? (i := 0) rfl))
  have pre78 : ∀ t, Steps p.tables e below (T64.setTop (mkF m 29 #[rv pr0, iv pi1] [(.int pi1), (.ref pr0)])) t → Go t := fun t kt => pre65 t (by
      refine y_aloadN X64.here hx (hb hby d2_27) rfl rfl (pc' := 28) rfl ?_
      refine y_iloadN X64.here hx (hb hby d2_28) rfl (pc' := 29) rfl ?_
      exact kt)
  obtain ⟨T79, h79, k79, X79, e79, E79, A79, st79⟩ := newP X64 hx hZ (hw _ (List.mem_of_getElem? (i := 13) rfl)) e64 (g := (mkF m 29 #[rv pr0, iv pi1] [(.int pi1), (.ref pr0)])) rfl (hb hby d2_29) rfl NG (cap := 4) NC (by decide) (by decide) (by decide)
  obtain ⟨b79, g79⟩ : ∃ z, z = h64.size := ⟨_, rfl⟩
  rw [← g79] at A79 st79
  have pre80 : ∀ t, Steps p.tables e below (T79.setTop (mkF m 31 #[rv pr0, iv pi1] [(.ref b79), (.ref pr0)])) t → Go t := fun t kt => pre78 t (st79 t kt)
  have lt81 : pr0 < b79 := Nat.lt_of_lt_of_le f66.lt (Nat.le_of_eq g79.symm)
  have ne81 : pr0 ≠ b79 := Nat.ne_of_lt lt81
  have lt82 : b5 < b79 := Nat.lt_of_lt_of_le f74.lt (Nat.le_of_eq g79.symm)
  have ne82 : b5 ≠ b79 := Nat.ne_of_lt lt82
  have lt83 : b49 < b79 := Nat.lt_of_lt_of_le f75.lt (Nat.le_of_eq g79.symm)
  have ne83 : b49 ≠ b79 := Nat.ne_of_lt lt83
  have G84 : n0 ≤ b79 := Nat.le_trans (O77.1 ▸ O77.2.1) (Nat.le_of_eq g79.symm)
  have Z84 : h0.size ≤ b79 := Nat.le_trans K77.1 (Nat.le_of_eq g79.symm)
  have f85 : Exa Z h79 pr0 "com/example/stonegaze/stonegaze/Groups" := (f66.ext E79)
  have f86 : Fld Z h79 pr0 "com/example/stonegaze/stonegaze/Groups" "stones" "[I" .null := (f68.ext E79)
  have f87 : Fld Z h79 pr0 "com/example/stonegaze/stonegaze/Groups" "liberties" "[I" .null := (f69.ext E79)
  have f88 : Fld Z h79 pr0 "com/example/stonegaze/stonegaze/Groups" "ringed" "[Z" .null := (f70.ext E79)
  have f89 : Fld Z h79 pr0 "com/example/stonegaze/stonegaze/Groups" "aLiberty" "[I" .null := (f71.ext E79)
  have f90 : Fld Z h79 pr0 "com/example/stonegaze/stonegaze/Groups" "count" "I" (.int (0 : Int32)) := (f72.ext E79)
  have f91 : Fld Z h79 pr0 "com/example/stonegaze/stonegaze/Groups" "groupOf" "[I" (.ref b5) := (f73.ext E79)
  have f92 : Arv Z h79 b5 k5 .int pi1 [] (.int (-1 : Int32)) := (f74.ext E79)
  have f93 : Arv Z h79 b49 k49 (.object "com/example/stonegaze/stonegaze/Side") pi1 [.null, .null] .null := (f75.ext E79)
  have f94 : Fld Z h79 pr0 "com/example/stonegaze/stonegaze/Groups" "colours" "[Lcom/example/stonegaze/stonegaze/Side;" (.ref b49) := (f76.ext E79)
  have O84 := O77.ext E79
  have K84 : Keep h0 h79 [pr0] := K77.ext E79
  have f95 : Arv Z h79 b79 k79 .int pi1 [(.int (0 : Int32)), (.int (0 : Int32))] (.int (0 : Int32)) := (Arv.new A79 NG).pad (pad_rep [] (.int (0 : Int32)) 2)
  obtain ⟨T96, h96, X96, e96, W96, st96⟩ := putF X79 hx hZ hown (host := "") (Or.inl (hw _ (List.mem_of_getElem? (i := 24) rfl))) Via.refl e79 f86 f85 (Or.inr ⟨(hw _ (List.mem_of_getElem? (i := 25) rfl)), rfl, hnm⟩) (hw _ (List.mem_of_getElem? (i := 5) rfl)) (ty := (.array .int)) (by decide) rfl rfl (g := (mkF m 31 #[rv pr0, iv pi1] [(.ref b79), (.ref pr0)])) rfl rfl (hb hby d2_31)
  have pre97 : ∀ t, Steps p.tables e below (T96.setTop (mkF m 34 #[rv pr0, iv pi1] [])) t → Go t := fun t kt => pre80 t (st96 t kt)
  have f98 : Exa Z h96 pr0 "com/example/stonegaze/stonegaze/Groups" := (f85.wr W96)
  have f100 : Fld Z h96 pr0 "com/example/stonegaze/stonegaze/Groups" "liberties" "[I" .null := (f87.other W96 (Or.inr (slot_ne (Or.inr (hw _ (List.mem_of_getElem? (i := 27) rfl))) (Or.inr (hw _ (List.mem_of_getElem? (i := 25) rfl))) (by decide) (t := (.array .int)) (t' := (.array .int)) (by decide) (by decide))))
  have f101 : Fld Z h96 pr0 "com/example/stonegaze/stonegaze/Groups" "ringed" "[Z" .null := (f88.other W96 (Or.inr (slot_ne (Or.inr (hw _ (List.mem_of_getElem? (i := 30) rfl))) (Or.inr (hw _ (List.mem_of_getElem? (i := 25) rfl))) (by decide) (t := (.array .boolean)) (t' := (.array .int)) (by decide) (by decide))))
  have f102 : Fld Z h96 pr0 "com/example/stonegaze/stonegaze/Groups" "aLiberty" "[I" .null := (f89.other W96 (Or.inr (slot_ne (Or.inr (hw _ (List.mem_of_getElem? (i := 32) rfl))) (Or.inr (hw _ (List.mem_of_getElem? (i := 25) rfl))) (by decide) (t := (.array .int)) (t' := (.array .int)) (by decide) (by decide))))
  have f103 : Fld Z h96 pr0 "com/example/stonegaze/stonegaze/Groups" "count" "I" (.int (0 : Int32)) := (f90.other W96 (Or.inr (slot_ne (Or.inl (hw _ (List.mem_of_getElem? (i := 42) rfl))) (Or.inr (hw _ (List.mem_of_getElem? (i := 25) rfl))) (by decide) (t := .int) (t' := (.array .int)) (by decide) (by decide))))
  have f104 : Fld Z h96 pr0 "com/example/stonegaze/stonegaze/Groups" "groupOf" "[I" (.ref b5) := (f91.other W96 (Or.inr (slot_ne (Or.inr (hw _ (List.mem_of_getElem? (i := 15) rfl))) (Or.inr (hw _ (List.mem_of_getElem? (i := 25) rfl))) (by decide) (t := (.array .int)) (t' := (.array .int)) (by decide) (by decide))))
  have f105 : Arv Z h96 b5 k5 .int pi1 [] (.int (-1 : Int32)) := (f92.other W96 (Ne.symm ne7))
  have f106 : Arv Z h96 b49 k49 (.object "com/example/stonegaze/stonegaze/Side") pi1 [.null, .null] .null := (f93.other W96 (Ne.symm ne51))
  have f107 : Fld Z h96 pr0 "com/example/stonegaze/stonegaze/Groups" "colours" "[Lcom/example/stonegaze/stonegaze/Side;" (.ref b49) := (f94.other W96 (Or.inr (slot_ne (Or.inr (hw _ (List.mem_of_getElem? (i := 23) rfl))) (Or.inr (hw _ (List.mem_of_getElem? (i := 25) rfl))) (by decide) (t := (.array (.object "com/example/stonegaze/stonegaze/Side"))) (t' := (.array .int)) (by decide) (by decide))))
  have f108 : Arv Z h96 b79 k79 .int pi1 [(.int (0 : Int32)), (.int (0 : Int32))] (.int (0 : Int32)) := (f95.other W96 (Ne.symm ne81))
  have f109 : Fld Z h96 pr0 "com/example/stonegaze/stonegaze/Groups" "stones" "[I" (.ref b79) := f86.same W96
  have N110 := Fr.snoc X96 N77 G_pr0
  have O110 := O84.wr W96 G_pr0
  have K110 : Keep h0 h96 [pr0] := K84.wr W96 (Or.inl (List.mem_of_getElem? (i := 0) rfl))
  have pre111 : ∀ t, Steps p.tables e below (T96.setTop (mkF m 36 #[rv pr0, iv pi1] [(.int pi1), (.ref pr0)])) t → Go t := fun t kt => pre97 t (by
      refine y_aloadN X96.here hx (hb hby d2_34) rfl rfl (pc' := 35) rfl ?_
      refine y_iloadN X96.here hx (hb hby d2_35) rfl (pc' := 36) rfl ?_
      exact kt)
  obtain ⟨T112, h112, k112, X112, e112, E112, A112, st112⟩ := newP X96 hx hZ (hw _ (List.mem_of_getElem? (i := 13) rfl)) e96 (g := (mkF m 36 #[rv pr0, iv pi1] [(.int pi1), (.ref pr0)])) rfl (hb hby d2_36) rfl NG (cap := 4) NC (by decide) (by decide) (by decide)
  obtain ⟨b112, g112⟩ : ∃ z, z = h96.size := ⟨_, rfl⟩
  rw [← g112] at A112 st112
  have pre113 : ∀ t, Steps p.tables e below (T112.setTop (mkF m 38 #[rv pr0, iv pi1] [(.ref b112), (.ref pr0)])) t → Go t := fun t kt => pre111 t (st112 t kt)
  have lt114 : pr0 < b112 := Nat.lt_of_lt_of_le f98.lt (Nat.le_of_eq g112.symm)
  have ne114 : pr0 ≠ b112 := Nat.ne_of_lt lt114
  have lt115 : b5 < b112 := Nat.lt_of_lt_of_le f105.lt (Nat.le_of_eq g112.symm)
  have ne115 : b5 ≠ b112 := Nat.ne_of_lt lt115
  have lt116 : b49 < b112 := Nat.lt_of_lt_of_le f106.lt (Nat.le_of_eq g112.symm)
  have ne116 : b49 ≠ b112 := Nat.ne_of_lt lt116
  have lt117 : b79 < b112 := Nat.lt_of_lt_of_le f108.lt (Nat.le_of_eq g112.symm)
  have ne117 : b79 ≠ b112 := Nat.ne_of_lt lt117
  have G118 : n0 ≤ b112 := Nat.le_trans (O110.1 ▸ O110.2.1) (Nat.le_of_eq g112.symm)
  have Z118 : h0.size ≤ b112 := Nat.le_trans K110.1 (Nat.le_of_eq g112.symm)
  have f119 : Exa Z h112 pr0 "com/example/stonegaze/stonegaze/Groups" := (f98.ext E112)
  have f120 : Fld Z h112 pr0 "com/example/stonegaze/stonegaze/Groups" "liberties" "[I" .null := (f100.ext E112)
  have f121 : Fld Z h112 pr0 "com/example/stonegaze/stonegaze/Groups" "ringed" "[Z" .null := (f101.ext E112)
  have f122 : Fld Z h112 pr0 "com/example/stonegaze/stonegaze/Groups" "aLiberty" "[I" .null := (f102.ext E112)
  have f123 : Fld Z h112 pr0 "com/example/stonegaze/stonegaze/Groups" "count" "I" (.int (0 : Int32)) := (f103.ext E112)
  have f124 : Fld Z h112 pr0 "com/example/stonegaze/stonegaze/Groups" "groupOf" "[I" (.ref b5) := (f104.ext E112)
  have f125 : Arv Z h112 b5 k5 .int pi1 [] (.int (-1 : Int32)) := (f105.ext E112)
  have f126 : Arv Z h112 b49 k49 (.object "com/example/stonegaze/stonegaze/Side") pi1 [.null, .null] .null := (f106.ext E112)
  have f127 : Fld Z h112 pr0 "com/example/stonegaze/stonegaze/Groups" "colours" "[Lcom/example/stonegaze/stonegaze/Side;" (.ref b49) := (f107.ext E112)
  have f128 : Arv Z h112 b79 k79 .int pi1 [(.int (0 : Int32)), (.int (0 : Int32))] (.int (0 : Int32)) := (f108.ext E112)
  have f129 : Fld Z h112 pr0 "com/example/stonegaze/stonegaze/Groups" "stones" "[I" (.ref b79) := (f109.ext E112)
  have O118 := O110.ext E112
  have K118 : Keep h0 h112 [pr0] := K110.ext E112
  have f130 : Arv Z h112 b112 k112 .int pi1 [(.int (0 : Int32)), (.int (0 : Int32))] (.int (0 : Int32)) := (Arv.new A112 NG).pad (pad_rep [] (.int (0 : Int32)) 2)
  obtain ⟨T131, h131, X131, e131, W131, st131⟩ := putF X112 hx hZ hown (host := "") (Or.inl (hw _ (List.mem_of_getElem? (i := 26) rfl))) Via.refl e112 f120 f119 (Or.inr ⟨(hw _ (List.mem_of_getElem? (i := 27) rfl)), rfl, hnm⟩) (hw _ (List.mem_of_getElem? (i := 5) rfl)) (ty := (.array .int)) (by decide) rfl rfl (g := (mkF m 38 #[rv pr0, iv pi1] [(.ref b112), (.ref pr0)])) rfl rfl (hb hby d2_38)
  have pre132 : ∀ t, Steps p.tables e below (T131.setTop (mkF m 41 #[rv pr0, iv pi1] [])) t → Go t := fun t kt => pre113 t (st131 t kt)
  have f133 : Exa Z h131 pr0 "com/example/stonegaze/stonegaze/Groups" := (f119.wr W131)
  have f135 : Fld Z h131 pr0 "com/example/stonegaze/stonegaze/Groups" "ringed" "[Z" .null := (f121.other W131 (Or.inr (slot_ne (Or.inr (hw _ (List.mem_of_getElem? (i := 30) rfl))) (Or.inr (hw _ (List.mem_of_getElem? (i := 27) rfl))) (by decide) (t := (.array .boolean)) (t' := (.array .int)) (by decide) (by decide))))
  have f136 : Fld Z h131 pr0 "com/example/stonegaze/stonegaze/Groups" "aLiberty" "[I" .null := (f122.other W131 (Or.inr (slot_ne (Or.inr (hw _ (List.mem_of_getElem? (i := 32) rfl))) (Or.inr (hw _ (List.mem_of_getElem? (i := 27) rfl))) (by decide) (t := (.array .int)) (t' := (.array .int)) (by decide) (by decide))))
  have f137 : Fld Z h131 pr0 "com/example/stonegaze/stonegaze/Groups" "count" "I" (.int (0 : Int32)) := (f123.other W131 (Or.inr (slot_ne (Or.inl (hw _ (List.mem_of_getElem? (i := 42) rfl))) (Or.inr (hw _ (List.mem_of_getElem? (i := 27) rfl))) (by decide) (t := .int) (t' := (.array .int)) (by decide) (by decide))))
  have f138 : Fld Z h131 pr0 "com/example/stonegaze/stonegaze/Groups" "groupOf" "[I" (.ref b5) := (f124.other W131 (Or.inr (slot_ne (Or.inr (hw _ (List.mem_of_getElem? (i := 15) rfl))) (Or.inr (hw _ (List.mem_of_getElem? (i := 27) rfl))) (by decide) (t := (.array .int)) (t' := (.array .int)) (by decide) (by decide))))
  have f139 : Arv Z h131 b5 k5 .int pi1 [] (.int (-1 : Int32)) := (f125.other W131 (Ne.symm ne7))
  have f140 : Arv Z h131 b49 k49 (.object "com/example/stonegaze/stonegaze/Side") pi1 [.null, .null] .null := (f126.other W131 (Ne.symm ne51))
  have f141 : Fld Z h131 pr0 "com/example/stonegaze/stonegaze/Groups" "colours" "[Lcom/example/stonegaze/stonegaze/Side;" (.ref b49) := (f127.other W131 (Or.inr (slot_ne (Or.inr (hw _ (List.mem_of_getElem? (i := 23) rfl))) (Or.inr (hw _ (List.mem_of_getElem? (i := 27) rfl))) (by decide) (t := (.array (.object "com/example/stonegaze/stonegaze/Side"))) (t' := (.array .int)) (by decide) (by decide))))
  have f142 : Arv Z h131 b79 k79 .int pi1 [(.int (0 : Int32)), (.int (0 : Int32))] (.int (0 : Int32)) := (f128.other W131 (Ne.symm ne81))
  have f143 : Fld Z h131 pr0 "com/example/stonegaze/stonegaze/Groups" "stones" "[I" (.ref b79) := (f129.other W131 (Or.inr (slot_ne (Or.inr (hw _ (List.mem_of_getElem? (i := 25) rfl))) (Or.inr (hw _ (List.mem_of_getElem? (i := 27) rfl))) (by decide) (t := (.array .int)) (t' := (.array .int)) (by decide) (by decide))))
  have f144 : Arv Z h131 b112 k112 .int pi1 [(.int (0 : Int32)), (.int (0 : Int32))] (.int (0 : Int32)) := (f130.other W131 (Ne.symm ne114))
  have f145 : Fld Z h131 pr0 "com/example/stonegaze/stonegaze/Groups" "liberties" "[I" (.ref b112) := f120.same W131
  have N146 := Fr.snoc X131 N110 G_pr0
  have O146 := O118.wr W131 G_pr0
  have K146 : Keep h0 h131 [pr0] := K118.wr W131 (Or.inl (List.mem_of_getElem? (i := 0) rfl))
  have pre147 : ∀ t, Steps p.tables e below (T131.setTop (mkF m 43 #[rv pr0, iv pi1] [(.int pi1), (.ref pr0)])) t → Go t := fun t kt => pre132 t (by
      refine y_aloadN X131.here hx (hb hby d2_41) rfl rfl (pc' := 42) rfl ?_
      refine y_iloadN X131.here hx (hb hby d2_42) rfl (pc' := 43) rfl ?_
      exact kt)
  obtain ⟨T148, h148, k148, X148, e148, E148, A148, st148⟩ := newP X131 hx hZ (hw _ (List.mem_of_getElem? (i := 28) rfl)) e131 (g := (mkF m 43 #[rv pr0, iv pi1] [(.int pi1), (.ref pr0)])) rfl (hb hby d2_43) rfl NG (cap := 4) NC (by decide) (by decide) (by decide)
  obtain ⟨b148, g148⟩ : ∃ z, z = h131.size := ⟨_, rfl⟩
  rw [← g148] at A148 st148
  have pre149 : ∀ t, Steps p.tables e below (T148.setTop (mkF m 45 #[rv pr0, iv pi1] [(.ref b148), (.ref pr0)])) t → Go t := fun t kt => pre147 t (st148 t kt)
  have lt150 : pr0 < b148 := Nat.lt_of_lt_of_le f133.lt (Nat.le_of_eq g148.symm)
  have ne150 : pr0 ≠ b148 := Nat.ne_of_lt lt150
  have lt151 : b5 < b148 := Nat.lt_of_lt_of_le f139.lt (Nat.le_of_eq g148.symm)
  have ne151 : b5 ≠ b148 := Nat.ne_of_lt lt151
  have lt152 : b49 < b148 := Nat.lt_of_lt_of_le f140.lt (Nat.le_of_eq g148.symm)
  have ne152 : b49 ≠ b148 := Nat.ne_of_lt lt152
  have lt153 : b79 < b148 := Nat.lt_of_lt_of_le f142.lt (Nat.le_of_eq g148.symm)
  have ne153 : b79 ≠ b148 := Nat.ne_of_lt lt153
  have lt154 : b112 < b148 := Nat.lt_of_lt_of_le f144.lt (Nat.le_of_eq g148.symm)
  have ne154 : b112 ≠ b148 := Nat.ne_of_lt lt154
  have G155 : n0 ≤ b148 := Nat.le_trans (O146.1 ▸ O146.2.1) (Nat.le_of_eq g148.symm)
  have Z155 : h0.size ≤ b148 := Nat.le_trans K146.1 (Nat.le_of_eq g148.symm)
  have f156 : Exa Z h148 pr0 "com/example/stonegaze/stonegaze/Groups" := (f133.ext E148)
  have f157 : Fld Z h148 pr0 "com/example/stonegaze/stonegaze/Groups" "ringed" "[Z" .null := (f135.ext E148)
  have f158 : Fld Z h148 pr0 "com/example/stonegaze/stonegaze/Groups" "aLiberty" "[I" .null := (f136.ext E148)
  have f159 : Fld Z h148 pr0 "com/example/stonegaze/stonegaze/Groups" "count" "I" (.int (0 : Int32)) := (f137.ext E148)
  have f160 : Fld Z h148 pr0 "com/example/stonegaze/stonegaze/Groups" "groupOf" "[I" (.ref b5) := (f138.ext E148)
  have f161 : Arv Z h148 b5 k5 .int pi1 [] (.int (-1 : Int32)) := (f139.ext E148)
  have f162 : Arv Z h148 b49 k49 (.object "com/example/stonegaze/stonegaze/Side") pi1 [.null, .null] .null := (f140.ext E148)
  have f163 : Fld Z h148 pr0 "com/example/stonegaze/stonegaze/Groups" "colours" "[Lcom/example/stonegaze/stonegaze/Side;" (.ref b49) := (f141.ext E148)
  have f164 : Arv Z h148 b79 k79 .int pi1 [(.int (0 : Int32)), (.int (0 : Int32))] (.int (0 : Int32)) := (f142.ext E148)
  have f165 : Fld Z h148 pr0 "com/example/stonegaze/stonegaze/Groups" "stones" "[I" (.ref b79) := (f143.ext E148)
  have f166 : Arv Z h148 b112 k112 .int pi1 [(.int (0 : Int32)), (.int (0 : Int32))] (.int (0 : Int32)) := (f144.ext E148)
  have f167 : Fld Z h148 pr0 "com/example/stonegaze/stonegaze/Groups" "liberties" "[I" (.ref b112) := (f145.ext E148)
  have O155 := O146.ext E148
  have K155 : Keep h0 h148 [pr0] := K146.ext E148
  have f168 : Arv Z h148 b148 k148 .boolean pi1 [(.int (0 : Int32)), (.int (0 : Int32))] (.int (0 : Int32)) := (Arv.new A148 NG).pad (pad_rep [] (.int (0 : Int32)) 2)
  obtain ⟨T169, h169, X169, e169, W169, st169⟩ := putF X148 hx hZ hown (host := "") (Or.inl (hw _ (List.mem_of_getElem? (i := 29) rfl))) Via.refl e148 f157 f156 (Or.inr ⟨(hw _ (List.mem_of_getElem? (i := 30) rfl)), rfl, hnm⟩) (hw _ (List.mem_of_getElem? (i := 5) rfl)) (ty := (.array .boolean)) (by decide) rfl rfl (g := (mkF m 45 #[rv pr0, iv pi1] [(.ref b148), (.ref pr0)])) rfl rfl (hb hby d2_45)
  have pre170 : ∀ t, Steps p.tables e below (T169.setTop (mkF m 48 #[rv pr0, iv pi1] [])) t → Go t := fun t kt => pre149 t (st169 t kt)
  have f171 : Exa Z h169 pr0 "com/example/stonegaze/stonegaze/Groups" := (f156.wr W169)
  have f173 : Fld Z h169 pr0 "com/example/stonegaze/stonegaze/Groups" "aLiberty" "[I" .null := (f158.other W169 (Or.inr (slot_ne (Or.inr (hw _ (List.mem_of_getElem? (i := 32) rfl))) (Or.inr (hw _ (List.mem_of_getElem? (i := 30) rfl))) (by decide) (t := (.array .int)) (t' := (.array .boolean)) (by decide) (by decide))))
  have f174 : Fld Z h169 pr0 "com/example/stonegaze/stonegaze/Groups" "count" "I" (.int (0 : Int32)) := (f159.other W169 (Or.inr (slot_ne (Or.inl (hw _ (List.mem_of_getElem? (i := 42) rfl))) (Or.inr (hw _ (List.mem_of_getElem? (i := 30) rfl))) (by decide) (t := .int) (t' := (.array .boolean)) (by decide) (by decide))))
  have f175 : Fld Z h169 pr0 "com/example/stonegaze/stonegaze/Groups" "groupOf" "[I" (.ref b5) := (f160.other W169 (Or.inr (slot_ne (Or.inr (hw _ (List.mem_of_getElem? (i := 15) rfl))) (Or.inr (hw _ (List.mem_of_getElem? (i := 30) rfl))) (by decide) (t := (.array .int)) (t' := (.array .boolean)) (by decide) (by decide))))
  have f176 : Arv Z h169 b5 k5 .int pi1 [] (.int (-1 : Int32)) := (f161.other W169 (Ne.symm ne7))
  have f177 : Arv Z h169 b49 k49 (.object "com/example/stonegaze/stonegaze/Side") pi1 [.null, .null] .null := (f162.other W169 (Ne.symm ne51))
  have f178 : Fld Z h169 pr0 "com/example/stonegaze/stonegaze/Groups" "colours" "[Lcom/example/stonegaze/stonegaze/Side;" (.ref b49) := (f163.other W169 (Or.inr (slot_ne (Or.inr (hw _ (List.mem_of_getElem? (i := 23) rfl))) (Or.inr (hw _ (List.mem_of_getElem? (i := 30) rfl))) (by decide) (t := (.array (.object "com/example/stonegaze/stonegaze/Side"))) (t' := (.array .boolean)) (by decide) (by decide))))
  have f179 : Arv Z h169 b79 k79 .int pi1 [(.int (0 : Int32)), (.int (0 : Int32))] (.int (0 : Int32)) := (f164.other W169 (Ne.symm ne81))
  have f180 : Fld Z h169 pr0 "com/example/stonegaze/stonegaze/Groups" "stones" "[I" (.ref b79) := (f165.other W169 (Or.inr (slot_ne (Or.inr (hw _ (List.mem_of_getElem? (i := 25) rfl))) (Or.inr (hw _ (List.mem_of_getElem? (i := 30) rfl))) (by decide) (t := (.array .int)) (t' := (.array .boolean)) (by decide) (by decide))))
  have f181 : Arv Z h169 b112 k112 .int pi1 [(.int (0 : Int32)), (.int (0 : Int32))] (.int (0 : Int32)) := (f166.other W169 (Ne.symm ne114))
  have f182 : Fld Z h169 pr0 "com/example/stonegaze/stonegaze/Groups" "liberties" "[I" (.ref b112) := (f167.other W169 (Or.inr (slot_ne (Or.inr (hw _ (List.mem_of_getElem? (i := 27) rfl))) (Or.inr (hw _ (List.mem_of_getElem? (i := 30) rfl))) (by decide) (t := (.array .int)) (t' := (.array .boolean)) (by decide) (by decide))))
  have f183 : Arv Z h169 b148 k148 .boolean pi1 [(.int (0 : Int32)), (.int (0 : Int32))] (.int (0 : Int32)) := (f168.other W169 (Ne.symm ne150))
  have f184 : Fld Z h169 pr0 "com/example/stonegaze/stonegaze/Groups" "ringed" "[Z" (.ref b148) := f157.same W169
  have N185 := Fr.snoc X169 N146 G_pr0
  have O185 := O155.wr W169 G_pr0
  have K185 : Keep h0 h169 [pr0] := K155.wr W169 (Or.inl (List.mem_of_getElem? (i := 0) rfl))
  have pre186 : ∀ t, Steps p.tables e below (T169.setTop (mkF m 50 #[rv pr0, iv pi1] [(.int pi1), (.ref pr0)])) t → Go t := fun t kt => pre170 t (by
      refine y_aloadN X169.here hx (hb hby d2_48) rfl rfl (pc' := 49) rfl ?_
      refine y_iloadN X169.here hx (hb hby d2_49) rfl (pc' := 50) rfl ?_
      exact kt)
  obtain ⟨T187, h187, k187, X187, e187, E187, A187, st187⟩ := newP X169 hx hZ (hw _ (List.mem_of_getElem? (i := 13) rfl)) e169 (g := (mkF m 50 #[rv pr0, iv pi1] [(.int pi1), (.ref pr0)])) rfl (hb hby d2_50) rfl NG (cap := 4) NC (by decide) (by decide) (by decide)
  obtain ⟨b187, g187⟩ : ∃ z, z = h169.size := ⟨_, rfl⟩
  rw [← g187] at A187 st187
  have pre188 : ∀ t, Steps p.tables e below (T187.setTop (mkF m 52 #[rv pr0, iv pi1] [(.ref b187), (.ref pr0)])) t → Go t := fun t kt => pre186 t (st187 t kt)
  have lt189 : pr0 < b187 := Nat.lt_of_lt_of_le f171.lt (Nat.le_of_eq g187.symm)
  have ne189 : pr0 ≠ b187 := Nat.ne_of_lt lt189
  have lt190 : b5 < b187 := Nat.lt_of_lt_of_le f176.lt (Nat.le_of_eq g187.symm)
  have ne190 : b5 ≠ b187 := Nat.ne_of_lt lt190
  have lt191 : b49 < b187 := Nat.lt_of_lt_of_le f177.lt (Nat.le_of_eq g187.symm)
  have ne191 : b49 ≠ b187 := Nat.ne_of_lt lt191
  have lt192 : b79 < b187 := Nat.lt_of_lt_of_le f179.lt (Nat.le_of_eq g187.symm)
  have ne192 : b79 ≠ b187 := Nat.ne_of_lt lt192
  have lt193 : b112 < b187 := Nat.lt_of_lt_of_le f181.lt (Nat.le_of_eq g187.symm)
  have ne193 : b112 ≠ b187 := Nat.ne_of_lt lt193
  have lt194 : b148 < b187 := Nat.lt_of_lt_of_le f183.lt (Nat.le_of_eq g187.symm)
  have ne194 : b148 ≠ b187 := Nat.ne_of_lt lt194
  have G195 : n0 ≤ b187 := Nat.le_trans (O185.1 ▸ O185.2.1) (Nat.le_of_eq g187.symm)
  have Z195 : h0.size ≤ b187 := Nat.le_trans K185.1 (Nat.le_of_eq g187.symm)
  have f196 : Exa Z h187 pr0 "com/example/stonegaze/stonegaze/Groups" := (f171.ext E187)
  have f197 : Fld Z h187 pr0 "com/example/stonegaze/stonegaze/Groups" "aLiberty" "[I" .null := (f173.ext E187)
  have f198 : Fld Z h187 pr0 "com/example/stonegaze/stonegaze/Groups" "count" "I" (.int (0 : Int32)) := (f174.ext E187)
  have f199 : Fld Z h187 pr0 "com/example/stonegaze/stonegaze/Groups" "groupOf" "[I" (.ref b5) := (f175.ext E187)
  have f200 : Arv Z h187 b5 k5 .int pi1 [] (.int (-1 : Int32)) := (f176.ext E187)
  have f201 : Arv Z h187 b49 k49 (.object "com/example/stonegaze/stonegaze/Side") pi1 [.null, .null] .null := (f177.ext E187)
  have f202 : Fld Z h187 pr0 "com/example/stonegaze/stonegaze/Groups" "colours" "[Lcom/example/stonegaze/stonegaze/Side;" (.ref b49) := (f178.ext E187)
  have f203 : Arv Z h187 b79 k79 .int pi1 [(.int (0 : Int32)), (.int (0 : Int32))] (.int (0 : Int32)) := (f179.ext E187)
  have f204 : Fld Z h187 pr0 "com/example/stonegaze/stonegaze/Groups" "stones" "[I" (.ref b79) := (f180.ext E187)
  have f205 : Arv Z h187 b112 k112 .int pi1 [(.int (0 : Int32)), (.int (0 : Int32))] (.int (0 : Int32)) := (f181.ext E187)
  have f206 : Fld Z h187 pr0 "com/example/stonegaze/stonegaze/Groups" "liberties" "[I" (.ref b112) := (f182.ext E187)
  have f207 : Arv Z h187 b148 k148 .boolean pi1 [(.int (0 : Int32)), (.int (0 : Int32))] (.int (0 : Int32)) := (f183.ext E187)
  have f208 : Fld Z h187 pr0 "com/example/stonegaze/stonegaze/Groups" "ringed" "[Z" (.ref b148) := (f184.ext E187)
  have O195 := O185.ext E187
  have K195 : Keep h0 h187 [pr0] := K185.ext E187
  have f209 : Arv Z h187 b187 k187 .int pi1 [(.int (0 : Int32)), (.int (0 : Int32))] (.int (0 : Int32)) := (Arv.new A187 NG).pad (pad_rep [] (.int (0 : Int32)) 2)
  obtain ⟨T210, h210, X210, e210, W210, st210⟩ := putF X187 hx hZ hown (host := "") (Or.inl (hw _ (List.mem_of_getElem? (i := 31) rfl))) Via.refl e187 f197 f196 (Or.inr ⟨(hw _ (List.mem_of_getElem? (i := 32) rfl)), rfl, hnm⟩) (hw _ (List.mem_of_getElem? (i := 5) rfl)) (ty := (.array .int)) (by decide) rfl rfl (g := (mkF m 52 #[rv pr0, iv pi1] [(.ref b187), (.ref pr0)])) rfl rfl (hb hby d2_52)
  have pre211 : ∀ t, Steps p.tables e below (T210.setTop (mkF m 55 #[rv pr0, iv pi1] [])) t → Go t := fun t kt => pre188 t (st210 t kt)
  have f212 : Exa Z h210 pr0 "com/example/stonegaze/stonegaze/Groups" := (f196.wr W210)
  have f214 : Fld Z h210 pr0 "com/example/stonegaze/stonegaze/Groups" "count" "I" (.int (0 : Int32)) := (f198.other W210 (Or.inr (slot_ne (Or.inl (hw _ (List.mem_of_getElem? (i := 42) rfl))) (Or.inr (hw _ (List.mem_of_getElem? (i := 32) rfl))) (by decide) (t := .int) (t' := (.array .int)) (by decide) (by decide))))
  have f215 : Fld Z h210 pr0 "com/example/stonegaze/stonegaze/Groups" "groupOf" "[I" (.ref b5) := (f199.other W210 (Or.inr (slot_ne (Or.inr (hw _ (List.mem_of_getElem? (i := 15) rfl))) (Or.inr (hw _ (List.mem_of_getElem? (i := 32) rfl))) (by decide) (t := (.array .int)) (t' := (.array .int)) (by decide) (by decide))))
  have f216 : Arv Z h210 b5 k5 .int pi1 [] (.int (-1 : Int32)) := (f200.other W210 (Ne.symm ne7))
  have f217 : Arv Z h210 b49 k49 (.object "com/example/stonegaze/stonegaze/Side") pi1 [.null, .null] .null := (f201.other W210 (Ne.symm ne51))
  have f218 : Fld Z h210 pr0 "com/example/stonegaze/stonegaze/Groups" "colours" "[Lcom/example/stonegaze/stonegaze/Side;" (.ref b49) := (f202.other W210 (Or.inr (slot_ne (Or.inr (hw _ (List.mem_of_getElem? (i := 23) rfl))) (Or.inr (hw _ (List.mem_of_getElem? (i := 32) rfl))) (by decide) (t := (.array (.object "com/example/stonegaze/stonegaze/Side"))) (t' := (.array .int)) (by decide) (by decide))))
  have f219 : Arv Z h210 b79 k79 .int pi1 [(.int (0 : Int32)), (.int (0 : Int32))] (.int (0 : Int32)) := (f203.other W210 (Ne.symm ne81))
  have f220 : Fld Z h210 pr0 "com/example/stonegaze/stonegaze/Groups" "stones" "[I" (.ref b79) := (f204.other W210 (Or.inr (slot_ne (Or.inr (hw _ (List.mem_of_getElem? (i := 25) rfl))) (Or.inr (hw _ (List.mem_of_getElem? (i := 32) rfl))) (by decide) (t := (.array .int)) (t' := (.array .int)) (by decide) (by decide))))
  have f221 : Arv Z h210 b112 k112 .int pi1 [(.int (0 : Int32)), (.int (0 : Int32))] (.int (0 : Int32)) := (f205.other W210 (Ne.symm ne114))
  have f222 : Fld Z h210 pr0 "com/example/stonegaze/stonegaze/Groups" "liberties" "[I" (.ref b112) := (f206.other W210 (Or.inr (slot_ne (Or.inr (hw _ (List.mem_of_getElem? (i := 27) rfl))) (Or.inr (hw _ (List.mem_of_getElem? (i := 32) rfl))) (by decide) (t := (.array .int)) (t' := (.array .int)) (by decide) (by decide))))
  have f223 : Arv Z h210 b148 k148 .boolean pi1 [(.int (0 : Int32)), (.int (0 : Int32))] (.int (0 : Int32)) := (f207.other W210 (Ne.symm ne150))
  have f224 : Fld Z h210 pr0 "com/example/stonegaze/stonegaze/Groups" "ringed" "[Z" (.ref b148) := (f208.other W210 (Or.inr (slot_ne (Or.inr (hw _ (List.mem_of_getElem? (i := 30) rfl))) (Or.inr (hw _ (List.mem_of_getElem? (i := 32) rfl))) (by decide) (t := (.array .boolean)) (t' := (.array .int)) (by decide) (by decide))))
  have f225 : Arv Z h210 b187 k187 .int pi1 [(.int (0 : Int32)), (.int (0 : Int32))] (.int (0 : Int32)) := (f209.other W210 (Ne.symm ne189))
  have f226 : Fld Z h210 pr0 "com/example/stonegaze/stonegaze/Groups" "aLiberty" "[I" (.ref b187) := f197.same W210
  have N227 := Fr.snoc X210 N185 G_pr0
  have O227 := O195.wr W210 G_pr0
  have K227 : Keep h0 h210 [pr0] := K195.wr W210 (Or.inl (List.mem_of_getElem? (i := 0) rfl))
  obtain ⟨fs, hr, hrun, hended, hW, hsame⟩ := X210.leave (v := none) (fun _ => rfl)
  refine ⟨_, _, (hGo _).mp (pre211 _ ?_), hrun, hended, _, _, rfl, ?_, ⟨_, rfl⟩, hW, hsame.mono (by decide) (by decide)⟩
  · exact X210.returnOut hx Bd.returns (hb hby d2_55) hr
  · show Q2 Z pr0 pi1 h0 n0 _ T210.heap _
    rw [e210]
    exact ⟨b5, b49, b79, b112, b148, b187, k5, k49, k79, k112, k148, k187, rfl, N227, K227, f215, f218, f220, f222, f224, f226, f214, f216, f217, f219, f221, f223, f225, V49, Z8, lt52, lt83, lt117, lt154, lt194⟩
theorem d5_0 : decode prog_17_method_2_code 0 = .ok (.aload_n 0, 1) := by decide +kernel
theorem d5_1 : decode prog_17_method_2_code 1 = .ok (.getfield 21, 3) := by decide +kernel
theorem d5_4 : decode prog_17_method_2_code 4 = .ok (.aload_n 0, 1) := by decide +kernel
theorem d5_5 : decode prog_17_method_2_code 5 = .ok (.getfield 38, 3) := by decide +kernel
theorem d5_8 : decode prog_17_method_2_code 8 = .ok (.aload_n 1, 1) := by decide +kernel
theorem d5_9 : decode prog_17_method_2_code 9 = .ok (.aastore, 1) := by decide +kernel
theorem d5_10 : decode prog_17_method_2_code 10 = .ok (.aload_n 0, 1) := by decide +kernel
theorem d5_11 : decode prog_17_method_2_code 11 = .ok (.getfield 28, 3) := by decide +kernel
theorem d5_14 : decode prog_17_method_2_code 14 = .ok (.aload_n 0, 1) := by decide +kernel
theorem d5_15 : decode prog_17_method_2_code 15 = .ok (.getfield 38, 3) := by decide +kernel
theorem d5_18 : decode prog_17_method_2_code 18 = .ok (.iload_n 2, 1) := by decide +kernel
theorem d5_19 : decode prog_17_method_2_code 19 = .ok (.iastore, 1) := by decide +kernel
theorem d5_20 : decode prog_17_method_2_code 20 = .ok (.aload_n 0, 1) := by decide +kernel
theorem d5_21 : decode prog_17_method_2_code 21 = .ok (.getfield 35, 3) := by decide +kernel
theorem d5_24 : decode prog_17_method_2_code 24 = .ok (.aload_n 0, 1) := by decide +kernel
theorem d5_25 : decode prog_17_method_2_code 25 = .ok (.getfield 38, 3) := by decide +kernel
theorem d5_28 : decode prog_17_method_2_code 28 = .ok (.iload_n 3, 1) := by decide +kernel
theorem d5_29 : decode prog_17_method_2_code 29 = .ok (.iastore, 1) := by decide +kernel
theorem d5_30 : decode prog_17_method_2_code 30 = .ok (.aload_n 0, 1) := by decide +kernel
theorem d5_31 : decode prog_17_method_2_code 31 = .ok (.getfield 31, 3) := by decide +kernel
theorem d5_34 : decode prog_17_method_2_code 34 = .ok (.aload_n 0, 1) := by decide +kernel
theorem d5_35 : decode prog_17_method_2_code 35 = .ok (.getfield 38, 3) := by decide +kernel
theorem d5_38 : decode prog_17_method_2_code 38 = .ok (.iload 4, 2) := by decide +kernel
theorem d5_40 : decode prog_17_method_2_code 40 = .ok (.bastore, 1) := by decide +kernel
theorem d5_41 : decode prog_17_method_2_code 41 = .ok (.aload_n 0, 1) := by decide +kernel
theorem d5_42 : decode prog_17_method_2_code 42 = .ok (.dup, 1) := by decide +kernel
theorem d5_43 : decode prog_17_method_2_code 43 = .ok (.getfield 38, 3) := by decide +kernel
theorem d5_46 : decode prog_17_method_2_code 46 = .ok (.iconst 1, 1) := by decide +kernel
theorem d5_47 : decode prog_17_method_2_code 47 = .ok (.iadd, 1) := by decide +kernel
theorem d5_48 : decode prog_17_method_2_code 48 = .ok (.putfield 38, 3) := by decide +kernel
theorem d5_51 : decode prog_17_method_2_code 51 = .ok (.aload_n 0, 1) := by decide +kernel
theorem d5_52 : decode prog_17_method_2_code 52 = .ok (.getfield 38, 3) := by decide +kernel
theorem d5_55 : decode prog_17_method_2_code 55 = .ok (.iconst 1, 1) := by decide +kernel
theorem d5_56 : decode prog_17_method_2_code 56 = .ok (.isub, 1) := by decide +kernel
theorem d5_57 : decode prog_17_method_2_code 57 = .ok (.ireturn, 1) := by decide +kernel
theorem ef_5c0 (m : MethodId) (x0 : Addr) (x1 : Addr) (x2 : Int32) (x3 : Int32) (x4 : Int32) : entryFrame m #[(.ref x0), (.ref x1), (.int x2), (.int x3), (.int x4)] 5 = mkF m 0 #[rv x0, rv x1, iv x2, iv x3, iv x4] [] := by first | (simp [entryFrame, mkF, argsToLocals, Value.category]; done) | rfl
def Q5c0 (Z : State) (pr0 : Addr) (pr1 : Addr) (pi2 : Int32) (pi3 : Int32) (pi4 : Int32) (u_groupOf_pr0 : Addr) (u_colours_pr0 : Addr) (u_stones_pr0 : Addr) (u_liberties_pr0 : Addr) (u_ringed_pr0 : Addr) (u_aLiberty_pr0 : Addr) (nn : Int32) (kk_u_colours_pr0 : ClassId) (kk_u_liberties_pr0 : ClassId) (kk_u_aLiberty_pr0 : ClassId) (kk_u_ringed_pr0 : ClassId) (h0 : Heap) (n0 : Nat) (v : Option Value) (h : Heap) (L : List Loc) : Prop := v = some (.int (0 : Int32)) ∧ Fr n0 L ∧ Keep h0 h [pr0, u_colours_pr0, u_liberties_pr0, u_aLiberty_pr0, u_ringed_pr0] ∧ Fld Z h pr0 "com/example/stonegaze/stonegaze/Groups" "groupOf" "[I" (.ref u_groupOf_pr0) ∧ Fld Z h pr0 "com/example/stonegaze/stonegaze/Groups" "colours" "[Lcom/example/stonegaze/stonegaze/Side;" (.ref u_colours_pr0) ∧ Fld Z h pr0 "com/example/stonegaze/stonegaze/Groups" "stones" "[I" (.ref u_stones_pr0) ∧ Fld Z h pr0 "com/example/stonegaze/stonegaze/Groups" "liberties" "[I" (.ref u_liberties_pr0) ∧ Fld Z h pr0 "com/example/stonegaze/stonegaze/Groups" "ringed" "[Z" (.ref u_ringed_pr0) ∧ Fld Z h pr0 "com/example/stonegaze/stonegaze/Groups" "aLiberty" "[I" (.ref u_aLiberty_pr0) ∧ Fld Z h pr0 "com/example/stonegaze/stonegaze/Groups" "count" "I" (.int (1 : Int32)) ∧ Arv Z h u_colours_pr0 kk_u_colours_pr0 (.object "com/example/stonegaze/stonegaze/Side") nn [(.ref pr1), .null] .null ∧ Arv Z h u_liberties_pr0 kk_u_liberties_pr0 .int nn [(.int pi2), (.int (0 : Int32))] (.int (0 : Int32)) ∧ Arv Z h u_aLiberty_pr0 kk_u_aLiberty_pr0 .int nn [(.int pi3), (.int (0 : Int32))] (.int (0 : Int32)) ∧ Arv Z h u_ringed_pr0 kk_u_ringed_pr0 .boolean nn [(.int (nar .boolean pi4)), (.int (0 : Int32))] (.int (0 : Int32))
set_option maxRecDepth 65536 in
set_option maxHeartbeats 40000000 in
theorem rm5c0 (l : Launch) (Z : State) (a0 : Array Value) (hw : ∀ d ∈ tables_1, d.before a0 Z = true) (ws : List Jvm.Cond) (pr0 : Addr) (pr1 : Addr) (pi2 : Int32) (pi3 : Int32) (pi4 : Int32) (u_groupOf_pr0 : Addr) (u_colours_pr0 : Addr) (u_stones_pr0 : Addr) (u_liberties_pr0 : Addr) (u_ringed_pr0 : Addr) (u_aLiberty_pr0 : Addr) (nn : Int32) (kk_u_colours_pr0 : ClassId) (kk_u_liberties_pr0 : ClassId) (kk_u_aLiberty_pr0 : ClassId) (kk_u_ringed_pr0 : ClassId) (h0 : Heap) (n0 : Nat) (O0 : Old Z n0 h0) (E_pr0 : Exa Z h0 pr0 "com/example/stonegaze/stonegaze/Groups") (F_groupOf_pr0 : Fld Z h0 pr0 "com/example/stonegaze/stonegaze/Groups" "groupOf" "[I" (.ref u_groupOf_pr0)) (F_colours_pr0 : Fld Z h0 pr0 "com/example/stonegaze/stonegaze/Groups" "colours" "[Lcom/example/stonegaze/stonegaze/Side;" (.ref u_colours_pr0)) (F_stones_pr0 : Fld Z h0 pr0 "com/example/stonegaze/stonegaze/Groups" "stones" "[I" (.ref u_stones_pr0)) (F_liberties_pr0 : Fld Z h0 pr0 "com/example/stonegaze/stonegaze/Groups" "liberties" "[I" (.ref u_liberties_pr0)) (F_ringed_pr0 : Fld Z h0 pr0 "com/example/stonegaze/stonegaze/Groups" "ringed" "[Z" (.ref u_ringed_pr0)) (F_aLiberty_pr0 : Fld Z h0 pr0 "com/example/stonegaze/stonegaze/Groups" "aLiberty" "[I" (.ref u_aLiberty_pr0)) (F_count_pr0 : Fld Z h0 pr0 "com/example/stonegaze/stonegaze/Groups" "count" "I" (.int (0 : Int32))) (E_pr1 : Exa Z h0 pr1 "com/example/stonegaze/stonegaze/Side") (G_pr0 : n0 ≤ pr0) (G_u_colours_pr0 : n0 ≤ u_colours_pr0) (G_u_liberties_pr0 : n0 ≤ u_liberties_pr0) (G_u_aLiberty_pr0 : n0 ≤ u_aLiberty_pr0) (G_u_ringed_pr0 : n0 ≤ u_ringed_pr0) (OR : @LT.lt Nat instLTNat pr0 u_groupOf_pr0 ∧ @LT.lt Nat instLTNat u_groupOf_pr0 u_colours_pr0 ∧ @LT.lt Nat instLTNat u_colours_pr0 u_stones_pr0 ∧ @LT.lt Nat instLTNat u_stones_pr0 u_liberties_pr0 ∧ @LT.lt Nat instLTNat u_liberties_pr0 u_ringed_pr0 ∧ @LT.lt Nat instLTNat u_ringed_pr0 u_aLiberty_pr0) (L0 : (0 : Int32) < nn) (L1 : (1 : Int32) < nn) (V_u_colours_pr0 : Arv Z h0 u_colours_pr0 kk_u_colours_pr0 (.object "com/example/stonegaze/stonegaze/Side") nn [.null, .null] .null) (OV_u_colours_pr0 : Ovr Z kk_u_colours_pr0 "com/example/stonegaze/stonegaze/Side") (V_u_liberties_pr0 : Arv Z h0 u_liberties_pr0 kk_u_liberties_pr0 .int nn [(.int (0 : Int32)), (.int (0 : Int32))] (.int (0 : Int32))) (V_u_aLiberty_pr0 : Arv Z h0 u_aLiberty_pr0 kk_u_aLiberty_pr0 .int nn [(.int (0 : Int32)), (.int (0 : Int32))] (.int (0 : Int32))) (V_u_ringed_pr0 : Arv Z h0 u_ringed_pr0 kk_u_ringed_pr0 .boolean nn [(.int (0 : Int32)), (.int (0 : Int32))] (.int (0 : Int32))) :
    MetFree l (⟨"com/example/stonegaze/stonegaze/Groups", "add", "(Lcom/example/stonegaze/stonegaze/Side;IIZ)I"⟩ : MethodName) (head1 (Jvm.Cond.code (⟨"com/example/stonegaze/stonegaze/Groups", "add", "(Lcom/example/stonegaze/stonegaze/Side;IIZ)I"⟩ : MethodName) prog_17_method_2_code 5 (some .int) :: ws) ({ frames := 0, cells := 0, slots := 0, locals := 0 } : Room)) (fun a U => a = #[(.ref pr0), (.ref pr1), (.int pi2), (.int pi3), (.int pi4)] ∧ Z.Warmed39 U.vm ∧ U.heap = h0) (fun _ _ _ _ _ => True) (fun _ U o U' => ∃ v L, o = .returned v ∧ Q5c0 Z pr0 pr1 pi2 pi3 pi4 u_groupOf_pr0 u_colours_pr0 u_stones_pr0 u_liberties_pr0 u_ringed_pr0 u_aLiberty_pr0 nn kk_u_colours_pr0 kk_u_liberties_pr0 kk_u_aLiberty_pr0 kk_u_ringed_pr0 h0 n0 v U'.heap L ∧ FrameEnd U o U' L ({ frames := 0, cells := 0, slots := 0, locals := 0 } : Room).cells ({ frames := 0, cells := 0, slots := 0, locals := 0 } : Room).slots) := by
  refine MetFree.of_bodySF (plainFor_of_name pn_com_example_stonegaze_stonegaze_Groups) hisR ?_
  intro p e s m args below meth c s₁ Bd hml0 hP hK
  obtain ⟨rfl, hZ, hh⟩ := hP
  have hx := Bd.exec
  have hby := Bd.bytes
  have hml : c.maxLocals = 5 := hml0
  have hown : s.vm.findClass "com/example/stonegaze/stonegaze/Groups" = some m.cls := findClass_of_methodNamed Bd.named
  have hnm := (name_of_methodNamed Bd.named Bd.method).1
  have X0 : Stand p l e ({ frames := 0, cells := 0, slots := 0, locals := 0 } : Room) s m #[(.ref pr0), (.ref pr1), (.int pi2), (.int pi3), (.int pi4)] below meth c s₁ [] 0 0 := Stand.of_body Bd
  have e0 : s₁.heap = h0 := by rw [← hh, Bd.state]; rfl
  have N0 := Fr.nil n0
  obtain ⟨Go, hGo⟩ : ∃ P : State → Prop, ∀ t, P t ↔ Steps p.tables e below (s₁.setTop (entryFrame m #[(.ref pr0), (.ref pr1), (.int pi2), (.int pi3), (.int pi4)] 5)) t := ⟨_, fun _ => Iff.rfl⟩
  have pre0 : ∀ t, Steps p.tables e below (s₁.setTop (mkF m 0 #[rv pr0, rv pr1, iv pi2, iv pi3, iv pi4] [])) t → Go t := fun t k => (hGo t).mpr (castTop (ef_5c0 m pr0 pr1 pi2 pi3 pi4) k)
  have K0 : Keep h0 h0 [pr0, u_colours_pr0, u_liberties_pr0, u_aLiberty_pr0, u_ringed_pr0] := Keep.refl _ _
  have ne_pr0_u_groupOf_pr0 : pr0 ≠ u_groupOf_pr0 := Nat.ne_of_lt (by have := OR; omega)
  have ne_pr0_u_colours_pr0 : pr0 ≠ u_colours_pr0 := Nat.ne_of_lt (by have := OR; omega)
  have ne_pr0_u_stones_pr0 : pr0 ≠ u_stones_pr0 := Nat.ne_of_lt (by have := OR; omega)
  have ne_pr0_u_liberties_pr0 : pr0 ≠ u_liberties_pr0 := Nat.ne_of_lt (by have := OR; omega)
  have ne_pr0_u_ringed_pr0 : pr0 ≠ u_ringed_pr0 := Nat.ne_of_lt (by have := OR; omega)
  have ne_pr0_u_aLiberty_pr0 : pr0 ≠ u_aLiberty_pr0 := Nat.ne_of_lt (by have := OR; omega)
  have ne_u_groupOf_pr0_u_colours_pr0 : u_groupOf_pr0 ≠ u_colours_pr0 := Nat.ne_of_lt (by have := OR; omega)
  have ne_u_groupOf_pr0_u_stones_pr0 : u_groupOf_pr0 ≠ u_stones_pr0 := Nat.ne_of_lt (by have := OR; omega)
  have ne_u_groupOf_pr0_u_liberties_pr0 : u_groupOf_pr0 ≠ u_liberties_pr0 := Nat.ne_of_lt (by have := OR; omega)
  have ne_u_groupOf_pr0_u_ringed_pr0 : u_groupOf_pr0 ≠ u_ringed_pr0 := Nat.ne_of_lt (by have := OR; omega)
  have ne_u_groupOf_pr0_u_aLiberty_pr0 : u_groupOf_pr0 ≠ u_aLiberty_pr0 := Nat.ne_of_lt (by have := OR; omega)
  have ne_u_colours_pr0_u_stones_pr0 : u_colours_pr0 ≠ u_stones_pr0 := Nat.ne_of_lt (by have := OR; omega)
  have ne_u_colours_pr0_u_liberties_pr0 : u_colours_pr0 ≠ u_liberties_pr0 := Nat.ne_of_lt (by have := OR; omega)
  have ne_u_colours_pr0_u_ringed_pr0 : u_colours_pr0 ≠ u_ringed_pr0 := Nat.ne_of_lt (by have := OR; omega)
  have ne_u_colours_pr0_u_aLiberty_pr0 : u_colours_pr0 ≠ u_aLiberty_pr0 := Nat.ne_of_lt (by have := OR; omega)
  have ne_u_stones_pr0_u_liberties_pr0 : u_stones_pr0 ≠ u_liberties_pr0 := Nat.ne_of_lt (by have := OR; omega)
  have ne_u_stones_pr0_u_ringed_pr0 : u_stones_pr0 ≠ u_ringed_pr0 := Nat.ne_of_lt (by have := OR; omega)
  have ne_u_stones_pr0_u_aLiberty_pr0 : u_stones_pr0 ≠ u_aLiberty_pr0 := Nat.ne_of_lt (by have := OR; omega)
  have ne_u_liberties_pr0_u_ringed_pr0 : u_liberties_pr0 ≠ u_ringed_pr0 := Nat.ne_of_lt (by have := OR; omega)
  have ne_u_liberties_pr0_u_aLiberty_pr0 : u_liberties_pr0 ≠ u_aLiberty_pr0 := Nat.ne_of_lt (by have := OR; omega)
  have ne_u_ringed_pr0_u_aLiberty_pr0 : u_ringed_pr0 ≠ u_aLiberty_pr0 := Nat.ne_of_lt (by have := OR; omega)
  have pre1 : ∀ t, Steps p.tables e below (s₁.setTop (mkF m 1 #[rv pr0, rv pr1, iv pi2, iv pi3, iv pi4] [(.ref pr0)])) t → Go t := fun t kt => pre0 t (by
      refine y_aloadN X0.here hx (hb hby d5_0) rfl rfl (pc' := 1) rfl ?_
      exact kt)
  obtain ⟨T2, X2, e2, st2⟩ := getF X0 hx hZ hown (host := "") (Or.inl (hw _ (List.mem_of_getElem? (i := 22) rfl))) Via.refl e0 F_colours_pr0 (g := (mkF m 1 #[rv pr0, rv pr1, iv pi2, iv pi3, iv pi4] [(.ref pr0)])) rfl rfl (hb hby d5_1)
  have pre3 : ∀ t, Steps p.tables e below (T2.setTop (mkF m 4 #[rv pr0, rv pr1, iv pi2, iv pi3, iv pi4] [(.ref u_colours_pr0)])) t → Go t := fun t kt => pre1 t (st2 t kt)
  have pre4 : ∀ t, Steps p.tables e below (T2.setTop (mkF m 5 #[rv pr0, rv pr1, iv pi2, iv pi3, iv pi4] [(.ref pr0), (.ref u_colours_pr0)])) t → Go t := fun t kt => pre3 t (by
      refine y_aloadN X2.here hx (hb hby d5_4) rfl rfl (pc' := 5) rfl ?_
      exact kt)
  obtain ⟨T5, X5, e5, st5⟩ := getF X2 hx hZ hown (host := "") (Or.inl (hw _ (List.mem_of_getElem? (i := 41) rfl))) Via.refl e2 F_count_pr0 (g := (mkF m 5 #[rv pr0, rv pr1, iv pi2, iv pi3, iv pi4] [(.ref pr0), (.ref u_colours_pr0)])) rfl rfl (hb hby d5_5)
  have pre6 : ∀ t, Steps p.tables e below (T5.setTop (mkF m 8 #[rv pr0, rv pr1, iv pi2, iv pi3, iv pi4] [(.int (0 : Int32)), (.ref u_colours_pr0)])) t → Go t := fun t kt => pre4 t (st5 t kt)
  have pre7 : ∀ t, Steps p.tables e below (T5.setTop (mkF m 9 #[rv pr0, rv pr1, iv pi2, iv pi3, iv pi4] [(.ref pr1), (.int (0 : Int32)), (.ref u_colours_pr0)])) t → Go t := fun t kt => pre6 t (by
      refine y_aloadN X5.here hx (hb hby d5_8) rfl rfl (pc' := 9) rfl ?_
      exact kt)
  obtain ⟨c8, Ar8, q8, S8, M8, H8, G8⟩ := id V_u_colours_pr0
  have hin8 : ¬ ((0 : Int32) < 0 ∨ c8.slots.size ≤ ((0 : Int32)).toNatClampNeg) := inb_of S8 ⟨by decide, L0⟩
  obtain ⟨T9, h9, X9, e9, W9, st9⟩ := stR X5 hx hZ e5 Ar8 (j := (0 : Int32)) hin8 rfl (Sto.ofV Ar8 q8 OV_u_colours_pr0 (Ins.self E_pr1)) (g := (mkF m 9 #[rv pr0, rv pr1, iv pi2, iv pi3, iv pi4] [(.ref pr1), (.int (0 : Int32)), (.ref u_colours_pr0)])) rfl rfl (hb hby d5_9)
  have pre10 : ∀ t, Steps p.tables e below (T9.setTop (mkF m 10 #[rv pr0, rv pr1, iv pi2, iv pi3, iv pi4] [])) t → Go t := fun t kt => pre7 t (st9 t kt)
  have f12 : Arv Z h9 u_liberties_pr0 kk_u_liberties_pr0 .int nn [(.int (0 : Int32)), (.int (0 : Int32))] (.int (0 : Int32)) := (V_u_liberties_pr0.other W9 (Ne.symm ne_u_colours_pr0_u_liberties_pr0))
  have f13 : Arv Z h9 u_aLiberty_pr0 kk_u_aLiberty_pr0 .int nn [(.int (0 : Int32)), (.int (0 : Int32))] (.int (0 : Int32)) := (V_u_aLiberty_pr0.other W9 (Ne.symm ne_u_colours_pr0_u_aLiberty_pr0))
  have f14 : Arv Z h9 u_ringed_pr0 kk_u_ringed_pr0 .boolean nn [(.int (0 : Int32)), (.int (0 : Int32))] (.int (0 : Int32)) := (V_u_ringed_pr0.other W9 (Ne.symm ne_u_colours_pr0_u_ringed_pr0))
  have f15 : Exa Z h9 pr0 "com/example/stonegaze/stonegaze/Groups" := (E_pr0.wr W9)
  have f16 : Fld Z h9 pr0 "com/example/stonegaze/stonegaze/Groups" "groupOf" "[I" (.ref u_groupOf_pr0) := (F_groupOf_pr0.other W9 (Or.inl ne_pr0_u_colours_pr0))
  have f17 : Fld Z h9 pr0 "com/example/stonegaze/stonegaze/Groups" "colours" "[Lcom/example/stonegaze/stonegaze/Side;" (.ref u_colours_pr0) := (F_colours_pr0.other W9 (Or.inl ne_pr0_u_colours_pr0))
  have f18 : Fld Z h9 pr0 "com/example/stonegaze/stonegaze/Groups" "stones" "[I" (.ref u_stones_pr0) := (F_stones_pr0.other W9 (Or.inl ne_pr0_u_colours_pr0))
  have f19 : Fld Z h9 pr0 "com/example/stonegaze/stonegaze/Groups" "liberties" "[I" (.ref u_liberties_pr0) := (F_liberties_pr0.other W9 (Or.inl ne_pr0_u_colours_pr0))
  have f20 : Fld Z h9 pr0 "com/example/stonegaze/stonegaze/Groups" "ringed" "[Z" (.ref u_ringed_pr0) := (F_ringed_pr0.other W9 (Or.inl ne_pr0_u_colours_pr0))
  have f21 : Fld Z h9 pr0 "com/example/stonegaze/stonegaze/Groups" "aLiberty" "[I" (.ref u_aLiberty_pr0) := (F_aLiberty_pr0.other W9 (Or.inl ne_pr0_u_colours_pr0))
  have f22 : Fld Z h9 pr0 "com/example/stonegaze/stonegaze/Groups" "count" "I" (.int (0 : Int32)) := (F_count_pr0.other W9 (Or.inl ne_pr0_u_colours_pr0))
  have f23 : Exa Z h9 pr1 "com/example/stonegaze/stonegaze/Side" := (E_pr1.wr W9)
  have N24 := Fr.snoc X9 N0 G_u_colours_pr0
  have O24 := O0.wr W9 G_u_colours_pr0
  have K24 : Keep h0 h9 [pr0, u_colours_pr0, u_liberties_pr0, u_aLiberty_pr0, u_ringed_pr0] := K0.wr W9 (Or.inl (List.mem_of_getElem? (i := 1) rfl))
  have f25 : Arv Z h9 u_colours_pr0 kk_u_colours_pr0 (.object "com/example/stonegaze/stonegaze/Side") nn [(.ref pr1), .null] .null := Arv.set Ar8 q8 S8 M8 H8 G8 rfl W9 0 rfl (Nat.le_of_ble_eq_true rfl)
  have pre26 : ∀ t, Steps p.tables e below (T9.setTop (mkF m 11 #[rv pr0, rv pr1, iv pi2, iv pi3, iv pi4] [(.ref pr0)])) t → Go t := fun t kt => pre10 t (by
      refine y_aloadN X9.here hx (hb hby d5_10) rfl rfl (pc' := 11) rfl ?_
      exact kt)
  obtain ⟨T27, X27, e27, st27⟩ := getF X9 hx hZ hown (host := "") (Or.inl (hw _ (List.mem_of_getElem? (i := 26) rfl))) Via.refl e9 f19 (g := (mkF m 11 #[rv pr0, rv pr1, iv pi2, iv pi3, iv pi4] [(.ref pr0)])) rfl rfl (hb hby d5_11)
  have pre28 : ∀ t, Steps p.tables e below (T27.setTop (mkF m 14 #[rv pr0, rv pr1, iv pi2, iv pi3, iv pi4] [(.ref u_liberties_pr0)])) t → Go t := fun t kt => pre26 t (st27 t kt)
  have pre29 : ∀ t, Steps p.tables e below (T27.setTop (mkF m 15 #[rv pr0, rv pr1, iv pi2, iv pi3, iv pi4] [(.ref pr0), (.ref u_liberties_pr0)])) t → Go t := fun t kt => pre28 t (by
      refine y_aloadN X27.here hx (hb hby d5_14) rfl rfl (pc' := 15) rfl ?_
      exact kt)
  obtain ⟨T30, X30, e30, st30⟩ := getF X27 hx hZ hown (host := "") (Or.inl (hw _ (List.mem_of_getElem? (i := 41) rfl))) Via.refl e27 f22 (g := (mkF m 15 #[rv pr0, rv pr1, iv pi2, iv pi3, iv pi4] [(.ref pr0), (.ref u_liberties_pr0)])) rfl rfl (hb hby d5_15)
  have pre31 : ∀ t, Steps p.tables e below (T30.setTop (mkF m 18 #[rv pr0, rv pr1, iv pi2, iv pi3, iv pi4] [(.int (0 : Int32)), (.ref u_liberties_pr0)])) t → Go t := fun t kt => pre29 t (st30 t kt)
  have pre32 : ∀ t, Steps p.tables e below (T30.setTop (mkF m 19 #[rv pr0, rv pr1, iv pi2, iv pi3, iv pi4] [(.int pi2), (.int (0 : Int32)), (.ref u_liberties_pr0)])) t → Go t := fun t kt => pre31 t (by
      refine y_iloadN X30.here hx (hb hby d5_18) rfl (pc' := 19) rfl ?_
      exact kt)
  obtain ⟨c33, Ar33, q33, S33, M33, H33, G33⟩ := id f12
  have hin33 : ¬ ((0 : Int32) < 0 ∨ c33.slots.size ≤ ((0 : Int32)).toNatClampNeg) := inb_of S33 ⟨by decide, L0⟩
  obtain ⟨T34, h34, X34, e34, W34, st34⟩ := stI X30 hx hZ e30 Ar33 (j := (0 : Int32)) hin33 (g := (mkF m 19 #[rv pr0, rv pr1, iv pi2, iv pi3, iv pi4] [(.int pi2), (.int (0 : Int32)), (.ref u_liberties_pr0)])) rfl rfl (hb hby d5_19)
  have pre35 : ∀ t, Steps p.tables e below (T34.setTop (mkF m 20 #[rv pr0, rv pr1, iv pi2, iv pi3, iv pi4] [])) t → Go t := fun t kt => pre32 t (st34 t kt)
  have f37 : Arv Z h34 u_aLiberty_pr0 kk_u_aLiberty_pr0 .int nn [(.int (0 : Int32)), (.int (0 : Int32))] (.int (0 : Int32)) := (f13.other W34 (Ne.symm ne_u_liberties_pr0_u_aLiberty_pr0))
  have f38 : Arv Z h34 u_ringed_pr0 kk_u_ringed_pr0 .boolean nn [(.int (0 : Int32)), (.int (0 : Int32))] (.int (0 : Int32)) := (f14.other W34 (Ne.symm ne_u_liberties_pr0_u_ringed_pr0))
  have f39 : Exa Z h34 pr0 "com/example/stonegaze/stonegaze/Groups" := (f15.wr W34)
  have f40 : Fld Z h34 pr0 "com/example/stonegaze/stonegaze/Groups" "groupOf" "[I" (.ref u_groupOf_pr0) := (f16.other W34 (Or.inl ne_pr0_u_liberties_pr0))
  have f41 : Fld Z h34 pr0 "com/example/stonegaze/stonegaze/Groups" "colours" "[Lcom/example/stonegaze/stonegaze/Side;" (.ref u_colours_pr0) := (f17.other W34 (Or.inl ne_pr0_u_liberties_pr0))
  have f42 : Fld Z h34 pr0 "com/example/stonegaze/stonegaze/Groups" "stones" "[I" (.ref u_stones_pr0) := (f18.other W34 (Or.inl ne_pr0_u_liberties_pr0))
  have f43 : Fld Z h34 pr0 "com/example/stonegaze/stonegaze/Groups" "liberties" "[I" (.ref u_liberties_pr0) := (f19.other W34 (Or.inl ne_pr0_u_liberties_pr0))
  have f44 : Fld Z h34 pr0 "com/example/stonegaze/stonegaze/Groups" "ringed" "[Z" (.ref u_ringed_pr0) := (f20.other W34 (Or.inl ne_pr0_u_liberties_pr0))
  have f45 : Fld Z h34 pr0 "com/example/stonegaze/stonegaze/Groups" "aLiberty" "[I" (.ref u_aLiberty_pr0) := (f21.other W34 (Or.inl ne_pr0_u_liberties_pr0))
  have f46 : Fld Z h34 pr0 "com/example/stonegaze/stonegaze/Groups" "count" "I" (.int (0 : Int32)) := (f22.other W34 (Or.inl ne_pr0_u_liberties_pr0))
  have f47 : Exa Z h34 pr1 "com/example/stonegaze/stonegaze/Side" := (f23.wr W34)
  have f48 : Arv Z h34 u_colours_pr0 kk_u_colours_pr0 (.object "com/example/stonegaze/stonegaze/Side") nn [(.ref pr1), .null] .null := (f25.other W34 ne_u_colours_pr0_u_liberties_pr0)
  have N49 := Fr.snoc X34 N24 G_u_liberties_pr0
  have O49 := O24.wr W34 G_u_liberties_pr0
  have K49 : Keep h0 h34 [pr0, u_colours_pr0, u_liberties_pr0, u_aLiberty_pr0, u_ringed_pr0] := K24.wr W34 (Or.inl (List.mem_of_getElem? (i := 2) rfl))
  have f50 : Arv Z h34 u_liberties_pr0 kk_u_liberties_pr0 .int nn [(.int pi2), (.int (0 : Int32))] (.int (0 : Int32)) := Arv.set Ar33 q33 S33 M33 H33 G33 rfl W34 0 rfl (Nat.le_of_ble_eq_true rfl)
  have pre51 : ∀ t, Steps p.tables e below (T34.setTop (mkF m 21 #[rv pr0, rv pr1, iv pi2, iv pi3, iv pi4] [(.ref pr0)])) t → Go t := fun t kt => pre35 t (by
      refine y_aloadN X34.here hx (hb hby d5_20) rfl rfl (pc' := 21) rfl ?_
      exact kt)
  obtain ⟨T52, X52, e52, st52⟩ := getF X34 hx hZ hown (host := "") (Or.inl (hw _ (List.mem_of_getElem? (i := 31) rfl))) Via.refl e34 f45 (g := (mkF m 21 #[rv pr0, rv pr1, iv pi2, iv pi3, iv pi4] [(.ref pr0)])) rfl rfl (hb hby d5_21)
  have pre53 : ∀ t, Steps p.tables e below (T52.setTop (mkF m 24 #[rv pr0, rv pr1, iv pi2, iv pi3, iv pi4] [(.ref u_aLiberty_pr0)])) t → Go t := fun t kt => pre51 t (st52 t kt)
  have pre54 : ∀ t, Steps p.tables e below (T52.setTop (mkF m 25 #[rv pr0, rv pr1, iv pi2, iv pi3, iv pi4] [(.ref pr0), (.ref u_aLiberty_pr0)])) t → Go t := fun t kt => pre53 t (by
      refine y_aloadN X52.here hx (hb hby d5_24) rfl rfl (pc' := 25) rfl ?_
      exact kt)
  obtain ⟨T55, X55, e55, st55⟩ := getF X52 hx hZ hown (host := "") (Or.inl (hw _ (List.mem_of_getElem? (i := 41) rfl))) Via.refl e52 f46 (g := (mkF m 25 #[rv pr0, rv pr1, iv pi2, iv pi3, iv pi4] [(.ref pr0), (.ref u_aLiberty_pr0)])) rfl rfl (hb hby d5_25)
  have pre56 : ∀ t, Steps p.tables e below (T55.setTop (mkF m 28 #[rv pr0, rv pr1, iv pi2, iv pi3, iv pi4] [(.int (0 : Int32)), (.ref u_aLiberty_pr0)])) t → Go t := fun t kt => pre54 t (st55 t kt)
  have pre57 : ∀ t, Steps p.tables e below (T55.setTop (mkF m 29 #[rv pr0, rv pr1, iv pi2, iv pi3, iv pi4] [(.int pi3), (.int (0 : Int32)), (.ref u_aLiberty_pr0)])) t → Go t := fun t kt => pre56 t (by
      refine y_iloadN X55.here hx (hb hby d5_28) rfl (pc' := 29) rfl ?_
      exact kt)
  obtain ⟨c58, Ar58, q58, S58, M58, H58, G58⟩ := id f37
  have hin58 : ¬ ((0 : Int32) < 0 ∨ c58.slots.size ≤ ((0 : Int32)).toNatClampNeg) := inb_of S58 ⟨by decide, L0⟩
  obtain ⟨T59, h59, X59, e59, W59, st59⟩ := stI X55 hx hZ e55 Ar58 (j := (0 : Int32)) hin58 (g := (mkF m 29 #[rv pr0, rv pr1, iv pi2, iv pi3, iv pi4] [(.int pi3), (.int (0 : Int32)), (.ref u_aLiberty_pr0)])) rfl rfl (hb hby d5_29)
  have pre60 : ∀ t, Steps p.tables e below (T59.setTop (mkF m 30 #[rv pr0, rv pr1, iv pi2, iv pi3, iv pi4] [])) t → Go t := fun t kt => pre57 t (st59 t kt)
  have f62 : Arv Z h59 u_ringed_pr0 kk_u_ringed_pr0 .boolean nn [(.int (0 : Int32)), (.int (0 : Int32))] (.int (0 : Int32)) := (f38.other W59 ne_u_ringed_pr0_u_aLiberty_pr0)
  have f63 : Exa Z h59 pr0 "com/example/stonegaze/stonegaze/Groups" := (f39.wr W59)
  have f64 : Fld Z h59 pr0 "com/example/stonegaze/stonegaze/Groups" "groupOf" "[I" (.ref u_groupOf_pr0) := (f40.other W59 (Or.inl ne_pr0_u_aLiberty_pr0))
  have f65 : Fld Z h59 pr0 "com/example/stonegaze/stonegaze/Groups" "colours" "[Lcom/example/stonegaze/stonegaze/Side;" (.ref u_colours_pr0) := (f41.other W59 (Or.inl ne_pr0_u_aLiberty_pr0))
  have f66 : Fld Z h59 pr0 "com/example/stonegaze/stonegaze/Groups" "stones" "[I" (.ref u_stones_pr0) := (f42.other W59 (Or.inl ne_pr0_u_aLiberty_pr0))
  have f67 : Fld Z h59 pr0 "com/example/stonegaze/stonegaze/Groups" "liberties" "[I" (.ref u_liberties_pr0) := (f43.other W59 (Or.inl ne_pr0_u_aLiberty_pr0))
  have f68 : Fld Z h59 pr0 "com/example/stonegaze/stonegaze/Groups" "ringed" "[Z" (.ref u_ringed_pr0) := (f44.other W59 (Or.inl ne_pr0_u_aLiberty_pr0))
  have f69 : Fld Z h59 pr0 "com/example/stonegaze/stonegaze/Groups" "aLiberty" "[I" (.ref u_aLiberty_pr0) := (f45.other W59 (Or.inl ne_pr0_u_aLiberty_pr0))
  have f70 : Fld Z h59 pr0 "com/example/stonegaze/stonegaze/Groups" "count" "I" (.int (0 : Int32)) := (f46.other W59 (Or.inl ne_pr0_u_aLiberty_pr0))
  have f71 : Exa Z h59 pr1 "com/example/stonegaze/stonegaze/Side" := (f47.wr W59)
  have f72 : Arv Z h59 u_colours_pr0 kk_u_colours_pr0 (.object "com/example/stonegaze/stonegaze/Side") nn [(.ref pr1), .null] .null := (f48.other W59 ne_u_colours_pr0_u_aLiberty_pr0)
  have f73 : Arv Z h59 u_liberties_pr0 kk_u_liberties_pr0 .int nn [(.int pi2), (.int (0 : Int32))] (.int (0 : Int32)) := (f50.other W59 ne_u_liberties_pr0_u_aLiberty_pr0)
  have N74 := Fr.snoc X59 N49 G_u_aLiberty_pr0
  have O74 := O49.wr W59 G_u_aLiberty_pr0
  have K74 : Keep h0 h59 [pr0, u_colours_pr0, u_liberties_pr0, u_aLiberty_pr0, u_ringed_pr0] := K49.wr W59 (Or.inl (List.mem_of_getElem? (i := 3) rfl))
  have f75 : Arv Z h59 u_aLiberty_pr0 kk_u_aLiberty_pr0 .int nn [(.int pi3), (.int (0 : Int32))] (.int (0 : Int32)) := Arv.set Ar58 q58 S58 M58 H58 G58 rfl W59 0 rfl (Nat.le_of_ble_eq_true rfl)
  have pre76 : ∀ t, Steps p.tables e below (T59.setTop (mkF m 31 #[rv pr0, rv pr1, iv pi2, iv pi3, iv pi4] [(.ref pr0)])) t → Go t := fun t kt => pre60 t (by
      refine y_aloadN X59.here hx (hb hby d5_30) rfl rfl (pc' := 31) rfl ?_
      exact kt)
  obtain ⟨T77, X77, e77, st77⟩ := getF X59 hx hZ hown (host := "") (Or.inl (hw _ (List.mem_of_getElem? (i := 29) rfl))) Via.refl e59 f68 (g := (mkF m 31 #[rv pr0, rv pr1, iv pi2, iv pi3, iv pi4] [(.ref pr0)])) rfl rfl (hb hby d5_31)
  have pre78 : ∀ t, Steps p.tables e below (T77.setTop (mkF m 34 #[rv pr0, rv pr1, iv pi2, iv pi3, iv pi4] [(.ref u_ringed_pr0)])) t → Go t := fun t kt => pre76 t (st77 t kt)
  have pre79 : ∀ t, Steps p.tables e below (T77.setTop (mkF m 35 #[rv pr0, rv pr1, iv pi2, iv pi3, iv pi4] [(.ref pr0), (.ref u_ringed_pr0)])) t → Go t := fun t kt => pre78 t (by
      refine y_aloadN X77.here hx (hb hby d5_34) rfl rfl (pc' := 35) rfl ?_
      exact kt)
  obtain ⟨T80, X80, e80, st80⟩ := getF X77 hx hZ hown (host := "") (Or.inl (hw _ (List.mem_of_getElem? (i := 41) rfl))) Via.refl e77 f70 (g := (mkF m 35 #[rv pr0, rv pr1, iv pi2, iv pi3, iv pi4] [(.ref pr0), (.ref u_ringed_pr0)])) rfl rfl (hb hby d5_35)
  have pre81 : ∀ t, Steps p.tables e below (T80.setTop (mkF m 38 #[rv pr0, rv pr1, iv pi2, iv pi3, iv pi4] [(.int (0 : Int32)), (.ref u_ringed_pr0)])) t → Go t := fun t kt => pre79 t (st80 t kt)
  have pre82 : ∀ t, Steps p.tables e below (T80.setTop (mkF m 40 #[rv pr0, rv pr1, iv pi2, iv pi3, iv pi4] [(.int pi4), (.int (0 : Int32)), (.ref u_ringed_pr0)])) t → Go t := fun t kt => pre81 t (by
      refine y_iload X80.here hx (hb hby d5_38) rfl (pc' := 40) rfl ?_
      exact kt)
  obtain ⟨c83, Ar83, q83, S83, M83, H83, G83⟩ := id f62
  have hin83 : ¬ ((0 : Int32) < 0 ∨ c83.slots.size ≤ ((0 : Int32)).toNatClampNeg) := inb_of S83 ⟨by decide, L0⟩
  obtain ⟨T84, h84, X84, e84, W84, st84⟩ := stZ X80 hx hZ e80 Ar83 (j := (0 : Int32)) hin83 (g := (mkF m 40 #[rv pr0, rv pr1, iv pi2, iv pi3, iv pi4] [(.int pi4), (.int (0 : Int32)), (.ref u_ringed_pr0)])) rfl rfl (hb hby d5_40)
  have pre85 : ∀ t, Steps p.tables e below (T84.setTop (mkF m 41 #[rv pr0, rv pr1, iv pi2, iv pi3, iv pi4] [])) t → Go t := fun t kt => pre82 t (st84 t kt)
  have f87 : Exa Z h84 pr0 "com/example/stonegaze/stonegaze/Groups" := (f63.wr W84)
  have f88 : Fld Z h84 pr0 "com/example/stonegaze/stonegaze/Groups" "groupOf" "[I" (.ref u_groupOf_pr0) := (f64.other W84 (Or.inl ne_pr0_u_ringed_pr0))
  have f89 : Fld Z h84 pr0 "com/example/stonegaze/stonegaze/Groups" "colours" "[Lcom/example/stonegaze/stonegaze/Side;" (.ref u_colours_pr0) := (f65.other W84 (Or.inl ne_pr0_u_ringed_pr0))
  have f90 : Fld Z h84 pr0 "com/example/stonegaze/stonegaze/Groups" "stones" "[I" (.ref u_stones_pr0) := (f66.other W84 (Or.inl ne_pr0_u_ringed_pr0))
  have f91 : Fld Z h84 pr0 "com/example/stonegaze/stonegaze/Groups" "liberties" "[I" (.ref u_liberties_pr0) := (f67.other W84 (Or.inl ne_pr0_u_ringed_pr0))
  have f92 : Fld Z h84 pr0 "com/example/stonegaze/stonegaze/Groups" "ringed" "[Z" (.ref u_ringed_pr0) := (f68.other W84 (Or.inl ne_pr0_u_ringed_pr0))
  have f93 : Fld Z h84 pr0 "com/example/stonegaze/stonegaze/Groups" "aLiberty" "[I" (.ref u_aLiberty_pr0) := (f69.other W84 (Or.inl ne_pr0_u_ringed_pr0))
  have f94 : Fld Z h84 pr0 "com/example/stonegaze/stonegaze/Groups" "count" "I" (.int (0 : Int32)) := (f70.other W84 (Or.inl ne_pr0_u_ringed_pr0))
  have f95 : Exa Z h84 pr1 "com/example/stonegaze/stonegaze/Side" := (f71.wr W84)
  have f96 : Arv Z h84 u_colours_pr0 kk_u_colours_pr0 (.object "com/example/stonegaze/stonegaze/Side") nn [(.ref pr1), .null] .null := (f72.other W84 ne_u_colours_pr0_u_ringed_pr0)
  have f97 : Arv Z h84 u_liberties_pr0 kk_u_liberties_pr0 .int nn [(.int pi2), (.int (0 : Int32))] (.int (0 : Int32)) := (f73.other W84 ne_u_liberties_pr0_u_ringed_pr0)
  have f98 : Arv Z h84 u_aLiberty_pr0 kk_u_aLiberty_pr0 .int nn [(.int pi3), (.int (0 : Int32))] (.int (0 : Int32)) := (f75.other W84 (Ne.symm ne_u_ringed_pr0_u_aLiberty_pr0))
  have N99 := Fr.snoc X84 N74 G_u_ringed_pr0
  have O99 := O74.wr W84 G_u_ringed_pr0
  have K99 : Keep h0 h84 [pr0, u_colours_pr0, u_liberties_pr0, u_aLiberty_pr0, u_ringed_pr0] := K74.wr W84 (Or.inl (List.mem_of_getElem? (i := 4) rfl))
  have f100 : Arv Z h84 u_ringed_pr0 kk_u_ringed_pr0 .boolean nn [(.int (nar .boolean pi4)), (.int (0 : Int32))] (.int (0 : Int32)) := Arv.set Ar83 q83 S83 M83 H83 G83 (fits_nar_bool _) W84 0 rfl (Nat.le_of_ble_eq_true rfl)
  have pre101 : ∀ t, Steps p.tables e below (T84.setTop (mkF m 43 #[rv pr0, rv pr1, iv pi2, iv pi3, iv pi4] [(.ref pr0), (.ref pr0)])) t → Go t := fun t kt => pre85 t (by
      refine y_aloadN X84.here hx (hb hby d5_41) rfl rfl (pc' := 42) rfl ?_
      refine y_dup X84.here hx (hb hby d5_42) rfl (pc' := 43) rfl ?_
      exact kt)
  obtain ⟨T102, X102, e102, st102⟩ := getF X84 hx hZ hown (host := "") (Or.inl (hw _ (List.mem_of_getElem? (i := 41) rfl))) Via.refl e84 f94 (g := (mkF m 43 #[rv pr0, rv pr1, iv pi2, iv pi3, iv pi4] [(.ref pr0), (.ref pr0)])) rfl rfl (hb hby d5_43)
  have pre103 : ∀ t, Steps p.tables e below (T102.setTop (mkF m 46 #[rv pr0, rv pr1, iv pi2, iv pi3, iv pi4] [(.int (0 : Int32)), (.ref pr0)])) t → Go t := fun t kt => pre101 t (st102 t kt)
  have pre104 : ∀ t, Steps p.tables e below (T102.setTop (mkF m 48 #[rv pr0, rv pr1, iv pi2, iv pi3, iv pi4] [(.int (1 : Int32)), (.ref pr0)])) t → Go t := fun t kt => pre103 t (by
      refine y_iconst X102.here hx (hb hby d5_46) (v := (1 : Int32)) rfl (pc' := 47) rfl ?_
      refine y_iadd X102.here hx (hb hby d5_47) (z := (1 : Int32)) rfl (pc' := 48) rfl ?_
      exact kt)
  obtain ⟨T105, h105, X105, e105, W105, st105⟩ := putF X102 hx hZ hown (host := "") (Or.inl (hw _ (List.mem_of_getElem? (i := 41) rfl))) Via.refl e102 f94 f87 (Or.inl (hw _ (List.mem_of_getElem? (i := 42) rfl))) (hw _ (List.mem_of_getElem? (i := 5) rfl)) (ty := .int) (by decide) rfl rfl (g := (mkF m 48 #[rv pr0, rv pr1, iv pi2, iv pi3, iv pi4] [(.int (1 : Int32)), (.ref pr0)])) rfl rfl (hb hby d5_48)
  have pre106 : ∀ t, Steps p.tables e below (T105.setTop (mkF m 51 #[rv pr0, rv pr1, iv pi2, iv pi3, iv pi4] [])) t → Go t := fun t kt => pre104 t (st105 t kt)
  have f107 : Exa Z h105 pr0 "com/example/stonegaze/stonegaze/Groups" := (f87.wr W105)
  have f108 : Fld Z h105 pr0 "com/example/stonegaze/stonegaze/Groups" "groupOf" "[I" (.ref u_groupOf_pr0) := (f88.other W105 (Or.inr (slot_ne (Or.inr (hw _ (List.mem_of_getElem? (i := 15) rfl))) (Or.inl (hw _ (List.mem_of_getElem? (i := 42) rfl))) (by decide) (t := (.array .int)) (t' := .int) (by decide) (by decide))))
  have f109 : Fld Z h105 pr0 "com/example/stonegaze/stonegaze/Groups" "colours" "[Lcom/example/stonegaze/stonegaze/Side;" (.ref u_colours_pr0) := (f89.other W105 (Or.inr (slot_ne (Or.inr (hw _ (List.mem_of_getElem? (i := 23) rfl))) (Or.inl (hw _ (List.mem_of_getElem? (i := 42) rfl))) (by decide) (t := (.array (.object "com/example/stonegaze/stonegaze/Side"))) (t' := .int) (by decide) (by decide))))
  have f110 : Fld Z h105 pr0 "com/example/stonegaze/stonegaze/Groups" "stones" "[I" (.ref u_stones_pr0) := (f90.other W105 (Or.inr (slot_ne (Or.inr (hw _ (List.mem_of_getElem? (i := 25) rfl))) (Or.inl (hw _ (List.mem_of_getElem? (i := 42) rfl))) (by decide) (t := (.array .int)) (t' := .int) (by decide) (by decide))))
  have f111 : Fld Z h105 pr0 "com/example/stonegaze/stonegaze/Groups" "liberties" "[I" (.ref u_liberties_pr0) := (f91.other W105 (Or.inr (slot_ne (Or.inr (hw _ (List.mem_of_getElem? (i := 27) rfl))) (Or.inl (hw _ (List.mem_of_getElem? (i := 42) rfl))) (by decide) (t := (.array .int)) (t' := .int) (by decide) (by decide))))
  have f112 : Fld Z h105 pr0 "com/example/stonegaze/stonegaze/Groups" "ringed" "[Z" (.ref u_ringed_pr0) := (f92.other W105 (Or.inr (slot_ne (Or.inr (hw _ (List.mem_of_getElem? (i := 30) rfl))) (Or.inl (hw _ (List.mem_of_getElem? (i := 42) rfl))) (by decide) (t := (.array .boolean)) (t' := .int) (by decide) (by decide))))
  have f113 : Fld Z h105 pr0 "com/example/stonegaze/stonegaze/Groups" "aLiberty" "[I" (.ref u_aLiberty_pr0) := (f93.other W105 (Or.inr (slot_ne (Or.inr (hw _ (List.mem_of_getElem? (i := 32) rfl))) (Or.inl (hw _ (List.mem_of_getElem? (i := 42) rfl))) (by decide) (t := (.array .int)) (t' := .int) (by decide) (by decide))))
  have f115 : Exa Z h105 pr1 "com/example/stonegaze/stonegaze/Side" := (f95.wr W105)
  have f116 : Arv Z h105 u_colours_pr0 kk_u_colours_pr0 (.object "com/example/stonegaze/stonegaze/Side") nn [(.ref pr1), .null] .null := (f96.other W105 (Ne.symm ne_pr0_u_colours_pr0))
  have f117 : Arv Z h105 u_liberties_pr0 kk_u_liberties_pr0 .int nn [(.int pi2), (.int (0 : Int32))] (.int (0 : Int32)) := (f97.other W105 (Ne.symm ne_pr0_u_liberties_pr0))
  have f118 : Arv Z h105 u_aLiberty_pr0 kk_u_aLiberty_pr0 .int nn [(.int pi3), (.int (0 : Int32))] (.int (0 : Int32)) := (f98.other W105 (Ne.symm ne_pr0_u_aLiberty_pr0))
  have f119 : Arv Z h105 u_ringed_pr0 kk_u_ringed_pr0 .boolean nn [(.int (nar .boolean pi4)), (.int (0 : Int32))] (.int (0 : Int32)) := (f100.other W105 (Ne.symm ne_pr0_u_ringed_pr0))
  have f120 : Fld Z h105 pr0 "com/example/stonegaze/stonegaze/Groups" "count" "I" (.int (1 : Int32)) := f94.same W105
  have N121 := Fr.snoc X105 N99 G_pr0
  have O121 := O99.wr W105 G_pr0
  have K121 : Keep h0 h105 [pr0, u_colours_pr0, u_liberties_pr0, u_aLiberty_pr0, u_ringed_pr0] := K99.wr W105 (Or.inl (List.mem_of_getElem? (i := 0) rfl))
  have pre122 : ∀ t, Steps p.tables e below (T105.setTop (mkF m 52 #[rv pr0, rv pr1, iv pi2, iv pi3, iv pi4] [(.ref pr0)])) t → Go t := fun t kt => pre106 t (by
      refine y_aloadN X105.here hx (hb hby d5_51) rfl rfl (pc' := 52) rfl ?_
      exact kt)
  obtain ⟨T123, X123, e123, st123⟩ := getF X105 hx hZ hown (host := "") (Or.inl (hw _ (List.mem_of_getElem? (i := 41) rfl))) Via.refl e105 f120 (g := (mkF m 52 #[rv pr0, rv pr1, iv pi2, iv pi3, iv pi4] [(.ref pr0)])) rfl rfl (hb hby d5_52)
  have pre124 : ∀ t, Steps p.tables e below (T123.setTop (mkF m 55 #[rv pr0, rv pr1, iv pi2, iv pi3, iv pi4] [(.int (1 : Int32))])) t → Go t := fun t kt => pre122 t (st123 t kt)
  have pre125 : ∀ t, Steps p.tables e below (T123.setTop (mkF m 57 #[rv pr0, rv pr1, iv pi2, iv pi3, iv pi4] [(.int (0 : Int32))])) t → Go t := fun t kt => pre124 t (by
      refine y_iconst X123.here hx (hb hby d5_55) (v := (1 : Int32)) rfl (pc' := 56) rfl ?_
      refine y_isub X123.here hx (hb hby d5_56) (z := (0 : Int32)) rfl (pc' := 57) rfl ?_
      exact kt)
  obtain ⟨fs, hr, hrun, hended, hW, hsame⟩ := X123.leave (v := some (.int (0 : Int32))) (fun h => by rw [Bd.returns] at h; cases h)
  refine ⟨_, _, (hGo _).mp (pre125 _ ?_), hrun, hended, _, _, rfl, ?_, ⟨_, rfl⟩, hW, hsame.mono (by decide) (by decide)⟩
  · exact retOut X123 hx Bd.returns rfl (Or.inl ⟨rfl, Or.inl rfl, _, rfl⟩) (hb hby d5_57) hr
  · show Q5c0 Z pr0 pr1 pi2 pi3 pi4 u_groupOf_pr0 u_colours_pr0 u_stones_pr0 u_liberties_pr0 u_ringed_pr0 u_aLiberty_pr0 nn kk_u_colours_pr0 kk_u_liberties_pr0 kk_u_aLiberty_pr0 kk_u_ringed_pr0 h0 n0 _ T123.heap _
    rw [e123]
    exact ⟨rfl, N121, K121, f108, f109, f110, f111, f112, f113, f120, f116, f117, f118, f119⟩
theorem ef_5c1 (m : MethodId) (x0 : Addr) (x1 : Addr) (x2 : Int32) (x3 : Int32) (x4 : Int32) : entryFrame m #[(.ref x0), (.ref x1), (.int x2), (.int x3), (.int x4)] 5 = mkF m 0 #[rv x0, rv x1, iv x2, iv x3, iv x4] [] := by first | (simp [entryFrame, mkF, argsToLocals, Value.category]; done) | rfl
def Q5c1 (Z : State) (pr0 : Addr) (pr1 : Addr) (pi2 : Int32) (pi3 : Int32) (pi4 : Int32) (u_groupOf_pr0 : Addr) (u_colours_pr0 : Addr) (u_stones_pr0 : Addr) (u_liberties_pr0 : Addr) (u_ringed_pr0 : Addr) (u_aLiberty_pr0 : Addr) (nn : Int32) (kk_u_colours_pr0 : ClassId) (y_c0 : Addr) (kk_u_liberties_pr0 : ClassId) (y_l0 : Int32) (kk_u_aLiberty_pr0 : ClassId) (y_a0 : Int32) (kk_u_ringed_pr0 : ClassId) (y_r0 : Int32) (h0 : Heap) (n0 : Nat) (v : Option Value) (h : Heap) (L : List Loc) : Prop := v = some (.int (1 : Int32)) ∧ Fr n0 L ∧ Keep h0 h [pr0, u_colours_pr0, u_liberties_pr0, u_aLiberty_pr0, u_ringed_pr0] ∧ Fld Z h pr0 "com/example/stonegaze/stonegaze/Groups" "groupOf" "[I" (.ref u_groupOf_pr0) ∧ Fld Z h pr0 "com/example/stonegaze/stonegaze/Groups" "colours" "[Lcom/example/stonegaze/stonegaze/Side;" (.ref u_colours_pr0) ∧ Fld Z h pr0 "com/example/stonegaze/stonegaze/Groups" "stones" "[I" (.ref u_stones_pr0) ∧ Fld Z h pr0 "com/example/stonegaze/stonegaze/Groups" "liberties" "[I" (.ref u_liberties_pr0) ∧ Fld Z h pr0 "com/example/stonegaze/stonegaze/Groups" "ringed" "[Z" (.ref u_ringed_pr0) ∧ Fld Z h pr0 "com/example/stonegaze/stonegaze/Groups" "aLiberty" "[I" (.ref u_aLiberty_pr0) ∧ Fld Z h pr0 "com/example/stonegaze/stonegaze/Groups" "count" "I" (.int (2 : Int32)) ∧ Arv Z h u_colours_pr0 kk_u_colours_pr0 (.object "com/example/stonegaze/stonegaze/Side") nn [(.ref y_c0), (.ref pr1)] .null ∧ Arv Z h u_liberties_pr0 kk_u_liberties_pr0 .int nn [(.int y_l0), (.int pi2)] (.int (0 : Int32)) ∧ Arv Z h u_aLiberty_pr0 kk_u_aLiberty_pr0 .int nn [(.int y_a0), (.int pi3)] (.int (0 : Int32)) ∧ Arv Z h u_ringed_pr0 kk_u_ringed_pr0 .boolean nn [(.int y_r0), (.int (nar .boolean pi4))] (.int (0 : Int32))
set_option maxRecDepth 65536 in
set_option maxHeartbeats 40000000 in
theorem rm5c1 (l : Launch) (Z : State) (a0 : Array Value) (hw : ∀ d ∈ tables_1, d.before a0 Z = true) (ws : List Jvm.Cond) (pr0 : Addr) (pr1 : Addr) (pi2 : Int32) (pi3 : Int32) (pi4 : Int32) (u_groupOf_pr0 : Addr) (u_colours_pr0 : Addr) (u_stones_pr0 : Addr) (u_liberties_pr0 : Addr) (u_ringed_pr0 : Addr) (u_aLiberty_pr0 : Addr) (nn : Int32) (kk_u_colours_pr0 : ClassId) (y_c0 : Addr) (kk_u_liberties_pr0 : ClassId) (y_l0 : Int32) (kk_u_aLiberty_pr0 : ClassId) (y_a0 : Int32) (kk_u_ringed_pr0 : ClassId) (y_r0 : Int32) (h0 : Heap) (n0 : Nat) (O0 : Old Z n0 h0) (E_pr0 : Exa Z h0 pr0 "com/example/stonegaze/stonegaze/Groups") (F_groupOf_pr0 : Fld Z h0 pr0 "com/example/stonegaze/stonegaze/Groups" "groupOf" "[I" (.ref u_groupOf_pr0)) (F_colours_pr0 : Fld Z h0 pr0 "com/example/stonegaze/stonegaze/Groups" "colours" "[Lcom/example/stonegaze/stonegaze/Side;" (.ref u_colours_pr0)) (F_stones_pr0 : Fld Z h0 pr0 "com/example/stonegaze/stonegaze/Groups" "stones" "[I" (.ref u_stones_pr0)) (F_liberties_pr0 : Fld Z h0 pr0 "com/example/stonegaze/stonegaze/Groups" "liberties" "[I" (.ref u_liberties_pr0)) (F_ringed_pr0 : Fld Z h0 pr0 "com/example/stonegaze/stonegaze/Groups" "ringed" "[Z" (.ref u_ringed_pr0)) (F_aLiberty_pr0 : Fld Z h0 pr0 "com/example/stonegaze/stonegaze/Groups" "aLiberty" "[I" (.ref u_aLiberty_pr0)) (F_count_pr0 : Fld Z h0 pr0 "com/example/stonegaze/stonegaze/Groups" "count" "I" (.int (1 : Int32))) (E_pr1 : Exa Z h0 pr1 "com/example/stonegaze/stonegaze/Side") (G_pr0 : n0 ≤ pr0) (G_u_colours_pr0 : n0 ≤ u_colours_pr0) (G_u_liberties_pr0 : n0 ≤ u_liberties_pr0) (G_u_aLiberty_pr0 : n0 ≤ u_aLiberty_pr0) (G_u_ringed_pr0 : n0 ≤ u_ringed_pr0) (OR : @LT.lt Nat instLTNat pr0 u_groupOf_pr0 ∧ @LT.lt Nat instLTNat u_groupOf_pr0 u_colours_pr0 ∧ @LT.lt Nat instLTNat u_colours_pr0 u_stones_pr0 ∧ @LT.lt Nat instLTNat u_stones_pr0 u_liberties_pr0 ∧ @LT.lt Nat instLTNat u_liberties_pr0 u_ringed_pr0 ∧ @LT.lt Nat instLTNat u_ringed_pr0 u_aLiberty_pr0) (L0 : (0 : Int32) < nn) (L1 : (1 : Int32) < nn) (V_u_colours_pr0 : Arv Z h0 u_colours_pr0 kk_u_colours_pr0 (.object "com/example/stonegaze/stonegaze/Side") nn [(.ref y_c0), .null] .null) (OV_u_colours_pr0 : Ovr Z kk_u_colours_pr0 "com/example/stonegaze/stonegaze/Side") (V_u_liberties_pr0 : Arv Z h0 u_liberties_pr0 kk_u_liberties_pr0 .int nn [(.int y_l0), (.int (0 : Int32))] (.int (0 : Int32))) (V_u_aLiberty_pr0 : Arv Z h0 u_aLiberty_pr0 kk_u_aLiberty_pr0 .int nn [(.int y_a0), (.int (0 : Int32))] (.int (0 : Int32))) (V_u_ringed_pr0 : Arv Z h0 u_ringed_pr0 kk_u_ringed_pr0 .boolean nn [(.int y_r0), (.int (0 : Int32))] (.int (0 : Int32))) :
    MetFree l (⟨"com/example/stonegaze/stonegaze/Groups", "add", "(Lcom/example/stonegaze/stonegaze/Side;IIZ)I"⟩ : MethodName) (head1 (Jvm.Cond.code (⟨"com/example/stonegaze/stonegaze/Groups", "add", "(Lcom/example/stonegaze/stonegaze/Side;IIZ)I"⟩ : MethodName) prog_17_method_2_code 5 (some .int) :: ws) ({ frames := 0, cells := 0, slots := 0, locals := 0 } : Room)) (fun a U => a = #[(.ref pr0), (.ref pr1), (.int pi2), (.int pi3), (.int pi4)] ∧ Z.Warmed39 U.vm ∧ U.heap = h0) (fun _ _ _ _ _ => True) (fun _ U o U' => ∃ v L, o = .returned v ∧ Q5c1 Z pr0 pr1 pi2 pi3 pi4 u_groupOf_pr0 u_colours_pr0 u_stones_pr0 u_liberties_pr0 u_ringed_pr0 u_aLiberty_pr0 nn kk_u_colours_pr0 y_c0 kk_u_liberties_pr0 y_l0 kk_u_aLiberty_pr0 y_a0 kk_u_ringed_pr0 y_r0 h0 n0 v U'.heap L ∧ FrameEnd U o U' L ({ frames := 0, cells := 0, slots := 0, locals := 0 } : Room).cells ({ frames := 0, cells := 0, slots := 0, locals := 0 } : Room).slots) := by
  refine MetFree.of_bodySF (plainFor_of_name pn_com_example_stonegaze_stonegaze_Groups) hisR ?_
  intro p e s m args below meth c s₁ Bd hml0 hP hK
  obtain ⟨rfl, hZ, hh⟩ := hP
  have hx := Bd.exec
  have hby := Bd.bytes
  have hml : c.maxLocals = 5 := hml0
  have hown : s.vm.findClass "com/example/stonegaze/stonegaze/Groups" = some m.cls := findClass_of_methodNamed Bd.named
  have hnm := (name_of_methodNamed Bd.named Bd.method).1
  have X0 : Stand p l e ({ frames := 0, cells := 0, slots := 0, locals := 0 } : Room) s m #[(.ref pr0), (.ref pr1), (.int pi2), (.int pi3), (.int pi4)] below meth c s₁ [] 0 0 := Stand.of_body Bd
  have e0 : s₁.heap = h0 := by rw [← hh, Bd.state]; rfl
  have N0 := Fr.nil n0
  obtain ⟨Go, hGo⟩ : ∃ P : State → Prop, ∀ t, P t ↔ Steps p.tables e below (s₁.setTop (entryFrame m #[(.ref pr0), (.ref pr1), (.int pi2), (.int pi3), (.int pi4)] 5)) t := ⟨_, fun _ => Iff.rfl⟩
  have pre0 : ∀ t, Steps p.tables e below (s₁.setTop (mkF m 0 #[rv pr0, rv pr1, iv pi2, iv pi3, iv pi4] [])) t → Go t := fun t k => (hGo t).mpr (castTop (ef_5c1 m pr0 pr1 pi2 pi3 pi4) k)
  have K0 : Keep h0 h0 [pr0, u_colours_pr0, u_liberties_pr0, u_aLiberty_pr0, u_ringed_pr0] := Keep.refl _ _
  have ne_pr0_u_groupOf_pr0 : pr0 ≠ u_groupOf_pr0 := Nat.ne_of_lt (by have := OR; omega)
  have ne_pr0_u_colours_pr0 : pr0 ≠ u_colours_pr0 := Nat.ne_of_lt (by have := OR; omega)
  have ne_pr0_u_stones_pr0 : pr0 ≠ u_stones_pr0 := Nat.ne_of_lt (by have := OR; omega)
  have ne_pr0_u_liberties_pr0 : pr0 ≠ u_liberties_pr0 := Nat.ne_of_lt (by have := OR; omega)
  have ne_pr0_u_ringed_pr0 : pr0 ≠ u_ringed_pr0 := Nat.ne_of_lt (by have := OR; omega)
  have ne_pr0_u_aLiberty_pr0 : pr0 ≠ u_aLiberty_pr0 := Nat.ne_of_lt (by have := OR; omega)
  have ne_u_groupOf_pr0_u_colours_pr0 : u_groupOf_pr0 ≠ u_colours_pr0 := Nat.ne_of_lt (by have := OR; omega)
  have ne_u_groupOf_pr0_u_stones_pr0 : u_groupOf_pr0 ≠ u_stones_pr0 := Nat.ne_of_lt (by have := OR; omega)
  have ne_u_groupOf_pr0_u_liberties_pr0 : u_groupOf_pr0 ≠ u_liberties_pr0 := Nat.ne_of_lt (by have := OR; omega)
  have ne_u_groupOf_pr0_u_ringed_pr0 : u_groupOf_pr0 ≠ u_ringed_pr0 := Nat.ne_of_lt (by have := OR; omega)
  have ne_u_groupOf_pr0_u_aLiberty_pr0 : u_groupOf_pr0 ≠ u_aLiberty_pr0 := Nat.ne_of_lt (by have := OR; omega)
  have ne_u_colours_pr0_u_stones_pr0 : u_colours_pr0 ≠ u_stones_pr0 := Nat.ne_of_lt (by have := OR; omega)
  have ne_u_colours_pr0_u_liberties_pr0 : u_colours_pr0 ≠ u_liberties_pr0 := Nat.ne_of_lt (by have := OR; omega)
  have ne_u_colours_pr0_u_ringed_pr0 : u_colours_pr0 ≠ u_ringed_pr0 := Nat.ne_of_lt (by have := OR; omega)
  have ne_u_colours_pr0_u_aLiberty_pr0 : u_colours_pr0 ≠ u_aLiberty_pr0 := Nat.ne_of_lt (by have := OR; omega)
  have ne_u_stones_pr0_u_liberties_pr0 : u_stones_pr0 ≠ u_liberties_pr0 := Nat.ne_of_lt (by have := OR; omega)
  have ne_u_stones_pr0_u_ringed_pr0 : u_stones_pr0 ≠ u_ringed_pr0 := Nat.ne_of_lt (by have := OR; omega)
  have ne_u_stones_pr0_u_aLiberty_pr0 : u_stones_pr0 ≠ u_aLiberty_pr0 := Nat.ne_of_lt (by have := OR; omega)
  have ne_u_liberties_pr0_u_ringed_pr0 : u_liberties_pr0 ≠ u_ringed_pr0 := Nat.ne_of_lt (by have := OR; omega)
  have ne_u_liberties_pr0_u_aLiberty_pr0 : u_liberties_pr0 ≠ u_aLiberty_pr0 := Nat.ne_of_lt (by have := OR; omega)
  have ne_u_ringed_pr0_u_aLiberty_pr0 : u_ringed_pr0 ≠ u_aLiberty_pr0 := Nat.ne_of_lt (by have := OR; omega)
  have pre1 : ∀ t, Steps p.tables e below (s₁.setTop (mkF m 1 #[rv pr0, rv pr1, iv pi2, iv pi3, iv pi4] [(.ref pr0)])) t → Go t := fun t kt => pre0 t (by
      refine y_aloadN X0.here hx (hb hby d5_0) rfl rfl (pc' := 1) rfl ?_
      exact kt)
  obtain ⟨T2, X2, e2, st2⟩ := getF X0 hx hZ hown (host := "") (Or.inl (hw _ (List.mem_of_getElem? (i := 22) rfl))) Via.refl e0 F_colours_pr0 (g := (mkF m 1 #[rv pr0, rv pr1, iv pi2, iv pi3, iv pi4] [(.ref pr0)])) rfl rfl (hb hby d5_1)
  have pre3 : ∀ t, Steps p.tables e below (T2.setTop (mkF m 4 #[rv pr0, rv pr1, iv pi2, iv pi3, iv pi4] [(.ref u_colours_pr0)])) t → Go t := fun t kt => pre1 t (st2 t kt)
  have pre4 : ∀ t, Steps p.tables e below (T2.setTop (mkF m 5 #[rv pr0, rv pr1, iv pi2, iv pi3, iv pi4] [(.ref pr0), (.ref u_colours_pr0)])) t → Go t := fun t kt => pre3 t (by
      refine y_aloadN X2.here hx (hb hby d5_4) rfl rfl (pc' := 5) rfl ?_
      exact kt)
  obtain ⟨T5, X5, e5, st5⟩ := getF X2 hx hZ hown (host := "") (Or.inl (hw _ (List.mem_of_getElem? (i := 41) rfl))) Via.refl e2 F_count_pr0 (g := (mkF m 5 #[rv pr0, rv pr1, iv pi2, iv pi3, iv pi4] [(.ref pr0), (.ref u_colours_pr0)])) rfl rfl (hb hby d5_5)
  have pre6 : ∀ t, Steps p.tables e below (T5.setTop (mkF m 8 #[rv pr0, rv pr1, iv pi2, iv pi3, iv pi4] [(.int (1 : Int32)), (.ref u_colours_pr0)])) t → Go t := fun t kt => pre4 t (st5 t kt)
  have pre7 : ∀ t, Steps p.tables e below (T5.setTop (mkF m 9 #[rv pr0, rv pr1, iv pi2, iv pi3, iv pi4] [(.ref pr1), (.int (1 : Int32)), (.ref u_colours_pr0)])) t → Go t := fun t kt => pre6 t (by
      refine y_aloadN X5.here hx (hb hby d5_8) rfl rfl (pc' := 9) rfl ?_
      exact kt)
  obtain ⟨c8, Ar8, q8, S8, M8, H8, G8⟩ := id V_u_colours_pr0
  have hin8 : ¬ ((1 : Int32) < 0 ∨ c8.slots.size ≤ ((1 : Int32)).toNatClampNeg) := inb_of S8 ⟨by decide, L1⟩
  obtain ⟨T9, h9, X9, e9, W9, st9⟩ := stR X5 hx hZ e5 Ar8 (j := (1 : Int32)) hin8 rfl (Sto.ofV Ar8 q8 OV_u_colours_pr0 (Ins.self E_pr1)) (g := (mkF m 9 #[rv pr0, rv pr1, iv pi2, iv pi3, iv pi4] [(.ref pr1), (.int (1 : Int32)), (.ref u_colours_pr0)])) rfl rfl (hb hby d5_9)
  have pre10 : ∀ t, Steps p.tables e below (T9.setTop (mkF m 10 #[rv pr0, rv pr1, iv pi2, iv pi3, iv pi4] [])) t → Go t := fun t kt => pre7 t (st9 t kt)
  have f12 : Arv Z h9 u_liberties_pr0 kk_u_liberties_pr0 .int nn [(.int y_l0), (.int (0 : Int32))] (.int (0 : Int32)) := (V_u_liberties_pr0.other W9 (Ne.symm ne_u_colours_pr0_u_liberties_pr0))
  have f13 : Arv Z h9 u_aLiberty_pr0 kk_u_aLiberty_pr0 .int nn [(.int y_a0), (.int (0 : Int32))] (.int (0 : Int32)) := (V_u_aLiberty_pr0.other W9 (Ne.symm ne_u_colours_pr0_u_aLiberty_pr0))
  have f14 : Arv Z h9 u_ringed_pr0 kk_u_ringed_pr0 .boolean nn [(.int y_r0), (.int (0 : Int32))] (.int (0 : Int32)) := (V_u_ringed_pr0.other W9 (Ne.symm ne_u_colours_pr0_u_ringed_pr0))
  have f15 : Exa Z h9 pr0 "com/example/stonegaze/stonegaze/Groups" := (E_pr0.wr W9)
  have f16 : Fld Z h9 pr0 "com/example/stonegaze/stonegaze/Groups" "groupOf" "[I" (.ref u_groupOf_pr0) := (F_groupOf_pr0.other W9 (Or.inl ne_pr0_u_colours_pr0))
  have f17 : Fld Z h9 pr0 "com/example/stonegaze/stonegaze/Groups" "colours" "[Lcom/example/stonegaze/stonegaze/Side;" (.ref u_colours_pr0) := (F_colours_pr0.other W9 (Or.inl ne_pr0_u_colours_pr0))
  have f18 : Fld Z h9 pr0 "com/example/stonegaze/stonegaze/Groups" "stones" "[I" (.ref u_stones_pr0) := (F_stones_pr0.other W9 (Or.inl ne_pr0_u_colours_pr0))
  have f19 : Fld Z h9 pr0 "com/example/stonegaze/stonegaze/Groups" "liberties" "[I" (.ref u_liberties_pr0) := (F_liberties_pr0.other W9 (Or.inl ne_pr0_u_colours_pr0))
  have f20 : Fld Z h9 pr0 "com/example/stonegaze/stonegaze/Groups" "ringed" "[Z" (.ref u_ringed_pr0) := (F_ringed_pr0.other W9 (Or.inl ne_pr0_u_colours_pr0))
  have f21 : Fld Z h9 pr0 "com/example/stonegaze/stonegaze/Groups" "aLiberty" "[I" (.ref u_aLiberty_pr0) := (F_aLiberty_pr0.other W9 (Or.inl ne_pr0_u_colours_pr0))
  have f22 : Fld Z h9 pr0 "com/example/stonegaze/stonegaze/Groups" "count" "I" (.int (1 : Int32)) := (F_count_pr0.other W9 (Or.inl ne_pr0_u_colours_pr0))
  have f23 : Exa Z h9 pr1 "com/example/stonegaze/stonegaze/Side" := (E_pr1.wr W9)
  have N24 := Fr.snoc X9 N0 G_u_colours_pr0
  have O24 := O0.wr W9 G_u_colours_pr0
  have K24 : Keep h0 h9 [pr0, u_colours_pr0, u_liberties_pr0, u_aLiberty_pr0, u_ringed_pr0] := K0.wr W9 (Or.inl (List.mem_of_getElem? (i := 1) rfl))
  have f25 : Arv Z h9 u_colours_pr0 kk_u_colours_pr0 (.object "com/example/stonegaze/stonegaze/Side") nn [(.ref y_c0), (.ref pr1)] .null := Arv.set Ar8 q8 S8 M8 H8 G8 rfl W9 1 rfl (Nat.le_of_ble_eq_true rfl)
  have pre26 : ∀ t, Steps p.tables e below (T9.setTop (mkF m 11 #[rv pr0, rv pr1, iv pi2, iv pi3, iv pi4] [(.ref pr0)])) t → Go t := fun t kt => pre10 t (by
      refine y_aloadN X9.here hx (hb hby d5_10) rfl rfl (pc' := 11) rfl ?_
      exact kt)
  obtain ⟨T27, X27, e27, st27⟩ := getF X9 hx hZ hown (host := "") (Or.inl (hw _ (List.mem_of_getElem? (i := 26) rfl))) Via.refl e9 f19 (g := (mkF m 11 #[rv pr0, rv pr1, iv pi2, iv pi3, iv pi4] [(.ref pr0)])) rfl rfl (hb hby d5_11)
  have pre28 : ∀ t, Steps p.tables e below (T27.setTop (mkF m 14 #[rv pr0, rv pr1, iv pi2, iv pi3, iv pi4] [(.ref u_liberties_pr0)])) t → Go t := fun t kt => pre26 t (st27 t kt)
  have pre29 : ∀ t, Steps p.tables e below (T27.setTop (mkF m 15 #[rv pr0, rv pr1, iv pi2, iv pi3, iv pi4] [(.ref pr0), (.ref u_liberties_pr0)])) t → Go t := fun t kt => pre28 t (by
      refine y_aloadN X27.here hx (hb hby d5_14) rfl rfl (pc' := 15) rfl ?_
      exact kt)
  obtain ⟨T30, X30, e30, st30⟩ := getF X27 hx hZ hown (host := "") (Or.inl (hw _ (List.mem_of_getElem? (i := 41) rfl))) Via.refl e27 f22 (g := (mkF m 15 #[rv pr0, rv pr1, iv pi2, iv pi3, iv pi4] [(.ref pr0), (.ref u_liberties_pr0)])) rfl rfl (hb hby d5_15)
  have pre31 : ∀ t, Steps p.tables e below (T30.setTop (mkF m 18 #[rv pr0, rv pr1, iv pi2, iv pi3, iv pi4] [(.int (1 : Int32)), (.ref u_liberties_pr0)])) t → Go t := fun t kt => pre29 t (st30 t kt)
  have pre32 : ∀ t, Steps p.tables e below (T30.setTop (mkF m 19 #[rv pr0, rv pr1, iv pi2, iv pi3, iv pi4] [(.int pi2), (.int (1 : Int32)), (.ref u_liberties_pr0)])) t → Go t := fun t kt => pre31 t (by
      refine y_iloadN X30.here hx (hb hby d5_18) rfl (pc' := 19) rfl ?_
      exact kt)
  obtain ⟨c33, Ar33, q33, S33, M33, H33, G33⟩ := id f12
  have hin33 : ¬ ((1 : Int32) < 0 ∨ c33.slots.size ≤ ((1 : Int32)).toNatClampNeg) := inb_of S33 ⟨by decide, L1⟩
  obtain ⟨T34, h34, X34, e34, W34, st34⟩ := stI X30 hx hZ e30 Ar33 (j := (1 : Int32)) hin33 (g := (mkF m 19 #[rv pr0, rv pr1, iv pi2, iv pi3, iv pi4] [(.int pi2), (.int (1 : Int32)), (.ref u_liberties_pr0)])) rfl rfl (hb hby d5_19)
  have pre35 : ∀ t, Steps p.tables e below (T34.setTop (mkF m 20 #[rv pr0, rv pr1, iv pi2, iv pi3, iv pi4] [])) t → Go t := fun t kt => pre32 t (st34 t kt)
  have f37 : Arv Z h34 u_aLiberty_pr0 kk_u_aLiberty_pr0 .int nn [(.int y_a0), (.int (0 : Int32))] (.int (0 : Int32)) := (f13.other W34 (Ne.symm ne_u_liberties_pr0_u_aLiberty_pr0))
  have f38 : Arv Z h34 u_ringed_pr0 kk_u_ringed_pr0 .boolean nn [(.int y_r0), (.int (0 : Int32))] (.int (0 : Int32)) := (f14.other W34 (Ne.symm ne_u_liberties_pr0_u_ringed_pr0))
  have f39 : Exa Z h34 pr0 "com/example/stonegaze/stonegaze/Groups" := (f15.wr W34)
  have f40 : Fld Z h34 pr0 "com/example/stonegaze/stonegaze/Groups" "groupOf" "[I" (.ref u_groupOf_pr0) := (f16.other W34 (Or.inl ne_pr0_u_liberties_pr0))
  have f41 : Fld Z h34 pr0 "com/example/stonegaze/stonegaze/Groups" "colours" "[Lcom/example/stonegaze/stonegaze/Side;" (.ref u_colours_pr0) := (f17.other W34 (Or.inl ne_pr0_u_liberties_pr0))
  have f42 : Fld Z h34 pr0 "com/example/stonegaze/stonegaze/Groups" "stones" "[I" (.ref u_stones_pr0) := (f18.other W34 (Or.inl ne_pr0_u_liberties_pr0))
  have f43 : Fld Z h34 pr0 "com/example/stonegaze/stonegaze/Groups" "liberties" "[I" (.ref u_liberties_pr0) := (f19.other W34 (Or.inl ne_pr0_u_liberties_pr0))
  have f44 : Fld Z h34 pr0 "com/example/stonegaze/stonegaze/Groups" "ringed" "[Z" (.ref u_ringed_pr0) := (f20.other W34 (Or.inl ne_pr0_u_liberties_pr0))
  have f45 : Fld Z h34 pr0 "com/example/stonegaze/stonegaze/Groups" "aLiberty" "[I" (.ref u_aLiberty_pr0) := (f21.other W34 (Or.inl ne_pr0_u_liberties_pr0))
  have f46 : Fld Z h34 pr0 "com/example/stonegaze/stonegaze/Groups" "count" "I" (.int (1 : Int32)) := (f22.other W34 (Or.inl ne_pr0_u_liberties_pr0))
  have f47 : Exa Z h34 pr1 "com/example/stonegaze/stonegaze/Side" := (f23.wr W34)
  have f48 : Arv Z h34 u_colours_pr0 kk_u_colours_pr0 (.object "com/example/stonegaze/stonegaze/Side") nn [(.ref y_c0), (.ref pr1)] .null := (f25.other W34 ne_u_colours_pr0_u_liberties_pr0)
  have N49 := Fr.snoc X34 N24 G_u_liberties_pr0
  have O49 := O24.wr W34 G_u_liberties_pr0
  have K49 : Keep h0 h34 [pr0, u_colours_pr0, u_liberties_pr0, u_aLiberty_pr0, u_ringed_pr0] := K24.wr W34 (Or.inl (List.mem_of_getElem? (i := 2) rfl))
  have f50 : Arv Z h34 u_liberties_pr0 kk_u_liberties_pr0 .int nn [(.int y_l0), (.int pi2)] (.int (0 : Int32)) := Arv.set Ar33 q33 S33 M33 H33 G33 rfl W34 1 rfl (Nat.le_of_ble_eq_true rfl)
  have pre51 : ∀ t, Steps p.tables e below (T34.setTop (mkF m 21 #[rv pr0, rv pr1, iv pi2, iv pi3, iv pi4] [(.ref pr0)])) t → Go t := fun t kt => pre35 t (by
      refine y_aloadN X34.here hx (hb hby d5_20) rfl rfl (pc' := 21) rfl ?_
      exact kt)
  obtain ⟨T52, X52, e52, st52⟩ := getF X34 hx hZ hown (host := "") (Or.inl (hw _ (List.mem_of_getElem? (i := 31) rfl))) Via.refl e34 f45 (g := (mkF m 21 #[rv pr0, rv pr1, iv pi2, iv pi3, iv pi4] [(.ref pr0)])) rfl rfl (hb hby d5_21)
  have pre53 : ∀ t, Steps p.tables e below (T52.setTop (mkF m 24 #[rv pr0, rv pr1, iv pi2, iv pi3, iv pi4] [(.ref u_aLiberty_pr0)])) t → Go t := fun t kt => pre51 t (st52 t kt)
  have pre54 : ∀ t, Steps p.tables e below (T52.setTop (mkF m 25 #[rv pr0, rv pr1, iv pi2, iv pi3, iv pi4] [(.ref pr0), (.ref u_aLiberty_pr0)])) t → Go t := fun t kt => pre53 t (by
      refine y_aloadN X52.here hx (hb hby d5_24) rfl rfl (pc' := 25) rfl ?_
      exact kt)
  obtain ⟨T55, X55, e55, st55⟩ := getF X52 hx hZ hown (host := "") (Or.inl (hw _ (List.mem_of_getElem? (i := 41) rfl))) Via.refl e52 f46 (g := (mkF m 25 #[rv pr0, rv pr1, iv pi2, iv pi3, iv pi4] [(.ref pr0), (.ref u_aLiberty_pr0)])) rfl rfl (hb hby d5_25)
  have pre56 : ∀ t, Steps p.tables e below (T55.setTop (mkF m 28 #[rv pr0, rv pr1, iv pi2, iv pi3, iv pi4] [(.int (1 : Int32)), (.ref u_aLiberty_pr0)])) t → Go t := fun t kt => pre54 t (st55 t kt)
  have pre57 : ∀ t, Steps p.tables e below (T55.setTop (mkF m 29 #[rv pr0, rv pr1, iv pi2, iv pi3, iv pi4] [(.int pi3), (.int (1 : Int32)), (.ref u_aLiberty_pr0)])) t → Go t := fun t kt => pre56 t (by
      refine y_iloadN X55.here hx (hb hby d5_28) rfl (pc' := 29) rfl ?_
      exact kt)
  obtain ⟨c58, Ar58, q58, S58, M58, H58, G58⟩ := id f37
  have hin58 : ¬ ((1 : Int32) < 0 ∨ c58.slots.size ≤ ((1 : Int32)).toNatClampNeg) := inb_of S58 ⟨by decide, L1⟩
  obtain ⟨T59, h59, X59, e59, W59, st59⟩ := stI X55 hx hZ e55 Ar58 (j := (1 : Int32)) hin58 (g := (mkF m 29 #[rv pr0, rv pr1, iv pi2, iv pi3, iv pi4] [(.int pi3), (.int (1 : Int32)), (.ref u_aLiberty_pr0)])) rfl rfl (hb hby d5_29)
  have pre60 : ∀ t, Steps p.tables e below (T59.setTop (mkF m 30 #[rv pr0, rv pr1, iv pi2, iv pi3, iv pi4] [])) t → Go t := fun t kt => pre57 t (st59 t kt)
  have f62 : Arv Z h59 u_ringed_pr0 kk_u_ringed_pr0 .boolean nn [(.int y_r0), (.int (0 : Int32))] (.int (0 : Int32)) := (f38.other W59 ne_u_ringed_pr0_u_aLiberty_pr0)
  have f63 : Exa Z h59 pr0 "com/example/stonegaze/stonegaze/Groups" := (f39.wr W59)
  have f64 : Fld Z h59 pr0 "com/example/stonegaze/stonegaze/Groups" "groupOf" "[I" (.ref u_groupOf_pr0) := (f40.other W59 (Or.inl ne_pr0_u_aLiberty_pr0))
  have f65 : Fld Z h59 pr0 "com/example/stonegaze/stonegaze/Groups" "colours" "[Lcom/example/stonegaze/stonegaze/Side;" (.ref u_colours_pr0) := (f41.other W59 (Or.inl ne_pr0_u_aLiberty_pr0))
  have f66 : Fld Z h59 pr0 "com/example/stonegaze/stonegaze/Groups" "stones" "[I" (.ref u_stones_pr0) := (f42.other W59 (Or.inl ne_pr0_u_aLiberty_pr0))
  have f67 : Fld Z h59 pr0 "com/example/stonegaze/stonegaze/Groups" "liberties" "[I" (.ref u_liberties_pr0) := (f43.other W59 (Or.inl ne_pr0_u_aLiberty_pr0))
  have f68 : Fld Z h59 pr0 "com/example/stonegaze/stonegaze/Groups" "ringed" "[Z" (.ref u_ringed_pr0) := (f44.other W59 (Or.inl ne_pr0_u_aLiberty_pr0))
  have f69 : Fld Z h59 pr0 "com/example/stonegaze/stonegaze/Groups" "aLiberty" "[I" (.ref u_aLiberty_pr0) := (f45.other W59 (Or.inl ne_pr0_u_aLiberty_pr0))
  have f70 : Fld Z h59 pr0 "com/example/stonegaze/stonegaze/Groups" "count" "I" (.int (1 : Int32)) := (f46.other W59 (Or.inl ne_pr0_u_aLiberty_pr0))
  have f71 : Exa Z h59 pr1 "com/example/stonegaze/stonegaze/Side" := (f47.wr W59)
  have f72 : Arv Z h59 u_colours_pr0 kk_u_colours_pr0 (.object "com/example/stonegaze/stonegaze/Side") nn [(.ref y_c0), (.ref pr1)] .null := (f48.other W59 ne_u_colours_pr0_u_aLiberty_pr0)
  have f73 : Arv Z h59 u_liberties_pr0 kk_u_liberties_pr0 .int nn [(.int y_l0), (.int pi2)] (.int (0 : Int32)) := (f50.other W59 ne_u_liberties_pr0_u_aLiberty_pr0)
  have N74 := Fr.snoc X59 N49 G_u_aLiberty_pr0
  have O74 := O49.wr W59 G_u_aLiberty_pr0
  have K74 : Keep h0 h59 [pr0, u_colours_pr0, u_liberties_pr0, u_aLiberty_pr0, u_ringed_pr0] := K49.wr W59 (Or.inl (List.mem_of_getElem? (i := 3) rfl))
  have f75 : Arv Z h59 u_aLiberty_pr0 kk_u_aLiberty_pr0 .int nn [(.int y_a0), (.int pi3)] (.int (0 : Int32)) := Arv.set Ar58 q58 S58 M58 H58 G58 rfl W59 1 rfl (Nat.le_of_ble_eq_true rfl)
  have pre76 : ∀ t, Steps p.tables e below (T59.setTop (mkF m 31 #[rv pr0, rv pr1, iv pi2, iv pi3, iv pi4] [(.ref pr0)])) t → Go t := fun t kt => pre60 t (by
      refine y_aloadN X59.here hx (hb hby d5_30) rfl rfl (pc' := 31) rfl ?_
      exact kt)
  obtain ⟨T77, X77, e77, st77⟩ := getF X59 hx hZ hown (host := "") (Or.inl (hw _ (List.mem_of_getElem? (i := 29) rfl))) Via.refl e59 f68 (g := (mkF m 31 #[rv pr0, rv pr1, iv pi2, iv pi3, iv pi4] [(.ref pr0)])) rfl rfl (hb hby d5_31)
  have pre78 : ∀ t, Steps p.tables e below (T77.setTop (mkF m 34 #[rv pr0, rv pr1, iv pi2, iv pi3, iv pi4] [(.ref u_ringed_pr0)])) t → Go t := fun t kt => pre76 t (st77 t kt)
  have pre79 : ∀ t, Steps p.tables e below (T77.setTop (mkF m 35 #[rv pr0, rv pr1, iv pi2, iv pi3, iv pi4] [(.ref pr0), (.ref u_ringed_pr0)])) t → Go t := fun t kt => pre78 t (by
      refine y_aloadN X77.here hx (hb hby d5_34) rfl rfl (pc' := 35) rfl ?_
      exact kt)
  obtain ⟨T80, X80, e80, st80⟩ := getF X77 hx hZ hown (host := "") (Or.inl (hw _ (List.mem_of_getElem? (i := 41) rfl))) Via.refl e77 f70 (g := (mkF m 35 #[rv pr0, rv pr1, iv pi2, iv pi3, iv pi4] [(.ref pr0), (.ref u_ringed_pr0)])) rfl rfl (hb hby d5_35)
  have pre81 : ∀ t, Steps p.tables e below (T80.setTop (mkF m 38 #[rv pr0, rv pr1, iv pi2, iv pi3, iv pi4] [(.int (1 : Int32)), (.ref u_ringed_pr0)])) t → Go t := fun t kt => pre79 t (st80 t kt)
  have pre82 : ∀ t, Steps p.tables e below (T80.setTop (mkF m 40 #[rv pr0, rv pr1, iv pi2, iv pi3, iv pi4] [(.int pi4), (.int (1 : Int32)), (.ref u_ringed_pr0)])) t → Go t := fun t kt => pre81 t (by
      refine y_iload X80.here hx (hb hby d5_38) rfl (pc' := 40) rfl ?_
      exact kt)
  obtain ⟨c83, Ar83, q83, S83, M83, H83, G83⟩ := id f62
  have hin83 : ¬ ((1 : Int32) < 0 ∨ c83.slots.size ≤ ((1 : Int32)).toNatClampNeg) := inb_of S83 ⟨by decide, L1⟩
  obtain ⟨T84, h84, X84, e84, W84, st84⟩ := stZ X80 hx hZ e80 Ar83 (j := (1 : Int32)) hin83 (g := (mkF m 40 #[rv pr0, rv pr1, iv pi2, iv pi3, iv pi4] [(.int pi4), (.int (1 : Int32)), (.ref u_ringed_pr0)])) rfl rfl (hb hby d5_40)
  have pre85 : ∀ t, Steps p.tables e below (T84.setTop (mkF m 41 #[rv pr0, rv pr1, iv pi2, iv pi3, iv pi4] [])) t → Go t := fun t kt => pre82 t (st84 t kt)
  have f87 : Exa Z h84 pr0 "com/example/stonegaze/stonegaze/Groups" := (f63.wr W84)
  have f88 : Fld Z h84 pr0 "com/example/stonegaze/stonegaze/Groups" "groupOf" "[I" (.ref u_groupOf_pr0) := (f64.other W84 (Or.inl ne_pr0_u_ringed_pr0))
  have f89 : Fld Z h84 pr0 "com/example/stonegaze/stonegaze/Groups" "colours" "[Lcom/example/stonegaze/stonegaze/Side;" (.ref u_colours_pr0) := (f65.other W84 (Or.inl ne_pr0_u_ringed_pr0))
  have f90 : Fld Z h84 pr0 "com/example/stonegaze/stonegaze/Groups" "stones" "[I" (.ref u_stones_pr0) := (f66.other W84 (Or.inl ne_pr0_u_ringed_pr0))
  have f91 : Fld Z h84 pr0 "com/example/stonegaze/stonegaze/Groups" "liberties" "[I" (.ref u_liberties_pr0) := (f67.other W84 (Or.inl ne_pr0_u_ringed_pr0))
  have f92 : Fld Z h84 pr0 "com/example/stonegaze/stonegaze/Groups" "ringed" "[Z" (.ref u_ringed_pr0) := (f68.other W84 (Or.inl ne_pr0_u_ringed_pr0))
  have f93 : Fld Z h84 pr0 "com/example/stonegaze/stonegaze/Groups" "aLiberty" "[I" (.ref u_aLiberty_pr0) := (f69.other W84 (Or.inl ne_pr0_u_ringed_pr0))
  have f94 : Fld Z h84 pr0 "com/example/stonegaze/stonegaze/Groups" "count" "I" (.int (1 : Int32)) := (f70.other W84 (Or.inl ne_pr0_u_ringed_pr0))
  have f95 : Exa Z h84 pr1 "com/example/stonegaze/stonegaze/Side" := (f71.wr W84)
  have f96 : Arv Z h84 u_colours_pr0 kk_u_colours_pr0 (.object "com/example/stonegaze/stonegaze/Side") nn [(.ref y_c0), (.ref pr1)] .null := (f72.other W84 ne_u_colours_pr0_u_ringed_pr0)
  have f97 : Arv Z h84 u_liberties_pr0 kk_u_liberties_pr0 .int nn [(.int y_l0), (.int pi2)] (.int (0 : Int32)) := (f73.other W84 ne_u_liberties_pr0_u_ringed_pr0)
  have f98 : Arv Z h84 u_aLiberty_pr0 kk_u_aLiberty_pr0 .int nn [(.int y_a0), (.int pi3)] (.int (0 : Int32)) := (f75.other W84 (Ne.symm ne_u_ringed_pr0_u_aLiberty_pr0))
  have N99 := Fr.snoc X84 N74 G_u_ringed_pr0
  have O99 := O74.wr W84 G_u_ringed_pr0
  have K99 : Keep h0 h84 [pr0, u_colours_pr0, u_liberties_pr0, u_aLiberty_pr0, u_ringed_pr0] := K74.wr W84 (Or.inl (List.mem_of_getElem? (i := 4) rfl))
  have f100 : Arv Z h84 u_ringed_pr0 kk_u_ringed_pr0 .boolean nn [(.int y_r0), (.int (nar .boolean pi4))] (.int (0 : Int32)) := Arv.set Ar83 q83 S83 M83 H83 G83 (fits_nar_bool _) W84 1 rfl (Nat.le_of_ble_eq_true rfl)
  have pre101 : ∀ t, Steps p.tables e below (T84.setTop (mkF m 43 #[rv pr0, rv pr1, iv pi2, iv pi3, iv pi4] [(.ref pr0), (.ref pr0)])) t → Go t := fun t kt => pre85 t (by
      refine y_aloadN X84.here hx (hb hby d5_41) rfl rfl (pc' := 42) rfl ?_
      refine y_dup X84.here hx (hb hby d5_42) rfl (pc' := 43) rfl ?_
      exact kt)
  obtain ⟨T102, X102, e102, st102⟩ := getF X84 hx hZ hown (host := "") (Or.inl (hw _ (List.mem_of_getElem? (i := 41) rfl))) Via.refl e84 f94 (g := (mkF m 43 #[rv pr0, rv pr1, iv pi2, iv pi3, iv pi4] [(.ref pr0), (.ref pr0)])) rfl rfl (hb hby d5_43)
  have pre103 : ∀ t, Steps p.tables e below (T102.setTop (mkF m 46 #[rv pr0, rv pr1, iv pi2, iv pi3, iv pi4] [(.int (1 : Int32)), (.ref pr0)])) t → Go t := fun t kt => pre101 t (st102 t kt)
  have pre104 : ∀ t, Steps p.tables e below (T102.setTop (mkF m 48 #[rv pr0, rv pr1, iv pi2, iv pi3, iv pi4] [(.int (2 : Int32)), (.ref pr0)])) t → Go t := fun t kt => pre103 t (by
      refine y_iconst X102.here hx (hb hby d5_46) (v := (1 : Int32)) rfl (pc' := 47) rfl ?_
      refine y_iadd X102.here hx (hb hby d5_47) (z := (2 : Int32)) rfl (pc' := 48) rfl ?_
      exact kt)
  obtain ⟨T105, h105, X105, e105, W105, st105⟩ := putF X102 hx hZ hown (host := "") (Or.inl (hw _ (List.mem_of_getElem? (i := 41) rfl))) Via.refl e102 f94 f87 (Or.inl (hw _ (List.mem_of_getElem? (i := 42) rfl))) (hw _ (List.mem_of_getElem? (i := 5) rfl)) (ty := .int) (by decide) rfl rfl (g := (mkF m 48 #[rv pr0, rv pr1, iv pi2, iv pi3, iv pi4] [(.int (2 : Int32)), (.ref pr0)])) rfl rfl (hb hby d5_48)
  have pre106 : ∀ t, Steps p.tables e below (T105.setTop (mkF m 51 #[rv pr0, rv pr1, iv pi2, iv pi3, iv pi4] [])) t → Go t := fun t kt => pre104 t (st105 t kt)
  have f107 : Exa Z h105 pr0 "com/example/stonegaze/stonegaze/Groups" := (f87.wr W105)
  have f108 : Fld Z h105 pr0 "com/example/stonegaze/stonegaze/Groups" "groupOf" "[I" (.ref u_groupOf_pr0) := (f88.other W105 (Or.inr (slot_ne (Or.inr (hw _ (List.mem_of_getElem? (i := 15) rfl))) (Or.inl (hw _ (List.mem_of_getElem? (i := 42) rfl))) (by decide) (t := (.array .int)) (t' := .int) (by decide) (by decide))))
  have f109 : Fld Z h105 pr0 "com/example/stonegaze/stonegaze/Groups" "colours" "[Lcom/example/stonegaze/stonegaze/Side;" (.ref u_colours_pr0) := (f89.other W105 (Or.inr (slot_ne (Or.inr (hw _ (List.mem_of_getElem? (i := 23) rfl))) (Or.inl (hw _ (List.mem_of_getElem? (i := 42) rfl))) (by decide) (t := (.array (.object "com/example/stonegaze/stonegaze/Side"))) (t' := .int) (by decide) (by decide))))
  have f110 : Fld Z h105 pr0 "com/example/stonegaze/stonegaze/Groups" "stones" "[I" (.ref u_stones_pr0) := (f90.other W105 (Or.inr (slot_ne (Or.inr (hw _ (List.mem_of_getElem? (i := 25) rfl))) (Or.inl (hw _ (List.mem_of_getElem? (i := 42) rfl))) (by decide) (t := (.array .int)) (t' := .int) (by decide) (by decide))))
  have f111 : Fld Z h105 pr0 "com/example/stonegaze/stonegaze/Groups" "liberties" "[I" (.ref u_liberties_pr0) := (f91.other W105 (Or.inr (slot_ne (Or.inr (hw _ (List.mem_of_getElem? (i := 27) rfl))) (Or.inl (hw _ (List.mem_of_getElem? (i := 42) rfl))) (by decide) (t := (.array .int)) (t' := .int) (by decide) (by decide))))
  have f112 : Fld Z h105 pr0 "com/example/stonegaze/stonegaze/Groups" "ringed" "[Z" (.ref u_ringed_pr0) := (f92.other W105 (Or.inr (slot_ne (Or.inr (hw _ (List.mem_of_getElem? (i := 30) rfl))) (Or.inl (hw _ (List.mem_of_getElem? (i := 42) rfl))) (by decide) (t := (.array .boolean)) (t' := .int) (by decide) (by decide))))
  have f113 : Fld Z h105 pr0 "com/example/stonegaze/stonegaze/Groups" "aLiberty" "[I" (.ref u_aLiberty_pr0) := (f93.other W105 (Or.inr (slot_ne (Or.inr (hw _ (List.mem_of_getElem? (i := 32) rfl))) (Or.inl (hw _ (List.mem_of_getElem? (i := 42) rfl))) (by decide) (t := (.array .int)) (t' := .int) (by decide) (by decide))))
  have f115 : Exa Z h105 pr1 "com/example/stonegaze/stonegaze/Side" := (f95.wr W105)
  have f116 : Arv Z h105 u_colours_pr0 kk_u_colours_pr0 (.object "com/example/stonegaze/stonegaze/Side") nn [(.ref y_c0), (.ref pr1)] .null := (f96.other W105 (Ne.symm ne_pr0_u_colours_pr0))
  have f117 : Arv Z h105 u_liberties_pr0 kk_u_liberties_pr0 .int nn [(.int y_l0), (.int pi2)] (.int (0 : Int32)) := (f97.other W105 (Ne.symm ne_pr0_u_liberties_pr0))
  have f118 : Arv Z h105 u_aLiberty_pr0 kk_u_aLiberty_pr0 .int nn [(.int y_a0), (.int pi3)] (.int (0 : Int32)) := (f98.other W105 (Ne.symm ne_pr0_u_aLiberty_pr0))
  have f119 : Arv Z h105 u_ringed_pr0 kk_u_ringed_pr0 .boolean nn [(.int y_r0), (.int (nar .boolean pi4))] (.int (0 : Int32)) := (f100.other W105 (Ne.symm ne_pr0_u_ringed_pr0))
  have f120 : Fld Z h105 pr0 "com/example/stonegaze/stonegaze/Groups" "count" "I" (.int (2 : Int32)) := f94.same W105
  have N121 := Fr.snoc X105 N99 G_pr0
  have O121 := O99.wr W105 G_pr0
  have K121 : Keep h0 h105 [pr0, u_colours_pr0, u_liberties_pr0, u_aLiberty_pr0, u_ringed_pr0] := K99.wr W105 (Or.inl (List.mem_of_getElem? (i := 0) rfl))
  have pre122 : ∀ t, Steps p.tables e below (T105.setTop (mkF m 52 #[rv pr0, rv pr1, iv pi2, iv pi3, iv pi4] [(.ref pr0)])) t → Go t := fun t kt => pre106 t (by
      refine y_aloadN X105.here hx (hb hby d5_51) rfl rfl (pc' := 52) rfl ?_
      exact kt)
  obtain ⟨T123, X123, e123, st123⟩ := getF X105 hx hZ hown (host := "") (Or.inl (hw _ (List.mem_of_getElem? (i := 41) rfl))) Via.refl e105 f120 (g := (mkF m 52 #[rv pr0, rv pr1, iv pi2, iv pi3, iv pi4] [(.ref pr0)])) rfl rfl (hb hby d5_52)
  have pre124 : ∀ t, Steps p.tables e below (T123.setTop (mkF m 55 #[rv pr0, rv pr1, iv pi2, iv pi3, iv pi4] [(.int (2 : Int32))])) t → Go t := fun t kt => pre122 t (st123 t kt)
  have pre125 : ∀ t, Steps p.tables e below (T123.setTop (mkF m 57 #[rv pr0, rv pr1, iv pi2, iv pi3, iv pi4] [(.int (1 : Int32))])) t → Go t := fun t kt => pre124 t (by
      refine y_iconst X123.here hx (hb hby d5_55) (v := (1 : Int32)) rfl (pc' := 56) rfl ?_
      refine y_isub X123.here hx (hb hby d5_56) (z := (1 : Int32)) rfl (pc' := 57) rfl ?_
      exact kt)
  obtain ⟨fs, hr, hrun, hended, hW, hsame⟩ := X123.leave (v := some (.int (1 : Int32))) (fun h => by rw [Bd.returns] at h; cases h)
  refine ⟨_, _, (hGo _).mp (pre125 _ ?_), hrun, hended, _, _, rfl, ?_, ⟨_, rfl⟩, hW, hsame.mono (by decide) (by decide)⟩
  · exact retOut X123 hx Bd.returns rfl (Or.inl ⟨rfl, Or.inl rfl, _, rfl⟩) (hb hby d5_57) hr
  · show Q5c1 Z pr0 pr1 pi2 pi3 pi4 u_groupOf_pr0 u_colours_pr0 u_stones_pr0 u_liberties_pr0 u_ringed_pr0 u_aLiberty_pr0 nn kk_u_colours_pr0 y_c0 kk_u_liberties_pr0 y_l0 kk_u_aLiberty_pr0 y_a0 kk_u_ringed_pr0 y_r0 h0 n0 _ T123.heap _
    rw [e123]
    exact ⟨rfl, N121, K121, f108, f109, f110, f111, f112, f113, f120, f116, f117, f118, f119⟩
theorem d6_0 : decode prog_17_method_10_code 0 = .ok (.aload_n 0, 1) := by decide +kernel
theorem d6_1 : decode prog_17_method_10_code 1 = .ok (.getfield 28, 3) := by decide +kernel
theorem d6_4 : decode prog_17_method_10_code 4 = .ok (.iload_n 1, 1) := by decide +kernel
theorem d6_5 : decode prog_17_method_10_code 5 = .ok (.iaload, 1) := by decide +kernel
theorem d6_6 : decode prog_17_method_10_code 6 = .ok (.iconst 1, 1) := by decide +kernel
theorem d6_7 : decode prog_17_method_10_code 7 = .ok (.if_icmp .ne 16, 3) := by decide +kernel
theorem d6_10 : decode prog_17_method_10_code 10 = .ok (.aload_n 0, 1) := by decide +kernel
theorem d6_11 : decode prog_17_method_10_code 11 = .ok (.getfield 31, 3) := by decide +kernel
theorem d6_14 : decode prog_17_method_10_code 14 = .ok (.iload_n 1, 1) := by decide +kernel
theorem d6_15 : decode prog_17_method_10_code 15 = .ok (.baload, 1) := by decide +kernel
theorem d6_16 : decode prog_17_method_10_code 16 = .ok (.ifCond .ne 7, 3) := by decide +kernel
theorem d6_19 : decode prog_17_method_10_code 19 = .ok (.iconst 1, 1) := by decide +kernel
theorem d6_20 : decode prog_17_method_10_code 20 = .ok (.goto 4, 3) := by decide +kernel
theorem d6_23 : decode prog_17_method_10_code 23 = .ok (.iconst 0, 1) := by decide +kernel
theorem d6_24 : decode prog_17_method_10_code 24 = .ok (.ireturn, 1) := by decide +kernel
theorem ef_6i0 (m : MethodId) (x0 : Addr) : entryFrame m #[(.ref x0), (.int (0 : Int32))] 2 = mkF m 0 #[rv x0, iv (0 : Int32)] [] := by first | (simp [entryFrame, mkF, argsToLocals, Value.category]; done) | rfl
def Q6i0 (Z : State) (pr0 : Addr) (u_liberties_pr0 : Addr) (u_ringed_pr0 : Addr) (nn : Int32) (kk_u_liberties_pr0 : ClassId) (y0_liberties : Int32) (y1_liberties : Int32) (kk_u_ringed_pr0 : ClassId) (y0_ringed : Int32) (y1_ringed : Int32) (h0 : Heap) (n0 : Nat) (v : Option Value) (h : Heap) (L : List Loc) : Prop := v = some (.int (if y0_liberties = (1 : Int32) then (nar .boolean (if y0_ringed = (0 : Int32) then (1 : Int32) else (0 : Int32))) else (0 : Int32))) ∧ Fr n0 L ∧ h = h0
set_option maxRecDepth 65536 in
set_option maxHeartbeats 40000000 in
theorem rm6i0 (l : Launch) (Z : State) (a0 : Array Value) (hw : ∀ d ∈ tables_1, d.before a0 Z = true) (ws : List Jvm.Cond) (pr0 : Addr) (u_liberties_pr0 : Addr) (u_ringed_pr0 : Addr) (nn : Int32) (kk_u_liberties_pr0 : ClassId) (y0_liberties : Int32) (y1_liberties : Int32) (kk_u_ringed_pr0 : ClassId) (y0_ringed : Int32) (y1_ringed : Int32) (h0 : Heap) (n0 : Nat) (O0 : Old Z n0 h0) (E_pr0 : Exa Z h0 pr0 "com/example/stonegaze/stonegaze/Groups") (F_liberties_pr0 : Fld Z h0 pr0 "com/example/stonegaze/stonegaze/Groups" "liberties" "[I" (.ref u_liberties_pr0)) (F_ringed_pr0 : Fld Z h0 pr0 "com/example/stonegaze/stonegaze/Groups" "ringed" "[Z" (.ref u_ringed_pr0)) (L0 : (0 : Int32) < nn) (L1 : (1 : Int32) < nn) (V_u_liberties_pr0 : Arv Z h0 u_liberties_pr0 kk_u_liberties_pr0 .int nn [(.int y0_liberties), (.int y1_liberties)] (.int (0 : Int32))) (V_u_ringed_pr0 : Arv Z h0 u_ringed_pr0 kk_u_ringed_pr0 .boolean nn [(.int y0_ringed), (.int y1_ringed)] (.int (0 : Int32))) :
    MetFree l (⟨"com/example/stonegaze/stonegaze/Groups", "inAtari", "(I)Z"⟩ : MethodName) (head1 (Jvm.Cond.code (⟨"com/example/stonegaze/stonegaze/Groups", "inAtari", "(I)Z"⟩ : MethodName) prog_17_method_10_code 2 (some .boolean) :: ws) ({ frames := 0, cells := 0, slots := 0, locals := 0 } : Room)) (fun a U => a = #[(.ref pr0), (.int (0 : Int32))] ∧ Z.Warmed39 U.vm ∧ U.heap = h0) (fun _ _ _ _ _ => True) (fun _ U o U' => ∃ v L, o = .returned v ∧ Q6i0 Z pr0 u_liberties_pr0 u_ringed_pr0 nn kk_u_liberties_pr0 y0_liberties y1_liberties kk_u_ringed_pr0 y0_ringed y1_ringed h0 n0 v U'.heap L ∧ FrameEnd U o U' L ({ frames := 0, cells := 0, slots := 0, locals := 0 } : Room).cells ({ frames := 0, cells := 0, slots := 0, locals := 0 } : Room).slots) := by
  refine MetFree.of_bodySF (plainFor_of_name pn_com_example_stonegaze_stonegaze_Groups) hisR ?_
  intro p e s m args below meth c s₁ Bd hml0 hP hK
  obtain ⟨rfl, hZ, hh⟩ := hP
  have hx := Bd.exec
  have hby := Bd.bytes
  have hml : c.maxLocals = 2 := hml0
  have hown : s.vm.findClass "com/example/stonegaze/stonegaze/Groups" = some m.cls := findClass_of_methodNamed Bd.named
  have hnm := (name_of_methodNamed Bd.named Bd.method).1
  have X0 : Stand p l e ({ frames := 0, cells := 0, slots := 0, locals := 0 } : Room) s m #[(.ref pr0), (.int (0 : Int32))] below meth c s₁ [] 0 0 := Stand.of_body Bd
  have e0 : s₁.heap = h0 := by rw [← hh, Bd.state]; rfl
  have N0 := Fr.nil n0
  obtain ⟨Go, hGo⟩ : ∃ P : State → Prop, ∀ t, P t ↔ Steps p.tables e below (s₁.setTop (entryFrame m #[(.ref pr0), (.int (0 : Int32))] 2)) t := ⟨_, fun _ => Iff.rfl⟩
  have pre0 : ∀ t, Steps p.tables e below (s₁.setTop (mkF m 0 #[rv pr0, iv (0 : Int32)] [])) t → Go t := fun t k => (hGo t).mpr (castTop (ef_6i0 m pr0) k)
  have pre1 : ∀ t, Steps p.tables e below (s₁.setTop (mkF m 1 #[rv pr0, iv (0 : Int32)] [(.ref pr0)])) t → Go t := fun t kt => pre0 t (by
      refine y_aloadN X0.here hx (hb hby d6_0) rfl rfl (pc' := 1) rfl ?_
      exact kt)
  obtain ⟨T2, X2, e2, st2⟩ := getF X0 hx hZ hown (host := "") (Or.inl (hw _ (List.mem_of_getElem? (i := 26) rfl))) Via.refl e0 F_liberties_pr0 (g := (mkF m 1 #[rv pr0, iv (0 : Int32)] [(.ref pr0)])) rfl rfl (hb hby d6_1)
  have pre3 : ∀ t, Steps p.tables e below (T2.setTop (mkF m 4 #[rv pr0, iv (0 : Int32)] [(.ref u_liberties_pr0)])) t → Go t := fun t kt => pre1 t (st2 t kt)
  have pre4 : ∀ t, Steps p.tables e below (T2.setTop (mkF m 5 #[rv pr0, iv (0 : Int32)] [(.int (0 : Int32)), (.ref u_liberties_pr0)])) t → Go t := fun t kt => pre3 t (by
      refine y_iloadN X2.here hx (hb hby d6_4) rfl (pc' := 5) rfl ?_
      exact kt)
  obtain ⟨c5, Ar5, q5, S5, M5, H5, G5⟩ := id V_u_liberties_pr0
  have hin5 : ¬ ((0 : Int32) < 0 ∨ c5.slots.size ≤ ((0 : Int32)).toNatClampNeg) := inb_of S5 ⟨by decide, L0⟩
  have hat5 : c5.slots[((0 : Int32)).toNatClampNeg]? = some (.int y0_liberties) := Has.at H5 hin5 rfl
  have pre6 : ∀ t, Steps p.tables e below (T2.setTop (mkF m 7 #[rv pr0, iv (0 : Int32)] [(.int (1 : Int32)), (.int y0_liberties)])) t → Go t := fun t kt => pre4 t (by
      refine X2.iaload hx (j := (0 : Int32)) (v := (.int y0_liberties)) (by rw [e2]; exact Ar5.1) (State.isArrayOf_alike hZ.alike Ar5.2.1) Ar5.2.2 hin5 hat5 (g := (mkF m 5 #[rv pr0, iv (0 : Int32)] [(.int (0 : Int32)), (.ref u_liberties_pr0)])) rfl rfl (hb hby d6_5) _ ?_
      show Steps p.tables e below (T2.setTop (mkF m 6 #[rv pr0, iv (0 : Int32)] [(.int y0_liberties)])) _
      refine y_iconst X2.here hx (hb hby d6_6) (v := (1 : Int32)) rfl (pc' := 7) rfl ?_
      exact kt)
  by_cases hc7_7 : y0_liberties = (1 : Int32)
  · have pre8 : ∀ t, Steps p.tables e below (T2.setTop (mkF m 11 #[rv pr0, iv (0 : Int32)] [(.ref pr0)])) t → Go t := fun t kt => pre6 t (by
        refine y_icmpNo X2.here hx (hb hby d6_7) (teq hc7_7).2 (pc' := 10) rfl ?_
        refine y_aloadN X2.here hx (hb hby d6_10) rfl rfl (pc' := 11) rfl ?_
        exact kt)
    obtain ⟨T9, X9, e9, st9⟩ := getF X2 hx hZ hown (host := "") (Or.inl (hw _ (List.mem_of_getElem? (i := 29) rfl))) Via.refl e2 F_ringed_pr0 (g := (mkF m 11 #[rv pr0, iv (0 : Int32)] [(.ref pr0)])) rfl rfl (hb hby d6_11)
    have pre10 : ∀ t, Steps p.tables e below (T9.setTop (mkF m 14 #[rv pr0, iv (0 : Int32)] [(.ref u_ringed_pr0)])) t → Go t := fun t kt => pre8 t (st9 t kt)
    have pre11 : ∀ t, Steps p.tables e below (T9.setTop (mkF m 15 #[rv pr0, iv (0 : Int32)] [(.int (0 : Int32)), (.ref u_ringed_pr0)])) t → Go t := fun t kt => pre10 t (by
        refine y_iloadN X9.here hx (hb hby d6_14) rfl (pc' := 15) rfl ?_
        exact kt)
    obtain ⟨c12, Ar12, q12, S12, M12, H12, G12⟩ := id V_u_ringed_pr0
    have hin12 : ¬ ((0 : Int32) < 0 ∨ c12.slots.size ≤ ((0 : Int32)).toNatClampNeg) := inb_of S12 ⟨by decide, L0⟩
    have hat12 : c12.slots[((0 : Int32)).toNatClampNeg]? = some (.int y0_ringed) := Has.at H12 hin12 rfl
    have pre13 : ∀ t, Steps p.tables e below (T9.setTop (mkF m 16 #[rv pr0, iv (0 : Int32)] [(.int y0_ringed)])) t → Go t := fun t kt => pre11 t (by
        refine X9.baloadBooleans hx (j := (0 : Int32)) (v := (.int y0_ringed)) (by rw [e9]; exact Ar12.1) (State.isArrayOf_alike hZ.alike Ar12.2.1) Ar12.2.2 hin12 hat12 (g := (mkF m 15 #[rv pr0, iv (0 : Int32)] [(.int (0 : Int32)), (.ref u_ringed_pr0)])) rfl rfl (hb hby d6_15) _ ?_
        show Steps p.tables e below (T9.setTop (mkF m 16 #[rv pr0, iv (0 : Int32)] [(.int y0_ringed)])) _
        exact kt)
    obtain ⟨x14, hx14⟩ : ∃ z : Int32, z = (if y0_ringed = (0 : Int32) then (1 : Int32) else (0 : Int32)) := ⟨_, rfl⟩
    obtain ⟨T15, ⟨X15, q15⟩, st15⟩ : ∃ T', Nx X9 T' ∧ ∀ t, Steps p.tables e below (T'.setTop (mkF m 24 #[rv pr0, iv (0 : Int32)] [(.int x14)])) t → Steps p.tables e below (T9.setTop (mkF m 16 #[rv pr0, iv (0 : Int32)] [(.int y0_ringed)])) t := by
      have pre15_ : ∀ t, Steps p.tables e below (T9.setTop (mkF m 16 #[rv pr0, iv (0 : Int32)] [(.int y0_ringed)])) t → Steps p.tables e below (T9.setTop (mkF m 16 #[rv pr0, iv (0 : Int32)] [(.int y0_ringed)])) t := fun t kt => kt
      subst hx14
      by_cases hm16_16 : y0_ringed = (0 : Int32)
      · have pre17 : ∀ t, Steps p.tables e below (T9.setTop (mkF m 24 #[rv pr0, iv (0 : Int32)] [(.int (1 : Int32))])) t → Steps p.tables e below (T9.setTop (mkF m 16 #[rv pr0, iv (0 : Int32)] [(.int y0_ringed)])) t := fun t kt => pre15_ t (by
            refine y_ifNo X9.here hx (hb hby d6_16) ((if0 _ _).trans (teq hm16_16).2) (pc' := 19) rfl ?_
            refine y_iconst X9.here hx (hb hby d6_19) (v := (1 : Int32)) rfl (pc' := 20) rfl ?_
            refine y_goto X9.here hx (hb hby d6_20) (pc' := 24) (by decide) rfl ?_
            exact kt)
        refine ⟨T9, ⟨X9, e9.trans e9.symm⟩, fun t kt => pre17 t ?_⟩
        (try simp only [if_pos hm16_16] at kt)
        exact kt
      · have pre18 : ∀ t, Steps p.tables e below (T9.setTop (mkF m 24 #[rv pr0, iv (0 : Int32)] [(.int (0 : Int32))])) t → Steps p.tables e below (T9.setTop (mkF m 16 #[rv pr0, iv (0 : Int32)] [(.int y0_ringed)])) t := fun t kt => pre15_ t (by
            refine y_ifYes X9.here hx (hb hby d6_16) ((if0 _ _).trans (feq hm16_16).2) (pc' := 23) (by decide) rfl ?_
            refine y_iconst X9.here hx (hb hby d6_23) (v := (0 : Int32)) rfl (pc' := 24) rfl ?_
            exact kt)
        refine ⟨T9, ⟨X9, e9.trans e9.symm⟩, fun t kt => pre18 t ?_⟩
        (try simp only [if_neg hm16_16] at kt)
        exact kt
    have e15 : T15.heap = h0 := q15.trans e9
    have pre19 : ∀ t, Steps p.tables e below (T15.setTop (mkF m 24 #[rv pr0, iv (0 : Int32)] [(.int x14)])) t → Go t := fun t kt => pre13 t (st15 t kt)
    obtain ⟨fs, hr, hrun, hended, hW, hsame⟩ := X15.leave (v := some (.int (nar .boolean x14))) (fun h => by rw [Bd.returns] at h; cases h)
    refine ⟨_, _, (hGo _).mp (pre19 _ ?_), hrun, hended, _, _, rfl, ?_, ⟨_, rfl⟩, hW, hsame.mono (by decide) (by decide)⟩
    · exact retN X15 hx (t := .boolean) Bd.returns (by simp) (hb hby d6_24) hr
    · show Q6i0 Z pr0 u_liberties_pr0 u_ringed_pr0 nn kk_u_liberties_pr0 y0_liberties y1_liberties kk_u_ringed_pr0 y0_ringed y1_ringed h0 n0 _ T15.heap _
      rw [e15]
      subst hx14
      exact ⟨(by first | (simp only [if_pos hc7_7]; done) | (simp only [if_pos hc7_7]; exact rfl) | exact rfl), N0, rfl⟩
  · have pre20 : ∀ t, Steps p.tables e below (T2.setTop (mkF m 24 #[rv pr0, iv (0 : Int32)] [(.int (0 : Int32))])) t → Go t := fun t kt => pre6 t (by
        refine y_icmpYes X2.here hx (hb hby d6_7) (feq hc7_7).2 (pc' := 23) (by decide) rfl ?_
        refine y_iconst X2.here hx (hb hby d6_23) (v := (0 : Int32)) rfl (pc' := 24) rfl ?_
        exact kt)
    obtain ⟨fs, hr, hrun, hended, hW, hsame⟩ := X2.leave (v := some (.int (0 : Int32))) (fun h => by rw [Bd.returns] at h; cases h)
    refine ⟨_, _, (hGo _).mp (pre20 _ ?_), hrun, hended, _, _, rfl, ?_, ⟨_, rfl⟩, hW, hsame.mono (by decide) (by decide)⟩
    · exact retN X2 hx (t := .boolean) Bd.returns (by simp) (hb hby d6_24) hr
    · show Q6i0 Z pr0 u_liberties_pr0 u_ringed_pr0 nn kk_u_liberties_pr0 y0_liberties y1_liberties kk_u_ringed_pr0 y0_ringed y1_ringed h0 n0 _ T2.heap _
      rw [e2]
      exact ⟨(by first | (simp only [if_neg hc7_7]; done) | (simp only [if_neg hc7_7]; exact rfl) | exact rfl), N0, rfl⟩
theorem ef_6i1 (m : MethodId) (x0 : Addr) : entryFrame m #[(.ref x0), (.int (1 : Int32))] 2 = mkF m 0 #[rv x0, iv (1 : Int32)] [] := by first | (simp [entryFrame, mkF, argsToLocals, Value.category]; done) | rfl
def Q6i1 (Z : State) (pr0 : Addr) (u_liberties_pr0 : Addr) (u_ringed_pr0 : Addr) (nn : Int32) (kk_u_liberties_pr0 : ClassId) (y0_liberties : Int32) (y1_liberties : Int32) (kk_u_ringed_pr0 : ClassId) (y0_ringed : Int32) (y1_ringed : Int32) (h0 : Heap) (n0 : Nat) (v : Option Value) (h : Heap) (L : List Loc) : Prop := v = some (.int (if y1_liberties = (1 : Int32) then (nar .boolean (if y1_ringed = (0 : Int32) then (1 : Int32) else (0 : Int32))) else (0 : Int32))) ∧ Fr n0 L ∧ h = h0
set_option maxRecDepth 65536 in
set_option maxHeartbeats 40000000 in
theorem rm6i1 (l : Launch) (Z : State) (a0 : Array Value) (hw : ∀ d ∈ tables_1, d.before a0 Z = true) (ws : List Jvm.Cond) (pr0 : Addr) (u_liberties_pr0 : Addr) (u_ringed_pr0 : Addr) (nn : Int32) (kk_u_liberties_pr0 : ClassId) (y0_liberties : Int32) (y1_liberties : Int32) (kk_u_ringed_pr0 : ClassId) (y0_ringed : Int32) (y1_ringed : Int32) (h0 : Heap) (n0 : Nat) (O0 : Old Z n0 h0) (E_pr0 : Exa Z h0 pr0 "com/example/stonegaze/stonegaze/Groups") (F_liberties_pr0 : Fld Z h0 pr0 "com/example/stonegaze/stonegaze/Groups" "liberties" "[I" (.ref u_liberties_pr0)) (F_ringed_pr0 : Fld Z h0 pr0 "com/example/stonegaze/stonegaze/Groups" "ringed" "[Z" (.ref u_ringed_pr0)) (L0 : (0 : Int32) < nn) (L1 : (1 : Int32) < nn) (V_u_liberties_pr0 : Arv Z h0 u_liberties_pr0 kk_u_liberties_pr0 .int nn [(.int y0_liberties), (.int y1_liberties)] (.int (0 : Int32))) (V_u_ringed_pr0 : Arv Z h0 u_ringed_pr0 kk_u_ringed_pr0 .boolean nn [(.int y0_ringed), (.int y1_ringed)] (.int (0 : Int32))) :
    MetFree l (⟨"com/example/stonegaze/stonegaze/Groups", "inAtari", "(I)Z"⟩ : MethodName) (head1 (Jvm.Cond.code (⟨"com/example/stonegaze/stonegaze/Groups", "inAtari", "(I)Z"⟩ : MethodName) prog_17_method_10_code 2 (some .boolean) :: ws) ({ frames := 0, cells := 0, slots := 0, locals := 0 } : Room)) (fun a U => a = #[(.ref pr0), (.int (1 : Int32))] ∧ Z.Warmed39 U.vm ∧ U.heap = h0) (fun _ _ _ _ _ => True) (fun _ U o U' => ∃ v L, o = .returned v ∧ Q6i1 Z pr0 u_liberties_pr0 u_ringed_pr0 nn kk_u_liberties_pr0 y0_liberties y1_liberties kk_u_ringed_pr0 y0_ringed y1_ringed h0 n0 v U'.heap L ∧ FrameEnd U o U' L ({ frames := 0, cells := 0, slots := 0, locals := 0 } : Room).cells ({ frames := 0, cells := 0, slots := 0, locals := 0 } : Room).slots) := by
  refine MetFree.of_bodySF (plainFor_of_name pn_com_example_stonegaze_stonegaze_Groups) hisR ?_
  intro p e s m args below meth c s₁ Bd hml0 hP hK
  obtain ⟨rfl, hZ, hh⟩ := hP
  have hx := Bd.exec
  have hby := Bd.bytes
  have hml : c.maxLocals = 2 := hml0
  have hown : s.vm.findClass "com/example/stonegaze/stonegaze/Groups" = some m.cls := findClass_of_methodNamed Bd.named
  have hnm := (name_of_methodNamed Bd.named Bd.method).1
  have X0 : Stand p l e ({ frames := 0, cells := 0, slots := 0, locals := 0 } : Room) s m #[(.ref pr0), (.int (1 : Int32))] below meth c s₁ [] 0 0 := Stand.of_body Bd
  have e0 : s₁.heap = h0 := by rw [← hh, Bd.state]; rfl
  have N0 := Fr.nil n0
  obtain ⟨Go, hGo⟩ : ∃ P : State → Prop, ∀ t, P t ↔ Steps p.tables e below (s₁.setTop (entryFrame m #[(.ref pr0), (.int (1 : Int32))] 2)) t := ⟨_, fun _ => Iff.rfl⟩
  have pre0 : ∀ t, Steps p.tables e below (s₁.setTop (mkF m 0 #[rv pr0, iv (1 : Int32)] [])) t → Go t := fun t k => (hGo t).mpr (castTop (ef_6i1 m pr0) k)
  have pre1 : ∀ t, Steps p.tables e below (s₁.setTop (mkF m 1 #[rv pr0, iv (1 : Int32)] [(.ref pr0)])) t → Go t := fun t kt => pre0 t (by
      refine y_aloadN X0.here hx (hb hby d6_0) rfl rfl (pc' := 1) rfl ?_
      exact kt)
  obtain ⟨T2, X2, e2, st2⟩ := getF X0 hx hZ hown (host := "") (Or.inl (hw _ (List.mem_of_getElem? (i := 26) rfl))) Via.refl e0 F_liberties_pr0 (g := (mkF m 1 #[rv pr0, iv (1 : Int32)] [(.ref pr0)])) rfl rfl (hb hby d6_1)
  have pre3 : ∀ t, Steps p.tables e below (T2.setTop (mkF m 4 #[rv pr0, iv (1 : Int32)] [(.ref u_liberties_pr0)])) t → Go t := fun t kt => pre1 t (st2 t kt)
  have pre4 : ∀ t, Steps p.tables e below (T2.setTop (mkF m 5 #[rv pr0, iv (1 : Int32)] [(.int (1 : Int32)), (.ref u_liberties_pr0)])) t → Go t := fun t kt => pre3 t (by
      refine y_iloadN X2.here hx (hb hby d6_4) rfl (pc' := 5) rfl ?_
      exact kt)
  obtain ⟨c5, Ar5, q5, S5, M5, H5, G5⟩ := id V_u_liberties_pr0
  have hin5 : ¬ ((1 : Int32) < 0 ∨ c5.slots.size ≤ ((1 : Int32)).toNatClampNeg) := inb_of S5 ⟨by decide, L1⟩
  have hat5 : c5.slots[((1 : Int32)).toNatClampNeg]? = some (.int y1_liberties) := Has.at H5 hin5 rfl
  have pre6 : ∀ t, Steps p.tables e below (T2.setTop (mkF m 7 #[rv pr0, iv (1 : Int32)] [(.int (1 : Int32)), (.int y1_liberties)])) t → Go t := fun t kt => pre4 t (by
      refine X2.iaload hx (j := (1 : Int32)) (v := (.int y1_liberties)) (by rw [e2]; exact Ar5.1) (State.isArrayOf_alike hZ.alike Ar5.2.1) Ar5.2.2 hin5 hat5 (g := (mkF m 5 #[rv pr0, iv (1 : Int32)] [(.int (1 : Int32)), (.ref u_liberties_pr0)])) rfl rfl (hb hby d6_5) _ ?_
      show Steps p.tables e below (T2.setTop (mkF m 6 #[rv pr0, iv (1 : Int32)] [(.int y1_liberties)])) _
      refine y_iconst X2.here hx (hb hby d6_6) (v := (1 : Int32)) rfl (pc' := 7) rfl ?_
      exact kt)
  by_cases hc7_7 : y1_liberties = (1 : Int32)
  · have pre8 : ∀ t, Steps p.tables e below (T2.setTop (mkF m 11 #[rv pr0, iv (1 : Int32)] [(.ref pr0)])) t → Go t := fun t kt => pre6 t (by
        refine y_icmpNo X2.here hx (hb hby d6_7) (teq hc7_7).2 (pc' := 10) rfl ?_
        refine y_aloadN X2.here hx (hb hby d6_10) rfl rfl (pc' := 11) rfl ?_
        exact kt)
    obtain ⟨T9, X9, e9, st9⟩ := getF X2 hx hZ hown (host := "") (Or.inl (hw _ (List.mem_of_getElem? (i := 29) rfl))) Via.refl e2 F_ringed_pr0 (g := (mkF m 11 #[rv pr0, iv (1 : Int32)] [(.ref pr0)])) rfl rfl (hb hby d6_11)
    have pre10 : ∀ t, Steps p.tables e below (T9.setTop (mkF m 14 #[rv pr0, iv (1 : Int32)] [(.ref u_ringed_pr0)])) t → Go t := fun t kt => pre8 t (st9 t kt)
    have pre11 : ∀ t, Steps p.tables e below (T9.setTop (mkF m 15 #[rv pr0, iv (1 : Int32)] [(.int (1 : Int32)), (.ref u_ringed_pr0)])) t → Go t := fun t kt => pre10 t (by
        refine y_iloadN X9.here hx (hb hby d6_14) rfl (pc' := 15) rfl ?_
        exact kt)
    obtain ⟨c12, Ar12, q12, S12, M12, H12, G12⟩ := id V_u_ringed_pr0
    have hin12 : ¬ ((1 : Int32) < 0 ∨ c12.slots.size ≤ ((1 : Int32)).toNatClampNeg) := inb_of S12 ⟨by decide, L1⟩
    have hat12 : c12.slots[((1 : Int32)).toNatClampNeg]? = some (.int y1_ringed) := Has.at H12 hin12 rfl
    have pre13 : ∀ t, Steps p.tables e below (T9.setTop (mkF m 16 #[rv pr0, iv (1 : Int32)] [(.int y1_ringed)])) t → Go t := fun t kt => pre11 t (by
        refine X9.baloadBooleans hx (j := (1 : Int32)) (v := (.int y1_ringed)) (by rw [e9]; exact Ar12.1) (State.isArrayOf_alike hZ.alike Ar12.2.1) Ar12.2.2 hin12 hat12 (g := (mkF m 15 #[rv pr0, iv (1 : Int32)] [(.int (1 : Int32)), (.ref u_ringed_pr0)])) rfl rfl (hb hby d6_15) _ ?_
        show Steps p.tables e below (T9.setTop (mkF m 16 #[rv pr0, iv (1 : Int32)] [(.int y1_ringed)])) _
        exact kt)
    obtain ⟨x14, hx14⟩ : ∃ z : Int32, z = (if y1_ringed = (0 : Int32) then (1 : Int32) else (0 : Int32)) := ⟨_, rfl⟩
    obtain ⟨T15, ⟨X15, q15⟩, st15⟩ : ∃ T', Nx X9 T' ∧ ∀ t, Steps p.tables e below (T'.setTop (mkF m 24 #[rv pr0, iv (1 : Int32)] [(.int x14)])) t → Steps p.tables e below (T9.setTop (mkF m 16 #[rv pr0, iv (1 : Int32)] [(.int y1_ringed)])) t := by
      have pre15_ : ∀ t, Steps p.tables e below (T9.setTop (mkF m 16 #[rv pr0, iv (1 : Int32)] [(.int y1_ringed)])) t → Steps p.tables e below (T9.setTop (mkF m 16 #[rv pr0, iv (1 : Int32)] [(.int y1_ringed)])) t := fun t kt => kt
      subst hx14
      by_cases hm16_16 : y1_ringed = (0 : Int32)
      · have pre17 : ∀ t, Steps p.tables e below (T9.setTop (mkF m 24 #[rv pr0, iv (1 : Int32)] [(.int (1 : Int32))])) t → Steps p.tables e below (T9.setTop (mkF m 16 #[rv pr0, iv (1 : Int32)] [(.int y1_ringed)])) t := fun t kt => pre15_ t (by
            refine y_ifNo X9.here hx (hb hby d6_16) ((if0 _ _).trans (teq hm16_16).2) (pc' := 19) rfl ?_
            refine y_iconst X9.here hx (hb hby d6_19) (v := (1 : Int32)) rfl (pc' := 20) rfl ?_
            refine y_goto X9.here hx (hb hby d6_20) (pc' := 24) (by decide) rfl ?_
            exact kt)
        refine ⟨T9, ⟨X9, e9.trans e9.symm⟩, fun t kt => pre17 t ?_⟩
        (try simp only [if_pos hm16_16] at kt)
        exact kt
      · have pre18 : ∀ t, Steps p.tables e below (T9.setTop (mkF m 24 #[rv pr0, iv (1 : Int32)] [(.int (0 : Int32))])) t → Steps p.tables e below (T9.setTop (mkF m 16 #[rv pr0, iv (1 : Int32)] [(.int y1_ringed)])) t := fun t kt => pre15_ t (by
            refine y_ifYes X9.here hx (hb hby d6_16) ((if0 _ _).trans (feq hm16_16).2) (pc' := 23) (by decide) rfl ?_
            refine y_iconst X9.here hx (hb hby d6_23) (v := (0 : Int32)) rfl (pc' := 24) rfl ?_
            exact kt)
        refine ⟨T9, ⟨X9, e9.trans e9.symm⟩, fun t kt => pre18 t ?_⟩
        (try simp only [if_neg hm16_16] at kt)
        exact kt
    have e15 : T15.heap = h0 := q15.trans e9
    have pre19 : ∀ t, Steps p.tables e below (T15.setTop (mkF m 24 #[rv pr0, iv (1 : Int32)] [(.int x14)])) t → Go t := fun t kt => pre13 t (st15 t kt)
    obtain ⟨fs, hr, hrun, hended, hW, hsame⟩ := X15.leave (v := some (.int (nar .boolean x14))) (fun h => by rw [Bd.returns] at h; cases h)
    refine ⟨_, _, (hGo _).mp (pre19 _ ?_), hrun, hended, _, _, rfl, ?_, ⟨_, rfl⟩, hW, hsame.mono (by decide) (by decide)⟩
    · exact retN X15 hx (t := .boolean) Bd.returns (by simp) (hb hby d6_24) hr
    · show Q6i1 Z pr0 u_liberties_pr0 u_ringed_pr0 nn kk_u_liberties_pr0 y0_liberties y1_liberties kk_u_ringed_pr0 y0_ringed y1_ringed h0 n0 _ T15.heap _
      rw [e15]
      subst hx14
      exact ⟨(by first | (simp only [if_pos hc7_7]; done) | (simp only [if_pos hc7_7]; exact rfl) | exact rfl), N0, rfl⟩
  · have pre20 : ∀ t, Steps p.tables e below (T2.setTop (mkF m 24 #[rv pr0, iv (1 : Int32)] [(.int (0 : Int32))])) t → Go t := fun t kt => pre6 t (by
        refine y_icmpYes X2.here hx (hb hby d6_7) (feq hc7_7).2 (pc' := 23) (by decide) rfl ?_
        refine y_iconst X2.here hx (hb hby d6_23) (v := (0 : Int32)) rfl (pc' := 24) rfl ?_
        exact kt)
    obtain ⟨fs, hr, hrun, hended, hW, hsame⟩ := X2.leave (v := some (.int (0 : Int32))) (fun h => by rw [Bd.returns] at h; cases h)
    refine ⟨_, _, (hGo _).mp (pre20 _ ?_), hrun, hended, _, _, rfl, ?_, ⟨_, rfl⟩, hW, hsame.mono (by decide) (by decide)⟩
    · exact retN X2 hx (t := .boolean) Bd.returns (by simp) (hb hby d6_24) hr
    · show Q6i1 Z pr0 u_liberties_pr0 u_ringed_pr0 nn kk_u_liberties_pr0 y0_liberties y1_liberties kk_u_ringed_pr0 y0_ringed y1_ringed h0 n0 _ T2.heap _
      rw [e2]
      exact ⟨(by first | (simp only [if_neg hc7_7]; done) | (simp only [if_neg hc7_7]; exact rfl) | exact rfl), N0, rfl⟩
theorem law0_142 (pi2 : Int32) (x2 : Int32) (x18 : Int32) (x90 : Int32) (x116 : Int32) (x138 : Int32) (hx2 : x2 = (if (pi2 &&& (1 : Int32)) = (0 : Int32) then (0 : Int32) else (1 : Int32))) (hx90 : x90 = (nar .boolean x2)) (hx116 : x116 = (if x18 = (1 : Int32) then (if x2 = (0 : Int32) then (1 : Int32) else (0 : Int32)) else (0 : Int32))) (hx138 : x138 = (if x18 = (1 : Int32) then (nar .boolean (if x90 = (0 : Int32) then (1 : Int32) else (0 : Int32))) else (0 : Int32))) : x138 = x116 := by
  rw [hx138, hx116, own_narI, hx90, own_nar01 (x := x2) (by rw [hx2]; exact own_ite01)]
theorem law0_150 (pi2 : Int32) (x9 : Int32) (x23 : Int32) (x113 : Int32) (x116 : Int32) (x126 : Int32) (x138 : Int32) (x146 : Int32) (hx9 : x9 = (if (pi2 &&& (2 : Int32)) = (0 : Int32) then (0 : Int32) else (1 : Int32))) (hx113 : x113 = (nar .boolean x9)) (hx126 : x126 = (if x23 = (1 : Int32) then (if x9 = (0 : Int32) then (1 : Int32) else (0 : Int32)) else (0 : Int32))) (hx146 : x146 = (if x23 = (1 : Int32) then (nar .boolean (if x113 = (0 : Int32) then (1 : Int32) else (0 : Int32))) else (0 : Int32))) (hf140_140 : x138 = x116) : x146 = x126 := by
  rw [hx146, hx126, own_narI, hx113, own_nar01 (x := x9) (by rw [hx9]; exact own_ite01)]
theorem pd__II_I : parseMethodDescriptor "(II)I" = some ⟨[.int, .int], some .int⟩ := by decide +kernel
theorem pd__I_V : parseMethodDescriptor "(I)V" = some ⟨[.int], none⟩ := by decide +kernel
theorem pd__Lcom_example_stonegaze_stonegaze_Side_IIZ_I : parseMethodDescriptor "(Lcom/example/stonegaze/stonegaze/Side;IIZ)I" = some ⟨[(.object "com/example/stonegaze/stonegaze/Side"), .int, .int, .boolean], some .int⟩ := by decide +kernel
theorem pd__I_Z : parseMethodDescriptor "(I)Z" = some ⟨[.int], some .boolean⟩ := by decide +kernel
theorem ef_0 (m : MethodId) (x0 : Int32) (x1 : Int32) (x2 : Int32) : entryFrame m #[(.int x0), (.int x1), (.int x2)] maxLocals = mkF m 0 #[iv x0, iv x1, iv x2, .unset, .unset, .unset, .unset, .unset, .unset, .unset, .unset, .unset] [] := by first | (simp [entryFrame, mkF, argsToLocals, Value.category, maxLocals]; done) | rfl
def Q0 (Z : State) (pi0 : Int32) (pi1 : Int32) (pi2 : Int32) (w_WHITE : Addr) (w_BLACK : Addr) (h0 : Heap) (n0 : Nat) (v : Option Value) (h : Heap) (L : List Loc) : Prop := v = some (.int (1 : Int32)) ∧ Fr n0 L
set_option maxRecDepth 65536 in
set_option maxHeartbeats 40000000 in
theorem rm0 (l : Launch) (Z : State) (a0 : Array Value) (hw : ∀ d ∈ tables_1, d.before a0 Z = true) (ws : List Jvm.Cond) (pi0 : Int32) (pi1 : Int32) (pi2 : Int32) (w_WHITE : Addr) (w_BLACK : Addr) (h0 : Heap) (n0 : Nat) (O0 : Old Z n0 h0) (S_WHITE : Sta Z Z.heap "com/example/stonegaze/stonegaze/Side" "WHITE" "Lcom/example/stonegaze/stonegaze/Side;" (.ref w_WHITE)) (S_BLACK : Sta Z Z.heap "com/example/stonegaze/stonegaze/Side" "BLACK" "Lcom/example/stonegaze/stonegaze/Side;" (.ref w_BLACK)) (E_w_WHITE : Exa Z Z.heap w_WHITE "com/example/stonegaze/stonegaze/Side") (E_w_BLACK : Exa Z Z.heap w_BLACK "com/example/stonegaze/stonegaze/Side") :
    MetFree l x (head1 (Jvm.Cond.code x code maxLocals ret :: ws) room_1) (fun a U => a = #[(.int pi0), (.int pi1), (.int pi2)] ∧ Z.Warmed39 U.vm ∧ U.heap = h0) (fun _ _ _ _ _ => True) (fun _ U o U' => ∃ v L, o = .returned v ∧ Q0 Z pi0 pi1 pi2 w_WHITE w_BLACK h0 n0 v U'.heap L ∧ FrameEnd U o U' L room_1.cells room_1.slots) := by
  refine MetFree.of_bodySF (plainFor_of_name pn_com_example_stonegaze_stonegaze_GroupsInAtariPinLaw) hisR ?_
  intro p e s m args below meth c s₁ Bd hml0 hP hK
  obtain ⟨rfl, hZ, hh⟩ := hP
  have hx := Bd.exec
  have hby := Bd.bytes
  have hml : c.maxLocals = 12 := hml0
  have hown : s.vm.findClass "com/example/stonegaze/stonegaze/GroupsInAtariPinLaw" = some m.cls := findClass_of_methodNamed Bd.named
  have hnm := (name_of_methodNamed Bd.named Bd.method).1
  have X0 : Stand p l e room_1 s m #[(.int pi0), (.int pi1), (.int pi2)] below meth c s₁ [] 0 0 := Stand.of_body Bd
  have e0 : s₁.heap = h0 := by rw [← hh, Bd.state]; rfl
  have N0 := Fr.nil n0
  obtain ⟨Go, hGo⟩ : ∃ P : State → Prop, ∀ t, P t ↔ Steps p.tables e below (s₁.setTop (entryFrame m #[(.int pi0), (.int pi1), (.int pi2)] maxLocals)) t := ⟨_, fun _ => Iff.rfl⟩
  have pre0 : ∀ t, Steps p.tables e below (s₁.setTop (mkF m 0 #[iv pi0, iv pi1, iv pi2, .unset, .unset, .unset, .unset, .unset, .unset, .unset, .unset, .unset] [])) t → Go t := fun t k => (hGo t).mpr (castTop (ef_0 m pi0 pi1 pi2) k)
  have pre1 : ∀ t, Steps p.tables e below (s₁.setTop (mkF m 3 #[iv pi0, iv pi1, iv pi2, .unset, .unset, .unset, .unset, .unset, .unset, .unset, .unset, .unset] [(.int (pi2 &&& (1 : Int32)))])) t → Go t := fun t kt => pre0 t (by
      refine y_iloadN X0.here hx (hb hby at_0) rfl (pc' := 1) rfl ?_
      refine y_iconst X0.here hx (hb hby at_1) (v := (1 : Int32)) rfl (pc' := 2) rfl ?_
      refine y_iand X0.here hx (hb hby at_2) rfl (pc' := 3) rfl ?_
      exact kt)
  obtain ⟨x2, hx2⟩ : ∃ z : Int32, z = (if (pi2 &&& (1 : Int32)) = (0 : Int32) then (0 : Int32) else (1 : Int32)) := ⟨_, rfl⟩
  obtain ⟨T3, ⟨X3, q3⟩, st3⟩ : ∃ T', Nx X0 T' ∧ ∀ t, Steps p.tables e below (T'.setTop (mkF m 11 #[iv pi0, iv pi1, iv pi2, .unset, .unset, .unset, .unset, .unset, .unset, .unset, .unset, .unset] [(.int x2)])) t → Steps p.tables e below (s₁.setTop (mkF m 3 #[iv pi0, iv pi1, iv pi2, .unset, .unset, .unset, .unset, .unset, .unset, .unset, .unset, .unset] [(.int (pi2 &&& (1 : Int32)))])) t := by
    have pre3_ : ∀ t, Steps p.tables e below (s₁.setTop (mkF m 3 #[iv pi0, iv pi1, iv pi2, .unset, .unset, .unset, .unset, .unset, .unset, .unset, .unset, .unset] [(.int (pi2 &&& (1 : Int32)))])) t → Steps p.tables e below (s₁.setTop (mkF m 3 #[iv pi0, iv pi1, iv pi2, .unset, .unset, .unset, .unset, .unset, .unset, .unset, .unset, .unset] [(.int (pi2 &&& (1 : Int32)))])) t := fun t kt => kt
    subst hx2
    by_cases hm3_4 : (pi2 &&& (1 : Int32)) = (0 : Int32)
    · have pre5 : ∀ t, Steps p.tables e below (s₁.setTop (mkF m 11 #[iv pi0, iv pi1, iv pi2, .unset, .unset, .unset, .unset, .unset, .unset, .unset, .unset, .unset] [(.int (0 : Int32))])) t → Steps p.tables e below (s₁.setTop (mkF m 3 #[iv pi0, iv pi1, iv pi2, .unset, .unset, .unset, .unset, .unset, .unset, .unset, .unset, .unset] [(.int (pi2 &&& (1 : Int32)))])) t := fun t kt => pre3_ t (by
          refine y_ifYes X0.here hx (hb hby at_3) ((if0 _ _).trans (teq hm3_4).1) (pc' := 10) (by decide) rfl ?_
          refine y_iconst X0.here hx (hb hby at_10) (v := (0 : Int32)) rfl (pc' := 11) rfl ?_
          exact kt)
      refine ⟨s₁, ⟨X0, e0.trans e0.symm⟩, fun t kt => pre5 t ?_⟩
      (try simp only [if_pos hm3_4] at kt)
      exact kt
    · have pre6 : ∀ t, Steps p.tables e below (s₁.setTop (mkF m 11 #[iv pi0, iv pi1, iv pi2, .unset, .unset, .unset, .unset, .unset, .unset, .unset, .unset, .unset] [(.int (1 : Int32))])) t → Steps p.tables e below (s₁.setTop (mkF m 3 #[iv pi0, iv pi1, iv pi2, .unset, .unset, .unset, .unset, .unset, .unset, .unset, .unset, .unset] [(.int (pi2 &&& (1 : Int32)))])) t := fun t kt => pre3_ t (by
          refine y_ifNo X0.here hx (hb hby at_3) ((if0 _ _).trans (feq hm3_4).1) (pc' := 6) rfl ?_
          refine y_iconst X0.here hx (hb hby at_6) (v := (1 : Int32)) rfl (pc' := 7) rfl ?_
          refine y_goto X0.here hx (hb hby at_7) (pc' := 11) (by decide) rfl ?_
          exact kt)
      refine ⟨s₁, ⟨X0, e0.trans e0.symm⟩, fun t kt => pre6 t ?_⟩
      (try simp only [if_neg hm3_4] at kt)
      exact kt
  have e3 : T3.heap = h0 := q3.trans e0
  have pre7 : ∀ t, Steps p.tables e below (T3.setTop (mkF m 11 #[iv pi0, iv pi1, iv pi2, .unset, .unset, .unset, .unset, .unset, .unset, .unset, .unset, .unset] [(.int x2)])) t → Go t := fun t kt => pre1 t (st3 t kt)
  have pre8 : ∀ t, Steps p.tables e below (T3.setTop (mkF m 15 #[iv pi0, iv pi1, iv pi2, iv x2, .unset, .unset, .unset, .unset, .unset, .unset, .unset, .unset] [(.int (pi2 &&& (2 : Int32)))])) t → Go t := fun t kt => pre7 t (by
      refine y_istoreN X3.here hx (hb hby at_11) (l' := #[iv pi0, iv pi1, iv pi2, iv x2, .unset, .unset, .unset, .unset, .unset, .unset, .unset, .unset]) rfl (pc' := 12) rfl ?_
      refine y_iloadN X3.here hx (hb hby at_12) rfl (pc' := 13) rfl ?_
      refine y_iconst X3.here hx (hb hby at_13) (v := (2 : Int32)) rfl (pc' := 14) rfl ?_
      refine y_iand X3.here hx (hb hby at_14) rfl (pc' := 15) rfl ?_
      exact kt)
  obtain ⟨x9, hx9⟩ : ∃ z : Int32, z = (if (pi2 &&& (2 : Int32)) = (0 : Int32) then (0 : Int32) else (1 : Int32)) := ⟨_, rfl⟩
  obtain ⟨T10, ⟨X10, q10⟩, st10⟩ : ∃ T', Nx X3 T' ∧ ∀ t, Steps p.tables e below (T'.setTop (mkF m 23 #[iv pi0, iv pi1, iv pi2, iv x2, .unset, .unset, .unset, .unset, .unset, .unset, .unset, .unset] [(.int x9)])) t → Steps p.tables e below (T3.setTop (mkF m 15 #[iv pi0, iv pi1, iv pi2, iv x2, .unset, .unset, .unset, .unset, .unset, .unset, .unset, .unset] [(.int (pi2 &&& (2 : Int32)))])) t := by
    have pre10_ : ∀ t, Steps p.tables e below (T3.setTop (mkF m 15 #[iv pi0, iv pi1, iv pi2, iv x2, .unset, .unset, .unset, .unset, .unset, .unset, .unset, .unset] [(.int (pi2 &&& (2 : Int32)))])) t → Steps p.tables e below (T3.setTop (mkF m 15 #[iv pi0, iv pi1, iv pi2, iv x2, .unset, .unset, .unset, .unset, .unset, .unset, .unset, .unset] [(.int (pi2 &&& (2 : Int32)))])) t := fun t kt => kt
    subst hx9
    by_cases hm15_11 : (pi2 &&& (2 : Int32)) = (0 : Int32)
    · have pre12 : ∀ t, Steps p.tables e below (T3.setTop (mkF m 23 #[iv pi0, iv pi1, iv pi2, iv x2, .unset, .unset, .unset, .unset, .unset, .unset, .unset, .unset] [(.int (0 : Int32))])) t → Steps p.tables e below (T3.setTop (mkF m 15 #[iv pi0, iv pi1, iv pi2, iv x2, .unset, .unset, .unset, .unset, .unset, .unset, .unset, .unset] [(.int (pi2 &&& (2 : Int32)))])) t := fun t kt => pre10_ t (by
          refine y_ifYes X3.here hx (hb hby at_15) ((if0 _ _).trans (teq hm15_11).1) (pc' := 22) (by decide) rfl ?_
          refine y_iconst X3.here hx (hb hby at_22) (v := (0 : Int32)) rfl (pc' := 23) rfl ?_
          exact kt)
      refine ⟨T3, ⟨X3, e3.trans e3.symm⟩, fun t kt => pre12 t ?_⟩
      (try simp only [if_pos hm15_11] at kt)
      exact kt
    · have pre13 : ∀ t, Steps p.tables e below (T3.setTop (mkF m 23 #[iv pi0, iv pi1, iv pi2, iv x2, .unset, .unset, .unset, .unset, .unset, .unset, .unset, .unset] [(.int (1 : Int32))])) t → Steps p.tables e below (T3.setTop (mkF m 15 #[iv pi0, iv pi1, iv pi2, iv x2, .unset, .unset, .unset, .unset, .unset, .unset, .unset, .unset] [(.int (pi2 &&& (2 : Int32)))])) t := fun t kt => pre10_ t (by
          refine y_ifNo X3.here hx (hb hby at_15) ((if0 _ _).trans (feq hm15_11).1) (pc' := 18) rfl ?_
          refine y_iconst X3.here hx (hb hby at_18) (v := (1 : Int32)) rfl (pc' := 19) rfl ?_
          refine y_goto X3.here hx (hb hby at_19) (pc' := 23) (by decide) rfl ?_
          exact kt)
      refine ⟨T3, ⟨X3, e3.trans e3.symm⟩, fun t kt => pre13 t ?_⟩
      (try simp only [if_neg hm15_11] at kt)
      exact kt
  have e10 : T10.heap = h0 := q10.trans e3
  have pre14 : ∀ t, Steps p.tables e below (T10.setTop (mkF m 23 #[iv pi0, iv pi1, iv pi2, iv x2, .unset, .unset, .unset, .unset, .unset, .unset, .unset, .unset] [(.int x9)])) t → Go t := fun t kt => pre8 t (st10 t kt)
  have pre15 : ∀ t, Steps p.tables e below (T10.setTop (mkF m 31 #[iv pi0, iv pi1, iv pi2, iv x2, iv x9, .unset, .unset, .unset, .unset, .unset, .unset, .unset] [(.int pi0), (.int (((pi2.toUInt32 >>> ((2 : Int32) &&& 31).toUInt32).toInt32) &&& (3 : Int32)))])) t → Go t := fun t kt => pre14 t (by
      refine y_istore X10.here hx (hb hby at_23) (l' := #[iv pi0, iv pi1, iv pi2, iv x2, iv x9, .unset, .unset, .unset, .unset, .unset, .unset, .unset]) rfl (pc' := 25) rfl ?_
      refine y_iloadN X10.here hx (hb hby at_25) rfl (pc' := 26) rfl ?_
      refine y_iconst X10.here hx (hb hby at_26) (v := (2 : Int32)) rfl (pc' := 27) rfl ?_
      refine y_iushr X10.here hx (hb hby at_27) (z := ((pi2.toUInt32 >>> ((2 : Int32) &&& 31).toUInt32).toInt32)) rfl (pc' := 28) rfl ?_
      refine y_iconst X10.here hx (hb hby at_28) (v := (3 : Int32)) rfl (pc' := 29) rfl ?_
      refine y_iand X10.here hx (hb hby at_29) rfl (pc' := 30) rfl ?_
      refine y_iloadN X10.here hx (hb hby at_30) rfl (pc' := 31) rfl ?_
      exact kt)
  obtain ⟨v16, _, ⟨T16, L16, k16, n16⟩, -, X16, ⟨Lc16, hQ16, l16, y16, z16⟩, st16⟩ := Jvm.LawKit.callS X10 hx (y := (⟨"com/example/stonegaze/stonegaze/GroupsInAtariPinLaw", "pick", "(II)I"⟩ : MethodName)) hown (mvT hZ (hw _ (List.mem_of_getElem? (i := 0) rfl))) (mvT hZ (hw _ (List.mem_of_getElem? (i := 1) rfl))) (mvT hZ (hw _ (List.mem_of_getElem? (i := 2) rfl))) (mvT hZ (hw _ (List.mem_of_getElem? (i := 3) rfl))) (by decide) (backOf (W := 0) (rm1 l Z a0 hw [] (((pi2.toUInt32 >>> ((2 : Int32) &&& 31).toUInt32).toInt32) &&& (3 : Int32)) pi0 h0 n0 O0 ) hZ (hw _ (List.mem_of_getElem? (i := 3) rfl)) (hw _ (List.mem_of_getElem? (i := 2) rfl)) (by decide) (by decide)) (g := (mkF m 31 #[iv pi0, iv pi1, iv pi2, iv x2, iv x9, .unset, .unset, .unset, .unset, .unset, .unset, .unset] [(.int pi0), (.int (((pi2.toUInt32 >>> ((2 : Int32) &&& 31).toUInt32).toInt32) &&& (3 : Int32)))])) rfl (by rw [hml]; rfl) (argsL := [(.int (((pi2.toUInt32 >>> ((2 : Int32) &&& 31).toUInt32).toInt32) &&& (3 : Int32))), (.int pi0)]) (rest := []) (lenOf pd__II_I rfl) rfl (by show 2 * 0 + _ ≤ _; exact Nat.le_of_eq rfl) (hb hby at_31) (fun _ _ => ⟨rfl, e10, (by decide : 0 + 0 ≤ _), (by decide : 0 + 0 ≤ _)⟩)
  dsimp only [Pt.U, Pt.locs, Pt.cells, Pt.slots] at X16 l16 y16 z16 st16 hQ16
  subst l16 y16 z16
  obtain ⟨hv16, N16q, e16q⟩ := hQ16
  have N17 := Fr.app N0 N16q
  have hw16 := hv16
  obtain ⟨x18, hx18⟩ : ∃ z : Int32, z = (if (((pi2.toUInt32 >>> ((2 : Int32) &&& 31).toUInt32).toInt32) &&& (3 : Int32)) = (0 : Int32) then (1 : Int32) else (if (((pi2.toUInt32 >>> ((2 : Int32) &&& 31).toUInt32).toInt32) &&& (3 : Int32)) = (1 : Int32) then (0 : Int32) else (if (((pi2.toUInt32 >>> ((2 : Int32) &&& 31).toUInt32).toInt32) &&& (3 : Int32)) = (2 : Int32) then (2 : Int32) else pi0))) := ⟨_, rfl⟩
  rw [← hx18] at hw16
  subst hw16
  have pre19 : ∀ t, Steps p.tables e below (T16.setTop (mkF m 34 #[iv pi0, iv pi1, iv pi2, iv x2, iv x9, .unset, .unset, .unset, .unset, .unset, .unset, .unset] [(.int x18)])) t → Go t := fun t kt => pre15 t (st16 t kt)
  have pre20 : ∀ t, Steps p.tables e below (T16.setTop (mkF m 42 #[iv pi0, iv pi1, iv pi2, iv x2, iv x9, iv x18, .unset, .unset, .unset, .unset, .unset, .unset] [(.int pi1), (.int (((pi2.toUInt32 >>> ((4 : Int32) &&& 31).toUInt32).toInt32) &&& (3 : Int32)))])) t → Go t := fun t kt => pre19 t (by
      refine y_istore X16.here hx (hb hby at_34) (l' := #[iv pi0, iv pi1, iv pi2, iv x2, iv x9, iv x18, .unset, .unset, .unset, .unset, .unset, .unset]) rfl (pc' := 36) rfl ?_
      refine y_iloadN X16.here hx (hb hby at_36) rfl (pc' := 37) rfl ?_
      refine y_iconst X16.here hx (hb hby at_37) (v := (4 : Int32)) rfl (pc' := 38) rfl ?_
      refine y_iushr X16.here hx (hb hby at_38) (z := ((pi2.toUInt32 >>> ((4 : Int32) &&& 31).toUInt32).toInt32)) rfl (pc' := 39) rfl ?_
      refine y_iconst X16.here hx (hb hby at_39) (v := (3 : Int32)) rfl (pc' := 40) rfl ?_
      refine y_iand X16.here hx (hb hby at_40) rfl (pc' := 41) rfl ?_
      refine y_iloadN X16.here hx (hb hby at_41) rfl (pc' := 42) rfl ?_
      exact kt)
  obtain ⟨v21, _, ⟨T21, L21, k21, n21⟩, -, X21, ⟨Lc21, hQ21, l21, y21, z21⟩, st21⟩ := Jvm.LawKit.callS X16 hx (y := (⟨"com/example/stonegaze/stonegaze/GroupsInAtariPinLaw", "pick", "(II)I"⟩ : MethodName)) hown (mvT hZ (hw _ (List.mem_of_getElem? (i := 0) rfl))) (mvT hZ (hw _ (List.mem_of_getElem? (i := 1) rfl))) (mvT hZ (hw _ (List.mem_of_getElem? (i := 2) rfl))) (mvT hZ (hw _ (List.mem_of_getElem? (i := 3) rfl))) (by decide) (backOf (W := 0) (rm1 l Z a0 hw [] (((pi2.toUInt32 >>> ((4 : Int32) &&& 31).toUInt32).toInt32) &&& (3 : Int32)) pi1 h0 n0 O0 ) hZ (hw _ (List.mem_of_getElem? (i := 3) rfl)) (hw _ (List.mem_of_getElem? (i := 2) rfl)) (by decide) (by decide)) (g := (mkF m 42 #[iv pi0, iv pi1, iv pi2, iv x2, iv x9, iv x18, .unset, .unset, .unset, .unset, .unset, .unset] [(.int pi1), (.int (((pi2.toUInt32 >>> ((4 : Int32) &&& 31).toUInt32).toInt32) &&& (3 : Int32)))])) rfl (by rw [hml]; rfl) (argsL := [(.int (((pi2.toUInt32 >>> ((4 : Int32) &&& 31).toUInt32).toInt32) &&& (3 : Int32))), (.int pi1)]) (rest := []) (lenOf pd__II_I rfl) rfl (by show 2 * 0 + _ ≤ _; exact Nat.le_of_eq rfl) (hb hby at_42) (fun _ _ => ⟨rfl, e16q, (by decide : 0 + 0 ≤ _), (by decide : 0 + 0 ≤ _)⟩)
  dsimp only [Pt.U, Pt.locs, Pt.cells, Pt.slots] at X21 l21 y21 z21 st21 hQ21
  subst l21 y21 z21
  obtain ⟨hv21, N21q, e21q⟩ := hQ21
  have N22 := Fr.app N17 N21q
  have hw21 := hv21
  obtain ⟨x23, hx23⟩ : ∃ z : Int32, z = (if (((pi2.toUInt32 >>> ((4 : Int32) &&& 31).toUInt32).toInt32) &&& (3 : Int32)) = (0 : Int32) then (1 : Int32) else (if (((pi2.toUInt32 >>> ((4 : Int32) &&& 31).toUInt32).toInt32) &&& (3 : Int32)) = (1 : Int32) then (0 : Int32) else (if (((pi2.toUInt32 >>> ((4 : Int32) &&& 31).toUInt32).toInt32) &&& (3 : Int32)) = (2 : Int32) then (2 : Int32) else pi1))) := ⟨_, rfl⟩
  rw [← hx23] at hw21
  subst hw21
  have pre24 : ∀ t, Steps p.tables e below (T21.setTop (mkF m 45 #[iv pi0, iv pi1, iv pi2, iv x2, iv x9, iv x18, .unset, .unset, .unset, .unset, .unset, .unset] [(.int x23)])) t → Go t := fun t kt => pre20 t (st21 t kt)
  have pre25 : ∀ t, Steps p.tables e below (T21.setTop (mkF m 47 #[iv pi0, iv pi1, iv pi2, iv x2, iv x9, iv x18, iv x23, .unset, .unset, .unset, .unset, .unset] [])) t → Go t := fun t kt => pre24 t (by
      refine y_istore X21.here hx (hb hby at_45) (l' := #[iv pi0, iv pi1, iv pi2, iv x2, iv x9, iv x18, iv x23, .unset, .unset, .unset, .unset, .unset]) rfl (pc' := 47) rfl ?_
      exact kt)
  obtain ⟨T26, h26, X26, e26, E26, A26, D26, -, st26⟩ := newO X21 hx hZ hown (hw _ (List.mem_of_getElem? (i := 4) rfl)) (hw _ (List.mem_of_getElem? (i := 5) rfl)) (hw _ (List.mem_of_getElem? (i := 6) rfl)) e21q (g := (mkF m 47 #[iv pi0, iv pi1, iv pi2, iv x2, iv x9, iv x18, iv x23, .unset, .unset, .unset, .unset, .unset] [])) rfl (hb hby at_47) (by decide) (by decide)
  obtain ⟨b26, g26⟩ : ∃ z, z = h0.size := ⟨_, rfl⟩
  rw [← g26] at A26 D26 st26
  have pre27 : ∀ t, Steps p.tables e below (T26.setTop (mkF m 50 #[iv pi0, iv pi1, iv pi2, iv x2, iv x9, iv x18, iv x23, .unset, .unset, .unset, .unset, .unset] [(.ref b26)])) t → Go t := fun t kt => pre25 t (st26 t kt)
  have G28 : n0 ≤ b26 := Nat.le_trans (O0.1 ▸ O0.2.1) (Nat.le_of_eq g26.symm)
  have O28 := O0.ext E26
  have f29 : Fld Z h26 b26 "com/example/stonegaze/stonegaze/Groups" "groupOf" "[I" .null := D26 (Or.inr (hw _ (List.mem_of_getElem? (i := 15) rfl))) (ty := (.array .int)) (by decide)
  have f30 : Fld Z h26 b26 "com/example/stonegaze/stonegaze/Groups" "colours" "[Lcom/example/stonegaze/stonegaze/Side;" .null := D26 (Or.inr (hw _ (List.mem_of_getElem? (i := 23) rfl))) (ty := (.array (.object "com/example/stonegaze/stonegaze/Side"))) (by decide)
  have f31 : Fld Z h26 b26 "com/example/stonegaze/stonegaze/Groups" "stones" "[I" .null := D26 (Or.inr (hw _ (List.mem_of_getElem? (i := 25) rfl))) (ty := (.array .int)) (by decide)
  have f32 : Fld Z h26 b26 "com/example/stonegaze/stonegaze/Groups" "liberties" "[I" .null := D26 (Or.inr (hw _ (List.mem_of_getElem? (i := 27) rfl))) (ty := (.array .int)) (by decide)
  have f33 : Fld Z h26 b26 "com/example/stonegaze/stonegaze/Groups" "ringed" "[Z" .null := D26 (Or.inr (hw _ (List.mem_of_getElem? (i := 30) rfl))) (ty := (.array .boolean)) (by decide)
  have f34 : Fld Z h26 b26 "com/example/stonegaze/stonegaze/Groups" "aLiberty" "[I" .null := D26 (Or.inr (hw _ (List.mem_of_getElem? (i := 32) rfl))) (ty := (.array .int)) (by decide)
  have f35 : Fld Z h26 b26 "com/example/stonegaze/stonegaze/Groups" "count" "I" (.int (0 : Int32)) := D26 (Or.inl (hw _ (List.mem_of_getElem? (i := 42) rfl))) (ty := .int) (by decide)
  have pre36 : ∀ t, Steps p.tables e below (T26.setTop (mkF m 52 #[iv pi0, iv pi1, iv pi2, iv x2, iv x9, iv x18, iv x23, .unset, .unset, .unset, .unset, .unset] [(.int (4 : Int32)), (.ref b26), (.ref b26)])) t → Go t := fun t kt => pre27 t (by
      refine y_dup X26.here hx (hb hby at_50) rfl (pc' := 51) rfl ?_
      refine y_iconst X26.here hx (hb hby at_51) (v := (4 : Int32)) rfl (pc' := 52) rfl ?_
      exact kt)
  obtain ⟨v37, _, ⟨T37, L37, k37, n37⟩, -, X37, ⟨Lc37, hQ37, l37, y37, z37⟩, st37⟩ := X26.specialBack hx (y := (⟨"com/example/stonegaze/stonegaze/Groups", "<init>", "(I)V"⟩ : MethodName)) rfl hown (mvT hZ (hw _ (List.mem_of_getElem? (i := 7) rfl))) (mvT hZ (hw _ (List.mem_of_getElem? (i := 8) rfl))) (mvT hZ (hw _ (List.mem_of_getElem? (i := 9) rfl))) (by decide) (backOf (W := 1) (rm2 l Z a0 hw [] b26 (4 : Int32) h26 n0 O28 A26 f29 f30 f31 f32 f33 f34 f35 G28 (by decide) (by decide)) hZ (hw _ (List.mem_of_getElem? (i := 9) rfl)) (hw _ (List.mem_of_getElem? (i := 6) rfl)) (by decide) (by decide)) (g := (mkF m 52 #[iv pi0, iv pi1, iv pi2, iv x2, iv x9, iv x18, iv x23, .unset, .unset, .unset, .unset, .unset] [(.int (4 : Int32)), (.ref b26), (.ref b26)])) rfl (by rw [hml]; rfl) (Steps.refl _) (a := b26) (argsL := [(.int (4 : Int32))]) (rest := [(.ref b26)]) (lenOf pd__I_V rfl) rfl (by show 2 * 0 + _ ≤ _; exact Nat.le_of_eq rfl) (hb hby at_52) (fun _ _ => ⟨rfl, e26, (by decide : 1 + 6 ≤ _), (by decide : 7 + 24 ≤ _)⟩)
  dsimp only [Pt.U, Pt.locs, Pt.cells, Pt.slots] at X37 l37 y37 z37 st37 hQ37
  subst l37 y37 z37
  have bl37 := A26.lt
  obtain ⟨z37_groupOf, z37_colours, z37_stones, z37_liberties, z37_ringed, z37_aLiberty, k37_groupOf, k37_colours, k37_stones, k37_liberties, k37_ringed, k37_aLiberty, hv37, N37q, K37q, pF37_groupOf, pF37_colours, pF37_stones, pF37_liberties, pF37_ringed, pF37_aLiberty, pF37_count, pV37_groupOf, pV37_colours, pV37_stones, pV37_liberties, pV37_ringed, pV37_aLiberty, OV37, SZ37, lt37_colours, lt37_stones, lt37_liberties, lt37_ringed, lt37_aLiberty⟩ := hQ37
  have N38 := Fr.app N22 N37q
  subst hv37
  have pre39 : ∀ t, Steps p.tables e below (T37.setTop (mkF m 55 #[iv pi0, iv pi1, iv pi2, iv x2, iv x9, iv x18, iv x23, .unset, .unset, .unset, .unset, .unset] [(.ref b26)])) t → Go t := fun t kt => pre36 t (st37.trans kt)
  obtain ⟨h37, eh37⟩ : ∃ z, T37.heap = z := ⟨_, rfl⟩
  rw [eh37] at K37q pF37_groupOf pF37_colours pF37_stones pF37_liberties pF37_ringed pF37_aLiberty pF37_count pV37_groupOf pV37_colours pV37_stones pV37_liberties pV37_ringed pV37_aLiberty
  have G37_groupOf : n0 ≤ z37_groupOf := by have := O28.1; have := O28.2.1; omega
  have G37_colours : n0 ≤ z37_colours := by have := O28.1; have := O28.2.1; omega
  have G37_stones : n0 ≤ z37_stones := by have := O28.1; have := O28.2.1; omega
  have G37_liberties : n0 ≤ z37_liberties := by have := O28.1; have := O28.2.1; omega
  have G37_ringed : n0 ≤ z37_ringed := by have := O28.1; have := O28.2.1; omega
  have G37_aLiberty : n0 ≤ z37_aLiberty := by have := O28.1; have := O28.2.1; omega
  have f40 : Exa Z h37 b26 "com/example/stonegaze/stonegaze/Groups" := (A26.keep K37q)
  have O38 := O28.keep K37q (allS G28 all0)
  have OR_b26 : @LT.lt Nat instLTNat b26 z37_groupOf ∧ @LT.lt Nat instLTNat z37_groupOf z37_colours ∧ @LT.lt Nat instLTNat z37_colours z37_stones ∧ @LT.lt Nat instLTNat z37_stones z37_liberties ∧ @LT.lt Nat instLTNat z37_liberties z37_ringed ∧ @LT.lt Nat instLTNat z37_ringed z37_aLiberty := ⟨Nat.lt_of_lt_of_le bl37 SZ37, lt37_colours, lt37_stones, lt37_liberties, lt37_ringed, lt37_aLiberty⟩
  have ne48 : b26 ≠ z37_groupOf := Nat.ne_of_lt (by have := OR_b26; omega)
  have ne49 : b26 ≠ z37_colours := Nat.ne_of_lt (by have := OR_b26; omega)
  have ne50 : b26 ≠ z37_stones := Nat.ne_of_lt (by have := OR_b26; omega)
  have ne51 : b26 ≠ z37_liberties := Nat.ne_of_lt (by have := OR_b26; omega)
  have ne52 : b26 ≠ z37_ringed := Nat.ne_of_lt (by have := OR_b26; omega)
  have ne53 : b26 ≠ z37_aLiberty := Nat.ne_of_lt (by have := OR_b26; omega)
  have ne54 : z37_groupOf ≠ z37_colours := Nat.ne_of_lt (by have := OR_b26; omega)
  have ne55 : z37_groupOf ≠ z37_stones := Nat.ne_of_lt (by have := OR_b26; omega)
  have ne56 : z37_groupOf ≠ z37_liberties := Nat.ne_of_lt (by have := OR_b26; omega)
  have ne57 : z37_groupOf ≠ z37_ringed := Nat.ne_of_lt (by have := OR_b26; omega)
  have ne58 : z37_groupOf ≠ z37_aLiberty := Nat.ne_of_lt (by have := OR_b26; omega)
  have ne59 : z37_colours ≠ z37_stones := Nat.ne_of_lt (by have := OR_b26; omega)
  have ne60 : z37_colours ≠ z37_liberties := Nat.ne_of_lt (by have := OR_b26; omega)
  have ne61 : z37_colours ≠ z37_ringed := Nat.ne_of_lt (by have := OR_b26; omega)
  have ne62 : z37_colours ≠ z37_aLiberty := Nat.ne_of_lt (by have := OR_b26; omega)
  have ne63 : z37_stones ≠ z37_liberties := Nat.ne_of_lt (by have := OR_b26; omega)
  have ne64 : z37_stones ≠ z37_ringed := Nat.ne_of_lt (by have := OR_b26; omega)
  have ne65 : z37_stones ≠ z37_aLiberty := Nat.ne_of_lt (by have := OR_b26; omega)
  have ne66 : z37_liberties ≠ z37_ringed := Nat.ne_of_lt (by have := OR_b26; omega)
  have ne67 : z37_liberties ≠ z37_aLiberty := Nat.ne_of_lt (by have := OR_b26; omega)
  have ne68 : z37_ringed ≠ z37_aLiberty := Nat.ne_of_lt (by have := OR_b26; omega)
  have pre69 : ∀ t, Steps p.tables e below (T37.setTop (mkF m 59 #[iv pi0, iv pi1, iv pi2, iv x2, iv x9, iv x18, iv x23, rv b26, .unset, .unset, .unset, .unset] [(.ref b26)])) t → Go t := fun t kt => pre39 t (by
      refine y_astore X37.here hx (hb hby at_55) rfl (l' := #[iv pi0, iv pi1, iv pi2, iv x2, iv x9, iv x18, iv x23, rv b26, .unset, .unset, .unset, .unset]) rfl (pc' := 57) rfl ?_
      refine y_aload X37.here hx (hb hby at_57) rfl rfl (pc' := 59) rfl ?_
      exact kt)
  obtain ⟨T70, X70, e70, st70⟩ := getS2 X37 hx hZ hown (host := "") (Or.inl (hw _ (List.mem_of_getElem? (i := 33) rfl))) Via.refl eh37 (S_WHITE.ext O38.2) (g := (mkF m 59 #[iv pi0, iv pi1, iv pi2, iv x2, iv x9, iv x18, iv x23, rv b26, .unset, .unset, .unset, .unset] [(.ref b26)])) rfl (hb hby at_59)
  have pre71 : ∀ t, Steps p.tables e below (T70.setTop (mkF m 62 #[iv pi0, iv pi1, iv pi2, iv x2, iv x9, iv x18, iv x23, rv b26, .unset, .unset, .unset, .unset] [(.ref w_WHITE), (.ref b26)])) t → Go t := fun t kt => pre69 t (st70 t kt)
  have pre72 : ∀ t, Steps p.tables e below (T70.setTop (mkF m 66 #[iv pi0, iv pi1, iv pi2, iv x2, iv x9, iv x18, iv x23, rv b26, .unset, .unset, .unset, .unset] [(.int x2), (.int (-1 : Int32)), (.int x18), (.ref w_WHITE), (.ref b26)])) t → Go t := fun t kt => pre71 t (by
      refine y_iload X70.here hx (hb hby at_62) rfl (pc' := 64) rfl ?_
      refine y_iconst X70.here hx (hb hby at_64) (v := (-1 : Int32)) rfl (pc' := 65) rfl ?_
      refine y_iloadN X70.here hx (hb hby at_65) rfl (pc' := 66) rfl ?_
      exact kt)
  obtain ⟨cq73, kq73, q73a, q73b, q73c⟩ := isOf hZ e70 f40
  obtain ⟨v73, _, ⟨T73, L73, k73, n73⟩, -, X73, ⟨Lc73, hQ73, l73, y73, z73⟩, st73⟩ := X70.virtualBack hx (y := (⟨"com/example/stonegaze/stonegaze/Groups", "add", "(Lcom/example/stonegaze/stonegaze/Side;IIZ)I"⟩ : MethodName)) (z := (⟨"com/example/stonegaze/stonegaze/Groups", "add", "(Lcom/example/stonegaze/stonegaze/Side;IIZ)I"⟩ : MethodName)) hown (mvT hZ (hw _ (List.mem_of_getElem? (i := 36) rfl))) (mvT hZ (hw _ (List.mem_of_getElem? (i := 37) rfl))) (notFace_of_selects (args := #[]) (mvT hZ (hw _ (List.mem_of_getElem? (i := 39) rfl)))) (mvT hZ (hw _ (List.mem_of_getElem? (i := 39) rfl))) (mvT hZ (hw _ (List.mem_of_getElem? (i := 38) rfl))) (by decide) (backOf (W := 0) (rm5c0 l Z a0 hw [] b26 w_WHITE x18 (-1 : Int32) x2 z37_groupOf z37_colours z37_stones z37_liberties z37_ringed z37_aLiberty (4 : Int32) k37_colours k37_liberties k37_aLiberty k37_ringed h37 n0 O38 f40 pF37_groupOf pF37_colours pF37_stones pF37_liberties pF37_ringed pF37_aLiberty pF37_count (E_w_WHITE.ext O38.2) G28 G37_colours G37_liberties G37_aLiberty G37_ringed OR_b26 (by decide) (by decide) pV37_colours OV37 pV37_liberties pV37_aLiberty pV37_ringed) hZ (hw _ (List.mem_of_getElem? (i := 40) rfl)) (hw _ (List.mem_of_getElem? (i := 6) rfl)) (by decide) (by decide)) q73a q73c (g := (mkF m 66 #[iv pi0, iv pi1, iv pi2, iv x2, iv x9, iv x18, iv x23, rv b26, .unset, .unset, .unset, .unset] [(.int x2), (.int (-1 : Int32)), (.int x18), (.ref w_WHITE), (.ref b26)])) rfl (by rw [hml]; rfl) (Steps.refl _) (argsL := [(.ref w_WHITE), (.int x18), (.int (-1 : Int32)), (.int x2)]) (rest := []) (lenOf pd__Lcom_example_stonegaze_stonegaze_Side_IIZ_I rfl) rfl (by show 2 * 0 + _ ≤ _; exact Nat.le_of_eq rfl) (hb hby at_66) (fun _ _ => ⟨rfl, e70, (by decide : 7 + 0 ≤ _), (by decide : 31 + 0 ≤ _)⟩)
  dsimp only [Pt.U, Pt.locs, Pt.cells, Pt.slots] at X73 l73 y73 z73 st73 hQ73
  subst l73 y73 z73
  obtain ⟨hv73, N73q, K73q, p73_0, p73_1, p73_2, p73_3, p73_4, p73_5, p73_6, p73_7, p73_8, p73_9, p73_10⟩ := hQ73
  have N74 := Fr.app N38 N73q
  have hw73 := hv73
  subst hw73
  have pre75 : ∀ t, Steps p.tables e below (T73.setTop (mkF m 69 #[iv pi0, iv pi1, iv pi2, iv x2, iv x9, iv x18, iv x23, rv b26, .unset, .unset, .unset, .unset] [(.int (0 : Int32))])) t → Go t := fun t kt => pre72 t (st73.trans kt)
  obtain ⟨h73, eh73⟩ : ∃ z, T73.heap = z := ⟨_, rfl⟩
  rw [eh73] at K73q p73_0 p73_1 p73_2 p73_3 p73_4 p73_5 p73_6 p73_7 p73_8 p73_9 p73_10
  have f76 : Exa Z h73 b26 "com/example/stonegaze/stonegaze/Groups" := (f40.keep K73q)
  have f78 : Arv Z h73 z37_groupOf k37_groupOf .int (4 : Int32) [] (.int (-1 : Int32)) := (pV37_groupOf.keep K73q (ninS (Ne.symm ne48) (ninS ne54 (ninS ne56 (ninS ne58 (ninS ne57 nin0))))))
  have f82 : Arv Z h73 z37_stones k37_stones .int (4 : Int32) [(.int (0 : Int32)), (.int (0 : Int32))] (.int (0 : Int32)) := (pV37_stones.keep K73q (ninS (Ne.symm ne50) (ninS (Ne.symm ne59) (ninS ne63 (ninS ne65 (ninS ne64 nin0))))))
  obtain ⟨x90, hx90⟩ : ∃ z : Int32, z = (nar .boolean x2) := ⟨_, rfl⟩
  rw [← hx90] at p73_10
  have O91 := O38.keep K73q (allS G28 (allS G37_colours (allS G37_liberties (allS G37_aLiberty (allS G37_ringed all0)))))
  have pre92 : ∀ t, Steps p.tables e below (T73.setTop (mkF m 73 #[iv pi0, iv pi1, iv pi2, iv x2, iv x9, iv x18, iv x23, rv b26, iv (0 : Int32), .unset, .unset, .unset] [(.ref b26)])) t → Go t := fun t kt => pre75 t (by
      refine y_istore X73.here hx (hb hby at_69) (l' := #[iv pi0, iv pi1, iv pi2, iv x2, iv x9, iv x18, iv x23, rv b26, iv (0 : Int32), .unset, .unset, .unset]) rfl (pc' := 71) rfl ?_
      refine y_aload X73.here hx (hb hby at_71) rfl rfl (pc' := 73) rfl ?_
      exact kt)
  obtain ⟨T93, X93, e93, st93⟩ := getS2 X73 hx hZ hown (host := "") (Or.inl (hw _ (List.mem_of_getElem? (i := 44) rfl))) Via.refl eh73 (S_BLACK.ext O91.2) (g := (mkF m 73 #[iv pi0, iv pi1, iv pi2, iv x2, iv x9, iv x18, iv x23, rv b26, iv (0 : Int32), .unset, .unset, .unset] [(.ref b26)])) rfl (hb hby at_73)
  have pre94 : ∀ t, Steps p.tables e below (T93.setTop (mkF m 76 #[iv pi0, iv pi1, iv pi2, iv x2, iv x9, iv x18, iv x23, rv b26, iv (0 : Int32), .unset, .unset, .unset] [(.ref w_BLACK), (.ref b26)])) t → Go t := fun t kt => pre92 t (st93 t kt)
  have pre95 : ∀ t, Steps p.tables e below (T93.setTop (mkF m 81 #[iv pi0, iv pi1, iv pi2, iv x2, iv x9, iv x18, iv x23, rv b26, iv (0 : Int32), .unset, .unset, .unset] [(.int x9), (.int (-1 : Int32)), (.int x23), (.ref w_BLACK), (.ref b26)])) t → Go t := fun t kt => pre94 t (by
      refine y_iload X93.here hx (hb hby at_76) rfl (pc' := 78) rfl ?_
      refine y_iconst X93.here hx (hb hby at_78) (v := (-1 : Int32)) rfl (pc' := 79) rfl ?_
      refine y_iload X93.here hx (hb hby at_79) rfl (pc' := 81) rfl ?_
      exact kt)
  obtain ⟨cq96, kq96, q96a, q96b, q96c⟩ := isOf hZ e93 f76
  obtain ⟨v96, _, ⟨T96, L96, k96, n96⟩, -, X96, ⟨Lc96, hQ96, l96, y96, z96⟩, st96⟩ := X93.virtualBack hx (y := (⟨"com/example/stonegaze/stonegaze/Groups", "add", "(Lcom/example/stonegaze/stonegaze/Side;IIZ)I"⟩ : MethodName)) (z := (⟨"com/example/stonegaze/stonegaze/Groups", "add", "(Lcom/example/stonegaze/stonegaze/Side;IIZ)I"⟩ : MethodName)) hown (mvT hZ (hw _ (List.mem_of_getElem? (i := 36) rfl))) (mvT hZ (hw _ (List.mem_of_getElem? (i := 37) rfl))) (notFace_of_selects (args := #[]) (mvT hZ (hw _ (List.mem_of_getElem? (i := 39) rfl)))) (mvT hZ (hw _ (List.mem_of_getElem? (i := 39) rfl))) (mvT hZ (hw _ (List.mem_of_getElem? (i := 38) rfl))) (by decide) (backOf (W := 0) (rm5c1 l Z a0 hw [] b26 w_BLACK x23 (-1 : Int32) x9 z37_groupOf z37_colours z37_stones z37_liberties z37_ringed z37_aLiberty (4 : Int32) k37_colours w_WHITE k37_liberties x18 k37_aLiberty (-1 : Int32) k37_ringed x90 h73 n0 O91 f76 p73_0 p73_1 p73_2 p73_3 p73_4 p73_5 p73_6 (E_w_BLACK.ext O91.2) G28 G37_colours G37_liberties G37_aLiberty G37_ringed OR_b26 (by decide) (by decide) p73_7 OV37 p73_8 p73_9 p73_10) hZ (hw _ (List.mem_of_getElem? (i := 40) rfl)) (hw _ (List.mem_of_getElem? (i := 6) rfl)) (by decide) (by decide)) q96a q96c (g := (mkF m 81 #[iv pi0, iv pi1, iv pi2, iv x2, iv x9, iv x18, iv x23, rv b26, iv (0 : Int32), .unset, .unset, .unset] [(.int x9), (.int (-1 : Int32)), (.int x23), (.ref w_BLACK), (.ref b26)])) rfl (by rw [hml]; rfl) (Steps.refl _) (argsL := [(.ref w_BLACK), (.int x23), (.int (-1 : Int32)), (.int x9)]) (rest := []) (lenOf pd__Lcom_example_stonegaze_stonegaze_Side_IIZ_I rfl) rfl (by show 2 * 0 + _ ≤ _; exact Nat.le_of_eq rfl) (hb hby at_81) (fun _ _ => ⟨rfl, e93, (by decide : 7 + 0 ≤ _), (by decide : 31 + 0 ≤ _)⟩)
  dsimp only [Pt.U, Pt.locs, Pt.cells, Pt.slots] at X96 l96 y96 z96 st96 hQ96
  subst l96 y96 z96
  obtain ⟨hv96, N96q, K96q, p96_0, p96_1, p96_2, p96_3, p96_4, p96_5, p96_6, p96_7, p96_8, p96_9, p96_10⟩ := hQ96
  have N97 := Fr.app N74 N96q
  have hw96 := hv96
  subst hw96
  have pre98 : ∀ t, Steps p.tables e below (T96.setTop (mkF m 84 #[iv pi0, iv pi1, iv pi2, iv x2, iv x9, iv x18, iv x23, rv b26, iv (0 : Int32), .unset, .unset, .unset] [(.int (1 : Int32))])) t → Go t := fun t kt => pre95 t (st96.trans kt)
  obtain ⟨h96, eh96⟩ : ∃ z, T96.heap = z := ⟨_, rfl⟩
  rw [eh96] at K96q p96_0 p96_1 p96_2 p96_3 p96_4 p96_5 p96_6 p96_7 p96_8 p96_9 p96_10
  have f99 : Exa Z h96 b26 "com/example/stonegaze/stonegaze/Groups" := (f76.keep K96q)
  have f100 : Arv Z h96 z37_groupOf k37_groupOf .int (4 : Int32) [] (.int (-1 : Int32)) := (f78.keep K96q (ninS (Ne.symm ne48) (ninS ne54 (ninS ne56 (ninS ne58 (ninS ne57 nin0))))))
  have f101 : Arv Z h96 z37_stones k37_stones .int (4 : Int32) [(.int (0 : Int32)), (.int (0 : Int32))] (.int (0 : Int32)) := (f82.keep K96q (ninS (Ne.symm ne50) (ninS (Ne.symm ne59) (ninS ne63 (ninS ne65 (ninS ne64 nin0))))))
  obtain ⟨x113, hx113⟩ : ∃ z : Int32, z = (nar .boolean x9) := ⟨_, rfl⟩
  rw [← hx113] at p96_10
  have O114 := O91.keep K96q (allS G28 (allS G37_colours (allS G37_liberties (allS G37_aLiberty (allS G37_ringed all0)))))
  have pre115 : ∀ t, Steps p.tables e below (T96.setTop (mkF m 105 #[iv pi0, iv pi1, iv pi2, iv x2, iv x9, iv x18, iv x23, rv b26, iv (0 : Int32), iv (1 : Int32), iv (0 : Int32), .unset] [(.int (1 : Int32)), (.int x18)])) t → Go t := fun t kt => pre98 t (by
      refine y_istore X96.here hx (hb hby at_84) (l' := #[iv pi0, iv pi1, iv pi2, iv x2, iv x9, iv x18, iv x23, rv b26, iv (0 : Int32), iv (1 : Int32), .unset, .unset]) rfl (pc' := 86) rfl ?_
      refine y_iload X96.here hx (hb hby at_86) rfl (pc' := 88) rfl ?_
      refine y_ifNo X96.here hx (hb hby at_88) ((if0 _ _).trans (teq (rfl : (0 : Int32) = (0 : Int32))).2) (pc' := 91) rfl ?_
      refine y_iload X96.here hx (hb hby at_91) rfl (pc' := 93) rfl ?_
      refine y_iconst X96.here hx (hb hby at_93) (v := (1 : Int32)) rfl (pc' := 94) rfl ?_
      refine y_icmpYes X96.here hx (hb hby at_94) (teq (rfl : (1 : Int32) = (1 : Int32))).1 (pc' := 99) (by decide) rfl ?_
      refine y_iconst X96.here hx (hb hby at_99) (v := (0 : Int32)) rfl (pc' := 100) rfl ?_
      refine y_istore X96.here hx (hb hby at_100) (l' := #[iv pi0, iv pi1, iv pi2, iv x2, iv x9, iv x18, iv x23, rv b26, iv (0 : Int32), iv (1 : Int32), iv (0 : Int32), .unset]) rfl (pc' := 102) rfl ?_
      refine y_iload X96.here hx (hb hby at_102) rfl (pc' := 104) rfl ?_
      refine y_iconst X96.here hx (hb hby at_104) (v := (1 : Int32)) rfl (pc' := 105) rfl ?_
      exact kt)
  obtain ⟨x116, hx116⟩ : ∃ z : Int32, z = (if x18 = (1 : Int32) then (if x2 = (0 : Int32) then (1 : Int32) else (0 : Int32)) else (0 : Int32)) := ⟨_, rfl⟩
  obtain ⟨T117, ⟨X117, q117⟩, st117⟩ : ∃ T', Nx X96 T' ∧ ∀ t, Steps p.tables e below (T'.setTop (mkF m 115 #[iv pi0, iv pi1, iv pi2, iv x2, iv x9, iv x18, iv x23, rv b26, iv (0 : Int32), iv (1 : Int32), iv x116, .unset] [])) t → Steps p.tables e below (T96.setTop (mkF m 105 #[iv pi0, iv pi1, iv pi2, iv x2, iv x9, iv x18, iv x23, rv b26, iv (0 : Int32), iv (1 : Int32), iv (0 : Int32), .unset] [(.int (1 : Int32)), (.int x18)])) t := by
    have pre117_ : ∀ t, Steps p.tables e below (T96.setTop (mkF m 105 #[iv pi0, iv pi1, iv pi2, iv x2, iv x9, iv x18, iv x23, rv b26, iv (0 : Int32), iv (1 : Int32), iv (0 : Int32), .unset] [(.int (1 : Int32)), (.int x18)])) t → Steps p.tables e below (T96.setTop (mkF m 105 #[iv pi0, iv pi1, iv pi2, iv x2, iv x9, iv x18, iv x23, rv b26, iv (0 : Int32), iv (1 : Int32), iv (0 : Int32), .unset] [(.int (1 : Int32)), (.int x18)])) t := fun t kt => kt
    subst hx116
    by_cases hm105_118 : x18 = (1 : Int32)
    · have pre119 : ∀ t, Steps p.tables e below (T96.setTop (mkF m 109 #[iv pi0, iv pi1, iv pi2, iv x2, iv x9, iv x18, iv x23, rv b26, iv (0 : Int32), iv (1 : Int32), iv (0 : Int32), .unset] [(.int x2)])) t → Steps p.tables e below (T96.setTop (mkF m 105 #[iv pi0, iv pi1, iv pi2, iv x2, iv x9, iv x18, iv x23, rv b26, iv (0 : Int32), iv (1 : Int32), iv (0 : Int32), .unset] [(.int (1 : Int32)), (.int x18)])) t := fun t kt => pre117_ t (by
          refine y_icmpNo X96.here hx (hb hby at_105) (teq hm105_118).2 (pc' := 108) rfl ?_
          refine y_iloadN X96.here hx (hb hby at_108) rfl (pc' := 109) rfl ?_
          exact kt)
      by_cases hm109_120 : x2 = (0 : Int32)
      · have pre121 : ∀ t, Steps p.tables e below (T96.setTop (mkF m 115 #[iv pi0, iv pi1, iv pi2, iv x2, iv x9, iv x18, iv x23, rv b26, iv (0 : Int32), iv (1 : Int32), iv (1 : Int32), .unset] [])) t → Steps p.tables e below (T96.setTop (mkF m 105 #[iv pi0, iv pi1, iv pi2, iv x2, iv x9, iv x18, iv x23, rv b26, iv (0 : Int32), iv (1 : Int32), iv (0 : Int32), .unset] [(.int (1 : Int32)), (.int x18)])) t := fun t kt => pre119 t (by
            refine y_ifNo X96.here hx (hb hby at_109) ((if0 _ _).trans (teq hm109_120).2) (pc' := 112) rfl ?_
            refine y_iconst X96.here hx (hb hby at_112) (v := (1 : Int32)) rfl (pc' := 113) rfl ?_
            refine y_istore X96.here hx (hb hby at_113) (l' := #[iv pi0, iv pi1, iv pi2, iv x2, iv x9, iv x18, iv x23, rv b26, iv (0 : Int32), iv (1 : Int32), iv (1 : Int32), .unset]) rfl (pc' := 115) rfl ?_
            exact kt)
        refine ⟨T96, ⟨X96, eh96.trans eh96.symm⟩, fun t kt => pre121 t ?_⟩
        (try simp only [if_pos hm105_118, if_pos hm109_120] at kt)
        exact kt
      · have pre122 : ∀ t, Steps p.tables e below (T96.setTop (mkF m 115 #[iv pi0, iv pi1, iv pi2, iv x2, iv x9, iv x18, iv x23, rv b26, iv (0 : Int32), iv (1 : Int32), iv (0 : Int32), .unset] [])) t → Steps p.tables e below (T96.setTop (mkF m 105 #[iv pi0, iv pi1, iv pi2, iv x2, iv x9, iv x18, iv x23, rv b26, iv (0 : Int32), iv (1 : Int32), iv (0 : Int32), .unset] [(.int (1 : Int32)), (.int x18)])) t := fun t kt => pre119 t (by
            refine y_ifYes X96.here hx (hb hby at_109) ((if0 _ _).trans (feq hm109_120).2) (pc' := 115) (by decide) rfl ?_
            exact kt)
        refine ⟨T96, ⟨X96, eh96.trans eh96.symm⟩, fun t kt => pre122 t ?_⟩
        (try simp only [if_pos hm105_118, if_neg hm109_120] at kt)
        exact kt
    · have pre123 : ∀ t, Steps p.tables e below (T96.setTop (mkF m 115 #[iv pi0, iv pi1, iv pi2, iv x2, iv x9, iv x18, iv x23, rv b26, iv (0 : Int32), iv (1 : Int32), iv (0 : Int32), .unset] [])) t → Steps p.tables e below (T96.setTop (mkF m 105 #[iv pi0, iv pi1, iv pi2, iv x2, iv x9, iv x18, iv x23, rv b26, iv (0 : Int32), iv (1 : Int32), iv (0 : Int32), .unset] [(.int (1 : Int32)), (.int x18)])) t := fun t kt => pre117_ t (by
          refine y_icmpYes X96.here hx (hb hby at_105) (feq hm105_118).2 (pc' := 115) (by decide) rfl ?_
          exact kt)
      refine ⟨T96, ⟨X96, eh96.trans eh96.symm⟩, fun t kt => pre123 t ?_⟩
      (try simp only [if_neg hm105_118] at kt)
      exact kt
  have e117 : T117.heap = h96 := q117.trans eh96
  have pre124 : ∀ t, Steps p.tables e below (T117.setTop (mkF m 115 #[iv pi0, iv pi1, iv pi2, iv x2, iv x9, iv x18, iv x23, rv b26, iv (0 : Int32), iv (1 : Int32), iv x116, .unset] [])) t → Go t := fun t kt => pre115 t (st117 t kt)
  have pre125 : ∀ t, Steps p.tables e below (T117.setTop (mkF m 121 #[iv pi0, iv pi1, iv pi2, iv x2, iv x9, iv x18, iv x23, rv b26, iv (0 : Int32), iv (1 : Int32), iv x116, iv (0 : Int32)] [(.int (1 : Int32)), (.int x23)])) t → Go t := fun t kt => pre124 t (by
      refine y_iconst X117.here hx (hb hby at_115) (v := (0 : Int32)) rfl (pc' := 116) rfl ?_
      refine y_istore X117.here hx (hb hby at_116) (l' := #[iv pi0, iv pi1, iv pi2, iv x2, iv x9, iv x18, iv x23, rv b26, iv (0 : Int32), iv (1 : Int32), iv x116, iv (0 : Int32)]) rfl (pc' := 118) rfl ?_
      refine y_iload X117.here hx (hb hby at_118) rfl (pc' := 120) rfl ?_
      refine y_iconst X117.here hx (hb hby at_120) (v := (1 : Int32)) rfl (pc' := 121) rfl ?_
      exact kt)
  obtain ⟨x126, hx126⟩ : ∃ z : Int32, z = (if x23 = (1 : Int32) then (if x9 = (0 : Int32) then (1 : Int32) else (0 : Int32)) else (0 : Int32)) := ⟨_, rfl⟩
  obtain ⟨T127, ⟨X127, q127⟩, st127⟩ : ∃ T', Nx X117 T' ∧ ∀ t, Steps p.tables e below (T'.setTop (mkF m 132 #[iv pi0, iv pi1, iv pi2, iv x2, iv x9, iv x18, iv x23, rv b26, iv (0 : Int32), iv (1 : Int32), iv x116, iv x126] [])) t → Steps p.tables e below (T117.setTop (mkF m 121 #[iv pi0, iv pi1, iv pi2, iv x2, iv x9, iv x18, iv x23, rv b26, iv (0 : Int32), iv (1 : Int32), iv x116, iv (0 : Int32)] [(.int (1 : Int32)), (.int x23)])) t := by
    have pre127_ : ∀ t, Steps p.tables e below (T117.setTop (mkF m 121 #[iv pi0, iv pi1, iv pi2, iv x2, iv x9, iv x18, iv x23, rv b26, iv (0 : Int32), iv (1 : Int32), iv x116, iv (0 : Int32)] [(.int (1 : Int32)), (.int x23)])) t → Steps p.tables e below (T117.setTop (mkF m 121 #[iv pi0, iv pi1, iv pi2, iv x2, iv x9, iv x18, iv x23, rv b26, iv (0 : Int32), iv (1 : Int32), iv x116, iv (0 : Int32)] [(.int (1 : Int32)), (.int x23)])) t := fun t kt => kt
    subst hx126
    by_cases hm121_128 : x23 = (1 : Int32)
    · have pre129 : ∀ t, Steps p.tables e below (T117.setTop (mkF m 126 #[iv pi0, iv pi1, iv pi2, iv x2, iv x9, iv x18, iv x23, rv b26, iv (0 : Int32), iv (1 : Int32), iv x116, iv (0 : Int32)] [(.int x9)])) t → Steps p.tables e below (T117.setTop (mkF m 121 #[iv pi0, iv pi1, iv pi2, iv x2, iv x9, iv x18, iv x23, rv b26, iv (0 : Int32), iv (1 : Int32), iv x116, iv (0 : Int32)] [(.int (1 : Int32)), (.int x23)])) t := fun t kt => pre127_ t (by
          refine y_icmpNo X117.here hx (hb hby at_121) (teq hm121_128).2 (pc' := 124) rfl ?_
          refine y_iload X117.here hx (hb hby at_124) rfl (pc' := 126) rfl ?_
          exact kt)
      by_cases hm126_130 : x9 = (0 : Int32)
      · have pre131 : ∀ t, Steps p.tables e below (T117.setTop (mkF m 132 #[iv pi0, iv pi1, iv pi2, iv x2, iv x9, iv x18, iv x23, rv b26, iv (0 : Int32), iv (1 : Int32), iv x116, iv (1 : Int32)] [])) t → Steps p.tables e below (T117.setTop (mkF m 121 #[iv pi0, iv pi1, iv pi2, iv x2, iv x9, iv x18, iv x23, rv b26, iv (0 : Int32), iv (1 : Int32), iv x116, iv (0 : Int32)] [(.int (1 : Int32)), (.int x23)])) t := fun t kt => pre129 t (by
            refine y_ifNo X117.here hx (hb hby at_126) ((if0 _ _).trans (teq hm126_130).2) (pc' := 129) rfl ?_
            refine y_iconst X117.here hx (hb hby at_129) (v := (1 : Int32)) rfl (pc' := 130) rfl ?_
            refine y_istore X117.here hx (hb hby at_130) (l' := #[iv pi0, iv pi1, iv pi2, iv x2, iv x9, iv x18, iv x23, rv b26, iv (0 : Int32), iv (1 : Int32), iv x116, iv (1 : Int32)]) rfl (pc' := 132) rfl ?_
            exact kt)
        refine ⟨T117, ⟨X117, e117.trans e117.symm⟩, fun t kt => pre131 t ?_⟩
        (try simp only [if_pos hm121_128, if_pos hm126_130] at kt)
        exact kt
      · have pre132 : ∀ t, Steps p.tables e below (T117.setTop (mkF m 132 #[iv pi0, iv pi1, iv pi2, iv x2, iv x9, iv x18, iv x23, rv b26, iv (0 : Int32), iv (1 : Int32), iv x116, iv (0 : Int32)] [])) t → Steps p.tables e below (T117.setTop (mkF m 121 #[iv pi0, iv pi1, iv pi2, iv x2, iv x9, iv x18, iv x23, rv b26, iv (0 : Int32), iv (1 : Int32), iv x116, iv (0 : Int32)] [(.int (1 : Int32)), (.int x23)])) t := fun t kt => pre129 t (by
            refine y_ifYes X117.here hx (hb hby at_126) ((if0 _ _).trans (feq hm126_130).2) (pc' := 132) (by decide) rfl ?_
            exact kt)
        refine ⟨T117, ⟨X117, e117.trans e117.symm⟩, fun t kt => pre132 t ?_⟩
        (try simp only [if_pos hm121_128, if_neg hm126_130] at kt)
        exact kt
    · have pre133 : ∀ t, Steps p.tables e below (T117.setTop (mkF m 132 #[iv pi0, iv pi1, iv pi2, iv x2, iv x9, iv x18, iv x23, rv b26, iv (0 : Int32), iv (1 : Int32), iv x116, iv (0 : Int32)] [])) t → Steps p.tables e below (T117.setTop (mkF m 121 #[iv pi0, iv pi1, iv pi2, iv x2, iv x9, iv x18, iv x23, rv b26, iv (0 : Int32), iv (1 : Int32), iv x116, iv (0 : Int32)] [(.int (1 : Int32)), (.int x23)])) t := fun t kt => pre127_ t (by
          refine y_icmpYes X117.here hx (hb hby at_121) (feq hm121_128).2 (pc' := 132) (by decide) rfl ?_
          exact kt)
      refine ⟨T117, ⟨X117, e117.trans e117.symm⟩, fun t kt => pre133 t ?_⟩
      (try simp only [if_neg hm121_128] at kt)
      exact kt
  have e127 : T127.heap = h96 := q127.trans e117
  have pre134 : ∀ t, Steps p.tables e below (T127.setTop (mkF m 132 #[iv pi0, iv pi1, iv pi2, iv x2, iv x9, iv x18, iv x23, rv b26, iv (0 : Int32), iv (1 : Int32), iv x116, iv x126] [])) t → Go t := fun t kt => pre125 t (st127 t kt)
  have pre135 : ∀ t, Steps p.tables e below (T127.setTop (mkF m 135 #[iv pi0, iv pi1, iv pi2, iv x2, iv x9, iv x18, iv x23, rv b26, iv (0 : Int32), iv (1 : Int32), iv x116, iv x126] [(.int (0 : Int32)), (.ref b26)])) t → Go t := fun t kt => pre134 t (by
      refine y_aload X127.here hx (hb hby at_132) rfl rfl (pc' := 134) rfl ?_
      refine y_iconst X127.here hx (hb hby at_134) (v := (0 : Int32)) rfl (pc' := 135) rfl ?_
      exact kt)
  obtain ⟨cq136, kq136, q136a, q136b, q136c⟩ := isOf hZ e127 f99
  obtain ⟨v136, _, ⟨T136, L136, k136, n136⟩, -, X136, ⟨Lc136, hQ136, l136, y136, z136⟩, st136⟩ := X127.virtualBack hx (y := (⟨"com/example/stonegaze/stonegaze/Groups", "inAtari", "(I)Z"⟩ : MethodName)) (z := (⟨"com/example/stonegaze/stonegaze/Groups", "inAtari", "(I)Z"⟩ : MethodName)) hown (mvT hZ (hw _ (List.mem_of_getElem? (i := 46) rfl))) (mvT hZ (hw _ (List.mem_of_getElem? (i := 47) rfl))) (notFace_of_selects (args := #[]) (mvT hZ (hw _ (List.mem_of_getElem? (i := 49) rfl)))) (mvT hZ (hw _ (List.mem_of_getElem? (i := 49) rfl))) (mvT hZ (hw _ (List.mem_of_getElem? (i := 48) rfl))) (by decide) (backOf (W := 0) (rm6i0 l Z a0 hw [] b26 z37_liberties z37_ringed (4 : Int32) k37_liberties x18 x23 k37_ringed x90 x113 h96 n0 O114 f99 p96_3 p96_4 (by decide) (by decide) p96_8 p96_10) hZ (hw _ (List.mem_of_getElem? (i := 50) rfl)) (hw _ (List.mem_of_getElem? (i := 6) rfl)) (by decide) (by decide)) q136a q136c (g := (mkF m 135 #[iv pi0, iv pi1, iv pi2, iv x2, iv x9, iv x18, iv x23, rv b26, iv (0 : Int32), iv (1 : Int32), iv x116, iv x126] [(.int (0 : Int32)), (.ref b26)])) rfl (by rw [hml]; rfl) (Steps.refl _) (argsL := [(.int (0 : Int32))]) (rest := []) (lenOf pd__I_Z rfl) rfl (by show 2 * 0 + _ ≤ _; exact Nat.le_of_eq rfl) (hb hby at_135) (fun _ _ => ⟨rfl, e127, (by decide : 7 + 0 ≤ _), (by decide : 31 + 0 ≤ _)⟩)
  dsimp only [Pt.U, Pt.locs, Pt.cells, Pt.slots] at X136 l136 y136 z136 st136 hQ136
  subst l136 y136 z136
  obtain ⟨hv136, N136q, e136q⟩ := hQ136
  have N137 := Fr.app N97 N136q
  have hw136 := hv136
  obtain ⟨x138, hx138⟩ : ∃ z : Int32, z = (if x18 = (1 : Int32) then (nar .boolean (if x90 = (0 : Int32) then (1 : Int32) else (0 : Int32))) else (0 : Int32)) := ⟨_, rfl⟩
  rw [← hx138] at hw136
  subst hw136
  have pre139 : ∀ t, Steps p.tables e below (T136.setTop (mkF m 138 #[iv pi0, iv pi1, iv pi2, iv x2, iv x9, iv x18, iv x23, rv b26, iv (0 : Int32), iv (1 : Int32), iv x116, iv x126] [(.int x138)])) t → Go t := fun t kt => pre135 t (st136.trans kt)
  have pre141 : ∀ t, Steps p.tables e below (T136.setTop (mkF m 140 #[iv pi0, iv pi1, iv pi2, iv x2, iv x9, iv x18, iv x23, rv b26, iv (0 : Int32), iv (1 : Int32), iv x116, iv x126] [(.int x116), (.int x138)])) t → Go t := fun t kt => pre139 t (by
      refine y_iload X136.here hx (hb hby at_138) rfl (pc' := 140) rfl ?_
      exact kt)
  have hf140_140 : x138 = x116 := by
      exact law0_142 pi2 x2 x18 x90 x116 x138 hx2 hx90 hx116 hx138
  have pre143 : ∀ t, Steps p.tables e below (T136.setTop (mkF m 146 #[iv pi0, iv pi1, iv pi2, iv x2, iv x9, iv x18, iv x23, rv b26, iv (0 : Int32), iv (1 : Int32), iv x116, iv x126] [(.int (1 : Int32)), (.ref b26)])) t → Go t := fun t kt => pre141 t (by
      refine y_icmpNo X136.here hx (hb hby at_140) (teq hf140_140).2 (pc' := 143) rfl ?_
      refine y_aload X136.here hx (hb hby at_143) rfl rfl (pc' := 145) rfl ?_
      refine y_iconst X136.here hx (hb hby at_145) (v := (1 : Int32)) rfl (pc' := 146) rfl ?_
      exact kt)
  obtain ⟨cq144, kq144, q144a, q144b, q144c⟩ := isOf hZ e136q f99
  obtain ⟨v144, _, ⟨T144, L144, k144, n144⟩, -, X144, ⟨Lc144, hQ144, l144, y144, z144⟩, st144⟩ := X136.virtualBack hx (y := (⟨"com/example/stonegaze/stonegaze/Groups", "inAtari", "(I)Z"⟩ : MethodName)) (z := (⟨"com/example/stonegaze/stonegaze/Groups", "inAtari", "(I)Z"⟩ : MethodName)) hown (mvT hZ (hw _ (List.mem_of_getElem? (i := 46) rfl))) (mvT hZ (hw _ (List.mem_of_getElem? (i := 47) rfl))) (notFace_of_selects (args := #[]) (mvT hZ (hw _ (List.mem_of_getElem? (i := 49) rfl)))) (mvT hZ (hw _ (List.mem_of_getElem? (i := 49) rfl))) (mvT hZ (hw _ (List.mem_of_getElem? (i := 48) rfl))) (by decide) (backOf (W := 0) (rm6i1 l Z a0 hw [] b26 z37_liberties z37_ringed (4 : Int32) k37_liberties x18 x23 k37_ringed x90 x113 h96 n0 O114 f99 p96_3 p96_4 (by decide) (by decide) p96_8 p96_10) hZ (hw _ (List.mem_of_getElem? (i := 50) rfl)) (hw _ (List.mem_of_getElem? (i := 6) rfl)) (by decide) (by decide)) q144a q144c (g := (mkF m 146 #[iv pi0, iv pi1, iv pi2, iv x2, iv x9, iv x18, iv x23, rv b26, iv (0 : Int32), iv (1 : Int32), iv x116, iv x126] [(.int (1 : Int32)), (.ref b26)])) rfl (by rw [hml]; rfl) (Steps.refl _) (argsL := [(.int (1 : Int32))]) (rest := []) (lenOf pd__I_Z rfl) rfl (by show 2 * 0 + _ ≤ _; exact Nat.le_of_eq rfl) (hb hby at_146) (fun _ _ => ⟨rfl, e136q, (by decide : 7 + 0 ≤ _), (by decide : 31 + 0 ≤ _)⟩)
  dsimp only [Pt.U, Pt.locs, Pt.cells, Pt.slots] at X144 l144 y144 z144 st144 hQ144
  subst l144 y144 z144
  obtain ⟨hv144, N144q, e144q⟩ := hQ144
  have N145 := Fr.app N137 N144q
  have hw144 := hv144
  obtain ⟨x146, hx146⟩ : ∃ z : Int32, z = (if x23 = (1 : Int32) then (nar .boolean (if x113 = (0 : Int32) then (1 : Int32) else (0 : Int32))) else (0 : Int32)) := ⟨_, rfl⟩
  rw [← hx146] at hw144
  subst hw144
  have pre147 : ∀ t, Steps p.tables e below (T144.setTop (mkF m 149 #[iv pi0, iv pi1, iv pi2, iv x2, iv x9, iv x18, iv x23, rv b26, iv (0 : Int32), iv (1 : Int32), iv x116, iv x126] [(.int x146)])) t → Go t := fun t kt => pre143 t (st144.trans kt)
  have pre149 : ∀ t, Steps p.tables e below (T144.setTop (mkF m 151 #[iv pi0, iv pi1, iv pi2, iv x2, iv x9, iv x18, iv x23, rv b26, iv (0 : Int32), iv (1 : Int32), iv x116, iv x126] [(.int x126), (.int x146)])) t → Go t := fun t kt => pre147 t (by
      refine y_iload X144.here hx (hb hby at_149) rfl (pc' := 151) rfl ?_
      exact kt)
  have hf151_148 : x146 = x126 := by
      exact law0_150 pi2 x9 x23 x113 x116 x126 x138 x146 hx9 hx113 hx126 hx146 hf140_140
  have pre151 : ∀ t, Steps p.tables e below (T144.setTop (mkF m 159 #[iv pi0, iv pi1, iv pi2, iv x2, iv x9, iv x18, iv x23, rv b26, iv (0 : Int32), iv (1 : Int32), iv x116, iv x126] [(.int (1 : Int32))])) t → Go t := fun t kt => pre149 t (by
      refine y_icmpNo X144.here hx (hb hby at_151) (teq hf151_148).2 (pc' := 154) rfl ?_
      refine y_iconst X144.here hx (hb hby at_154) (v := (1 : Int32)) rfl (pc' := 155) rfl ?_
      refine y_goto X144.here hx (hb hby at_155) (pc' := 159) (by decide) rfl ?_
      exact kt)
  obtain ⟨fs, hr, hrun, hended, hW, hsame⟩ := X144.leave (v := some (.int (1 : Int32))) (fun h => by rw [Bd.returns] at h; cases h)
  refine ⟨_, _, (hGo _).mp (pre151 _ ?_), hrun, hended, _, _, rfl, ?_, ⟨_, rfl⟩, hW, hsame.mono (by decide) (by decide)⟩
  · exact retN X144 hx (t := .boolean) Bd.returns (by simp) (hb hby at_159) hr
  · show Q0 Z pi0 pi1 pi2 w_WHITE w_BLACK h0 n0 _ T144.heap _
    rw [e144q]
    exact ⟨rfl, N145⟩
set_option maxRecDepth 65536 in
set_option maxHeartbeats 40000000 in
theorem comes_1 {Post : Tables → Env → Array Value → State → Outcome → State → Prop} (hpost : ∀ tb e args s v u, (limb_1_1.after args s (.returned v) u = true ∧ limb_1_2.after args s (.returned v) u = true ∧ True) → FrameEnd s (.returned v) u (Jvm.fieldLocs frame_1_writes args s ++ Jvm.arrayLocs frame_1_arrays args s ++ Jvm.staticLocs frame_1_statics s) 24 128 → Post tb e args s (.returned v) u) :
    ArmFor flags0 classFile x code maxLocals ret World_1 tables_1 room_1 Calls_1 rest_1 Pre_1 Post := by
  intro l hfl _ _ p e ha hc hk s m args below hf hA hF happ hP
  obtain ⟨hcalls, hrest, hpre⟩ := hP
  obtain ⟨-, -, -, hnamed, -, -, -, hat⟩ := (Spec.applies_iff hf).mp happ
  obtain ⟨hg, hn⟩ := and_e (Cond.before_iff.mp (show (Jvm.Cond.and given_1 narrow_1).before args s = true from hpre))
  obtain ⟨g0, gr0⟩ := and_e hg
  obtain ⟨g1, gr1⟩ := and_e gr0
  obtain ⟨g2, gr2⟩ := and_e gr1
  obtain ⟨w0, w1, w2, rfl⟩ : ∃ w0 w1 w2 : Value, args = #[w0, w1, w2] := by
    have hs : args.size = 3 := by simpa [Cond.value, given_1] using g0
    obtain ⟨L⟩ := args
    match L, hs with
    | [w0, w1, w2], _ => exact ⟨w0, w1, w2, rfl⟩
  have hw := fun d (hd : d ∈ tables_1) => atoms_spec (ws := Jvm.Cond.code x code maxLocals ret :: tables_1) hat d (List.mem_cons_of_mem _ hd)
  have hfit : Fit s := fun {y c} hc i hi => by
    obtain ⟨ha, rfl⟩ := Array.getElem?_eq_some_iff.mp hc
    have q := List.all_eq_true.mp ((Array.all_eq_true_iff_forall_mem.mp hF) _ (Array.getElem_mem ha)) i (List.mem_range.mpr hi)
    simpa [Array.getElem?_eq_getElem hi] using q
  obtain ⟨i0, ei0⟩ := is_v g1
  obtain rfl : w0 = (.int i0) := Option.some.inj ei0
  obtain ⟨i1, ei1⟩ := is_v g2
  obtain rfl : w1 = (.int i1) := Option.some.inj ei1
  obtain ⟨i2, ei2⟩ := is_v gr2
  obtain rfl : w2 = (.int i2) := Option.some.inj ei2
  obtain ⟨n0, nr0⟩ := and_e hn
  obtain ⟨w_WHITE, ev_WHITE⟩ := exa_v n0
  have S_WHITE := Sta.start ev_WHITE (Or.inr ⟨(hw _ (List.mem_of_getElem? (i := 34) rfl)), (hw _ (List.mem_of_getElem? (i := 35) rfl))⟩)
  have E_w_WHITE := Exa.start ev_WHITE n0
  obtain ⟨w_BLACK, ev_BLACK⟩ := exa_v nr0
  have S_BLACK := Sta.start ev_BLACK (Or.inr ⟨(hw _ (List.mem_of_getElem? (i := 34) rfl)), (hw _ (List.mem_of_getElem? (i := 45) rfl))⟩)
  have E_w_BLACK := Exa.start ev_BLACK nr0
  obtain ⟨n, o, h1, h2, h3, _, L, rfl, ⟨rfl, N⟩, hq⟩ := rm0 l s _ hw tables_1 i0 i1 i2 w_WHITE w_BLACK s.heap s.heap.size (Old.start s) S_WHITE S_BLACK E_w_WHITE E_w_BLACK p e ha hc hk s m _ below hf ((Spec.applies_iff_loose hf).mp happ).1 ⟨rfl, State.Warmed39.refl s, rfl⟩ trivial
  refine ⟨n, _, h1, h2, h3, hpost _ _ _ _ _ _ ⟨Cond.after_iff.mpr rfl, Cond.after_iff.mpr (eq_i res_at (Term.int_eval (1)) rfl), trivial⟩ ⟨hq.1, hq.2.1, (hq.2.2.sift fun y hy => Or.inr (N y hy)).mono (by decide) (by decide)⟩⟩
theorem main_1_1 : Claimed_1_1 := comes_1 fun _ _ _ _ _ _ h hF => ⟨h.1, hF⟩
theorem main_1_2 : Claimed_1_2 := comes_1 fun _ _ _ _ _ _ h hF => ⟨h.2.1, hF⟩
end Jvm.Pilot.@@N@@
namespace Jvm.Pilot.@@N@@
open Jvm Jvm.ClassFile Sem Op Lib Jvm.Free Jvm.Stand Jvm.Pilot.@@N@@.Jvm.D
/-! MADE BY PROGRAM (witnessworld.py) out of the Statement's table words and the real class files: 17 classes; the members and pool entries that the words name. The judged class is class 1, her method 2. -/
namespace start1
open Jvm.ClassFile
def u (s : String) : CpInfo := .utf8 (stringToUtf16 s)
/-- a pool by its gaps: so many unusable entries, then the entry; so many at the end -/
def gap : Nat → List CpInfo → List CpInfo
  | 0, r => r
  | n + 1, r => .unusable :: gap n r
def poolList (es : List (Nat × CpInfo)) (last : Nat) : List CpInfo := es.foldr (fun e r => gap e.1 (e.2 :: r)) (gap last [])
def pool (es : List (Nat × CpInfo)) (last : Nat) : Array CpInfo := ⟨poolList es last⟩
def fileOf (pool : Array CpInfo) (this : Nat) (attrs : Array Attribute := #[]) (ms : Array MethodInfo := #[]) (fl : Nat := 33) (sup : Nat := 0) (ifs : Array Nat := #[]) (fds : Array FieldInfo := #[]) : ClassFile where
  minorVersion := 0
  majorVersion := 65
  constantPool := pool
  accessFlags := fl
  thisClass := this
  superClass := sup
  interfaces := ifs
  fields := fds
  methods := ms
  attributes := attrs
def plain (name : String) (sup : Option ClassId) : Class where
  name := name
  kind := .ordinary
  loader := none
  accessFlags := 33
  super := sup
  interfaces := #[]
  cf := none
  fields := #[]
  methods := #[]
  instanceTypes := #[]
  staticTypes := #[]
  resolved := #[]
  callSites := []
  init := .initialized
  statics := none
  mirror := none

def pool0 : Array CpInfo := pool [(5, u "<init>"), (0, u "()V"), (1, .class_ 10), (1, u "java/lang/Object")] 113

def k0c0 : Code := { maxStack := 0, maxLocals := 1, code := object_method_1_code, exceptionTable := #[], attributes := #[] }
def k0m0 : Method := { name := "<init>", desc := "()V", sig := { parameters := [], returnType := none }, accessFlags := 1, code := some k0c0 }
/-- java/lang/Object -/
def k0 : Class := { plain "java/lang/Object" none with
  accessFlags := 33
  interfaces := #[]
  cf := some (fileOf pool0 8 #[] #[{ accessFlags := 1, nameIndex := 5, descriptorIndex := 6, attributes := #[] }] 33 0 #[] #[])
  fields := #[]
  methods := #[k0m0]
  instanceTypes := #[]
  staticTypes := #[]
  resolved := Array.replicate 124 none
  statics := none }

def pool1 : Array CpInfo := pool [(2, .class_ 4), (1, u "java/lang/Object"), (0, u "<init>"), (0, u "()V"), (0, .methodref 8 9), (0, .class_ 10), (0, .nameAndType 11 12), (0, u "com/example/stonegaze/stonegaze/GroupsInAtariPinLaw"), (0, u "pick"), (0, u "(II)I"), (0, .class_ 14), (0, u "com/example/stonegaze/stonegaze/Groups"), (0, .methodref 13 16), (0, .nameAndType 5 17), (0, u "(I)V"), (0, .fieldref 19 20), (0, .class_ 21), (0, .nameAndType 22 23), (0, u "com/example/stonegaze/stonegaze/Side"), (0, u "WHITE"), (0, u "Lcom/example/stonegaze/stonegaze/Side;"), (0, .methodref 13 25), (0, .nameAndType 26 27), (0, u "add"), (0, u "(Lcom/example/stonegaze/stonegaze/Side;IIZ)I"), (0, .fieldref 19 29), (0, .nameAndType 30 23), (0, u "BLACK"), (0, .methodref 13 32), (0, .nameAndType 33 34), (0, u "inAtari"), (0, u "(I)Z"), (3, u "law"), (0, u "(III)Z")] 2

def k1m0 : Method := { name := "<init>", desc := "()V", sig := { parameters := [], returnType := none }, accessFlags := 1, code := none }
def k1c1 : Code := { maxStack := 2, maxLocals := 2, code := method_2_code, exceptionTable := #[], attributes := #[] }
def k1m1 : Method := { name := "pick", desc := "(II)I", sig := { parameters := [.int, .int], returnType := some .int }, accessFlags := 10, code := some k1c1 }
def k1c2 : Code := { maxStack := 5, maxLocals := 12, code := code, exceptionTable := #[], attributes := #[] }
def k1m2 : Method := { name := "law", desc := "(III)Z", sig := { parameters := [.int, .int, .int], returnType := some .boolean }, accessFlags := 9, code := some k1c2 }
/-- com/example/stonegaze/stonegaze/GroupsInAtariPinLaw -/
def k1 : Class := { plain "com/example/stonegaze/stonegaze/GroupsInAtariPinLaw" (some 0) with
  accessFlags := 49
  interfaces := #[]
  cf := some (fileOf pool1 8 #[] #[{ accessFlags := 1, nameIndex := 5, descriptorIndex := 6, attributes := #[] }, { accessFlags := 10, nameIndex := 11, descriptorIndex := 12, attributes := #[] }, { accessFlags := 9, nameIndex := 38, descriptorIndex := 39, attributes := #[] }] 49 2 #[] #[])
  fields := #[]
  methods := #[k1m0, k1m1, k1m2]
  instanceTypes := #[]
  staticTypes := #[]
  resolved := Array.replicate 42 none
  statics := none }

def pool2 : Array CpInfo := pool [(1, .methodref 2 3), (0, .class_ 4), (0, .nameAndType 5 6), (0, u "java/lang/Object"), (0, u "<init>"), (0, u "()V"), (0, .fieldref 8 9), (0, .class_ 10), (0, .nameAndType 11 12), (0, u "com/example/stonegaze/stonegaze/Groups"), (0, u "groupOf"), (0, u "[I"), (0, .methodref 14 15), (0, .class_ 16), (0, .nameAndType 17 18), (0, u "java/util/Arrays"), (0, u "fill"), (0, u "([II)V"), (0, .class_ 20), (0, u "com/example/stonegaze/stonegaze/Side"), (0, .fieldref 8 22), (0, .nameAndType 23 24), (0, u "colours"), (0, u "[Lcom/example/stonegaze/stonegaze/Side;"), (0, .fieldref 8 26), (0, .nameAndType 27 12), (0, u "stones"), (0, .fieldref 8 29), (0, .nameAndType 30 12), (0, u "liberties"), (0, .fieldref 8 32), (0, .nameAndType 33 34), (0, u "ringed"), (0, u "[Z"), (0, .fieldref 8 36), (0, .nameAndType 37 12), (0, u "aLiberty"), (0, .fieldref 8 39), (0, .nameAndType 40 41), (0, u "count"), (0, u "I"), (0, u "(I)V"), (2, u "add"), (0, u "(Lcom/example/stonegaze/stonegaze/Side;IIZ)I"), (7, u "inAtari"), (0, u "(I)Z")] 3

def k2c0 : Code := { maxStack := 2, maxLocals := 2, code := prog_17_method_1_code, exceptionTable := #[], attributes := #[] }
def k2m0 : Method := { name := "<init>", desc := "(I)V", sig := { parameters := [.int], returnType := none }, accessFlags := 0, code := some k2c0 }
def k2c1 : Code := { maxStack := 3, maxLocals := 5, code := prog_17_method_2_code, exceptionTable := #[], attributes := #[] }
def k2m1 : Method := { name := "add", desc := "(Lcom/example/stonegaze/stonegaze/Side;IIZ)I", sig := { parameters := [(.object "com/example/stonegaze/stonegaze/Side"), .int, .int, .boolean], returnType := some .int }, accessFlags := 0, code := some k2c1 }
def k2c2 : Code := { maxStack := 2, maxLocals := 2, code := prog_17_method_10_code, exceptionTable := #[], attributes := #[] }
def k2m2 : Method := { name := "inAtari", desc := "(I)Z", sig := { parameters := [.int], returnType := some .boolean }, accessFlags := 0, code := some k2c2 }
/-- com/example/stonegaze/stonegaze/Groups -/
def k2 : Class := { plain "com/example/stonegaze/stonegaze/Groups" (some 0) with
  accessFlags := 48
  interfaces := #[]
  cf := some (fileOf pool2 8 #[] #[{ accessFlags := 0, nameIndex := 5, descriptorIndex := 42, attributes := #[] }, { accessFlags := 0, nameIndex := 45, descriptorIndex := 46, attributes := #[] }, { accessFlags := 0, nameIndex := 54, descriptorIndex := 55, attributes := #[] }] 48 2 #[] #[{ accessFlags := 18, nameIndex := 11, descriptorIndex := 12, attributes := #[] }, { accessFlags := 18, nameIndex := 23, descriptorIndex := 24, attributes := #[] }, { accessFlags := 18, nameIndex := 27, descriptorIndex := 12, attributes := #[] }, { accessFlags := 18, nameIndex := 30, descriptorIndex := 12, attributes := #[] }, { accessFlags := 18, nameIndex := 33, descriptorIndex := 34, attributes := #[] }, { accessFlags := 18, nameIndex := 37, descriptorIndex := 12, attributes := #[] }, { accessFlags := 2, nameIndex := 40, descriptorIndex := 41, attributes := #[] }])
  fields := #[{ name := "groupOf", type := (.array .int), accessFlags := 18, slot := 0, constantValue := 0 }, { name := "colours", type := (.array (.object "com/example/stonegaze/stonegaze/Side")), accessFlags := 18, slot := 1, constantValue := 0 }, { name := "stones", type := (.array .int), accessFlags := 18, slot := 2, constantValue := 0 }, { name := "liberties", type := (.array .int), accessFlags := 18, slot := 3, constantValue := 0 }, { name := "ringed", type := (.array .boolean), accessFlags := 18, slot := 4, constantValue := 0 }, { name := "aLiberty", type := (.array .int), accessFlags := 18, slot := 5, constantValue := 0 }, { name := "count", type := .int, accessFlags := 2, slot := 6, constantValue := 0 }]
  methods := #[k2m0, k2m1, k2m2]
  instanceTypes := #[(.array .int), (.array (.object "com/example/stonegaze/stonegaze/Side")), (.array .int), (.array .int), (.array .boolean), (.array .int), .int]
  staticTypes := #[]
  resolved := Array.replicate 59 none
  statics := none }

def pool3 : Array CpInfo := pool [(2, .class_ 4), (1, u "java/lang/Object"), (0, u "<init>"), (0, u "()V"), (7, .class_ 16), (1, u "java/util/Arrays"), (57, .class_ 76), (1, u "java/util/Arrays$NaturalOrder"), (36, .class_ 115), (1, u "java/util/Arrays$LegacyMergeSort"), (1, u "Z"), (257, .class_ 376), (0, u "java/util/Arrays$ArrayList"), (68, u "$assertionsDisabled"), (269, u "MIN_ARRAY_SORT_GRAN"), (0, u "I"), (2, u "INSERTIONSORT_THRESHOLD"), (120, u "fill"), (4, u "([II)V"), (129, .class_ 976), (0, u "java/util/Arrays$ArrayItr")] 52

def k3m0 : Method := { name := "<init>", desc := "()V", sig := { parameters := [], returnType := none }, accessFlags := 2, code := none }
def k3c1 : Code := { maxStack := 3, maxLocals := 4, code := jdk_65_method_103_code, exceptionTable := #[], attributes := #[] }
def k3m1 : Method := { name := "fill", desc := "([II)V", sig := { parameters := [(.array .int), .int], returnType := none }, accessFlags := 9, code := some k3c1 }
/-- java/util/Arrays -/
def k3 : Class := { plain "java/util/Arrays" (some 0) with
  accessFlags := 49
  interfaces := #[]
  cf := some (fileOf pool3 14 #[.nestMembers #[975, 375, 113, 74]] #[{ accessFlags := 2, nameIndex := 5, descriptorIndex := 6, attributes := #[] }, { accessFlags := 9, nameIndex := 840, descriptorIndex := 845, attributes := #[] }] 49 2 #[] #[{ accessFlags := 26, nameIndex := 715, descriptorIndex := 716, attributes := #[] }, { accessFlags := 26, nameIndex := 719, descriptorIndex := 716, attributes := #[] }, { accessFlags := 4120, nameIndex := 445, descriptorIndex := 117, attributes := #[] }])
  fields := #[{ name := "MIN_ARRAY_SORT_GRAN", type := .int, accessFlags := 26, slot := 0, constantValue := 0 }, { name := "INSERTIONSORT_THRESHOLD", type := .int, accessFlags := 26, slot := 1, constantValue := 0 }, { name := "$assertionsDisabled", type := .boolean, accessFlags := 4120, slot := 2, constantValue := 0 }]
  methods := #[k3m0, k3m1]
  instanceTypes := #[]
  staticTypes := #[.int, .int, .boolean]
  resolved := Array.replicate 1029 none
  statics := none }

def pool4 : Array CpInfo := pool [(1, .class_ 2), (0, u "java/lang/constant/Constable"), (0, .class_ 4), (0, u "java/lang/Object")] 6

/-- java/lang/constant/Constable -/
def k4 : Class := { plain "java/lang/constant/Constable" (some 0) with
  accessFlags := 1537
  interfaces := #[]
  cf := some (fileOf pool4 1 #[] #[] 1537 3 #[] #[])
  fields := #[]
  methods := #[]
  instanceTypes := #[]
  staticTypes := #[]
  resolved := Array.replicate 11 none
  statics := none }

def pool5 : Array CpInfo := pool [(1, .class_ 2), (0, u "java/lang/Comparable"), (0, .class_ 4), (0, u "java/lang/Object")] 7

/-- java/lang/Comparable -/
def k5 : Class := { plain "java/lang/Comparable" (some 0) with
  accessFlags := 1537
  interfaces := #[]
  cf := some (fileOf pool5 1 #[] #[] 1537 3 #[] #[])
  fields := #[]
  methods := #[]
  instanceTypes := #[]
  staticTypes := #[]
  resolved := Array.replicate 12 none
  statics := none }

def pool6 : Array CpInfo := pool [(1, .class_ 2), (0, u "java/io/Serializable"), (0, .class_ 4), (0, u "java/lang/Object")] 2

/-- java/io/Serializable -/
def k6 : Class := { plain "java/io/Serializable" (some 0) with
  accessFlags := 1537
  interfaces := #[]
  cf := some (fileOf pool6 1 #[] #[] 1537 3 #[] #[])
  fields := #[]
  methods := #[]
  instanceTypes := #[]
  staticTypes := #[]
  resolved := Array.replicate 7 none
  statics := none }

def pool7 : Array CpInfo := pool [(2, .class_ 4), (1, u "java/lang/Enum"), (0, u "name"), (0, u "Ljava/lang/String;"), (2, u "ordinal"), (0, u "I"), (1, .class_ 14), (1, u "java/lang/Object"), (4, u "hash"), (86, .class_ 108), (1, u "java/lang/Enum$EnumDesc"), (2, .class_ 112), (0, u "java/lang/constant/Constable"), (0, .class_ 114), (0, u "java/lang/Comparable"), (0, .class_ 116), (0, u "java/io/Serializable")] 87

/-- java/lang/Enum -/
def k7 : Class := { plain "java/lang/Enum" (some 0) with
  accessFlags := 1057
  interfaces := #[4, 5, 6]
  cf := some (fileOf pool7 2 #[.nestMembers #[106]] #[] 1057 12 #[111, 113, 115] #[{ accessFlags := 18, nameIndex := 5, descriptorIndex := 6, attributes := #[] }, { accessFlags := 18, nameIndex := 9, descriptorIndex := 10, attributes := #[] }, { accessFlags := 2, nameIndex := 19, descriptorIndex := 10, attributes := #[] }])
  fields := #[{ name := "name", type := (.object "java/lang/String"), accessFlags := 18, slot := 0, constantValue := 0 }, { name := "ordinal", type := .int, accessFlags := 18, slot := 1, constantValue := 0 }, { name := "hash", type := .int, accessFlags := 2, slot := 2, constantValue := 0 }]
  methods := #[]
  instanceTypes := #[(.object "java/lang/String"), .int, .int]
  staticTypes := #[]
  resolved := Array.replicate 204 none
  statics := none }

def pool8 : Array CpInfo := pool [(1, .class_ 2), (0, u "com/example/stonegaze/stonegaze/Side"), (2, u "WHITE"), (0, u "Lcom/example/stonegaze/stonegaze/Side;"), (2, u "BLACK"), (2, u "$VALUES"), (0, u "[Lcom/example/stonegaze/stonegaze/Side;"), (6, .class_ 22), (1, u "java/lang/Enum")] 35

/-- com/example/stonegaze/stonegaze/Side -/
def k8 : Class := { plain "com/example/stonegaze/stonegaze/Side" (some 7) with
  accessFlags := 16433
  interfaces := #[]
  cf := some (fileOf pool8 1 #[] #[] 16433 20 #[] #[{ accessFlags := 16409, nameIndex := 5, descriptorIndex := 6, attributes := #[] }, { accessFlags := 16409, nameIndex := 9, descriptorIndex := 6, attributes := #[] }, { accessFlags := 4122, nameIndex := 12, descriptorIndex := 13, attributes := #[] }])
  fields := #[{ name := "WHITE", type := (.object "com/example/stonegaze/stonegaze/Side"), accessFlags := 16409, slot := 0, constantValue := 0 }, { name := "BLACK", type := (.object "com/example/stonegaze/stonegaze/Side"), accessFlags := 16409, slot := 1, constantValue := 0 }, { name := "$VALUES", type := (.array (.object "com/example/stonegaze/stonegaze/Side")), accessFlags := 4122, slot := 2, constantValue := 0 }]
  methods := #[]
  instanceTypes := #[(.object "java/lang/String"), .int, .int]
  staticTypes := #[(.object "com/example/stonegaze/stonegaze/Side"), (.object "com/example/stonegaze/stonegaze/Side"), (.array (.object "com/example/stonegaze/stonegaze/Side"))]
  resolved := Array.replicate 58 none
  statics := some 0 }

def pool9 : Array CpInfo := pool [(1, u "java/lang/Cloneable"), (0, .class_ 1), (0, u "java/lang/Object"), (0, .class_ 3)] 3

/-- java/lang/Cloneable -/
def k9 : Class := { plain "java/lang/Cloneable" (some 0) with
  accessFlags := 1537
  interfaces := #[]
  cf := some (fileOf pool9 2 #[] #[] 1537 4 #[] #[])
  fields := #[]
  methods := #[]
  instanceTypes := #[]
  staticTypes := #[]
  resolved := Array.replicate 8 none
  statics := none }

/-- the primitive boolean -/
def k10 : Class := { plain "boolean" none with kind := .primitive 'Z', accessFlags := 0x411 }
/-- [Z -/
def k11 : Class := { plain "[Z" (some 0) with kind := .array 10 .boolean, interfaces := #[9, 6], accessFlags := 1041 }

/-- the primitive byte -/
def k12 : Class := { plain "byte" none with kind := .primitive 'B', accessFlags := 0x411 }
/-- [B -/
def k13 : Class := { plain "[B" (some 0) with kind := .array 12 .byte, interfaces := #[9, 6], accessFlags := 1041 }

/-- the primitive int -/
def k14 : Class := { plain "int" none with kind := .primitive 'I', accessFlags := 0x411 }
/-- [I -/
def k15 : Class := { plain "[I" (some 0) with kind := .array 14 .int, interfaces := #[9, 6], accessFlags := 1041 }

/-- [Lcom/example/stonegaze/stonegaze/Side; -/
def k16 : Class := { plain "[Lcom/example/stonegaze/stonegaze/Side;" (some 0) with kind := .array 8 (.object "com/example/stonegaze/stonegaze/Side"), interfaces := #[9, 6], accessFlags := 1041 }

def heap : Heap := #[{ cls := 8, slots := #[.ref 1, .ref 2, .null], vm := .statics 8 },
  { cls := 8, slots := #[.null, .int 0, .int 0], vm := .none },
  { cls := 8, slots := #[.null, .int 1, .int 0], vm := .none }]
def classes : Array Class := #[k0, k1, k2, k3, k4, k5, k6, k7, k8, k9, k10, k11, k12, k13, k14, k15, k16]
def interned : List (Array UInt16 × Addr) := []
def slotsUsed : Nat := 9
def theMethod : MethodId := ⟨1, 2⟩
def args0 : Array Value := #[.int 1, .int 1, .int 5]
def aboutOver (below : List Frame) : State where
  vm := { classes := classes, interned := interned.toArray }
  heap := heap
  slotsUsed := slotsUsed
  threads := #[{ frames := .invoking theMethod args0 :: below }]
def below0 : List Frame := [.native { method := ⟨0, 0⟩, args := #[] }]
def about1 : State := aboutOver below0
def p0 : Program := .bare "" "" ""
def e0 : Env := launch0.env 0 0 0
theorem w_frames : about1.frames = Frame.invoking theMethod args0 :: below0 := rfl
set_option maxRecDepth 65536 in
theorem w_args : argsFit about1.vm theMethod args0 = true := by decide +kernel
set_option maxRecDepth 65536 in
theorem w_heap : heapFits about1 = true := by decide +kernel
set_option maxRecDepth 65536 in
theorem w_runnable : about1.curStatus? = some .runnable := by decide +kernel
set_option maxRecDepth 65536 in
theorem w_alone : about1.alone = true := by decide +kernel
set_option maxRecDepth 65536 in
theorem w_named : about1.methodNamed? x = some theMethod := by decide +kernel
set_option maxRecDepth 65536 in
theorem w_hears : about1.hears theMethod below0 = true := by decide +kernel
set_option maxRecDepth 65536 in
theorem w_ripe : about1.ripe theMethod args0 below0 = true := by decide +kernel
theorem w_running : about1.status = .running := rfl
set_option maxRecDepth 65536 in
theorem w_room : about1.hasRoom e0.platform room_1 = true :=
  launch0.hasRoom_least _ room_1 (by decide +kernel) (by decide +kernel) (by decide +kernel) (by decide +kernel) (by decide +kernel) (by decide +kernel)
theorem allAtoms_all (ts : List Jvm.Cond) (a : Array Jvm.Value) (st : Jvm.State) : (allAtoms ts).before a st = ts.all (fun c => c.before a st) := by
  induction ts with
  | nil => rfl
  | cons c t ih =>
    show (Jvm.Cond.and c (allAtoms t)).before a st = _
    rw [Jvm.Cond.before_and, ih, List.all_cons]
def words1 : List Jvm.Cond := Jvm.Cond.code x code maxLocals ret :: tables_1
/-- a 'code' word, met by the world's own term for the bytes: nothing is compared byte by byte -/
theorem code_word {y : MethodName} {bytes : ByteArray} {mx : Nat} {rt : Option FieldType} {a : Array Value} {s : State} {m : MethodId} {meth : Method} {c : Code} (h1 : s.methodNamed? y = some m) (h2 : s.vm.method? m = some meth) (h3 : meth.code = some c) (h4 : c.code = bytes)
    (h5 : (c.maxLocals == mx && c.exceptionTable.isEmpty && decide (c.maxStack ≤ mostOperands) && decide (meth.sig.returnType = rt) && !meth.locks && decide (parseMethodDescriptor y.desc = some meth.sig)) = true) : (Jvm.Cond.code y bytes mx rt).before a s = true := by
  simp only [Bool.and_eq_true, beq_iff_eq, Bool.not_eq_true', decide_eq_true_eq] at h5
  obtain ⟨⟨⟨⟨⟨g1, g2⟩, g3⟩, g4⟩, g5⟩, g6⟩ := h5
  simp [Cond.before, Cond.holds, Cond.value, h1, h2, h3, h4, g1, g2, g3, g4, g5, g6]
def isCode : Jvm.Cond → Bool
  | .code _ _ _ _ => true
  | _ => false
theorem all_split {L : List Jvm.Cond} {P : Jvm.Cond → Bool} (h1 : L.all (fun c => isCode c || P c) = true) (h2 : ∀ c ∈ L.filter isCode, P c = true) : L.all P = true := by
  refine List.all_eq_true.mpr fun c hc => ?_
  have h := List.all_eq_true.mp h1 c hc
  rcases Bool.eq_false_or_eq_true (isCode c) with hi | hi
  · exact h2 c (List.mem_filter.mpr ⟨hc, hi⟩)
  · simpa [hi] using h
set_option maxRecDepth 65536 in
theorem w_c0 : (Jvm.Cond.code x code maxLocals ret).before args0 about1 = true := code_word (m := ⟨1, 2⟩) (meth := k1m2) (c := k1c2) (by decide +kernel) rfl rfl rfl (by decide +kernel)
set_option maxRecDepth 65536 in
theorem w_c1 : (Jvm.Cond.code ({ cls := "com/example/stonegaze/stonegaze/GroupsInAtariPinLaw", name := "pick", desc := "(II)I" } : Jvm.MethodName) method_2_code (2 : Nat) (Option.some Jvm.ClassFile.FieldType.int)).before args0 about1 = true := code_word (m := ⟨1, 1⟩) (meth := k1m1) (c := k1c1) (by decide +kernel) rfl rfl rfl (by decide +kernel)
set_option maxRecDepth 65536 in
theorem w_c2 : (Jvm.Cond.code ({ cls := "com/example/stonegaze/stonegaze/Groups", name := "<init>", desc := "(I)V" } : Jvm.MethodName) prog_17_method_1_code (2 : Nat) (Option.none : Option Jvm.ClassFile.FieldType)).before args0 about1 = true := code_word (m := ⟨2, 0⟩) (meth := k2m0) (c := k2c0) (by decide +kernel) rfl rfl rfl (by decide +kernel)
set_option maxRecDepth 65536 in
theorem w_c3 : (Jvm.Cond.code ({ cls := "java/lang/Object", name := "<init>", desc := "()V" } : Jvm.MethodName) object_method_1_code (1 : Nat) (Option.none : Option Jvm.ClassFile.FieldType)).before args0 about1 = true := code_word (m := ⟨0, 0⟩) (meth := k0m0) (c := k0c0) (by decide +kernel) rfl rfl rfl (by decide +kernel)
set_option maxRecDepth 65536 in
theorem w_c4 : (Jvm.Cond.code ({ cls := "java/util/Arrays", name := "fill", desc := "([II)V" } : Jvm.MethodName) jdk_65_method_103_code (4 : Nat) (Option.none : Option Jvm.ClassFile.FieldType)).before args0 about1 = true := code_word (m := ⟨3, 1⟩) (meth := k3m1) (c := k3c1) (by decide +kernel) rfl rfl rfl (by decide +kernel)
set_option maxRecDepth 65536 in
theorem w_c5 : (Jvm.Cond.code ({ cls := "com/example/stonegaze/stonegaze/Groups", name := "add", desc := "(Lcom/example/stonegaze/stonegaze/Side;IIZ)I" } : Jvm.MethodName) prog_17_method_2_code (5 : Nat) (Option.some Jvm.ClassFile.FieldType.int)).before args0 about1 = true := code_word (m := ⟨2, 1⟩) (meth := k2m1) (c := k2c1) (by decide +kernel) rfl rfl rfl (by decide +kernel)
set_option maxRecDepth 65536 in
theorem w_c6 : (Jvm.Cond.code ({ cls := "com/example/stonegaze/stonegaze/Groups", name := "inAtari", desc := "(I)Z" } : Jvm.MethodName) prog_17_method_10_code (2 : Nat) (Option.some Jvm.ClassFile.FieldType.boolean)).before args0 about1 = true := code_word (m := ⟨2, 2⟩) (meth := k2m2) (c := k2c2) (by decide +kernel) rfl rfl rfl (by decide +kernel)
def codes1 : List Jvm.Cond := [Jvm.Cond.code x code maxLocals ret, Jvm.Cond.code ({ cls := "com/example/stonegaze/stonegaze/GroupsInAtariPinLaw", name := "pick", desc := "(II)I" } : Jvm.MethodName) method_2_code (2 : Nat) (Option.some Jvm.ClassFile.FieldType.int), Jvm.Cond.code ({ cls := "com/example/stonegaze/stonegaze/Groups", name := "<init>", desc := "(I)V" } : Jvm.MethodName) prog_17_method_1_code (2 : Nat) (Option.none : Option Jvm.ClassFile.FieldType), Jvm.Cond.code ({ cls := "java/lang/Object", name := "<init>", desc := "()V" } : Jvm.MethodName) object_method_1_code (1 : Nat) (Option.none : Option Jvm.ClassFile.FieldType), Jvm.Cond.code ({ cls := "java/util/Arrays", name := "fill", desc := "([II)V" } : Jvm.MethodName) jdk_65_method_103_code (4 : Nat) (Option.none : Option Jvm.ClassFile.FieldType), Jvm.Cond.code ({ cls := "com/example/stonegaze/stonegaze/Groups", name := "add", desc := "(Lcom/example/stonegaze/stonegaze/Side;IIZ)I" } : Jvm.MethodName) prog_17_method_2_code (5 : Nat) (Option.some Jvm.ClassFile.FieldType.int), Jvm.Cond.code ({ cls := "com/example/stonegaze/stonegaze/Groups", name := "inAtari", desc := "(I)Z" } : Jvm.MethodName) prog_17_method_10_code (2 : Nat) (Option.some Jvm.ClassFile.FieldType.boolean)]
set_option maxRecDepth 65536 in
theorem codes_eq : words1.filter isCode = codes1 := rfl
theorem w_codes : ∀ c ∈ words1.filter isCode, c.before args0 about1 = true := by
  rw [codes_eq]
  intro c hc
  simp only [codes1, List.mem_cons, List.not_mem_nil, or_false] at hc
  rcases hc with rfl | rfl | rfl | rfl | rfl | rfl | rfl
  · exact w_c0
  · exact w_c1
  · exact w_c2
  · exact w_c3
  · exact w_c4
  · exact w_c5
  · exact w_c6
set_option maxRecDepth 65536 in
theorem w_t1 : (words1.take 24).all (fun c => isCode c || c.before args0 about1) = true := by decide +kernel
set_option maxRecDepth 65536 in
theorem w_t2 : ((words1.drop 24).take 24).all (fun c => isCode c || c.before args0 about1) = true := by decide +kernel
set_option maxRecDepth 65536 in
theorem w_t3 : ((words1.drop 24).drop 24).all (fun c => isCode c || c.before args0 about1) = true := by decide +kernel
theorem w_tables : (allAtoms (Jvm.Cond.code x code maxLocals ret :: tables_1)).before args0 about1 = true := by
  rw [allAtoms_all]
  show words1.all (fun c => c.before args0 about1) = true
  refine all_split ?_ w_codes
  rw [← List.take_append_drop 24 words1, List.all_append, w_t1, ← List.take_append_drop 24 (words1.drop 24), List.all_append, w_t2, w_t3]
  rfl
set_option maxRecDepth 65536 in
theorem w_case : (Jvm.Cond.and given_1 narrow_1).before args0 about1 = true := by decide +kernel
theorem w_applies : (headSpec (Jvm.Cond.code x code maxLocals ret :: tables_1) room_1).applies x e0.platform about1 = true :=
  (Spec.applies_iff w_frames).mpr ⟨w_running, w_runnable, w_alone, w_named, w_hears, w_ripe, w_room, w_tables⟩
theorem atStart : AtStart classFile x code maxLocals ret World_1 tables_1 room_1 Calls_1 rest_1 Pre_1 launch0 p0 e0 about1 theMethod args0 below0 :=
  ⟨lists_1, trivial, launch0.admits_env _ _ _, launch0.least_env, fairChoices_fair.cas, fairChoices_fair.clock, w_frames, w_args, w_heap, w_applies, trivial, trivial, w_case⟩
end start1
theorem witness_1 : WitnessClaimed_1 := ⟨start1.p0, start1.e0, start1.about1, start1.theMethod, start1.args0, start1.below0, start1.atStart⟩
end Jvm.Pilot.@@N@@
