import JvmDerived
import JvmDerived.Pilot.@@N@@Statement
import JvmDerived.Pilot.@@N@@Code
set_option linter.unusedVariables false
set_option linter.unusedSimpArgs false
namespace Jvm.Pilot.@@N@@
open Jvm Jvm.ClassFile Sem Op Lib Jvm.Free Jvm.Stand Jvm.LawKit Jvm.RoadKit Bundle Jvm.Pilot.@@N@@.Jvm.D
/-- the run stands at T' as it stood at T: the heap is the same -/
def Nx {p : Program} {l : Launch} {e : Env} {R : Room} {s : State} {m : MethodId} {args : Array Value} {below : List Frame} {meth : Method} {c : Code} {T : State} {locs : List Loc} {cells slots : Nat} (X : Stand p l e R s m args below meth c T locs cells slots) (T' : State) : Prop := Stand p l e R s m args below meth c T' locs cells slots ∧ T'.heap = T.heap
theorem lq_eq {x y : Int64} (h : x = y) : lcmpW x y = 0 := (lcW x y).trans ((lc_eq x y).mpr h)
theorem lq_ne {x y : Int64} (h : ¬ x = y) : ¬ lcmpW x y = 0 := fun q => h ((lc_eq x y).mp ((lcW x y).symm.trans q))
theorem lq_lt {x y : Int64} (h : x < y) : lcmpW x y < 0 := by rw [lcW]; exact (lc_lt x y).mpr h
theorem lq_nlt {x y : Int64} (h : ¬ x < y) : ¬ lcmpW x y < 0 := by rw [lcW]; exact fun q => h ((lc_lt x y).mp q)
theorem lq_gt {x y : Int64} (h : y < x) : 0 < lcmpW x y := by rw [lcW]; exact (lc_gt x y).mpr h
theorem lq_ngt {x y : Int64} (h : ¬ y < x) : ¬ 0 < lcmpW x y := by rw [lcW]; exact fun q => h ((lc_gt x y).mp q)
theorem own_eqI {args : Array Value} {first s : State} {o : Option Outcome} {idx : List Nat} {t : Term} {k : Int32} (h : (Jvm.Cond.eq t (.int k)).value args first o s idx = some true) : t.eval args first o idx s = some (.int k) := by
  simp only [Cond.value, Term.eval] at h
  cases ht : t.eval args first o idx s with
  | none => simp [ht] at h
  | some x => cases x <;> simp [ht] at h ⊢; exact h
theorem own_eqL {args : Array Value} {first s : State} {o : Option Outcome} {idx : List Nat} {t : Term} {k : Int64} (h : (Jvm.Cond.eq t (.long k)).value args first o s idx = some true) : t.eval args first o idx s = some (.long k) := by
  simp only [Cond.value, Term.eval] at h
  cases ht : t.eval args first o idx s with
  | none => simp [ht] at h
  | some x => cases x <;> simp [ht] at h ⊢; exact h
abbrev jv (x : Int64) : Slot := .val (.long x)
theorem y_iloadN {tb : Tables} [Ours tb] {e : Env} {below : List Frame} {T target : State} {m : MethodId} {c : Code} (h : At T m c below) (hx : tb.exec = Jvm.exec) {pc pc' : Nat} {L : Array Slot} {S : List Value} {k : Fin 4} {v : Int32} (hd : decode c.code pc = .ok (.iload_n k, 1)) (hl : L[k.val]? = some (.val (.int v))) (hp : pc + 1 = pc') (hr : Steps tb e below (T.setTop (mkF m pc' L (.int v :: S))) target) : Steps tb e below (T.setTop (mkF m pc L S)) target := by subst hp; exact XS.iloadN h hx rfl hd hl hr
theorem y_lloadN {tb : Tables} [Ours tb] {e : Env} {below : List Frame} {T target : State} {m : MethodId} {c : Code} (h : At T m c below) (hx : tb.exec = Jvm.exec) {pc pc' : Nat} {L : Array Slot} {S : List Value} {k : Fin 4} {v : Int64} (hd : decode c.code pc = .ok (.lload_n k, 1)) (hl : L[k.val]? = some (.val (.long v))) (hp : pc + 1 = pc') (hr : Steps tb e below (T.setTop (mkF m pc' L (.long v :: S))) target) : Steps tb e below (T.setTop (mkF m pc L S)) target := by subst hp; exact XS.lloadN h hx rfl hd hl hr
theorem y_aloadN {tb : Tables} [Ours tb] {e : Env} {below : List Frame} {T target : State} {m : MethodId} {c : Code} (h : At T m c below) (hx : tb.exec = Jvm.exec) {pc pc' : Nat} {L : Array Slot} {S : List Value} {k : Fin 4} {v : Value} (hd : decode c.code pc = .ok (.aload_n k, 1)) (hl : L[k.val]? = some (.val v)) (hv : v.isRef = true) (hp : pc + 1 = pc') (hr : Steps tb e below (T.setTop (mkF m pc' L (v :: S))) target) : Steps tb e below (T.setTop (mkF m pc L S)) target := by subst hp; exact XS.aloadN h hx rfl hd hl hv hr
theorem y_istoreN {tb : Tables} [Ours tb] {e : Env} {below : List Frame} {T target : State} {m : MethodId} {c : Code} (h : At T m c below) (hx : tb.exec = Jvm.exec) {pc pc' : Nat} {L : Array Slot} {S : List Value} {k : Fin 4} {v : Int32} {l' : Array Slot} (hd : decode c.code pc = .ok (.istore_n k, 1)) (hl : storeLocals L k.val (.int v) = some l') (hp : pc + 1 = pc') (hr : Steps tb e below (T.setTop (mkF m pc' l' S)) target) : Steps tb e below (T.setTop (mkF m pc L (.int v :: S))) target := by subst hp; exact XS.istoreN h hx rfl hd rfl hl hr
theorem y_lstoreN {tb : Tables} [Ours tb] {e : Env} {below : List Frame} {T target : State} {m : MethodId} {c : Code} (h : At T m c below) (hx : tb.exec = Jvm.exec) {pc pc' : Nat} {L : Array Slot} {S : List Value} {k : Fin 4} {v : Int64} {l' : Array Slot} (hd : decode c.code pc = .ok (.lstore_n k, 1)) (hl : storeLocals L k.val (.long v) = some l') (hp : pc + 1 = pc') (hr : Steps tb e below (T.setTop (mkF m pc' l' S)) target) : Steps tb e below (T.setTop (mkF m pc L (.long v :: S))) target := by subst hp; exact XS.lstoreN h hx rfl hd rfl hl hr
theorem y_astoreN {tb : Tables} [Ours tb] {e : Env} {below : List Frame} {T target : State} {m : MethodId} {c : Code} (h : At T m c below) (hx : tb.exec = Jvm.exec) {pc pc' : Nat} {L : Array Slot} {S : List Value} {k : Fin 4} {v : Value} {l' : Array Slot} (hd : decode c.code pc = .ok (.astore_n k, 1)) (hv : v.isRef = true) (hl : storeLocals L k.val v = some l') (hp : pc + 1 = pc') (hr : Steps tb e below (T.setTop (mkF m pc' l' S)) target) : Steps tb e below (T.setTop (mkF m pc L (v :: S))) target := by subst hp; exact XS.astoreN h hx rfl hd rfl hv hl hr
theorem y_iload {tb : Tables} [Ours tb] {e : Env} {below : List Frame} {T target : State} {m : MethodId} {c : Code} (h : At T m c below) (hx : tb.exec = Jvm.exec) {pc pc' : Nat} {L : Array Slot} {S : List Value} {k : Nat} {v : Int32} (hd : decode c.code pc = .ok (.iload k, 2)) (hl : L[k]? = some (.val (.int v))) (hp : pc + 2 = pc') (hr : Steps tb e below (T.setTop (mkF m pc' L (.int v :: S))) target) : Steps tb e below (T.setTop (mkF m pc L S)) target := by subst hp; exact XS.iload h hx rfl hd hl hr
theorem y_lload {tb : Tables} [Ours tb] {e : Env} {below : List Frame} {T target : State} {m : MethodId} {c : Code} (h : At T m c below) (hx : tb.exec = Jvm.exec) {pc pc' : Nat} {L : Array Slot} {S : List Value} {k : Nat} {v : Int64} (hd : decode c.code pc = .ok (.lload k, 2)) (hl : L[k]? = some (.val (.long v))) (hp : pc + 2 = pc') (hr : Steps tb e below (T.setTop (mkF m pc' L (.long v :: S))) target) : Steps tb e below (T.setTop (mkF m pc L S)) target := by subst hp; exact XS.lload h hx rfl hd hl hr
theorem y_aload {tb : Tables} [Ours tb] {e : Env} {below : List Frame} {T target : State} {m : MethodId} {c : Code} (h : At T m c below) (hx : tb.exec = Jvm.exec) {pc pc' : Nat} {L : Array Slot} {S : List Value} {k : Nat} {v : Value} (hd : decode c.code pc = .ok (.aload k, 2)) (hl : L[k]? = some (.val v)) (hv : v.isRef = true) (hp : pc + 2 = pc') (hr : Steps tb e below (T.setTop (mkF m pc' L (v :: S))) target) : Steps tb e below (T.setTop (mkF m pc L S)) target := by subst hp; exact XS.aload h hx rfl hd hl hv hr
theorem y_istore {tb : Tables} [Ours tb] {e : Env} {below : List Frame} {T target : State} {m : MethodId} {c : Code} (h : At T m c below) (hx : tb.exec = Jvm.exec) {pc pc' : Nat} {L : Array Slot} {S : List Value} {k : Nat} {v : Int32} {l' : Array Slot} (hd : decode c.code pc = .ok (.istore k, 2)) (hl : storeLocals L k (.int v) = some l') (hp : pc + 2 = pc') (hr : Steps tb e below (T.setTop (mkF m pc' l' S)) target) : Steps tb e below (T.setTop (mkF m pc L (.int v :: S))) target := by subst hp; exact XS.istore h hx rfl hd rfl hl hr
theorem y_lstore {tb : Tables} [Ours tb] {e : Env} {below : List Frame} {T target : State} {m : MethodId} {c : Code} (h : At T m c below) (hx : tb.exec = Jvm.exec) {pc pc' : Nat} {L : Array Slot} {S : List Value} {k : Nat} {v : Int64} {l' : Array Slot} (hd : decode c.code pc = .ok (.lstore k, 2)) (hl : storeLocals L k (.long v) = some l') (hp : pc + 2 = pc') (hr : Steps tb e below (T.setTop (mkF m pc' l' S)) target) : Steps tb e below (T.setTop (mkF m pc L (.long v :: S))) target := by subst hp; exact XS.lstore h hx rfl hd rfl hl hr
theorem y_astore {tb : Tables} [Ours tb] {e : Env} {below : List Frame} {T target : State} {m : MethodId} {c : Code} (h : At T m c below) (hx : tb.exec = Jvm.exec) {pc pc' : Nat} {L : Array Slot} {S : List Value} {k : Nat} {v : Value} {l' : Array Slot} (hd : decode c.code pc = .ok (.astore k, 2)) (hv : v.isRef = true) (hl : storeLocals L k v = some l') (hp : pc + 2 = pc') (hr : Steps tb e below (T.setTop (mkF m pc' l' S)) target) : Steps tb e below (T.setTop (mkF m pc L (v :: S))) target := by subst hp; exact XS.astore h hx rfl hd rfl hv hl hr
theorem y_iconst {tb : Tables} [Ours tb] {e : Env} {below : List Frame} {T target : State} {m : MethodId} {c : Code} (h : At T m c below) (hx : tb.exec = Jvm.exec) {pc pc' : Nat} {L : Array Slot} {S : List Value} {i : Int} {v : Int32} (hd : decode c.code pc = .ok (.iconst i, 1)) (hv : Int32.ofInt i = v) (hp : pc + 1 = pc') (hr : Steps tb e below (T.setTop (mkF m pc' L (.int v :: S))) target) : Steps tb e below (T.setTop (mkF m pc L S)) target := by subst hp; exact XS.iconst h hx rfl hd (by rw [hv]; exact hr)
theorem y_bipush {tb : Tables} [Ours tb] {e : Env} {below : List Frame} {T target : State} {m : MethodId} {c : Code} (h : At T m c below) (hx : tb.exec = Jvm.exec) {pc pc' : Nat} {L : Array Slot} {S : List Value} {i : Int} {v : Int32} (hd : decode c.code pc = .ok (.bipush i, 2)) (hv : (Int8.ofInt i).toInt32 = v) (hp : pc + 2 = pc') (hr : Steps tb e below (T.setTop (mkF m pc' L (.int v :: S))) target) : Steps tb e below (T.setTop (mkF m pc L S)) target := by subst hp; exact XS.bipush h hx rfl hd (by rw [hv]; exact hr)
theorem y_sipush {tb : Tables} [Ours tb] {e : Env} {below : List Frame} {T target : State} {m : MethodId} {c : Code} (h : At T m c below) (hx : tb.exec = Jvm.exec) {pc pc' : Nat} {L : Array Slot} {S : List Value} {i : Int} {v : Int32} (hd : decode c.code pc = .ok (.sipush i, 3)) (hv : (Int16.ofInt i).toInt32 = v) (hp : pc + 3 = pc') (hr : Steps tb e below (T.setTop (mkF m pc' L (.int v :: S))) target) : Steps tb e below (T.setTop (mkF m pc L S)) target := by subst hp; exact XS.sipush h hx rfl hd (by rw [hv]; exact hr)
theorem y_lconst {tb : Tables} [Ours tb] {e : Env} {below : List Frame} {T target : State} {m : MethodId} {c : Code} (h : At T m c below) (hx : tb.exec = Jvm.exec) {pc pc' : Nat} {L : Array Slot} {S : List Value} {k : Fin 2} {v : Int64} (hd : decode c.code pc = .ok (.lconst k, 1)) (hv : Int64.ofNat k.val = v) (hp : pc + 1 = pc') (hr : Steps tb e below (T.setTop (mkF m pc' L (.long v :: S))) target) : Steps tb e below (T.setTop (mkF m pc L S)) target := by subst hp; exact XS.lconst h hx rfl hd (by first | exact hv ▸ hr | (rw [hv]; exact hr) | (subst hv; exact hr))
theorem y_aconstNull {tb : Tables} [Ours tb] {e : Env} {below : List Frame} {T target : State} {m : MethodId} {c : Code} (h : At T m c below) (hx : tb.exec = Jvm.exec) {pc pc' : Nat} {L : Array Slot} {S : List Value} (hd : decode c.code pc = .ok (.aconst_null, 1)) (hp : pc + 1 = pc') (hr : Steps tb e below (T.setTop (mkF m pc' L (.null :: S))) target) : Steps tb e below (T.setTop (mkF m pc L S)) target := by subst hp; exact XS.aconstNull h hx rfl hd hr
theorem y_iadd {tb : Tables} [Ours tb] {e : Env} {below : List Frame} {T target : State} {m : MethodId} {c : Code} (h : At T m c below) (hx : tb.exec = Jvm.exec) {pc pc' : Nat} {L : Array Slot} {S : List Value} {x y z : Int32} (hd : decode c.code pc = .ok (.iadd, 1)) (hz : x + y = z) (hp : pc + 1 = pc') (hr : Steps tb e below (T.setTop (mkF m pc' L (.int z :: S))) target) : Steps tb e below (T.setTop (mkF m pc L (.int y :: .int x :: S))) target := by subst hp; exact XS.iadd h hx rfl hd rfl (by rw [hz]; exact hr)
theorem y_isub {tb : Tables} [Ours tb] {e : Env} {below : List Frame} {T target : State} {m : MethodId} {c : Code} (h : At T m c below) (hx : tb.exec = Jvm.exec) {pc pc' : Nat} {L : Array Slot} {S : List Value} {x y z : Int32} (hd : decode c.code pc = .ok (.isub, 1)) (hz : x - y = z) (hp : pc + 1 = pc') (hr : Steps tb e below (T.setTop (mkF m pc' L (.int z :: S))) target) : Steps tb e below (T.setTop (mkF m pc L (.int y :: .int x :: S))) target := by subst hp; exact XS.isub h hx rfl hd rfl (by rw [hz]; exact hr)
theorem y_imul {tb : Tables} [Ours tb] {e : Env} {below : List Frame} {T target : State} {m : MethodId} {c : Code} (h : At T m c below) (hx : tb.exec = Jvm.exec) {pc pc' : Nat} {L : Array Slot} {S : List Value} {x y z : Int32} (hd : decode c.code pc = .ok (.imul, 1)) (hz : x * y = z) (hp : pc + 1 = pc') (hr : Steps tb e below (T.setTop (mkF m pc' L (.int z :: S))) target) : Steps tb e below (T.setTop (mkF m pc L (.int y :: .int x :: S))) target := by subst hp; exact XS.imul h hx rfl hd rfl (by rw [hz]; exact hr)
theorem y_iand {tb : Tables} [Ours tb] {e : Env} {below : List Frame} {T target : State} {m : MethodId} {c : Code} (h : At T m c below) (hx : tb.exec = Jvm.exec) {pc pc' : Nat} {L : Array Slot} {S : List Value} {x y z : Int32} (hd : decode c.code pc = .ok (.iand, 1)) (hz : x &&& y = z) (hp : pc + 1 = pc') (hr : Steps tb e below (T.setTop (mkF m pc' L (.int z :: S))) target) : Steps tb e below (T.setTop (mkF m pc L (.int y :: .int x :: S))) target := by subst hp; exact XS.iand h hx rfl hd rfl (by rw [hz]; exact hr)
theorem y_ior {tb : Tables} [Ours tb] {e : Env} {below : List Frame} {T target : State} {m : MethodId} {c : Code} (h : At T m c below) (hx : tb.exec = Jvm.exec) {pc pc' : Nat} {L : Array Slot} {S : List Value} {x y z : Int32} (hd : decode c.code pc = .ok (.ior, 1)) (hz : x ||| y = z) (hp : pc + 1 = pc') (hr : Steps tb e below (T.setTop (mkF m pc' L (.int z :: S))) target) : Steps tb e below (T.setTop (mkF m pc L (.int y :: .int x :: S))) target := by subst hp; exact XS.ior h hx rfl hd rfl (by rw [hz]; exact hr)
theorem y_ixor {tb : Tables} [Ours tb] {e : Env} {below : List Frame} {T target : State} {m : MethodId} {c : Code} (h : At T m c below) (hx : tb.exec = Jvm.exec) {pc pc' : Nat} {L : Array Slot} {S : List Value} {x y z : Int32} (hd : decode c.code pc = .ok (.ixor, 1)) (hz : x ^^^ y = z) (hp : pc + 1 = pc') (hr : Steps tb e below (T.setTop (mkF m pc' L (.int z :: S))) target) : Steps tb e below (T.setTop (mkF m pc L (.int y :: .int x :: S))) target := by subst hp; exact XS.ixor h hx rfl hd rfl (by rw [hz]; exact hr)
theorem y_ladd {tb : Tables} [Ours tb] {e : Env} {below : List Frame} {T target : State} {m : MethodId} {c : Code} (h : At T m c below) (hx : tb.exec = Jvm.exec) {pc pc' : Nat} {L : Array Slot} {S : List Value} {x y z : Int64} (hd : decode c.code pc = .ok (.ladd, 1)) (hz : x + y = z) (hp : pc + 1 = pc') (hr : Steps tb e below (T.setTop (mkF m pc' L (.long z :: S))) target) : Steps tb e below (T.setTop (mkF m pc L (.long y :: .long x :: S))) target := by subst hp; exact XS.ladd h hx rfl hd rfl (by rw [hz]; exact hr)
theorem y_lsub {tb : Tables} [Ours tb] {e : Env} {below : List Frame} {T target : State} {m : MethodId} {c : Code} (h : At T m c below) (hx : tb.exec = Jvm.exec) {pc pc' : Nat} {L : Array Slot} {S : List Value} {x y z : Int64} (hd : decode c.code pc = .ok (.lsub, 1)) (hz : x - y = z) (hp : pc + 1 = pc') (hr : Steps tb e below (T.setTop (mkF m pc' L (.long z :: S))) target) : Steps tb e below (T.setTop (mkF m pc L (.long y :: .long x :: S))) target := by subst hp; exact XS.lsub h hx rfl hd rfl (by rw [hz]; exact hr)
theorem y_lmul {tb : Tables} [Ours tb] {e : Env} {below : List Frame} {T target : State} {m : MethodId} {c : Code} (h : At T m c below) (hx : tb.exec = Jvm.exec) {pc pc' : Nat} {L : Array Slot} {S : List Value} {x y z : Int64} (hd : decode c.code pc = .ok (.lmul, 1)) (hz : x * y = z) (hp : pc + 1 = pc') (hr : Steps tb e below (T.setTop (mkF m pc' L (.long z :: S))) target) : Steps tb e below (T.setTop (mkF m pc L (.long y :: .long x :: S))) target := by subst hp; exact XS.lmul h hx rfl hd rfl (by rw [hz]; exact hr)
theorem y_land {tb : Tables} [Ours tb] {e : Env} {below : List Frame} {T target : State} {m : MethodId} {c : Code} (h : At T m c below) (hx : tb.exec = Jvm.exec) {pc pc' : Nat} {L : Array Slot} {S : List Value} {x y z : Int64} (hd : decode c.code pc = .ok (.land, 1)) (hz : x &&& y = z) (hp : pc + 1 = pc') (hr : Steps tb e below (T.setTop (mkF m pc' L (.long z :: S))) target) : Steps tb e below (T.setTop (mkF m pc L (.long y :: .long x :: S))) target := by subst hp; exact XS.land h hx rfl hd rfl (by rw [hz]; exact hr)
theorem y_lor {tb : Tables} [Ours tb] {e : Env} {below : List Frame} {T target : State} {m : MethodId} {c : Code} (h : At T m c below) (hx : tb.exec = Jvm.exec) {pc pc' : Nat} {L : Array Slot} {S : List Value} {x y z : Int64} (hd : decode c.code pc = .ok (.lor, 1)) (hz : x ||| y = z) (hp : pc + 1 = pc') (hr : Steps tb e below (T.setTop (mkF m pc' L (.long z :: S))) target) : Steps tb e below (T.setTop (mkF m pc L (.long y :: .long x :: S))) target := by subst hp; exact XS.lor h hx rfl hd rfl (by rw [hz]; exact hr)
theorem y_lxor {tb : Tables} [Ours tb] {e : Env} {below : List Frame} {T target : State} {m : MethodId} {c : Code} (h : At T m c below) (hx : tb.exec = Jvm.exec) {pc pc' : Nat} {L : Array Slot} {S : List Value} {x y z : Int64} (hd : decode c.code pc = .ok (.lxor, 1)) (hz : x ^^^ y = z) (hp : pc + 1 = pc') (hr : Steps tb e below (T.setTop (mkF m pc' L (.long z :: S))) target) : Steps tb e below (T.setTop (mkF m pc L (.long y :: .long x :: S))) target := by subst hp; exact XS.lxor h hx rfl hd rfl (by rw [hz]; exact hr)
theorem y_ineg {tb : Tables} [Ours tb] {e : Env} {below : List Frame} {T target : State} {m : MethodId} {c : Code} (h : At T m c below) (hx : tb.exec = Jvm.exec) {pc pc' : Nat} {L : Array Slot} {S : List Value} {x : Int32} {z : Int32} (hd : decode c.code pc = .ok (.ineg, 1)) (hz : -x = z) (hp : pc + 1 = pc') (hr : Steps tb e below (T.setTop (mkF m pc' L (.int z :: S))) target) : Steps tb e below (T.setTop (mkF m pc L (.int x :: S))) target := by subst hp; exact XS.ineg h hx rfl hd rfl (by subst hz; exact hr)
theorem y_lneg {tb : Tables} [Ours tb] {e : Env} {below : List Frame} {T target : State} {m : MethodId} {c : Code} (h : At T m c below) (hx : tb.exec = Jvm.exec) {pc pc' : Nat} {L : Array Slot} {S : List Value} {x : Int64} {z : Int64} (hd : decode c.code pc = .ok (.lneg, 1)) (hz : -x = z) (hp : pc + 1 = pc') (hr : Steps tb e below (T.setTop (mkF m pc' L (.long z :: S))) target) : Steps tb e below (T.setTop (mkF m pc L (.long x :: S))) target := by subst hp; exact XS.lneg h hx rfl hd rfl (by subst hz; exact hr)
theorem y_i2l {tb : Tables} [Ours tb] {e : Env} {below : List Frame} {T target : State} {m : MethodId} {c : Code} (h : At T m c below) (hx : tb.exec = Jvm.exec) {pc pc' : Nat} {L : Array Slot} {S : List Value} {x : Int32} {z : Int64} (hd : decode c.code pc = .ok (.i2l, 1)) (hz : x.toInt64 = z) (hp : pc + 1 = pc') (hr : Steps tb e below (T.setTop (mkF m pc' L (.long z :: S))) target) : Steps tb e below (T.setTop (mkF m pc L (.int x :: S))) target := by subst hp; exact XS.i2l h hx rfl hd rfl (by subst hz; exact hr)
theorem y_l2i {tb : Tables} [Ours tb] {e : Env} {below : List Frame} {T target : State} {m : MethodId} {c : Code} (h : At T m c below) (hx : tb.exec = Jvm.exec) {pc pc' : Nat} {L : Array Slot} {S : List Value} {x : Int64} {z : Int32} (hd : decode c.code pc = .ok (.l2i, 1)) (hz : x.toInt32 = z) (hp : pc + 1 = pc') (hr : Steps tb e below (T.setTop (mkF m pc' L (.int z :: S))) target) : Steps tb e below (T.setTop (mkF m pc L (.long x :: S))) target := by subst hp; exact XS.l2i h hx rfl hd rfl (by subst hz; exact hr)
theorem y_i2b {tb : Tables} [Ours tb] {e : Env} {below : List Frame} {T target : State} {m : MethodId} {c : Code} (h : At T m c below) (hx : tb.exec = Jvm.exec) {pc pc' : Nat} {L : Array Slot} {S : List Value} {x : Int32} {z : Int32} (hd : decode c.code pc = .ok (.i2b, 1)) (hz : x.toInt8.toInt32 = z) (hp : pc + 1 = pc') (hr : Steps tb e below (T.setTop (mkF m pc' L (.int z :: S))) target) : Steps tb e below (T.setTop (mkF m pc L (.int x :: S))) target := by subst hp; exact XS.i2b h hx rfl hd rfl (by subst hz; exact hr)
theorem y_i2s {tb : Tables} [Ours tb] {e : Env} {below : List Frame} {T target : State} {m : MethodId} {c : Code} (h : At T m c below) (hx : tb.exec = Jvm.exec) {pc pc' : Nat} {L : Array Slot} {S : List Value} {x : Int32} {z : Int32} (hd : decode c.code pc = .ok (.i2s, 1)) (hz : x.toInt16.toInt32 = z) (hp : pc + 1 = pc') (hr : Steps tb e below (T.setTop (mkF m pc' L (.int z :: S))) target) : Steps tb e below (T.setTop (mkF m pc L (.int x :: S))) target := by subst hp; exact XS.i2s h hx rfl hd rfl (by subst hz; exact hr)
theorem y_i2c {tb : Tables} [Ours tb] {e : Env} {below : List Frame} {T target : State} {m : MethodId} {c : Code} (h : At T m c below) (hx : tb.exec = Jvm.exec) {pc pc' : Nat} {L : Array Slot} {S : List Value} {x : Int32} {z : Int32} (hd : decode c.code pc = .ok (.i2c, 1)) (hz : x.toUInt32.toUInt16.toUInt32.toInt32 = z) (hp : pc + 1 = pc') (hr : Steps tb e below (T.setTop (mkF m pc' L (.int z :: S))) target) : Steps tb e below (T.setTop (mkF m pc L (.int x :: S))) target := by subst hp; exact XS.i2c h hx rfl hd rfl (by subst hz; exact hr)
theorem y_ishl {tb : Tables} [Ours tb] {e : Env} {below : List Frame} {T target : State} {m : MethodId} {c : Code} (h : At T m c below) (hx : tb.exec = Jvm.exec) {pc pc' : Nat} {L : Array Slot} {S : List Value} {x z : Int32} {y : Int32} (hd : decode c.code pc = .ok (.ishl, 1)) (hz : (x <<< (y &&& 31)) = z) (hp : pc + 1 = pc') (hr : Steps tb e below (T.setTop (mkF m pc' L (.int z :: S))) target) : Steps tb e below (T.setTop (mkF m pc L (.int y :: .int x :: S))) target := by subst hp; exact XS.ishl h hx rfl hd rfl (by subst hz; exact hr)
theorem y_ishr {tb : Tables} [Ours tb] {e : Env} {below : List Frame} {T target : State} {m : MethodId} {c : Code} (h : At T m c below) (hx : tb.exec = Jvm.exec) {pc pc' : Nat} {L : Array Slot} {S : List Value} {x z : Int32} {y : Int32} (hd : decode c.code pc = .ok (.ishr, 1)) (hz : (x >>> (y &&& 31)) = z) (hp : pc + 1 = pc') (hr : Steps tb e below (T.setTop (mkF m pc' L (.int z :: S))) target) : Steps tb e below (T.setTop (mkF m pc L (.int y :: .int x :: S))) target := by subst hp; exact XS.ishr h hx rfl hd rfl (by subst hz; exact hr)
theorem y_iushr {tb : Tables} [Ours tb] {e : Env} {below : List Frame} {T target : State} {m : MethodId} {c : Code} (h : At T m c below) (hx : tb.exec = Jvm.exec) {pc pc' : Nat} {L : Array Slot} {S : List Value} {x z : Int32} {y : Int32} (hd : decode c.code pc = .ok (.iushr, 1)) (hz : ((x.toUInt32 >>> (y &&& 31).toUInt32).toInt32) = z) (hp : pc + 1 = pc') (hr : Steps tb e below (T.setTop (mkF m pc' L (.int z :: S))) target) : Steps tb e below (T.setTop (mkF m pc L (.int y :: .int x :: S))) target := by subst hp; exact XS.iushr h hx rfl hd rfl (by subst hz; exact hr)
theorem y_lshl {tb : Tables} [Ours tb] {e : Env} {below : List Frame} {T target : State} {m : MethodId} {c : Code} (h : At T m c below) (hx : tb.exec = Jvm.exec) {pc pc' : Nat} {L : Array Slot} {S : List Value} {x z : Int64} {y : Int32} (hd : decode c.code pc = .ok (.lshl, 1)) (hz : (x <<< (y &&& 0x3f).toInt64) = z) (hp : pc + 1 = pc') (hr : Steps tb e below (T.setTop (mkF m pc' L (.long z :: S))) target) : Steps tb e below (T.setTop (mkF m pc L (.int y :: .long x :: S))) target := by subst hp; exact XS.lshl h hx rfl hd rfl (by subst hz; exact hr)
theorem y_lshr {tb : Tables} [Ours tb] {e : Env} {below : List Frame} {T target : State} {m : MethodId} {c : Code} (h : At T m c below) (hx : tb.exec = Jvm.exec) {pc pc' : Nat} {L : Array Slot} {S : List Value} {x z : Int64} {y : Int32} (hd : decode c.code pc = .ok (.lshr, 1)) (hz : (x >>> (y &&& 0x3f).toInt64) = z) (hp : pc + 1 = pc') (hr : Steps tb e below (T.setTop (mkF m pc' L (.long z :: S))) target) : Steps tb e below (T.setTop (mkF m pc L (.int y :: .long x :: S))) target := by subst hp; exact XS.lshr h hx rfl hd rfl (by subst hz; exact hr)
theorem y_lushr {tb : Tables} [Ours tb] {e : Env} {below : List Frame} {T target : State} {m : MethodId} {c : Code} (h : At T m c below) (hx : tb.exec = Jvm.exec) {pc pc' : Nat} {L : Array Slot} {S : List Value} {x z : Int64} {y : Int32} (hd : decode c.code pc = .ok (.lushr, 1)) (hz : ((x.toUInt64 >>> (y &&& 0x3f).toInt64.toUInt64).toInt64) = z) (hp : pc + 1 = pc') (hr : Steps tb e below (T.setTop (mkF m pc' L (.long z :: S))) target) : Steps tb e below (T.setTop (mkF m pc L (.int y :: .long x :: S))) target := by subst hp; exact XS.lushr h hx rfl hd rfl (by subst hz; exact hr)
theorem y_lcmp {tb : Tables} [Ours tb] {e : Env} {below : List Frame} {T target : State} {m : MethodId} {c : Code} (h : At T m c below) (hx : tb.exec = Jvm.exec) {pc pc' : Nat} {L : Array Slot} {S : List Value} {x y : Int64} (hd : decode c.code pc = .ok (.lcmp, 1)) (hp : pc + 1 = pc') (hr : Steps tb e below (T.setTop (mkF m pc' L (.int (lcmpW x y) :: S))) target) : Steps tb e below (T.setTop (mkF m pc L (.long y :: .long x :: S))) target := by subst hp; exact XS.lcmp h hx rfl hd rfl hr
theorem y_iinc {tb : Tables} [Ours tb] {e : Env} {below : List Frame} {T target : State} {m : MethodId} {c : Code} (h : At T m c below) (hx : tb.exec = Jvm.exec) {pc pc' : Nat} {L : Array Slot} {S : List Value} {k : Nat} {cst : Int} {x : Int32} {l' : Array Slot} (hd : decode c.code pc = .ok (.iinc k cst, 3)) (hl : L[k]? = some (.val (.int x))) (hl' : storeLocals L k (.int (x + Int32.ofInt cst)) = some l') (hp : pc + 3 = pc') (hr : Steps tb e below (T.setTop (mkF m pc' l' S)) target) : Steps tb e below (T.setTop (mkF m pc L S)) target := by subst hp; exact XS.iinc h hx rfl hd hl hl' hr
theorem y_dup {tb : Tables} [Ours tb] {e : Env} {below : List Frame} {T target : State} {m : MethodId} {c : Code} (h : At T m c below) (hx : tb.exec = Jvm.exec) {pc pc' : Nat} {L : Array Slot} {S : List Value} {v : Value} (hd : decode c.code pc = .ok (.dup, 1)) (hc : v.category = 1) (hp : pc + 1 = pc') (hr : Steps tb e below (T.setTop (mkF m pc' L (v :: v :: S))) target) : Steps tb e below (T.setTop (mkF m pc L (v :: S))) target := by subst hp; exact XS.dup h hx rfl hd rfl hc hr
theorem y_goto {tb : Tables} [Ours tb] {e : Env} {below : List Frame} {T target : State} {m : MethodId} {c : Code} (h : At T m c below) (hx : tb.exec = Jvm.exec) {pc pc' : Nat} {L : Array Slot} {S : List Value} {o : Int} (hd : decode c.code pc = .ok (.goto o, 3)) (ho : 0 ≤ (pc : Int) + o) (hp : ((pc : Int) + o).toNat = pc') (hr : Steps tb e below (T.setTop (mkF m pc' L S)) target) : Steps tb e below (T.setTop (mkF m pc L S)) target := XS.goto h hx rfl rfl hd ho hp hr
theorem y_ifYes {tb : Tables} [Ours tb] {e : Env} {below : List Frame} {T target : State} {m : MethodId} {c : Code} (h : At T m c below) (hx : tb.exec = Jvm.exec) {pc pc' : Nat} {L : Array Slot} {S : List Value} {cd : ClassFile.Cond} {x : Int32} {o : Int} (hd : decode c.code pc = .ok (.ifCond cd o, 3)) (hc : ifCond.holds cd x = true) (ho : 0 ≤ (pc : Int) + o) (hp : ((pc : Int) + o).toNat = pc') (hr : Steps tb e below (T.setTop (mkF m pc' L S)) target) : Steps tb e below (T.setTop (mkF m pc L (.int x :: S))) target := XS.ifYes h hx rfl rfl hd rfl hc ho hp hr
theorem y_ifNo {tb : Tables} [Ours tb] {e : Env} {below : List Frame} {T target : State} {m : MethodId} {c : Code} (h : At T m c below) (hx : tb.exec = Jvm.exec) {pc pc' : Nat} {L : Array Slot} {S : List Value} {cd : ClassFile.Cond} {x : Int32} {o : Int} (hd : decode c.code pc = .ok (.ifCond cd o, 3)) (hc : ifCond.holds cd x = false) (hp : pc + 3 = pc') (hr : Steps tb e below (T.setTop (mkF m pc' L S)) target) : Steps tb e below (T.setTop (mkF m pc L (.int x :: S))) target := by subst hp; exact XS.ifNo h hx rfl hd rfl hc hr
theorem y_icmpYes {tb : Tables} [Ours tb] {e : Env} {below : List Frame} {T target : State} {m : MethodId} {c : Code} (h : At T m c below) (hx : tb.exec = Jvm.exec) {pc pc' : Nat} {L : Array Slot} {S : List Value} {cd : ClassFile.Cond} {x y : Int32} {o : Int} (hd : decode c.code pc = .ok (.if_icmp cd o, 3)) (hc : if_icmp.holds cd x y = true) (ho : 0 ≤ (pc : Int) + o) (hp : ((pc : Int) + o).toNat = pc') (hr : Steps tb e below (T.setTop (mkF m pc' L S)) target) : Steps tb e below (T.setTop (mkF m pc L (.int y :: .int x :: S))) target := XS.icmpYes h hx rfl rfl hd rfl hc ho hp hr
theorem y_icmpNo {tb : Tables} [Ours tb] {e : Env} {below : List Frame} {T target : State} {m : MethodId} {c : Code} (h : At T m c below) (hx : tb.exec = Jvm.exec) {pc pc' : Nat} {L : Array Slot} {S : List Value} {cd : ClassFile.Cond} {x y : Int32} {o : Int} (hd : decode c.code pc = .ok (.if_icmp cd o, 3)) (hc : if_icmp.holds cd x y = false) (hp : pc + 3 = pc') (hr : Steps tb e below (T.setTop (mkF m pc' L S)) target) : Steps tb e below (T.setTop (mkF m pc L (.int y :: .int x :: S))) target := by subst hp; exact XS.icmpNo h hx rfl hd rfl hc hr
theorem own_nar01 {x : Int32} (h : x = 0 ∨ x = 1) : nar .boolean x = x := by rcases h with rfl | rfl <;> rfl
theorem own_ite01 {c : Prop} [Decidable c] : (if c then (0 : Int32) else (1 : Int32)) = 0 ∨ (if c then (0 : Int32) else (1 : Int32)) = 1 := by split <;> simp
theorem own_narI {c : Prop} [Decidable c] : nar .boolean (if c then (1 : Int32) else (0 : Int32)) = (if c then (1 : Int32) else (0 : Int32)) := by split <;> rfl
theorem own_of {x k : Int32} (h : x.toInt = k.toInt) : x = k := Int32.toInt_inj.mp h
theorem own_and3 (k : Int32) : k &&& 3 = 0 ∨ k &&& 3 = 1 ∨ k &&& 3 = 2 ∨ k &&& 3 = 3 := by
  have q : (k &&& 3).toInt = k.toInt % 4 := c_mask k 3 2 (by decide) (by decide)
  generalize k &&& 3 = x at q ⊢
  have : x.toInt = 0 ∨ x.toInt = 1 ∨ x.toInt = 2 ∨ x.toInt = 3 := by omega
  rcases this with h | h | h | h
  · exact Or.inl (own_of h)
  · exact Or.inr (Or.inl (own_of h))
  · exact Or.inr (Or.inr (Or.inl (own_of h)))
  · exact Or.inr (Or.inr (Or.inr (own_of h)))
theorem own_nK (k : Int32) : ¬ (2 : Int32) + (k &&& 3) < 0 ∧ ((2 : Int32) + (k &&& 3)).toNatClampNeg ≤ 5 ∧ (0 : Int32) < (2 : Int32) + (k &&& 3) ∧ (1 : Int32) < (2 : Int32) + (k &&& 3) := by
  have q : (k &&& 3).toInt = k.toInt % 4 := c_mask k 3 2 (by decide) (by decide)
  have q1 := c_iadd 2 (k &&& 3)
  have q2 := ((2 : Int32) + (k &&& 3)).le_toInt
  have q3 := ((2 : Int32) + (k &&& 3)).toInt_lt
  have e2 : (2 : Int32).toInt = 2 := rfl
  have e1 : (1 : Int32).toInt = 1 := rfl
  have e0 : (0 : Int32).toInt = 0 := rfl
  simp only [Int32.lt_iff_toInt_lt, Int32.toNatClampNeg]
  generalize ((2 : Int32) + (k &&& 3)).toInt = z at *
  omega

theorem fl_0 : decode jdk_65_method_103_code 0 = .ok (.iconst 0, 1) := by decide +kernel
theorem fl_1 : decode jdk_65_method_103_code 1 = .ok (.istore_n 2, 1) := by decide +kernel
theorem fl_2 : decode jdk_65_method_103_code 2 = .ok (.aload_n 0, 1) := by decide +kernel
theorem fl_3 : decode jdk_65_method_103_code 3 = .ok (.arraylength, 1) := by decide +kernel
theorem fl_4 : decode jdk_65_method_103_code 4 = .ok (.istore_n 3, 1) := by decide +kernel
theorem fl_5 : decode jdk_65_method_103_code 5 = .ok (.iload_n 2, 1) := by decide +kernel
theorem fl_6 : decode jdk_65_method_103_code 6 = .ok (.iload_n 3, 1) := by decide +kernel
theorem fl_7 : decode jdk_65_method_103_code 7 = .ok (.if_icmp .ge 13, 3) := by decide +kernel
theorem fl_10 : decode jdk_65_method_103_code 10 = .ok (.aload_n 0, 1) := by decide +kernel
theorem fl_11 : decode jdk_65_method_103_code 11 = .ok (.iload_n 2, 1) := by decide +kernel
theorem fl_12 : decode jdk_65_method_103_code 12 = .ok (.iload_n 1, 1) := by decide +kernel
theorem fl_13 : decode jdk_65_method_103_code 13 = .ok (.iastore, 1) := by decide +kernel
theorem fl_14 : decode jdk_65_method_103_code 14 = .ok (.iinc 2 1, 3) := by decide +kernel
theorem fl_17 : decode jdk_65_method_103_code 17 = .ok (.goto (-12), 3) := by decide +kernel
theorem fl_20 : decode jdk_65_method_103_code 20 = .ok (.return_, 1) := by decide +kernel
theorem own_succ {i n : Int32} (h0 : ¬ i < 0) (h : i < n) : ¬ (i + 1) < 0 ∧ (i + 1).toNatClampNeg = i.toNatClampNeg + 1 := by
  have q1 := c_iadd i 1
  have q2 := (i + 1).le_toInt
  have q3 := (i + 1).toInt_lt
  have q4 := n.toInt_lt
  have e1 : (1 : Int32).toInt = 1 := rfl
  have e0 : (0 : Int32).toInt = 0 := rfl
  rw [Int32.lt_iff_toInt_lt] at h0 h
  refine ⟨?_, ?_⟩
  · rw [Int32.lt_iff_toInt_lt]; omega
  · simp only [Int32.toNatClampNeg]; omega
theorem own_ltn {i n : Int32} (h0 : ¬ i < 0) (hn : ¬ n < 0) : i < n ↔ i.toNatClampNeg < n.toNatClampNeg := by
  have e0 : (0 : Int32).toInt = 0 := rfl
  rw [Int32.lt_iff_toInt_lt] at h0 hn ⊢
  simp only [Int32.toNatClampNeg]; omega
theorem own_eqn {i n : Int32} (h0 : ¬ i < 0) (hn : ¬ n < 0) (h : i.toNatClampNeg = n.toNatClampNeg) : i = n := by
  have e0 : (0 : Int32).toInt = 0 := rfl
  apply Int32.toInt_inj.mp
  rw [Int32.lt_iff_toInt_lt] at h0 hn
  simp only [Int32.toNatClampNeg] at h; omega
set_option maxRecDepth 65536 in
set_option maxHeartbeats 40000000 in
theorem fill_loop {p : Program} {l : Launch} {e : Env} {R : Room} {s : State} {m : MethodId} {args : Array Value} {below : List Frame} {meth : Method} {c : Code} {cells slots : Nat} {Z : State} (hx : p.tables.exec = Jvm.exec) (hZ : Z.Warmed39 s.vm) (hby : c.code = jdk_65_method_103_code) (a : Addr) (v n : Int32) (kk : ClassId) (n0 : Nat) (hn : ¬ n < 0) (G0 : n0 ≤ a) :
    ∀ (k : Nat) (i : Int32) (T : State) (h : Heap) (locs : List Loc) (cell : Cell), Stand p l e R s m args below meth c T locs cells slots → T.heap = h → Arr Z h a cell .int → cell.cls = kk → cell.slots.size = n.toNatClampNeg → ¬ i < 0 → i.toNatClampNeg + k = n.toNatClampNeg → (∀ j, j < i.toNatClampNeg → cell.slots[j]? = some (.int v)) → Fr n0 locs →
    ∃ (T' : State) (h' : Heap) (locs' : List Loc), Stand p l e R s m args below meth c T' locs' cells slots ∧ T'.heap = h' ∧ Keep h h' [a] ∧ Fr n0 locs' ∧ Arv Z h' a kk .int n [] (.int v) ∧ ∀ t, Steps p.tables e below (T'.setTop (mkF m 20 #[rv a, iv v, iv n, iv n] [])) t → Steps p.tables e below (T.setTop (mkF m 5 #[rv a, iv v, iv i, iv n] [])) t := by
  intro k
  induction k with
  | zero =>
    intro i T h locs cell X eT A q1 q2 hi hk hv N
    have ei : i = n := own_eqn hi hn (by omega)
    subst ei
    refine ⟨T, h, locs, X, eT, Keep.refl _ _, N, ⟨cell, A, q1, q2, hn, fun j hj => ?_, fun _ _ => rfl⟩, fun t kt => ?_⟩
    · exact (hv j (by omega)).trans rfl
    · refine y_iloadN X.here hx (hb hby fl_5) rfl (pc' := 6) rfl ?_
      refine y_iloadN X.here hx (hb hby fl_6) rfl (pc' := 7) rfl ?_
      refine y_icmpYes X.here hx (hb hby fl_7) (flt (fun q => absurd (Int32.lt_iff_toInt_lt.mp q) (Int.lt_irrefl _))).2.1 (pc' := 20) (by decide) rfl ?_
      exact kt
  | succ k ih =>
    intro i T h locs cell X eT A q1 q2 hi hk hv N
    have hlt : i < n := (own_ltn hi hn).mpr (by omega)
    obtain ⟨hi', hi2⟩ := own_succ hi hlt
    have hin : ¬ (i < 0 ∨ cell.slots.size ≤ i.toNatClampNeg) := inb_of q2 ⟨hi, hlt⟩
    obtain ⟨T1, h1, X1, e1, W1, st1⟩ := stI X hx hZ eT A (j := i) (x := v) hin (g := (mkF m 13 #[rv a, iv v, iv i, iv n] [.int v, .int i, .ref a])) rfl rfl (hb hby fl_13)
    obtain ⟨T', h', locs', X', e', K', N', V', st'⟩ := ih (i + 1) T1 h1 _ (cell.setSlot i.toNatClampNeg (.int v)) X1 e1 (A.same W1) q1 (by rw [sz_set]; exact q2) hi' (by omega) (fun j hj => by
      by_cases hji : j = i.toNatClampNeg
      · subst hji; exact get_hit hin rfl
      · show (cell.slots.setIfInBounds i.toNatClampNeg (.int v))[j]? = _
        rw [Array.getElem?_setIfInBounds_ne (Ne.symm hji)]; exact hv j (by omega)) (Fr.snoc X1 N G0)
    refine ⟨T', h', locs', X', e', (Keep.of_wr W1).trans K' (fun x hx => Or.inl hx), N', V', fun t kt => ?_⟩
    refine y_iloadN X.here hx (hb hby fl_5) rfl (pc' := 6) rfl ?_
    refine y_iloadN X.here hx (hb hby fl_6) rfl (pc' := 7) rfl ?_
    refine y_icmpNo X.here hx (hb hby fl_7) (tlt hlt).2.1 (pc' := 10) rfl ?_
    refine y_aloadN X.here hx (hb hby fl_10) rfl rfl (pc' := 11) rfl ?_
    refine y_iloadN X.here hx (hb hby fl_11) rfl (pc' := 12) rfl ?_
    refine y_iloadN X.here hx (hb hby fl_12) rfl (pc' := 13) rfl ?_
    refine st1 _ ?_
    show Steps p.tables e below (T1.setTop (mkF m 14 #[rv a, iv v, iv i, iv n] [])) _
    refine y_iinc X1.here hx (hb hby fl_14) rfl (l' := #[rv a, iv v, iv (i + 1), iv n]) rfl (pc' := 17) rfl ?_
    refine y_goto X1.here hx (hb hby fl_17) (pc' := 5) (by decide) rfl ?_
    exact st' t kt
theorem pn_fill : plainName "java/util/Arrays" = true := by first | (simp [plainName, overriddenIn]; done) | decide +kernel
theorem ef_fill (m : MethodId) (x0 : Addr) (x1 : Int32) : entryFrame m #[(.ref x0), (.int x1)] 4 = mkF m 0 #[rv x0, iv x1, .unset, .unset] [] := by first | (simp [entryFrame, mkF, argsToLocals, Value.category]; done) | rfl
def QF (Z : State) (pr0 : Addr) (pi1 n : Int32) (kk : ClassId) (h0 : Heap) (n0 : Nat) (v : Option Value) (h : Heap) (L : List Loc) : Prop := v = none ∧ Fr n0 L ∧ Keep h0 h [pr0] ∧ Arv Z h pr0 kk .int n [] (.int pi1)
set_option maxRecDepth 65536 in
set_option maxHeartbeats 40000000 in
theorem rmF (l : Launch) (Z : State) (a0 : Array Value) (hw : ∀ d ∈ tables_1, d.before a0 Z = true) (ws : List Jvm.Cond) (pr0 : Addr) (pi1 n : Int32) (kk : ClassId) (h0 : Heap) (n0 : Nat) (O0 : Old Z n0 h0) (V0 : Arv Z h0 pr0 kk .int n [] (.int (0 : Int32))) (G0 : n0 ≤ pr0) :
    MetFree l (⟨"java/util/Arrays", "fill", "([II)V"⟩ : MethodName) (head1 (Jvm.Cond.code (⟨"java/util/Arrays", "fill", "([II)V"⟩ : MethodName) jdk_65_method_103_code 4 none :: ws) ({ frames := 0, cells := 0, slots := 0, locals := 0 } : Room)) (fun a U => a = #[(.ref pr0), (.int pi1)] ∧ Z.Warmed39 U.vm ∧ U.heap = h0) (fun _ _ _ _ _ => True) (fun _ U o U' => ∃ v L, o = .returned v ∧ QF Z pr0 pi1 n kk h0 n0 v U'.heap L ∧ FrameEnd U o U' L ({ frames := 0, cells := 0, slots := 0, locals := 0 } : Room).cells ({ frames := 0, cells := 0, slots := 0, locals := 0 } : Room).slots) := by
  refine MetFree.of_bodySF (plainFor_of_name pn_fill) hisR ?_
  intro p e s m args below meth c s₁ Bd hml0 hP hK
  obtain ⟨rfl, hZ, hh⟩ := hP
  have hx := Bd.exec
  have hby := Bd.bytes
  have hml : c.maxLocals = 4 := hml0
  have X0 : Stand p l e ({ frames := 0, cells := 0, slots := 0, locals := 0 } : Room) s m #[(.ref pr0), (.int pi1)] below meth c s₁ [] 0 0 := Stand.of_body Bd
  have e0 : s₁.heap = h0 := by rw [← hh, Bd.state]; rfl
  obtain ⟨cell, A, q1, q2, hn, H, G⟩ := V0
  obtain ⟨T', h', locs', X', e', K', N', V', st'⟩ := fill_loop (R := ({ frames := 0, cells := 0, slots := 0, locals := 0 } : Room)) hx hZ hby pr0 pi1 n kk n0 hn G0 n.toNatClampNeg 0 s₁ h0 [] cell X0 e0 A q1 q2 (by decide) (by show 0 + _ = _; omega) (fun j hj => absurd hj (Nat.not_lt_zero _)) (Fr.nil n0)
  obtain ⟨fs, hr, hrun, hended, hW, hsame⟩ := X'.leave (v := none) (fun _ => rfl)
  refine ⟨_, _, castTop (ef_fill m pr0 pi1) ?_, hrun, hended, _, _, rfl, ?_, ⟨_, rfl⟩, hW, hsame.mono (by decide) (by decide)⟩
  · refine y_iconst X0.here hx (hb hby fl_0) (v := (0 : Int32)) rfl (pc' := 1) rfl ?_
    refine y_istoreN X0.here hx (hb hby fl_1) (l' := #[rv pr0, iv pi1, iv (0 : Int32), .unset]) rfl (pc' := 2) rfl ?_
    refine y_aloadN X0.here hx (hb hby fl_2) rfl rfl (pc' := 3) rfl ?_
    refine X0.arraylength hx (by rw [e0]; exact A.1) (State.isArrayOf_alike hZ.alike A.2.1) (g := (mkF m 3 #[rv pr0, iv pi1, iv (0 : Int32), .unset] [.ref pr0])) rfl rfl (hb hby fl_3) _ ?_
    rw [len_of q2 hn]
    show Steps p.tables e below (s₁.setTop (mkF m 4 #[rv pr0, iv pi1, iv (0 : Int32), .unset] [.int n])) _
    refine y_istoreN X0.here hx (hb hby fl_4) (l' := #[rv pr0, iv pi1, iv (0 : Int32), iv n]) rfl (pc' := 5) rfl ?_
    refine st' _ ?_
    exact X'.returnOut hx Bd.returns (hb hby fl_20) hr
  · show QF Z pr0 pi1 n kk h0 n0 _ T'.heap _
    rw [e']
    exact ⟨rfl, N', K', V'⟩

theorem d1_0 : decode prog_17_method_1_code 0 = .ok (.aload_n 0, 1) := by decide +kernel
theorem d1_1 : decode prog_17_method_1_code 1 = .ok (.invokespecial 1, 3) := by decide +kernel
theorem d1_4 : decode prog_17_method_1_code 4 = .ok (.aload_n 0, 1) := by decide +kernel
theorem d1_5 : decode prog_17_method_1_code 5 = .ok (.iload_n 1, 1) := by decide +kernel
theorem d1_6 : decode prog_17_method_1_code 6 = .ok (.newarray .int, 2) := by decide +kernel
theorem d1_8 : decode prog_17_method_1_code 8 = .ok (.putfield 7, 3) := by decide +kernel
theorem d1_11 : decode prog_17_method_1_code 11 = .ok (.aload_n 0, 1) := by decide +kernel
theorem d1_12 : decode prog_17_method_1_code 12 = .ok (.getfield 7, 3) := by decide +kernel
theorem d1_15 : decode prog_17_method_1_code 15 = .ok (.iconst (-1), 1) := by decide +kernel
theorem d1_16 : decode prog_17_method_1_code 16 = .ok (.invokestatic 13, 3) := by decide +kernel
theorem d1_19 : decode prog_17_method_1_code 19 = .ok (.aload_n 0, 1) := by decide +kernel
theorem d1_20 : decode prog_17_method_1_code 20 = .ok (.iload_n 1, 1) := by decide +kernel
theorem d1_21 : decode prog_17_method_1_code 21 = .ok (.anewarray 19, 3) := by decide +kernel
theorem d1_24 : decode prog_17_method_1_code 24 = .ok (.putfield 21, 3) := by decide +kernel
theorem d1_27 : decode prog_17_method_1_code 27 = .ok (.aload_n 0, 1) := by decide +kernel
theorem d1_28 : decode prog_17_method_1_code 28 = .ok (.iload_n 1, 1) := by decide +kernel
theorem d1_29 : decode prog_17_method_1_code 29 = .ok (.newarray .int, 2) := by decide +kernel
theorem d1_31 : decode prog_17_method_1_code 31 = .ok (.putfield 25, 3) := by decide +kernel
theorem d1_34 : decode prog_17_method_1_code 34 = .ok (.aload_n 0, 1) := by decide +kernel
theorem d1_35 : decode prog_17_method_1_code 35 = .ok (.iload_n 1, 1) := by decide +kernel
theorem d1_36 : decode prog_17_method_1_code 36 = .ok (.newarray .int, 2) := by decide +kernel
theorem d1_38 : decode prog_17_method_1_code 38 = .ok (.putfield 28, 3) := by decide +kernel
theorem d1_41 : decode prog_17_method_1_code 41 = .ok (.aload_n 0, 1) := by decide +kernel
theorem d1_42 : decode prog_17_method_1_code 42 = .ok (.iload_n 1, 1) := by decide +kernel
theorem d1_43 : decode prog_17_method_1_code 43 = .ok (.newarray .boolean, 2) := by decide +kernel
theorem d1_45 : decode prog_17_method_1_code 45 = .ok (.putfield 31, 3) := by decide +kernel
theorem d1_48 : decode prog_17_method_1_code 48 = .ok (.aload_n 0, 1) := by decide +kernel
theorem d1_49 : decode prog_17_method_1_code 49 = .ok (.iload_n 1, 1) := by decide +kernel
theorem d1_50 : decode prog_17_method_1_code 50 = .ok (.newarray .int, 2) := by decide +kernel
theorem d1_52 : decode prog_17_method_1_code 52 = .ok (.putfield 35, 3) := by decide +kernel
theorem d1_55 : decode prog_17_method_1_code 55 = .ok (.return_, 1) := by decide +kernel
theorem pn_com_example_stonegaze_stonegaze_Groups : plainName "com/example/stonegaze/stonegaze/Groups" = true := by first | (simp [plainName, overriddenIn]; done) | decide +kernel
theorem pd___II_V : parseMethodDescriptor "([II)V" = some ⟨[(.array .int), .int], none⟩ := by decide +kernel
theorem ef_1 (m : MethodId) (x0 : Addr) (x1 : Int32) : entryFrame m #[(.ref x0), (.int x1)] 2 = mkF m 0 #[rv x0, iv x1] [] := by first | (simp [entryFrame, mkF, argsToLocals, Value.category]; done) | rfl
def Q1 (Z : State) (pr0 : Addr) (pi1 : Int32) (h0 : Heap) (n0 : Nat) (v : Option Value) (h : Heap) (L : List Loc) : Prop := ∃ (z_groupOf z_colours z_stones z_liberties z_ringed z_aLiberty : Addr) (k_groupOf k_colours k_stones k_liberties k_ringed k_aLiberty : ClassId), v = none ∧ Fr n0 L ∧ Keep h0 h [pr0] ∧ Fld Z h pr0 "com/example/stonegaze/stonegaze/Groups" "groupOf" "[I" (.ref z_groupOf) ∧ Fld Z h pr0 "com/example/stonegaze/stonegaze/Groups" "colours" "[Lcom/example/stonegaze/stonegaze/Side;" (.ref z_colours) ∧ Fld Z h pr0 "com/example/stonegaze/stonegaze/Groups" "stones" "[I" (.ref z_stones) ∧ Fld Z h pr0 "com/example/stonegaze/stonegaze/Groups" "liberties" "[I" (.ref z_liberties) ∧ Fld Z h pr0 "com/example/stonegaze/stonegaze/Groups" "ringed" "[Z" (.ref z_ringed) ∧ Fld Z h pr0 "com/example/stonegaze/stonegaze/Groups" "aLiberty" "[I" (.ref z_aLiberty) ∧ Fld Z h pr0 "com/example/stonegaze/stonegaze/Groups" "count" "I" (.int (0 : Int32)) ∧ Arv Z h z_groupOf k_groupOf .int pi1 [] (.int (-1 : Int32)) ∧ Arv Z h z_colours k_colours (.object "com/example/stonegaze/stonegaze/Side") pi1 [.null, .null] .null ∧ Arv Z h z_stones k_stones .int pi1 [(.int (0 : Int32)), (.int (0 : Int32))] (.int (0 : Int32)) ∧ Arv Z h z_liberties k_liberties .int pi1 [(.int (0 : Int32)), (.int (0 : Int32))] (.int (0 : Int32)) ∧ Arv Z h z_ringed k_ringed .boolean pi1 [(.int (0 : Int32)), (.int (0 : Int32))] (.int (0 : Int32)) ∧ Arv Z h z_aLiberty k_aLiberty .int pi1 [(.int (0 : Int32)), (.int (0 : Int32))] (.int (0 : Int32)) ∧ Ovr Z k_colours "com/example/stonegaze/stonegaze/Side" ∧ h0.size ≤ z_groupOf ∧ @LT.lt Nat instLTNat z_groupOf z_colours ∧ @LT.lt Nat instLTNat z_colours z_stones ∧ @LT.lt Nat instLTNat z_stones z_liberties ∧ @LT.lt Nat instLTNat z_liberties z_ringed ∧ @LT.lt Nat instLTNat z_ringed z_aLiberty
set_option maxRecDepth 65536 in
set_option maxHeartbeats 40000000 in
theorem rm1 (l : Launch) (Z : State) (a0 : Array Value) (hw : ∀ d ∈ tables_1, d.before a0 Z = true) (ws : List Jvm.Cond) (pr0 : Addr) (pi1 : Int32) (h0 : Heap) (n0 : Nat) (O0 : Old Z n0 h0) (E_pr0 : Exa Z h0 pr0 "com/example/stonegaze/stonegaze/Groups") (F_groupOf_pr0 : Fld Z h0 pr0 "com/example/stonegaze/stonegaze/Groups" "groupOf" "[I" .null) (F_colours_pr0 : Fld Z h0 pr0 "com/example/stonegaze/stonegaze/Groups" "colours" "[Lcom/example/stonegaze/stonegaze/Side;" .null) (F_stones_pr0 : Fld Z h0 pr0 "com/example/stonegaze/stonegaze/Groups" "stones" "[I" .null) (F_liberties_pr0 : Fld Z h0 pr0 "com/example/stonegaze/stonegaze/Groups" "liberties" "[I" .null) (F_ringed_pr0 : Fld Z h0 pr0 "com/example/stonegaze/stonegaze/Groups" "ringed" "[Z" .null) (F_aLiberty_pr0 : Fld Z h0 pr0 "com/example/stonegaze/stonegaze/Groups" "aLiberty" "[I" .null) (F_count_pr0 : Fld Z h0 pr0 "com/example/stonegaze/stonegaze/Groups" "count" "I" (.int (0 : Int32))) (G_pr0 : n0 ≤ pr0) (NG : ¬ pi1 < 0) (NC : pi1.toNatClampNeg ≤ 5) :
    MetFree l (⟨"com/example/stonegaze/stonegaze/Groups", "<init>", "(I)V"⟩ : MethodName) (head1 (Jvm.Cond.code (⟨"com/example/stonegaze/stonegaze/Groups", "<init>", "(I)V"⟩ : MethodName) prog_17_method_1_code 2 none :: ws) ({ frames := 1, cells := 6, slots := 30, locals := 15 } : Room)) (fun a U => a = #[(.ref pr0), (.int pi1)] ∧ Z.Warmed39 U.vm ∧ U.heap = h0) (fun _ _ _ _ _ => True) (fun _ U o U' => ∃ v L, o = .returned v ∧ Q1 Z pr0 pi1 h0 n0 v U'.heap L ∧ FrameEnd U o U' L ({ frames := 1, cells := 6, slots := 30, locals := 15 } : Room).cells ({ frames := 1, cells := 6, slots := 30, locals := 15 } : Room).slots) := by
  refine MetFree.of_bodySF (plainFor_of_name pn_com_example_stonegaze_stonegaze_Groups) hisR ?_
  intro p e s m args below meth c s₁ Bd hml0 hP hK
  obtain ⟨rfl, hZ, hh⟩ := hP
  have hx := Bd.exec
  have hby := Bd.bytes
  have hml : c.maxLocals = 2 := hml0
  have hown : s.vm.findClass "com/example/stonegaze/stonegaze/Groups" = some m.cls := findClass_of_methodNamed Bd.named
  have hnm := (name_of_methodNamed Bd.named Bd.method).1
  have X0 : Stand p l e ({ frames := 1, cells := 6, slots := 30, locals := 15 } : Room) s m #[(.ref pr0), (.int pi1)] below meth c s₁ [] 0 0 := Stand.of_body Bd
  have e0 : s₁.heap = h0 := by rw [← hh, Bd.state]; rfl
  have N0 := Fr.nil n0
  obtain ⟨Go, hGo⟩ : ∃ P : State → Prop, ∀ t, P t ↔ Steps p.tables e below (s₁.setTop (entryFrame m #[(.ref pr0), (.int pi1)] 2)) t := ⟨_, fun _ => Iff.rfl⟩
  have pre0 : ∀ t, Steps p.tables e below (s₁.setTop (mkF m 0 #[rv pr0, iv pi1] [])) t → Go t := fun t k => (hGo t).mpr (castTop (ef_1 m pr0 pi1) k)
  have K0 : Keep h0 h0 [pr0] := Keep.refl _ _
  have pre1 : ∀ t, Steps p.tables e below (s₁.setTop (mkF m 1 #[rv pr0, iv pi1] [(.ref pr0)])) t → Go t := fun t kt => pre0 t (by
      refine y_aloadN X0.here hx (hb hby d1_0) rfl rfl (pc' := 1) rfl ?_
      exact kt)
  obtain ⟨T2, X2, e2, st2⟩ := initO X0 hx hZ hown (hw _ (List.mem_of_getElem? (i := 6) rfl)) (hw _ (List.mem_of_getElem? (i := 7) rfl)) (hw _ (List.mem_of_getElem? (i := 8) rfl)) e0 (g := (mkF m 1 #[rv pr0, iv pi1] [(.ref pr0)])) rfl (by rw [hml]; rfl) rfl (hb hby d1_1) (by decide) (W := 0) (by show 2 * 0 + _ ≤ _; exact Nat.le_of_eq rfl) (by decide)
  have pre3 : ∀ t, Steps p.tables e below (T2.setTop (mkF m 4 #[rv pr0, iv pi1] [])) t → Go t := fun t kt => pre1 t (st2 t kt)
  have pre4 : ∀ t, Steps p.tables e below (T2.setTop (mkF m 6 #[rv pr0, iv pi1] [(.int pi1), (.ref pr0)])) t → Go t := fun t kt => pre3 t (by
      refine y_aloadN X2.here hx (hb hby d1_4) rfl rfl (pc' := 5) rfl ?_
      refine y_iloadN X2.here hx (hb hby d1_5) rfl (pc' := 6) rfl ?_
      exact kt)
  obtain ⟨T5, h5, k5, X5, e5, E5, A5, st5⟩ := newP X2 hx hZ (hw _ (List.mem_of_getElem? (i := 9) rfl)) e2 (g := (mkF m 6 #[rv pr0, iv pi1] [(.int pi1), (.ref pr0)])) rfl (hb hby d1_6) rfl NG (cap := 5) NC (by decide) (by decide) (by decide)
  obtain ⟨b5, g5⟩ : ∃ z, z = h0.size := ⟨_, rfl⟩
  rw [← g5] at A5 st5
  have pre6 : ∀ t, Steps p.tables e below (T5.setTop (mkF m 8 #[rv pr0, iv pi1] [(.ref b5), (.ref pr0)])) t → Go t := fun t kt => pre4 t (st5 t kt)
  have lt7 : pr0 < b5 := Nat.lt_of_lt_of_le E_pr0.lt (Nat.le_of_eq g5.symm)
  have ne7 : pr0 ≠ b5 := Nat.ne_of_lt lt7
  have G8 : n0 ≤ b5 := Nat.le_trans (O0.1 ▸ O0.2.1) (Nat.le_of_eq g5.symm)
  have Z8 : h0.size ≤ b5 := Nat.le_trans K0.1 (Nat.le_of_eq g5.symm)
  have f9 : Exa Z h5 pr0 "com/example/stonegaze/stonegaze/Groups" := (E_pr0.ext E5)
  have f10 : Fld Z h5 pr0 "com/example/stonegaze/stonegaze/Groups" "groupOf" "[I" .null := (F_groupOf_pr0.ext E5)
  have f11 : Fld Z h5 pr0 "com/example/stonegaze/stonegaze/Groups" "colours" "[Lcom/example/stonegaze/stonegaze/Side;" .null := (F_colours_pr0.ext E5)
  have f12 : Fld Z h5 pr0 "com/example/stonegaze/stonegaze/Groups" "stones" "[I" .null := (F_stones_pr0.ext E5)
  have f13 : Fld Z h5 pr0 "com/example/stonegaze/stonegaze/Groups" "liberties" "[I" .null := (F_liberties_pr0.ext E5)
  have f14 : Fld Z h5 pr0 "com/example/stonegaze/stonegaze/Groups" "ringed" "[Z" .null := (F_ringed_pr0.ext E5)
  have f15 : Fld Z h5 pr0 "com/example/stonegaze/stonegaze/Groups" "aLiberty" "[I" .null := (F_aLiberty_pr0.ext E5)
  have f16 : Fld Z h5 pr0 "com/example/stonegaze/stonegaze/Groups" "count" "I" (.int (0 : Int32)) := (F_count_pr0.ext E5)
  have O8 := O0.ext E5
  have K8 : Keep h0 h5 [pr0] := K0.ext E5
  have f17 : Arv Z h5 b5 k5 .int pi1 [] (.int (0 : Int32)) := Arv.new A5 NG
  obtain ⟨T18, h18, X18, e18, W18, st18⟩ := putF X5 hx hZ hown (host := "") (Or.inl (hw _ (List.mem_of_getElem? (i := 10) rfl))) Via.refl e5 f10 f9 (Or.inr ⟨(hw _ (List.mem_of_getElem? (i := 11) rfl)), rfl, hnm⟩) (hw _ (List.mem_of_getElem? (i := 1) rfl)) (ty := (.array .int)) (by decide) rfl rfl (g := (mkF m 8 #[rv pr0, iv pi1] [(.ref b5), (.ref pr0)])) rfl rfl (hb hby d1_8)
  have pre19 : ∀ t, Steps p.tables e below (T18.setTop (mkF m 11 #[rv pr0, iv pi1] [])) t → Go t := fun t kt => pre6 t (st18 t kt)
  have f20 : Exa Z h18 pr0 "com/example/stonegaze/stonegaze/Groups" := (f9.wr W18)
  have f22 : Fld Z h18 pr0 "com/example/stonegaze/stonegaze/Groups" "colours" "[Lcom/example/stonegaze/stonegaze/Side;" .null := (f11.other W18 (Or.inr (slot_ne (Or.inr (hw _ (List.mem_of_getElem? (i := 19) rfl))) (Or.inr (hw _ (List.mem_of_getElem? (i := 11) rfl))) (by decide) (t := (.array (.object "com/example/stonegaze/stonegaze/Side"))) (t' := (.array .int)) (by decide) (by decide))))
  have f23 : Fld Z h18 pr0 "com/example/stonegaze/stonegaze/Groups" "stones" "[I" .null := (f12.other W18 (Or.inr (slot_ne (Or.inr (hw _ (List.mem_of_getElem? (i := 21) rfl))) (Or.inr (hw _ (List.mem_of_getElem? (i := 11) rfl))) (by decide) (t := (.array .int)) (t' := (.array .int)) (by decide) (by decide))))
  have f24 : Fld Z h18 pr0 "com/example/stonegaze/stonegaze/Groups" "liberties" "[I" .null := (f13.other W18 (Or.inr (slot_ne (Or.inr (hw _ (List.mem_of_getElem? (i := 23) rfl))) (Or.inr (hw _ (List.mem_of_getElem? (i := 11) rfl))) (by decide) (t := (.array .int)) (t' := (.array .int)) (by decide) (by decide))))
  have f25 : Fld Z h18 pr0 "com/example/stonegaze/stonegaze/Groups" "ringed" "[Z" .null := (f14.other W18 (Or.inr (slot_ne (Or.inr (hw _ (List.mem_of_getElem? (i := 26) rfl))) (Or.inr (hw _ (List.mem_of_getElem? (i := 11) rfl))) (by decide) (t := (.array .boolean)) (t' := (.array .int)) (by decide) (by decide))))
  have f26 : Fld Z h18 pr0 "com/example/stonegaze/stonegaze/Groups" "aLiberty" "[I" .null := (f15.other W18 (Or.inr (slot_ne (Or.inr (hw _ (List.mem_of_getElem? (i := 28) rfl))) (Or.inr (hw _ (List.mem_of_getElem? (i := 11) rfl))) (by decide) (t := (.array .int)) (t' := (.array .int)) (by decide) (by decide))))
  have f27 : Fld Z h18 pr0 "com/example/stonegaze/stonegaze/Groups" "count" "I" (.int (0 : Int32)) := (f16.other W18 (Or.inr (slot_ne (Or.inl (hw _ (List.mem_of_getElem? (i := 38) rfl))) (Or.inr (hw _ (List.mem_of_getElem? (i := 11) rfl))) (by decide) (t := .int) (t' := (.array .int)) (by decide) (by decide))))
  have f28 : Arv Z h18 b5 k5 .int pi1 [] (.int (0 : Int32)) := (f17.other W18 (Ne.symm ne7))
  have f29 : Fld Z h18 pr0 "com/example/stonegaze/stonegaze/Groups" "groupOf" "[I" (.ref b5) := f10.same W18
  have N30 := Fr.snoc X18 N0 G_pr0
  have O30 := O8.wr W18 G_pr0
  have K30 : Keep h0 h18 [pr0] := K8.wr W18 (Or.inl (List.mem_of_getElem? (i := 0) rfl))
  have pre31 : ∀ t, Steps p.tables e below (T18.setTop (mkF m 12 #[rv pr0, iv pi1] [(.ref pr0)])) t → Go t := fun t kt => pre19 t (by
      refine y_aloadN X18.here hx (hb hby d1_11) rfl rfl (pc' := 12) rfl ?_
      exact kt)
  obtain ⟨T32, X32, e32, st32⟩ := getF X18 hx hZ hown (host := "") (Or.inl (hw _ (List.mem_of_getElem? (i := 10) rfl))) Via.refl e18 f29 (g := (mkF m 12 #[rv pr0, iv pi1] [(.ref pr0)])) rfl rfl (hb hby d1_12)
  have pre33 : ∀ t, Steps p.tables e below (T32.setTop (mkF m 15 #[rv pr0, iv pi1] [(.ref b5)])) t → Go t := fun t kt => pre31 t (st32 t kt)
  have pre34 : ∀ t, Steps p.tables e below (T32.setTop (mkF m 16 #[rv pr0, iv pi1] [(.int (-1 : Int32)), (.ref b5)])) t → Go t := fun t kt => pre33 t (by
      refine y_iconst X32.here hx (hb hby d1_15) (v := (-1 : Int32)) rfl (pc' := 16) rfl ?_
      exact kt)
  obtain ⟨v35, _, ⟨T35, L35, k35, n35⟩, -, X35, ⟨Lc35, hQ35, l35, y35, z35⟩, st35⟩ := Jvm.LawKit.callS X32 hx (y := (⟨"java/util/Arrays", "fill", "([II)V"⟩ : MethodName)) hown (mvT hZ (hw _ (List.mem_of_getElem? (i := 12) rfl))) (mvT hZ (hw _ (List.mem_of_getElem? (i := 13) rfl))) (mvT hZ (hw _ (List.mem_of_getElem? (i := 14) rfl))) (mvT hZ (hw _ (List.mem_of_getElem? (i := 15) rfl))) (by decide) (backOf (W := 0) (rmF l Z a0 hw [] b5 (-1 : Int32) pi1 k5 h18 n0 O30 f28 G8) hZ (hw _ (List.mem_of_getElem? (i := 15) rfl)) (hw _ (List.mem_of_getElem? (i := 14) rfl)) (by decide) (by decide)) (g := (mkF m 16 #[rv pr0, iv pi1] [(.int (-1 : Int32)), (.ref b5)])) rfl (by rw [hml]; rfl) (argsL := [(.ref b5), (.int (-1 : Int32))]) (rest := []) (lenOf pd___II_V rfl) rfl (by show 2 * 0 + _ ≤ _; exact Nat.le_of_eq rfl) (hb hby d1_16) (fun _ _ => ⟨rfl, e32, (by decide : 1 + 0 ≤ _), (by decide : 5 + 0 ≤ _)⟩)
  dsimp only [Pt.U, Pt.locs, Pt.cells, Pt.slots] at X35 l35 y35 z35 st35 hQ35
  subst l35 y35 z35
  obtain ⟨hv35, N35q, K35q, p35_0⟩ := hQ35
  have N36 := Fr.app N30 N35q
  subst hv35
  have pre37 : ∀ t, Steps p.tables e below (T35.setTop (mkF m 19 #[rv pr0, iv pi1] [])) t → Go t := fun t kt => pre34 t (st35 t kt)
  obtain ⟨h35, eh35⟩ : ∃ z, T35.heap = z := ⟨_, rfl⟩
  rw [eh35] at K35q p35_0
  have f38 : Exa Z h35 pr0 "com/example/stonegaze/stonegaze/Groups" := (f20.keep K35q)
  have f39 : Fld Z h35 pr0 "com/example/stonegaze/stonegaze/Groups" "colours" "[Lcom/example/stonegaze/stonegaze/Side;" .null := (f22.keep K35q (ninS ne7 nin0))
  have f40 : Fld Z h35 pr0 "com/example/stonegaze/stonegaze/Groups" "stones" "[I" .null := (f23.keep K35q (ninS ne7 nin0))
  have f41 : Fld Z h35 pr0 "com/example/stonegaze/stonegaze/Groups" "liberties" "[I" .null := (f24.keep K35q (ninS ne7 nin0))
  have f42 : Fld Z h35 pr0 "com/example/stonegaze/stonegaze/Groups" "ringed" "[Z" .null := (f25.keep K35q (ninS ne7 nin0))
  have f43 : Fld Z h35 pr0 "com/example/stonegaze/stonegaze/Groups" "aLiberty" "[I" .null := (f26.keep K35q (ninS ne7 nin0))
  have f44 : Fld Z h35 pr0 "com/example/stonegaze/stonegaze/Groups" "count" "I" (.int (0 : Int32)) := (f27.keep K35q (ninS ne7 nin0))
  have f46 : Fld Z h35 pr0 "com/example/stonegaze/stonegaze/Groups" "groupOf" "[I" (.ref b5) := (f29.keep K35q (ninS ne7 nin0))
  have O47 := O30.keep K35q (allS G8 all0)
  have K47 : Keep h0 h35 [pr0] := K30.trans K35q (allS (P := fun x => x ∈ [pr0] ∨ h0.size ≤ x) (Or.inr Z8) all0)
  have pre48 : ∀ t, Steps p.tables e below (T35.setTop (mkF m 21 #[rv pr0, iv pi1] [(.int pi1), (.ref pr0)])) t → Go t := fun t kt => pre37 t (by
      refine y_aloadN X35.here hx (hb hby d1_19) rfl rfl (pc' := 20) rfl ?_
      refine y_iloadN X35.here hx (hb hby d1_20) rfl (pc' := 21) rfl ?_
      exact kt)
  obtain ⟨T49, h49, k49, X49, e49, E49, A49, V49, st49⟩ := newR X35 hx hZ hown (hw _ (List.mem_of_getElem? (i := 16) rfl)) (hw _ (List.mem_of_getElem? (i := 17) rfl)) eh35 (g := (mkF m 21 #[rv pr0, iv pi1] [(.int pi1), (.ref pr0)])) rfl (hb hby d1_21) rfl NG (cap := 5) NC (by decide) (by decide) (by decide)
  obtain ⟨b49, g49⟩ : ∃ z, z = h35.size := ⟨_, rfl⟩
  rw [← g49] at A49 st49
  have pre50 : ∀ t, Steps p.tables e below (T49.setTop (mkF m 24 #[rv pr0, iv pi1] [(.ref b49), (.ref pr0)])) t → Go t := fun t kt => pre48 t (st49 t kt)
  have lt51 : pr0 < b49 := Nat.lt_of_lt_of_le f38.lt (Nat.le_of_eq g49.symm)
  have ne51 : pr0 ≠ b49 := Nat.ne_of_lt lt51
  have lt52 : b5 < b49 := Nat.lt_of_lt_of_le p35_0.lt (Nat.le_of_eq g49.symm)
  have ne52 : b5 ≠ b49 := Nat.ne_of_lt lt52
  have G53 : n0 ≤ b49 := Nat.le_trans (O47.1 ▸ O47.2.1) (Nat.le_of_eq g49.symm)
  have Z53 : h0.size ≤ b49 := Nat.le_trans K47.1 (Nat.le_of_eq g49.symm)
  have f54 : Exa Z h49 pr0 "com/example/stonegaze/stonegaze/Groups" := (f38.ext E49)
  have f55 : Fld Z h49 pr0 "com/example/stonegaze/stonegaze/Groups" "colours" "[Lcom/example/stonegaze/stonegaze/Side;" .null := (f39.ext E49)
  have f56 : Fld Z h49 pr0 "com/example/stonegaze/stonegaze/Groups" "stones" "[I" .null := (f40.ext E49)
  have f57 : Fld Z h49 pr0 "com/example/stonegaze/stonegaze/Groups" "liberties" "[I" .null := (f41.ext E49)
  have f58 : Fld Z h49 pr0 "com/example/stonegaze/stonegaze/Groups" "ringed" "[Z" .null := (f42.ext E49)
  have f59 : Fld Z h49 pr0 "com/example/stonegaze/stonegaze/Groups" "aLiberty" "[I" .null := (f43.ext E49)
  have f60 : Fld Z h49 pr0 "com/example/stonegaze/stonegaze/Groups" "count" "I" (.int (0 : Int32)) := (f44.ext E49)
  have f61 : Fld Z h49 pr0 "com/example/stonegaze/stonegaze/Groups" "groupOf" "[I" (.ref b5) := (f46.ext E49)
  have f62 : Arv Z h49 b5 k5 .int pi1 [] (.int (-1 : Int32)) := (p35_0.ext E49)
  have O53 := O47.ext E49
  have K53 : Keep h0 h49 [pr0] := K47.ext E49
  have f63 : Arv Z h49 b49 k49 (.object "com/example/stonegaze/stonegaze/Side") pi1 [.null, .null] .null := (Arv.new A49 NG).pad (pad_rep [] .null 2)
  obtain ⟨T64, h64, X64, e64, W64, st64⟩ := putF X49 hx hZ hown (host := "") (Or.inl (hw _ (List.mem_of_getElem? (i := 18) rfl))) Via.refl e49 f55 f54 (Or.inr ⟨(hw _ (List.mem_of_getElem? (i := 19) rfl)), rfl, hnm⟩) (hw _ (List.mem_of_getElem? (i := 1) rfl)) (ty := (.array (.object "com/example/stonegaze/stonegaze/Side"))) (by decide) rfl rfl (g := (mkF m 24 #[rv pr0, iv pi1] [(.ref b49), (.ref pr0)])) rfl rfl (hb hby d1_24)
  have pre65 : ∀ t, Steps p.tables e below (T64.setTop (mkF m 27 #[rv pr0, iv pi1] [])) t → Go t := fun t kt => pre50 t (st64 t kt)
  have f66 : Exa Z h64 pr0 "com/example/stonegaze/stonegaze/Groups" := (f54.wr W64)
  have f68 : Fld Z h64 pr0 "com/example/stonegaze/stonegaze/Groups" "stones" "[I" .null := (f56.other W64 (Or.inr (slot_ne (Or.inr (hw _ (List.mem_of_getElem? (i := 21) rfl))) (Or.inr (hw _ (List.mem_of_getElem? (i := 19) rfl))) (by decide) (t := (.array .int)) (t' := (.array (.object "com/example/stonegaze/stonegaze/Side"))) (by decide) (by decide))))
  have f69 : Fld Z h64 pr0 "com/example/stonegaze/stonegaze/Groups" "liberties" "[I" .null := (f57.other W64 (Or.inr (slot_ne (Or.inr (hw _ (List.mem_of_getElem? (i := 23) rfl))) (Or.inr (hw _ (List.mem_of_getElem? (i := 19) rfl))) (by decide) (t := (.array .int)) (t' := (.array (.object "com/example/stonegaze/stonegaze/Side"))) (by decide) (by decide))))
  have f70 : Fld Z h64 pr0 "com/example/stonegaze/stonegaze/Groups" "ringed" "[Z" .null := (f58.other W64 (Or.inr (slot_ne (Or.inr (hw _ (List.mem_of_getElem? (i := 26) rfl))) (Or.inr (hw _ (List.mem_of_getElem? (i := 19) rfl))) (by decide) (t := (.array .boolean)) (t' := (.array (.object "com/example/stonegaze/stonegaze/Side"))) (by decide) (by decide))))
  have f71 : Fld Z h64 pr0 "com/example/stonegaze/stonegaze/Groups" "aLiberty" "[I" .null := (f59.other W64 (Or.inr (slot_ne (Or.inr (hw _ (List.mem_of_getElem? (i := 28) rfl))) (Or.inr (hw _ (List.mem_of_getElem? (i := 19) rfl))) (by decide) (t := (.array .int)) (t' := (.array (.object "com/example/stonegaze/stonegaze/Side"))) (by decide) (by decide))))
  have f72 : Fld Z h64 pr0 "com/example/stonegaze/stonegaze/Groups" "count" "I" (.int (0 : Int32)) := (f60.other W64 (Or.inr (slot_ne (Or.inl (hw _ (List.mem_of_getElem? (i := 38) rfl))) (Or.inr (hw _ (List.mem_of_getElem? (i := 19) rfl))) (by decide) (t := .int) (t' := (.array (.object "com/example/stonegaze/stonegaze/Side"))) (by decide) (by decide))))
  have f73 : Fld Z h64 pr0 "com/example/stonegaze/stonegaze/Groups" "groupOf" "[I" (.ref b5) := (f61.other W64 (Or.inr (slot_ne (Or.inr (hw _ (List.mem_of_getElem? (i := 11) rfl))) (Or.inr (hw _ (List.mem_of_getElem? (i := 19) rfl))) (by decide) (t := (.array .int)) (t' := (.array (.object "com/example/stonegaze/stonegaze/Side"))) (by decide) (by decide))))
  have f74 : Arv Z h64 b5 k5 .int pi1 [] (.int (-1 : Int32)) := (f62.other W64 (Ne.symm ne7))
  have f75 : Arv Z h64 b49 k49 (.object "com/example/stonegaze/stonegaze/Side") pi1 [.null, .null] .null := (f63.other W64 (Ne.symm ne51))
  have f76 : Fld Z h64 pr0 "com/example/stonegaze/stonegaze/Groups" "colours" "[Lcom/example/stonegaze/stonegaze/Side;" (.ref b49) := f55.same W64
  have N77 := Fr.snoc X64 N36 G_pr0
  have O77 := O53.wr W64 G_pr0
  have K77 : Keep h0 h64 [pr0] := K53.wr W64 (Or.inl (List.mem_of_getElem? (i := 0) rfl))
  have pre78 : ∀ t, Steps p.tables e below (T64.setTop (mkF m 29 #[rv pr0, iv pi1] [(.int pi1), (.ref pr0)])) t → Go t := fun t kt => pre65 t (by
      refine y_aloadN X64.here hx (hb hby d1_27) rfl rfl (pc' := 28) rfl ?_
      refine y_iloadN X64.here hx (hb hby d1_28) rfl (pc' := 29) rfl ?_
      exact kt)
  obtain ⟨T79, h79, k79, X79, e79, E79, A79, st79⟩ := newP X64 hx hZ (hw _ (List.mem_of_getElem? (i := 9) rfl)) e64 (g := (mkF m 29 #[rv pr0, iv pi1] [(.int pi1), (.ref pr0)])) rfl (hb hby d1_29) rfl NG (cap := 5) NC (by decide) (by decide) (by decide)
  obtain ⟨b79, g79⟩ : ∃ z, z = h64.size := ⟨_, rfl⟩
  rw [← g79] at A79 st79
  have pre80 : ∀ t, Steps p.tables e below (T79.setTop (mkF m 31 #[rv pr0, iv pi1] [(.ref b79), (.ref pr0)])) t → Go t := fun t kt => pre78 t (st79 t kt)
  have lt81 : pr0 < b79 := Nat.lt_of_lt_of_le f66.lt (Nat.le_of_eq g79.symm)
  have ne81 : pr0 ≠ b79 := Nat.ne_of_lt lt81
  have lt82 : b5 < b79 := Nat.lt_of_lt_of_le f74.lt (Nat.le_of_eq g79.symm)
  have ne82 : b5 ≠ b79 := Nat.ne_of_lt lt82
  have lt83 : b49 < b79 := Nat.lt_of_lt_of_le f75.lt (Nat.le_of_eq g79.symm)
  have ne83 : b49 ≠ b79 := Nat.ne_of_lt lt83
  have G84 : n0 ≤ b79 := Nat.le_trans (O77.1 ▸ O77.2.1) (Nat.le_of_eq g79.symm)
  have Z84 : h0.size ≤ b79 := Nat.le_trans K77.1 (Nat.le_of_eq g79.symm)
  have f85 : Exa Z h79 pr0 "com/example/stonegaze/stonegaze/Groups" := (f66.ext E79)
  have f86 : Fld Z h79 pr0 "com/example/stonegaze/stonegaze/Groups" "stones" "[I" .null := (f68.ext E79)
  have f87 : Fld Z h79 pr0 "com/example/stonegaze/stonegaze/Groups" "liberties" "[I" .null := (f69.ext E79)
  have f88 : Fld Z h79 pr0 "com/example/stonegaze/stonegaze/Groups" "ringed" "[Z" .null := (f70.ext E79)
  have f89 : Fld Z h79 pr0 "com/example/stonegaze/stonegaze/Groups" "aLiberty" "[I" .null := (f71.ext E79)
  have f90 : Fld Z h79 pr0 "com/example/stonegaze/stonegaze/Groups" "count" "I" (.int (0 : Int32)) := (f72.ext E79)
  have f91 : Fld Z h79 pr0 "com/example/stonegaze/stonegaze/Groups" "groupOf" "[I" (.ref b5) := (f73.ext E79)
  have f92 : Arv Z h79 b5 k5 .int pi1 [] (.int (-1 : Int32)) := (f74.ext E79)
  have f93 : Arv Z h79 b49 k49 (.object "com/example/stonegaze/stonegaze/Side") pi1 [.null, .null] .null := (f75.ext E79)
  have f94 : Fld Z h79 pr0 "com/example/stonegaze/stonegaze/Groups" "colours" "[Lcom/example/stonegaze/stonegaze/Side;" (.ref b49) := (f76.ext E79)
  have O84 := O77.ext E79
  have K84 : Keep h0 h79 [pr0] := K77.ext E79
  have f95 : Arv Z h79 b79 k79 .int pi1 [(.int (0 : Int32)), (.int (0 : Int32))] (.int (0 : Int32)) := (Arv.new A79 NG).pad (pad_rep [] (.int (0 : Int32)) 2)
  obtain ⟨T96, h96, X96, e96, W96, st96⟩ := putF X79 hx hZ hown (host := "") (Or.inl (hw _ (List.mem_of_getElem? (i := 20) rfl))) Via.refl e79 f86 f85 (Or.inr ⟨(hw _ (List.mem_of_getElem? (i := 21) rfl)), rfl, hnm⟩) (hw _ (List.mem_of_getElem? (i := 1) rfl)) (ty := (.array .int)) (by decide) rfl rfl (g := (mkF m 31 #[rv pr0, iv pi1] [(.ref b79), (.ref pr0)])) rfl rfl (hb hby d1_31)
  have pre97 : ∀ t, Steps p.tables e below (T96.setTop (mkF m 34 #[rv pr0, iv pi1] [])) t → Go t := fun t kt => pre80 t (st96 t kt)
  have f98 : Exa Z h96 pr0 "com/example/stonegaze/stonegaze/Groups" := (f85.wr W96)
  have f100 : Fld Z h96 pr0 "com/example/stonegaze/stonegaze/Groups" "liberties" "[I" .null := (f87.other W96 (Or.inr (slot_ne (Or.inr (hw _ (List.mem_of_getElem? (i := 23) rfl))) (Or.inr (hw _ (List.mem_of_getElem? (i := 21) rfl))) (by decide) (t := (.array .int)) (t' := (.array .int)) (by decide) (by decide))))
  have f101 : Fld Z h96 pr0 "com/example/stonegaze/stonegaze/Groups" "ringed" "[Z" .null := (f88.other W96 (Or.inr (slot_ne (Or.inr (hw _ (List.mem_of_getElem? (i := 26) rfl))) (Or.inr (hw _ (List.mem_of_getElem? (i := 21) rfl))) (by decide) (t := (.array .boolean)) (t' := (.array .int)) (by decide) (by decide))))
  have f102 : Fld Z h96 pr0 "com/example/stonegaze/stonegaze/Groups" "aLiberty" "[I" .null := (f89.other W96 (Or.inr (slot_ne (Or.inr (hw _ (List.mem_of_getElem? (i := 28) rfl))) (Or.inr (hw _ (List.mem_of_getElem? (i := 21) rfl))) (by decide) (t := (.array .int)) (t' := (.array .int)) (by decide) (by decide))))
  have f103 : Fld Z h96 pr0 "com/example/stonegaze/stonegaze/Groups" "count" "I" (.int (0 : Int32)) := (f90.other W96 (Or.inr (slot_ne (Or.inl (hw _ (List.mem_of_getElem? (i := 38) rfl))) (Or.inr (hw _ (List.mem_of_getElem? (i := 21) rfl))) (by decide) (t := .int) (t' := (.array .int)) (by decide) (by decide))))
  have f104 : Fld Z h96 pr0 "com/example/stonegaze/stonegaze/Groups" "groupOf" "[I" (.ref b5) := (f91.other W96 (Or.inr (slot_ne (Or.inr (hw _ (List.mem_of_getElem? (i := 11) rfl))) (Or.inr (hw _ (List.mem_of_getElem? (i := 21) rfl))) (by decide) (t := (.array .int)) (t' := (.array .int)) (by decide) (by decide))))
  have f105 : Arv Z h96 b5 k5 .int pi1 [] (.int (-1 : Int32)) := (f92.other W96 (Ne.symm ne7))
  have f106 : Arv Z h96 b49 k49 (.object "com/example/stonegaze/stonegaze/Side") pi1 [.null, .null] .null := (f93.other W96 (Ne.symm ne51))
  have f107 : Fld Z h96 pr0 "com/example/stonegaze/stonegaze/Groups" "colours" "[Lcom/example/stonegaze/stonegaze/Side;" (.ref b49) := (f94.other W96 (Or.inr (slot_ne (Or.inr (hw _ (List.mem_of_getElem? (i := 19) rfl))) (Or.inr (hw _ (List.mem_of_getElem? (i := 21) rfl))) (by decide) (t := (.array (.object "com/example/stonegaze/stonegaze/Side"))) (t' := (.array .int)) (by decide) (by decide))))
  have f108 : Arv Z h96 b79 k79 .int pi1 [(.int (0 : Int32)), (.int (0 : Int32))] (.int (0 : Int32)) := (f95.other W96 (Ne.symm ne81))
  have f109 : Fld Z h96 pr0 "com/example/stonegaze/stonegaze/Groups" "stones" "[I" (.ref b79) := f86.same W96
  have N110 := Fr.snoc X96 N77 G_pr0
  have O110 := O84.wr W96 G_pr0
  have K110 : Keep h0 h96 [pr0] := K84.wr W96 (Or.inl (List.mem_of_getElem? (i := 0) rfl))
  have pre111 : ∀ t, Steps p.tables e below (T96.setTop (mkF m 36 #[rv pr0, iv pi1] [(.int pi1), (.ref pr0)])) t → Go t := fun t kt => pre97 t (by
      refine y_aloadN X96.here hx (hb hby d1_34) rfl rfl (pc' := 35) rfl ?_
      refine y_iloadN X96.here hx (hb hby d1_35) rfl (pc' := 36) rfl ?_
      exact kt)
  obtain ⟨T112, h112, k112, X112, e112, E112, A112, st112⟩ := newP X96 hx hZ (hw _ (List.mem_of_getElem? (i := 9) rfl)) e96 (g := (mkF m 36 #[rv pr0, iv pi1] [(.int pi1), (.ref pr0)])) rfl (hb hby d1_36) rfl NG (cap := 5) NC (by decide) (by decide) (by decide)
  obtain ⟨b112, g112⟩ : ∃ z, z = h96.size := ⟨_, rfl⟩
  rw [← g112] at A112 st112
  have pre113 : ∀ t, Steps p.tables e below (T112.setTop (mkF m 38 #[rv pr0, iv pi1] [(.ref b112), (.ref pr0)])) t → Go t := fun t kt => pre111 t (st112 t kt)
  have lt114 : pr0 < b112 := Nat.lt_of_lt_of_le f98.lt (Nat.le_of_eq g112.symm)
  have ne114 : pr0 ≠ b112 := Nat.ne_of_lt lt114
  have lt115 : b5 < b112 := Nat.lt_of_lt_of_le f105.lt (Nat.le_of_eq g112.symm)
  have ne115 : b5 ≠ b112 := Nat.ne_of_lt lt115
  have lt116 : b49 < b112 := Nat.lt_of_lt_of_le f106.lt (Nat.le_of_eq g112.symm)
  have ne116 : b49 ≠ b112 := Nat.ne_of_lt lt116
  have lt117 : b79 < b112 := Nat.lt_of_lt_of_le f108.lt (Nat.le_of_eq g112.symm)
  have ne117 : b79 ≠ b112 := Nat.ne_of_lt lt117
  have G118 : n0 ≤ b112 := Nat.le_trans (O110.1 ▸ O110.2.1) (Nat.le_of_eq g112.symm)
  have Z118 : h0.size ≤ b112 := Nat.le_trans K110.1 (Nat.le_of_eq g112.symm)
  have f119 : Exa Z h112 pr0 "com/example/stonegaze/stonegaze/Groups" := (f98.ext E112)
  have f120 : Fld Z h112 pr0 "com/example/stonegaze/stonegaze/Groups" "liberties" "[I" .null := (f100.ext E112)
  have f121 : Fld Z h112 pr0 "com/example/stonegaze/stonegaze/Groups" "ringed" "[Z" .null := (f101.ext E112)
  have f122 : Fld Z h112 pr0 "com/example/stonegaze/stonegaze/Groups" "aLiberty" "[I" .null := (f102.ext E112)
  have f123 : Fld Z h112 pr0 "com/example/stonegaze/stonegaze/Groups" "count" "I" (.int (0 : Int32)) := (f103.ext E112)
  have f124 : Fld Z h112 pr0 "com/example/stonegaze/stonegaze/Groups" "groupOf" "[I" (.ref b5) := (f104.ext E112)
  have f125 : Arv Z h112 b5 k5 .int pi1 [] (.int (-1 : Int32)) := (f105.ext E112)
  have f126 : Arv Z h112 b49 k49 (.object "com/example/stonegaze/stonegaze/Side") pi1 [.null, .null] .null := (f106.ext E112)
  have f127 : Fld Z h112 pr0 "com/example/stonegaze/stonegaze/Groups" "colours" "[Lcom/example/stonegaze/stonegaze/Side;" (.ref b49) := (f107.ext E112)
  have f128 : Arv Z h112 b79 k79 .int pi1 [(.int (0 : Int32)), (.int (0 : Int32))] (.int (0 : Int32)) := (f108.ext E112)
  have f129 : Fld Z h112 pr0 "com/example/stonegaze/stonegaze/Groups" "stones" "[I" (.ref b79) := (f109.ext E112)
  have O118 := O110.ext E112
  have K118 : Keep h0 h112 [pr0] := K110.ext E112
  have f130 : Arv Z h112 b112 k112 .int pi1 [(.int (0 : Int32)), (.int (0 : Int32))] (.int (0 : Int32)) := (Arv.new A112 NG).pad (pad_rep [] (.int (0 : Int32)) 2)
  obtain ⟨T131, h131, X131, e131, W131, st131⟩ := putF X112 hx hZ hown (host := "") (Or.inl (hw _ (List.mem_of_getElem? (i := 22) rfl))) Via.refl e112 f120 f119 (Or.inr ⟨(hw _ (List.mem_of_getElem? (i := 23) rfl)), rfl, hnm⟩) (hw _ (List.mem_of_getElem? (i := 1) rfl)) (ty := (.array .int)) (by decide) rfl rfl (g := (mkF m 38 #[rv pr0, iv pi1] [(.ref b112), (.ref pr0)])) rfl rfl (hb hby d1_38)
  have pre132 : ∀ t, Steps p.tables e below (T131.setTop (mkF m 41 #[rv pr0, iv pi1] [])) t → Go t := fun t kt => pre113 t (st131 t kt)
  have f133 : Exa Z h131 pr0 "com/example/stonegaze/stonegaze/Groups" := (f119.wr W131)
  have f135 : Fld Z h131 pr0 "com/example/stonegaze/stonegaze/Groups" "ringed" "[Z" .null := (f121.other W131 (Or.inr (slot_ne (Or.inr (hw _ (List.mem_of_getElem? (i := 26) rfl))) (Or.inr (hw _ (List.mem_of_getElem? (i := 23) rfl))) (by decide) (t := (.array .boolean)) (t' := (.array .int)) (by decide) (by decide))))
  have f136 : Fld Z h131 pr0 "com/example/stonegaze/stonegaze/Groups" "aLiberty" "[I" .null := (f122.other W131 (Or.inr (slot_ne (Or.inr (hw _ (List.mem_of_getElem? (i := 28) rfl))) (Or.inr (hw _ (List.mem_of_getElem? (i := 23) rfl))) (by decide) (t := (.array .int)) (t' := (.array .int)) (by decide) (by decide))))
  have f137 : Fld Z h131 pr0 "com/example/stonegaze/stonegaze/Groups" "count" "I" (.int (0 : Int32)) := (f123.other W131 (Or.inr (slot_ne (Or.inl (hw _ (List.mem_of_getElem? (i := 38) rfl))) (Or.inr (hw _ (List.mem_of_getElem? (i := 23) rfl))) (by decide) (t := .int) (t' := (.array .int)) (by decide) (by decide))))
  have f138 : Fld Z h131 pr0 "com/example/stonegaze/stonegaze/Groups" "groupOf" "[I" (.ref b5) := (f124.other W131 (Or.inr (slot_ne (Or.inr (hw _ (List.mem_of_getElem? (i := 11) rfl))) (Or.inr (hw _ (List.mem_of_getElem? (i := 23) rfl))) (by decide) (t := (.array .int)) (t' := (.array .int)) (by decide) (by decide))))
  have f139 : Arv Z h131 b5 k5 .int pi1 [] (.int (-1 : Int32)) := (f125.other W131 (Ne.symm ne7))
  have f140 : Arv Z h131 b49 k49 (.object "com/example/stonegaze/stonegaze/Side") pi1 [.null, .null] .null := (f126.other W131 (Ne.symm ne51))
  have f141 : Fld Z h131 pr0 "com/example/stonegaze/stonegaze/Groups" "colours" "[Lcom/example/stonegaze/stonegaze/Side;" (.ref b49) := (f127.other W131 (Or.inr (slot_ne (Or.inr (hw _ (List.mem_of_getElem? (i := 19) rfl))) (Or.inr (hw _ (List.mem_of_getElem? (i := 23) rfl))) (by decide) (t := (.array (.object "com/example/stonegaze/stonegaze/Side"))) (t' := (.array .int)) (by decide) (by decide))))
  have f142 : Arv Z h131 b79 k79 .int pi1 [(.int (0 : Int32)), (.int (0 : Int32))] (.int (0 : Int32)) := (f128.other W131 (Ne.symm ne81))
  have f143 : Fld Z h131 pr0 "com/example/stonegaze/stonegaze/Groups" "stones" "[I" (.ref b79) := (f129.other W131 (Or.inr (slot_ne (Or.inr (hw _ (List.mem_of_getElem? (i := 21) rfl))) (Or.inr (hw _ (List.mem_of_getElem? (i := 23) rfl))) (by decide) (t := (.array .int)) (t' := (.array .int)) (by decide) (by decide))))
  have f144 : Arv Z h131 b112 k112 .int pi1 [(.int (0 : Int32)), (.int (0 : Int32))] (.int (0 : Int32)) := (f130.other W131 (Ne.symm ne114))
  have f145 : Fld Z h131 pr0 "com/example/stonegaze/stonegaze/Groups" "liberties" "[I" (.ref b112) := f120.same W131
  have N146 := Fr.snoc X131 N110 G_pr0
  have O146 := O118.wr W131 G_pr0
  have K146 : Keep h0 h131 [pr0] := K118.wr W131 (Or.inl (List.mem_of_getElem? (i := 0) rfl))
  have pre147 : ∀ t, Steps p.tables e below (T131.setTop (mkF m 43 #[rv pr0, iv pi1] [(.int pi1), (.ref pr0)])) t → Go t := fun t kt => pre132 t (by
      refine y_aloadN X131.here hx (hb hby d1_41) rfl rfl (pc' := 42) rfl ?_
      refine y_iloadN X131.here hx (hb hby d1_42) rfl (pc' := 43) rfl ?_
      exact kt)
  obtain ⟨T148, h148, k148, X148, e148, E148, A148, st148⟩ := newP X131 hx hZ (hw _ (List.mem_of_getElem? (i := 24) rfl)) e131 (g := (mkF m 43 #[rv pr0, iv pi1] [(.int pi1), (.ref pr0)])) rfl (hb hby d1_43) rfl NG (cap := 5) NC (by decide) (by decide) (by decide)
  obtain ⟨b148, g148⟩ : ∃ z, z = h131.size := ⟨_, rfl⟩
  rw [← g148] at A148 st148
  have pre149 : ∀ t, Steps p.tables e below (T148.setTop (mkF m 45 #[rv pr0, iv pi1] [(.ref b148), (.ref pr0)])) t → Go t := fun t kt => pre147 t (st148 t kt)
  have lt150 : pr0 < b148 := Nat.lt_of_lt_of_le f133.lt (Nat.le_of_eq g148.symm)
  have ne150 : pr0 ≠ b148 := Nat.ne_of_lt lt150
  have lt151 : b5 < b148 := Nat.lt_of_lt_of_le f139.lt (Nat.le_of_eq g148.symm)
  have ne151 : b5 ≠ b148 := Nat.ne_of_lt lt151
  have lt152 : b49 < b148 := Nat.lt_of_lt_of_le f140.lt (Nat.le_of_eq g148.symm)
  have ne152 : b49 ≠ b148 := Nat.ne_of_lt lt152
  have lt153 : b79 < b148 := Nat.lt_of_lt_of_le f142.lt (Nat.le_of_eq g148.symm)
  have ne153 : b79 ≠ b148 := Nat.ne_of_lt lt153
  have lt154 : b112 < b148 := Nat.lt_of_lt_of_le f144.lt (Nat.le_of_eq g148.symm)
  have ne154 : b112 ≠ b148 := Nat.ne_of_lt lt154
  have G155 : n0 ≤ b148 := Nat.le_trans (O146.1 ▸ O146.2.1) (Nat.le_of_eq g148.symm)
  have Z155 : h0.size ≤ b148 := Nat.le_trans K146.1 (Nat.le_of_eq g148.symm)
  have f156 : Exa Z h148 pr0 "com/example/stonegaze/stonegaze/Groups" := (f133.ext E148)
  have f157 : Fld Z h148 pr0 "com/example/stonegaze/stonegaze/Groups" "ringed" "[Z" .null := (f135.ext E148)
  have f158 : Fld Z h148 pr0 "com/example/stonegaze/stonegaze/Groups" "aLiberty" "[I" .null := (f136.ext E148)
  have f159 : Fld Z h148 pr0 "com/example/stonegaze/stonegaze/Groups" "count" "I" (.int (0 : Int32)) := (f137.ext E148)
  have f160 : Fld Z h148 pr0 "com/example/stonegaze/stonegaze/Groups" "groupOf" "[I" (.ref b5) := (f138.ext E148)
  have f161 : Arv Z h148 b5 k5 .int pi1 [] (.int (-1 : Int32)) := (f139.ext E148)
  have f162 : Arv Z h148 b49 k49 (.object "com/example/stonegaze/stonegaze/Side") pi1 [.null, .null] .null := (f140.ext E148)
  have f163 : Fld Z h148 pr0 "com/example/stonegaze/stonegaze/Groups" "colours" "[Lcom/example/stonegaze/stonegaze/Side;" (.ref b49) := (f141.ext E148)
  have f164 : Arv Z h148 b79 k79 .int pi1 [(.int (0 : Int32)), (.int (0 : Int32))] (.int (0 : Int32)) := (f142.ext E148)
  have f165 : Fld Z h148 pr0 "com/example/stonegaze/stonegaze/Groups" "stones" "[I" (.ref b79) := (f143.ext E148)
  have f166 : Arv Z h148 b112 k112 .int pi1 [(.int (0 : Int32)), (.int (0 : Int32))] (.int (0 : Int32)) := (f144.ext E148)
  have f167 : Fld Z h148 pr0 "com/example/stonegaze/stonegaze/Groups" "liberties" "[I" (.ref b112) := (f145.ext E148)
  have O155 := O146.ext E148
  have K155 : Keep h0 h148 [pr0] := K146.ext E148
  have f168 : Arv Z h148 b148 k148 .boolean pi1 [(.int (0 : Int32)), (.int (0 : Int32))] (.int (0 : Int32)) := (Arv.new A148 NG).pad (pad_rep [] (.int (0 : Int32)) 2)
  obtain ⟨T169, h169, X169, e169, W169, st169⟩ := putF X148 hx hZ hown (host := "") (Or.inl (hw _ (List.mem_of_getElem? (i := 25) rfl))) Via.refl e148 f157 f156 (Or.inr ⟨(hw _ (List.mem_of_getElem? (i := 26) rfl)), rfl, hnm⟩) (hw _ (List.mem_of_getElem? (i := 1) rfl)) (ty := (.array .boolean)) (by decide) rfl rfl (g := (mkF m 45 #[rv pr0, iv pi1] [(.ref b148), (.ref pr0)])) rfl rfl (hb hby d1_45)
  have pre170 : ∀ t, Steps p.tables e below (T169.setTop (mkF m 48 #[rv pr0, iv pi1] [])) t → Go t := fun t kt => pre149 t (st169 t kt)
  have f171 : Exa Z h169 pr0 "com/example/stonegaze/stonegaze/Groups" := (f156.wr W169)
  have f173 : Fld Z h169 pr0 "com/example/stonegaze/stonegaze/Groups" "aLiberty" "[I" .null := (f158.other W169 (Or.inr (slot_ne (Or.inr (hw _ (List.mem_of_getElem? (i := 28) rfl))) (Or.inr (hw _ (List.mem_of_getElem? (i := 26) rfl))) (by decide) (t := (.array .int)) (t' := (.array .boolean)) (by decide) (by decide))))
  have f174 : Fld Z h169 pr0 "com/example/stonegaze/stonegaze/Groups" "count" "I" (.int (0 : Int32)) := (f159.other W169 (Or.inr (slot_ne (Or.inl (hw _ (List.mem_of_getElem? (i := 38) rfl))) (Or.inr (hw _ (List.mem_of_getElem? (i := 26) rfl))) (by decide) (t := .int) (t' := (.array .boolean)) (by decide) (by decide))))
  have f175 : Fld Z h169 pr0 "com/example/stonegaze/stonegaze/Groups" "groupOf" "[I" (.ref b5) := (f160.other W169 (Or.inr (slot_ne (Or.inr (hw _ (List.mem_of_getElem? (i := 11) rfl))) (Or.inr (hw _ (List.mem_of_getElem? (i := 26) rfl))) (by decide) (t := (.array .int)) (t' := (.array .boolean)) (by decide) (by decide))))
  have f176 : Arv Z h169 b5 k5 .int pi1 [] (.int (-1 : Int32)) := (f161.other W169 (Ne.symm ne7))
  have f177 : Arv Z h169 b49 k49 (.object "com/example/stonegaze/stonegaze/Side") pi1 [.null, .null] .null := (f162.other W169 (Ne.symm ne51))
  have f178 : Fld Z h169 pr0 "com/example/stonegaze/stonegaze/Groups" "colours" "[Lcom/example/stonegaze/stonegaze/Side;" (.ref b49) := (f163.other W169 (Or.inr (slot_ne (Or.inr (hw _ (List.mem_of_getElem? (i := 19) rfl))) (Or.inr (hw _ (List.mem_of_getElem? (i := 26) rfl))) (by decide) (t := (.array (.object "com/example/stonegaze/stonegaze/Side"))) (t' := (.array .boolean)) (by decide) (by decide))))
  have f179 : Arv Z h169 b79 k79 .int pi1 [(.int (0 : Int32)), (.int (0 : Int32))] (.int (0 : Int32)) := (f164.other W169 (Ne.symm ne81))
  have f180 : Fld Z h169 pr0 "com/example/stonegaze/stonegaze/Groups" "stones" "[I" (.ref b79) := (f165.other W169 (Or.inr (slot_ne (Or.inr (hw _ (List.mem_of_getElem? (i := 21) rfl))) (Or.inr (hw _ (List.mem_of_getElem? (i := 26) rfl))) (by decide) (t := (.array .int)) (t' := (.array .boolean)) (by decide) (by decide))))
  have f181 : Arv Z h169 b112 k112 .int pi1 [(.int (0 : Int32)), (.int (0 : Int32))] (.int (0 : Int32)) := (f166.other W169 (Ne.symm ne114))
  have f182 : Fld Z h169 pr0 "com/example/stonegaze/stonegaze/Groups" "liberties" "[I" (.ref b112) := (f167.other W169 (Or.inr (slot_ne (Or.inr (hw _ (List.mem_of_getElem? (i := 23) rfl))) (Or.inr (hw _ (List.mem_of_getElem? (i := 26) rfl))) (by decide) (t := (.array .int)) (t' := (.array .boolean)) (by decide) (by decide))))
  have f183 : Arv Z h169 b148 k148 .boolean pi1 [(.int (0 : Int32)), (.int (0 : Int32))] (.int (0 : Int32)) := (f168.other W169 (Ne.symm ne150))
  have f184 : Fld Z h169 pr0 "com/example/stonegaze/stonegaze/Groups" "ringed" "[Z" (.ref b148) := f157.same W169
  have N185 := Fr.snoc X169 N146 G_pr0
  have O185 := O155.wr W169 G_pr0
  have K185 : Keep h0 h169 [pr0] := K155.wr W169 (Or.inl (List.mem_of_getElem? (i := 0) rfl))
  have pre186 : ∀ t, Steps p.tables e below (T169.setTop (mkF m 50 #[rv pr0, iv pi1] [(.int pi1), (.ref pr0)])) t → Go t := fun t kt => pre170 t (by
      refine y_aloadN X169.here hx (hb hby d1_48) rfl rfl (pc' := 49) rfl ?_
      refine y_iloadN X169.here hx (hb hby d1_49) rfl (pc' := 50) rfl ?_
      exact kt)
  obtain ⟨T187, h187, k187, X187, e187, E187, A187, st187⟩ := newP X169 hx hZ (hw _ (List.mem_of_getElem? (i := 9) rfl)) e169 (g := (mkF m 50 #[rv pr0, iv pi1] [(.int pi1), (.ref pr0)])) rfl (hb hby d1_50) rfl NG (cap := 5) NC (by decide) (by decide) (by decide)
  obtain ⟨b187, g187⟩ : ∃ z, z = h169.size := ⟨_, rfl⟩
  rw [← g187] at A187 st187
  have pre188 : ∀ t, Steps p.tables e below (T187.setTop (mkF m 52 #[rv pr0, iv pi1] [(.ref b187), (.ref pr0)])) t → Go t := fun t kt => pre186 t (st187 t kt)
  have lt189 : pr0 < b187 := Nat.lt_of_lt_of_le f171.lt (Nat.le_of_eq g187.symm)
  have ne189 : pr0 ≠ b187 := Nat.ne_of_lt lt189
  have lt190 : b5 < b187 := Nat.lt_of_lt_of_le f176.lt (Nat.le_of_eq g187.symm)
  have ne190 : b5 ≠ b187 := Nat.ne_of_lt lt190
  have lt191 : b49 < b187 := Nat.lt_of_lt_of_le f177.lt (Nat.le_of_eq g187.symm)
  have ne191 : b49 ≠ b187 := Nat.ne_of_lt lt191
  have lt192 : b79 < b187 := Nat.lt_of_lt_of_le f179.lt (Nat.le_of_eq g187.symm)
  have ne192 : b79 ≠ b187 := Nat.ne_of_lt lt192
  have lt193 : b112 < b187 := Nat.lt_of_lt_of_le f181.lt (Nat.le_of_eq g187.symm)
  have ne193 : b112 ≠ b187 := Nat.ne_of_lt lt193
  have lt194 : b148 < b187 := Nat.lt_of_lt_of_le f183.lt (Nat.le_of_eq g187.symm)
  have ne194 : b148 ≠ b187 := Nat.ne_of_lt lt194
  have G195 : n0 ≤ b187 := Nat.le_trans (O185.1 ▸ O185.2.1) (Nat.le_of_eq g187.symm)
  have Z195 : h0.size ≤ b187 := Nat.le_trans K185.1 (Nat.le_of_eq g187.symm)
  have f196 : Exa Z h187 pr0 "com/example/stonegaze/stonegaze/Groups" := (f171.ext E187)
  have f197 : Fld Z h187 pr0 "com/example/stonegaze/stonegaze/Groups" "aLiberty" "[I" .null := (f173.ext E187)
  have f198 : Fld Z h187 pr0 "com/example/stonegaze/stonegaze/Groups" "count" "I" (.int (0 : Int32)) := (f174.ext E187)
  have f199 : Fld Z h187 pr0 "com/example/stonegaze/stonegaze/Groups" "groupOf" "[I" (.ref b5) := (f175.ext E187)
  have f200 : Arv Z h187 b5 k5 .int pi1 [] (.int (-1 : Int32)) := (f176.ext E187)
  have f201 : Arv Z h187 b49 k49 (.object "com/example/stonegaze/stonegaze/Side") pi1 [.null, .null] .null := (f177.ext E187)
  have f202 : Fld Z h187 pr0 "com/example/stonegaze/stonegaze/Groups" "colours" "[Lcom/example/stonegaze/stonegaze/Side;" (.ref b49) := (f178.ext E187)
  have f203 : Arv Z h187 b79 k79 .int pi1 [(.int (0 : Int32)), (.int (0 : Int32))] (.int (0 : Int32)) := (f179.ext E187)
  have f204 : Fld Z h187 pr0 "com/example/stonegaze/stonegaze/Groups" "stones" "[I" (.ref b79) := (f180.ext E187)
  have f205 : Arv Z h187 b112 k112 .int pi1 [(.int (0 : Int32)), (.int (0 : Int32))] (.int (0 : Int32)) := (f181.ext E187)
  have f206 : Fld Z h187 pr0 "com/example/stonegaze/stonegaze/Groups" "liberties" "[I" (.ref b112) := (f182.ext E187)
  have f207 : Arv Z h187 b148 k148 .boolean pi1 [(.int (0 : Int32)), (.int (0 : Int32))] (.int (0 : Int32)) := (f183.ext E187)
  have f208 : Fld Z h187 pr0 "com/example/stonegaze/stonegaze/Groups" "ringed" "[Z" (.ref b148) := (f184.ext E187)
  have O195 := O185.ext E187
  have K195 : Keep h0 h187 [pr0] := K185.ext E187
  have f209 : Arv Z h187 b187 k187 .int pi1 [(.int (0 : Int32)), (.int (0 : Int32))] (.int (0 : Int32)) := (Arv.new A187 NG).pad (pad_rep [] (.int (0 : Int32)) 2)
  obtain ⟨T210, h210, X210, e210, W210, st210⟩ := putF X187 hx hZ hown (host := "") (Or.inl (hw _ (List.mem_of_getElem? (i := 27) rfl))) Via.refl e187 f197 f196 (Or.inr ⟨(hw _ (List.mem_of_getElem? (i := 28) rfl)), rfl, hnm⟩) (hw _ (List.mem_of_getElem? (i := 1) rfl)) (ty := (.array .int)) (by decide) rfl rfl (g := (mkF m 52 #[rv pr0, iv pi1] [(.ref b187), (.ref pr0)])) rfl rfl (hb hby d1_52)
  have pre211 : ∀ t, Steps p.tables e below (T210.setTop (mkF m 55 #[rv pr0, iv pi1] [])) t → Go t := fun t kt => pre188 t (st210 t kt)
  have f212 : Exa Z h210 pr0 "com/example/stonegaze/stonegaze/Groups" := (f196.wr W210)
  have f214 : Fld Z h210 pr0 "com/example/stonegaze/stonegaze/Groups" "count" "I" (.int (0 : Int32)) := (f198.other W210 (Or.inr (slot_ne (Or.inl (hw _ (List.mem_of_getElem? (i := 38) rfl))) (Or.inr (hw _ (List.mem_of_getElem? (i := 28) rfl))) (by decide) (t := .int) (t' := (.array .int)) (by decide) (by decide))))
  have f215 : Fld Z h210 pr0 "com/example/stonegaze/stonegaze/Groups" "groupOf" "[I" (.ref b5) := (f199.other W210 (Or.inr (slot_ne (Or.inr (hw _ (List.mem_of_getElem? (i := 11) rfl))) (Or.inr (hw _ (List.mem_of_getElem? (i := 28) rfl))) (by decide) (t := (.array .int)) (t' := (.array .int)) (by decide) (by decide))))
  have f216 : Arv Z h210 b5 k5 .int pi1 [] (.int (-1 : Int32)) := (f200.other W210 (Ne.symm ne7))
  have f217 : Arv Z h210 b49 k49 (.object "com/example/stonegaze/stonegaze/Side") pi1 [.null, .null] .null := (f201.other W210 (Ne.symm ne51))
  have f218 : Fld Z h210 pr0 "com/example/stonegaze/stonegaze/Groups" "colours" "[Lcom/example/stonegaze/stonegaze/Side;" (.ref b49) := (f202.other W210 (Or.inr (slot_ne (Or.inr (hw _ (List.mem_of_getElem? (i := 19) rfl))) (Or.inr (hw _ (List.mem_of_getElem? (i := 28) rfl))) (by decide) (t := (.array (.object "com/example/stonegaze/stonegaze/Side"))) (t' := (.array .int)) (by decide) (by decide))))
  have f219 : Arv Z h210 b79 k79 .int pi1 [(.int (0 : Int32)), (.int (0 : Int32))] (.int (0 : Int32)) := (f203.other W210 (Ne.symm ne81))
  have f220 : Fld Z h210 pr0 "com/example/stonegaze/stonegaze/Groups" "stones" "[I" (.ref b79) := (f204.other W210 (Or.inr (slot_ne (Or.inr (hw _ (List.mem_of_getElem? (i := 21) rfl))) (Or.inr (hw _ (List.mem_of_getElem? (i := 28) rfl))) (by decide) (t := (.array .int)) (t' := (.array .int)) (by decide) (by decide))))
  have f221 : Arv Z h210 b112 k112 .int pi1 [(.int (0 : Int32)), (.int (0 : Int32))] (.int (0 : Int32)) := (f205.other W210 (Ne.symm ne114))
  have f222 : Fld Z h210 pr0 "com/example/stonegaze/stonegaze/Groups" "liberties" "[I" (.ref b112) := (f206.other W210 (Or.inr (slot_ne (Or.inr (hw _ (List.mem_of_getElem? (i := 23) rfl))) (Or.inr (hw _ (List.mem_of_getElem? (i := 28) rfl))) (by decide) (t := (.array .int)) (t' := (.array .int)) (by decide) (by decide))))
  have f223 : Arv Z h210 b148 k148 .boolean pi1 [(.int (0 : Int32)), (.int (0 : Int32))] (.int (0 : Int32)) := (f207.other W210 (Ne.symm ne150))
  have f224 : Fld Z h210 pr0 "com/example/stonegaze/stonegaze/Groups" "ringed" "[Z" (.ref b148) := (f208.other W210 (Or.inr (slot_ne (Or.inr (hw _ (List.mem_of_getElem? (i := 26) rfl))) (Or.inr (hw _ (List.mem_of_getElem? (i := 28) rfl))) (by decide) (t := (.array .boolean)) (t' := (.array .int)) (by decide) (by decide))))
  have f225 : Arv Z h210 b187 k187 .int pi1 [(.int (0 : Int32)), (.int (0 : Int32))] (.int (0 : Int32)) := (f209.other W210 (Ne.symm ne189))
  have f226 : Fld Z h210 pr0 "com/example/stonegaze/stonegaze/Groups" "aLiberty" "[I" (.ref b187) := f197.same W210
  have N227 := Fr.snoc X210 N185 G_pr0
  have O227 := O195.wr W210 G_pr0
  have K227 : Keep h0 h210 [pr0] := K195.wr W210 (Or.inl (List.mem_of_getElem? (i := 0) rfl))
  obtain ⟨fs, hr, hrun, hended, hW, hsame⟩ := X210.leave (v := none) (fun _ => rfl)
  refine ⟨_, _, (hGo _).mp (pre211 _ ?_), hrun, hended, _, _, rfl, ?_, ⟨_, rfl⟩, hW, hsame.mono (by decide) (by decide)⟩
  · exact X210.returnOut hx Bd.returns (hb hby d1_55) hr
  · show Q1 Z pr0 pi1 h0 n0 _ T210.heap _
    rw [e210]
    exact ⟨b5, b49, b79, b112, b148, b187, k5, k49, k79, k112, k148, k187, rfl, N227, K227, f215, f218, f220, f222, f224, f226, f214, f216, f217, f219, f221, f223, f225, V49, Z8, lt52, lt83, lt117, lt154, lt194⟩
theorem d4_0 : decode prog_17_method_2_code 0 = .ok (.aload_n 0, 1) := by decide +kernel
theorem d4_1 : decode prog_17_method_2_code 1 = .ok (.getfield 21, 3) := by decide +kernel
theorem d4_4 : decode prog_17_method_2_code 4 = .ok (.aload_n 0, 1) := by decide +kernel
theorem d4_5 : decode prog_17_method_2_code 5 = .ok (.getfield 38, 3) := by decide +kernel
theorem d4_8 : decode prog_17_method_2_code 8 = .ok (.aload_n 1, 1) := by decide +kernel
theorem d4_9 : decode prog_17_method_2_code 9 = .ok (.aastore, 1) := by decide +kernel
theorem d4_10 : decode prog_17_method_2_code 10 = .ok (.aload_n 0, 1) := by decide +kernel
theorem d4_11 : decode prog_17_method_2_code 11 = .ok (.getfield 28, 3) := by decide +kernel
theorem d4_14 : decode prog_17_method_2_code 14 = .ok (.aload_n 0, 1) := by decide +kernel
theorem d4_15 : decode prog_17_method_2_code 15 = .ok (.getfield 38, 3) := by decide +kernel
theorem d4_18 : decode prog_17_method_2_code 18 = .ok (.iload_n 2, 1) := by decide +kernel
theorem d4_19 : decode prog_17_method_2_code 19 = .ok (.iastore, 1) := by decide +kernel
theorem d4_20 : decode prog_17_method_2_code 20 = .ok (.aload_n 0, 1) := by decide +kernel
theorem d4_21 : decode prog_17_method_2_code 21 = .ok (.getfield 35, 3) := by decide +kernel
theorem d4_24 : decode prog_17_method_2_code 24 = .ok (.aload_n 0, 1) := by decide +kernel
theorem d4_25 : decode prog_17_method_2_code 25 = .ok (.getfield 38, 3) := by decide +kernel
theorem d4_28 : decode prog_17_method_2_code 28 = .ok (.iload_n 3, 1) := by decide +kernel
theorem d4_29 : decode prog_17_method_2_code 29 = .ok (.iastore, 1) := by decide +kernel
theorem d4_30 : decode prog_17_method_2_code 30 = .ok (.aload_n 0, 1) := by decide +kernel
theorem d4_31 : decode prog_17_method_2_code 31 = .ok (.getfield 31, 3) := by decide +kernel
theorem d4_34 : decode prog_17_method_2_code 34 = .ok (.aload_n 0, 1) := by decide +kernel
theorem d4_35 : decode prog_17_method_2_code 35 = .ok (.getfield 38, 3) := by decide +kernel
theorem d4_38 : decode prog_17_method_2_code 38 = .ok (.iload 4, 2) := by decide +kernel
theorem d4_40 : decode prog_17_method_2_code 40 = .ok (.bastore, 1) := by decide +kernel
theorem d4_41 : decode prog_17_method_2_code 41 = .ok (.aload_n 0, 1) := by decide +kernel
theorem d4_42 : decode prog_17_method_2_code 42 = .ok (.dup, 1) := by decide +kernel
theorem d4_43 : decode prog_17_method_2_code 43 = .ok (.getfield 38, 3) := by decide +kernel
theorem d4_46 : decode prog_17_method_2_code 46 = .ok (.iconst 1, 1) := by decide +kernel
theorem d4_47 : decode prog_17_method_2_code 47 = .ok (.iadd, 1) := by decide +kernel
theorem d4_48 : decode prog_17_method_2_code 48 = .ok (.putfield 38, 3) := by decide +kernel
theorem d4_51 : decode prog_17_method_2_code 51 = .ok (.aload_n 0, 1) := by decide +kernel
theorem d4_52 : decode prog_17_method_2_code 52 = .ok (.getfield 38, 3) := by decide +kernel
theorem d4_55 : decode prog_17_method_2_code 55 = .ok (.iconst 1, 1) := by decide +kernel
theorem d4_56 : decode prog_17_method_2_code 56 = .ok (.isub, 1) := by decide +kernel
theorem d4_57 : decode prog_17_method_2_code 57 = .ok (.ireturn, 1) := by decide +kernel
theorem ef_4c0 (m : MethodId) (x0 : Addr) (x1 : Addr) (x2 : Int32) (x3 : Int32) (x4 : Int32) : entryFrame m #[(.ref x0), (.ref x1), (.int x2), (.int x3), (.int x4)] 5 = mkF m 0 #[rv x0, rv x1, iv x2, iv x3, iv x4] [] := by first | (simp [entryFrame, mkF, argsToLocals, Value.category]; done) | rfl
def Q4c0 (Z : State) (pr0 : Addr) (pr1 : Addr) (pi2 : Int32) (pi3 : Int32) (pi4 : Int32) (u_groupOf_pr0 : Addr) (u_colours_pr0 : Addr) (u_stones_pr0 : Addr) (u_liberties_pr0 : Addr) (u_ringed_pr0 : Addr) (u_aLiberty_pr0 : Addr) (nn : Int32) (kk_u_colours_pr0 : ClassId) (kk_u_liberties_pr0 : ClassId) (kk_u_aLiberty_pr0 : ClassId) (kk_u_ringed_pr0 : ClassId) (h0 : Heap) (n0 : Nat) (v : Option Value) (h : Heap) (L : List Loc) : Prop := v = some (.int (0 : Int32)) ∧ Fr n0 L ∧ Keep h0 h [pr0, u_colours_pr0, u_liberties_pr0, u_aLiberty_pr0, u_ringed_pr0] ∧ Fld Z h pr0 "com/example/stonegaze/stonegaze/Groups" "groupOf" "[I" (.ref u_groupOf_pr0) ∧ Fld Z h pr0 "com/example/stonegaze/stonegaze/Groups" "colours" "[Lcom/example/stonegaze/stonegaze/Side;" (.ref u_colours_pr0) ∧ Fld Z h pr0 "com/example/stonegaze/stonegaze/Groups" "stones" "[I" (.ref u_stones_pr0) ∧ Fld Z h pr0 "com/example/stonegaze/stonegaze/Groups" "liberties" "[I" (.ref u_liberties_pr0) ∧ Fld Z h pr0 "com/example/stonegaze/stonegaze/Groups" "ringed" "[Z" (.ref u_ringed_pr0) ∧ Fld Z h pr0 "com/example/stonegaze/stonegaze/Groups" "aLiberty" "[I" (.ref u_aLiberty_pr0) ∧ Fld Z h pr0 "com/example/stonegaze/stonegaze/Groups" "count" "I" (.int (1 : Int32)) ∧ Arv Z h u_colours_pr0 kk_u_colours_pr0 (.object "com/example/stonegaze/stonegaze/Side") nn [(.ref pr1), .null] .null ∧ Arv Z h u_liberties_pr0 kk_u_liberties_pr0 .int nn [(.int pi2), (.int (0 : Int32))] (.int (0 : Int32)) ∧ Arv Z h u_aLiberty_pr0 kk_u_aLiberty_pr0 .int nn [(.int pi3), (.int (0 : Int32))] (.int (0 : Int32)) ∧ Arv Z h u_ringed_pr0 kk_u_ringed_pr0 .boolean nn [(.int (nar .boolean pi4)), (.int (0 : Int32))] (.int (0 : Int32))
set_option maxRecDepth 65536 in
set_option maxHeartbeats 40000000 in
theorem rm4c0 (l : Launch) (Z : State) (a0 : Array Value) (hw : ∀ d ∈ tables_1, d.before a0 Z = true) (ws : List Jvm.Cond) (pr0 : Addr) (pr1 : Addr) (pi2 : Int32) (pi3 : Int32) (pi4 : Int32) (u_groupOf_pr0 : Addr) (u_colours_pr0 : Addr) (u_stones_pr0 : Addr) (u_liberties_pr0 : Addr) (u_ringed_pr0 : Addr) (u_aLiberty_pr0 : Addr) (nn : Int32) (kk_u_colours_pr0 : ClassId) (kk_u_liberties_pr0 : ClassId) (kk_u_aLiberty_pr0 : ClassId) (kk_u_ringed_pr0 : ClassId) (h0 : Heap) (n0 : Nat) (O0 : Old Z n0 h0) (E_pr0 : Exa Z h0 pr0 "com/example/stonegaze/stonegaze/Groups") (F_groupOf_pr0 : Fld Z h0 pr0 "com/example/stonegaze/stonegaze/Groups" "groupOf" "[I" (.ref u_groupOf_pr0)) (F_colours_pr0 : Fld Z h0 pr0 "com/example/stonegaze/stonegaze/Groups" "colours" "[Lcom/example/stonegaze/stonegaze/Side;" (.ref u_colours_pr0)) (F_stones_pr0 : Fld Z h0 pr0 "com/example/stonegaze/stonegaze/Groups" "stones" "[I" (.ref u_stones_pr0)) (F_liberties_pr0 : Fld Z h0 pr0 "com/example/stonegaze/stonegaze/Groups" "liberties" "[I" (.ref u_liberties_pr0)) (F_ringed_pr0 : Fld Z h0 pr0 "com/example/stonegaze/stonegaze/Groups" "ringed" "[Z" (.ref u_ringed_pr0)) (F_aLiberty_pr0 : Fld Z h0 pr0 "com/example/stonegaze/stonegaze/Groups" "aLiberty" "[I" (.ref u_aLiberty_pr0)) (F_count_pr0 : Fld Z h0 pr0 "com/example/stonegaze/stonegaze/Groups" "count" "I" (.int (0 : Int32))) (E_pr1 : Exa Z h0 pr1 "com/example/stonegaze/stonegaze/Side") (G_pr0 : n0 ≤ pr0) (G_u_colours_pr0 : n0 ≤ u_colours_pr0) (G_u_liberties_pr0 : n0 ≤ u_liberties_pr0) (G_u_aLiberty_pr0 : n0 ≤ u_aLiberty_pr0) (G_u_ringed_pr0 : n0 ≤ u_ringed_pr0) (OR : @LT.lt Nat instLTNat pr0 u_groupOf_pr0 ∧ @LT.lt Nat instLTNat u_groupOf_pr0 u_colours_pr0 ∧ @LT.lt Nat instLTNat u_colours_pr0 u_stones_pr0 ∧ @LT.lt Nat instLTNat u_stones_pr0 u_liberties_pr0 ∧ @LT.lt Nat instLTNat u_liberties_pr0 u_ringed_pr0 ∧ @LT.lt Nat instLTNat u_ringed_pr0 u_aLiberty_pr0) (L0 : (0 : Int32) < nn) (L1 : (1 : Int32) < nn) (V_u_colours_pr0 : Arv Z h0 u_colours_pr0 kk_u_colours_pr0 (.object "com/example/stonegaze/stonegaze/Side") nn [.null, .null] .null) (OV_u_colours_pr0 : Ovr Z kk_u_colours_pr0 "com/example/stonegaze/stonegaze/Side") (V_u_liberties_pr0 : Arv Z h0 u_liberties_pr0 kk_u_liberties_pr0 .int nn [(.int (0 : Int32)), (.int (0 : Int32))] (.int (0 : Int32))) (V_u_aLiberty_pr0 : Arv Z h0 u_aLiberty_pr0 kk_u_aLiberty_pr0 .int nn [(.int (0 : Int32)), (.int (0 : Int32))] (.int (0 : Int32))) (V_u_ringed_pr0 : Arv Z h0 u_ringed_pr0 kk_u_ringed_pr0 .boolean nn [(.int (0 : Int32)), (.int (0 : Int32))] (.int (0 : Int32))) :
    MetFree l (⟨"com/example/stonegaze/stonegaze/Groups", "add", "(Lcom/example/stonegaze/stonegaze/Side;IIZ)I"⟩ : MethodName) (head1 (Jvm.Cond.code (⟨"com/example/stonegaze/stonegaze/Groups", "add", "(Lcom/example/stonegaze/stonegaze/Side;IIZ)I"⟩ : MethodName) prog_17_method_2_code 5 (some .int) :: ws) ({ frames := 0, cells := 0, slots := 0, locals := 0 } : Room)) (fun a U => a = #[(.ref pr0), (.ref pr1), (.int pi2), (.int pi3), (.int pi4)] ∧ Z.Warmed39 U.vm ∧ U.heap = h0) (fun _ _ _ _ _ => True) (fun _ U o U' => ∃ v L, o = .returned v ∧ Q4c0 Z pr0 pr1 pi2 pi3 pi4 u_groupOf_pr0 u_colours_pr0 u_stones_pr0 u_liberties_pr0 u_ringed_pr0 u_aLiberty_pr0 nn kk_u_colours_pr0 kk_u_liberties_pr0 kk_u_aLiberty_pr0 kk_u_ringed_pr0 h0 n0 v U'.heap L ∧ FrameEnd U o U' L ({ frames := 0, cells := 0, slots := 0, locals := 0 } : Room).cells ({ frames := 0, cells := 0, slots := 0, locals := 0 } : Room).slots) := by
  refine MetFree.of_bodySF (plainFor_of_name pn_com_example_stonegaze_stonegaze_Groups) hisR ?_
  intro p e s m args below meth c s₁ Bd hml0 hP hK
  obtain ⟨rfl, hZ, hh⟩ := hP
  have hx := Bd.exec
  have hby := Bd.bytes
  have hml : c.maxLocals = 5 := hml0
  have hown : s.vm.findClass "com/example/stonegaze/stonegaze/Groups" = some m.cls := findClass_of_methodNamed Bd.named
  have hnm := (name_of_methodNamed Bd.named Bd.method).1
  have X0 : Stand p l e ({ frames := 0, cells := 0, slots := 0, locals := 0 } : Room) s m #[(.ref pr0), (.ref pr1), (.int pi2), (.int pi3), (.int pi4)] below meth c s₁ [] 0 0 := Stand.of_body Bd
  have e0 : s₁.heap = h0 := by rw [← hh, Bd.state]; rfl
  have N0 := Fr.nil n0
  obtain ⟨Go, hGo⟩ : ∃ P : State → Prop, ∀ t, P t ↔ Steps p.tables e below (s₁.setTop (entryFrame m #[(.ref pr0), (.ref pr1), (.int pi2), (.int pi3), (.int pi4)] 5)) t := ⟨_, fun _ => Iff.rfl⟩
  have pre0 : ∀ t, Steps p.tables e below (s₁.setTop (mkF m 0 #[rv pr0, rv pr1, iv pi2, iv pi3, iv pi4] [])) t → Go t := fun t k => (hGo t).mpr (castTop (ef_4c0 m pr0 pr1 pi2 pi3 pi4) k)
  have K0 : Keep h0 h0 [pr0, u_colours_pr0, u_liberties_pr0, u_aLiberty_pr0, u_ringed_pr0] := Keep.refl _ _
  have ne_pr0_u_groupOf_pr0 : pr0 ≠ u_groupOf_pr0 := Nat.ne_of_lt (by have := OR; omega)
  have ne_pr0_u_colours_pr0 : pr0 ≠ u_colours_pr0 := Nat.ne_of_lt (by have := OR; omega)
  have ne_pr0_u_stones_pr0 : pr0 ≠ u_stones_pr0 := Nat.ne_of_lt (by have := OR; omega)
  have ne_pr0_u_liberties_pr0 : pr0 ≠ u_liberties_pr0 := Nat.ne_of_lt (by have := OR; omega)
  have ne_pr0_u_ringed_pr0 : pr0 ≠ u_ringed_pr0 := Nat.ne_of_lt (by have := OR; omega)
  have ne_pr0_u_aLiberty_pr0 : pr0 ≠ u_aLiberty_pr0 := Nat.ne_of_lt (by have := OR; omega)
  have ne_u_groupOf_pr0_u_colours_pr0 : u_groupOf_pr0 ≠ u_colours_pr0 := Nat.ne_of_lt (by have := OR; omega)
  have ne_u_groupOf_pr0_u_stones_pr0 : u_groupOf_pr0 ≠ u_stones_pr0 := Nat.ne_of_lt (by have := OR; omega)
  have ne_u_groupOf_pr0_u_liberties_pr0 : u_groupOf_pr0 ≠ u_liberties_pr0 := Nat.ne_of_lt (by have := OR; omega)
  have ne_u_groupOf_pr0_u_ringed_pr0 : u_groupOf_pr0 ≠ u_ringed_pr0 := Nat.ne_of_lt (by have := OR; omega)
  have ne_u_groupOf_pr0_u_aLiberty_pr0 : u_groupOf_pr0 ≠ u_aLiberty_pr0 := Nat.ne_of_lt (by have := OR; omega)
  have ne_u_colours_pr0_u_stones_pr0 : u_colours_pr0 ≠ u_stones_pr0 := Nat.ne_of_lt (by have := OR; omega)
  have ne_u_colours_pr0_u_liberties_pr0 : u_colours_pr0 ≠ u_liberties_pr0 := Nat.ne_of_lt (by have := OR; omega)
  have ne_u_colours_pr0_u_ringed_pr0 : u_colours_pr0 ≠ u_ringed_pr0 := Nat.ne_of_lt (by have := OR; omega)
  have ne_u_colours_pr0_u_aLiberty_pr0 : u_colours_pr0 ≠ u_aLiberty_pr0 := Nat.ne_of_lt (by have := OR; omega)
  have ne_u_stones_pr0_u_liberties_pr0 : u_stones_pr0 ≠ u_liberties_pr0 := Nat.ne_of_lt (by have := OR; omega)
  have ne_u_stones_pr0_u_ringed_pr0 : u_stones_pr0 ≠ u_ringed_pr0 := Nat.ne_of_lt (by have := OR; omega)
  have ne_u_stones_pr0_u_aLiberty_pr0 : u_stones_pr0 ≠ u_aLiberty_pr0 := Nat.ne_of_lt (by have := OR; omega)
  have ne_u_liberties_pr0_u_ringed_pr0 : u_liberties_pr0 ≠ u_ringed_pr0 := Nat.ne_of_lt (by have := OR; omega)
  have ne_u_liberties_pr0_u_aLiberty_pr0 : u_liberties_pr0 ≠ u_aLiberty_pr0 := Nat.ne_of_lt (by have := OR; omega)
  have ne_u_ringed_pr0_u_aLiberty_pr0 : u_ringed_pr0 ≠ u_aLiberty_pr0 := Nat.ne_of_lt (by have := OR; omega)
  have pre1 : ∀ t, Steps p.tables e below (s₁.setTop (mkF m 1 #[rv pr0, rv pr1, iv pi2, iv pi3, iv pi4] [(.ref pr0)])) t → Go t := fun t kt => pre0 t (by
      refine y_aloadN X0.here hx (hb hby d4_0) rfl rfl (pc' := 1) rfl ?_
      exact kt)
  obtain ⟨T2, X2, e2, st2⟩ := getF X0 hx hZ hown (host := "") (Or.inl (hw _ (List.mem_of_getElem? (i := 18) rfl))) Via.refl e0 F_colours_pr0 (g := (mkF m 1 #[rv pr0, rv pr1, iv pi2, iv pi3, iv pi4] [(.ref pr0)])) rfl rfl (hb hby d4_1)
  have pre3 : ∀ t, Steps p.tables e below (T2.setTop (mkF m 4 #[rv pr0, rv pr1, iv pi2, iv pi3, iv pi4] [(.ref u_colours_pr0)])) t → Go t := fun t kt => pre1 t (st2 t kt)
  have pre4 : ∀ t, Steps p.tables e below (T2.setTop (mkF m 5 #[rv pr0, rv pr1, iv pi2, iv pi3, iv pi4] [(.ref pr0), (.ref u_colours_pr0)])) t → Go t := fun t kt => pre3 t (by
      refine y_aloadN X2.here hx (hb hby d4_4) rfl rfl (pc' := 5) rfl ?_
      exact kt)
  obtain ⟨T5, X5, e5, st5⟩ := getF X2 hx hZ hown (host := "") (Or.inl (hw _ (List.mem_of_getElem? (i := 37) rfl))) Via.refl e2 F_count_pr0 (g := (mkF m 5 #[rv pr0, rv pr1, iv pi2, iv pi3, iv pi4] [(.ref pr0), (.ref u_colours_pr0)])) rfl rfl (hb hby d4_5)
  have pre6 : ∀ t, Steps p.tables e below (T5.setTop (mkF m 8 #[rv pr0, rv pr1, iv pi2, iv pi3, iv pi4] [(.int (0 : Int32)), (.ref u_colours_pr0)])) t → Go t := fun t kt => pre4 t (st5 t kt)
  have pre7 : ∀ t, Steps p.tables e below (T5.setTop (mkF m 9 #[rv pr0, rv pr1, iv pi2, iv pi3, iv pi4] [(.ref pr1), (.int (0 : Int32)), (.ref u_colours_pr0)])) t → Go t := fun t kt => pre6 t (by
      refine y_aloadN X5.here hx (hb hby d4_8) rfl rfl (pc' := 9) rfl ?_
      exact kt)
  obtain ⟨c8, Ar8, q8, S8, M8, H8, G8⟩ := id V_u_colours_pr0
  have hin8 : ¬ ((0 : Int32) < 0 ∨ c8.slots.size ≤ ((0 : Int32)).toNatClampNeg) := inb_of S8 ⟨by decide, L0⟩
  obtain ⟨T9, h9, X9, e9, W9, st9⟩ := stR X5 hx hZ e5 Ar8 (j := (0 : Int32)) hin8 rfl (Sto.ofV Ar8 q8 OV_u_colours_pr0 (Ins.self E_pr1)) (g := (mkF m 9 #[rv pr0, rv pr1, iv pi2, iv pi3, iv pi4] [(.ref pr1), (.int (0 : Int32)), (.ref u_colours_pr0)])) rfl rfl (hb hby d4_9)
  have pre10 : ∀ t, Steps p.tables e below (T9.setTop (mkF m 10 #[rv pr0, rv pr1, iv pi2, iv pi3, iv pi4] [])) t → Go t := fun t kt => pre7 t (st9 t kt)
  have f12 : Arv Z h9 u_liberties_pr0 kk_u_liberties_pr0 .int nn [(.int (0 : Int32)), (.int (0 : Int32))] (.int (0 : Int32)) := (V_u_liberties_pr0.other W9 (Ne.symm ne_u_colours_pr0_u_liberties_pr0))
  have f13 : Arv Z h9 u_aLiberty_pr0 kk_u_aLiberty_pr0 .int nn [(.int (0 : Int32)), (.int (0 : Int32))] (.int (0 : Int32)) := (V_u_aLiberty_pr0.other W9 (Ne.symm ne_u_colours_pr0_u_aLiberty_pr0))
  have f14 : Arv Z h9 u_ringed_pr0 kk_u_ringed_pr0 .boolean nn [(.int (0 : Int32)), (.int (0 : Int32))] (.int (0 : Int32)) := (V_u_ringed_pr0.other W9 (Ne.symm ne_u_colours_pr0_u_ringed_pr0))
  have f15 : Exa Z h9 pr0 "com/example/stonegaze/stonegaze/Groups" := (E_pr0.wr W9)
  have f16 : Fld Z h9 pr0 "com/example/stonegaze/stonegaze/Groups" "groupOf" "[I" (.ref u_groupOf_pr0) := (F_groupOf_pr0.other W9 (Or.inl ne_pr0_u_colours_pr0))
  have f17 : Fld Z h9 pr0 "com/example/stonegaze/stonegaze/Groups" "colours" "[Lcom/example/stonegaze/stonegaze/Side;" (.ref u_colours_pr0) := (F_colours_pr0.other W9 (Or.inl ne_pr0_u_colours_pr0))
  have f18 : Fld Z h9 pr0 "com/example/stonegaze/stonegaze/Groups" "stones" "[I" (.ref u_stones_pr0) := (F_stones_pr0.other W9 (Or.inl ne_pr0_u_colours_pr0))
  have f19 : Fld Z h9 pr0 "com/example/stonegaze/stonegaze/Groups" "liberties" "[I" (.ref u_liberties_pr0) := (F_liberties_pr0.other W9 (Or.inl ne_pr0_u_colours_pr0))
  have f20 : Fld Z h9 pr0 "com/example/stonegaze/stonegaze/Groups" "ringed" "[Z" (.ref u_ringed_pr0) := (F_ringed_pr0.other W9 (Or.inl ne_pr0_u_colours_pr0))
  have f21 : Fld Z h9 pr0 "com/example/stonegaze/stonegaze/Groups" "aLiberty" "[I" (.ref u_aLiberty_pr0) := (F_aLiberty_pr0.other W9 (Or.inl ne_pr0_u_colours_pr0))
  have f22 : Fld Z h9 pr0 "com/example/stonegaze/stonegaze/Groups" "count" "I" (.int (0 : Int32)) := (F_count_pr0.other W9 (Or.inl ne_pr0_u_colours_pr0))
  have f23 : Exa Z h9 pr1 "com/example/stonegaze/stonegaze/Side" := (E_pr1.wr W9)
  have N24 := Fr.snoc X9 N0 G_u_colours_pr0
  have O24 := O0.wr W9 G_u_colours_pr0
  have K24 : Keep h0 h9 [pr0, u_colours_pr0, u_liberties_pr0, u_aLiberty_pr0, u_ringed_pr0] := K0.wr W9 (Or.inl (List.mem_of_getElem? (i := 1) rfl))
  have f25 : Arv Z h9 u_colours_pr0 kk_u_colours_pr0 (.object "com/example/stonegaze/stonegaze/Side") nn [(.ref pr1), .null] .null := Arv.set Ar8 q8 S8 M8 H8 G8 rfl W9 0 rfl (Nat.le_of_ble_eq_true rfl)
  have pre26 : ∀ t, Steps p.tables e below (T9.setTop (mkF m 11 #[rv pr0, rv pr1, iv pi2, iv pi3, iv pi4] [(.ref pr0)])) t → Go t := fun t kt => pre10 t (by
      refine y_aloadN X9.here hx (hb hby d4_10) rfl rfl (pc' := 11) rfl ?_
      exact kt)
  obtain ⟨T27, X27, e27, st27⟩ := getF X9 hx hZ hown (host := "") (Or.inl (hw _ (List.mem_of_getElem? (i := 22) rfl))) Via.refl e9 f19 (g := (mkF m 11 #[rv pr0, rv pr1, iv pi2, iv pi3, iv pi4] [(.ref pr0)])) rfl rfl (hb hby d4_11)
  have pre28 : ∀ t, Steps p.tables e below (T27.setTop (mkF m 14 #[rv pr0, rv pr1, iv pi2, iv pi3, iv pi4] [(.ref u_liberties_pr0)])) t → Go t := fun t kt => pre26 t (st27 t kt)
  have pre29 : ∀ t, Steps p.tables e below (T27.setTop (mkF m 15 #[rv pr0, rv pr1, iv pi2, iv pi3, iv pi4] [(.ref pr0), (.ref u_liberties_pr0)])) t → Go t := fun t kt => pre28 t (by
      refine y_aloadN X27.here hx (hb hby d4_14) rfl rfl (pc' := 15) rfl ?_
      exact kt)
  obtain ⟨T30, X30, e30, st30⟩ := getF X27 hx hZ hown (host := "") (Or.inl (hw _ (List.mem_of_getElem? (i := 37) rfl))) Via.refl e27 f22 (g := (mkF m 15 #[rv pr0, rv pr1, iv pi2, iv pi3, iv pi4] [(.ref pr0), (.ref u_liberties_pr0)])) rfl rfl (hb hby d4_15)
  have pre31 : ∀ t, Steps p.tables e below (T30.setTop (mkF m 18 #[rv pr0, rv pr1, iv pi2, iv pi3, iv pi4] [(.int (0 : Int32)), (.ref u_liberties_pr0)])) t → Go t := fun t kt => pre29 t (st30 t kt)
  have pre32 : ∀ t, Steps p.tables e below (T30.setTop (mkF m 19 #[rv pr0, rv pr1, iv pi2, iv pi3, iv pi4] [(.int pi2), (.int (0 : Int32)), (.ref u_liberties_pr0)])) t → Go t := fun t kt => pre31 t (by
      refine y_iloadN X30.here hx (hb hby d4_18) rfl (pc' := 19) rfl ?_
      exact kt)
  obtain ⟨c33, Ar33, q33, S33, M33, H33, G33⟩ := id f12
  have hin33 : ¬ ((0 : Int32) < 0 ∨ c33.slots.size ≤ ((0 : Int32)).toNatClampNeg) := inb_of S33 ⟨by decide, L0⟩
  obtain ⟨T34, h34, X34, e34, W34, st34⟩ := stI X30 hx hZ e30 Ar33 (j := (0 : Int32)) hin33 (g := (mkF m 19 #[rv pr0, rv pr1, iv pi2, iv pi3, iv pi4] [(.int pi2), (.int (0 : Int32)), (.ref u_liberties_pr0)])) rfl rfl (hb hby d4_19)
  have pre35 : ∀ t, Steps p.tables e below (T34.setTop (mkF m 20 #[rv pr0, rv pr1, iv pi2, iv pi3, iv pi4] [])) t → Go t := fun t kt => pre32 t (st34 t kt)
  have f37 : Arv Z h34 u_aLiberty_pr0 kk_u_aLiberty_pr0 .int nn [(.int (0 : Int32)), (.int (0 : Int32))] (.int (0 : Int32)) := (f13.other W34 (Ne.symm ne_u_liberties_pr0_u_aLiberty_pr0))
  have f38 : Arv Z h34 u_ringed_pr0 kk_u_ringed_pr0 .boolean nn [(.int (0 : Int32)), (.int (0 : Int32))] (.int (0 : Int32)) := (f14.other W34 (Ne.symm ne_u_liberties_pr0_u_ringed_pr0))
  have f39 : Exa Z h34 pr0 "com/example/stonegaze/stonegaze/Groups" := (f15.wr W34)
  have f40 : Fld Z h34 pr0 "com/example/stonegaze/stonegaze/Groups" "groupOf" "[I" (.ref u_groupOf_pr0) := (f16.other W34 (Or.inl ne_pr0_u_liberties_pr0))
  have f41 : Fld Z h34 pr0 "com/example/stonegaze/stonegaze/Groups" "colours" "[Lcom/example/stonegaze/stonegaze/Side;" (.ref u_colours_pr0) := (f17.other W34 (Or.inl ne_pr0_u_liberties_pr0))
  have f42 : Fld Z h34 pr0 "com/example/stonegaze/stonegaze/Groups" "stones" "[I" (.ref u_stones_pr0) := (f18.other W34 (Or.inl ne_pr0_u_liberties_pr0))
  have f43 : Fld Z h34 pr0 "com/example/stonegaze/stonegaze/Groups" "liberties" "[I" (.ref u_liberties_pr0) := (f19.other W34 (Or.inl ne_pr0_u_liberties_pr0))
  have f44 : Fld Z h34 pr0 "com/example/stonegaze/stonegaze/Groups" "ringed" "[Z" (.ref u_ringed_pr0) := (f20.other W34 (Or.inl ne_pr0_u_liberties_pr0))
  have f45 : Fld Z h34 pr0 "com/example/stonegaze/stonegaze/Groups" "aLiberty" "[I" (.ref u_aLiberty_pr0) := (f21.other W34 (Or.inl ne_pr0_u_liberties_pr0))
  have f46 : Fld Z h34 pr0 "com/example/stonegaze/stonegaze/Groups" "count" "I" (.int (0 : Int32)) := (f22.other W34 (Or.inl ne_pr0_u_liberties_pr0))
  have f47 : Exa Z h34 pr1 "com/example/stonegaze/stonegaze/Side" := (f23.wr W34)
  have f48 : Arv Z h34 u_colours_pr0 kk_u_colours_pr0 (.object "com/example/stonegaze/stonegaze/Side") nn [(.ref pr1), .null] .null := (f25.other W34 ne_u_colours_pr0_u_liberties_pr0)
  have N49 := Fr.snoc X34 N24 G_u_liberties_pr0
  have O49 := O24.wr W34 G_u_liberties_pr0
  have K49 : Keep h0 h34 [pr0, u_colours_pr0, u_liberties_pr0, u_aLiberty_pr0, u_ringed_pr0] := K24.wr W34 (Or.inl (List.mem_of_getElem? (i := 2) rfl))
  have f50 : Arv Z h34 u_liberties_pr0 kk_u_liberties_pr0 .int nn [(.int pi2), (.int (0 : Int32))] (.int (0 : Int32)) := Arv.set Ar33 q33 S33 M33 H33 G33 rfl W34 0 rfl (Nat.le_of_ble_eq_true rfl)
  have pre51 : ∀ t, Steps p.tables e below (T34.setTop (mkF m 21 #[rv pr0, rv pr1, iv pi2, iv pi3, iv pi4] [(.ref pr0)])) t → Go t := fun t kt => pre35 t (by
      refine y_aloadN X34.here hx (hb hby d4_20) rfl rfl (pc' := 21) rfl ?_
      exact kt)
  obtain ⟨T52, X52, e52, st52⟩ := getF X34 hx hZ hown (host := "") (Or.inl (hw _ (List.mem_of_getElem? (i := 27) rfl))) Via.refl e34 f45 (g := (mkF m 21 #[rv pr0, rv pr1, iv pi2, iv pi3, iv pi4] [(.ref pr0)])) rfl rfl (hb hby d4_21)
  have pre53 : ∀ t, Steps p.tables e below (T52.setTop (mkF m 24 #[rv pr0, rv pr1, iv pi2, iv pi3, iv pi4] [(.ref u_aLiberty_pr0)])) t → Go t := fun t kt => pre51 t (st52 t kt)
  have pre54 : ∀ t, Steps p.tables e below (T52.setTop (mkF m 25 #[rv pr0, rv pr1, iv pi2, iv pi3, iv pi4] [(.ref pr0), (.ref u_aLiberty_pr0)])) t → Go t := fun t kt => pre53 t (by
      refine y_aloadN X52.here hx (hb hby d4_24) rfl rfl (pc' := 25) rfl ?_
      exact kt)
  obtain ⟨T55, X55, e55, st55⟩ := getF X52 hx hZ hown (host := "") (Or.inl (hw _ (List.mem_of_getElem? (i := 37) rfl))) Via.refl e52 f46 (g := (mkF m 25 #[rv pr0, rv pr1, iv pi2, iv pi3, iv pi4] [(.ref pr0), (.ref u_aLiberty_pr0)])) rfl rfl (hb hby d4_25)
  have pre56 : ∀ t, Steps p.tables e below (T55.setTop (mkF m 28 #[rv pr0, rv pr1, iv pi2, iv pi3, iv pi4] [(.int (0 : Int32)), (.ref u_aLiberty_pr0)])) t → Go t := fun t kt => pre54 t (st55 t kt)
  have pre57 : ∀ t, Steps p.tables e below (T55.setTop (mkF m 29 #[rv pr0, rv pr1, iv pi2, iv pi3, iv pi4] [(.int pi3), (.int (0 : Int32)), (.ref u_aLiberty_pr0)])) t → Go t := fun t kt => pre56 t (by
      refine y_iloadN X55.here hx (hb hby d4_28) rfl (pc' := 29) rfl ?_
      exact kt)
  obtain ⟨c58, Ar58, q58, S58, M58, H58, G58⟩ := id f37
  have hin58 : ¬ ((0 : Int32) < 0 ∨ c58.slots.size ≤ ((0 : Int32)).toNatClampNeg) := inb_of S58 ⟨by decide, L0⟩
  obtain ⟨T59, h59, X59, e59, W59, st59⟩ := stI X55 hx hZ e55 Ar58 (j := (0 : Int32)) hin58 (g := (mkF m 29 #[rv pr0, rv pr1, iv pi2, iv pi3, iv pi4] [(.int pi3), (.int (0 : Int32)), (.ref u_aLiberty_pr0)])) rfl rfl (hb hby d4_29)
  have pre60 : ∀ t, Steps p.tables e below (T59.setTop (mkF m 30 #[rv pr0, rv pr1, iv pi2, iv pi3, iv pi4] [])) t → Go t := fun t kt => pre57 t (st59 t kt)
  have f62 : Arv Z h59 u_ringed_pr0 kk_u_ringed_pr0 .boolean nn [(.int (0 : Int32)), (.int (0 : Int32))] (.int (0 : Int32)) := (f38.other W59 ne_u_ringed_pr0_u_aLiberty_pr0)
  have f63 : Exa Z h59 pr0 "com/example/stonegaze/stonegaze/Groups" := (f39.wr W59)
  have f64 : Fld Z h59 pr0 "com/example/stonegaze/stonegaze/Groups" "groupOf" "[I" (.ref u_groupOf_pr0) := (f40.other W59 (Or.inl ne_pr0_u_aLiberty_pr0))
  have f65 : Fld Z h59 pr0 "com/example/stonegaze/stonegaze/Groups" "colours" "[Lcom/example/stonegaze/stonegaze/Side;" (.ref u_colours_pr0) := (f41.other W59 (Or.inl ne_pr0_u_aLiberty_pr0))
  have f66 : Fld Z h59 pr0 "com/example/stonegaze/stonegaze/Groups" "stones" "[I" (.ref u_stones_pr0) := (f42.other W59 (Or.inl ne_pr0_u_aLiberty_pr0))
  have f67 : Fld Z h59 pr0 "com/example/stonegaze/stonegaze/Groups" "liberties" "[I" (.ref u_liberties_pr0) := (f43.other W59 (Or.inl ne_pr0_u_aLiberty_pr0))
  have f68 : Fld Z h59 pr0 "com/example/stonegaze/stonegaze/Groups" "ringed" "[Z" (.ref u_ringed_pr0) := (f44.other W59 (Or.inl ne_pr0_u_aLiberty_pr0))
  have f69 : Fld Z h59 pr0 "com/example/stonegaze/stonegaze/Groups" "aLiberty" "[I" (.ref u_aLiberty_pr0) := (f45.other W59 (Or.inl ne_pr0_u_aLiberty_pr0))
  have f70 : Fld Z h59 pr0 "com/example/stonegaze/stonegaze/Groups" "count" "I" (.int (0 : Int32)) := (f46.other W59 (Or.inl ne_pr0_u_aLiberty_pr0))
  have f71 : Exa Z h59 pr1 "com/example/stonegaze/stonegaze/Side" := (f47.wr W59)
  have f72 : Arv Z h59 u_colours_pr0 kk_u_colours_pr0 (.object "com/example/stonegaze/stonegaze/Side") nn [(.ref pr1), .null] .null := (f48.other W59 ne_u_colours_pr0_u_aLiberty_pr0)
  have f73 : Arv Z h59 u_liberties_pr0 kk_u_liberties_pr0 .int nn [(.int pi2), (.int (0 : Int32))] (.int (0 : Int32)) := (f50.other W59 ne_u_liberties_pr0_u_aLiberty_pr0)
  have N74 := Fr.snoc X59 N49 G_u_aLiberty_pr0
  have O74 := O49.wr W59 G_u_aLiberty_pr0
  have K74 : Keep h0 h59 [pr0, u_colours_pr0, u_liberties_pr0, u_aLiberty_pr0, u_ringed_pr0] := K49.wr W59 (Or.inl (List.mem_of_getElem? (i := 3) rfl))
  have f75 : Arv Z h59 u_aLiberty_pr0 kk_u_aLiberty_pr0 .int nn [(.int pi3), (.int (0 : Int32))] (.int (0 : Int32)) := Arv.set Ar58 q58 S58 M58 H58 G58 rfl W59 0 rfl (Nat.le_of_ble_eq_true rfl)
  have pre76 : ∀ t, Steps p.tables e below (T59.setTop (mkF m 31 #[rv pr0, rv pr1, iv pi2, iv pi3, iv pi4] [(.ref pr0)])) t → Go t := fun t kt => pre60 t (by
      refine y_aloadN X59.here hx (hb hby d4_30) rfl rfl (pc' := 31) rfl ?_
      exact kt)
  obtain ⟨T77, X77, e77, st77⟩ := getF X59 hx hZ hown (host := "") (Or.inl (hw _ (List.mem_of_getElem? (i := 25) rfl))) Via.refl e59 f68 (g := (mkF m 31 #[rv pr0, rv pr1, iv pi2, iv pi3, iv pi4] [(.ref pr0)])) rfl rfl (hb hby d4_31)
  have pre78 : ∀ t, Steps p.tables e below (T77.setTop (mkF m 34 #[rv pr0, rv pr1, iv pi2, iv pi3, iv pi4] [(.ref u_ringed_pr0)])) t → Go t := fun t kt => pre76 t (st77 t kt)
  have pre79 : ∀ t, Steps p.tables e below (T77.setTop (mkF m 35 #[rv pr0, rv pr1, iv pi2, iv pi3, iv pi4] [(.ref pr0), (.ref u_ringed_pr0)])) t → Go t := fun t kt => pre78 t (by
      refine y_aloadN X77.here hx (hb hby d4_34) rfl rfl (pc' := 35) rfl ?_
      exact kt)
  obtain ⟨T80, X80, e80, st80⟩ := getF X77 hx hZ hown (host := "") (Or.inl (hw _ (List.mem_of_getElem? (i := 37) rfl))) Via.refl e77 f70 (g := (mkF m 35 #[rv pr0, rv pr1, iv pi2, iv pi3, iv pi4] [(.ref pr0), (.ref u_ringed_pr0)])) rfl rfl (hb hby d4_35)
  have pre81 : ∀ t, Steps p.tables e below (T80.setTop (mkF m 38 #[rv pr0, rv pr1, iv pi2, iv pi3, iv pi4] [(.int (0 : Int32)), (.ref u_ringed_pr0)])) t → Go t := fun t kt => pre79 t (st80 t kt)
  have pre82 : ∀ t, Steps p.tables e below (T80.setTop (mkF m 40 #[rv pr0, rv pr1, iv pi2, iv pi3, iv pi4] [(.int pi4), (.int (0 : Int32)), (.ref u_ringed_pr0)])) t → Go t := fun t kt => pre81 t (by
      refine y_iload X80.here hx (hb hby d4_38) rfl (pc' := 40) rfl ?_
      exact kt)
  obtain ⟨c83, Ar83, q83, S83, M83, H83, G83⟩ := id f62
  have hin83 : ¬ ((0 : Int32) < 0 ∨ c83.slots.size ≤ ((0 : Int32)).toNatClampNeg) := inb_of S83 ⟨by decide, L0⟩
  obtain ⟨T84, h84, X84, e84, W84, st84⟩ := stZ X80 hx hZ e80 Ar83 (j := (0 : Int32)) hin83 (g := (mkF m 40 #[rv pr0, rv pr1, iv pi2, iv pi3, iv pi4] [(.int pi4), (.int (0 : Int32)), (.ref u_ringed_pr0)])) rfl rfl (hb hby d4_40)
  have pre85 : ∀ t, Steps p.tables e below (T84.setTop (mkF m 41 #[rv pr0, rv pr1, iv pi2, iv pi3, iv pi4] [])) t → Go t := fun t kt => pre82 t (st84 t kt)
  have f87 : Exa Z h84 pr0 "com/example/stonegaze/stonegaze/Groups" := (f63.wr W84)
  have f88 : Fld Z h84 pr0 "com/example/stonegaze/stonegaze/Groups" "groupOf" "[I" (.ref u_groupOf_pr0) := (f64.other W84 (Or.inl ne_pr0_u_ringed_pr0))
  have f89 : Fld Z h84 pr0 "com/example/stonegaze/stonegaze/Groups" "colours" "[Lcom/example/stonegaze/stonegaze/Side;" (.ref u_colours_pr0) := (f65.other W84 (Or.inl ne_pr0_u_ringed_pr0))
  have f90 : Fld Z h84 pr0 "com/example/stonegaze/stonegaze/Groups" "stones" "[I" (.ref u_stones_pr0) := (f66.other W84 (Or.inl ne_pr0_u_ringed_pr0))
  have f91 : Fld Z h84 pr0 "com/example/stonegaze/stonegaze/Groups" "liberties" "[I" (.ref u_liberties_pr0) := (f67.other W84 (Or.inl ne_pr0_u_ringed_pr0))
  have f92 : Fld Z h84 pr0 "com/example/stonegaze/stonegaze/Groups" "ringed" "[Z" (.ref u_ringed_pr0) := (f68.other W84 (Or.inl ne_pr0_u_ringed_pr0))
  have f93 : Fld Z h84 pr0 "com/example/stonegaze/stonegaze/Groups" "aLiberty" "[I" (.ref u_aLiberty_pr0) := (f69.other W84 (Or.inl ne_pr0_u_ringed_pr0))
  have f94 : Fld Z h84 pr0 "com/example/stonegaze/stonegaze/Groups" "count" "I" (.int (0 : Int32)) := (f70.other W84 (Or.inl ne_pr0_u_ringed_pr0))
  have f95 : Exa Z h84 pr1 "com/example/stonegaze/stonegaze/Side" := (f71.wr W84)
  have f96 : Arv Z h84 u_colours_pr0 kk_u_colours_pr0 (.object "com/example/stonegaze/stonegaze/Side") nn [(.ref pr1), .null] .null := (f72.other W84 ne_u_colours_pr0_u_ringed_pr0)
  have f97 : Arv Z h84 u_liberties_pr0 kk_u_liberties_pr0 .int nn [(.int pi2), (.int (0 : Int32))] (.int (0 : Int32)) := (f73.other W84 ne_u_liberties_pr0_u_ringed_pr0)
  have f98 : Arv Z h84 u_aLiberty_pr0 kk_u_aLiberty_pr0 .int nn [(.int pi3), (.int (0 : Int32))] (.int (0 : Int32)) := (f75.other W84 (Ne.symm ne_u_ringed_pr0_u_aLiberty_pr0))
  have N99 := Fr.snoc X84 N74 G_u_ringed_pr0
  have O99 := O74.wr W84 G_u_ringed_pr0
  have K99 : Keep h0 h84 [pr0, u_colours_pr0, u_liberties_pr0, u_aLiberty_pr0, u_ringed_pr0] := K74.wr W84 (Or.inl (List.mem_of_getElem? (i := 4) rfl))
  have f100 : Arv Z h84 u_ringed_pr0 kk_u_ringed_pr0 .boolean nn [(.int (nar .boolean pi4)), (.int (0 : Int32))] (.int (0 : Int32)) := Arv.set Ar83 q83 S83 M83 H83 G83 (fits_nar_bool _) W84 0 rfl (Nat.le_of_ble_eq_true rfl)
  have pre101 : ∀ t, Steps p.tables e below (T84.setTop (mkF m 43 #[rv pr0, rv pr1, iv pi2, iv pi3, iv pi4] [(.ref pr0), (.ref pr0)])) t → Go t := fun t kt => pre85 t (by
      refine y_aloadN X84.here hx (hb hby d4_41) rfl rfl (pc' := 42) rfl ?_
      refine y_dup X84.here hx (hb hby d4_42) rfl (pc' := 43) rfl ?_
      exact kt)
  obtain ⟨T102, X102, e102, st102⟩ := getF X84 hx hZ hown (host := "") (Or.inl (hw _ (List.mem_of_getElem? (i := 37) rfl))) Via.refl e84 f94 (g := (mkF m 43 #[rv pr0, rv pr1, iv pi2, iv pi3, iv pi4] [(.ref pr0), (.ref pr0)])) rfl rfl (hb hby d4_43)
  have pre103 : ∀ t, Steps p.tables e below (T102.setTop (mkF m 46 #[rv pr0, rv pr1, iv pi2, iv pi3, iv pi4] [(.int (0 : Int32)), (.ref pr0)])) t → Go t := fun t kt => pre101 t (st102 t kt)
  have pre104 : ∀ t, Steps p.tables e below (T102.setTop (mkF m 48 #[rv pr0, rv pr1, iv pi2, iv pi3, iv pi4] [(.int (1 : Int32)), (.ref pr0)])) t → Go t := fun t kt => pre103 t (by
      refine y_iconst X102.here hx (hb hby d4_46) (v := (1 : Int32)) rfl (pc' := 47) rfl ?_
      refine y_iadd X102.here hx (hb hby d4_47) (z := (1 : Int32)) rfl (pc' := 48) rfl ?_
      exact kt)
  obtain ⟨T105, h105, X105, e105, W105, st105⟩ := putF X102 hx hZ hown (host := "") (Or.inl (hw _ (List.mem_of_getElem? (i := 37) rfl))) Via.refl e102 f94 f87 (Or.inl (hw _ (List.mem_of_getElem? (i := 38) rfl))) (hw _ (List.mem_of_getElem? (i := 1) rfl)) (ty := .int) (by decide) rfl rfl (g := (mkF m 48 #[rv pr0, rv pr1, iv pi2, iv pi3, iv pi4] [(.int (1 : Int32)), (.ref pr0)])) rfl rfl (hb hby d4_48)
  have pre106 : ∀ t, Steps p.tables e below (T105.setTop (mkF m 51 #[rv pr0, rv pr1, iv pi2, iv pi3, iv pi4] [])) t → Go t := fun t kt => pre104 t (st105 t kt)
  have f107 : Exa Z h105 pr0 "com/example/stonegaze/stonegaze/Groups" := (f87.wr W105)
  have f108 : Fld Z h105 pr0 "com/example/stonegaze/stonegaze/Groups" "groupOf" "[I" (.ref u_groupOf_pr0) := (f88.other W105 (Or.inr (slot_ne (Or.inr (hw _ (List.mem_of_getElem? (i := 11) rfl))) (Or.inl (hw _ (List.mem_of_getElem? (i := 38) rfl))) (by decide) (t := (.array .int)) (t' := .int) (by decide) (by decide))))
  have f109 : Fld Z h105 pr0 "com/example/stonegaze/stonegaze/Groups" "colours" "[Lcom/example/stonegaze/stonegaze/Side;" (.ref u_colours_pr0) := (f89.other W105 (Or.inr (slot_ne (Or.inr (hw _ (List.mem_of_getElem? (i := 19) rfl))) (Or.inl (hw _ (List.mem_of_getElem? (i := 38) rfl))) (by decide) (t := (.array (.object "com/example/stonegaze/stonegaze/Side"))) (t' := .int) (by decide) (by decide))))
  have f110 : Fld Z h105 pr0 "com/example/stonegaze/stonegaze/Groups" "stones" "[I" (.ref u_stones_pr0) := (f90.other W105 (Or.inr (slot_ne (Or.inr (hw _ (List.mem_of_getElem? (i := 21) rfl))) (Or.inl (hw _ (List.mem_of_getElem? (i := 38) rfl))) (by decide) (t := (.array .int)) (t' := .int) (by decide) (by decide))))
  have f111 : Fld Z h105 pr0 "com/example/stonegaze/stonegaze/Groups" "liberties" "[I" (.ref u_liberties_pr0) := (f91.other W105 (Or.inr (slot_ne (Or.inr (hw _ (List.mem_of_getElem? (i := 23) rfl))) (Or.inl (hw _ (List.mem_of_getElem? (i := 38) rfl))) (by decide) (t := (.array .int)) (t' := .int) (by decide) (by decide))))
  have f112 : Fld Z h105 pr0 "com/example/stonegaze/stonegaze/Groups" "ringed" "[Z" (.ref u_ringed_pr0) := (f92.other W105 (Or.inr (slot_ne (Or.inr (hw _ (List.mem_of_getElem? (i := 26) rfl))) (Or.inl (hw _ (List.mem_of_getElem? (i := 38) rfl))) (by decide) (t := (.array .boolean)) (t' := .int) (by decide) (by decide))))
  have f113 : Fld Z h105 pr0 "com/example/stonegaze/stonegaze/Groups" "aLiberty" "[I" (.ref u_aLiberty_pr0) := (f93.other W105 (Or.inr (slot_ne (Or.inr (hw _ (List.mem_of_getElem? (i := 28) rfl))) (Or.inl (hw _ (List.mem_of_getElem? (i := 38) rfl))) (by decide) (t := (.array .int)) (t' := .int) (by decide) (by decide))))
  have f115 : Exa Z h105 pr1 "com/example/stonegaze/stonegaze/Side" := (f95.wr W105)
  have f116 : Arv Z h105 u_colours_pr0 kk_u_colours_pr0 (.object "com/example/stonegaze/stonegaze/Side") nn [(.ref pr1), .null] .null := (f96.other W105 (Ne.symm ne_pr0_u_colours_pr0))
  have f117 : Arv Z h105 u_liberties_pr0 kk_u_liberties_pr0 .int nn [(.int pi2), (.int (0 : Int32))] (.int (0 : Int32)) := (f97.other W105 (Ne.symm ne_pr0_u_liberties_pr0))
  have f118 : Arv Z h105 u_aLiberty_pr0 kk_u_aLiberty_pr0 .int nn [(.int pi3), (.int (0 : Int32))] (.int (0 : Int32)) := (f98.other W105 (Ne.symm ne_pr0_u_aLiberty_pr0))
  have f119 : Arv Z h105 u_ringed_pr0 kk_u_ringed_pr0 .boolean nn [(.int (nar .boolean pi4)), (.int (0 : Int32))] (.int (0 : Int32)) := (f100.other W105 (Ne.symm ne_pr0_u_ringed_pr0))
  have f120 : Fld Z h105 pr0 "com/example/stonegaze/stonegaze/Groups" "count" "I" (.int (1 : Int32)) := f94.same W105
  have N121 := Fr.snoc X105 N99 G_pr0
  have O121 := O99.wr W105 G_pr0
  have K121 : Keep h0 h105 [pr0, u_colours_pr0, u_liberties_pr0, u_aLiberty_pr0, u_ringed_pr0] := K99.wr W105 (Or.inl (List.mem_of_getElem? (i := 0) rfl))
  have pre122 : ∀ t, Steps p.tables e below (T105.setTop (mkF m 52 #[rv pr0, rv pr1, iv pi2, iv pi3, iv pi4] [(.ref pr0)])) t → Go t := fun t kt => pre106 t (by
      refine y_aloadN X105.here hx (hb hby d4_51) rfl rfl (pc' := 52) rfl ?_
      exact kt)
  obtain ⟨T123, X123, e123, st123⟩ := getF X105 hx hZ hown (host := "") (Or.inl (hw _ (List.mem_of_getElem? (i := 37) rfl))) Via.refl e105 f120 (g := (mkF m 52 #[rv pr0, rv pr1, iv pi2, iv pi3, iv pi4] [(.ref pr0)])) rfl rfl (hb hby d4_52)
  have pre124 : ∀ t, Steps p.tables e below (T123.setTop (mkF m 55 #[rv pr0, rv pr1, iv pi2, iv pi3, iv pi4] [(.int (1 : Int32))])) t → Go t := fun t kt => pre122 t (st123 t kt)
  have pre125 : ∀ t, Steps p.tables e below (T123.setTop (mkF m 57 #[rv pr0, rv pr1, iv pi2, iv pi3, iv pi4] [(.int (0 : Int32))])) t → Go t := fun t kt => pre124 t (by
      refine y_iconst X123.here hx (hb hby d4_55) (v := (1 : Int32)) rfl (pc' := 56) rfl ?_
      refine y_isub X123.here hx (hb hby d4_56) (z := (0 : Int32)) rfl (pc' := 57) rfl ?_
      exact kt)
  obtain ⟨fs, hr, hrun, hended, hW, hsame⟩ := X123.leave (v := some (.int (0 : Int32))) (fun h => by rw [Bd.returns] at h; cases h)
  refine ⟨_, _, (hGo _).mp (pre125 _ ?_), hrun, hended, _, _, rfl, ?_, ⟨_, rfl⟩, hW, hsame.mono (by decide) (by decide)⟩
  · exact retOut X123 hx Bd.returns rfl (Or.inl ⟨rfl, Or.inl rfl, _, rfl⟩) (hb hby d4_57) hr
  · show Q4c0 Z pr0 pr1 pi2 pi3 pi4 u_groupOf_pr0 u_colours_pr0 u_stones_pr0 u_liberties_pr0 u_ringed_pr0 u_aLiberty_pr0 nn kk_u_colours_pr0 kk_u_liberties_pr0 kk_u_aLiberty_pr0 kk_u_ringed_pr0 h0 n0 _ T123.heap _
    rw [e123]
    exact ⟨rfl, N121, K121, f108, f109, f110, f111, f112, f113, f120, f116, f117, f118, f119⟩
theorem ef_4c1 (m : MethodId) (x0 : Addr) (x1 : Addr) (x2 : Int32) (x3 : Int32) (x4 : Int32) : entryFrame m #[(.ref x0), (.ref x1), (.int x2), (.int x3), (.int x4)] 5 = mkF m 0 #[rv x0, rv x1, iv x2, iv x3, iv x4] [] := by first | (simp [entryFrame, mkF, argsToLocals, Value.category]; done) | rfl
def Q4c1 (Z : State) (pr0 : Addr) (pr1 : Addr) (pi2 : Int32) (pi3 : Int32) (pi4 : Int32) (u_groupOf_pr0 : Addr) (u_colours_pr0 : Addr) (u_stones_pr0 : Addr) (u_liberties_pr0 : Addr) (u_ringed_pr0 : Addr) (u_aLiberty_pr0 : Addr) (nn : Int32) (kk_u_colours_pr0 : ClassId) (y_c0 : Addr) (kk_u_liberties_pr0 : ClassId) (y_l0 : Int32) (kk_u_aLiberty_pr0 : ClassId) (y_a0 : Int32) (kk_u_ringed_pr0 : ClassId) (y_r0 : Int32) (h0 : Heap) (n0 : Nat) (v : Option Value) (h : Heap) (L : List Loc) : Prop := v = some (.int (1 : Int32)) ∧ Fr n0 L ∧ Keep h0 h [pr0, u_colours_pr0, u_liberties_pr0, u_aLiberty_pr0, u_ringed_pr0] ∧ Fld Z h pr0 "com/example/stonegaze/stonegaze/Groups" "groupOf" "[I" (.ref u_groupOf_pr0) ∧ Fld Z h pr0 "com/example/stonegaze/stonegaze/Groups" "colours" "[Lcom/example/stonegaze/stonegaze/Side;" (.ref u_colours_pr0) ∧ Fld Z h pr0 "com/example/stonegaze/stonegaze/Groups" "stones" "[I" (.ref u_stones_pr0) ∧ Fld Z h pr0 "com/example/stonegaze/stonegaze/Groups" "liberties" "[I" (.ref u_liberties_pr0) ∧ Fld Z h pr0 "com/example/stonegaze/stonegaze/Groups" "ringed" "[Z" (.ref u_ringed_pr0) ∧ Fld Z h pr0 "com/example/stonegaze/stonegaze/Groups" "aLiberty" "[I" (.ref u_aLiberty_pr0) ∧ Fld Z h pr0 "com/example/stonegaze/stonegaze/Groups" "count" "I" (.int (2 : Int32)) ∧ Arv Z h u_colours_pr0 kk_u_colours_pr0 (.object "com/example/stonegaze/stonegaze/Side") nn [(.ref y_c0), (.ref pr1)] .null ∧ Arv Z h u_liberties_pr0 kk_u_liberties_pr0 .int nn [(.int y_l0), (.int pi2)] (.int (0 : Int32)) ∧ Arv Z h u_aLiberty_pr0 kk_u_aLiberty_pr0 .int nn [(.int y_a0), (.int pi3)] (.int (0 : Int32)) ∧ Arv Z h u_ringed_pr0 kk_u_ringed_pr0 .boolean nn [(.int y_r0), (.int (nar .boolean pi4))] (.int (0 : Int32))
set_option maxRecDepth 65536 in
set_option maxHeartbeats 40000000 in
theorem rm4c1 (l : Launch) (Z : State) (a0 : Array Value) (hw : ∀ d ∈ tables_1, d.before a0 Z = true) (ws : List Jvm.Cond) (pr0 : Addr) (pr1 : Addr) (pi2 : Int32) (pi3 : Int32) (pi4 : Int32) (u_groupOf_pr0 : Addr) (u_colours_pr0 : Addr) (u_stones_pr0 : Addr) (u_liberties_pr0 : Addr) (u_ringed_pr0 : Addr) (u_aLiberty_pr0 : Addr) (nn : Int32) (kk_u_colours_pr0 : ClassId) (y_c0 : Addr) (kk_u_liberties_pr0 : ClassId) (y_l0 : Int32) (kk_u_aLiberty_pr0 : ClassId) (y_a0 : Int32) (kk_u_ringed_pr0 : ClassId) (y_r0 : Int32) (h0 : Heap) (n0 : Nat) (O0 : Old Z n0 h0) (E_pr0 : Exa Z h0 pr0 "com/example/stonegaze/stonegaze/Groups") (F_groupOf_pr0 : Fld Z h0 pr0 "com/example/stonegaze/stonegaze/Groups" "groupOf" "[I" (.ref u_groupOf_pr0)) (F_colours_pr0 : Fld Z h0 pr0 "com/example/stonegaze/stonegaze/Groups" "colours" "[Lcom/example/stonegaze/stonegaze/Side;" (.ref u_colours_pr0)) (F_stones_pr0 : Fld Z h0 pr0 "com/example/stonegaze/stonegaze/Groups" "stones" "[I" (.ref u_stones_pr0)) (F_liberties_pr0 : Fld Z h0 pr0 "com/example/stonegaze/stonegaze/Groups" "liberties" "[I" (.ref u_liberties_pr0)) (F_ringed_pr0 : Fld Z h0 pr0 "com/example/stonegaze/stonegaze/Groups" "ringed" "[Z" (.ref u_ringed_pr0)) (F_aLiberty_pr0 : Fld Z h0 pr0 "com/example/stonegaze/stonegaze/Groups" "aLiberty" "[I" (.ref u_aLiberty_pr0)) (F_count_pr0 : Fld Z h0 pr0 "com/example/stonegaze/stonegaze/Groups" "count" "I" (.int (1 : Int32))) (E_pr1 : Exa Z h0 pr1 "com/example/stonegaze/stonegaze/Side") (G_pr0 : n0 ≤ pr0) (G_u_colours_pr0 : n0 ≤ u_colours_pr0) (G_u_liberties_pr0 : n0 ≤ u_liberties_pr0) (G_u_aLiberty_pr0 : n0 ≤ u_aLiberty_pr0) (G_u_ringed_pr0 : n0 ≤ u_ringed_pr0) (OR : @LT.lt Nat instLTNat pr0 u_groupOf_pr0 ∧ @LT.lt Nat instLTNat u_groupOf_pr0 u_colours_pr0 ∧ @LT.lt Nat instLTNat u_colours_pr0 u_stones_pr0 ∧ @LT.lt Nat instLTNat u_stones_pr0 u_liberties_pr0 ∧ @LT.lt Nat instLTNat u_liberties_pr0 u_ringed_pr0 ∧ @LT.lt Nat instLTNat u_ringed_pr0 u_aLiberty_pr0) (L0 : (0 : Int32) < nn) (L1 : (1 : Int32) < nn) (V_u_colours_pr0 : Arv Z h0 u_colours_pr0 kk_u_colours_pr0 (.object "com/example/stonegaze/stonegaze/Side") nn [(.ref y_c0), .null] .null) (OV_u_colours_pr0 : Ovr Z kk_u_colours_pr0 "com/example/stonegaze/stonegaze/Side") (V_u_liberties_pr0 : Arv Z h0 u_liberties_pr0 kk_u_liberties_pr0 .int nn [(.int y_l0), (.int (0 : Int32))] (.int (0 : Int32))) (V_u_aLiberty_pr0 : Arv Z h0 u_aLiberty_pr0 kk_u_aLiberty_pr0 .int nn [(.int y_a0), (.int (0 : Int32))] (.int (0 : Int32))) (V_u_ringed_pr0 : Arv Z h0 u_ringed_pr0 kk_u_ringed_pr0 .boolean nn [(.int y_r0), (.int (0 : Int32))] (.int (0 : Int32))) :
    MetFree l (⟨"com/example/stonegaze/stonegaze/Groups", "add", "(Lcom/example/stonegaze/stonegaze/Side;IIZ)I"⟩ : MethodName) (head1 (Jvm.Cond.code (⟨"com/example/stonegaze/stonegaze/Groups", "add", "(Lcom/example/stonegaze/stonegaze/Side;IIZ)I"⟩ : MethodName) prog_17_method_2_code 5 (some .int) :: ws) ({ frames := 0, cells := 0, slots := 0, locals := 0 } : Room)) (fun a U => a = #[(.ref pr0), (.ref pr1), (.int pi2), (.int pi3), (.int pi4)] ∧ Z.Warmed39 U.vm ∧ U.heap = h0) (fun _ _ _ _ _ => True) (fun _ U o U' => ∃ v L, o = .returned v ∧ Q4c1 Z pr0 pr1 pi2 pi3 pi4 u_groupOf_pr0 u_colours_pr0 u_stones_pr0 u_liberties_pr0 u_ringed_pr0 u_aLiberty_pr0 nn kk_u_colours_pr0 y_c0 kk_u_liberties_pr0 y_l0 kk_u_aLiberty_pr0 y_a0 kk_u_ringed_pr0 y_r0 h0 n0 v U'.heap L ∧ FrameEnd U o U' L ({ frames := 0, cells := 0, slots := 0, locals := 0 } : Room).cells ({ frames := 0, cells := 0, slots := 0, locals := 0 } : Room).slots) := by
  refine MetFree.of_bodySF (plainFor_of_name pn_com_example_stonegaze_stonegaze_Groups) hisR ?_
  intro p e s m args below meth c s₁ Bd hml0 hP hK
  obtain ⟨rfl, hZ, hh⟩ := hP
  have hx := Bd.exec
  have hby := Bd.bytes
  have hml : c.maxLocals = 5 := hml0
  have hown : s.vm.findClass "com/example/stonegaze/stonegaze/Groups" = some m.cls := findClass_of_methodNamed Bd.named
  have hnm := (name_of_methodNamed Bd.named Bd.method).1
  have X0 : Stand p l e ({ frames := 0, cells := 0, slots := 0, locals := 0 } : Room) s m #[(.ref pr0), (.ref pr1), (.int pi2), (.int pi3), (.int pi4)] below meth c s₁ [] 0 0 := Stand.of_body Bd
  have e0 : s₁.heap = h0 := by rw [← hh, Bd.state]; rfl
  have N0 := Fr.nil n0
  obtain ⟨Go, hGo⟩ : ∃ P : State → Prop, ∀ t, P t ↔ Steps p.tables e below (s₁.setTop (entryFrame m #[(.ref pr0), (.ref pr1), (.int pi2), (.int pi3), (.int pi4)] 5)) t := ⟨_, fun _ => Iff.rfl⟩
  have pre0 : ∀ t, Steps p.tables e below (s₁.setTop (mkF m 0 #[rv pr0, rv pr1, iv pi2, iv pi3, iv pi4] [])) t → Go t := fun t k => (hGo t).mpr (castTop (ef_4c1 m pr0 pr1 pi2 pi3 pi4) k)
  have K0 : Keep h0 h0 [pr0, u_colours_pr0, u_liberties_pr0, u_aLiberty_pr0, u_ringed_pr0] := Keep.refl _ _
  have ne_pr0_u_groupOf_pr0 : pr0 ≠ u_groupOf_pr0 := Nat.ne_of_lt (by have := OR; omega)
  have ne_pr0_u_colours_pr0 : pr0 ≠ u_colours_pr0 := Nat.ne_of_lt (by have := OR; omega)
  have ne_pr0_u_stones_pr0 : pr0 ≠ u_stones_pr0 := Nat.ne_of_lt (by have := OR; omega)
  have ne_pr0_u_liberties_pr0 : pr0 ≠ u_liberties_pr0 := Nat.ne_of_lt (by have := OR; omega)
  have ne_pr0_u_ringed_pr0 : pr0 ≠ u_ringed_pr0 := Nat.ne_of_lt (by have := OR; omega)
  have ne_pr0_u_aLiberty_pr0 : pr0 ≠ u_aLiberty_pr0 := Nat.ne_of_lt (by have := OR; omega)
  have ne_u_groupOf_pr0_u_colours_pr0 : u_groupOf_pr0 ≠ u_colours_pr0 := Nat.ne_of_lt (by have := OR; omega)
  have ne_u_groupOf_pr0_u_stones_pr0 : u_groupOf_pr0 ≠ u_stones_pr0 := Nat.ne_of_lt (by have := OR; omega)
  have ne_u_groupOf_pr0_u_liberties_pr0 : u_groupOf_pr0 ≠ u_liberties_pr0 := Nat.ne_of_lt (by have := OR; omega)
  have ne_u_groupOf_pr0_u_ringed_pr0 : u_groupOf_pr0 ≠ u_ringed_pr0 := Nat.ne_of_lt (by have := OR; omega)
  have ne_u_groupOf_pr0_u_aLiberty_pr0 : u_groupOf_pr0 ≠ u_aLiberty_pr0 := Nat.ne_of_lt (by have := OR; omega)
  have ne_u_colours_pr0_u_stones_pr0 : u_colours_pr0 ≠ u_stones_pr0 := Nat.ne_of_lt (by have := OR; omega)
  have ne_u_colours_pr0_u_liberties_pr0 : u_colours_pr0 ≠ u_liberties_pr0 := Nat.ne_of_lt (by have := OR; omega)
  have ne_u_colours_pr0_u_ringed_pr0 : u_colours_pr0 ≠ u_ringed_pr0 := Nat.ne_of_lt (by have := OR; omega)
  have ne_u_colours_pr0_u_aLiberty_pr0 : u_colours_pr0 ≠ u_aLiberty_pr0 := Nat.ne_of_lt (by have := OR; omega)
  have ne_u_stones_pr0_u_liberties_pr0 : u_stones_pr0 ≠ u_liberties_pr0 := Nat.ne_of_lt (by have := OR; omega)
  have ne_u_stones_pr0_u_ringed_pr0 : u_stones_pr0 ≠ u_ringed_pr0 := Nat.ne_of_lt (by have := OR; omega)
  have ne_u_stones_pr0_u_aLiberty_pr0 : u_stones_pr0 ≠ u_aLiberty_pr0 := Nat.ne_of_lt (by have := OR; omega)
  have ne_u_liberties_pr0_u_ringed_pr0 : u_liberties_pr0 ≠ u_ringed_pr0 := Nat.ne_of_lt (by have := OR; omega)
  have ne_u_liberties_pr0_u_aLiberty_pr0 : u_liberties_pr0 ≠ u_aLiberty_pr0 := Nat.ne_of_lt (by have := OR; omega)
  have ne_u_ringed_pr0_u_aLiberty_pr0 : u_ringed_pr0 ≠ u_aLiberty_pr0 := Nat.ne_of_lt (by have := OR; omega)
  have pre1 : ∀ t, Steps p.tables e below (s₁.setTop (mkF m 1 #[rv pr0, rv pr1, iv pi2, iv pi3, iv pi4] [(.ref pr0)])) t → Go t := fun t kt => pre0 t (by
      refine y_aloadN X0.here hx (hb hby d4_0) rfl rfl (pc' := 1) rfl ?_
      exact kt)
  obtain ⟨T2, X2, e2, st2⟩ := getF X0 hx hZ hown (host := "") (Or.inl (hw _ (List.mem_of_getElem? (i := 18) rfl))) Via.refl e0 F_colours_pr0 (g := (mkF m 1 #[rv pr0, rv pr1, iv pi2, iv pi3, iv pi4] [(.ref pr0)])) rfl rfl (hb hby d4_1)
  have pre3 : ∀ t, Steps p.tables e below (T2.setTop (mkF m 4 #[rv pr0, rv pr1, iv pi2, iv pi3, iv pi4] [(.ref u_colours_pr0)])) t → Go t := fun t kt => pre1 t (st2 t kt)
  have pre4 : ∀ t, Steps p.tables e below (T2.setTop (mkF m 5 #[rv pr0, rv pr1, iv pi2, iv pi3, iv pi4] [(.ref pr0), (.ref u_colours_pr0)])) t → Go t := fun t kt => pre3 t (by
      refine y_aloadN X2.here hx (hb hby d4_4) rfl rfl (pc' := 5) rfl ?_
      exact kt)
  obtain ⟨T5, X5, e5, st5⟩ := getF X2 hx hZ hown (host := "") (Or.inl (hw _ (List.mem_of_getElem? (i := 37) rfl))) Via.refl e2 F_count_pr0 (g := (mkF m 5 #[rv pr0, rv pr1, iv pi2, iv pi3, iv pi4] [(.ref pr0), (.ref u_colours_pr0)])) rfl rfl (hb hby d4_5)
  have pre6 : ∀ t, Steps p.tables e below (T5.setTop (mkF m 8 #[rv pr0, rv pr1, iv pi2, iv pi3, iv pi4] [(.int (1 : Int32)), (.ref u_colours_pr0)])) t → Go t := fun t kt => pre4 t (st5 t kt)
  have pre7 : ∀ t, Steps p.tables e below (T5.setTop (mkF m 9 #[rv pr0, rv pr1, iv pi2, iv pi3, iv pi4] [(.ref pr1), (.int (1 : Int32)), (.ref u_colours_pr0)])) t → Go t := fun t kt => pre6 t (by
      refine y_aloadN X5.here hx (hb hby d4_8) rfl rfl (pc' := 9) rfl ?_
      exact kt)
  obtain ⟨c8, Ar8, q8, S8, M8, H8, G8⟩ := id V_u_colours_pr0
  have hin8 : ¬ ((1 : Int32) < 0 ∨ c8.slots.size ≤ ((1 : Int32)).toNatClampNeg) := inb_of S8 ⟨by decide, L1⟩
  obtain ⟨T9, h9, X9, e9, W9, st9⟩ := stR X5 hx hZ e5 Ar8 (j := (1 : Int32)) hin8 rfl (Sto.ofV Ar8 q8 OV_u_colours_pr0 (Ins.self E_pr1)) (g := (mkF m 9 #[rv pr0, rv pr1, iv pi2, iv pi3, iv pi4] [(.ref pr1), (.int (1 : Int32)), (.ref u_colours_pr0)])) rfl rfl (hb hby d4_9)
  have pre10 : ∀ t, Steps p.tables e below (T9.setTop (mkF m 10 #[rv pr0, rv pr1, iv pi2, iv pi3, iv pi4] [])) t → Go t := fun t kt => pre7 t (st9 t kt)
  have f12 : Arv Z h9 u_liberties_pr0 kk_u_liberties_pr0 .int nn [(.int y_l0), (.int (0 : Int32))] (.int (0 : Int32)) := (V_u_liberties_pr0.other W9 (Ne.symm ne_u_colours_pr0_u_liberties_pr0))
  have f13 : Arv Z h9 u_aLiberty_pr0 kk_u_aLiberty_pr0 .int nn [(.int y_a0), (.int (0 : Int32))] (.int (0 : Int32)) := (V_u_aLiberty_pr0.other W9 (Ne.symm ne_u_colours_pr0_u_aLiberty_pr0))
  have f14 : Arv Z h9 u_ringed_pr0 kk_u_ringed_pr0 .boolean nn [(.int y_r0), (.int (0 : Int32))] (.int (0 : Int32)) := (V_u_ringed_pr0.other W9 (Ne.symm ne_u_colours_pr0_u_ringed_pr0))
  have f15 : Exa Z h9 pr0 "com/example/stonegaze/stonegaze/Groups" := (E_pr0.wr W9)
  have f16 : Fld Z h9 pr0 "com/example/stonegaze/stonegaze/Groups" "groupOf" "[I" (.ref u_groupOf_pr0) := (F_groupOf_pr0.other W9 (Or.inl ne_pr0_u_colours_pr0))
  have f17 : Fld Z h9 pr0 "com/example/stonegaze/stonegaze/Groups" "colours" "[Lcom/example/stonegaze/stonegaze/Side;" (.ref u_colours_pr0) := (F_colours_pr0.other W9 (Or.inl ne_pr0_u_colours_pr0))
  have f18 : Fld Z h9 pr0 "com/example/stonegaze/stonegaze/Groups" "stones" "[I" (.ref u_stones_pr0) := (F_stones_pr0.other W9 (Or.inl ne_pr0_u_colours_pr0))
  have f19 : Fld Z h9 pr0 "com/example/stonegaze/stonegaze/Groups" "liberties" "[I" (.ref u_liberties_pr0) := (F_liberties_pr0.other W9 (Or.inl ne_pr0_u_colours_pr0))
  have f20 : Fld Z h9 pr0 "com/example/stonegaze/stonegaze/Groups" "ringed" "[Z" (.ref u_ringed_pr0) := (F_ringed_pr0.other W9 (Or.inl ne_pr0_u_colours_pr0))
  have f21 : Fld Z h9 pr0 "com/example/stonegaze/stonegaze/Groups" "aLiberty" "[I" (.ref u_aLiberty_pr0) := (F_aLiberty_pr0.other W9 (Or.inl ne_pr0_u_colours_pr0))
  have f22 : Fld Z h9 pr0 "com/example/stonegaze/stonegaze/Groups" "count" "I" (.int (1 : Int32)) := (F_count_pr0.other W9 (Or.inl ne_pr0_u_colours_pr0))
  have f23 : Exa Z h9 pr1 "com/example/stonegaze/stonegaze/Side" := (E_pr1.wr W9)
  have N24 := Fr.snoc X9 N0 G_u_colours_pr0
  have O24 := O0.wr W9 G_u_colours_pr0
  have K24 : Keep h0 h9 [pr0, u_colours_pr0, u_liberties_pr0, u_aLiberty_pr0, u_ringed_pr0] := K0.wr W9 (Or.inl (List.mem_of_getElem? (i := 1) rfl))
  have f25 : Arv Z h9 u_colours_pr0 kk_u_colours_pr0 (.object "com/example/stonegaze/stonegaze/Side") nn [(.ref y_c0), (.ref pr1)] .null := Arv.set Ar8 q8 S8 M8 H8 G8 rfl W9 1 rfl (Nat.le_of_ble_eq_true rfl)
  have pre26 : ∀ t, Steps p.tables e below (T9.setTop (mkF m 11 #[rv pr0, rv pr1, iv pi2, iv pi3, iv pi4] [(.ref pr0)])) t → Go t := fun t kt => pre10 t (by
      refine y_aloadN X9.here hx (hb hby d4_10) rfl rfl (pc' := 11) rfl ?_
      exact kt)
  obtain ⟨T27, X27, e27, st27⟩ := getF X9 hx hZ hown (host := "") (Or.inl (hw _ (List.mem_of_getElem? (i := 22) rfl))) Via.refl e9 f19 (g := (mkF m 11 #[rv pr0, rv pr1, iv pi2, iv pi3, iv pi4] [(.ref pr0)])) rfl rfl (hb hby d4_11)
  have pre28 : ∀ t, Steps p.tables e below (T27.setTop (mkF m 14 #[rv pr0, rv pr1, iv pi2, iv pi3, iv pi4] [(.ref u_liberties_pr0)])) t → Go t := fun t kt => pre26 t (st27 t kt)
  have pre29 : ∀ t, Steps p.tables e below (T27.setTop (mkF m 15 #[rv pr0, rv pr1, iv pi2, iv pi3, iv pi4] [(.ref pr0), (.ref u_liberties_pr0)])) t → Go t := fun t kt => pre28 t (by
      refine y_aloadN X27.here hx (hb hby d4_14) rfl rfl (pc' := 15) rfl ?_
      exact kt)
  obtain ⟨T30, X30, e30, st30⟩ := getF X27 hx hZ hown (host := "") (Or.inl (hw _ (List.mem_of_getElem? (i := 37) rfl))) Via.refl e27 f22 (g := (mkF m 15 #[rv pr0, rv pr1, iv pi2, iv pi3, iv pi4] [(.ref pr0), (.ref u_liberties_pr0)])) rfl rfl (hb hby d4_15)
  have pre31 : ∀ t, Steps p.tables e below (T30.setTop (mkF m 18 #[rv pr0, rv pr1, iv pi2, iv pi3, iv pi4] [(.int (1 : Int32)), (.ref u_liberties_pr0)])) t → Go t := fun t kt => pre29 t (st30 t kt)
  have pre32 : ∀ t, Steps p.tables e below (T30.setTop (mkF m 19 #[rv pr0, rv pr1, iv pi2, iv pi3, iv pi4] [(.int pi2), (.int (1 : Int32)), (.ref u_liberties_pr0)])) t → Go t := fun t kt => pre31 t (by
      refine y_iloadN X30.here hx (hb hby d4_18) rfl (pc' := 19) rfl ?_
      exact kt)
  obtain ⟨c33, Ar33, q33, S33, M33, H33, G33⟩ := id f12
  have hin33 : ¬ ((1 : Int32) < 0 ∨ c33.slots.size ≤ ((1 : Int32)).toNatClampNeg) := inb_of S33 ⟨by decide, L1⟩
  obtain ⟨T34, h34, X34, e34, W34, st34⟩ := stI X30 hx hZ e30 Ar33 (j := (1 : Int32)) hin33 (g := (mkF m 19 #[rv pr0, rv pr1, iv pi2, iv pi3, iv pi4] [(.int pi2), (.int (1 : Int32)), (.ref u_liberties_pr0)])) rfl rfl (hb hby d4_19)
  have pre35 : ∀ t, Steps p.tables e below (T34.setTop (mkF m 20 #[rv pr0, rv pr1, iv pi2, iv pi3, iv pi4] [])) t → Go t := fun t kt => pre32 t (st34 t kt)
  have f37 : Arv Z h34 u_aLiberty_pr0 kk_u_aLiberty_pr0 .int nn [(.int y_a0), (.int (0 : Int32))] (.int (0 : Int32)) := (f13.other W34 (Ne.symm ne_u_liberties_pr0_u_aLiberty_pr0))
  have f38 : Arv Z h34 u_ringed_pr0 kk_u_ringed_pr0 .boolean nn [(.int y_r0), (.int (0 : Int32))] (.int (0 : Int32)) := (f14.other W34 (Ne.symm ne_u_liberties_pr0_u_ringed_pr0))
  have f39 : Exa Z h34 pr0 "com/example/stonegaze/stonegaze/Groups" := (f15.wr W34)
  have f40 : Fld Z h34 pr0 "com/example/stonegaze/stonegaze/Groups" "groupOf" "[I" (.ref u_groupOf_pr0) := (f16.other W34 (Or.inl ne_pr0_u_liberties_pr0))
  have f41 : Fld Z h34 pr0 "com/example/stonegaze/stonegaze/Groups" "colours" "[Lcom/example/stonegaze/stonegaze/Side;" (.ref u_colours_pr0) := (f17.other W34 (Or.inl ne_pr0_u_liberties_pr0))
  have f42 : Fld Z h34 pr0 "com/example/stonegaze/stonegaze/Groups" "stones" "[I" (.ref u_stones_pr0) := (f18.other W34 (Or.inl ne_pr0_u_liberties_pr0))
  have f43 : Fld Z h34 pr0 "com/example/stonegaze/stonegaze/Groups" "liberties" "[I" (.ref u_liberties_pr0) := (f19.other W34 (Or.inl ne_pr0_u_liberties_pr0))
  have f44 : Fld Z h34 pr0 "com/example/stonegaze/stonegaze/Groups" "ringed" "[Z" (.ref u_ringed_pr0) := (f20.other W34 (Or.inl ne_pr0_u_liberties_pr0))
  have f45 : Fld Z h34 pr0 "com/example/stonegaze/stonegaze/Groups" "aLiberty" "[I" (.ref u_aLiberty_pr0) := (f21.other W34 (Or.inl ne_pr0_u_liberties_pr0))
  have f46 : Fld Z h34 pr0 "com/example/stonegaze/stonegaze/Groups" "count" "I" (.int (1 : Int32)) := (f22.other W34 (Or.inl ne_pr0_u_liberties_pr0))
  have f47 : Exa Z h34 pr1 "com/example/stonegaze/stonegaze/Side" := (f23.wr W34)
  have f48 : Arv Z h34 u_colours_pr0 kk_u_colours_pr0 (.object "com/example/stonegaze/stonegaze/Side") nn [(.ref y_c0), (.ref pr1)] .null := (f25.other W34 ne_u_colours_pr0_u_liberties_pr0)
  have N49 := Fr.snoc X34 N24 G_u_liberties_pr0
  have O49 := O24.wr W34 G_u_liberties_pr0
  have K49 : Keep h0 h34 [pr0, u_colours_pr0, u_liberties_pr0, u_aLiberty_pr0, u_ringed_pr0] := K24.wr W34 (Or.inl (List.mem_of_getElem? (i := 2) rfl))
  have f50 : Arv Z h34 u_liberties_pr0 kk_u_liberties_pr0 .int nn [(.int y_l0), (.int pi2)] (.int (0 : Int32)) := Arv.set Ar33 q33 S33 M33 H33 G33 rfl W34 1 rfl (Nat.le_of_ble_eq_true rfl)
  have pre51 : ∀ t, Steps p.tables e below (T34.setTop (mkF m 21 #[rv pr0, rv pr1, iv pi2, iv pi3, iv pi4] [(.ref pr0)])) t → Go t := fun t kt => pre35 t (by
      refine y_aloadN X34.here hx (hb hby d4_20) rfl rfl (pc' := 21) rfl ?_
      exact kt)
  obtain ⟨T52, X52, e52, st52⟩ := getF X34 hx hZ hown (host := "") (Or.inl (hw _ (List.mem_of_getElem? (i := 27) rfl))) Via.refl e34 f45 (g := (mkF m 21 #[rv pr0, rv pr1, iv pi2, iv pi3, iv pi4] [(.ref pr0)])) rfl rfl (hb hby d4_21)
  have pre53 : ∀ t, Steps p.tables e below (T52.setTop (mkF m 24 #[rv pr0, rv pr1, iv pi2, iv pi3, iv pi4] [(.ref u_aLiberty_pr0)])) t → Go t := fun t kt => pre51 t (st52 t kt)
  have pre54 : ∀ t, Steps p.tables e below (T52.setTop (mkF m 25 #[rv pr0, rv pr1, iv pi2, iv pi3, iv pi4] [(.ref pr0), (.ref u_aLiberty_pr0)])) t → Go t := fun t kt => pre53 t (by
      refine y_aloadN X52.here hx (hb hby d4_24) rfl rfl (pc' := 25) rfl ?_
      exact kt)
  obtain ⟨T55, X55, e55, st55⟩ := getF X52 hx hZ hown (host := "") (Or.inl (hw _ (List.mem_of_getElem? (i := 37) rfl))) Via.refl e52 f46 (g := (mkF m 25 #[rv pr0, rv pr1, iv pi2, iv pi3, iv pi4] [(.ref pr0), (.ref u_aLiberty_pr0)])) rfl rfl (hb hby d4_25)
  have pre56 : ∀ t, Steps p.tables e below (T55.setTop (mkF m 28 #[rv pr0, rv pr1, iv pi2, iv pi3, iv pi4] [(.int (1 : Int32)), (.ref u_aLiberty_pr0)])) t → Go t := fun t kt => pre54 t (st55 t kt)
  have pre57 : ∀ t, Steps p.tables e below (T55.setTop (mkF m 29 #[rv pr0, rv pr1, iv pi2, iv pi3, iv pi4] [(.int pi3), (.int (1 : Int32)), (.ref u_aLiberty_pr0)])) t → Go t := fun t kt => pre56 t (by
      refine y_iloadN X55.here hx (hb hby d4_28) rfl (pc' := 29) rfl ?_
      exact kt)
  obtain ⟨c58, Ar58, q58, S58, M58, H58, G58⟩ := id f37
  have hin58 : ¬ ((1 : Int32) < 0 ∨ c58.slots.size ≤ ((1 : Int32)).toNatClampNeg) := inb_of S58 ⟨by decide, L1⟩
  obtain ⟨T59, h59, X59, e59, W59, st59⟩ := stI X55 hx hZ e55 Ar58 (j := (1 : Int32)) hin58 (g := (mkF m 29 #[rv pr0, rv pr1, iv pi2, iv pi3, iv pi4] [(.int pi3), (.int (1 : Int32)), (.ref u_aLiberty_pr0)])) rfl rfl (hb hby d4_29)
  have pre60 : ∀ t, Steps p.tables e below (T59.setTop (mkF m 30 #[rv pr0, rv pr1, iv pi2, iv pi3, iv pi4] [])) t → Go t := fun t kt => pre57 t (st59 t kt)
  have f62 : Arv Z h59 u_ringed_pr0 kk_u_ringed_pr0 .boolean nn [(.int y_r0), (.int (0 : Int32))] (.int (0 : Int32)) := (f38.other W59 ne_u_ringed_pr0_u_aLiberty_pr0)
  have f63 : Exa Z h59 pr0 "com/example/stonegaze/stonegaze/Groups" := (f39.wr W59)
  have f64 : Fld Z h59 pr0 "com/example/stonegaze/stonegaze/Groups" "groupOf" "[I" (.ref u_groupOf_pr0) := (f40.other W59 (Or.inl ne_pr0_u_aLiberty_pr0))
  have f65 : Fld Z h59 pr0 "com/example/stonegaze/stonegaze/Groups" "colours" "[Lcom/example/stonegaze/stonegaze/Side;" (.ref u_colours_pr0) := (f41.other W59 (Or.inl ne_pr0_u_aLiberty_pr0))
  have f66 : Fld Z h59 pr0 "com/example/stonegaze/stonegaze/Groups" "stones" "[I" (.ref u_stones_pr0) := (f42.other W59 (Or.inl ne_pr0_u_aLiberty_pr0))
  have f67 : Fld Z h59 pr0 "com/example/stonegaze/stonegaze/Groups" "liberties" "[I" (.ref u_liberties_pr0) := (f43.other W59 (Or.inl ne_pr0_u_aLiberty_pr0))
  have f68 : Fld Z h59 pr0 "com/example/stonegaze/stonegaze/Groups" "ringed" "[Z" (.ref u_ringed_pr0) := (f44.other W59 (Or.inl ne_pr0_u_aLiberty_pr0))
  have f69 : Fld Z h59 pr0 "com/example/stonegaze/stonegaze/Groups" "aLiberty" "[I" (.ref u_aLiberty_pr0) := (f45.other W59 (Or.inl ne_pr0_u_aLiberty_pr0))
  have f70 : Fld Z h59 pr0 "com/example/stonegaze/stonegaze/Groups" "count" "I" (.int (1 : Int32)) := (f46.other W59 (Or.inl ne_pr0_u_aLiberty_pr0))
  have f71 : Exa Z h59 pr1 "com/example/stonegaze/stonegaze/Side" := (f47.wr W59)
  have f72 : Arv Z h59 u_colours_pr0 kk_u_colours_pr0 (.object "com/example/stonegaze/stonegaze/Side") nn [(.ref y_c0), (.ref pr1)] .null := (f48.other W59 ne_u_colours_pr0_u_aLiberty_pr0)
  have f73 : Arv Z h59 u_liberties_pr0 kk_u_liberties_pr0 .int nn [(.int y_l0), (.int pi2)] (.int (0 : Int32)) := (f50.other W59 ne_u_liberties_pr0_u_aLiberty_pr0)
  have N74 := Fr.snoc X59 N49 G_u_aLiberty_pr0
  have O74 := O49.wr W59 G_u_aLiberty_pr0
  have K74 : Keep h0 h59 [pr0, u_colours_pr0, u_liberties_pr0, u_aLiberty_pr0, u_ringed_pr0] := K49.wr W59 (Or.inl (List.mem_of_getElem? (i := 3) rfl))
  have f75 : Arv Z h59 u_aLiberty_pr0 kk_u_aLiberty_pr0 .int nn [(.int y_a0), (.int pi3)] (.int (0 : Int32)) := Arv.set Ar58 q58 S58 M58 H58 G58 rfl W59 1 rfl (Nat.le_of_ble_eq_true rfl)
  have pre76 : ∀ t, Steps p.tables e below (T59.setTop (mkF m 31 #[rv pr0, rv pr1, iv pi2, iv pi3, iv pi4] [(.ref pr0)])) t → Go t := fun t kt => pre60 t (by
      refine y_aloadN X59.here hx (hb hby d4_30) rfl rfl (pc' := 31) rfl ?_
      exact kt)
  obtain ⟨T77, X77, e77, st77⟩ := getF X59 hx hZ hown (host := "") (Or.inl (hw _ (List.mem_of_getElem? (i := 25) rfl))) Via.refl e59 f68 (g := (mkF m 31 #[rv pr0, rv pr1, iv pi2, iv pi3, iv pi4] [(.ref pr0)])) rfl rfl (hb hby d4_31)
  have pre78 : ∀ t, Steps p.tables e below (T77.setTop (mkF m 34 #[rv pr0, rv pr1, iv pi2, iv pi3, iv pi4] [(.ref u_ringed_pr0)])) t → Go t := fun t kt => pre76 t (st77 t kt)
  have pre79 : ∀ t, Steps p.tables e below (T77.setTop (mkF m 35 #[rv pr0, rv pr1, iv pi2, iv pi3, iv pi4] [(.ref pr0), (.ref u_ringed_pr0)])) t → Go t := fun t kt => pre78 t (by
      refine y_aloadN X77.here hx (hb hby d4_34) rfl rfl (pc' := 35) rfl ?_
      exact kt)
  obtain ⟨T80, X80, e80, st80⟩ := getF X77 hx hZ hown (host := "") (Or.inl (hw _ (List.mem_of_getElem? (i := 37) rfl))) Via.refl e77 f70 (g := (mkF m 35 #[rv pr0, rv pr1, iv pi2, iv pi3, iv pi4] [(.ref pr0), (.ref u_ringed_pr0)])) rfl rfl (hb hby d4_35)
  have pre81 : ∀ t, Steps p.tables e below (T80.setTop (mkF m 38 #[rv pr0, rv pr1, iv pi2, iv pi3, iv pi4] [(.int (1 : Int32)), (.ref u_ringed_pr0)])) t → Go t := fun t kt => pre79 t (st80 t kt)
  have pre82 : ∀ t, Steps p.tables e below (T80.setTop (mkF m 40 #[rv pr0, rv pr1, iv pi2, iv pi3, iv pi4] [(.int pi4), (.int (1 : Int32)), (.ref u_ringed_pr0)])) t → Go t := fun t kt => pre81 t (by
      refine y_iload X80.here hx (hb hby d4_38) rfl (pc' := 40) rfl ?_
      exact kt)
  obtain ⟨c83, Ar83, q83, S83, M83, H83, G83⟩ := id f62
  have hin83 : ¬ ((1 : Int32) < 0 ∨ c83.slots.size ≤ ((1 : Int32)).toNatClampNeg) := inb_of S83 ⟨by decide, L1⟩
  obtain ⟨T84, h84, X84, e84, W84, st84⟩ := stZ X80 hx hZ e80 Ar83 (j := (1 : Int32)) hin83 (g := (mkF m 40 #[rv pr0, rv pr1, iv pi2, iv pi3, iv pi4] [(.int pi4), (.int (1 : Int32)), (.ref u_ringed_pr0)])) rfl rfl (hb hby d4_40)
  have pre85 : ∀ t, Steps p.tables e below (T84.setTop (mkF m 41 #[rv pr0, rv pr1, iv pi2, iv pi3, iv pi4] [])) t → Go t := fun t kt => pre82 t (st84 t kt)
  have f87 : Exa Z h84 pr0 "com/example/stonegaze/stonegaze/Groups" := (f63.wr W84)
  have f88 : Fld Z h84 pr0 "com/example/stonegaze/stonegaze/Groups" "groupOf" "[I" (.ref u_groupOf_pr0) := (f64.other W84 (Or.inl ne_pr0_u_ringed_pr0))
  have f89 : Fld Z h84 pr0 "com/example/stonegaze/stonegaze/Groups" "colours" "[Lcom/example/stonegaze/stonegaze/Side;" (.ref u_colours_pr0) := (f65.other W84 (Or.inl ne_pr0_u_ringed_pr0))
  have f90 : Fld Z h84 pr0 "com/example/stonegaze/stonegaze/Groups" "stones" "[I" (.ref u_stones_pr0) := (f66.other W84 (Or.inl ne_pr0_u_ringed_pr0))
  have f91 : Fld Z h84 pr0 "com/example/stonegaze/stonegaze/Groups" "liberties" "[I" (.ref u_liberties_pr0) := (f67.other W84 (Or.inl ne_pr0_u_ringed_pr0))
  have f92 : Fld Z h84 pr0 "com/example/stonegaze/stonegaze/Groups" "ringed" "[Z" (.ref u_ringed_pr0) := (f68.other W84 (Or.inl ne_pr0_u_ringed_pr0))
  have f93 : Fld Z h84 pr0 "com/example/stonegaze/stonegaze/Groups" "aLiberty" "[I" (.ref u_aLiberty_pr0) := (f69.other W84 (Or.inl ne_pr0_u_ringed_pr0))
  have f94 : Fld Z h84 pr0 "com/example/stonegaze/stonegaze/Groups" "count" "I" (.int (1 : Int32)) := (f70.other W84 (Or.inl ne_pr0_u_ringed_pr0))
  have f95 : Exa Z h84 pr1 "com/example/stonegaze/stonegaze/Side" := (f71.wr W84)
  have f96 : Arv Z h84 u_colours_pr0 kk_u_colours_pr0 (.object "com/example/stonegaze/stonegaze/Side") nn [(.ref y_c0), (.ref pr1)] .null := (f72.other W84 ne_u_colours_pr0_u_ringed_pr0)
  have f97 : Arv Z h84 u_liberties_pr0 kk_u_liberties_pr0 .int nn [(.int y_l0), (.int pi2)] (.int (0 : Int32)) := (f73.other W84 ne_u_liberties_pr0_u_ringed_pr0)
  have f98 : Arv Z h84 u_aLiberty_pr0 kk_u_aLiberty_pr0 .int nn [(.int y_a0), (.int pi3)] (.int (0 : Int32)) := (f75.other W84 (Ne.symm ne_u_ringed_pr0_u_aLiberty_pr0))
  have N99 := Fr.snoc X84 N74 G_u_ringed_pr0
  have O99 := O74.wr W84 G_u_ringed_pr0
  have K99 : Keep h0 h84 [pr0, u_colours_pr0, u_liberties_pr0, u_aLiberty_pr0, u_ringed_pr0] := K74.wr W84 (Or.inl (List.mem_of_getElem? (i := 4) rfl))
  have f100 : Arv Z h84 u_ringed_pr0 kk_u_ringed_pr0 .boolean nn [(.int y_r0), (.int (nar .boolean pi4))] (.int (0 : Int32)) := Arv.set Ar83 q83 S83 M83 H83 G83 (fits_nar_bool _) W84 1 rfl (Nat.le_of_ble_eq_true rfl)
  have pre101 : ∀ t, Steps p.tables e below (T84.setTop (mkF m 43 #[rv pr0, rv pr1, iv pi2, iv pi3, iv pi4] [(.ref pr0), (.ref pr0)])) t → Go t := fun t kt => pre85 t (by
      refine y_aloadN X84.here hx (hb hby d4_41) rfl rfl (pc' := 42) rfl ?_
      refine y_dup X84.here hx (hb hby d4_42) rfl (pc' := 43) rfl ?_
      exact kt)
  obtain ⟨T102, X102, e102, st102⟩ := getF X84 hx hZ hown (host := "") (Or.inl (hw _ (List.mem_of_getElem? (i := 37) rfl))) Via.refl e84 f94 (g := (mkF m 43 #[rv pr0, rv pr1, iv pi2, iv pi3, iv pi4] [(.ref pr0), (.ref pr0)])) rfl rfl (hb hby d4_43)
  have pre103 : ∀ t, Steps p.tables e below (T102.setTop (mkF m 46 #[rv pr0, rv pr1, iv pi2, iv pi3, iv pi4] [(.int (1 : Int32)), (.ref pr0)])) t → Go t := fun t kt => pre101 t (st102 t kt)
  have pre104 : ∀ t, Steps p.tables e below (T102.setTop (mkF m 48 #[rv pr0, rv pr1, iv pi2, iv pi3, iv pi4] [(.int (2 : Int32)), (.ref pr0)])) t → Go t := fun t kt => pre103 t (by
      refine y_iconst X102.here hx (hb hby d4_46) (v := (1 : Int32)) rfl (pc' := 47) rfl ?_
      refine y_iadd X102.here hx (hb hby d4_47) (z := (2 : Int32)) rfl (pc' := 48) rfl ?_
      exact kt)
  obtain ⟨T105, h105, X105, e105, W105, st105⟩ := putF X102 hx hZ hown (host := "") (Or.inl (hw _ (List.mem_of_getElem? (i := 37) rfl))) Via.refl e102 f94 f87 (Or.inl (hw _ (List.mem_of_getElem? (i := 38) rfl))) (hw _ (List.mem_of_getElem? (i := 1) rfl)) (ty := .int) (by decide) rfl rfl (g := (mkF m 48 #[rv pr0, rv pr1, iv pi2, iv pi3, iv pi4] [(.int (2 : Int32)), (.ref pr0)])) rfl rfl (hb hby d4_48)
  have pre106 : ∀ t, Steps p.tables e below (T105.setTop (mkF m 51 #[rv pr0, rv pr1, iv pi2, iv pi3, iv pi4] [])) t → Go t := fun t kt => pre104 t (st105 t kt)
  have f107 : Exa Z h105 pr0 "com/example/stonegaze/stonegaze/Groups" := (f87.wr W105)
  have f108 : Fld Z h105 pr0 "com/example/stonegaze/stonegaze/Groups" "groupOf" "[I" (.ref u_groupOf_pr0) := (f88.other W105 (Or.inr (slot_ne (Or.inr (hw _ (List.mem_of_getElem? (i := 11) rfl))) (Or.inl (hw _ (List.mem_of_getElem? (i := 38) rfl))) (by decide) (t := (.array .int)) (t' := .int) (by decide) (by decide))))
  have f109 : Fld Z h105 pr0 "com/example/stonegaze/stonegaze/Groups" "colours" "[Lcom/example/stonegaze/stonegaze/Side;" (.ref u_colours_pr0) := (f89.other W105 (Or.inr (slot_ne (Or.inr (hw _ (List.mem_of_getElem? (i := 19) rfl))) (Or.inl (hw _ (List.mem_of_getElem? (i := 38) rfl))) (by decide) (t := (.array (.object "com/example/stonegaze/stonegaze/Side"))) (t' := .int) (by decide) (by decide))))
  have f110 : Fld Z h105 pr0 "com/example/stonegaze/stonegaze/Groups" "stones" "[I" (.ref u_stones_pr0) := (f90.other W105 (Or.inr (slot_ne (Or.inr (hw _ (List.mem_of_getElem? (i := 21) rfl))) (Or.inl (hw _ (List.mem_of_getElem? (i := 38) rfl))) (by decide) (t := (.array .int)) (t' := .int) (by decide) (by decide))))
  have f111 : Fld Z h105 pr0 "com/example/stonegaze/stonegaze/Groups" "liberties" "[I" (.ref u_liberties_pr0) := (f91.other W105 (Or.inr (slot_ne (Or.inr (hw _ (List.mem_of_getElem? (i := 23) rfl))) (Or.inl (hw _ (List.mem_of_getElem? (i := 38) rfl))) (by decide) (t := (.array .int)) (t' := .int) (by decide) (by decide))))
  have f112 : Fld Z h105 pr0 "com/example/stonegaze/stonegaze/Groups" "ringed" "[Z" (.ref u_ringed_pr0) := (f92.other W105 (Or.inr (slot_ne (Or.inr (hw _ (List.mem_of_getElem? (i := 26) rfl))) (Or.inl (hw _ (List.mem_of_getElem? (i := 38) rfl))) (by decide) (t := (.array .boolean)) (t' := .int) (by decide) (by decide))))
  have f113 : Fld Z h105 pr0 "com/example/stonegaze/stonegaze/Groups" "aLiberty" "[I" (.ref u_aLiberty_pr0) := (f93.other W105 (Or.inr (slot_ne (Or.inr (hw _ (List.mem_of_getElem? (i := 28) rfl))) (Or.inl (hw _ (List.mem_of_getElem? (i := 38) rfl))) (by decide) (t := (.array .int)) (t' := .int) (by decide) (by decide))))
  have f115 : Exa Z h105 pr1 "com/example/stonegaze/stonegaze/Side" := (f95.wr W105)
  have f116 : Arv Z h105 u_colours_pr0 kk_u_colours_pr0 (.object "com/example/stonegaze/stonegaze/Side") nn [(.ref y_c0), (.ref pr1)] .null := (f96.other W105 (Ne.symm ne_pr0_u_colours_pr0))
  have f117 : Arv Z h105 u_liberties_pr0 kk_u_liberties_pr0 .int nn [(.int y_l0), (.int pi2)] (.int (0 : Int32)) := (f97.other W105 (Ne.symm ne_pr0_u_liberties_pr0))
  have f118 : Arv Z h105 u_aLiberty_pr0 kk_u_aLiberty_pr0 .int nn [(.int y_a0), (.int pi3)] (.int (0 : Int32)) := (f98.other W105 (Ne.symm ne_pr0_u_aLiberty_pr0))
  have f119 : Arv Z h105 u_ringed_pr0 kk_u_ringed_pr0 .boolean nn [(.int y_r0), (.int (nar .boolean pi4))] (.int (0 : Int32)) := (f100.other W105 (Ne.symm ne_pr0_u_ringed_pr0))
  have f120 : Fld Z h105 pr0 "com/example/stonegaze/stonegaze/Groups" "count" "I" (.int (2 : Int32)) := f94.same W105
  have N121 := Fr.snoc X105 N99 G_pr0
  have O121 := O99.wr W105 G_pr0
  have K121 : Keep h0 h105 [pr0, u_colours_pr0, u_liberties_pr0, u_aLiberty_pr0, u_ringed_pr0] := K99.wr W105 (Or.inl (List.mem_of_getElem? (i := 0) rfl))
  have pre122 : ∀ t, Steps p.tables e below (T105.setTop (mkF m 52 #[rv pr0, rv pr1, iv pi2, iv pi3, iv pi4] [(.ref pr0)])) t → Go t := fun t kt => pre106 t (by
      refine y_aloadN X105.here hx (hb hby d4_51) rfl rfl (pc' := 52) rfl ?_
      exact kt)
  obtain ⟨T123, X123, e123, st123⟩ := getF X105 hx hZ hown (host := "") (Or.inl (hw _ (List.mem_of_getElem? (i := 37) rfl))) Via.refl e105 f120 (g := (mkF m 52 #[rv pr0, rv pr1, iv pi2, iv pi3, iv pi4] [(.ref pr0)])) rfl rfl (hb hby d4_52)
  have pre124 : ∀ t, Steps p.tables e below (T123.setTop (mkF m 55 #[rv pr0, rv pr1, iv pi2, iv pi3, iv pi4] [(.int (2 : Int32))])) t → Go t := fun t kt => pre122 t (st123 t kt)
  have pre125 : ∀ t, Steps p.tables e below (T123.setTop (mkF m 57 #[rv pr0, rv pr1, iv pi2, iv pi3, iv pi4] [(.int (1 : Int32))])) t → Go t := fun t kt => pre124 t (by
      refine y_iconst X123.here hx (hb hby d4_55) (v := (1 : Int32)) rfl (pc' := 56) rfl ?_
      refine y_isub X123.here hx (hb hby d4_56) (z := (1 : Int32)) rfl (pc' := 57) rfl ?_
      exact kt)
  obtain ⟨fs, hr, hrun, hended, hW, hsame⟩ := X123.leave (v := some (.int (1 : Int32))) (fun h => by rw [Bd.returns] at h; cases h)
  refine ⟨_, _, (hGo _).mp (pre125 _ ?_), hrun, hended, _, _, rfl, ?_, ⟨_, rfl⟩, hW, hsame.mono (by decide) (by decide)⟩
  · exact retOut X123 hx Bd.returns rfl (Or.inl ⟨rfl, Or.inl rfl, _, rfl⟩) (hb hby d4_57) hr
  · show Q4c1 Z pr0 pr1 pi2 pi3 pi4 u_groupOf_pr0 u_colours_pr0 u_stones_pr0 u_liberties_pr0 u_ringed_pr0 u_aLiberty_pr0 nn kk_u_colours_pr0 y_c0 kk_u_liberties_pr0 y_l0 kk_u_aLiberty_pr0 y_a0 kk_u_ringed_pr0 y_r0 h0 n0 _ T123.heap _
    rw [e123]
    exact ⟨rfl, N121, K121, f108, f109, f110, f111, f112, f113, f120, f116, f117, f118, f119⟩
theorem d5_0 : decode prog_17_method_3_code 0 = .ok (.aload_n 0, 1) := by decide +kernel
theorem d5_1 : decode prog_17_method_3_code 1 = .ok (.getfield 7, 3) := by decide +kernel
theorem d5_4 : decode prog_17_method_3_code 4 = .ok (.iload_n 2, 1) := by decide +kernel
theorem d5_5 : decode prog_17_method_3_code 5 = .ok (.iload_n 1, 1) := by decide +kernel
theorem d5_6 : decode prog_17_method_3_code 6 = .ok (.iastore, 1) := by decide +kernel
theorem d5_7 : decode prog_17_method_3_code 7 = .ok (.aload_n 0, 1) := by decide +kernel
theorem d5_8 : decode prog_17_method_3_code 8 = .ok (.getfield 25, 3) := by decide +kernel
theorem d5_11 : decode prog_17_method_3_code 11 = .ok (.iload_n 1, 1) := by decide +kernel
theorem d5_12 : decode prog_17_method_3_code 12 = .ok (.dup2, 1) := by decide +kernel
theorem d5_13 : decode prog_17_method_3_code 13 = .ok (.iaload, 1) := by decide +kernel
theorem d5_14 : decode prog_17_method_3_code 14 = .ok (.iconst 1, 1) := by decide +kernel
theorem d5_15 : decode prog_17_method_3_code 15 = .ok (.iadd, 1) := by decide +kernel
theorem d5_16 : decode prog_17_method_3_code 16 = .ok (.iastore, 1) := by decide +kernel
theorem d5_17 : decode prog_17_method_3_code 17 = .ok (.return_, 1) := by decide +kernel
theorem ef_5g0 (m : MethodId) (x0 : Addr) (x2 : Int32) : entryFrame m #[(.ref x0), (.int (0 : Int32)), (.int x2)] 3 = mkF m 0 #[rv x0, iv (0 : Int32), iv x2] [] := by first | (simp [entryFrame, mkF, argsToLocals, Value.category]; done) | rfl
def Q5g0 (Z : State) (pr0 : Addr) (pi2 : Int32) (u_groupOf_pr0 : Addr) (u_stones_pr0 : Addr) (nn : Int32) (kk_u_groupOf_pr0 : ClassId) (hs : List (Int32 × Value)) (kk_u_stones_pr0 : ClassId) (y0_stones : Int32) (y1_stones : Int32) (h0 : Heap) (n0 : Nat) (v : Option Value) (h : Heap) (L : List Loc) : Prop := v = none ∧ Fr n0 L ∧ Keep h0 h [u_groupOf_pr0, u_stones_pr0] ∧ Arh Z h u_groupOf_pr0 kk_u_groupOf_pr0 .int nn ((pi2, (.int (0 : Int32))) :: hs) [] (.int (-1 : Int32)) ∧ Arv Z h u_stones_pr0 kk_u_stones_pr0 .int nn [(.int (y0_stones + (1 : Int32))), (.int y1_stones)] (.int (0 : Int32))
set_option maxRecDepth 65536 in
set_option maxHeartbeats 40000000 in
theorem rm5g0 (l : Launch) (Z : State) (a0 : Array Value) (hw : ∀ d ∈ tables_1, d.before a0 Z = true) (ws : List Jvm.Cond) (pr0 : Addr) (pi2 : Int32) (u_groupOf_pr0 : Addr) (u_stones_pr0 : Addr) (nn : Int32) (kk_u_groupOf_pr0 : ClassId) (hs : List (Int32 × Value)) (kk_u_stones_pr0 : ClassId) (y0_stones : Int32) (y1_stones : Int32) (h0 : Heap) (n0 : Nat) (O0 : Old Z n0 h0) (E_pr0 : Exa Z h0 pr0 "com/example/stonegaze/stonegaze/Groups") (F_groupOf_pr0 : Fld Z h0 pr0 "com/example/stonegaze/stonegaze/Groups" "groupOf" "[I" (.ref u_groupOf_pr0)) (F_stones_pr0 : Fld Z h0 pr0 "com/example/stonegaze/stonegaze/Groups" "stones" "[I" (.ref u_stones_pr0)) (G_u_groupOf_pr0 : n0 ≤ u_groupOf_pr0) (G_u_stones_pr0 : n0 ≤ u_stones_pr0) (OR : @LT.lt Nat instLTNat pr0 u_groupOf_pr0 ∧ @LT.lt Nat instLTNat u_groupOf_pr0 u_stones_pr0) (CI : ¬ pi2 < 0 ∧ pi2 < nn) (L0 : (0 : Int32) < nn) (L1 : (1 : Int32) < nn) (V_u_groupOf_pr0 : Arh Z h0 u_groupOf_pr0 kk_u_groupOf_pr0 .int nn hs [] (.int (-1 : Int32))) (V_u_stones_pr0 : Arv Z h0 u_stones_pr0 kk_u_stones_pr0 .int nn [(.int y0_stones), (.int y1_stones)] (.int (0 : Int32))) :
    MetFree l (⟨"com/example/stonegaze/stonegaze/Groups", "addStone", "(II)V"⟩ : MethodName) (head1 (Jvm.Cond.code (⟨"com/example/stonegaze/stonegaze/Groups", "addStone", "(II)V"⟩ : MethodName) prog_17_method_3_code 3 none :: ws) ({ frames := 0, cells := 0, slots := 0, locals := 0 } : Room)) (fun a U => a = #[(.ref pr0), (.int (0 : Int32)), (.int pi2)] ∧ Z.Warmed39 U.vm ∧ U.heap = h0) (fun _ _ _ _ _ => True) (fun _ U o U' => ∃ v L, o = .returned v ∧ Q5g0 Z pr0 pi2 u_groupOf_pr0 u_stones_pr0 nn kk_u_groupOf_pr0 hs kk_u_stones_pr0 y0_stones y1_stones h0 n0 v U'.heap L ∧ FrameEnd U o U' L ({ frames := 0, cells := 0, slots := 0, locals := 0 } : Room).cells ({ frames := 0, cells := 0, slots := 0, locals := 0 } : Room).slots) := by
  refine MetFree.of_bodySF (plainFor_of_name pn_com_example_stonegaze_stonegaze_Groups) hisR ?_
  intro p e s m args below meth c s₁ Bd hml0 hP hK
  obtain ⟨rfl, hZ, hh⟩ := hP
  have hx := Bd.exec
  have hby := Bd.bytes
  have hml : c.maxLocals = 3 := hml0
  have hown : s.vm.findClass "com/example/stonegaze/stonegaze/Groups" = some m.cls := findClass_of_methodNamed Bd.named
  have hnm := (name_of_methodNamed Bd.named Bd.method).1
  have X0 : Stand p l e ({ frames := 0, cells := 0, slots := 0, locals := 0 } : Room) s m #[(.ref pr0), (.int (0 : Int32)), (.int pi2)] below meth c s₁ [] 0 0 := Stand.of_body Bd
  have e0 : s₁.heap = h0 := by rw [← hh, Bd.state]; rfl
  have N0 := Fr.nil n0
  obtain ⟨Go, hGo⟩ : ∃ P : State → Prop, ∀ t, P t ↔ Steps p.tables e below (s₁.setTop (entryFrame m #[(.ref pr0), (.int (0 : Int32)), (.int pi2)] 3)) t := ⟨_, fun _ => Iff.rfl⟩
  have pre0 : ∀ t, Steps p.tables e below (s₁.setTop (mkF m 0 #[rv pr0, iv (0 : Int32), iv pi2] [])) t → Go t := fun t k => (hGo t).mpr (castTop (ef_5g0 m pr0 pi2) k)
  have K0 : Keep h0 h0 [u_groupOf_pr0, u_stones_pr0] := Keep.refl _ _
  have ne_pr0_u_groupOf_pr0 : pr0 ≠ u_groupOf_pr0 := Nat.ne_of_lt (by have := OR; omega)
  have ne_pr0_u_stones_pr0 : pr0 ≠ u_stones_pr0 := Nat.ne_of_lt (by have := OR; omega)
  have ne_u_groupOf_pr0_u_stones_pr0 : u_groupOf_pr0 ≠ u_stones_pr0 := Nat.ne_of_lt (by have := OR; omega)
  have pre1 : ∀ t, Steps p.tables e below (s₁.setTop (mkF m 1 #[rv pr0, iv (0 : Int32), iv pi2] [(.ref pr0)])) t → Go t := fun t kt => pre0 t (by
      refine y_aloadN X0.here hx (hb hby d5_0) rfl rfl (pc' := 1) rfl ?_
      exact kt)
  obtain ⟨T2, X2, e2, st2⟩ := getF X0 hx hZ hown (host := "") (Or.inl (hw _ (List.mem_of_getElem? (i := 10) rfl))) Via.refl e0 F_groupOf_pr0 (g := (mkF m 1 #[rv pr0, iv (0 : Int32), iv pi2] [(.ref pr0)])) rfl rfl (hb hby d5_1)
  have pre3 : ∀ t, Steps p.tables e below (T2.setTop (mkF m 4 #[rv pr0, iv (0 : Int32), iv pi2] [(.ref u_groupOf_pr0)])) t → Go t := fun t kt => pre1 t (st2 t kt)
  have pre4 : ∀ t, Steps p.tables e below (T2.setTop (mkF m 6 #[rv pr0, iv (0 : Int32), iv pi2] [(.int (0 : Int32)), (.int pi2), (.ref u_groupOf_pr0)])) t → Go t := fun t kt => pre3 t (by
      refine y_iloadN X2.here hx (hb hby d5_4) rfl (pc' := 5) rfl ?_
      refine y_iloadN X2.here hx (hb hby d5_5) rfl (pc' := 6) rfl ?_
      exact kt)
  obtain ⟨c5, Ar5, q5, S5, M5, H5, G5⟩ := id V_u_groupOf_pr0
  have hin5 : ¬ (pi2 < 0 ∨ c5.slots.size ≤ (pi2).toNatClampNeg) := inb_of S5 CI
  obtain ⟨T6, h6, X6, e6, W6, st6⟩ := stI X2 hx hZ e2 Ar5 (j := pi2) hin5 (g := (mkF m 6 #[rv pr0, iv (0 : Int32), iv pi2] [(.int (0 : Int32)), (.int pi2), (.ref u_groupOf_pr0)])) rfl rfl (hb hby d5_6)
  have pre7 : ∀ t, Steps p.tables e below (T6.setTop (mkF m 7 #[rv pr0, iv (0 : Int32), iv pi2] [])) t → Go t := fun t kt => pre4 t (st6 t kt)
  have f9 : Arv Z h6 u_stones_pr0 kk_u_stones_pr0 .int nn [(.int y0_stones), (.int y1_stones)] (.int (0 : Int32)) := (V_u_stones_pr0.other W6 (Ne.symm ne_u_groupOf_pr0_u_stones_pr0))
  have f10 : Exa Z h6 pr0 "com/example/stonegaze/stonegaze/Groups" := (E_pr0.wr W6)
  have f11 : Fld Z h6 pr0 "com/example/stonegaze/stonegaze/Groups" "groupOf" "[I" (.ref u_groupOf_pr0) := (F_groupOf_pr0.other W6 (Or.inl ne_pr0_u_groupOf_pr0))
  have f12 : Fld Z h6 pr0 "com/example/stonegaze/stonegaze/Groups" "stones" "[I" (.ref u_stones_pr0) := (F_stones_pr0.other W6 (Or.inl ne_pr0_u_groupOf_pr0))
  have N13 := Fr.snoc X6 N0 G_u_groupOf_pr0
  have O13 := O0.wr W6 G_u_groupOf_pr0
  have K13 : Keep h0 h6 [u_groupOf_pr0, u_stones_pr0] := K0.wr W6 (Or.inl (List.mem_of_getElem? (i := 0) rfl))
  have f14 : Arh Z h6 u_groupOf_pr0 kk_u_groupOf_pr0 .int nn ((pi2, (.int (0 : Int32))) :: hs) [] (.int (-1 : Int32)) := Arh.push Ar5 q5 S5 M5 H5 G5 rfl W6 hin5
  have pre15 : ∀ t, Steps p.tables e below (T6.setTop (mkF m 8 #[rv pr0, iv (0 : Int32), iv pi2] [(.ref pr0)])) t → Go t := fun t kt => pre7 t (by
      refine y_aloadN X6.here hx (hb hby d5_7) rfl rfl (pc' := 8) rfl ?_
      exact kt)
  obtain ⟨T16, X16, e16, st16⟩ := getF X6 hx hZ hown (host := "") (Or.inl (hw _ (List.mem_of_getElem? (i := 20) rfl))) Via.refl e6 f12 (g := (mkF m 8 #[rv pr0, iv (0 : Int32), iv pi2] [(.ref pr0)])) rfl rfl (hb hby d5_8)
  have pre17 : ∀ t, Steps p.tables e below (T16.setTop (mkF m 11 #[rv pr0, iv (0 : Int32), iv pi2] [(.ref u_stones_pr0)])) t → Go t := fun t kt => pre15 t (st16 t kt)
  have pre18 : ∀ t, Steps p.tables e below (T16.setTop (mkF m 13 #[rv pr0, iv (0 : Int32), iv pi2] [(.int (0 : Int32)), (.ref u_stones_pr0), (.int (0 : Int32)), (.ref u_stones_pr0)])) t → Go t := fun t kt => pre17 t (by
      refine y_iloadN X16.here hx (hb hby d5_11) rfl (pc' := 12) rfl ?_
      jvm_step X16.here [X16.here.top, hx, (hb hby d5_12), Value.category]
      show Steps p.tables e below (T16.setTop (mkF m 13 #[rv pr0, iv (0 : Int32), iv pi2] [(.int (0 : Int32)), (.ref u_stones_pr0), (.int (0 : Int32)), (.ref u_stones_pr0)])) _
      exact kt)
  obtain ⟨c19, Ar19, q19, S19, M19, H19, G19⟩ := id f9
  have hin19 : ¬ ((0 : Int32) < 0 ∨ c19.slots.size ≤ ((0 : Int32)).toNatClampNeg) := inb_of S19 ⟨by decide, L0⟩
  have hat19 : c19.slots[((0 : Int32)).toNatClampNeg]? = some (.int y0_stones) := Has.at H19 hin19 rfl
  have pre20 : ∀ t, Steps p.tables e below (T16.setTop (mkF m 16 #[rv pr0, iv (0 : Int32), iv pi2] [(.int (y0_stones + (1 : Int32))), (.int (0 : Int32)), (.ref u_stones_pr0)])) t → Go t := fun t kt => pre18 t (by
      refine X16.iaload hx (j := (0 : Int32)) (v := (.int y0_stones)) (by rw [e16]; exact Ar19.1) (State.isArrayOf_alike hZ.alike Ar19.2.1) Ar19.2.2 hin19 hat19 (g := (mkF m 13 #[rv pr0, iv (0 : Int32), iv pi2] [(.int (0 : Int32)), (.ref u_stones_pr0), (.int (0 : Int32)), (.ref u_stones_pr0)])) rfl rfl (hb hby d5_13) _ ?_
      show Steps p.tables e below (T16.setTop (mkF m 14 #[rv pr0, iv (0 : Int32), iv pi2] [(.int y0_stones), (.int (0 : Int32)), (.ref u_stones_pr0)])) _
      refine y_iconst X16.here hx (hb hby d5_14) (v := (1 : Int32)) rfl (pc' := 15) rfl ?_
      refine y_iadd X16.here hx (hb hby d5_15) rfl (pc' := 16) rfl ?_
      exact kt)
  obtain ⟨x21, hx21⟩ : ∃ z : Int32, z = (y0_stones + (1 : Int32)) := ⟨_, rfl⟩
  have pre22 : ∀ t, Steps p.tables e below (T16.setTop (mkF m 16 #[rv pr0, iv (0 : Int32), iv pi2] [(.int x21), (.int (0 : Int32)), (.ref u_stones_pr0)])) t → Go t := by subst hx21; exact pre20
  obtain ⟨c23, Ar23, q23, S23, M23, H23, G23⟩ := id f9
  have hin23 : ¬ ((0 : Int32) < 0 ∨ c23.slots.size ≤ ((0 : Int32)).toNatClampNeg) := inb_of S23 ⟨by decide, L0⟩
  obtain ⟨T24, h24, X24, e24, W24, st24⟩ := stI X16 hx hZ e16 Ar23 (j := (0 : Int32)) hin23 (g := (mkF m 16 #[rv pr0, iv (0 : Int32), iv pi2] [(.int x21), (.int (0 : Int32)), (.ref u_stones_pr0)])) rfl rfl (hb hby d5_16)
  have pre25 : ∀ t, Steps p.tables e below (T24.setTop (mkF m 17 #[rv pr0, iv (0 : Int32), iv pi2] [])) t → Go t := fun t kt => pre22 t (st24 t kt)
  have f27 : Exa Z h24 pr0 "com/example/stonegaze/stonegaze/Groups" := (f10.wr W24)
  have f28 : Fld Z h24 pr0 "com/example/stonegaze/stonegaze/Groups" "groupOf" "[I" (.ref u_groupOf_pr0) := (f11.other W24 (Or.inl ne_pr0_u_stones_pr0))
  have f29 : Fld Z h24 pr0 "com/example/stonegaze/stonegaze/Groups" "stones" "[I" (.ref u_stones_pr0) := (f12.other W24 (Or.inl ne_pr0_u_stones_pr0))
  have f30 : Arh Z h24 u_groupOf_pr0 kk_u_groupOf_pr0 .int nn ((pi2, (.int (0 : Int32))) :: hs) [] (.int (-1 : Int32)) := (f14.other W24 ne_u_groupOf_pr0_u_stones_pr0)
  have N31 := Fr.snoc X24 N13 G_u_stones_pr0
  have O31 := O13.wr W24 G_u_stones_pr0
  have K31 : Keep h0 h24 [u_groupOf_pr0, u_stones_pr0] := K13.wr W24 (Or.inl (List.mem_of_getElem? (i := 1) rfl))
  have f32 : Arv Z h24 u_stones_pr0 kk_u_stones_pr0 .int nn [(.int x21), (.int y1_stones)] (.int (0 : Int32)) := Arv.set Ar23 q23 S23 M23 H23 G23 rfl W24 0 rfl (Nat.le_of_ble_eq_true rfl)
  obtain ⟨fs, hr, hrun, hended, hW, hsame⟩ := X24.leave (v := none) (fun _ => rfl)
  refine ⟨_, _, (hGo _).mp (pre25 _ ?_), hrun, hended, _, _, rfl, ?_, ⟨_, rfl⟩, hW, hsame.mono (by decide) (by decide)⟩
  · exact X24.returnOut hx Bd.returns (hb hby d5_17) hr
  · show Q5g0 Z pr0 pi2 u_groupOf_pr0 u_stones_pr0 nn kk_u_groupOf_pr0 hs kk_u_stones_pr0 y0_stones y1_stones h0 n0 _ T24.heap _
    rw [e24]
    subst hx21
    exact ⟨rfl, N31, K31, f30, f32⟩
theorem ef_5g1 (m : MethodId) (x0 : Addr) (x2 : Int32) : entryFrame m #[(.ref x0), (.int (1 : Int32)), (.int x2)] 3 = mkF m 0 #[rv x0, iv (1 : Int32), iv x2] [] := by first | (simp [entryFrame, mkF, argsToLocals, Value.category]; done) | rfl
def Q5g1 (Z : State) (pr0 : Addr) (pi2 : Int32) (u_groupOf_pr0 : Addr) (u_stones_pr0 : Addr) (nn : Int32) (kk_u_groupOf_pr0 : ClassId) (hs : List (Int32 × Value)) (kk_u_stones_pr0 : ClassId) (y0_stones : Int32) (y1_stones : Int32) (h0 : Heap) (n0 : Nat) (v : Option Value) (h : Heap) (L : List Loc) : Prop := v = none ∧ Fr n0 L ∧ Keep h0 h [u_groupOf_pr0, u_stones_pr0] ∧ Arh Z h u_groupOf_pr0 kk_u_groupOf_pr0 .int nn ((pi2, (.int (1 : Int32))) :: hs) [] (.int (-1 : Int32)) ∧ Arv Z h u_stones_pr0 kk_u_stones_pr0 .int nn [(.int y0_stones), (.int (y1_stones + (1 : Int32)))] (.int (0 : Int32))
set_option maxRecDepth 65536 in
set_option maxHeartbeats 40000000 in
theorem rm5g1 (l : Launch) (Z : State) (a0 : Array Value) (hw : ∀ d ∈ tables_1, d.before a0 Z = true) (ws : List Jvm.Cond) (pr0 : Addr) (pi2 : Int32) (u_groupOf_pr0 : Addr) (u_stones_pr0 : Addr) (nn : Int32) (kk_u_groupOf_pr0 : ClassId) (hs : List (Int32 × Value)) (kk_u_stones_pr0 : ClassId) (y0_stones : Int32) (y1_stones : Int32) (h0 : Heap) (n0 : Nat) (O0 : Old Z n0 h0) (E_pr0 : Exa Z h0 pr0 "com/example/stonegaze/stonegaze/Groups") (F_groupOf_pr0 : Fld Z h0 pr0 "com/example/stonegaze/stonegaze/Groups" "groupOf" "[I" (.ref u_groupOf_pr0)) (F_stones_pr0 : Fld Z h0 pr0 "com/example/stonegaze/stonegaze/Groups" "stones" "[I" (.ref u_stones_pr0)) (G_u_groupOf_pr0 : n0 ≤ u_groupOf_pr0) (G_u_stones_pr0 : n0 ≤ u_stones_pr0) (OR : @LT.lt Nat instLTNat pr0 u_groupOf_pr0 ∧ @LT.lt Nat instLTNat u_groupOf_pr0 u_stones_pr0) (CI : ¬ pi2 < 0 ∧ pi2 < nn) (L0 : (0 : Int32) < nn) (L1 : (1 : Int32) < nn) (V_u_groupOf_pr0 : Arh Z h0 u_groupOf_pr0 kk_u_groupOf_pr0 .int nn hs [] (.int (-1 : Int32))) (V_u_stones_pr0 : Arv Z h0 u_stones_pr0 kk_u_stones_pr0 .int nn [(.int y0_stones), (.int y1_stones)] (.int (0 : Int32))) :
    MetFree l (⟨"com/example/stonegaze/stonegaze/Groups", "addStone", "(II)V"⟩ : MethodName) (head1 (Jvm.Cond.code (⟨"com/example/stonegaze/stonegaze/Groups", "addStone", "(II)V"⟩ : MethodName) prog_17_method_3_code 3 none :: ws) ({ frames := 0, cells := 0, slots := 0, locals := 0 } : Room)) (fun a U => a = #[(.ref pr0), (.int (1 : Int32)), (.int pi2)] ∧ Z.Warmed39 U.vm ∧ U.heap = h0) (fun _ _ _ _ _ => True) (fun _ U o U' => ∃ v L, o = .returned v ∧ Q5g1 Z pr0 pi2 u_groupOf_pr0 u_stones_pr0 nn kk_u_groupOf_pr0 hs kk_u_stones_pr0 y0_stones y1_stones h0 n0 v U'.heap L ∧ FrameEnd U o U' L ({ frames := 0, cells := 0, slots := 0, locals := 0 } : Room).cells ({ frames := 0, cells := 0, slots := 0, locals := 0 } : Room).slots) := by
  refine MetFree.of_bodySF (plainFor_of_name pn_com_example_stonegaze_stonegaze_Groups) hisR ?_
  intro p e s m args below meth c s₁ Bd hml0 hP hK
  obtain ⟨rfl, hZ, hh⟩ := hP
  have hx := Bd.exec
  have hby := Bd.bytes
  have hml : c.maxLocals = 3 := hml0
  have hown : s.vm.findClass "com/example/stonegaze/stonegaze/Groups" = some m.cls := findClass_of_methodNamed Bd.named
  have hnm := (name_of_methodNamed Bd.named Bd.method).1
  have X0 : Stand p l e ({ frames := 0, cells := 0, slots := 0, locals := 0 } : Room) s m #[(.ref pr0), (.int (1 : Int32)), (.int pi2)] below meth c s₁ [] 0 0 := Stand.of_body Bd
  have e0 : s₁.heap = h0 := by rw [← hh, Bd.state]; rfl
  have N0 := Fr.nil n0
  obtain ⟨Go, hGo⟩ : ∃ P : State → Prop, ∀ t, P t ↔ Steps p.tables e below (s₁.setTop (entryFrame m #[(.ref pr0), (.int (1 : Int32)), (.int pi2)] 3)) t := ⟨_, fun _ => Iff.rfl⟩
  have pre0 : ∀ t, Steps p.tables e below (s₁.setTop (mkF m 0 #[rv pr0, iv (1 : Int32), iv pi2] [])) t → Go t := fun t k => (hGo t).mpr (castTop (ef_5g1 m pr0 pi2) k)
  have K0 : Keep h0 h0 [u_groupOf_pr0, u_stones_pr0] := Keep.refl _ _
  have ne_pr0_u_groupOf_pr0 : pr0 ≠ u_groupOf_pr0 := Nat.ne_of_lt (by have := OR; omega)
  have ne_pr0_u_stones_pr0 : pr0 ≠ u_stones_pr0 := Nat.ne_of_lt (by have := OR; omega)
  have ne_u_groupOf_pr0_u_stones_pr0 : u_groupOf_pr0 ≠ u_stones_pr0 := Nat.ne_of_lt (by have := OR; omega)
  have pre1 : ∀ t, Steps p.tables e below (s₁.setTop (mkF m 1 #[rv pr0, iv (1 : Int32), iv pi2] [(.ref pr0)])) t → Go t := fun t kt => pre0 t (by
      refine y_aloadN X0.here hx (hb hby d5_0) rfl rfl (pc' := 1) rfl ?_
      exact kt)
  obtain ⟨T2, X2, e2, st2⟩ := getF X0 hx hZ hown (host := "") (Or.inl (hw _ (List.mem_of_getElem? (i := 10) rfl))) Via.refl e0 F_groupOf_pr0 (g := (mkF m 1 #[rv pr0, iv (1 : Int32), iv pi2] [(.ref pr0)])) rfl rfl (hb hby d5_1)
  have pre3 : ∀ t, Steps p.tables e below (T2.setTop (mkF m 4 #[rv pr0, iv (1 : Int32), iv pi2] [(.ref u_groupOf_pr0)])) t → Go t := fun t kt => pre1 t (st2 t kt)
  have pre4 : ∀ t, Steps p.tables e below (T2.setTop (mkF m 6 #[rv pr0, iv (1 : Int32), iv pi2] [(.int (1 : Int32)), (.int pi2), (.ref u_groupOf_pr0)])) t → Go t := fun t kt => pre3 t (by
      refine y_iloadN X2.here hx (hb hby d5_4) rfl (pc' := 5) rfl ?_
      refine y_iloadN X2.here hx (hb hby d5_5) rfl (pc' := 6) rfl ?_
      exact kt)
  obtain ⟨c5, Ar5, q5, S5, M5, H5, G5⟩ := id V_u_groupOf_pr0
  have hin5 : ¬ (pi2 < 0 ∨ c5.slots.size ≤ (pi2).toNatClampNeg) := inb_of S5 CI
  obtain ⟨T6, h6, X6, e6, W6, st6⟩ := stI X2 hx hZ e2 Ar5 (j := pi2) hin5 (g := (mkF m 6 #[rv pr0, iv (1 : Int32), iv pi2] [(.int (1 : Int32)), (.int pi2), (.ref u_groupOf_pr0)])) rfl rfl (hb hby d5_6)
  have pre7 : ∀ t, Steps p.tables e below (T6.setTop (mkF m 7 #[rv pr0, iv (1 : Int32), iv pi2] [])) t → Go t := fun t kt => pre4 t (st6 t kt)
  have f9 : Arv Z h6 u_stones_pr0 kk_u_stones_pr0 .int nn [(.int y0_stones), (.int y1_stones)] (.int (0 : Int32)) := (V_u_stones_pr0.other W6 (Ne.symm ne_u_groupOf_pr0_u_stones_pr0))
  have f10 : Exa Z h6 pr0 "com/example/stonegaze/stonegaze/Groups" := (E_pr0.wr W6)
  have f11 : Fld Z h6 pr0 "com/example/stonegaze/stonegaze/Groups" "groupOf" "[I" (.ref u_groupOf_pr0) := (F_groupOf_pr0.other W6 (Or.inl ne_pr0_u_groupOf_pr0))
  have f12 : Fld Z h6 pr0 "com/example/stonegaze/stonegaze/Groups" "stones" "[I" (.ref u_stones_pr0) := (F_stones_pr0.other W6 (Or.inl ne_pr0_u_groupOf_pr0))
  have N13 := Fr.snoc X6 N0 G_u_groupOf_pr0
  have O13 := O0.wr W6 G_u_groupOf_pr0
  have K13 : Keep h0 h6 [u_groupOf_pr0, u_stones_pr0] := K0.wr W6 (Or.inl (List.mem_of_getElem? (i := 0) rfl))
  have f14 : Arh Z h6 u_groupOf_pr0 kk_u_groupOf_pr0 .int nn ((pi2, (.int (1 : Int32))) :: hs) [] (.int (-1 : Int32)) := Arh.push Ar5 q5 S5 M5 H5 G5 rfl W6 hin5
  have pre15 : ∀ t, Steps p.tables e below (T6.setTop (mkF m 8 #[rv pr0, iv (1 : Int32), iv pi2] [(.ref pr0)])) t → Go t := fun t kt => pre7 t (by
      refine y_aloadN X6.here hx (hb hby d5_7) rfl rfl (pc' := 8) rfl ?_
      exact kt)
  obtain ⟨T16, X16, e16, st16⟩ := getF X6 hx hZ hown (host := "") (Or.inl (hw _ (List.mem_of_getElem? (i := 20) rfl))) Via.refl e6 f12 (g := (mkF m 8 #[rv pr0, iv (1 : Int32), iv pi2] [(.ref pr0)])) rfl rfl (hb hby d5_8)
  have pre17 : ∀ t, Steps p.tables e below (T16.setTop (mkF m 11 #[rv pr0, iv (1 : Int32), iv pi2] [(.ref u_stones_pr0)])) t → Go t := fun t kt => pre15 t (st16 t kt)
  have pre18 : ∀ t, Steps p.tables e below (T16.setTop (mkF m 13 #[rv pr0, iv (1 : Int32), iv pi2] [(.int (1 : Int32)), (.ref u_stones_pr0), (.int (1 : Int32)), (.ref u_stones_pr0)])) t → Go t := fun t kt => pre17 t (by
      refine y_iloadN X16.here hx (hb hby d5_11) rfl (pc' := 12) rfl ?_
      jvm_step X16.here [X16.here.top, hx, (hb hby d5_12), Value.category]
      show Steps p.tables e below (T16.setTop (mkF m 13 #[rv pr0, iv (1 : Int32), iv pi2] [(.int (1 : Int32)), (.ref u_stones_pr0), (.int (1 : Int32)), (.ref u_stones_pr0)])) _
      exact kt)
  obtain ⟨c19, Ar19, q19, S19, M19, H19, G19⟩ := id f9
  have hin19 : ¬ ((1 : Int32) < 0 ∨ c19.slots.size ≤ ((1 : Int32)).toNatClampNeg) := inb_of S19 ⟨by decide, L1⟩
  have hat19 : c19.slots[((1 : Int32)).toNatClampNeg]? = some (.int y1_stones) := Has.at H19 hin19 rfl
  have pre20 : ∀ t, Steps p.tables e below (T16.setTop (mkF m 16 #[rv pr0, iv (1 : Int32), iv pi2] [(.int (y1_stones + (1 : Int32))), (.int (1 : Int32)), (.ref u_stones_pr0)])) t → Go t := fun t kt => pre18 t (by
      refine X16.iaload hx (j := (1 : Int32)) (v := (.int y1_stones)) (by rw [e16]; exact Ar19.1) (State.isArrayOf_alike hZ.alike Ar19.2.1) Ar19.2.2 hin19 hat19 (g := (mkF m 13 #[rv pr0, iv (1 : Int32), iv pi2] [(.int (1 : Int32)), (.ref u_stones_pr0), (.int (1 : Int32)), (.ref u_stones_pr0)])) rfl rfl (hb hby d5_13) _ ?_
      show Steps p.tables e below (T16.setTop (mkF m 14 #[rv pr0, iv (1 : Int32), iv pi2] [(.int y1_stones), (.int (1 : Int32)), (.ref u_stones_pr0)])) _
      refine y_iconst X16.here hx (hb hby d5_14) (v := (1 : Int32)) rfl (pc' := 15) rfl ?_
      refine y_iadd X16.here hx (hb hby d5_15) rfl (pc' := 16) rfl ?_
      exact kt)
  obtain ⟨x21, hx21⟩ : ∃ z : Int32, z = (y1_stones + (1 : Int32)) := ⟨_, rfl⟩
  have pre22 : ∀ t, Steps p.tables e below (T16.setTop (mkF m 16 #[rv pr0, iv (1 : Int32), iv pi2] [(.int x21), (.int (1 : Int32)), (.ref u_stones_pr0)])) t → Go t := by subst hx21; exact pre20
  obtain ⟨c23, Ar23, q23, S23, M23, H23, G23⟩ := id f9
  have hin23 : ¬ ((1 : Int32) < 0 ∨ c23.slots.size ≤ ((1 : Int32)).toNatClampNeg) := inb_of S23 ⟨by decide, L1⟩
  obtain ⟨T24, h24, X24, e24, W24, st24⟩ := stI X16 hx hZ e16 Ar23 (j := (1 : Int32)) hin23 (g := (mkF m 16 #[rv pr0, iv (1 : Int32), iv pi2] [(.int x21), (.int (1 : Int32)), (.ref u_stones_pr0)])) rfl rfl (hb hby d5_16)
  have pre25 : ∀ t, Steps p.tables e below (T24.setTop (mkF m 17 #[rv pr0, iv (1 : Int32), iv pi2] [])) t → Go t := fun t kt => pre22 t (st24 t kt)
  have f27 : Exa Z h24 pr0 "com/example/stonegaze/stonegaze/Groups" := (f10.wr W24)
  have f28 : Fld Z h24 pr0 "com/example/stonegaze/stonegaze/Groups" "groupOf" "[I" (.ref u_groupOf_pr0) := (f11.other W24 (Or.inl ne_pr0_u_stones_pr0))
  have f29 : Fld Z h24 pr0 "com/example/stonegaze/stonegaze/Groups" "stones" "[I" (.ref u_stones_pr0) := (f12.other W24 (Or.inl ne_pr0_u_stones_pr0))
  have f30 : Arh Z h24 u_groupOf_pr0 kk_u_groupOf_pr0 .int nn ((pi2, (.int (1 : Int32))) :: hs) [] (.int (-1 : Int32)) := (f14.other W24 ne_u_groupOf_pr0_u_stones_pr0)
  have N31 := Fr.snoc X24 N13 G_u_stones_pr0
  have O31 := O13.wr W24 G_u_stones_pr0
  have K31 : Keep h0 h24 [u_groupOf_pr0, u_stones_pr0] := K13.wr W24 (Or.inl (List.mem_of_getElem? (i := 1) rfl))
  have f32 : Arv Z h24 u_stones_pr0 kk_u_stones_pr0 .int nn [(.int y0_stones), (.int x21)] (.int (0 : Int32)) := Arv.set Ar23 q23 S23 M23 H23 G23 rfl W24 1 rfl (Nat.le_of_ble_eq_true rfl)
  obtain ⟨fs, hr, hrun, hended, hW, hsame⟩ := X24.leave (v := none) (fun _ => rfl)
  refine ⟨_, _, (hGo _).mp (pre25 _ ?_), hrun, hended, _, _, rfl, ?_, ⟨_, rfl⟩, hW, hsame.mono (by decide) (by decide)⟩
  · exact X24.returnOut hx Bd.returns (hb hby d5_17) hr
  · show Q5g1 Z pr0 pi2 u_groupOf_pr0 u_stones_pr0 nn kk_u_groupOf_pr0 hs kk_u_stones_pr0 y0_stones y1_stones h0 n0 _ T24.heap _
    rw [e24]
    subst hx21
    exact ⟨rfl, N31, K31, f30, f32⟩
theorem d6_0 : decode prog_17_method_5_code 0 = .ok (.aload_n 0, 1) := by decide +kernel
theorem d6_1 : decode prog_17_method_5_code 1 = .ok (.getfield 7, 3) := by decide +kernel
theorem d6_4 : decode prog_17_method_5_code 4 = .ok (.iload_n 1, 1) := by decide +kernel
theorem d6_5 : decode prog_17_method_5_code 5 = .ok (.iaload, 1) := by decide +kernel
theorem d6_6 : decode prog_17_method_5_code 6 = .ok (.ireturn, 1) := by decide +kernel
theorem ef_6 (m : MethodId) (x0 : Addr) (x1 : Int32) : entryFrame m #[(.ref x0), (.int x1)] 2 = mkF m 0 #[rv x0, iv x1] [] := by first | (simp [entryFrame, mkF, argsToLocals, Value.category]; done) | rfl
def Q6 (Z : State) (pr0 : Addr) (pi1 : Int32) (u_groupOf_pr0 : Addr) (nn : Int32) (yw : Int32) (kk_u_groupOf_pr0 : ClassId) (hs : List (Int32 × Value)) (h0 : Heap) (n0 : Nat) (v : Option Value) (h : Heap) (L : List Loc) : Prop := v = some (.int yw) ∧ Fr n0 L ∧ h = h0
set_option maxRecDepth 65536 in
set_option maxHeartbeats 40000000 in
theorem rm6 (l : Launch) (Z : State) (a0 : Array Value) (hw : ∀ d ∈ tables_1, d.before a0 Z = true) (ws : List Jvm.Cond) (pr0 : Addr) (pi1 : Int32) (u_groupOf_pr0 : Addr) (nn : Int32) (yw : Int32) (kk_u_groupOf_pr0 : ClassId) (hs : List (Int32 × Value)) (h0 : Heap) (n0 : Nat) (O0 : Old Z n0 h0) (E_pr0 : Exa Z h0 pr0 "com/example/stonegaze/stonegaze/Groups") (F_groupOf_pr0 : Fld Z h0 pr0 "com/example/stonegaze/stonegaze/Groups" "groupOf" "[I" (.ref u_groupOf_pr0)) (CI : ¬ pi1 < 0 ∧ pi1 < nn) (UW : getH hs [] (.int (-1 : Int32)) pi1.toNatClampNeg = .int yw) (V_u_groupOf_pr0 : Arh Z h0 u_groupOf_pr0 kk_u_groupOf_pr0 .int nn hs [] (.int (-1 : Int32))) :
    MetFree l (⟨"com/example/stonegaze/stonegaze/Groups", "groupAt", "(I)I"⟩ : MethodName) (head1 (Jvm.Cond.code (⟨"com/example/stonegaze/stonegaze/Groups", "groupAt", "(I)I"⟩ : MethodName) prog_17_method_5_code 2 (some .int) :: ws) ({ frames := 0, cells := 0, slots := 0, locals := 0 } : Room)) (fun a U => a = #[(.ref pr0), (.int pi1)] ∧ Z.Warmed39 U.vm ∧ U.heap = h0) (fun _ _ _ _ _ => True) (fun _ U o U' => ∃ v L, o = .returned v ∧ Q6 Z pr0 pi1 u_groupOf_pr0 nn yw kk_u_groupOf_pr0 hs h0 n0 v U'.heap L ∧ FrameEnd U o U' L ({ frames := 0, cells := 0, slots := 0, locals := 0 } : Room).cells ({ frames := 0, cells := 0, slots := 0, locals := 0 } : Room).slots) := by
  refine MetFree.of_bodySF (plainFor_of_name pn_com_example_stonegaze_stonegaze_Groups) hisR ?_
  intro p e s m args below meth c s₁ Bd hml0 hP hK
  obtain ⟨rfl, hZ, hh⟩ := hP
  have hx := Bd.exec
  have hby := Bd.bytes
  have hml : c.maxLocals = 2 := hml0
  have hown : s.vm.findClass "com/example/stonegaze/stonegaze/Groups" = some m.cls := findClass_of_methodNamed Bd.named
  have hnm := (name_of_methodNamed Bd.named Bd.method).1
  have X0 : Stand p l e ({ frames := 0, cells := 0, slots := 0, locals := 0 } : Room) s m #[(.ref pr0), (.int pi1)] below meth c s₁ [] 0 0 := Stand.of_body Bd
  have e0 : s₁.heap = h0 := by rw [← hh, Bd.state]; rfl
  have N0 := Fr.nil n0
  obtain ⟨Go, hGo⟩ : ∃ P : State → Prop, ∀ t, P t ↔ Steps p.tables e below (s₁.setTop (entryFrame m #[(.ref pr0), (.int pi1)] 2)) t := ⟨_, fun _ => Iff.rfl⟩
  have pre0 : ∀ t, Steps p.tables e below (s₁.setTop (mkF m 0 #[rv pr0, iv pi1] [])) t → Go t := fun t k => (hGo t).mpr (castTop (ef_6 m pr0 pi1) k)
  have pre1 : ∀ t, Steps p.tables e below (s₁.setTop (mkF m 1 #[rv pr0, iv pi1] [(.ref pr0)])) t → Go t := fun t kt => pre0 t (by
      refine y_aloadN X0.here hx (hb hby d6_0) rfl rfl (pc' := 1) rfl ?_
      exact kt)
  obtain ⟨T2, X2, e2, st2⟩ := getF X0 hx hZ hown (host := "") (Or.inl (hw _ (List.mem_of_getElem? (i := 10) rfl))) Via.refl e0 F_groupOf_pr0 (g := (mkF m 1 #[rv pr0, iv pi1] [(.ref pr0)])) rfl rfl (hb hby d6_1)
  have pre3 : ∀ t, Steps p.tables e below (T2.setTop (mkF m 4 #[rv pr0, iv pi1] [(.ref u_groupOf_pr0)])) t → Go t := fun t kt => pre1 t (st2 t kt)
  have pre4 : ∀ t, Steps p.tables e below (T2.setTop (mkF m 5 #[rv pr0, iv pi1] [(.int pi1), (.ref u_groupOf_pr0)])) t → Go t := fun t kt => pre3 t (by
      refine y_iloadN X2.here hx (hb hby d6_4) rfl (pc' := 5) rfl ?_
      exact kt)
  obtain ⟨c5, Ar5, q5, S5, M5, H5, G5⟩ := id V_u_groupOf_pr0
  have hin5 : ¬ (pi1 < 0 ∨ c5.slots.size ≤ (pi1).toNatClampNeg) := inb_of S5 CI
  have hat5 : c5.slots[(pi1).toNatClampNeg]? = some (.int yw) := atH H5 hin5 UW
  have pre6 : ∀ t, Steps p.tables e below (T2.setTop (mkF m 6 #[rv pr0, iv pi1] [(.int yw)])) t → Go t := fun t kt => pre4 t (by
      refine X2.iaload hx (j := pi1) (v := (.int yw)) (by rw [e2]; exact Ar5.1) (State.isArrayOf_alike hZ.alike Ar5.2.1) Ar5.2.2 hin5 hat5 (g := (mkF m 5 #[rv pr0, iv pi1] [(.int pi1), (.ref u_groupOf_pr0)])) rfl rfl (hb hby d6_5) _ ?_
      show Steps p.tables e below (T2.setTop (mkF m 6 #[rv pr0, iv pi1] [(.int yw)])) _
      exact kt)
  obtain ⟨fs, hr, hrun, hended, hW, hsame⟩ := X2.leave (v := some (.int yw)) (fun h => by rw [Bd.returns] at h; cases h)
  refine ⟨_, _, (hGo _).mp (pre6 _ ?_), hrun, hended, _, _, rfl, ?_, ⟨_, rfl⟩, hW, hsame.mono (by decide) (by decide)⟩
  · exact retOut X2 hx Bd.returns rfl (Or.inl ⟨rfl, Or.inl rfl, _, rfl⟩) (hb hby d6_6) hr
  · show Q6 Z pr0 pi1 u_groupOf_pr0 nn yw kk_u_groupOf_pr0 hs h0 n0 _ T2.heap _
    rw [e2]
    exact ⟨rfl, N0, rfl⟩
theorem d7_0 : decode prog_17_method_7_code 0 = .ok (.aload_n 0, 1) := by decide +kernel
theorem d7_1 : decode prog_17_method_7_code 1 = .ok (.getfield 25, 3) := by decide +kernel
theorem d7_4 : decode prog_17_method_7_code 4 = .ok (.iload_n 1, 1) := by decide +kernel
theorem d7_5 : decode prog_17_method_7_code 5 = .ok (.iaload, 1) := by decide +kernel
theorem d7_6 : decode prog_17_method_7_code 6 = .ok (.ireturn, 1) := by decide +kernel
theorem ef_7i0 (m : MethodId) (x0 : Addr) : entryFrame m #[(.ref x0), (.int (0 : Int32))] 2 = mkF m 0 #[rv x0, iv (0 : Int32)] [] := by first | (simp [entryFrame, mkF, argsToLocals, Value.category]; done) | rfl
def Q7i0 (Z : State) (pr0 : Addr) (u_stones_pr0 : Addr) (nn : Int32) (kk_u_stones_pr0 : ClassId) (y0_stones : Int32) (y1_stones : Int32) (h0 : Heap) (n0 : Nat) (v : Option Value) (h : Heap) (L : List Loc) : Prop := v = some (.int y0_stones) ∧ Fr n0 L ∧ h = h0
set_option maxRecDepth 65536 in
set_option maxHeartbeats 40000000 in
theorem rm7i0 (l : Launch) (Z : State) (a0 : Array Value) (hw : ∀ d ∈ tables_1, d.before a0 Z = true) (ws : List Jvm.Cond) (pr0 : Addr) (u_stones_pr0 : Addr) (nn : Int32) (kk_u_stones_pr0 : ClassId) (y0_stones : Int32) (y1_stones : Int32) (h0 : Heap) (n0 : Nat) (O0 : Old Z n0 h0) (E_pr0 : Exa Z h0 pr0 "com/example/stonegaze/stonegaze/Groups") (F_stones_pr0 : Fld Z h0 pr0 "com/example/stonegaze/stonegaze/Groups" "stones" "[I" (.ref u_stones_pr0)) (L0 : (0 : Int32) < nn) (L1 : (1 : Int32) < nn) (V_u_stones_pr0 : Arv Z h0 u_stones_pr0 kk_u_stones_pr0 .int nn [(.int y0_stones), (.int y1_stones)] (.int (0 : Int32))) :
    MetFree l (⟨"com/example/stonegaze/stonegaze/Groups", "stones", "(I)I"⟩ : MethodName) (head1 (Jvm.Cond.code (⟨"com/example/stonegaze/stonegaze/Groups", "stones", "(I)I"⟩ : MethodName) prog_17_method_7_code 2 (some .int) :: ws) ({ frames := 0, cells := 0, slots := 0, locals := 0 } : Room)) (fun a U => a = #[(.ref pr0), (.int (0 : Int32))] ∧ Z.Warmed39 U.vm ∧ U.heap = h0) (fun _ _ _ _ _ => True) (fun _ U o U' => ∃ v L, o = .returned v ∧ Q7i0 Z pr0 u_stones_pr0 nn kk_u_stones_pr0 y0_stones y1_stones h0 n0 v U'.heap L ∧ FrameEnd U o U' L ({ frames := 0, cells := 0, slots := 0, locals := 0 } : Room).cells ({ frames := 0, cells := 0, slots := 0, locals := 0 } : Room).slots) := by
  refine MetFree.of_bodySF (plainFor_of_name pn_com_example_stonegaze_stonegaze_Groups) hisR ?_
  intro p e s m args below meth c s₁ Bd hml0 hP hK
  obtain ⟨rfl, hZ, hh⟩ := hP
  have hx := Bd.exec
  have hby := Bd.bytes
  have hml : c.maxLocals = 2 := hml0
  have hown : s.vm.findClass "com/example/stonegaze/stonegaze/Groups" = some m.cls := findClass_of_methodNamed Bd.named
  have hnm := (name_of_methodNamed Bd.named Bd.method).1
  have X0 : Stand p l e ({ frames := 0, cells := 0, slots := 0, locals := 0 } : Room) s m #[(.ref pr0), (.int (0 : Int32))] below meth c s₁ [] 0 0 := Stand.of_body Bd
  have e0 : s₁.heap = h0 := by rw [← hh, Bd.state]; rfl
  have N0 := Fr.nil n0
  obtain ⟨Go, hGo⟩ : ∃ P : State → Prop, ∀ t, P t ↔ Steps p.tables e below (s₁.setTop (entryFrame m #[(.ref pr0), (.int (0 : Int32))] 2)) t := ⟨_, fun _ => Iff.rfl⟩
  have pre0 : ∀ t, Steps p.tables e below (s₁.setTop (mkF m 0 #[rv pr0, iv (0 : Int32)] [])) t → Go t := fun t k => (hGo t).mpr (castTop (ef_7i0 m pr0) k)
  have pre1 : ∀ t, Steps p.tables e below (s₁.setTop (mkF m 1 #[rv pr0, iv (0 : Int32)] [(.ref pr0)])) t → Go t := fun t kt => pre0 t (by
      refine y_aloadN X0.here hx (hb hby d7_0) rfl rfl (pc' := 1) rfl ?_
      exact kt)
  obtain ⟨T2, X2, e2, st2⟩ := getF X0 hx hZ hown (host := "") (Or.inl (hw _ (List.mem_of_getElem? (i := 20) rfl))) Via.refl e0 F_stones_pr0 (g := (mkF m 1 #[rv pr0, iv (0 : Int32)] [(.ref pr0)])) rfl rfl (hb hby d7_1)
  have pre3 : ∀ t, Steps p.tables e below (T2.setTop (mkF m 4 #[rv pr0, iv (0 : Int32)] [(.ref u_stones_pr0)])) t → Go t := fun t kt => pre1 t (st2 t kt)
  have pre4 : ∀ t, Steps p.tables e below (T2.setTop (mkF m 5 #[rv pr0, iv (0 : Int32)] [(.int (0 : Int32)), (.ref u_stones_pr0)])) t → Go t := fun t kt => pre3 t (by
      refine y_iloadN X2.here hx (hb hby d7_4) rfl (pc' := 5) rfl ?_
      exact kt)
  obtain ⟨c5, Ar5, q5, S5, M5, H5, G5⟩ := id V_u_stones_pr0
  have hin5 : ¬ ((0 : Int32) < 0 ∨ c5.slots.size ≤ ((0 : Int32)).toNatClampNeg) := inb_of S5 ⟨by decide, L0⟩
  have hat5 : c5.slots[((0 : Int32)).toNatClampNeg]? = some (.int y0_stones) := Has.at H5 hin5 rfl
  have pre6 : ∀ t, Steps p.tables e below (T2.setTop (mkF m 6 #[rv pr0, iv (0 : Int32)] [(.int y0_stones)])) t → Go t := fun t kt => pre4 t (by
      refine X2.iaload hx (j := (0 : Int32)) (v := (.int y0_stones)) (by rw [e2]; exact Ar5.1) (State.isArrayOf_alike hZ.alike Ar5.2.1) Ar5.2.2 hin5 hat5 (g := (mkF m 5 #[rv pr0, iv (0 : Int32)] [(.int (0 : Int32)), (.ref u_stones_pr0)])) rfl rfl (hb hby d7_5) _ ?_
      show Steps p.tables e below (T2.setTop (mkF m 6 #[rv pr0, iv (0 : Int32)] [(.int y0_stones)])) _
      exact kt)
  obtain ⟨fs, hr, hrun, hended, hW, hsame⟩ := X2.leave (v := some (.int y0_stones)) (fun h => by rw [Bd.returns] at h; cases h)
  refine ⟨_, _, (hGo _).mp (pre6 _ ?_), hrun, hended, _, _, rfl, ?_, ⟨_, rfl⟩, hW, hsame.mono (by decide) (by decide)⟩
  · exact retOut X2 hx Bd.returns rfl (Or.inl ⟨rfl, Or.inl rfl, _, rfl⟩) (hb hby d7_6) hr
  · show Q7i0 Z pr0 u_stones_pr0 nn kk_u_stones_pr0 y0_stones y1_stones h0 n0 _ T2.heap _
    rw [e2]
    exact ⟨rfl, N0, rfl⟩
theorem ef_7i1 (m : MethodId) (x0 : Addr) : entryFrame m #[(.ref x0), (.int (1 : Int32))] 2 = mkF m 0 #[rv x0, iv (1 : Int32)] [] := by first | (simp [entryFrame, mkF, argsToLocals, Value.category]; done) | rfl
def Q7i1 (Z : State) (pr0 : Addr) (u_stones_pr0 : Addr) (nn : Int32) (kk_u_stones_pr0 : ClassId) (y0_stones : Int32) (y1_stones : Int32) (h0 : Heap) (n0 : Nat) (v : Option Value) (h : Heap) (L : List Loc) : Prop := v = some (.int y1_stones) ∧ Fr n0 L ∧ h = h0
set_option maxRecDepth 65536 in
set_option maxHeartbeats 40000000 in
theorem rm7i1 (l : Launch) (Z : State) (a0 : Array Value) (hw : ∀ d ∈ tables_1, d.before a0 Z = true) (ws : List Jvm.Cond) (pr0 : Addr) (u_stones_pr0 : Addr) (nn : Int32) (kk_u_stones_pr0 : ClassId) (y0_stones : Int32) (y1_stones : Int32) (h0 : Heap) (n0 : Nat) (O0 : Old Z n0 h0) (E_pr0 : Exa Z h0 pr0 "com/example/stonegaze/stonegaze/Groups") (F_stones_pr0 : Fld Z h0 pr0 "com/example/stonegaze/stonegaze/Groups" "stones" "[I" (.ref u_stones_pr0)) (L0 : (0 : Int32) < nn) (L1 : (1 : Int32) < nn) (V_u_stones_pr0 : Arv Z h0 u_stones_pr0 kk_u_stones_pr0 .int nn [(.int y0_stones), (.int y1_stones)] (.int (0 : Int32))) :
    MetFree l (⟨"com/example/stonegaze/stonegaze/Groups", "stones", "(I)I"⟩ : MethodName) (head1 (Jvm.Cond.code (⟨"com/example/stonegaze/stonegaze/Groups", "stones", "(I)I"⟩ : MethodName) prog_17_method_7_code 2 (some .int) :: ws) ({ frames := 0, cells := 0, slots := 0, locals := 0 } : Room)) (fun a U => a = #[(.ref pr0), (.int (1 : Int32))] ∧ Z.Warmed39 U.vm ∧ U.heap = h0) (fun _ _ _ _ _ => True) (fun _ U o U' => ∃ v L, o = .returned v ∧ Q7i1 Z pr0 u_stones_pr0 nn kk_u_stones_pr0 y0_stones y1_stones h0 n0 v U'.heap L ∧ FrameEnd U o U' L ({ frames := 0, cells := 0, slots := 0, locals := 0 } : Room).cells ({ frames := 0, cells := 0, slots := 0, locals := 0 } : Room).slots) := by
  refine MetFree.of_bodySF (plainFor_of_name pn_com_example_stonegaze_stonegaze_Groups) hisR ?_
  intro p e s m args below meth c s₁ Bd hml0 hP hK
  obtain ⟨rfl, hZ, hh⟩ := hP
  have hx := Bd.exec
  have hby := Bd.bytes
  have hml : c.maxLocals = 2 := hml0
  have hown : s.vm.findClass "com/example/stonegaze/stonegaze/Groups" = some m.cls := findClass_of_methodNamed Bd.named
  have hnm := (name_of_methodNamed Bd.named Bd.method).1
  have X0 : Stand p l e ({ frames := 0, cells := 0, slots := 0, locals := 0 } : Room) s m #[(.ref pr0), (.int (1 : Int32))] below meth c s₁ [] 0 0 := Stand.of_body Bd
  have e0 : s₁.heap = h0 := by rw [← hh, Bd.state]; rfl
  have N0 := Fr.nil n0
  obtain ⟨Go, hGo⟩ : ∃ P : State → Prop, ∀ t, P t ↔ Steps p.tables e below (s₁.setTop (entryFrame m #[(.ref pr0), (.int (1 : Int32))] 2)) t := ⟨_, fun _ => Iff.rfl⟩
  have pre0 : ∀ t, Steps p.tables e below (s₁.setTop (mkF m 0 #[rv pr0, iv (1 : Int32)] [])) t → Go t := fun t k => (hGo t).mpr (castTop (ef_7i1 m pr0) k)
  have pre1 : ∀ t, Steps p.tables e below (s₁.setTop (mkF m 1 #[rv pr0, iv (1 : Int32)] [(.ref pr0)])) t → Go t := fun t kt => pre0 t (by
      refine y_aloadN X0.here hx (hb hby d7_0) rfl rfl (pc' := 1) rfl ?_
      exact kt)
  obtain ⟨T2, X2, e2, st2⟩ := getF X0 hx hZ hown (host := "") (Or.inl (hw _ (List.mem_of_getElem? (i := 20) rfl))) Via.refl e0 F_stones_pr0 (g := (mkF m 1 #[rv pr0, iv (1 : Int32)] [(.ref pr0)])) rfl rfl (hb hby d7_1)
  have pre3 : ∀ t, Steps p.tables e below (T2.setTop (mkF m 4 #[rv pr0, iv (1 : Int32)] [(.ref u_stones_pr0)])) t → Go t := fun t kt => pre1 t (st2 t kt)
  have pre4 : ∀ t, Steps p.tables e below (T2.setTop (mkF m 5 #[rv pr0, iv (1 : Int32)] [(.int (1 : Int32)), (.ref u_stones_pr0)])) t → Go t := fun t kt => pre3 t (by
      refine y_iloadN X2.here hx (hb hby d7_4) rfl (pc' := 5) rfl ?_
      exact kt)
  obtain ⟨c5, Ar5, q5, S5, M5, H5, G5⟩ := id V_u_stones_pr0
  have hin5 : ¬ ((1 : Int32) < 0 ∨ c5.slots.size ≤ ((1 : Int32)).toNatClampNeg) := inb_of S5 ⟨by decide, L1⟩
  have hat5 : c5.slots[((1 : Int32)).toNatClampNeg]? = some (.int y1_stones) := Has.at H5 hin5 rfl
  have pre6 : ∀ t, Steps p.tables e below (T2.setTop (mkF m 6 #[rv pr0, iv (1 : Int32)] [(.int y1_stones)])) t → Go t := fun t kt => pre4 t (by
      refine X2.iaload hx (j := (1 : Int32)) (v := (.int y1_stones)) (by rw [e2]; exact Ar5.1) (State.isArrayOf_alike hZ.alike Ar5.2.1) Ar5.2.2 hin5 hat5 (g := (mkF m 5 #[rv pr0, iv (1 : Int32)] [(.int (1 : Int32)), (.ref u_stones_pr0)])) rfl rfl (hb hby d7_5) _ ?_
      show Steps p.tables e below (T2.setTop (mkF m 6 #[rv pr0, iv (1 : Int32)] [(.int y1_stones)])) _
      exact kt)
  obtain ⟨fs, hr, hrun, hended, hW, hsame⟩ := X2.leave (v := some (.int y1_stones)) (fun h => by rw [Bd.returns] at h; cases h)
  refine ⟨_, _, (hGo _).mp (pre6 _ ?_), hrun, hended, _, _, rfl, ?_, ⟨_, rfl⟩, hW, hsame.mono (by decide) (by decide)⟩
  · exact retOut X2 hx Bd.returns rfl (Or.inl ⟨rfl, Or.inl rfl, _, rfl⟩) (hb hby d7_6) hr
  · show Q7i1 Z pr0 u_stones_pr0 nn kk_u_stones_pr0 y0_stones y1_stones h0 n0 _ T2.heap _
    rw [e2]
    exact ⟨rfl, N0, rfl⟩
theorem own_rem (k : Int32) {n : Int32} (h : (0 : Int32) < n) : ¬ (k &&& (2147483647 : Int32)) % n < 0 ∧ (k &&& (2147483647 : Int32)) % n < n := by
  rw [Int32.lt_iff_toInt_lt] at h
  have q := (c_iremV (k &&& (2147483647 : Int32)) n).1 (c_and k 2147483647 (by decide)).1 h
  have e0 : (0 : Int32).toInt = 0 := rfl
  simp only [Int32.lt_iff_toInt_lt]
  omega
theorem own_and1 (k : Int32) : k &&& 1 = 0 ∨ k &&& 1 = 1 := by
  have q : (k &&& 1).toInt = k.toInt % 2 := c_mask k 1 1 (by decide) (by decide)
  generalize k &&& 1 = x at q ⊢
  have : x.toInt = 0 ∨ x.toInt = 1 := by omega
  exact this.imp own_of own_of
theorem pn_com_example_stonegaze_stonegaze_GroupsAddStonePinLaw : plainName "com/example/stonegaze/stonegaze/GroupsAddStonePinLaw" = true := by first | (simp [plainName, overriddenIn]; done) | decide +kernel
theorem pd__I_V : parseMethodDescriptor "(I)V" = some ⟨[.int], none⟩ := by decide +kernel
theorem pd__Lcom_example_stonegaze_stonegaze_Side_IIZ_I : parseMethodDescriptor "(Lcom/example/stonegaze/stonegaze/Side;IIZ)I" = some ⟨[(.object "com/example/stonegaze/stonegaze/Side"), .int, .int, .boolean], some .int⟩ := by decide +kernel
theorem pd__II_V : parseMethodDescriptor "(II)V" = some ⟨[.int, .int], none⟩ := by decide +kernel
theorem pd__I_I : parseMethodDescriptor "(I)I" = some ⟨[.int], some .int⟩ := by decide +kernel
theorem ef_0 (m : MethodId) (x0 : Int32) (x1 : Int32) (x2 : Int32) (x3 : Int32) (x4 : Int32) (x5 : Int32) : entryFrame m #[(.int x0), (.int x1), (.int x2), (.int x3), (.int x4), (.int x5)] maxLocals = mkF m 0 #[iv x0, iv x1, iv x2, iv x3, iv x4, iv x5, .unset, .unset, .unset, .unset, .unset, .unset, .unset, .unset, .unset, .unset, .unset, .unset, .unset] [] := by first | (simp [entryFrame, mkF, argsToLocals, Value.category, maxLocals]; done) | rfl
def Q0 (Z : State) (pi0 : Int32) (pi1 : Int32) (pi2 : Int32) (pi3 : Int32) (pi4 : Int32) (pi5 : Int32) (w_WHITE : Addr) (w_BLACK : Addr) (h0 : Heap) (n0 : Nat) (v : Option Value) (h : Heap) (L : List Loc) : Prop := v = some (.int (1 : Int32)) ∧ Fr n0 L
set_option maxRecDepth 65536 in
set_option maxHeartbeats 40000000 in
theorem rm0 (l : Launch) (Z : State) (a0 : Array Value) (hw : ∀ d ∈ tables_1, d.before a0 Z = true) (ws : List Jvm.Cond) (pi0 : Int32) (pi1 : Int32) (pi2 : Int32) (pi3 : Int32) (pi4 : Int32) (pi5 : Int32) (w_WHITE : Addr) (w_BLACK : Addr) (h0 : Heap) (n0 : Nat) (O0 : Old Z n0 h0) (S_WHITE : Sta Z Z.heap "com/example/stonegaze/stonegaze/Side" "WHITE" "Lcom/example/stonegaze/stonegaze/Side;" (.ref w_WHITE)) (S_BLACK : Sta Z Z.heap "com/example/stonegaze/stonegaze/Side" "BLACK" "Lcom/example/stonegaze/stonegaze/Side;" (.ref w_BLACK)) (E_w_WHITE : Exa Z Z.heap w_WHITE "com/example/stonegaze/stonegaze/Side") (E_w_BLACK : Exa Z Z.heap w_BLACK "com/example/stonegaze/stonegaze/Side") :
    MetFree l x (head1 (Jvm.Cond.code x code maxLocals ret :: ws) room_1) (fun a U => a = #[(.int pi0), (.int pi1), (.int pi2), (.int pi3), (.int pi4), (.int pi5)] ∧ Z.Warmed39 U.vm ∧ U.heap = h0) (fun _ _ _ _ _ => True) (fun _ U o U' => ∃ v L, o = .returned v ∧ Q0 Z pi0 pi1 pi2 pi3 pi4 pi5 w_WHITE w_BLACK h0 n0 v U'.heap L ∧ FrameEnd U o U' L room_1.cells room_1.slots) := by
  refine MetFree.of_bodySF (plainFor_of_name pn_com_example_stonegaze_stonegaze_GroupsAddStonePinLaw) hisR ?_
  intro p e s m args below meth c s₁ Bd hml0 hP hK
  obtain ⟨rfl, hZ, hh⟩ := hP
  have hx := Bd.exec
  have hby := Bd.bytes
  have hml : c.maxLocals = 19 := hml0
  have hown : s.vm.findClass "com/example/stonegaze/stonegaze/GroupsAddStonePinLaw" = some m.cls := findClass_of_methodNamed Bd.named
  have hnm := (name_of_methodNamed Bd.named Bd.method).1
  have X0 : Stand p l e room_1 s m #[(.int pi0), (.int pi1), (.int pi2), (.int pi3), (.int pi4), (.int pi5)] below meth c s₁ [] 0 0 := Stand.of_body Bd
  have e0 : s₁.heap = h0 := by rw [← hh, Bd.state]; rfl
  have N0 := Fr.nil n0
  obtain ⟨Go, hGo⟩ : ∃ P : State → Prop, ∀ t, P t ↔ Steps p.tables e below (s₁.setTop (entryFrame m #[(.int pi0), (.int pi1), (.int pi2), (.int pi3), (.int pi4), (.int pi5)] maxLocals)) t := ⟨_, fun _ => Iff.rfl⟩
  have pre0 : ∀ t, Steps p.tables e below (s₁.setTop (mkF m 0 #[iv pi0, iv pi1, iv pi2, iv pi3, iv pi4, iv pi5, .unset, .unset, .unset, .unset, .unset, .unset, .unset, .unset, .unset, .unset, .unset, .unset, .unset] [])) t → Go t := fun t k => (hGo t).mpr (castTop (ef_0 m pi0 pi1 pi2 pi3 pi4 pi5) k)
  obtain ⟨x1, hx1⟩ : ∃ z : Int32, z = ((2 : Int32) + (pi0 &&& (3 : Int32))) := ⟨_, rfl⟩
  have pre2 : ∀ t, Steps p.tables e below (s₁.setTop (mkF m 7 #[iv pi0, iv pi1, iv pi2, iv pi3, iv pi4, iv pi5, iv x1, .unset, .unset, .unset, .unset, .unset, .unset, .unset, .unset, .unset, .unset, .unset, .unset] [])) t → Go t := fun t kt => pre0 t (by
      subst hx1
      refine y_iconst X0.here hx (hb hby at_0) (v := (2 : Int32)) rfl (pc' := 1) rfl ?_
      refine y_iloadN X0.here hx (hb hby at_1) rfl (pc' := 2) rfl ?_
      refine y_iconst X0.here hx (hb hby at_2) (v := (3 : Int32)) rfl (pc' := 3) rfl ?_
      refine y_iand X0.here hx (hb hby at_3) rfl (pc' := 4) rfl ?_
      refine y_iadd X0.here hx (hb hby at_4) rfl (pc' := 5) rfl ?_
      refine y_istore X0.here hx (hb hby at_5) (l' := #[iv pi0, iv pi1, iv pi2, iv pi3, iv pi4, iv pi5, iv ((2 : Int32) + (pi0 &&& (3 : Int32))), .unset, .unset, .unset, .unset, .unset, .unset, .unset, .unset, .unset, .unset, .unset, .unset]) rfl (pc' := 7) rfl ?_
      exact kt)
  obtain ⟨NG_x1, NC_x1, L0_x1, L1_x1⟩ := own_nK pi0
  rw [← hx1] at NG_x1 NC_x1 L0_x1 L1_x1
  have NZ_x1 : x1 ≠ 0 := fun q => by rw [q] at L0_x1; exact absurd L0_x1 (by decide)
  obtain ⟨T3, h3, X3, e3, E3, A3, D3, -, st3⟩ := newO X0 hx hZ hown (hw _ (List.mem_of_getElem? (i := 0) rfl)) (hw _ (List.mem_of_getElem? (i := 1) rfl)) (hw _ (List.mem_of_getElem? (i := 2) rfl)) e0 (g := (mkF m 7 #[iv pi0, iv pi1, iv pi2, iv pi3, iv pi4, iv pi5, iv x1, .unset, .unset, .unset, .unset, .unset, .unset, .unset, .unset, .unset, .unset, .unset, .unset] [])) rfl (hb hby at_7) (by decide) (by decide)
  obtain ⟨b3, g3⟩ : ∃ z, z = h0.size := ⟨_, rfl⟩
  rw [← g3] at A3 D3 st3
  have pre4 : ∀ t, Steps p.tables e below (T3.setTop (mkF m 10 #[iv pi0, iv pi1, iv pi2, iv pi3, iv pi4, iv pi5, iv x1, .unset, .unset, .unset, .unset, .unset, .unset, .unset, .unset, .unset, .unset, .unset, .unset] [(.ref b3)])) t → Go t := fun t kt => pre2 t (st3 t kt)
  have G5 : n0 ≤ b3 := Nat.le_trans (O0.1 ▸ O0.2.1) (Nat.le_of_eq g3.symm)
  have O5 := O0.ext E3
  have f6 : Fld Z h3 b3 "com/example/stonegaze/stonegaze/Groups" "groupOf" "[I" .null := D3 (Or.inr (hw _ (List.mem_of_getElem? (i := 11) rfl))) (ty := (.array .int)) (by decide)
  have f7 : Fld Z h3 b3 "com/example/stonegaze/stonegaze/Groups" "colours" "[Lcom/example/stonegaze/stonegaze/Side;" .null := D3 (Or.inr (hw _ (List.mem_of_getElem? (i := 19) rfl))) (ty := (.array (.object "com/example/stonegaze/stonegaze/Side"))) (by decide)
  have f8 : Fld Z h3 b3 "com/example/stonegaze/stonegaze/Groups" "stones" "[I" .null := D3 (Or.inr (hw _ (List.mem_of_getElem? (i := 21) rfl))) (ty := (.array .int)) (by decide)
  have f9 : Fld Z h3 b3 "com/example/stonegaze/stonegaze/Groups" "liberties" "[I" .null := D3 (Or.inr (hw _ (List.mem_of_getElem? (i := 23) rfl))) (ty := (.array .int)) (by decide)
  have f10 : Fld Z h3 b3 "com/example/stonegaze/stonegaze/Groups" "ringed" "[Z" .null := D3 (Or.inr (hw _ (List.mem_of_getElem? (i := 26) rfl))) (ty := (.array .boolean)) (by decide)
  have f11 : Fld Z h3 b3 "com/example/stonegaze/stonegaze/Groups" "aLiberty" "[I" .null := D3 (Or.inr (hw _ (List.mem_of_getElem? (i := 28) rfl))) (ty := (.array .int)) (by decide)
  have f12 : Fld Z h3 b3 "com/example/stonegaze/stonegaze/Groups" "count" "I" (.int (0 : Int32)) := D3 (Or.inl (hw _ (List.mem_of_getElem? (i := 38) rfl))) (ty := .int) (by decide)
  have pre13 : ∀ t, Steps p.tables e below (T3.setTop (mkF m 13 #[iv pi0, iv pi1, iv pi2, iv pi3, iv pi4, iv pi5, iv x1, .unset, .unset, .unset, .unset, .unset, .unset, .unset, .unset, .unset, .unset, .unset, .unset] [(.int x1), (.ref b3), (.ref b3)])) t → Go t := fun t kt => pre4 t (by
      refine y_dup X3.here hx (hb hby at_10) rfl (pc' := 11) rfl ?_
      refine y_iload X3.here hx (hb hby at_11) rfl (pc' := 13) rfl ?_
      exact kt)
  obtain ⟨v14, _, ⟨T14, L14, k14, n14⟩, -, X14, ⟨Lc14, hQ14, l14, y14, z14⟩, st14⟩ := X3.specialBack hx (y := (⟨"com/example/stonegaze/stonegaze/Groups", "<init>", "(I)V"⟩ : MethodName)) rfl hown (mvT hZ (hw _ (List.mem_of_getElem? (i := 3) rfl))) (mvT hZ (hw _ (List.mem_of_getElem? (i := 4) rfl))) (mvT hZ (hw _ (List.mem_of_getElem? (i := 5) rfl))) (by decide) (backOf (W := 1) (rm1 l Z a0 hw [] b3 x1 h3 n0 O5 A3 f6 f7 f8 f9 f10 f11 f12 G5 NG_x1 NC_x1) hZ (hw _ (List.mem_of_getElem? (i := 5) rfl)) (hw _ (List.mem_of_getElem? (i := 2) rfl)) (by decide) (by decide)) (g := (mkF m 13 #[iv pi0, iv pi1, iv pi2, iv pi3, iv pi4, iv pi5, iv x1, .unset, .unset, .unset, .unset, .unset, .unset, .unset, .unset, .unset, .unset, .unset, .unset] [(.int x1), (.ref b3), (.ref b3)])) rfl (by rw [hml]; rfl) (Steps.refl _) (a := b3) (argsL := [(.int x1)]) (rest := [(.ref b3)]) (lenOf pd__I_V rfl) rfl (by show 2 * 0 + _ ≤ _; exact Nat.le_of_eq rfl) (hb hby at_13) (fun _ _ => ⟨rfl, e3, (by decide : 1 + 6 ≤ _), (by decide : 7 + 30 ≤ _)⟩)
  dsimp only [Pt.U, Pt.locs, Pt.cells, Pt.slots] at X14 l14 y14 z14 st14 hQ14
  subst l14 y14 z14
  have bl14 := A3.lt
  obtain ⟨z14_groupOf, z14_colours, z14_stones, z14_liberties, z14_ringed, z14_aLiberty, k14_groupOf, k14_colours, k14_stones, k14_liberties, k14_ringed, k14_aLiberty, hv14, N14q, K14q, pF14_groupOf, pF14_colours, pF14_stones, pF14_liberties, pF14_ringed, pF14_aLiberty, pF14_count, pV14_groupOf, pV14_colours, pV14_stones, pV14_liberties, pV14_ringed, pV14_aLiberty, OV14, SZ14, lt14_colours, lt14_stones, lt14_liberties, lt14_ringed, lt14_aLiberty⟩ := hQ14
  have N15 := Fr.app N0 N14q
  subst hv14
  have pre16 : ∀ t, Steps p.tables e below (T14.setTop (mkF m 16 #[iv pi0, iv pi1, iv pi2, iv pi3, iv pi4, iv pi5, iv x1, .unset, .unset, .unset, .unset, .unset, .unset, .unset, .unset, .unset, .unset, .unset, .unset] [(.ref b3)])) t → Go t := fun t kt => pre13 t (st14.trans kt)
  obtain ⟨h14, eh14⟩ : ∃ z, T14.heap = z := ⟨_, rfl⟩
  rw [eh14] at K14q pF14_groupOf pF14_colours pF14_stones pF14_liberties pF14_ringed pF14_aLiberty pF14_count pV14_groupOf pV14_colours pV14_stones pV14_liberties pV14_ringed pV14_aLiberty
  have G14_groupOf : n0 ≤ z14_groupOf := by have := O5.1; have := O5.2.1; omega
  have G14_colours : n0 ≤ z14_colours := by have := O5.1; have := O5.2.1; omega
  have G14_stones : n0 ≤ z14_stones := by have := O5.1; have := O5.2.1; omega
  have G14_liberties : n0 ≤ z14_liberties := by have := O5.1; have := O5.2.1; omega
  have G14_ringed : n0 ≤ z14_ringed := by have := O5.1; have := O5.2.1; omega
  have G14_aLiberty : n0 ≤ z14_aLiberty := by have := O5.1; have := O5.2.1; omega
  have f17 : Exa Z h14 b3 "com/example/stonegaze/stonegaze/Groups" := (A3.keep K14q)
  have O15 := O5.keep K14q (allS G5 all0)
  have OR_b3 : @LT.lt Nat instLTNat b3 z14_groupOf ∧ @LT.lt Nat instLTNat z14_groupOf z14_colours ∧ @LT.lt Nat instLTNat z14_colours z14_stones ∧ @LT.lt Nat instLTNat z14_stones z14_liberties ∧ @LT.lt Nat instLTNat z14_liberties z14_ringed ∧ @LT.lt Nat instLTNat z14_ringed z14_aLiberty := ⟨Nat.lt_of_lt_of_le bl14 SZ14, lt14_colours, lt14_stones, lt14_liberties, lt14_ringed, lt14_aLiberty⟩
  have ne25 : b3 ≠ z14_groupOf := Nat.ne_of_lt (by have := OR_b3; omega)
  have ne26 : b3 ≠ z14_colours := Nat.ne_of_lt (by have := OR_b3; omega)
  have ne27 : b3 ≠ z14_stones := Nat.ne_of_lt (by have := OR_b3; omega)
  have ne28 : b3 ≠ z14_liberties := Nat.ne_of_lt (by have := OR_b3; omega)
  have ne29 : b3 ≠ z14_ringed := Nat.ne_of_lt (by have := OR_b3; omega)
  have ne30 : b3 ≠ z14_aLiberty := Nat.ne_of_lt (by have := OR_b3; omega)
  have ne31 : z14_groupOf ≠ z14_colours := Nat.ne_of_lt (by have := OR_b3; omega)
  have ne32 : z14_groupOf ≠ z14_stones := Nat.ne_of_lt (by have := OR_b3; omega)
  have ne33 : z14_groupOf ≠ z14_liberties := Nat.ne_of_lt (by have := OR_b3; omega)
  have ne34 : z14_groupOf ≠ z14_ringed := Nat.ne_of_lt (by have := OR_b3; omega)
  have ne35 : z14_groupOf ≠ z14_aLiberty := Nat.ne_of_lt (by have := OR_b3; omega)
  have ne36 : z14_colours ≠ z14_stones := Nat.ne_of_lt (by have := OR_b3; omega)
  have ne37 : z14_colours ≠ z14_liberties := Nat.ne_of_lt (by have := OR_b3; omega)
  have ne38 : z14_colours ≠ z14_ringed := Nat.ne_of_lt (by have := OR_b3; omega)
  have ne39 : z14_colours ≠ z14_aLiberty := Nat.ne_of_lt (by have := OR_b3; omega)
  have ne40 : z14_stones ≠ z14_liberties := Nat.ne_of_lt (by have := OR_b3; omega)
  have ne41 : z14_stones ≠ z14_ringed := Nat.ne_of_lt (by have := OR_b3; omega)
  have ne42 : z14_stones ≠ z14_aLiberty := Nat.ne_of_lt (by have := OR_b3; omega)
  have ne43 : z14_liberties ≠ z14_ringed := Nat.ne_of_lt (by have := OR_b3; omega)
  have ne44 : z14_liberties ≠ z14_aLiberty := Nat.ne_of_lt (by have := OR_b3; omega)
  have ne45 : z14_ringed ≠ z14_aLiberty := Nat.ne_of_lt (by have := OR_b3; omega)
  have pre46 : ∀ t, Steps p.tables e below (T14.setTop (mkF m 20 #[iv pi0, iv pi1, iv pi2, iv pi3, iv pi4, iv pi5, iv x1, rv b3, .unset, .unset, .unset, .unset, .unset, .unset, .unset, .unset, .unset, .unset, .unset] [(.ref b3)])) t → Go t := fun t kt => pre16 t (by
      refine y_astore X14.here hx (hb hby at_16) rfl (l' := #[iv pi0, iv pi1, iv pi2, iv pi3, iv pi4, iv pi5, iv x1, rv b3, .unset, .unset, .unset, .unset, .unset, .unset, .unset, .unset, .unset, .unset, .unset]) rfl (pc' := 18) rfl ?_
      refine y_aload X14.here hx (hb hby at_18) rfl rfl (pc' := 20) rfl ?_
      exact kt)
  obtain ⟨T47, X47, e47, st47⟩ := getS2 X14 hx hZ hown (host := "") (Or.inl (hw _ (List.mem_of_getElem? (i := 29) rfl))) Via.refl eh14 (S_WHITE.ext O15.2) (g := (mkF m 20 #[iv pi0, iv pi1, iv pi2, iv pi3, iv pi4, iv pi5, iv x1, rv b3, .unset, .unset, .unset, .unset, .unset, .unset, .unset, .unset, .unset, .unset, .unset] [(.ref b3)])) rfl (hb hby at_20)
  have pre48 : ∀ t, Steps p.tables e below (T47.setTop (mkF m 23 #[iv pi0, iv pi1, iv pi2, iv pi3, iv pi4, iv pi5, iv x1, rv b3, .unset, .unset, .unset, .unset, .unset, .unset, .unset, .unset, .unset, .unset, .unset] [(.ref w_WHITE), (.ref b3)])) t → Go t := fun t kt => pre46 t (st47 t kt)
  have pre49 : ∀ t, Steps p.tables e below (T47.setTop (mkF m 26 #[iv pi0, iv pi1, iv pi2, iv pi3, iv pi4, iv pi5, iv x1, rv b3, .unset, .unset, .unset, .unset, .unset, .unset, .unset, .unset, .unset, .unset, .unset] [(.int (0 : Int32)), (.int (-1 : Int32)), (.int (0 : Int32)), (.ref w_WHITE), (.ref b3)])) t → Go t := fun t kt => pre48 t (by
      refine y_iconst X47.here hx (hb hby at_23) (v := (0 : Int32)) rfl (pc' := 24) rfl ?_
      refine y_iconst X47.here hx (hb hby at_24) (v := (-1 : Int32)) rfl (pc' := 25) rfl ?_
      refine y_iconst X47.here hx (hb hby at_25) (v := (0 : Int32)) rfl (pc' := 26) rfl ?_
      exact kt)
  obtain ⟨cq50, kq50, q50a, q50b, q50c⟩ := isOf hZ e47 f17
  obtain ⟨v50, _, ⟨T50, L50, k50, n50⟩, -, X50, ⟨Lc50, hQ50, l50, y50, z50⟩, st50⟩ := X47.virtualBack hx (y := (⟨"com/example/stonegaze/stonegaze/Groups", "add", "(Lcom/example/stonegaze/stonegaze/Side;IIZ)I"⟩ : MethodName)) (z := (⟨"com/example/stonegaze/stonegaze/Groups", "add", "(Lcom/example/stonegaze/stonegaze/Side;IIZ)I"⟩ : MethodName)) hown (mvT hZ (hw _ (List.mem_of_getElem? (i := 32) rfl))) (mvT hZ (hw _ (List.mem_of_getElem? (i := 33) rfl))) (notFace_of_selects (args := #[]) (mvT hZ (hw _ (List.mem_of_getElem? (i := 35) rfl)))) (mvT hZ (hw _ (List.mem_of_getElem? (i := 35) rfl))) (mvT hZ (hw _ (List.mem_of_getElem? (i := 34) rfl))) (by decide) (backOf (W := 0) (rm4c0 l Z a0 hw [] b3 w_WHITE (0 : Int32) (-1 : Int32) (0 : Int32) z14_groupOf z14_colours z14_stones z14_liberties z14_ringed z14_aLiberty x1 k14_colours k14_liberties k14_aLiberty k14_ringed h14 n0 O15 f17 pF14_groupOf pF14_colours pF14_stones pF14_liberties pF14_ringed pF14_aLiberty pF14_count (E_w_WHITE.ext O15.2) G5 G14_colours G14_liberties G14_aLiberty G14_ringed OR_b3 L0_x1 L1_x1 pV14_colours OV14 pV14_liberties pV14_aLiberty pV14_ringed) hZ (hw _ (List.mem_of_getElem? (i := 36) rfl)) (hw _ (List.mem_of_getElem? (i := 2) rfl)) (by decide) (by decide)) q50a q50c (g := (mkF m 26 #[iv pi0, iv pi1, iv pi2, iv pi3, iv pi4, iv pi5, iv x1, rv b3, .unset, .unset, .unset, .unset, .unset, .unset, .unset, .unset, .unset, .unset, .unset] [(.int (0 : Int32)), (.int (-1 : Int32)), (.int (0 : Int32)), (.ref w_WHITE), (.ref b3)])) rfl (by rw [hml]; rfl) (Steps.refl _) (argsL := [(.ref w_WHITE), (.int (0 : Int32)), (.int (-1 : Int32)), (.int (0 : Int32))]) (rest := []) (lenOf pd__Lcom_example_stonegaze_stonegaze_Side_IIZ_I rfl) rfl (by show 2 * 0 + _ ≤ _; exact Nat.le_of_eq rfl) (hb hby at_26) (fun _ _ => ⟨rfl, e47, (by decide : 7 + 0 ≤ _), (by decide : 37 + 0 ≤ _)⟩)
  dsimp only [Pt.U, Pt.locs, Pt.cells, Pt.slots] at X50 l50 y50 z50 st50 hQ50
  subst l50 y50 z50
  obtain ⟨hv50, N50q, K50q, p50_0, p50_1, p50_2, p50_3, p50_4, p50_5, p50_6, p50_7, p50_8, p50_9, p50_10⟩ := hQ50
  have N51 := Fr.app N15 N50q
  have hw50 := hv50
  subst hw50
  have pre52 : ∀ t, Steps p.tables e below (T50.setTop (mkF m 29 #[iv pi0, iv pi1, iv pi2, iv pi3, iv pi4, iv pi5, iv x1, rv b3, .unset, .unset, .unset, .unset, .unset, .unset, .unset, .unset, .unset, .unset, .unset] [(.int (0 : Int32))])) t → Go t := fun t kt => pre49 t (st50.trans kt)
  obtain ⟨h50, eh50⟩ : ∃ z, T50.heap = z := ⟨_, rfl⟩
  rw [eh50] at K50q p50_0 p50_1 p50_2 p50_3 p50_4 p50_5 p50_6 p50_7 p50_8 p50_9 p50_10
  have f53 : Exa Z h50 b3 "com/example/stonegaze/stonegaze/Groups" := (f17.keep K50q)
  have f55 : Arv Z h50 z14_groupOf k14_groupOf .int x1 [] (.int (-1 : Int32)) := (pV14_groupOf.keep K50q (ninS (Ne.symm ne25) (ninS ne31 (ninS ne33 (ninS ne35 (ninS ne34 nin0))))))
  have f59 : Arv Z h50 z14_stones k14_stones .int x1 [(.int (0 : Int32)), (.int (0 : Int32))] (.int (0 : Int32)) := (pV14_stones.keep K50q (ninS (Ne.symm ne27) (ninS (Ne.symm ne36) (ninS ne40 (ninS ne42 (ninS ne41 nin0))))))
  obtain ⟨x67, hx67⟩ : ∃ z : Int32, z = (nar .boolean (0 : Int32)) := ⟨_, rfl⟩
  rw [← hx67] at p50_10
  have O68 := O15.keep K50q (allS G5 (allS G14_colours (allS G14_liberties (allS G14_aLiberty (allS G14_ringed all0)))))
  have pre69 : ∀ t, Steps p.tables e below (T50.setTop (mkF m 33 #[iv pi0, iv pi1, iv pi2, iv pi3, iv pi4, iv pi5, iv x1, rv b3, iv (0 : Int32), .unset, .unset, .unset, .unset, .unset, .unset, .unset, .unset, .unset, .unset] [(.ref b3)])) t → Go t := fun t kt => pre52 t (by
      refine y_istore X50.here hx (hb hby at_29) (l' := #[iv pi0, iv pi1, iv pi2, iv pi3, iv pi4, iv pi5, iv x1, rv b3, iv (0 : Int32), .unset, .unset, .unset, .unset, .unset, .unset, .unset, .unset, .unset, .unset]) rfl (pc' := 31) rfl ?_
      refine y_aload X50.here hx (hb hby at_31) rfl rfl (pc' := 33) rfl ?_
      exact kt)
  obtain ⟨T70, X70, e70, st70⟩ := getS2 X50 hx hZ hown (host := "") (Or.inl (hw _ (List.mem_of_getElem? (i := 40) rfl))) Via.refl eh50 (S_BLACK.ext O68.2) (g := (mkF m 33 #[iv pi0, iv pi1, iv pi2, iv pi3, iv pi4, iv pi5, iv x1, rv b3, iv (0 : Int32), .unset, .unset, .unset, .unset, .unset, .unset, .unset, .unset, .unset, .unset] [(.ref b3)])) rfl (hb hby at_33)
  have pre71 : ∀ t, Steps p.tables e below (T70.setTop (mkF m 36 #[iv pi0, iv pi1, iv pi2, iv pi3, iv pi4, iv pi5, iv x1, rv b3, iv (0 : Int32), .unset, .unset, .unset, .unset, .unset, .unset, .unset, .unset, .unset, .unset] [(.ref w_BLACK), (.ref b3)])) t → Go t := fun t kt => pre69 t (st70 t kt)
  have pre72 : ∀ t, Steps p.tables e below (T70.setTop (mkF m 39 #[iv pi0, iv pi1, iv pi2, iv pi3, iv pi4, iv pi5, iv x1, rv b3, iv (0 : Int32), .unset, .unset, .unset, .unset, .unset, .unset, .unset, .unset, .unset, .unset] [(.int (1 : Int32)), (.int (0 : Int32)), (.int (1 : Int32)), (.ref w_BLACK), (.ref b3)])) t → Go t := fun t kt => pre71 t (by
      refine y_iconst X70.here hx (hb hby at_36) (v := (1 : Int32)) rfl (pc' := 37) rfl ?_
      refine y_iconst X70.here hx (hb hby at_37) (v := (0 : Int32)) rfl (pc' := 38) rfl ?_
      refine y_iconst X70.here hx (hb hby at_38) (v := (1 : Int32)) rfl (pc' := 39) rfl ?_
      exact kt)
  obtain ⟨cq73, kq73, q73a, q73b, q73c⟩ := isOf hZ e70 f53
  obtain ⟨v73, _, ⟨T73, L73, k73, n73⟩, -, X73, ⟨Lc73, hQ73, l73, y73, z73⟩, st73⟩ := X70.virtualBack hx (y := (⟨"com/example/stonegaze/stonegaze/Groups", "add", "(Lcom/example/stonegaze/stonegaze/Side;IIZ)I"⟩ : MethodName)) (z := (⟨"com/example/stonegaze/stonegaze/Groups", "add", "(Lcom/example/stonegaze/stonegaze/Side;IIZ)I"⟩ : MethodName)) hown (mvT hZ (hw _ (List.mem_of_getElem? (i := 32) rfl))) (mvT hZ (hw _ (List.mem_of_getElem? (i := 33) rfl))) (notFace_of_selects (args := #[]) (mvT hZ (hw _ (List.mem_of_getElem? (i := 35) rfl)))) (mvT hZ (hw _ (List.mem_of_getElem? (i := 35) rfl))) (mvT hZ (hw _ (List.mem_of_getElem? (i := 34) rfl))) (by decide) (backOf (W := 0) (rm4c1 l Z a0 hw [] b3 w_BLACK (1 : Int32) (0 : Int32) (1 : Int32) z14_groupOf z14_colours z14_stones z14_liberties z14_ringed z14_aLiberty x1 k14_colours w_WHITE k14_liberties (0 : Int32) k14_aLiberty (-1 : Int32) k14_ringed x67 h50 n0 O68 f53 p50_0 p50_1 p50_2 p50_3 p50_4 p50_5 p50_6 (E_w_BLACK.ext O68.2) G5 G14_colours G14_liberties G14_aLiberty G14_ringed OR_b3 L0_x1 L1_x1 p50_7 OV14 p50_8 p50_9 p50_10) hZ (hw _ (List.mem_of_getElem? (i := 36) rfl)) (hw _ (List.mem_of_getElem? (i := 2) rfl)) (by decide) (by decide)) q73a q73c (g := (mkF m 39 #[iv pi0, iv pi1, iv pi2, iv pi3, iv pi4, iv pi5, iv x1, rv b3, iv (0 : Int32), .unset, .unset, .unset, .unset, .unset, .unset, .unset, .unset, .unset, .unset] [(.int (1 : Int32)), (.int (0 : Int32)), (.int (1 : Int32)), (.ref w_BLACK), (.ref b3)])) rfl (by rw [hml]; rfl) (Steps.refl _) (argsL := [(.ref w_BLACK), (.int (1 : Int32)), (.int (0 : Int32)), (.int (1 : Int32))]) (rest := []) (lenOf pd__Lcom_example_stonegaze_stonegaze_Side_IIZ_I rfl) rfl (by show 2 * 0 + _ ≤ _; exact Nat.le_of_eq rfl) (hb hby at_39) (fun _ _ => ⟨rfl, e70, (by decide : 7 + 0 ≤ _), (by decide : 37 + 0 ≤ _)⟩)
  dsimp only [Pt.U, Pt.locs, Pt.cells, Pt.slots] at X73 l73 y73 z73 st73 hQ73
  subst l73 y73 z73
  obtain ⟨hv73, N73q, K73q, p73_0, p73_1, p73_2, p73_3, p73_4, p73_5, p73_6, p73_7, p73_8, p73_9, p73_10⟩ := hQ73
  have N74 := Fr.app N51 N73q
  have hw73 := hv73
  subst hw73
  have pre75 : ∀ t, Steps p.tables e below (T73.setTop (mkF m 42 #[iv pi0, iv pi1, iv pi2, iv pi3, iv pi4, iv pi5, iv x1, rv b3, iv (0 : Int32), .unset, .unset, .unset, .unset, .unset, .unset, .unset, .unset, .unset, .unset] [(.int (1 : Int32))])) t → Go t := fun t kt => pre72 t (st73.trans kt)
  obtain ⟨h73, eh73⟩ : ∃ z, T73.heap = z := ⟨_, rfl⟩
  rw [eh73] at K73q p73_0 p73_1 p73_2 p73_3 p73_4 p73_5 p73_6 p73_7 p73_8 p73_9 p73_10
  have f76 : Exa Z h73 b3 "com/example/stonegaze/stonegaze/Groups" := (f53.keep K73q)
  have f77 : Arv Z h73 z14_groupOf k14_groupOf .int x1 [] (.int (-1 : Int32)) := (f55.keep K73q (ninS (Ne.symm ne25) (ninS ne31 (ninS ne33 (ninS ne35 (ninS ne34 nin0))))))
  have f78 : Arv Z h73 z14_stones k14_stones .int x1 [(.int (0 : Int32)), (.int (0 : Int32))] (.int (0 : Int32)) := (f59.keep K73q (ninS (Ne.symm ne27) (ninS (Ne.symm ne36) (ninS ne40 (ninS ne42 (ninS ne41 nin0))))))
  obtain ⟨x90, hx90⟩ : ∃ z : Int32, z = (nar .boolean (1 : Int32)) := ⟨_, rfl⟩
  rw [← hx90] at p73_10
  have O91 := O68.keep K73q (allS G5 (allS G14_colours (allS G14_liberties (allS G14_aLiberty (allS G14_ringed all0)))))
  have pre92 : ∀ t, Steps p.tables e below (T73.setTop (mkF m 44 #[iv pi0, iv pi1, iv pi2, iv pi3, iv pi4, iv pi5, iv x1, rv b3, iv (0 : Int32), iv (1 : Int32), .unset, .unset, .unset, .unset, .unset, .unset, .unset, .unset, .unset] [])) t → Go t := fun t kt => pre75 t (by
      refine y_istore X73.here hx (hb hby at_42) (l' := #[iv pi0, iv pi1, iv pi2, iv pi3, iv pi4, iv pi5, iv x1, rv b3, iv (0 : Int32), iv (1 : Int32), .unset, .unset, .unset, .unset, .unset, .unset, .unset, .unset, .unset]) rfl (pc' := 44) rfl ?_
      exact kt)
  have f93 : Arh Z h73 z14_groupOf k14_groupOf .int x1 [] [] (.int (-1 : Int32)) := Arv.arh f77
  obtain ⟨x94, hx94⟩ : ∃ z : Int32, z = (pi1 &&& (1 : Int32)) := ⟨_, rfl⟩
  have pre95 : ∀ t, Steps p.tables e below (T73.setTop (mkF m 49 #[iv pi0, iv pi1, iv pi2, iv pi3, iv pi4, iv pi5, iv x1, rv b3, iv (0 : Int32), iv (1 : Int32), iv x94, .unset, .unset, .unset, .unset, .unset, .unset, .unset, .unset] [])) t → Go t := fun t kt => pre92 t (by
      subst hx94
      refine y_iloadN X73.here hx (hb hby at_44) rfl (pc' := 45) rfl ?_
      refine y_iconst X73.here hx (hb hby at_45) (v := (1 : Int32)) rfl (pc' := 46) rfl ?_
      refine y_iand X73.here hx (hb hby at_46) rfl (pc' := 47) rfl ?_
      refine y_istore X73.here hx (hb hby at_47) (l' := #[iv pi0, iv pi1, iv pi2, iv pi3, iv pi4, iv pi5, iv x1, rv b3, iv (0 : Int32), iv (1 : Int32), iv (pi1 &&& (1 : Int32)), .unset, .unset, .unset, .unset, .unset, .unset, .unset, .unset]) rfl (pc' := 49) rfl ?_
      exact kt)
  (try clear pre2)
  (try clear e3)
  (try clear E3)
  (try clear A3)
  (try clear D3)
  (try clear st3)
  (try clear g3)
  (try clear pre4)
  (try clear O5)
  (try clear f6)
  (try clear f7)
  (try clear f8)
  (try clear f9)
  (try clear f10)
  (try clear f11)
  (try clear f12)
  (try clear pre13)
  (try clear st14)
  (try clear hv14)
  (try clear N14q)
  (try clear K14q)
  (try clear N15)
  (try clear pre16)
  (try clear eh14)
  (try clear f17)
  (try clear O15)
  (try clear pre46)
  (try clear e47)
  (try clear st47)
  (try clear pre48)
  (try clear pre49)
  (try clear q50a)
  (try clear q50b)
  (try clear q50c)
  (try clear st50)
  (try clear hv50)
  (try clear N50q)
  (try clear K50q)
  (try clear N51)
  (try clear hw50)
  (try clear pre52)
  (try clear eh50)
  (try clear f53)
  (try clear f55)
  (try clear f59)
  (try clear O68)
  (try clear pre69)
  (try clear e70)
  (try clear st70)
  (try clear pre71)
  (try clear pre72)
  (try clear q73a)
  (try clear q73b)
  (try clear q73c)
  (try clear st73)
  (try clear hv73)
  (try clear N73q)
  (try clear K73q)
  (try clear hw73)
  (try clear pre75)
  (try clear f77)
  (try clear pre92)
  have hs49_96 : x94 = (0 : Int32) ∨ x94 = (1 : Int32) := by
      rw [hx94]; exact own_and1 _
  rcases hs49_96 with rfl | rfl
  · skip
    obtain ⟨x97, hx97⟩ : ∃ z : Int32, z = ((pi2 &&& (2147483647 : Int32)) % x1) := ⟨_, rfl⟩
    have pre98 : ∀ t, Steps p.tables e below (T73.setTop (mkF m 58 #[iv pi0, iv pi1, iv pi2, iv pi3, iv pi4, iv pi5, iv x1, rv b3, iv (0 : Int32), iv (1 : Int32), iv (0 : Int32), iv x97, .unset, .unset, .unset, .unset, .unset, .unset, .unset] [])) t → Go t := fun t kt => pre95 t (by
        subst hx97
        refine y_iloadN X73.here hx (hb hby at_49) rfl (pc' := 50) rfl ?_
        refine X73.ldcInt hx hown (mvT hZ (hw _ (List.mem_of_getElem? (i := 42) rfl))) (g := (mkF m 50 #[iv pi0, iv pi1, iv pi2, iv pi3, iv pi4, iv pi5, iv x1, rv b3, iv (0 : Int32), iv (1 : Int32), iv (0 : Int32), .unset, .unset, .unset, .unset, .unset, .unset, .unset, .unset] [(.int pi2)])) rfl (hb hby at_50) _ ?_
        show Steps p.tables e below (T73.setTop (mkF m 52 #[iv pi0, iv pi1, iv pi2, iv pi3, iv pi4, iv pi5, iv x1, rv b3, iv (0 : Int32), iv (1 : Int32), iv (0 : Int32), .unset, .unset, .unset, .unset, .unset, .unset, .unset, .unset] [(.int (2147483647 : Int32)), (.int pi2)])) _
        refine y_iand X73.here hx (hb hby at_52) rfl (pc' := 53) rfl ?_
        refine y_iload X73.here hx (hb hby at_53) rfl (pc' := 55) rfl ?_
        refine iremM (g := (mkF m 55 #[iv pi0, iv pi1, iv pi2, iv pi3, iv pi4, iv pi5, iv x1, rv b3, iv (0 : Int32), iv (1 : Int32), iv (0 : Int32), .unset, .unset, .unset, .unset, .unset, .unset, .unset, .unset] [(.int x1), (.int (pi2 &&& (2147483647 : Int32)))])) X73 hx rfl (hb hby at_55) rfl NZ_x1 ?_
        show Steps p.tables e below (T73.setTop (mkF m 56 #[iv pi0, iv pi1, iv pi2, iv pi3, iv pi4, iv pi5, iv x1, rv b3, iv (0 : Int32), iv (1 : Int32), iv (0 : Int32), .unset, .unset, .unset, .unset, .unset, .unset, .unset, .unset] [(.int ((pi2 &&& (2147483647 : Int32)) % x1))])) _
        refine y_istore X73.here hx (hb hby at_56) (l' := #[iv pi0, iv pi1, iv pi2, iv pi3, iv pi4, iv pi5, iv x1, rv b3, iv (0 : Int32), iv (1 : Int32), iv (0 : Int32), iv ((pi2 &&& (2147483647 : Int32)) % x1), .unset, .unset, .unset, .unset, .unset, .unset, .unset]) rfl (pc' := 58) rfl ?_
        exact kt)
    have CI_x97 : ¬ x97 < 0 ∧ x97 < x1 := by rw [hx97]; exact own_rem pi2 L0_x1
    have pre99 : ∀ t, Steps p.tables e below (T73.setTop (mkF m 64 #[iv pi0, iv pi1, iv pi2, iv pi3, iv pi4, iv pi5, iv x1, rv b3, iv (0 : Int32), iv (1 : Int32), iv (0 : Int32), iv x97, .unset, .unset, .unset, .unset, .unset, .unset, .unset] [(.int x97), (.int (0 : Int32)), (.ref b3)])) t → Go t := fun t kt => pre98 t (by
        refine y_aload X73.here hx (hb hby at_58) rfl rfl (pc' := 60) rfl ?_
        refine y_iload X73.here hx (hb hby at_60) rfl (pc' := 62) rfl ?_
        refine y_iload X73.here hx (hb hby at_62) rfl (pc' := 64) rfl ?_
        exact kt)
    obtain ⟨cq100, kq100, q100a, q100b, q100c⟩ := isOf hZ eh73 f76
    obtain ⟨v100, _, ⟨T100, L100, k100, n100⟩, -, X100, ⟨Lc100, hQ100, l100, y100, z100⟩, st100⟩ := X73.virtualBack hx (y := (⟨"com/example/stonegaze/stonegaze/Groups", "addStone", "(II)V"⟩ : MethodName)) (z := (⟨"com/example/stonegaze/stonegaze/Groups", "addStone", "(II)V"⟩ : MethodName)) hown (mvT hZ (hw _ (List.mem_of_getElem? (i := 43) rfl))) (mvT hZ (hw _ (List.mem_of_getElem? (i := 44) rfl))) (notFace_of_selects (args := #[]) (mvT hZ (hw _ (List.mem_of_getElem? (i := 46) rfl)))) (mvT hZ (hw _ (List.mem_of_getElem? (i := 46) rfl))) (mvT hZ (hw _ (List.mem_of_getElem? (i := 45) rfl))) (by decide) (backOf (W := 0) (rm5g0 l Z a0 hw [] b3 x97 z14_groupOf z14_stones x1 k14_groupOf [] k14_stones (0 : Int32) (0 : Int32) h73 n0 O91 f76 p73_0 p73_2 G14_groupOf G14_stones (by have := OR_b3; omega) CI_x97 L0_x1 L1_x1 f93 f78) hZ (hw _ (List.mem_of_getElem? (i := 47) rfl)) (hw _ (List.mem_of_getElem? (i := 2) rfl)) (by decide) (by decide)) q100a q100c (g := (mkF m 64 #[iv pi0, iv pi1, iv pi2, iv pi3, iv pi4, iv pi5, iv x1, rv b3, iv (0 : Int32), iv (1 : Int32), iv (0 : Int32), iv x97, .unset, .unset, .unset, .unset, .unset, .unset, .unset] [(.int x97), (.int (0 : Int32)), (.ref b3)])) rfl (by rw [hml]; rfl) (Steps.refl _) (argsL := [(.int (0 : Int32)), (.int x97)]) (rest := []) (lenOf pd__II_V rfl) rfl (by show 2 * 0 + _ ≤ _; exact Nat.le_of_eq rfl) (hb hby at_64) (fun _ _ => ⟨rfl, eh73, (by decide : 7 + 0 ≤ _), (by decide : 37 + 0 ≤ _)⟩)
    dsimp only [Pt.U, Pt.locs, Pt.cells, Pt.slots] at X100 l100 y100 z100 st100 hQ100
    subst l100 y100 z100
    obtain ⟨hv100, N100q, K100q, p100_0, p100_1⟩ := hQ100
    have N101 := Fr.app N74 N100q
    subst hv100
    have pre102 : ∀ t, Steps p.tables e below (T100.setTop (mkF m 67 #[iv pi0, iv pi1, iv pi2, iv pi3, iv pi4, iv pi5, iv x1, rv b3, iv (0 : Int32), iv (1 : Int32), iv (0 : Int32), iv x97, .unset, .unset, .unset, .unset, .unset, .unset, .unset] [])) t → Go t := fun t kt => pre99 t (st100.trans kt)
    obtain ⟨h100, eh100⟩ : ∃ z, T100.heap = z := ⟨_, rfl⟩
    rw [eh100] at K100q p100_0 p100_1
    have f103 : Exa Z h100 b3 "com/example/stonegaze/stonegaze/Groups" := (f76.keep K100q)
    have f106 : Fld Z h100 b3 "com/example/stonegaze/stonegaze/Groups" "groupOf" "[I" (.ref z14_groupOf) := (p73_0.keep K100q (ninS ne25 (ninS ne27 nin0)))
    have f107 : Fld Z h100 b3 "com/example/stonegaze/stonegaze/Groups" "colours" "[Lcom/example/stonegaze/stonegaze/Side;" (.ref z14_colours) := (p73_1.keep K100q (ninS ne25 (ninS ne27 nin0)))
    have f108 : Fld Z h100 b3 "com/example/stonegaze/stonegaze/Groups" "stones" "[I" (.ref z14_stones) := (p73_2.keep K100q (ninS ne25 (ninS ne27 nin0)))
    have f109 : Fld Z h100 b3 "com/example/stonegaze/stonegaze/Groups" "liberties" "[I" (.ref z14_liberties) := (p73_3.keep K100q (ninS ne25 (ninS ne27 nin0)))
    have f110 : Fld Z h100 b3 "com/example/stonegaze/stonegaze/Groups" "ringed" "[Z" (.ref z14_ringed) := (p73_4.keep K100q (ninS ne25 (ninS ne27 nin0)))
    have f111 : Fld Z h100 b3 "com/example/stonegaze/stonegaze/Groups" "aLiberty" "[I" (.ref z14_aLiberty) := (p73_5.keep K100q (ninS ne25 (ninS ne27 nin0)))
    have f112 : Fld Z h100 b3 "com/example/stonegaze/stonegaze/Groups" "count" "I" (.int (2 : Int32)) := (p73_6.keep K100q (ninS ne25 (ninS ne27 nin0)))
    have f113 : Arv Z h100 z14_colours k14_colours (.object "com/example/stonegaze/stonegaze/Side") x1 [(.ref w_WHITE), (.ref w_BLACK)] .null := (p73_7.keep K100q (ninS (Ne.symm ne31) (ninS ne36 nin0)))
    have f114 : Arv Z h100 z14_liberties k14_liberties .int x1 [(.int (0 : Int32)), (.int (1 : Int32))] (.int (0 : Int32)) := (p73_8.keep K100q (ninS (Ne.symm ne33) (ninS (Ne.symm ne40) nin0)))
    have f115 : Arv Z h100 z14_aLiberty k14_aLiberty .int x1 [(.int (-1 : Int32)), (.int (0 : Int32))] (.int (0 : Int32)) := (p73_9.keep K100q (ninS (Ne.symm ne35) (ninS (Ne.symm ne42) nin0)))
    have f116 : Arv Z h100 z14_ringed k14_ringed .boolean x1 [(.int x67), (.int x90)] (.int (0 : Int32)) := (p73_10.keep K100q (ninS (Ne.symm ne34) (ninS (Ne.symm ne41) nin0)))
    replace p100_1 : Arv Z h100 z14_stones k14_stones .int x1 [(.int (1 : Int32)), (.int (0 : Int32))] (.int (0 : Int32)) := p100_1
    have O117 := O91.keep K100q (allS G14_groupOf (allS G14_stones all0))
    obtain ⟨x118, hx118⟩ : ∃ z : Int32, z = (pi3 &&& (1 : Int32)) := ⟨_, rfl⟩
    have pre119 : ∀ t, Steps p.tables e below (T100.setTop (mkF m 72 #[iv pi0, iv pi1, iv pi2, iv pi3, iv pi4, iv pi5, iv x1, rv b3, iv (0 : Int32), iv (1 : Int32), iv (0 : Int32), iv x97, iv x118, .unset, .unset, .unset, .unset, .unset, .unset] [])) t → Go t := fun t kt => pre102 t (by
        subst hx118
        refine y_iloadN X100.here hx (hb hby at_67) rfl (pc' := 68) rfl ?_
        refine y_iconst X100.here hx (hb hby at_68) (v := (1 : Int32)) rfl (pc' := 69) rfl ?_
        refine y_iand X100.here hx (hb hby at_69) rfl (pc' := 70) rfl ?_
        refine y_istore X100.here hx (hb hby at_70) (l' := #[iv pi0, iv pi1, iv pi2, iv pi3, iv pi4, iv pi5, iv x1, rv b3, iv (0 : Int32), iv (1 : Int32), iv (0 : Int32), iv x97, iv (pi3 &&& (1 : Int32)), .unset, .unset, .unset, .unset, .unset, .unset]) rfl (pc' := 72) rfl ?_
        exact kt)
    (try clear pre98)
    (try clear pre99)
    (try clear q100a)
    (try clear q100b)
    (try clear q100c)
    (try clear st100)
    (try clear hv100)
    (try clear N100q)
    (try clear K100q)
    (try clear pre102)
    have hs72_120 : x118 = (0 : Int32) ∨ x118 = (1 : Int32) := by
        rw [hx118]; exact own_and1 _
    rcases hs72_120 with rfl | rfl
    · skip
      obtain ⟨x121, hx121⟩ : ∃ z : Int32, z = ((pi4 &&& (2147483647 : Int32)) % x1) := ⟨_, rfl⟩
      have pre122 : ∀ t, Steps p.tables e below (T100.setTop (mkF m 82 #[iv pi0, iv pi1, iv pi2, iv pi3, iv pi4, iv pi5, iv x1, rv b3, iv (0 : Int32), iv (1 : Int32), iv (0 : Int32), iv x97, iv (0 : Int32), iv x121, .unset, .unset, .unset, .unset, .unset] [])) t → Go t := fun t kt => pre119 t (by
          subst hx121
          refine y_iload X100.here hx (hb hby at_72) rfl (pc' := 74) rfl ?_
          refine X100.ldcInt hx hown (mvT hZ (hw _ (List.mem_of_getElem? (i := 42) rfl))) (g := (mkF m 74 #[iv pi0, iv pi1, iv pi2, iv pi3, iv pi4, iv pi5, iv x1, rv b3, iv (0 : Int32), iv (1 : Int32), iv (0 : Int32), iv x97, iv (0 : Int32), .unset, .unset, .unset, .unset, .unset, .unset] [(.int pi4)])) rfl (hb hby at_74) _ ?_
          show Steps p.tables e below (T100.setTop (mkF m 76 #[iv pi0, iv pi1, iv pi2, iv pi3, iv pi4, iv pi5, iv x1, rv b3, iv (0 : Int32), iv (1 : Int32), iv (0 : Int32), iv x97, iv (0 : Int32), .unset, .unset, .unset, .unset, .unset, .unset] [(.int (2147483647 : Int32)), (.int pi4)])) _
          refine y_iand X100.here hx (hb hby at_76) rfl (pc' := 77) rfl ?_
          refine y_iload X100.here hx (hb hby at_77) rfl (pc' := 79) rfl ?_
          refine iremM (g := (mkF m 79 #[iv pi0, iv pi1, iv pi2, iv pi3, iv pi4, iv pi5, iv x1, rv b3, iv (0 : Int32), iv (1 : Int32), iv (0 : Int32), iv x97, iv (0 : Int32), .unset, .unset, .unset, .unset, .unset, .unset] [(.int x1), (.int (pi4 &&& (2147483647 : Int32)))])) X100 hx rfl (hb hby at_79) rfl NZ_x1 ?_
          show Steps p.tables e below (T100.setTop (mkF m 80 #[iv pi0, iv pi1, iv pi2, iv pi3, iv pi4, iv pi5, iv x1, rv b3, iv (0 : Int32), iv (1 : Int32), iv (0 : Int32), iv x97, iv (0 : Int32), .unset, .unset, .unset, .unset, .unset, .unset] [(.int ((pi4 &&& (2147483647 : Int32)) % x1))])) _
          refine y_istore X100.here hx (hb hby at_80) (l' := #[iv pi0, iv pi1, iv pi2, iv pi3, iv pi4, iv pi5, iv x1, rv b3, iv (0 : Int32), iv (1 : Int32), iv (0 : Int32), iv x97, iv (0 : Int32), iv ((pi4 &&& (2147483647 : Int32)) % x1), .unset, .unset, .unset, .unset, .unset]) rfl (pc' := 82) rfl ?_
          exact kt)
      have CI_x121 : ¬ x121 < 0 ∧ x121 < x1 := by rw [hx121]; exact own_rem pi4 L0_x1
      obtain ⟨x123, hx123⟩ : ∃ z : Int32, z = ((pi5 &&& (2147483647 : Int32)) % x1) := ⟨_, rfl⟩
      have pre124 : ∀ t, Steps p.tables e below (T100.setTop (mkF m 92 #[iv pi0, iv pi1, iv pi2, iv pi3, iv pi4, iv pi5, iv x1, rv b3, iv (0 : Int32), iv (1 : Int32), iv (0 : Int32), iv x97, iv (0 : Int32), iv x121, iv x123, .unset, .unset, .unset, .unset] [])) t → Go t := fun t kt => pre122 t (by
          subst hx123
          refine y_iload X100.here hx (hb hby at_82) rfl (pc' := 84) rfl ?_
          refine X100.ldcInt hx hown (mvT hZ (hw _ (List.mem_of_getElem? (i := 42) rfl))) (g := (mkF m 84 #[iv pi0, iv pi1, iv pi2, iv pi3, iv pi4, iv pi5, iv x1, rv b3, iv (0 : Int32), iv (1 : Int32), iv (0 : Int32), iv x97, iv (0 : Int32), iv x121, .unset, .unset, .unset, .unset, .unset] [(.int pi5)])) rfl (hb hby at_84) _ ?_
          show Steps p.tables e below (T100.setTop (mkF m 86 #[iv pi0, iv pi1, iv pi2, iv pi3, iv pi4, iv pi5, iv x1, rv b3, iv (0 : Int32), iv (1 : Int32), iv (0 : Int32), iv x97, iv (0 : Int32), iv x121, .unset, .unset, .unset, .unset, .unset] [(.int (2147483647 : Int32)), (.int pi5)])) _
          refine y_iand X100.here hx (hb hby at_86) rfl (pc' := 87) rfl ?_
          refine y_iload X100.here hx (hb hby at_87) rfl (pc' := 89) rfl ?_
          refine iremM (g := (mkF m 89 #[iv pi0, iv pi1, iv pi2, iv pi3, iv pi4, iv pi5, iv x1, rv b3, iv (0 : Int32), iv (1 : Int32), iv (0 : Int32), iv x97, iv (0 : Int32), iv x121, .unset, .unset, .unset, .unset, .unset] [(.int x1), (.int (pi5 &&& (2147483647 : Int32)))])) X100 hx rfl (hb hby at_89) rfl NZ_x1 ?_
          show Steps p.tables e below (T100.setTop (mkF m 90 #[iv pi0, iv pi1, iv pi2, iv pi3, iv pi4, iv pi5, iv x1, rv b3, iv (0 : Int32), iv (1 : Int32), iv (0 : Int32), iv x97, iv (0 : Int32), iv x121, .unset, .unset, .unset, .unset, .unset] [(.int ((pi5 &&& (2147483647 : Int32)) % x1))])) _
          refine y_istore X100.here hx (hb hby at_90) (l' := #[iv pi0, iv pi1, iv pi2, iv pi3, iv pi4, iv pi5, iv x1, rv b3, iv (0 : Int32), iv (1 : Int32), iv (0 : Int32), iv x97, iv (0 : Int32), iv x121, iv ((pi5 &&& (2147483647 : Int32)) % x1), .unset, .unset, .unset, .unset]) rfl (pc' := 92) rfl ?_
          exact kt)
      have CI_x123 : ¬ x123 < 0 ∧ x123 < x1 := by rw [hx123]; exact own_rem pi5 L0_x1
      have pre125 : ∀ t, Steps p.tables e below (T100.setTop (mkF m 98 #[iv pi0, iv pi1, iv pi2, iv pi3, iv pi4, iv pi5, iv x1, rv b3, iv (0 : Int32), iv (1 : Int32), iv (0 : Int32), iv x97, iv (0 : Int32), iv x121, iv x123, .unset, .unset, .unset, .unset] [(.int x121), (.int (0 : Int32)), (.ref b3)])) t → Go t := fun t kt => pre124 t (by
          refine y_aload X100.here hx (hb hby at_92) rfl rfl (pc' := 94) rfl ?_
          refine y_iload X100.here hx (hb hby at_94) rfl (pc' := 96) rfl ?_
          refine y_iload X100.here hx (hb hby at_96) rfl (pc' := 98) rfl ?_
          exact kt)
      obtain ⟨cq126, kq126, q126a, q126b, q126c⟩ := isOf hZ eh100 f103
      obtain ⟨v126, _, ⟨T126, L126, k126, n126⟩, -, X126, ⟨Lc126, hQ126, l126, y126, z126⟩, st126⟩ := X100.virtualBack hx (y := (⟨"com/example/stonegaze/stonegaze/Groups", "addStone", "(II)V"⟩ : MethodName)) (z := (⟨"com/example/stonegaze/stonegaze/Groups", "addStone", "(II)V"⟩ : MethodName)) hown (mvT hZ (hw _ (List.mem_of_getElem? (i := 43) rfl))) (mvT hZ (hw _ (List.mem_of_getElem? (i := 44) rfl))) (notFace_of_selects (args := #[]) (mvT hZ (hw _ (List.mem_of_getElem? (i := 46) rfl)))) (mvT hZ (hw _ (List.mem_of_getElem? (i := 46) rfl))) (mvT hZ (hw _ (List.mem_of_getElem? (i := 45) rfl))) (by decide) (backOf (W := 0) (rm5g0 l Z a0 hw [] b3 x121 z14_groupOf z14_stones x1 k14_groupOf ((x97, (.int (0 : Int32))) :: []) k14_stones (1 : Int32) (0 : Int32) h100 n0 O117 f103 f106 f108 G14_groupOf G14_stones (by have := OR_b3; omega) CI_x121 L0_x1 L1_x1 p100_0 p100_1) hZ (hw _ (List.mem_of_getElem? (i := 47) rfl)) (hw _ (List.mem_of_getElem? (i := 2) rfl)) (by decide) (by decide)) q126a q126c (g := (mkF m 98 #[iv pi0, iv pi1, iv pi2, iv pi3, iv pi4, iv pi5, iv x1, rv b3, iv (0 : Int32), iv (1 : Int32), iv (0 : Int32), iv x97, iv (0 : Int32), iv x121, iv x123, .unset, .unset, .unset, .unset] [(.int x121), (.int (0 : Int32)), (.ref b3)])) rfl (by rw [hml]; rfl) (Steps.refl _) (argsL := [(.int (0 : Int32)), (.int x121)]) (rest := []) (lenOf pd__II_V rfl) rfl (by show 2 * 0 + _ ≤ _; exact Nat.le_of_eq rfl) (hb hby at_98) (fun _ _ => ⟨rfl, eh100, (by decide : 7 + 0 ≤ _), (by decide : 37 + 0 ≤ _)⟩)
      dsimp only [Pt.U, Pt.locs, Pt.cells, Pt.slots] at X126 l126 y126 z126 st126 hQ126
      subst l126 y126 z126
      obtain ⟨hv126, N126q, K126q, p126_0, p126_1⟩ := hQ126
      have N127 := Fr.app N101 N126q
      subst hv126
      have pre128 : ∀ t, Steps p.tables e below (T126.setTop (mkF m 101 #[iv pi0, iv pi1, iv pi2, iv pi3, iv pi4, iv pi5, iv x1, rv b3, iv (0 : Int32), iv (1 : Int32), iv (0 : Int32), iv x97, iv (0 : Int32), iv x121, iv x123, .unset, .unset, .unset, .unset] [])) t → Go t := fun t kt => pre125 t (st126.trans kt)
      obtain ⟨h126, eh126⟩ : ∃ z, T126.heap = z := ⟨_, rfl⟩
      rw [eh126] at K126q p126_0 p126_1
      have f129 : Exa Z h126 b3 "com/example/stonegaze/stonegaze/Groups" := (f103.keep K126q)
      have f130 : Fld Z h126 b3 "com/example/stonegaze/stonegaze/Groups" "groupOf" "[I" (.ref z14_groupOf) := (f106.keep K126q (ninS ne25 (ninS ne27 nin0)))
      have f131 : Fld Z h126 b3 "com/example/stonegaze/stonegaze/Groups" "colours" "[Lcom/example/stonegaze/stonegaze/Side;" (.ref z14_colours) := (f107.keep K126q (ninS ne25 (ninS ne27 nin0)))
      have f132 : Fld Z h126 b3 "com/example/stonegaze/stonegaze/Groups" "stones" "[I" (.ref z14_stones) := (f108.keep K126q (ninS ne25 (ninS ne27 nin0)))
      have f133 : Fld Z h126 b3 "com/example/stonegaze/stonegaze/Groups" "liberties" "[I" (.ref z14_liberties) := (f109.keep K126q (ninS ne25 (ninS ne27 nin0)))
      have f134 : Fld Z h126 b3 "com/example/stonegaze/stonegaze/Groups" "ringed" "[Z" (.ref z14_ringed) := (f110.keep K126q (ninS ne25 (ninS ne27 nin0)))
      have f135 : Fld Z h126 b3 "com/example/stonegaze/stonegaze/Groups" "aLiberty" "[I" (.ref z14_aLiberty) := (f111.keep K126q (ninS ne25 (ninS ne27 nin0)))
      have f136 : Fld Z h126 b3 "com/example/stonegaze/stonegaze/Groups" "count" "I" (.int (2 : Int32)) := (f112.keep K126q (ninS ne25 (ninS ne27 nin0)))
      have f137 : Arv Z h126 z14_colours k14_colours (.object "com/example/stonegaze/stonegaze/Side") x1 [(.ref w_WHITE), (.ref w_BLACK)] .null := (f113.keep K126q (ninS (Ne.symm ne31) (ninS ne36 nin0)))
      have f138 : Arv Z h126 z14_liberties k14_liberties .int x1 [(.int (0 : Int32)), (.int (1 : Int32))] (.int (0 : Int32)) := (f114.keep K126q (ninS (Ne.symm ne33) (ninS (Ne.symm ne40) nin0)))
      have f139 : Arv Z h126 z14_aLiberty k14_aLiberty .int x1 [(.int (-1 : Int32)), (.int (0 : Int32))] (.int (0 : Int32)) := (f115.keep K126q (ninS (Ne.symm ne35) (ninS (Ne.symm ne42) nin0)))
      have f140 : Arv Z h126 z14_ringed k14_ringed .boolean x1 [(.int x67), (.int x90)] (.int (0 : Int32)) := (f116.keep K126q (ninS (Ne.symm ne34) (ninS (Ne.symm ne41) nin0)))
      replace p126_1 : Arv Z h126 z14_stones k14_stones .int x1 [(.int (2 : Int32)), (.int (0 : Int32))] (.int (0 : Int32)) := p126_1
      have O143 := O117.keep K126q (allS G14_groupOf (allS G14_stones all0))
      have pre144 : ∀ t, Steps p.tables e below (T126.setTop (mkF m 153 #[iv pi0, iv pi1, iv pi2, iv pi3, iv pi4, iv pi5, iv x1, rv b3, iv (0 : Int32), iv (1 : Int32), iv (0 : Int32), iv x97, iv (0 : Int32), iv x121, iv x123, iv (2 : Int32), iv (0 : Int32), .unset, .unset] [(.int x121), (.int x123)])) t → Go t := fun t kt => pre128 t (by
          refine y_iload X126.here hx (hb hby at_101) rfl (pc' := 103) rfl ?_
          refine y_ifNo X126.here hx (hb hby at_103) ((if0 _ _).trans (teq (rfl : (0 : Int32) = (0 : Int32))).2) (pc' := 106) rfl ?_
          refine y_iconst X126.here hx (hb hby at_106) (v := (1 : Int32)) rfl (pc' := 107) rfl ?_
          refine y_goto X126.here hx (hb hby at_107) (pc' := 111) (by decide) rfl ?_
          refine y_iload X126.here hx (hb hby at_111) rfl (pc' := 113) rfl ?_
          refine y_ifNo X126.here hx (hb hby at_113) ((if0 _ _).trans (teq (rfl : (0 : Int32) = (0 : Int32))).2) (pc' := 116) rfl ?_
          refine y_iconst X126.here hx (hb hby at_116) (v := (1 : Int32)) rfl (pc' := 117) rfl ?_
          refine y_goto X126.here hx (hb hby at_117) (pc' := 121) (by decide) rfl ?_
          refine y_iadd X126.here hx (hb hby at_121) (z := (2 : Int32)) rfl (pc' := 122) rfl ?_
          refine y_istore X126.here hx (hb hby at_122) (l' := #[iv pi0, iv pi1, iv pi2, iv pi3, iv pi4, iv pi5, iv x1, rv b3, iv (0 : Int32), iv (1 : Int32), iv (0 : Int32), iv x97, iv (0 : Int32), iv x121, iv x123, iv (2 : Int32), .unset, .unset, .unset]) rfl (pc' := 124) rfl ?_
          refine y_iload X126.here hx (hb hby at_124) rfl (pc' := 126) rfl ?_
          refine y_iconst X126.here hx (hb hby at_126) (v := (1 : Int32)) rfl (pc' := 127) rfl ?_
          refine y_icmpYes X126.here hx (hb hby at_127) (feq (by decide : ¬ ((0 : Int32) = (1 : Int32)))).2 (pc' := 134) (by decide) rfl ?_
          refine y_iconst X126.here hx (hb hby at_134) (v := (0 : Int32)) rfl (pc' := 135) rfl ?_
          refine y_iload X126.here hx (hb hby at_135) rfl (pc' := 137) rfl ?_
          refine y_iconst X126.here hx (hb hby at_137) (v := (1 : Int32)) rfl (pc' := 138) rfl ?_
          refine y_icmpYes X126.here hx (hb hby at_138) (feq (by decide : ¬ ((0 : Int32) = (1 : Int32)))).2 (pc' := 145) (by decide) rfl ?_
          refine y_iconst X126.here hx (hb hby at_145) (v := (0 : Int32)) rfl (pc' := 146) rfl ?_
          refine y_iadd X126.here hx (hb hby at_146) (z := (0 : Int32)) rfl (pc' := 147) rfl ?_
          refine y_istore X126.here hx (hb hby at_147) (l' := #[iv pi0, iv pi1, iv pi2, iv pi3, iv pi4, iv pi5, iv x1, rv b3, iv (0 : Int32), iv (1 : Int32), iv (0 : Int32), iv x97, iv (0 : Int32), iv x121, iv x123, iv (2 : Int32), iv (0 : Int32), .unset, .unset]) rfl (pc' := 149) rfl ?_
          refine y_iload X126.here hx (hb hby at_149) rfl (pc' := 151) rfl ?_
          refine y_iload X126.here hx (hb hby at_151) rfl (pc' := 153) rfl ?_
          exact kt)
      obtain ⟨x145, hx145⟩ : ∃ z : Int32, z = (if x123 = x121 then (0 : Int32) else (if x123 = x97 then (0 : Int32) else (-1 : Int32))) := ⟨_, rfl⟩
      obtain ⟨T146, ⟨X146, q146⟩, st146⟩ : ∃ T', Nx X126 T' ∧ ∀ t, Steps p.tables e below (T'.setTop (mkF m 180 #[iv pi0, iv pi1, iv pi2, iv pi3, iv pi4, iv pi5, iv x1, rv b3, iv (0 : Int32), iv (1 : Int32), iv (0 : Int32), iv x97, iv (0 : Int32), iv x121, iv x123, iv (2 : Int32), iv (0 : Int32), iv x145, .unset] [])) t → Steps p.tables e below (T126.setTop (mkF m 153 #[iv pi0, iv pi1, iv pi2, iv pi3, iv pi4, iv pi5, iv x1, rv b3, iv (0 : Int32), iv (1 : Int32), iv (0 : Int32), iv x97, iv (0 : Int32), iv x121, iv x123, iv (2 : Int32), iv (0 : Int32), .unset, .unset] [(.int x121), (.int x123)])) t := by
        have pre146_ : ∀ t, Steps p.tables e below (T126.setTop (mkF m 153 #[iv pi0, iv pi1, iv pi2, iv pi3, iv pi4, iv pi5, iv x1, rv b3, iv (0 : Int32), iv (1 : Int32), iv (0 : Int32), iv x97, iv (0 : Int32), iv x121, iv x123, iv (2 : Int32), iv (0 : Int32), .unset, .unset] [(.int x121), (.int x123)])) t → Steps p.tables e below (T126.setTop (mkF m 153 #[iv pi0, iv pi1, iv pi2, iv pi3, iv pi4, iv pi5, iv x1, rv b3, iv (0 : Int32), iv (1 : Int32), iv (0 : Int32), iv x97, iv (0 : Int32), iv x121, iv x123, iv (2 : Int32), iv (0 : Int32), .unset, .unset] [(.int x121), (.int x123)])) t := fun t kt => kt
        subst hx145
        by_cases hm153_147 : x123 = x121
        · have pre148 : ∀ t, Steps p.tables e below (T126.setTop (mkF m 180 #[iv pi0, iv pi1, iv pi2, iv pi3, iv pi4, iv pi5, iv x1, rv b3, iv (0 : Int32), iv (1 : Int32), iv (0 : Int32), iv x97, iv (0 : Int32), iv x121, iv x123, iv (2 : Int32), iv (0 : Int32), iv (0 : Int32), .unset] [])) t → Steps p.tables e below (T126.setTop (mkF m 153 #[iv pi0, iv pi1, iv pi2, iv pi3, iv pi4, iv pi5, iv x1, rv b3, iv (0 : Int32), iv (1 : Int32), iv (0 : Int32), iv x97, iv (0 : Int32), iv x121, iv x123, iv (2 : Int32), iv (0 : Int32), .unset, .unset] [(.int x121), (.int x123)])) t := fun t kt => pre146_ t (by
              refine y_icmpNo X126.here hx (hb hby at_153) (teq hm153_147).2 (pc' := 156) rfl ?_
              refine y_iload X126.here hx (hb hby at_156) rfl (pc' := 158) rfl ?_
              refine y_istore X126.here hx (hb hby at_158) (l' := #[iv pi0, iv pi1, iv pi2, iv pi3, iv pi4, iv pi5, iv x1, rv b3, iv (0 : Int32), iv (1 : Int32), iv (0 : Int32), iv x97, iv (0 : Int32), iv x121, iv x123, iv (2 : Int32), iv (0 : Int32), iv (0 : Int32), .unset]) rfl (pc' := 160) rfl ?_
              refine y_goto X126.here hx (hb hby at_160) (pc' := 180) (by decide) rfl ?_
              exact kt)
          refine ⟨T126, ⟨X126, eh126.trans eh126.symm⟩, fun t kt => pre148 t ?_⟩
          (try simp only [if_pos hm153_147] at kt)
          exact kt
        · have pre149 : ∀ t, Steps p.tables e below (T126.setTop (mkF m 167 #[iv pi0, iv pi1, iv pi2, iv pi3, iv pi4, iv pi5, iv x1, rv b3, iv (0 : Int32), iv (1 : Int32), iv (0 : Int32), iv x97, iv (0 : Int32), iv x121, iv x123, iv (2 : Int32), iv (0 : Int32), .unset, .unset] [(.int x97), (.int x123)])) t → Steps p.tables e below (T126.setTop (mkF m 153 #[iv pi0, iv pi1, iv pi2, iv pi3, iv pi4, iv pi5, iv x1, rv b3, iv (0 : Int32), iv (1 : Int32), iv (0 : Int32), iv x97, iv (0 : Int32), iv x121, iv x123, iv (2 : Int32), iv (0 : Int32), .unset, .unset] [(.int x121), (.int x123)])) t := fun t kt => pre146_ t (by
              refine y_icmpYes X126.here hx (hb hby at_153) (feq hm153_147).2 (pc' := 163) (by decide) rfl ?_
              refine y_iload X126.here hx (hb hby at_163) rfl (pc' := 165) rfl ?_
              refine y_iload X126.here hx (hb hby at_165) rfl (pc' := 167) rfl ?_
              exact kt)
          by_cases hm167_150 : x123 = x97
          · have pre151 : ∀ t, Steps p.tables e below (T126.setTop (mkF m 180 #[iv pi0, iv pi1, iv pi2, iv pi3, iv pi4, iv pi5, iv x1, rv b3, iv (0 : Int32), iv (1 : Int32), iv (0 : Int32), iv x97, iv (0 : Int32), iv x121, iv x123, iv (2 : Int32), iv (0 : Int32), iv (0 : Int32), .unset] [])) t → Steps p.tables e below (T126.setTop (mkF m 153 #[iv pi0, iv pi1, iv pi2, iv pi3, iv pi4, iv pi5, iv x1, rv b3, iv (0 : Int32), iv (1 : Int32), iv (0 : Int32), iv x97, iv (0 : Int32), iv x121, iv x123, iv (2 : Int32), iv (0 : Int32), .unset, .unset] [(.int x121), (.int x123)])) t := fun t kt => pre149 t (by
                refine y_icmpNo X126.here hx (hb hby at_167) (teq hm167_150).2 (pc' := 170) rfl ?_
                refine y_iload X126.here hx (hb hby at_170) rfl (pc' := 172) rfl ?_
                refine y_istore X126.here hx (hb hby at_172) (l' := #[iv pi0, iv pi1, iv pi2, iv pi3, iv pi4, iv pi5, iv x1, rv b3, iv (0 : Int32), iv (1 : Int32), iv (0 : Int32), iv x97, iv (0 : Int32), iv x121, iv x123, iv (2 : Int32), iv (0 : Int32), iv (0 : Int32), .unset]) rfl (pc' := 174) rfl ?_
                refine y_goto X126.here hx (hb hby at_174) (pc' := 180) (by decide) rfl ?_
                exact kt)
            refine ⟨T126, ⟨X126, eh126.trans eh126.symm⟩, fun t kt => pre151 t ?_⟩
            (try simp only [if_neg hm153_147, if_pos hm167_150] at kt)
            exact kt
          · have pre152 : ∀ t, Steps p.tables e below (T126.setTop (mkF m 180 #[iv pi0, iv pi1, iv pi2, iv pi3, iv pi4, iv pi5, iv x1, rv b3, iv (0 : Int32), iv (1 : Int32), iv (0 : Int32), iv x97, iv (0 : Int32), iv x121, iv x123, iv (2 : Int32), iv (0 : Int32), iv (-1 : Int32), .unset] [])) t → Steps p.tables e below (T126.setTop (mkF m 153 #[iv pi0, iv pi1, iv pi2, iv pi3, iv pi4, iv pi5, iv x1, rv b3, iv (0 : Int32), iv (1 : Int32), iv (0 : Int32), iv x97, iv (0 : Int32), iv x121, iv x123, iv (2 : Int32), iv (0 : Int32), .unset, .unset] [(.int x121), (.int x123)])) t := fun t kt => pre149 t (by
                refine y_icmpYes X126.here hx (hb hby at_167) (feq hm167_150).2 (pc' := 177) (by decide) rfl ?_
                refine y_iconst X126.here hx (hb hby at_177) (v := (-1 : Int32)) rfl (pc' := 178) rfl ?_
                refine y_istore X126.here hx (hb hby at_178) (l' := #[iv pi0, iv pi1, iv pi2, iv pi3, iv pi4, iv pi5, iv x1, rv b3, iv (0 : Int32), iv (1 : Int32), iv (0 : Int32), iv x97, iv (0 : Int32), iv x121, iv x123, iv (2 : Int32), iv (0 : Int32), iv (-1 : Int32), .unset]) rfl (pc' := 180) rfl ?_
                exact kt)
            refine ⟨T126, ⟨X126, eh126.trans eh126.symm⟩, fun t kt => pre152 t ?_⟩
            (try simp only [if_neg hm153_147, if_neg hm167_150] at kt)
            exact kt
      have e146 : T146.heap = h126 := q146.trans eh126
      have pre153 : ∀ t, Steps p.tables e below (T146.setTop (mkF m 180 #[iv pi0, iv pi1, iv pi2, iv pi3, iv pi4, iv pi5, iv x1, rv b3, iv (0 : Int32), iv (1 : Int32), iv (0 : Int32), iv x97, iv (0 : Int32), iv x121, iv x123, iv (2 : Int32), iv (0 : Int32), iv x145, .unset] [])) t → Go t := fun t kt => pre144 t (st146 t kt)
      have pre154 : ∀ t, Steps p.tables e below (T146.setTop (mkF m 207 #[iv pi0, iv pi1, iv pi2, iv pi3, iv pi4, iv pi5, iv x1, rv b3, iv (0 : Int32), iv (1 : Int32), iv (0 : Int32), iv x97, iv (0 : Int32), iv x121, iv x123, iv (2 : Int32), iv (0 : Int32), iv x145, iv (1 : Int32)] [(.int x121), (.ref b3)])) t → Go t := fun t kt => pre153 t (by
          refine y_iload X146.here hx (hb hby at_180) rfl (pc' := 182) rfl ?_
          refine y_ifNo X146.here hx (hb hby at_182) ((if0 _ _).trans (teq (rfl : (0 : Int32) = (0 : Int32))).2) (pc' := 185) rfl ?_
          refine y_iload X146.here hx (hb hby at_185) rfl (pc' := 187) rfl ?_
          refine y_iconst X146.here hx (hb hby at_187) (v := (1 : Int32)) rfl (pc' := 188) rfl ?_
          refine y_icmpNo X146.here hx (hb hby at_188) (teq (rfl : (1 : Int32) = (1 : Int32))).2 (pc' := 191) rfl ?_
          refine y_iconst X146.here hx (hb hby at_191) (v := (1 : Int32)) rfl (pc' := 192) rfl ?_
          refine y_goto X146.here hx (hb hby at_192) (pc' := 196) (by decide) rfl ?_
          refine y_istore X146.here hx (hb hby at_196) (l' := #[iv pi0, iv pi1, iv pi2, iv pi3, iv pi4, iv pi5, iv x1, rv b3, iv (0 : Int32), iv (1 : Int32), iv (0 : Int32), iv x97, iv (0 : Int32), iv x121, iv x123, iv (2 : Int32), iv (0 : Int32), iv x145, iv (1 : Int32)]) rfl (pc' := 198) rfl ?_
          refine y_iload X146.here hx (hb hby at_198) rfl (pc' := 200) rfl ?_
          refine y_ifNo X146.here hx (hb hby at_200) ((if0 _ _).trans (feq (by decide : ¬ ((1 : Int32) = (0 : Int32)))).1) (pc' := 203) rfl ?_
          refine y_aload X146.here hx (hb hby at_203) rfl rfl (pc' := 205) rfl ?_
          refine y_iload X146.here hx (hb hby at_205) rfl (pc' := 207) rfl ?_
          exact kt)
      obtain ⟨cq156, kq156, q156a, q156b, q156c⟩ := isOf hZ e146 f129
      obtain ⟨v156, _, ⟨T156, L156, k156, n156⟩, -, X156, ⟨Lc156, hQ156, l156, y156, z156⟩, st156⟩ := X146.virtualBack hx (y := (⟨"com/example/stonegaze/stonegaze/Groups", "groupAt", "(I)I"⟩ : MethodName)) (z := (⟨"com/example/stonegaze/stonegaze/Groups", "groupAt", "(I)I"⟩ : MethodName)) hown (mvT hZ (hw _ (List.mem_of_getElem? (i := 48) rfl))) (mvT hZ (hw _ (List.mem_of_getElem? (i := 49) rfl))) (notFace_of_selects (args := #[]) (mvT hZ (hw _ (List.mem_of_getElem? (i := 51) rfl)))) (mvT hZ (hw _ (List.mem_of_getElem? (i := 51) rfl))) (mvT hZ (hw _ (List.mem_of_getElem? (i := 50) rfl))) (by decide) (backOf (W := 0) (rm6 l Z a0 hw [] b3 x121 z14_groupOf x1 (0 : Int32) k14_groupOf ((x121, (.int (0 : Int32))) :: ((x97, (.int (0 : Int32))) :: [])) h126 n0 O143 f129 f130 CI_x121 (getH_hit CI_x121.1 rfl) p126_0) hZ (hw _ (List.mem_of_getElem? (i := 52) rfl)) (hw _ (List.mem_of_getElem? (i := 2) rfl)) (by decide) (by decide)) q156a q156c (g := (mkF m 207 #[iv pi0, iv pi1, iv pi2, iv pi3, iv pi4, iv pi5, iv x1, rv b3, iv (0 : Int32), iv (1 : Int32), iv (0 : Int32), iv x97, iv (0 : Int32), iv x121, iv x123, iv (2 : Int32), iv (0 : Int32), iv x145, iv (1 : Int32)] [(.int x121), (.ref b3)])) rfl (by rw [hml]; rfl) (Steps.refl _) (argsL := [(.int x121)]) (rest := []) (lenOf pd__I_I rfl) rfl (by show 2 * 0 + _ ≤ _; exact Nat.le_of_eq rfl) (hb hby at_207) (fun _ _ => ⟨rfl, e146, (by decide : 7 + 0 ≤ _), (by decide : 37 + 0 ≤ _)⟩)
      dsimp only [Pt.U, Pt.locs, Pt.cells, Pt.slots] at X156 l156 y156 z156 st156 hQ156
      subst l156 y156 z156
      obtain ⟨hv156, N156q, e156q⟩ := hQ156
      have N157 := Fr.app N127 N156q
      have hw156 := hv156
      subst hw156
      have pre158 : ∀ t, Steps p.tables e below (T156.setTop (mkF m 210 #[iv pi0, iv pi1, iv pi2, iv pi3, iv pi4, iv pi5, iv x1, rv b3, iv (0 : Int32), iv (1 : Int32), iv (0 : Int32), iv x97, iv (0 : Int32), iv x121, iv x123, iv (2 : Int32), iv (0 : Int32), iv x145, iv (1 : Int32)] [(.int (0 : Int32))])) t → Go t := fun t kt => pre154 t (st156.trans kt)
      have pre159 : ∀ t, Steps p.tables e below (T156.setTop (mkF m 231 #[iv pi0, iv pi1, iv pi2, iv pi3, iv pi4, iv pi5, iv x1, rv b3, iv (0 : Int32), iv (1 : Int32), iv (0 : Int32), iv x97, iv (0 : Int32), iv x121, iv x123, iv (2 : Int32), iv (0 : Int32), iv x145, iv (1 : Int32)] [(.int x123), (.ref b3)])) t → Go t := fun t kt => pre158 t (by
          refine y_iload X156.here hx (hb hby at_210) rfl (pc' := 212) rfl ?_
          refine y_icmpNo X156.here hx (hb hby at_212) (teq (rfl : (0 : Int32) = (0 : Int32))).2 (pc' := 215) rfl ?_
          refine y_iconst X156.here hx (hb hby at_215) (v := (1 : Int32)) rfl (pc' := 216) rfl ?_
          refine y_goto X156.here hx (hb hby at_216) (pc' := 220) (by decide) rfl ?_
          refine y_istore X156.here hx (hb hby at_220) (l' := #[iv pi0, iv pi1, iv pi2, iv pi3, iv pi4, iv pi5, iv x1, rv b3, iv (0 : Int32), iv (1 : Int32), iv (0 : Int32), iv x97, iv (0 : Int32), iv x121, iv x123, iv (2 : Int32), iv (0 : Int32), iv x145, iv (1 : Int32)]) rfl (pc' := 222) rfl ?_
          refine y_iload X156.here hx (hb hby at_222) rfl (pc' := 224) rfl ?_
          refine y_ifNo X156.here hx (hb hby at_224) ((if0 _ _).trans (feq (by decide : ¬ ((1 : Int32) = (0 : Int32)))).1) (pc' := 227) rfl ?_
          refine y_aload X156.here hx (hb hby at_227) rfl rfl (pc' := 229) rfl ?_
          refine y_iload X156.here hx (hb hby at_229) rfl (pc' := 231) rfl ?_
          exact kt)
      have uw160 : getH ((x121, (.int (0 : Int32))) :: ((x97, (.int (0 : Int32))) :: [])) [] (.int (-1 : Int32)) x123.toNatClampNeg = .int x145 := by
          rw [hx145]
          by_cases q1 : x123 = x121
          · rw [if_pos q1]; exact getH_hit CI_x123.1 q1
          · rw [if_neg q1]; refine getH_miss CI_x123.1 q1 ?_
            by_cases q2 : x123 = x97
            · rw [if_pos q2]; exact getH_hit CI_x123.1 q2
            · rw [if_neg q2]; refine getH_miss CI_x123.1 q2 ?_
              rfl
      obtain ⟨cq161, kq161, q161a, q161b, q161c⟩ := isOf hZ e156q f129
      obtain ⟨v161, _, ⟨T161, L161, k161, n161⟩, -, X161, ⟨Lc161, hQ161, l161, y161, z161⟩, st161⟩ := X156.virtualBack hx (y := (⟨"com/example/stonegaze/stonegaze/Groups", "groupAt", "(I)I"⟩ : MethodName)) (z := (⟨"com/example/stonegaze/stonegaze/Groups", "groupAt", "(I)I"⟩ : MethodName)) hown (mvT hZ (hw _ (List.mem_of_getElem? (i := 48) rfl))) (mvT hZ (hw _ (List.mem_of_getElem? (i := 49) rfl))) (notFace_of_selects (args := #[]) (mvT hZ (hw _ (List.mem_of_getElem? (i := 51) rfl)))) (mvT hZ (hw _ (List.mem_of_getElem? (i := 51) rfl))) (mvT hZ (hw _ (List.mem_of_getElem? (i := 50) rfl))) (by decide) (backOf (W := 0) (rm6 l Z a0 hw [] b3 x123 z14_groupOf x1 x145 k14_groupOf ((x121, (.int (0 : Int32))) :: ((x97, (.int (0 : Int32))) :: [])) h126 n0 O143 f129 f130 CI_x123 uw160 p126_0) hZ (hw _ (List.mem_of_getElem? (i := 52) rfl)) (hw _ (List.mem_of_getElem? (i := 2) rfl)) (by decide) (by decide)) q161a q161c (g := (mkF m 231 #[iv pi0, iv pi1, iv pi2, iv pi3, iv pi4, iv pi5, iv x1, rv b3, iv (0 : Int32), iv (1 : Int32), iv (0 : Int32), iv x97, iv (0 : Int32), iv x121, iv x123, iv (2 : Int32), iv (0 : Int32), iv x145, iv (1 : Int32)] [(.int x123), (.ref b3)])) rfl (by rw [hml]; rfl) (Steps.refl _) (argsL := [(.int x123)]) (rest := []) (lenOf pd__I_I rfl) rfl (by show 2 * 0 + _ ≤ _; exact Nat.le_of_eq rfl) (hb hby at_231) (fun _ _ => ⟨rfl, e156q, (by decide : 7 + 0 ≤ _), (by decide : 37 + 0 ≤ _)⟩)
      dsimp only [Pt.U, Pt.locs, Pt.cells, Pt.slots] at X161 l161 y161 z161 st161 hQ161
      subst l161 y161 z161
      obtain ⟨hv161, N161q, e161q⟩ := hQ161
      have N162 := Fr.app N157 N161q
      have hw161 := hv161
      subst hw161
      have pre163 : ∀ t, Steps p.tables e below (T161.setTop (mkF m 234 #[iv pi0, iv pi1, iv pi2, iv pi3, iv pi4, iv pi5, iv x1, rv b3, iv (0 : Int32), iv (1 : Int32), iv (0 : Int32), iv x97, iv (0 : Int32), iv x121, iv x123, iv (2 : Int32), iv (0 : Int32), iv x145, iv (1 : Int32)] [(.int x145)])) t → Go t := fun t kt => pre159 t (st161.trans kt)
      have pre164 : ∀ t, Steps p.tables e below (T161.setTop (mkF m 254 #[iv pi0, iv pi1, iv pi2, iv pi3, iv pi4, iv pi5, iv x1, rv b3, iv (0 : Int32), iv (1 : Int32), iv (0 : Int32), iv x97, iv (0 : Int32), iv x121, iv x123, iv (2 : Int32), iv (0 : Int32), iv x145, iv (1 : Int32)] [(.int (0 : Int32)), (.ref b3)])) t → Go t := fun t kt => pre163 t (by
          refine y_iload X161.here hx (hb hby at_234) rfl (pc' := 236) rfl ?_
          refine y_icmpNo X161.here hx (hb hby at_236) (teq (rfl : x145 = x145)).2 (pc' := 239) rfl ?_
          refine y_iconst X161.here hx (hb hby at_239) (v := (1 : Int32)) rfl (pc' := 240) rfl ?_
          refine y_goto X161.here hx (hb hby at_240) (pc' := 244) (by decide) rfl ?_
          refine y_istore X161.here hx (hb hby at_244) (l' := #[iv pi0, iv pi1, iv pi2, iv pi3, iv pi4, iv pi5, iv x1, rv b3, iv (0 : Int32), iv (1 : Int32), iv (0 : Int32), iv x97, iv (0 : Int32), iv x121, iv x123, iv (2 : Int32), iv (0 : Int32), iv x145, iv (1 : Int32)]) rfl (pc' := 246) rfl ?_
          refine y_iload X161.here hx (hb hby at_246) rfl (pc' := 248) rfl ?_
          refine y_ifNo X161.here hx (hb hby at_248) ((if0 _ _).trans (feq (by decide : ¬ ((1 : Int32) = (0 : Int32)))).1) (pc' := 251) rfl ?_
          refine y_aload X161.here hx (hb hby at_251) rfl rfl (pc' := 253) rfl ?_
          refine y_iconst X161.here hx (hb hby at_253) (v := (0 : Int32)) rfl (pc' := 254) rfl ?_
          exact kt)
      obtain ⟨cq165, kq165, q165a, q165b, q165c⟩ := isOf hZ e161q f129
      obtain ⟨v165, _, ⟨T165, L165, k165, n165⟩, -, X165, ⟨Lc165, hQ165, l165, y165, z165⟩, st165⟩ := X161.virtualBack hx (y := (⟨"com/example/stonegaze/stonegaze/Groups", "stones", "(I)I"⟩ : MethodName)) (z := (⟨"com/example/stonegaze/stonegaze/Groups", "stones", "(I)I"⟩ : MethodName)) hown (mvT hZ (hw _ (List.mem_of_getElem? (i := 53) rfl))) (mvT hZ (hw _ (List.mem_of_getElem? (i := 54) rfl))) (notFace_of_selects (args := #[]) (mvT hZ (hw _ (List.mem_of_getElem? (i := 56) rfl)))) (mvT hZ (hw _ (List.mem_of_getElem? (i := 56) rfl))) (mvT hZ (hw _ (List.mem_of_getElem? (i := 55) rfl))) (by decide) (backOf (W := 0) (rm7i0 l Z a0 hw [] b3 z14_stones x1 k14_stones (2 : Int32) (0 : Int32) h126 n0 O143 f129 f132 L0_x1 L1_x1 p126_1) hZ (hw _ (List.mem_of_getElem? (i := 57) rfl)) (hw _ (List.mem_of_getElem? (i := 2) rfl)) (by decide) (by decide)) q165a q165c (g := (mkF m 254 #[iv pi0, iv pi1, iv pi2, iv pi3, iv pi4, iv pi5, iv x1, rv b3, iv (0 : Int32), iv (1 : Int32), iv (0 : Int32), iv x97, iv (0 : Int32), iv x121, iv x123, iv (2 : Int32), iv (0 : Int32), iv x145, iv (1 : Int32)] [(.int (0 : Int32)), (.ref b3)])) rfl (by rw [hml]; rfl) (Steps.refl _) (argsL := [(.int (0 : Int32))]) (rest := []) (lenOf pd__I_I rfl) rfl (by show 2 * 0 + _ ≤ _; exact Nat.le_of_eq rfl) (hb hby at_254) (fun _ _ => ⟨rfl, e161q, (by decide : 7 + 0 ≤ _), (by decide : 37 + 0 ≤ _)⟩)
      dsimp only [Pt.U, Pt.locs, Pt.cells, Pt.slots] at X165 l165 y165 z165 st165 hQ165
      subst l165 y165 z165
      obtain ⟨hv165, N165q, e165q⟩ := hQ165
      have N166 := Fr.app N162 N165q
      have hw165 := hv165
      subst hw165
      have pre167 : ∀ t, Steps p.tables e below (T165.setTop (mkF m 257 #[iv pi0, iv pi1, iv pi2, iv pi3, iv pi4, iv pi5, iv x1, rv b3, iv (0 : Int32), iv (1 : Int32), iv (0 : Int32), iv x97, iv (0 : Int32), iv x121, iv x123, iv (2 : Int32), iv (0 : Int32), iv x145, iv (1 : Int32)] [(.int (2 : Int32))])) t → Go t := fun t kt => pre164 t (st165.trans kt)
      have pre168 : ∀ t, Steps p.tables e below (T165.setTop (mkF m 277 #[iv pi0, iv pi1, iv pi2, iv pi3, iv pi4, iv pi5, iv x1, rv b3, iv (0 : Int32), iv (1 : Int32), iv (0 : Int32), iv x97, iv (0 : Int32), iv x121, iv x123, iv (2 : Int32), iv (0 : Int32), iv x145, iv (1 : Int32)] [(.int (1 : Int32)), (.ref b3)])) t → Go t := fun t kt => pre167 t (by
          refine y_iload X165.here hx (hb hby at_257) rfl (pc' := 259) rfl ?_
          refine y_icmpNo X165.here hx (hb hby at_259) (teq (rfl : (2 : Int32) = (2 : Int32))).2 (pc' := 262) rfl ?_
          refine y_iconst X165.here hx (hb hby at_262) (v := (1 : Int32)) rfl (pc' := 263) rfl ?_
          refine y_goto X165.here hx (hb hby at_263) (pc' := 267) (by decide) rfl ?_
          refine y_istore X165.here hx (hb hby at_267) (l' := #[iv pi0, iv pi1, iv pi2, iv pi3, iv pi4, iv pi5, iv x1, rv b3, iv (0 : Int32), iv (1 : Int32), iv (0 : Int32), iv x97, iv (0 : Int32), iv x121, iv x123, iv (2 : Int32), iv (0 : Int32), iv x145, iv (1 : Int32)]) rfl (pc' := 269) rfl ?_
          refine y_iload X165.here hx (hb hby at_269) rfl (pc' := 271) rfl ?_
          refine y_ifNo X165.here hx (hb hby at_271) ((if0 _ _).trans (feq (by decide : ¬ ((1 : Int32) = (0 : Int32)))).1) (pc' := 274) rfl ?_
          refine y_aload X165.here hx (hb hby at_274) rfl rfl (pc' := 276) rfl ?_
          refine y_iconst X165.here hx (hb hby at_276) (v := (1 : Int32)) rfl (pc' := 277) rfl ?_
          exact kt)
      obtain ⟨cq169, kq169, q169a, q169b, q169c⟩ := isOf hZ e165q f129
      obtain ⟨v169, _, ⟨T169, L169, k169, n169⟩, -, X169, ⟨Lc169, hQ169, l169, y169, z169⟩, st169⟩ := X165.virtualBack hx (y := (⟨"com/example/stonegaze/stonegaze/Groups", "stones", "(I)I"⟩ : MethodName)) (z := (⟨"com/example/stonegaze/stonegaze/Groups", "stones", "(I)I"⟩ : MethodName)) hown (mvT hZ (hw _ (List.mem_of_getElem? (i := 53) rfl))) (mvT hZ (hw _ (List.mem_of_getElem? (i := 54) rfl))) (notFace_of_selects (args := #[]) (mvT hZ (hw _ (List.mem_of_getElem? (i := 56) rfl)))) (mvT hZ (hw _ (List.mem_of_getElem? (i := 56) rfl))) (mvT hZ (hw _ (List.mem_of_getElem? (i := 55) rfl))) (by decide) (backOf (W := 0) (rm7i1 l Z a0 hw [] b3 z14_stones x1 k14_stones (2 : Int32) (0 : Int32) h126 n0 O143 f129 f132 L0_x1 L1_x1 p126_1) hZ (hw _ (List.mem_of_getElem? (i := 57) rfl)) (hw _ (List.mem_of_getElem? (i := 2) rfl)) (by decide) (by decide)) q169a q169c (g := (mkF m 277 #[iv pi0, iv pi1, iv pi2, iv pi3, iv pi4, iv pi5, iv x1, rv b3, iv (0 : Int32), iv (1 : Int32), iv (0 : Int32), iv x97, iv (0 : Int32), iv x121, iv x123, iv (2 : Int32), iv (0 : Int32), iv x145, iv (1 : Int32)] [(.int (1 : Int32)), (.ref b3)])) rfl (by rw [hml]; rfl) (Steps.refl _) (argsL := [(.int (1 : Int32))]) (rest := []) (lenOf pd__I_I rfl) rfl (by show 2 * 0 + _ ≤ _; exact Nat.le_of_eq rfl) (hb hby at_277) (fun _ _ => ⟨rfl, e165q, (by decide : 7 + 0 ≤ _), (by decide : 37 + 0 ≤ _)⟩)
      dsimp only [Pt.U, Pt.locs, Pt.cells, Pt.slots] at X169 l169 y169 z169 st169 hQ169
      subst l169 y169 z169
      obtain ⟨hv169, N169q, e169q⟩ := hQ169
      have N170 := Fr.app N166 N169q
      have hw169 := hv169
      subst hw169
      have pre171 : ∀ t, Steps p.tables e below (T169.setTop (mkF m 280 #[iv pi0, iv pi1, iv pi2, iv pi3, iv pi4, iv pi5, iv x1, rv b3, iv (0 : Int32), iv (1 : Int32), iv (0 : Int32), iv x97, iv (0 : Int32), iv x121, iv x123, iv (2 : Int32), iv (0 : Int32), iv x145, iv (1 : Int32)] [(.int (0 : Int32))])) t → Go t := fun t kt => pre168 t (st169.trans kt)
      have pre172 : ∀ t, Steps p.tables e below (T169.setTop (mkF m 294 #[iv pi0, iv pi1, iv pi2, iv pi3, iv pi4, iv pi5, iv x1, rv b3, iv (0 : Int32), iv (1 : Int32), iv (0 : Int32), iv x97, iv (0 : Int32), iv x121, iv x123, iv (2 : Int32), iv (0 : Int32), iv x145, iv (1 : Int32)] [(.int (1 : Int32))])) t → Go t := fun t kt => pre171 t (by
          refine y_iload X169.here hx (hb hby at_280) rfl (pc' := 282) rfl ?_
          refine y_icmpNo X169.here hx (hb hby at_282) (teq (rfl : (0 : Int32) = (0 : Int32))).2 (pc' := 285) rfl ?_
          refine y_iconst X169.here hx (hb hby at_285) (v := (1 : Int32)) rfl (pc' := 286) rfl ?_
          refine y_goto X169.here hx (hb hby at_286) (pc' := 290) (by decide) rfl ?_
          refine y_istore X169.here hx (hb hby at_290) (l' := #[iv pi0, iv pi1, iv pi2, iv pi3, iv pi4, iv pi5, iv x1, rv b3, iv (0 : Int32), iv (1 : Int32), iv (0 : Int32), iv x97, iv (0 : Int32), iv x121, iv x123, iv (2 : Int32), iv (0 : Int32), iv x145, iv (1 : Int32)]) rfl (pc' := 292) rfl ?_
          refine y_iload X169.here hx (hb hby at_292) rfl (pc' := 294) rfl ?_
          exact kt)
      obtain ⟨fs, hr, hrun, hended, hW, hsame⟩ := X169.leave (v := some (.int (1 : Int32))) (fun h => by rw [Bd.returns] at h; cases h)
      refine ⟨_, _, (hGo _).mp (pre172 _ ?_), hrun, hended, _, _, rfl, ?_, ⟨_, rfl⟩, hW, hsame.mono (by decide) (by decide)⟩
      · exact retN X169 hx (t := .boolean) Bd.returns (by simp) (hb hby at_294) hr
      · show Q0 Z pi0 pi1 pi2 pi3 pi4 pi5 w_WHITE w_BLACK h0 n0 _ T169.heap _
        rw [e169q]
        exact ⟨rfl, N170⟩
    · skip
      obtain ⟨x173, hx173⟩ : ∃ z : Int32, z = ((pi4 &&& (2147483647 : Int32)) % x1) := ⟨_, rfl⟩
      have pre174 : ∀ t, Steps p.tables e below (T100.setTop (mkF m 82 #[iv pi0, iv pi1, iv pi2, iv pi3, iv pi4, iv pi5, iv x1, rv b3, iv (0 : Int32), iv (1 : Int32), iv (0 : Int32), iv x97, iv (1 : Int32), iv x173, .unset, .unset, .unset, .unset, .unset] [])) t → Go t := fun t kt => pre119 t (by
          subst hx173
          refine y_iload X100.here hx (hb hby at_72) rfl (pc' := 74) rfl ?_
          refine X100.ldcInt hx hown (mvT hZ (hw _ (List.mem_of_getElem? (i := 42) rfl))) (g := (mkF m 74 #[iv pi0, iv pi1, iv pi2, iv pi3, iv pi4, iv pi5, iv x1, rv b3, iv (0 : Int32), iv (1 : Int32), iv (0 : Int32), iv x97, iv (1 : Int32), .unset, .unset, .unset, .unset, .unset, .unset] [(.int pi4)])) rfl (hb hby at_74) _ ?_
          show Steps p.tables e below (T100.setTop (mkF m 76 #[iv pi0, iv pi1, iv pi2, iv pi3, iv pi4, iv pi5, iv x1, rv b3, iv (0 : Int32), iv (1 : Int32), iv (0 : Int32), iv x97, iv (1 : Int32), .unset, .unset, .unset, .unset, .unset, .unset] [(.int (2147483647 : Int32)), (.int pi4)])) _
          refine y_iand X100.here hx (hb hby at_76) rfl (pc' := 77) rfl ?_
          refine y_iload X100.here hx (hb hby at_77) rfl (pc' := 79) rfl ?_
          refine iremM (g := (mkF m 79 #[iv pi0, iv pi1, iv pi2, iv pi3, iv pi4, iv pi5, iv x1, rv b3, iv (0 : Int32), iv (1 : Int32), iv (0 : Int32), iv x97, iv (1 : Int32), .unset, .unset, .unset, .unset, .unset, .unset] [(.int x1), (.int (pi4 &&& (2147483647 : Int32)))])) X100 hx rfl (hb hby at_79) rfl NZ_x1 ?_
          show Steps p.tables e below (T100.setTop (mkF m 80 #[iv pi0, iv pi1, iv pi2, iv pi3, iv pi4, iv pi5, iv x1, rv b3, iv (0 : Int32), iv (1 : Int32), iv (0 : Int32), iv x97, iv (1 : Int32), .unset, .unset, .unset, .unset, .unset, .unset] [(.int ((pi4 &&& (2147483647 : Int32)) % x1))])) _
          refine y_istore X100.here hx (hb hby at_80) (l' := #[iv pi0, iv pi1, iv pi2, iv pi3, iv pi4, iv pi5, iv x1, rv b3, iv (0 : Int32), iv (1 : Int32), iv (0 : Int32), iv x97, iv (1 : Int32), iv ((pi4 &&& (2147483647 : Int32)) % x1), .unset, .unset, .unset, .unset, .unset]) rfl (pc' := 82) rfl ?_
          exact kt)
      have CI_x173 : ¬ x173 < 0 ∧ x173 < x1 := by rw [hx173]; exact own_rem pi4 L0_x1
      obtain ⟨x175, hx175⟩ : ∃ z : Int32, z = ((pi5 &&& (2147483647 : Int32)) % x1) := ⟨_, rfl⟩
      have pre176 : ∀ t, Steps p.tables e below (T100.setTop (mkF m 92 #[iv pi0, iv pi1, iv pi2, iv pi3, iv pi4, iv pi5, iv x1, rv b3, iv (0 : Int32), iv (1 : Int32), iv (0 : Int32), iv x97, iv (1 : Int32), iv x173, iv x175, .unset, .unset, .unset, .unset] [])) t → Go t := fun t kt => pre174 t (by
          subst hx175
          refine y_iload X100.here hx (hb hby at_82) rfl (pc' := 84) rfl ?_
          refine X100.ldcInt hx hown (mvT hZ (hw _ (List.mem_of_getElem? (i := 42) rfl))) (g := (mkF m 84 #[iv pi0, iv pi1, iv pi2, iv pi3, iv pi4, iv pi5, iv x1, rv b3, iv (0 : Int32), iv (1 : Int32), iv (0 : Int32), iv x97, iv (1 : Int32), iv x173, .unset, .unset, .unset, .unset, .unset] [(.int pi5)])) rfl (hb hby at_84) _ ?_
          show Steps p.tables e below (T100.setTop (mkF m 86 #[iv pi0, iv pi1, iv pi2, iv pi3, iv pi4, iv pi5, iv x1, rv b3, iv (0 : Int32), iv (1 : Int32), iv (0 : Int32), iv x97, iv (1 : Int32), iv x173, .unset, .unset, .unset, .unset, .unset] [(.int (2147483647 : Int32)), (.int pi5)])) _
          refine y_iand X100.here hx (hb hby at_86) rfl (pc' := 87) rfl ?_
          refine y_iload X100.here hx (hb hby at_87) rfl (pc' := 89) rfl ?_
          refine iremM (g := (mkF m 89 #[iv pi0, iv pi1, iv pi2, iv pi3, iv pi4, iv pi5, iv x1, rv b3, iv (0 : Int32), iv (1 : Int32), iv (0 : Int32), iv x97, iv (1 : Int32), iv x173, .unset, .unset, .unset, .unset, .unset] [(.int x1), (.int (pi5 &&& (2147483647 : Int32)))])) X100 hx rfl (hb hby at_89) rfl NZ_x1 ?_
          show Steps p.tables e below (T100.setTop (mkF m 90 #[iv pi0, iv pi1, iv pi2, iv pi3, iv pi4, iv pi5, iv x1, rv b3, iv (0 : Int32), iv (1 : Int32), iv (0 : Int32), iv x97, iv (1 : Int32), iv x173, .unset, .unset, .unset, .unset, .unset] [(.int ((pi5 &&& (2147483647 : Int32)) % x1))])) _
          refine y_istore X100.here hx (hb hby at_90) (l' := #[iv pi0, iv pi1, iv pi2, iv pi3, iv pi4, iv pi5, iv x1, rv b3, iv (0 : Int32), iv (1 : Int32), iv (0 : Int32), iv x97, iv (1 : Int32), iv x173, iv ((pi5 &&& (2147483647 : Int32)) % x1), .unset, .unset, .unset, .unset]) rfl (pc' := 92) rfl ?_
          exact kt)
      have CI_x175 : ¬ x175 < 0 ∧ x175 < x1 := by rw [hx175]; exact own_rem pi5 L0_x1
      have pre177 : ∀ t, Steps p.tables e below (T100.setTop (mkF m 98 #[iv pi0, iv pi1, iv pi2, iv pi3, iv pi4, iv pi5, iv x1, rv b3, iv (0 : Int32), iv (1 : Int32), iv (0 : Int32), iv x97, iv (1 : Int32), iv x173, iv x175, .unset, .unset, .unset, .unset] [(.int x173), (.int (1 : Int32)), (.ref b3)])) t → Go t := fun t kt => pre176 t (by
          refine y_aload X100.here hx (hb hby at_92) rfl rfl (pc' := 94) rfl ?_
          refine y_iload X100.here hx (hb hby at_94) rfl (pc' := 96) rfl ?_
          refine y_iload X100.here hx (hb hby at_96) rfl (pc' := 98) rfl ?_
          exact kt)
      obtain ⟨cq178, kq178, q178a, q178b, q178c⟩ := isOf hZ eh100 f103
      obtain ⟨v178, _, ⟨T178, L178, k178, n178⟩, -, X178, ⟨Lc178, hQ178, l178, y178, z178⟩, st178⟩ := X100.virtualBack hx (y := (⟨"com/example/stonegaze/stonegaze/Groups", "addStone", "(II)V"⟩ : MethodName)) (z := (⟨"com/example/stonegaze/stonegaze/Groups", "addStone", "(II)V"⟩ : MethodName)) hown (mvT hZ (hw _ (List.mem_of_getElem? (i := 43) rfl))) (mvT hZ (hw _ (List.mem_of_getElem? (i := 44) rfl))) (notFace_of_selects (args := #[]) (mvT hZ (hw _ (List.mem_of_getElem? (i := 46) rfl)))) (mvT hZ (hw _ (List.mem_of_getElem? (i := 46) rfl))) (mvT hZ (hw _ (List.mem_of_getElem? (i := 45) rfl))) (by decide) (backOf (W := 0) (rm5g1 l Z a0 hw [] b3 x173 z14_groupOf z14_stones x1 k14_groupOf ((x97, (.int (0 : Int32))) :: []) k14_stones (1 : Int32) (0 : Int32) h100 n0 O117 f103 f106 f108 G14_groupOf G14_stones (by have := OR_b3; omega) CI_x173 L0_x1 L1_x1 p100_0 p100_1) hZ (hw _ (List.mem_of_getElem? (i := 47) rfl)) (hw _ (List.mem_of_getElem? (i := 2) rfl)) (by decide) (by decide)) q178a q178c (g := (mkF m 98 #[iv pi0, iv pi1, iv pi2, iv pi3, iv pi4, iv pi5, iv x1, rv b3, iv (0 : Int32), iv (1 : Int32), iv (0 : Int32), iv x97, iv (1 : Int32), iv x173, iv x175, .unset, .unset, .unset, .unset] [(.int x173), (.int (1 : Int32)), (.ref b3)])) rfl (by rw [hml]; rfl) (Steps.refl _) (argsL := [(.int (1 : Int32)), (.int x173)]) (rest := []) (lenOf pd__II_V rfl) rfl (by show 2 * 0 + _ ≤ _; exact Nat.le_of_eq rfl) (hb hby at_98) (fun _ _ => ⟨rfl, eh100, (by decide : 7 + 0 ≤ _), (by decide : 37 + 0 ≤ _)⟩)
      dsimp only [Pt.U, Pt.locs, Pt.cells, Pt.slots] at X178 l178 y178 z178 st178 hQ178
      subst l178 y178 z178
      obtain ⟨hv178, N178q, K178q, p178_0, p178_1⟩ := hQ178
      have N179 := Fr.app N101 N178q
      subst hv178
      have pre180 : ∀ t, Steps p.tables e below (T178.setTop (mkF m 101 #[iv pi0, iv pi1, iv pi2, iv pi3, iv pi4, iv pi5, iv x1, rv b3, iv (0 : Int32), iv (1 : Int32), iv (0 : Int32), iv x97, iv (1 : Int32), iv x173, iv x175, .unset, .unset, .unset, .unset] [])) t → Go t := fun t kt => pre177 t (st178.trans kt)
      obtain ⟨h178, eh178⟩ : ∃ z, T178.heap = z := ⟨_, rfl⟩
      rw [eh178] at K178q p178_0 p178_1
      have f181 : Exa Z h178 b3 "com/example/stonegaze/stonegaze/Groups" := (f103.keep K178q)
      have f182 : Fld Z h178 b3 "com/example/stonegaze/stonegaze/Groups" "groupOf" "[I" (.ref z14_groupOf) := (f106.keep K178q (ninS ne25 (ninS ne27 nin0)))
      have f183 : Fld Z h178 b3 "com/example/stonegaze/stonegaze/Groups" "colours" "[Lcom/example/stonegaze/stonegaze/Side;" (.ref z14_colours) := (f107.keep K178q (ninS ne25 (ninS ne27 nin0)))
      have f184 : Fld Z h178 b3 "com/example/stonegaze/stonegaze/Groups" "stones" "[I" (.ref z14_stones) := (f108.keep K178q (ninS ne25 (ninS ne27 nin0)))
      have f185 : Fld Z h178 b3 "com/example/stonegaze/stonegaze/Groups" "liberties" "[I" (.ref z14_liberties) := (f109.keep K178q (ninS ne25 (ninS ne27 nin0)))
      have f186 : Fld Z h178 b3 "com/example/stonegaze/stonegaze/Groups" "ringed" "[Z" (.ref z14_ringed) := (f110.keep K178q (ninS ne25 (ninS ne27 nin0)))
      have f187 : Fld Z h178 b3 "com/example/stonegaze/stonegaze/Groups" "aLiberty" "[I" (.ref z14_aLiberty) := (f111.keep K178q (ninS ne25 (ninS ne27 nin0)))
      have f188 : Fld Z h178 b3 "com/example/stonegaze/stonegaze/Groups" "count" "I" (.int (2 : Int32)) := (f112.keep K178q (ninS ne25 (ninS ne27 nin0)))
      have f189 : Arv Z h178 z14_colours k14_colours (.object "com/example/stonegaze/stonegaze/Side") x1 [(.ref w_WHITE), (.ref w_BLACK)] .null := (f113.keep K178q (ninS (Ne.symm ne31) (ninS ne36 nin0)))
      have f190 : Arv Z h178 z14_liberties k14_liberties .int x1 [(.int (0 : Int32)), (.int (1 : Int32))] (.int (0 : Int32)) := (f114.keep K178q (ninS (Ne.symm ne33) (ninS (Ne.symm ne40) nin0)))
      have f191 : Arv Z h178 z14_aLiberty k14_aLiberty .int x1 [(.int (-1 : Int32)), (.int (0 : Int32))] (.int (0 : Int32)) := (f115.keep K178q (ninS (Ne.symm ne35) (ninS (Ne.symm ne42) nin0)))
      have f192 : Arv Z h178 z14_ringed k14_ringed .boolean x1 [(.int x67), (.int x90)] (.int (0 : Int32)) := (f116.keep K178q (ninS (Ne.symm ne34) (ninS (Ne.symm ne41) nin0)))
      replace p178_1 : Arv Z h178 z14_stones k14_stones .int x1 [(.int (1 : Int32)), (.int (1 : Int32))] (.int (0 : Int32)) := p178_1
      have O195 := O117.keep K178q (allS G14_groupOf (allS G14_stones all0))
      have pre196 : ∀ t, Steps p.tables e below (T178.setTop (mkF m 153 #[iv pi0, iv pi1, iv pi2, iv pi3, iv pi4, iv pi5, iv x1, rv b3, iv (0 : Int32), iv (1 : Int32), iv (0 : Int32), iv x97, iv (1 : Int32), iv x173, iv x175, iv (1 : Int32), iv (1 : Int32), .unset, .unset] [(.int x173), (.int x175)])) t → Go t := fun t kt => pre180 t (by
          refine y_iload X178.here hx (hb hby at_101) rfl (pc' := 103) rfl ?_
          refine y_ifNo X178.here hx (hb hby at_103) ((if0 _ _).trans (teq (rfl : (0 : Int32) = (0 : Int32))).2) (pc' := 106) rfl ?_
          refine y_iconst X178.here hx (hb hby at_106) (v := (1 : Int32)) rfl (pc' := 107) rfl ?_
          refine y_goto X178.here hx (hb hby at_107) (pc' := 111) (by decide) rfl ?_
          refine y_iload X178.here hx (hb hby at_111) rfl (pc' := 113) rfl ?_
          refine y_ifYes X178.here hx (hb hby at_113) ((if0 _ _).trans (feq (by decide : ¬ ((1 : Int32) = (0 : Int32)))).2) (pc' := 120) (by decide) rfl ?_
          refine y_iconst X178.here hx (hb hby at_120) (v := (0 : Int32)) rfl (pc' := 121) rfl ?_
          refine y_iadd X178.here hx (hb hby at_121) (z := (1 : Int32)) rfl (pc' := 122) rfl ?_
          refine y_istore X178.here hx (hb hby at_122) (l' := #[iv pi0, iv pi1, iv pi2, iv pi3, iv pi4, iv pi5, iv x1, rv b3, iv (0 : Int32), iv (1 : Int32), iv (0 : Int32), iv x97, iv (1 : Int32), iv x173, iv x175, iv (1 : Int32), .unset, .unset, .unset]) rfl (pc' := 124) rfl ?_
          refine y_iload X178.here hx (hb hby at_124) rfl (pc' := 126) rfl ?_
          refine y_iconst X178.here hx (hb hby at_126) (v := (1 : Int32)) rfl (pc' := 127) rfl ?_
          refine y_icmpYes X178.here hx (hb hby at_127) (feq (by decide : ¬ ((0 : Int32) = (1 : Int32)))).2 (pc' := 134) (by decide) rfl ?_
          refine y_iconst X178.here hx (hb hby at_134) (v := (0 : Int32)) rfl (pc' := 135) rfl ?_
          refine y_iload X178.here hx (hb hby at_135) rfl (pc' := 137) rfl ?_
          refine y_iconst X178.here hx (hb hby at_137) (v := (1 : Int32)) rfl (pc' := 138) rfl ?_
          refine y_icmpNo X178.here hx (hb hby at_138) (teq (rfl : (1 : Int32) = (1 : Int32))).2 (pc' := 141) rfl ?_
          refine y_iconst X178.here hx (hb hby at_141) (v := (1 : Int32)) rfl (pc' := 142) rfl ?_
          refine y_goto X178.here hx (hb hby at_142) (pc' := 146) (by decide) rfl ?_
          refine y_iadd X178.here hx (hb hby at_146) (z := (1 : Int32)) rfl (pc' := 147) rfl ?_
          refine y_istore X178.here hx (hb hby at_147) (l' := #[iv pi0, iv pi1, iv pi2, iv pi3, iv pi4, iv pi5, iv x1, rv b3, iv (0 : Int32), iv (1 : Int32), iv (0 : Int32), iv x97, iv (1 : Int32), iv x173, iv x175, iv (1 : Int32), iv (1 : Int32), .unset, .unset]) rfl (pc' := 149) rfl ?_
          refine y_iload X178.here hx (hb hby at_149) rfl (pc' := 151) rfl ?_
          refine y_iload X178.here hx (hb hby at_151) rfl (pc' := 153) rfl ?_
          exact kt)
      obtain ⟨x197, hx197⟩ : ∃ z : Int32, z = (if x175 = x173 then (1 : Int32) else (if x175 = x97 then (0 : Int32) else (-1 : Int32))) := ⟨_, rfl⟩
      obtain ⟨T198, ⟨X198, q198⟩, st198⟩ : ∃ T', Nx X178 T' ∧ ∀ t, Steps p.tables e below (T'.setTop (mkF m 180 #[iv pi0, iv pi1, iv pi2, iv pi3, iv pi4, iv pi5, iv x1, rv b3, iv (0 : Int32), iv (1 : Int32), iv (0 : Int32), iv x97, iv (1 : Int32), iv x173, iv x175, iv (1 : Int32), iv (1 : Int32), iv x197, .unset] [])) t → Steps p.tables e below (T178.setTop (mkF m 153 #[iv pi0, iv pi1, iv pi2, iv pi3, iv pi4, iv pi5, iv x1, rv b3, iv (0 : Int32), iv (1 : Int32), iv (0 : Int32), iv x97, iv (1 : Int32), iv x173, iv x175, iv (1 : Int32), iv (1 : Int32), .unset, .unset] [(.int x173), (.int x175)])) t := by
        have pre198_ : ∀ t, Steps p.tables e below (T178.setTop (mkF m 153 #[iv pi0, iv pi1, iv pi2, iv pi3, iv pi4, iv pi5, iv x1, rv b3, iv (0 : Int32), iv (1 : Int32), iv (0 : Int32), iv x97, iv (1 : Int32), iv x173, iv x175, iv (1 : Int32), iv (1 : Int32), .unset, .unset] [(.int x173), (.int x175)])) t → Steps p.tables e below (T178.setTop (mkF m 153 #[iv pi0, iv pi1, iv pi2, iv pi3, iv pi4, iv pi5, iv x1, rv b3, iv (0 : Int32), iv (1 : Int32), iv (0 : Int32), iv x97, iv (1 : Int32), iv x173, iv x175, iv (1 : Int32), iv (1 : Int32), .unset, .unset] [(.int x173), (.int x175)])) t := fun t kt => kt
        subst hx197
        by_cases hm153_199 : x175 = x173
        · have pre200 : ∀ t, Steps p.tables e below (T178.setTop (mkF m 180 #[iv pi0, iv pi1, iv pi2, iv pi3, iv pi4, iv pi5, iv x1, rv b3, iv (0 : Int32), iv (1 : Int32), iv (0 : Int32), iv x97, iv (1 : Int32), iv x173, iv x175, iv (1 : Int32), iv (1 : Int32), iv (1 : Int32), .unset] [])) t → Steps p.tables e below (T178.setTop (mkF m 153 #[iv pi0, iv pi1, iv pi2, iv pi3, iv pi4, iv pi5, iv x1, rv b3, iv (0 : Int32), iv (1 : Int32), iv (0 : Int32), iv x97, iv (1 : Int32), iv x173, iv x175, iv (1 : Int32), iv (1 : Int32), .unset, .unset] [(.int x173), (.int x175)])) t := fun t kt => pre198_ t (by
              refine y_icmpNo X178.here hx (hb hby at_153) (teq hm153_199).2 (pc' := 156) rfl ?_
              refine y_iload X178.here hx (hb hby at_156) rfl (pc' := 158) rfl ?_
              refine y_istore X178.here hx (hb hby at_158) (l' := #[iv pi0, iv pi1, iv pi2, iv pi3, iv pi4, iv pi5, iv x1, rv b3, iv (0 : Int32), iv (1 : Int32), iv (0 : Int32), iv x97, iv (1 : Int32), iv x173, iv x175, iv (1 : Int32), iv (1 : Int32), iv (1 : Int32), .unset]) rfl (pc' := 160) rfl ?_
              refine y_goto X178.here hx (hb hby at_160) (pc' := 180) (by decide) rfl ?_
              exact kt)
          refine ⟨T178, ⟨X178, eh178.trans eh178.symm⟩, fun t kt => pre200 t ?_⟩
          (try simp only [if_pos hm153_199] at kt)
          exact kt
        · have pre201 : ∀ t, Steps p.tables e below (T178.setTop (mkF m 167 #[iv pi0, iv pi1, iv pi2, iv pi3, iv pi4, iv pi5, iv x1, rv b3, iv (0 : Int32), iv (1 : Int32), iv (0 : Int32), iv x97, iv (1 : Int32), iv x173, iv x175, iv (1 : Int32), iv (1 : Int32), .unset, .unset] [(.int x97), (.int x175)])) t → Steps p.tables e below (T178.setTop (mkF m 153 #[iv pi0, iv pi1, iv pi2, iv pi3, iv pi4, iv pi5, iv x1, rv b3, iv (0 : Int32), iv (1 : Int32), iv (0 : Int32), iv x97, iv (1 : Int32), iv x173, iv x175, iv (1 : Int32), iv (1 : Int32), .unset, .unset] [(.int x173), (.int x175)])) t := fun t kt => pre198_ t (by
              refine y_icmpYes X178.here hx (hb hby at_153) (feq hm153_199).2 (pc' := 163) (by decide) rfl ?_
              refine y_iload X178.here hx (hb hby at_163) rfl (pc' := 165) rfl ?_
              refine y_iload X178.here hx (hb hby at_165) rfl (pc' := 167) rfl ?_
              exact kt)
          by_cases hm167_202 : x175 = x97
          · have pre203 : ∀ t, Steps p.tables e below (T178.setTop (mkF m 180 #[iv pi0, iv pi1, iv pi2, iv pi3, iv pi4, iv pi5, iv x1, rv b3, iv (0 : Int32), iv (1 : Int32), iv (0 : Int32), iv x97, iv (1 : Int32), iv x173, iv x175, iv (1 : Int32), iv (1 : Int32), iv (0 : Int32), .unset] [])) t → Steps p.tables e below (T178.setTop (mkF m 153 #[iv pi0, iv pi1, iv pi2, iv pi3, iv pi4, iv pi5, iv x1, rv b3, iv (0 : Int32), iv (1 : Int32), iv (0 : Int32), iv x97, iv (1 : Int32), iv x173, iv x175, iv (1 : Int32), iv (1 : Int32), .unset, .unset] [(.int x173), (.int x175)])) t := fun t kt => pre201 t (by
                refine y_icmpNo X178.here hx (hb hby at_167) (teq hm167_202).2 (pc' := 170) rfl ?_
                refine y_iload X178.here hx (hb hby at_170) rfl (pc' := 172) rfl ?_
                refine y_istore X178.here hx (hb hby at_172) (l' := #[iv pi0, iv pi1, iv pi2, iv pi3, iv pi4, iv pi5, iv x1, rv b3, iv (0 : Int32), iv (1 : Int32), iv (0 : Int32), iv x97, iv (1 : Int32), iv x173, iv x175, iv (1 : Int32), iv (1 : Int32), iv (0 : Int32), .unset]) rfl (pc' := 174) rfl ?_
                refine y_goto X178.here hx (hb hby at_174) (pc' := 180) (by decide) rfl ?_
                exact kt)
            refine ⟨T178, ⟨X178, eh178.trans eh178.symm⟩, fun t kt => pre203 t ?_⟩
            (try simp only [if_neg hm153_199, if_pos hm167_202] at kt)
            exact kt
          · have pre204 : ∀ t, Steps p.tables e below (T178.setTop (mkF m 180 #[iv pi0, iv pi1, iv pi2, iv pi3, iv pi4, iv pi5, iv x1, rv b3, iv (0 : Int32), iv (1 : Int32), iv (0 : Int32), iv x97, iv (1 : Int32), iv x173, iv x175, iv (1 : Int32), iv (1 : Int32), iv (-1 : Int32), .unset] [])) t → Steps p.tables e below (T178.setTop (mkF m 153 #[iv pi0, iv pi1, iv pi2, iv pi3, iv pi4, iv pi5, iv x1, rv b3, iv (0 : Int32), iv (1 : Int32), iv (0 : Int32), iv x97, iv (1 : Int32), iv x173, iv x175, iv (1 : Int32), iv (1 : Int32), .unset, .unset] [(.int x173), (.int x175)])) t := fun t kt => pre201 t (by
                refine y_icmpYes X178.here hx (hb hby at_167) (feq hm167_202).2 (pc' := 177) (by decide) rfl ?_
                refine y_iconst X178.here hx (hb hby at_177) (v := (-1 : Int32)) rfl (pc' := 178) rfl ?_
                refine y_istore X178.here hx (hb hby at_178) (l' := #[iv pi0, iv pi1, iv pi2, iv pi3, iv pi4, iv pi5, iv x1, rv b3, iv (0 : Int32), iv (1 : Int32), iv (0 : Int32), iv x97, iv (1 : Int32), iv x173, iv x175, iv (1 : Int32), iv (1 : Int32), iv (-1 : Int32), .unset]) rfl (pc' := 180) rfl ?_
                exact kt)
            refine ⟨T178, ⟨X178, eh178.trans eh178.symm⟩, fun t kt => pre204 t ?_⟩
            (try simp only [if_neg hm153_199, if_neg hm167_202] at kt)
            exact kt
      have e198 : T198.heap = h178 := q198.trans eh178
      have pre205 : ∀ t, Steps p.tables e below (T198.setTop (mkF m 180 #[iv pi0, iv pi1, iv pi2, iv pi3, iv pi4, iv pi5, iv x1, rv b3, iv (0 : Int32), iv (1 : Int32), iv (0 : Int32), iv x97, iv (1 : Int32), iv x173, iv x175, iv (1 : Int32), iv (1 : Int32), iv x197, .unset] [])) t → Go t := fun t kt => pre196 t (st198 t kt)
      have pre206 : ∀ t, Steps p.tables e below (T198.setTop (mkF m 207 #[iv pi0, iv pi1, iv pi2, iv pi3, iv pi4, iv pi5, iv x1, rv b3, iv (0 : Int32), iv (1 : Int32), iv (0 : Int32), iv x97, iv (1 : Int32), iv x173, iv x175, iv (1 : Int32), iv (1 : Int32), iv x197, iv (1 : Int32)] [(.int x173), (.ref b3)])) t → Go t := fun t kt => pre205 t (by
          refine y_iload X198.here hx (hb hby at_180) rfl (pc' := 182) rfl ?_
          refine y_ifNo X198.here hx (hb hby at_182) ((if0 _ _).trans (teq (rfl : (0 : Int32) = (0 : Int32))).2) (pc' := 185) rfl ?_
          refine y_iload X198.here hx (hb hby at_185) rfl (pc' := 187) rfl ?_
          refine y_iconst X198.here hx (hb hby at_187) (v := (1 : Int32)) rfl (pc' := 188) rfl ?_
          refine y_icmpNo X198.here hx (hb hby at_188) (teq (rfl : (1 : Int32) = (1 : Int32))).2 (pc' := 191) rfl ?_
          refine y_iconst X198.here hx (hb hby at_191) (v := (1 : Int32)) rfl (pc' := 192) rfl ?_
          refine y_goto X198.here hx (hb hby at_192) (pc' := 196) (by decide) rfl ?_
          refine y_istore X198.here hx (hb hby at_196) (l' := #[iv pi0, iv pi1, iv pi2, iv pi3, iv pi4, iv pi5, iv x1, rv b3, iv (0 : Int32), iv (1 : Int32), iv (0 : Int32), iv x97, iv (1 : Int32), iv x173, iv x175, iv (1 : Int32), iv (1 : Int32), iv x197, iv (1 : Int32)]) rfl (pc' := 198) rfl ?_
          refine y_iload X198.here hx (hb hby at_198) rfl (pc' := 200) rfl ?_
          refine y_ifNo X198.here hx (hb hby at_200) ((if0 _ _).trans (feq (by decide : ¬ ((1 : Int32) = (0 : Int32)))).1) (pc' := 203) rfl ?_
          refine y_aload X198.here hx (hb hby at_203) rfl rfl (pc' := 205) rfl ?_
          refine y_iload X198.here hx (hb hby at_205) rfl (pc' := 207) rfl ?_
          exact kt)
      obtain ⟨cq208, kq208, q208a, q208b, q208c⟩ := isOf hZ e198 f181
      obtain ⟨v208, _, ⟨T208, L208, k208, n208⟩, -, X208, ⟨Lc208, hQ208, l208, y208, z208⟩, st208⟩ := X198.virtualBack hx (y := (⟨"com/example/stonegaze/stonegaze/Groups", "groupAt", "(I)I"⟩ : MethodName)) (z := (⟨"com/example/stonegaze/stonegaze/Groups", "groupAt", "(I)I"⟩ : MethodName)) hown (mvT hZ (hw _ (List.mem_of_getElem? (i := 48) rfl))) (mvT hZ (hw _ (List.mem_of_getElem? (i := 49) rfl))) (notFace_of_selects (args := #[]) (mvT hZ (hw _ (List.mem_of_getElem? (i := 51) rfl)))) (mvT hZ (hw _ (List.mem_of_getElem? (i := 51) rfl))) (mvT hZ (hw _ (List.mem_of_getElem? (i := 50) rfl))) (by decide) (backOf (W := 0) (rm6 l Z a0 hw [] b3 x173 z14_groupOf x1 (1 : Int32) k14_groupOf ((x173, (.int (1 : Int32))) :: ((x97, (.int (0 : Int32))) :: [])) h178 n0 O195 f181 f182 CI_x173 (getH_hit CI_x173.1 rfl) p178_0) hZ (hw _ (List.mem_of_getElem? (i := 52) rfl)) (hw _ (List.mem_of_getElem? (i := 2) rfl)) (by decide) (by decide)) q208a q208c (g := (mkF m 207 #[iv pi0, iv pi1, iv pi2, iv pi3, iv pi4, iv pi5, iv x1, rv b3, iv (0 : Int32), iv (1 : Int32), iv (0 : Int32), iv x97, iv (1 : Int32), iv x173, iv x175, iv (1 : Int32), iv (1 : Int32), iv x197, iv (1 : Int32)] [(.int x173), (.ref b3)])) rfl (by rw [hml]; rfl) (Steps.refl _) (argsL := [(.int x173)]) (rest := []) (lenOf pd__I_I rfl) rfl (by show 2 * 0 + _ ≤ _; exact Nat.le_of_eq rfl) (hb hby at_207) (fun _ _ => ⟨rfl, e198, (by decide : 7 + 0 ≤ _), (by decide : 37 + 0 ≤ _)⟩)
      dsimp only [Pt.U, Pt.locs, Pt.cells, Pt.slots] at X208 l208 y208 z208 st208 hQ208
      subst l208 y208 z208
      obtain ⟨hv208, N208q, e208q⟩ := hQ208
      have N209 := Fr.app N179 N208q
      have hw208 := hv208
      subst hw208
      have pre210 : ∀ t, Steps p.tables e below (T208.setTop (mkF m 210 #[iv pi0, iv pi1, iv pi2, iv pi3, iv pi4, iv pi5, iv x1, rv b3, iv (0 : Int32), iv (1 : Int32), iv (0 : Int32), iv x97, iv (1 : Int32), iv x173, iv x175, iv (1 : Int32), iv (1 : Int32), iv x197, iv (1 : Int32)] [(.int (1 : Int32))])) t → Go t := fun t kt => pre206 t (st208.trans kt)
      have pre211 : ∀ t, Steps p.tables e below (T208.setTop (mkF m 231 #[iv pi0, iv pi1, iv pi2, iv pi3, iv pi4, iv pi5, iv x1, rv b3, iv (0 : Int32), iv (1 : Int32), iv (0 : Int32), iv x97, iv (1 : Int32), iv x173, iv x175, iv (1 : Int32), iv (1 : Int32), iv x197, iv (1 : Int32)] [(.int x175), (.ref b3)])) t → Go t := fun t kt => pre210 t (by
          refine y_iload X208.here hx (hb hby at_210) rfl (pc' := 212) rfl ?_
          refine y_icmpNo X208.here hx (hb hby at_212) (teq (rfl : (1 : Int32) = (1 : Int32))).2 (pc' := 215) rfl ?_
          refine y_iconst X208.here hx (hb hby at_215) (v := (1 : Int32)) rfl (pc' := 216) rfl ?_
          refine y_goto X208.here hx (hb hby at_216) (pc' := 220) (by decide) rfl ?_
          refine y_istore X208.here hx (hb hby at_220) (l' := #[iv pi0, iv pi1, iv pi2, iv pi3, iv pi4, iv pi5, iv x1, rv b3, iv (0 : Int32), iv (1 : Int32), iv (0 : Int32), iv x97, iv (1 : Int32), iv x173, iv x175, iv (1 : Int32), iv (1 : Int32), iv x197, iv (1 : Int32)]) rfl (pc' := 222) rfl ?_
          refine y_iload X208.here hx (hb hby at_222) rfl (pc' := 224) rfl ?_
          refine y_ifNo X208.here hx (hb hby at_224) ((if0 _ _).trans (feq (by decide : ¬ ((1 : Int32) = (0 : Int32)))).1) (pc' := 227) rfl ?_
          refine y_aload X208.here hx (hb hby at_227) rfl rfl (pc' := 229) rfl ?_
          refine y_iload X208.here hx (hb hby at_229) rfl (pc' := 231) rfl ?_
          exact kt)
      have uw212 : getH ((x173, (.int (1 : Int32))) :: ((x97, (.int (0 : Int32))) :: [])) [] (.int (-1 : Int32)) x175.toNatClampNeg = .int x197 := by
          rw [hx197]
          by_cases q1 : x175 = x173
          · rw [if_pos q1]; exact getH_hit CI_x175.1 q1
          · rw [if_neg q1]; refine getH_miss CI_x175.1 q1 ?_
            by_cases q2 : x175 = x97
            · rw [if_pos q2]; exact getH_hit CI_x175.1 q2
            · rw [if_neg q2]; refine getH_miss CI_x175.1 q2 ?_
              rfl
      obtain ⟨cq213, kq213, q213a, q213b, q213c⟩ := isOf hZ e208q f181
      obtain ⟨v213, _, ⟨T213, L213, k213, n213⟩, -, X213, ⟨Lc213, hQ213, l213, y213, z213⟩, st213⟩ := X208.virtualBack hx (y := (⟨"com/example/stonegaze/stonegaze/Groups", "groupAt", "(I)I"⟩ : MethodName)) (z := (⟨"com/example/stonegaze/stonegaze/Groups", "groupAt", "(I)I"⟩ : MethodName)) hown (mvT hZ (hw _ (List.mem_of_getElem? (i := 48) rfl))) (mvT hZ (hw _ (List.mem_of_getElem? (i := 49) rfl))) (notFace_of_selects (args := #[]) (mvT hZ (hw _ (List.mem_of_getElem? (i := 51) rfl)))) (mvT hZ (hw _ (List.mem_of_getElem? (i := 51) rfl))) (mvT hZ (hw _ (List.mem_of_getElem? (i := 50) rfl))) (by decide) (backOf (W := 0) (rm6 l Z a0 hw [] b3 x175 z14_groupOf x1 x197 k14_groupOf ((x173, (.int (1 : Int32))) :: ((x97, (.int (0 : Int32))) :: [])) h178 n0 O195 f181 f182 CI_x175 uw212 p178_0) hZ (hw _ (List.mem_of_getElem? (i := 52) rfl)) (hw _ (List.mem_of_getElem? (i := 2) rfl)) (by decide) (by decide)) q213a q213c (g := (mkF m 231 #[iv pi0, iv pi1, iv pi2, iv pi3, iv pi4, iv pi5, iv x1, rv b3, iv (0 : Int32), iv (1 : Int32), iv (0 : Int32), iv x97, iv (1 : Int32), iv x173, iv x175, iv (1 : Int32), iv (1 : Int32), iv x197, iv (1 : Int32)] [(.int x175), (.ref b3)])) rfl (by rw [hml]; rfl) (Steps.refl _) (argsL := [(.int x175)]) (rest := []) (lenOf pd__I_I rfl) rfl (by show 2 * 0 + _ ≤ _; exact Nat.le_of_eq rfl) (hb hby at_231) (fun _ _ => ⟨rfl, e208q, (by decide : 7 + 0 ≤ _), (by decide : 37 + 0 ≤ _)⟩)
      dsimp only [Pt.U, Pt.locs, Pt.cells, Pt.slots] at X213 l213 y213 z213 st213 hQ213
      subst l213 y213 z213
      obtain ⟨hv213, N213q, e213q⟩ := hQ213
      have N214 := Fr.app N209 N213q
      have hw213 := hv213
      subst hw213
      have pre215 : ∀ t, Steps p.tables e below (T213.setTop (mkF m 234 #[iv pi0, iv pi1, iv pi2, iv pi3, iv pi4, iv pi5, iv x1, rv b3, iv (0 : Int32), iv (1 : Int32), iv (0 : Int32), iv x97, iv (1 : Int32), iv x173, iv x175, iv (1 : Int32), iv (1 : Int32), iv x197, iv (1 : Int32)] [(.int x197)])) t → Go t := fun t kt => pre211 t (st213.trans kt)
      have pre216 : ∀ t, Steps p.tables e below (T213.setTop (mkF m 254 #[iv pi0, iv pi1, iv pi2, iv pi3, iv pi4, iv pi5, iv x1, rv b3, iv (0 : Int32), iv (1 : Int32), iv (0 : Int32), iv x97, iv (1 : Int32), iv x173, iv x175, iv (1 : Int32), iv (1 : Int32), iv x197, iv (1 : Int32)] [(.int (0 : Int32)), (.ref b3)])) t → Go t := fun t kt => pre215 t (by
          refine y_iload X213.here hx (hb hby at_234) rfl (pc' := 236) rfl ?_
          refine y_icmpNo X213.here hx (hb hby at_236) (teq (rfl : x197 = x197)).2 (pc' := 239) rfl ?_
          refine y_iconst X213.here hx (hb hby at_239) (v := (1 : Int32)) rfl (pc' := 240) rfl ?_
          refine y_goto X213.here hx (hb hby at_240) (pc' := 244) (by decide) rfl ?_
          refine y_istore X213.here hx (hb hby at_244) (l' := #[iv pi0, iv pi1, iv pi2, iv pi3, iv pi4, iv pi5, iv x1, rv b3, iv (0 : Int32), iv (1 : Int32), iv (0 : Int32), iv x97, iv (1 : Int32), iv x173, iv x175, iv (1 : Int32), iv (1 : Int32), iv x197, iv (1 : Int32)]) rfl (pc' := 246) rfl ?_
          refine y_iload X213.here hx (hb hby at_246) rfl (pc' := 248) rfl ?_
          refine y_ifNo X213.here hx (hb hby at_248) ((if0 _ _).trans (feq (by decide : ¬ ((1 : Int32) = (0 : Int32)))).1) (pc' := 251) rfl ?_
          refine y_aload X213.here hx (hb hby at_251) rfl rfl (pc' := 253) rfl ?_
          refine y_iconst X213.here hx (hb hby at_253) (v := (0 : Int32)) rfl (pc' := 254) rfl ?_
          exact kt)
      obtain ⟨cq217, kq217, q217a, q217b, q217c⟩ := isOf hZ e213q f181
      obtain ⟨v217, _, ⟨T217, L217, k217, n217⟩, -, X217, ⟨Lc217, hQ217, l217, y217, z217⟩, st217⟩ := X213.virtualBack hx (y := (⟨"com/example/stonegaze/stonegaze/Groups", "stones", "(I)I"⟩ : MethodName)) (z := (⟨"com/example/stonegaze/stonegaze/Groups", "stones", "(I)I"⟩ : MethodName)) hown (mvT hZ (hw _ (List.mem_of_getElem? (i := 53) rfl))) (mvT hZ (hw _ (List.mem_of_getElem? (i := 54) rfl))) (notFace_of_selects (args := #[]) (mvT hZ (hw _ (List.mem_of_getElem? (i := 56) rfl)))) (mvT hZ (hw _ (List.mem_of_getElem? (i := 56) rfl))) (mvT hZ (hw _ (List.mem_of_getElem? (i := 55) rfl))) (by decide) (backOf (W := 0) (rm7i0 l Z a0 hw [] b3 z14_stones x1 k14_stones (1 : Int32) (1 : Int32) h178 n0 O195 f181 f184 L0_x1 L1_x1 p178_1) hZ (hw _ (List.mem_of_getElem? (i := 57) rfl)) (hw _ (List.mem_of_getElem? (i := 2) rfl)) (by decide) (by decide)) q217a q217c (g := (mkF m 254 #[iv pi0, iv pi1, iv pi2, iv pi3, iv pi4, iv pi5, iv x1, rv b3, iv (0 : Int32), iv (1 : Int32), iv (0 : Int32), iv x97, iv (1 : Int32), iv x173, iv x175, iv (1 : Int32), iv (1 : Int32), iv x197, iv (1 : Int32)] [(.int (0 : Int32)), (.ref b3)])) rfl (by rw [hml]; rfl) (Steps.refl _) (argsL := [(.int (0 : Int32))]) (rest := []) (lenOf pd__I_I rfl) rfl (by show 2 * 0 + _ ≤ _; exact Nat.le_of_eq rfl) (hb hby at_254) (fun _ _ => ⟨rfl, e213q, (by decide : 7 + 0 ≤ _), (by decide : 37 + 0 ≤ _)⟩)
      dsimp only [Pt.U, Pt.locs, Pt.cells, Pt.slots] at X217 l217 y217 z217 st217 hQ217
      subst l217 y217 z217
      obtain ⟨hv217, N217q, e217q⟩ := hQ217
      have N218 := Fr.app N214 N217q
      have hw217 := hv217
      subst hw217
      have pre219 : ∀ t, Steps p.tables e below (T217.setTop (mkF m 257 #[iv pi0, iv pi1, iv pi2, iv pi3, iv pi4, iv pi5, iv x1, rv b3, iv (0 : Int32), iv (1 : Int32), iv (0 : Int32), iv x97, iv (1 : Int32), iv x173, iv x175, iv (1 : Int32), iv (1 : Int32), iv x197, iv (1 : Int32)] [(.int (1 : Int32))])) t → Go t := fun t kt => pre216 t (st217.trans kt)
      have pre220 : ∀ t, Steps p.tables e below (T217.setTop (mkF m 277 #[iv pi0, iv pi1, iv pi2, iv pi3, iv pi4, iv pi5, iv x1, rv b3, iv (0 : Int32), iv (1 : Int32), iv (0 : Int32), iv x97, iv (1 : Int32), iv x173, iv x175, iv (1 : Int32), iv (1 : Int32), iv x197, iv (1 : Int32)] [(.int (1 : Int32)), (.ref b3)])) t → Go t := fun t kt => pre219 t (by
          refine y_iload X217.here hx (hb hby at_257) rfl (pc' := 259) rfl ?_
          refine y_icmpNo X217.here hx (hb hby at_259) (teq (rfl : (1 : Int32) = (1 : Int32))).2 (pc' := 262) rfl ?_
          refine y_iconst X217.here hx (hb hby at_262) (v := (1 : Int32)) rfl (pc' := 263) rfl ?_
          refine y_goto X217.here hx (hb hby at_263) (pc' := 267) (by decide) rfl ?_
          refine y_istore X217.here hx (hb hby at_267) (l' := #[iv pi0, iv pi1, iv pi2, iv pi3, iv pi4, iv pi5, iv x1, rv b3, iv (0 : Int32), iv (1 : Int32), iv (0 : Int32), iv x97, iv (1 : Int32), iv x173, iv x175, iv (1 : Int32), iv (1 : Int32), iv x197, iv (1 : Int32)]) rfl (pc' := 269) rfl ?_
          refine y_iload X217.here hx (hb hby at_269) rfl (pc' := 271) rfl ?_
          refine y_ifNo X217.here hx (hb hby at_271) ((if0 _ _).trans (feq (by decide : ¬ ((1 : Int32) = (0 : Int32)))).1) (pc' := 274) rfl ?_
          refine y_aload X217.here hx (hb hby at_274) rfl rfl (pc' := 276) rfl ?_
          refine y_iconst X217.here hx (hb hby at_276) (v := (1 : Int32)) rfl (pc' := 277) rfl ?_
          exact kt)
      obtain ⟨cq221, kq221, q221a, q221b, q221c⟩ := isOf hZ e217q f181
      obtain ⟨v221, _, ⟨T221, L221, k221, n221⟩, -, X221, ⟨Lc221, hQ221, l221, y221, z221⟩, st221⟩ := X217.virtualBack hx (y := (⟨"com/example/stonegaze/stonegaze/Groups", "stones", "(I)I"⟩ : MethodName)) (z := (⟨"com/example/stonegaze/stonegaze/Groups", "stones", "(I)I"⟩ : MethodName)) hown (mvT hZ (hw _ (List.mem_of_getElem? (i := 53) rfl))) (mvT hZ (hw _ (List.mem_of_getElem? (i := 54) rfl))) (notFace_of_selects (args := #[]) (mvT hZ (hw _ (List.mem_of_getElem? (i := 56) rfl)))) (mvT hZ (hw _ (List.mem_of_getElem? (i := 56) rfl))) (mvT hZ (hw _ (List.mem_of_getElem? (i := 55) rfl))) (by decide) (backOf (W := 0) (rm7i1 l Z a0 hw [] b3 z14_stones x1 k14_stones (1 : Int32) (1 : Int32) h178 n0 O195 f181 f184 L0_x1 L1_x1 p178_1) hZ (hw _ (List.mem_of_getElem? (i := 57) rfl)) (hw _ (List.mem_of_getElem? (i := 2) rfl)) (by decide) (by decide)) q221a q221c (g := (mkF m 277 #[iv pi0, iv pi1, iv pi2, iv pi3, iv pi4, iv pi5, iv x1, rv b3, iv (0 : Int32), iv (1 : Int32), iv (0 : Int32), iv x97, iv (1 : Int32), iv x173, iv x175, iv (1 : Int32), iv (1 : Int32), iv x197, iv (1 : Int32)] [(.int (1 : Int32)), (.ref b3)])) rfl (by rw [hml]; rfl) (Steps.refl _) (argsL := [(.int (1 : Int32))]) (rest := []) (lenOf pd__I_I rfl) rfl (by show 2 * 0 + _ ≤ _; exact Nat.le_of_eq rfl) (hb hby at_277) (fun _ _ => ⟨rfl, e217q, (by decide : 7 + 0 ≤ _), (by decide : 37 + 0 ≤ _)⟩)
      dsimp only [Pt.U, Pt.locs, Pt.cells, Pt.slots] at X221 l221 y221 z221 st221 hQ221
      subst l221 y221 z221
      obtain ⟨hv221, N221q, e221q⟩ := hQ221
      have N222 := Fr.app N218 N221q
      have hw221 := hv221
      subst hw221
      have pre223 : ∀ t, Steps p.tables e below (T221.setTop (mkF m 280 #[iv pi0, iv pi1, iv pi2, iv pi3, iv pi4, iv pi5, iv x1, rv b3, iv (0 : Int32), iv (1 : Int32), iv (0 : Int32), iv x97, iv (1 : Int32), iv x173, iv x175, iv (1 : Int32), iv (1 : Int32), iv x197, iv (1 : Int32)] [(.int (1 : Int32))])) t → Go t := fun t kt => pre220 t (st221.trans kt)
      have pre224 : ∀ t, Steps p.tables e below (T221.setTop (mkF m 294 #[iv pi0, iv pi1, iv pi2, iv pi3, iv pi4, iv pi5, iv x1, rv b3, iv (0 : Int32), iv (1 : Int32), iv (0 : Int32), iv x97, iv (1 : Int32), iv x173, iv x175, iv (1 : Int32), iv (1 : Int32), iv x197, iv (1 : Int32)] [(.int (1 : Int32))])) t → Go t := fun t kt => pre223 t (by
          refine y_iload X221.here hx (hb hby at_280) rfl (pc' := 282) rfl ?_
          refine y_icmpNo X221.here hx (hb hby at_282) (teq (rfl : (1 : Int32) = (1 : Int32))).2 (pc' := 285) rfl ?_
          refine y_iconst X221.here hx (hb hby at_285) (v := (1 : Int32)) rfl (pc' := 286) rfl ?_
          refine y_goto X221.here hx (hb hby at_286) (pc' := 290) (by decide) rfl ?_
          refine y_istore X221.here hx (hb hby at_290) (l' := #[iv pi0, iv pi1, iv pi2, iv pi3, iv pi4, iv pi5, iv x1, rv b3, iv (0 : Int32), iv (1 : Int32), iv (0 : Int32), iv x97, iv (1 : Int32), iv x173, iv x175, iv (1 : Int32), iv (1 : Int32), iv x197, iv (1 : Int32)]) rfl (pc' := 292) rfl ?_
          refine y_iload X221.here hx (hb hby at_292) rfl (pc' := 294) rfl ?_
          exact kt)
      obtain ⟨fs, hr, hrun, hended, hW, hsame⟩ := X221.leave (v := some (.int (1 : Int32))) (fun h => by rw [Bd.returns] at h; cases h)
      refine ⟨_, _, (hGo _).mp (pre224 _ ?_), hrun, hended, _, _, rfl, ?_, ⟨_, rfl⟩, hW, hsame.mono (by decide) (by decide)⟩
      · exact retN X221 hx (t := .boolean) Bd.returns (by simp) (hb hby at_294) hr
      · show Q0 Z pi0 pi1 pi2 pi3 pi4 pi5 w_WHITE w_BLACK h0 n0 _ T221.heap _
        rw [e221q]
        exact ⟨rfl, N222⟩
  · skip
    obtain ⟨x225, hx225⟩ : ∃ z : Int32, z = ((pi2 &&& (2147483647 : Int32)) % x1) := ⟨_, rfl⟩
    have pre226 : ∀ t, Steps p.tables e below (T73.setTop (mkF m 58 #[iv pi0, iv pi1, iv pi2, iv pi3, iv pi4, iv pi5, iv x1, rv b3, iv (0 : Int32), iv (1 : Int32), iv (1 : Int32), iv x225, .unset, .unset, .unset, .unset, .unset, .unset, .unset] [])) t → Go t := fun t kt => pre95 t (by
        subst hx225
        refine y_iloadN X73.here hx (hb hby at_49) rfl (pc' := 50) rfl ?_
        refine X73.ldcInt hx hown (mvT hZ (hw _ (List.mem_of_getElem? (i := 42) rfl))) (g := (mkF m 50 #[iv pi0, iv pi1, iv pi2, iv pi3, iv pi4, iv pi5, iv x1, rv b3, iv (0 : Int32), iv (1 : Int32), iv (1 : Int32), .unset, .unset, .unset, .unset, .unset, .unset, .unset, .unset] [(.int pi2)])) rfl (hb hby at_50) _ ?_
        show Steps p.tables e below (T73.setTop (mkF m 52 #[iv pi0, iv pi1, iv pi2, iv pi3, iv pi4, iv pi5, iv x1, rv b3, iv (0 : Int32), iv (1 : Int32), iv (1 : Int32), .unset, .unset, .unset, .unset, .unset, .unset, .unset, .unset] [(.int (2147483647 : Int32)), (.int pi2)])) _
        refine y_iand X73.here hx (hb hby at_52) rfl (pc' := 53) rfl ?_
        refine y_iload X73.here hx (hb hby at_53) rfl (pc' := 55) rfl ?_
        refine iremM (g := (mkF m 55 #[iv pi0, iv pi1, iv pi2, iv pi3, iv pi4, iv pi5, iv x1, rv b3, iv (0 : Int32), iv (1 : Int32), iv (1 : Int32), .unset, .unset, .unset, .unset, .unset, .unset, .unset, .unset] [(.int x1), (.int (pi2 &&& (2147483647 : Int32)))])) X73 hx rfl (hb hby at_55) rfl NZ_x1 ?_
        show Steps p.tables e below (T73.setTop (mkF m 56 #[iv pi0, iv pi1, iv pi2, iv pi3, iv pi4, iv pi5, iv x1, rv b3, iv (0 : Int32), iv (1 : Int32), iv (1 : Int32), .unset, .unset, .unset, .unset, .unset, .unset, .unset, .unset] [(.int ((pi2 &&& (2147483647 : Int32)) % x1))])) _
        refine y_istore X73.here hx (hb hby at_56) (l' := #[iv pi0, iv pi1, iv pi2, iv pi3, iv pi4, iv pi5, iv x1, rv b3, iv (0 : Int32), iv (1 : Int32), iv (1 : Int32), iv ((pi2 &&& (2147483647 : Int32)) % x1), .unset, .unset, .unset, .unset, .unset, .unset, .unset]) rfl (pc' := 58) rfl ?_
        exact kt)
    have CI_x225 : ¬ x225 < 0 ∧ x225 < x1 := by rw [hx225]; exact own_rem pi2 L0_x1
    have pre227 : ∀ t, Steps p.tables e below (T73.setTop (mkF m 64 #[iv pi0, iv pi1, iv pi2, iv pi3, iv pi4, iv pi5, iv x1, rv b3, iv (0 : Int32), iv (1 : Int32), iv (1 : Int32), iv x225, .unset, .unset, .unset, .unset, .unset, .unset, .unset] [(.int x225), (.int (1 : Int32)), (.ref b3)])) t → Go t := fun t kt => pre226 t (by
        refine y_aload X73.here hx (hb hby at_58) rfl rfl (pc' := 60) rfl ?_
        refine y_iload X73.here hx (hb hby at_60) rfl (pc' := 62) rfl ?_
        refine y_iload X73.here hx (hb hby at_62) rfl (pc' := 64) rfl ?_
        exact kt)
    obtain ⟨cq228, kq228, q228a, q228b, q228c⟩ := isOf hZ eh73 f76
    obtain ⟨v228, _, ⟨T228, L228, k228, n228⟩, -, X228, ⟨Lc228, hQ228, l228, y228, z228⟩, st228⟩ := X73.virtualBack hx (y := (⟨"com/example/stonegaze/stonegaze/Groups", "addStone", "(II)V"⟩ : MethodName)) (z := (⟨"com/example/stonegaze/stonegaze/Groups", "addStone", "(II)V"⟩ : MethodName)) hown (mvT hZ (hw _ (List.mem_of_getElem? (i := 43) rfl))) (mvT hZ (hw _ (List.mem_of_getElem? (i := 44) rfl))) (notFace_of_selects (args := #[]) (mvT hZ (hw _ (List.mem_of_getElem? (i := 46) rfl)))) (mvT hZ (hw _ (List.mem_of_getElem? (i := 46) rfl))) (mvT hZ (hw _ (List.mem_of_getElem? (i := 45) rfl))) (by decide) (backOf (W := 0) (rm5g1 l Z a0 hw [] b3 x225 z14_groupOf z14_stones x1 k14_groupOf [] k14_stones (0 : Int32) (0 : Int32) h73 n0 O91 f76 p73_0 p73_2 G14_groupOf G14_stones (by have := OR_b3; omega) CI_x225 L0_x1 L1_x1 f93 f78) hZ (hw _ (List.mem_of_getElem? (i := 47) rfl)) (hw _ (List.mem_of_getElem? (i := 2) rfl)) (by decide) (by decide)) q228a q228c (g := (mkF m 64 #[iv pi0, iv pi1, iv pi2, iv pi3, iv pi4, iv pi5, iv x1, rv b3, iv (0 : Int32), iv (1 : Int32), iv (1 : Int32), iv x225, .unset, .unset, .unset, .unset, .unset, .unset, .unset] [(.int x225), (.int (1 : Int32)), (.ref b3)])) rfl (by rw [hml]; rfl) (Steps.refl _) (argsL := [(.int (1 : Int32)), (.int x225)]) (rest := []) (lenOf pd__II_V rfl) rfl (by show 2 * 0 + _ ≤ _; exact Nat.le_of_eq rfl) (hb hby at_64) (fun _ _ => ⟨rfl, eh73, (by decide : 7 + 0 ≤ _), (by decide : 37 + 0 ≤ _)⟩)
    dsimp only [Pt.U, Pt.locs, Pt.cells, Pt.slots] at X228 l228 y228 z228 st228 hQ228
    subst l228 y228 z228
    obtain ⟨hv228, N228q, K228q, p228_0, p228_1⟩ := hQ228
    have N229 := Fr.app N74 N228q
    subst hv228
    have pre230 : ∀ t, Steps p.tables e below (T228.setTop (mkF m 67 #[iv pi0, iv pi1, iv pi2, iv pi3, iv pi4, iv pi5, iv x1, rv b3, iv (0 : Int32), iv (1 : Int32), iv (1 : Int32), iv x225, .unset, .unset, .unset, .unset, .unset, .unset, .unset] [])) t → Go t := fun t kt => pre227 t (st228.trans kt)
    obtain ⟨h228, eh228⟩ : ∃ z, T228.heap = z := ⟨_, rfl⟩
    rw [eh228] at K228q p228_0 p228_1
    have f231 : Exa Z h228 b3 "com/example/stonegaze/stonegaze/Groups" := (f76.keep K228q)
    have f234 : Fld Z h228 b3 "com/example/stonegaze/stonegaze/Groups" "groupOf" "[I" (.ref z14_groupOf) := (p73_0.keep K228q (ninS ne25 (ninS ne27 nin0)))
    have f235 : Fld Z h228 b3 "com/example/stonegaze/stonegaze/Groups" "colours" "[Lcom/example/stonegaze/stonegaze/Side;" (.ref z14_colours) := (p73_1.keep K228q (ninS ne25 (ninS ne27 nin0)))
    have f236 : Fld Z h228 b3 "com/example/stonegaze/stonegaze/Groups" "stones" "[I" (.ref z14_stones) := (p73_2.keep K228q (ninS ne25 (ninS ne27 nin0)))
    have f237 : Fld Z h228 b3 "com/example/stonegaze/stonegaze/Groups" "liberties" "[I" (.ref z14_liberties) := (p73_3.keep K228q (ninS ne25 (ninS ne27 nin0)))
    have f238 : Fld Z h228 b3 "com/example/stonegaze/stonegaze/Groups" "ringed" "[Z" (.ref z14_ringed) := (p73_4.keep K228q (ninS ne25 (ninS ne27 nin0)))
    have f239 : Fld Z h228 b3 "com/example/stonegaze/stonegaze/Groups" "aLiberty" "[I" (.ref z14_aLiberty) := (p73_5.keep K228q (ninS ne25 (ninS ne27 nin0)))
    have f240 : Fld Z h228 b3 "com/example/stonegaze/stonegaze/Groups" "count" "I" (.int (2 : Int32)) := (p73_6.keep K228q (ninS ne25 (ninS ne27 nin0)))
    have f241 : Arv Z h228 z14_colours k14_colours (.object "com/example/stonegaze/stonegaze/Side") x1 [(.ref w_WHITE), (.ref w_BLACK)] .null := (p73_7.keep K228q (ninS (Ne.symm ne31) (ninS ne36 nin0)))
    have f242 : Arv Z h228 z14_liberties k14_liberties .int x1 [(.int (0 : Int32)), (.int (1 : Int32))] (.int (0 : Int32)) := (p73_8.keep K228q (ninS (Ne.symm ne33) (ninS (Ne.symm ne40) nin0)))
    have f243 : Arv Z h228 z14_aLiberty k14_aLiberty .int x1 [(.int (-1 : Int32)), (.int (0 : Int32))] (.int (0 : Int32)) := (p73_9.keep K228q (ninS (Ne.symm ne35) (ninS (Ne.symm ne42) nin0)))
    have f244 : Arv Z h228 z14_ringed k14_ringed .boolean x1 [(.int x67), (.int x90)] (.int (0 : Int32)) := (p73_10.keep K228q (ninS (Ne.symm ne34) (ninS (Ne.symm ne41) nin0)))
    replace p228_1 : Arv Z h228 z14_stones k14_stones .int x1 [(.int (0 : Int32)), (.int (1 : Int32))] (.int (0 : Int32)) := p228_1
    have O245 := O91.keep K228q (allS G14_groupOf (allS G14_stones all0))
    obtain ⟨x246, hx246⟩ : ∃ z : Int32, z = (pi3 &&& (1 : Int32)) := ⟨_, rfl⟩
    have pre247 : ∀ t, Steps p.tables e below (T228.setTop (mkF m 72 #[iv pi0, iv pi1, iv pi2, iv pi3, iv pi4, iv pi5, iv x1, rv b3, iv (0 : Int32), iv (1 : Int32), iv (1 : Int32), iv x225, iv x246, .unset, .unset, .unset, .unset, .unset, .unset] [])) t → Go t := fun t kt => pre230 t (by
        subst hx246
        refine y_iloadN X228.here hx (hb hby at_67) rfl (pc' := 68) rfl ?_
        refine y_iconst X228.here hx (hb hby at_68) (v := (1 : Int32)) rfl (pc' := 69) rfl ?_
        refine y_iand X228.here hx (hb hby at_69) rfl (pc' := 70) rfl ?_
        refine y_istore X228.here hx (hb hby at_70) (l' := #[iv pi0, iv pi1, iv pi2, iv pi3, iv pi4, iv pi5, iv x1, rv b3, iv (0 : Int32), iv (1 : Int32), iv (1 : Int32), iv x225, iv (pi3 &&& (1 : Int32)), .unset, .unset, .unset, .unset, .unset, .unset]) rfl (pc' := 72) rfl ?_
        exact kt)
    (try clear pre226)
    (try clear pre227)
    (try clear q228a)
    (try clear q228b)
    (try clear q228c)
    (try clear st228)
    (try clear hv228)
    (try clear N228q)
    (try clear K228q)
    (try clear pre230)
    have hs72_248 : x246 = (0 : Int32) ∨ x246 = (1 : Int32) := by
        rw [hx246]; exact own_and1 _
    rcases hs72_248 with rfl | rfl
    · skip
      obtain ⟨x249, hx249⟩ : ∃ z : Int32, z = ((pi4 &&& (2147483647 : Int32)) % x1) := ⟨_, rfl⟩
      have pre250 : ∀ t, Steps p.tables e below (T228.setTop (mkF m 82 #[iv pi0, iv pi1, iv pi2, iv pi3, iv pi4, iv pi5, iv x1, rv b3, iv (0 : Int32), iv (1 : Int32), iv (1 : Int32), iv x225, iv (0 : Int32), iv x249, .unset, .unset, .unset, .unset, .unset] [])) t → Go t := fun t kt => pre247 t (by
          subst hx249
          refine y_iload X228.here hx (hb hby at_72) rfl (pc' := 74) rfl ?_
          refine X228.ldcInt hx hown (mvT hZ (hw _ (List.mem_of_getElem? (i := 42) rfl))) (g := (mkF m 74 #[iv pi0, iv pi1, iv pi2, iv pi3, iv pi4, iv pi5, iv x1, rv b3, iv (0 : Int32), iv (1 : Int32), iv (1 : Int32), iv x225, iv (0 : Int32), .unset, .unset, .unset, .unset, .unset, .unset] [(.int pi4)])) rfl (hb hby at_74) _ ?_
          show Steps p.tables e below (T228.setTop (mkF m 76 #[iv pi0, iv pi1, iv pi2, iv pi3, iv pi4, iv pi5, iv x1, rv b3, iv (0 : Int32), iv (1 : Int32), iv (1 : Int32), iv x225, iv (0 : Int32), .unset, .unset, .unset, .unset, .unset, .unset] [(.int (2147483647 : Int32)), (.int pi4)])) _
          refine y_iand X228.here hx (hb hby at_76) rfl (pc' := 77) rfl ?_
          refine y_iload X228.here hx (hb hby at_77) rfl (pc' := 79) rfl ?_
          refine iremM (g := (mkF m 79 #[iv pi0, iv pi1, iv pi2, iv pi3, iv pi4, iv pi5, iv x1, rv b3, iv (0 : Int32), iv (1 : Int32), iv (1 : Int32), iv x225, iv (0 : Int32), .unset, .unset, .unset, .unset, .unset, .unset] [(.int x1), (.int (pi4 &&& (2147483647 : Int32)))])) X228 hx rfl (hb hby at_79) rfl NZ_x1 ?_
          show Steps p.tables e below (T228.setTop (mkF m 80 #[iv pi0, iv pi1, iv pi2, iv pi3, iv pi4, iv pi5, iv x1, rv b3, iv (0 : Int32), iv (1 : Int32), iv (1 : Int32), iv x225, iv (0 : Int32), .unset, .unset, .unset, .unset, .unset, .unset] [(.int ((pi4 &&& (2147483647 : Int32)) % x1))])) _
          refine y_istore X228.here hx (hb hby at_80) (l' := #[iv pi0, iv pi1, iv pi2, iv pi3, iv pi4, iv pi5, iv x1, rv b3, iv (0 : Int32), iv (1 : Int32), iv (1 : Int32), iv x225, iv (0 : Int32), iv ((pi4 &&& (2147483647 : Int32)) % x1), .unset, .unset, .unset, .unset, .unset]) rfl (pc' := 82) rfl ?_
          exact kt)
      have CI_x249 : ¬ x249 < 0 ∧ x249 < x1 := by rw [hx249]; exact own_rem pi4 L0_x1
      obtain ⟨x251, hx251⟩ : ∃ z : Int32, z = ((pi5 &&& (2147483647 : Int32)) % x1) := ⟨_, rfl⟩
      have pre252 : ∀ t, Steps p.tables e below (T228.setTop (mkF m 92 #[iv pi0, iv pi1, iv pi2, iv pi3, iv pi4, iv pi5, iv x1, rv b3, iv (0 : Int32), iv (1 : Int32), iv (1 : Int32), iv x225, iv (0 : Int32), iv x249, iv x251, .unset, .unset, .unset, .unset] [])) t → Go t := fun t kt => pre250 t (by
          subst hx251
          refine y_iload X228.here hx (hb hby at_82) rfl (pc' := 84) rfl ?_
          refine X228.ldcInt hx hown (mvT hZ (hw _ (List.mem_of_getElem? (i := 42) rfl))) (g := (mkF m 84 #[iv pi0, iv pi1, iv pi2, iv pi3, iv pi4, iv pi5, iv x1, rv b3, iv (0 : Int32), iv (1 : Int32), iv (1 : Int32), iv x225, iv (0 : Int32), iv x249, .unset, .unset, .unset, .unset, .unset] [(.int pi5)])) rfl (hb hby at_84) _ ?_
          show Steps p.tables e below (T228.setTop (mkF m 86 #[iv pi0, iv pi1, iv pi2, iv pi3, iv pi4, iv pi5, iv x1, rv b3, iv (0 : Int32), iv (1 : Int32), iv (1 : Int32), iv x225, iv (0 : Int32), iv x249, .unset, .unset, .unset, .unset, .unset] [(.int (2147483647 : Int32)), (.int pi5)])) _
          refine y_iand X228.here hx (hb hby at_86) rfl (pc' := 87) rfl ?_
          refine y_iload X228.here hx (hb hby at_87) rfl (pc' := 89) rfl ?_
          refine iremM (g := (mkF m 89 #[iv pi0, iv pi1, iv pi2, iv pi3, iv pi4, iv pi5, iv x1, rv b3, iv (0 : Int32), iv (1 : Int32), iv (1 : Int32), iv x225, iv (0 : Int32), iv x249, .unset, .unset, .unset, .unset, .unset] [(.int x1), (.int (pi5 &&& (2147483647 : Int32)))])) X228 hx rfl (hb hby at_89) rfl NZ_x1 ?_
          show Steps p.tables e below (T228.setTop (mkF m 90 #[iv pi0, iv pi1, iv pi2, iv pi3, iv pi4, iv pi5, iv x1, rv b3, iv (0 : Int32), iv (1 : Int32), iv (1 : Int32), iv x225, iv (0 : Int32), iv x249, .unset, .unset, .unset, .unset, .unset] [(.int ((pi5 &&& (2147483647 : Int32)) % x1))])) _
          refine y_istore X228.here hx (hb hby at_90) (l' := #[iv pi0, iv pi1, iv pi2, iv pi3, iv pi4, iv pi5, iv x1, rv b3, iv (0 : Int32), iv (1 : Int32), iv (1 : Int32), iv x225, iv (0 : Int32), iv x249, iv ((pi5 &&& (2147483647 : Int32)) % x1), .unset, .unset, .unset, .unset]) rfl (pc' := 92) rfl ?_
          exact kt)
      have CI_x251 : ¬ x251 < 0 ∧ x251 < x1 := by rw [hx251]; exact own_rem pi5 L0_x1
      have pre253 : ∀ t, Steps p.tables e below (T228.setTop (mkF m 98 #[iv pi0, iv pi1, iv pi2, iv pi3, iv pi4, iv pi5, iv x1, rv b3, iv (0 : Int32), iv (1 : Int32), iv (1 : Int32), iv x225, iv (0 : Int32), iv x249, iv x251, .unset, .unset, .unset, .unset] [(.int x249), (.int (0 : Int32)), (.ref b3)])) t → Go t := fun t kt => pre252 t (by
          refine y_aload X228.here hx (hb hby at_92) rfl rfl (pc' := 94) rfl ?_
          refine y_iload X228.here hx (hb hby at_94) rfl (pc' := 96) rfl ?_
          refine y_iload X228.here hx (hb hby at_96) rfl (pc' := 98) rfl ?_
          exact kt)
      obtain ⟨cq254, kq254, q254a, q254b, q254c⟩ := isOf hZ eh228 f231
      obtain ⟨v254, _, ⟨T254, L254, k254, n254⟩, -, X254, ⟨Lc254, hQ254, l254, y254, z254⟩, st254⟩ := X228.virtualBack hx (y := (⟨"com/example/stonegaze/stonegaze/Groups", "addStone", "(II)V"⟩ : MethodName)) (z := (⟨"com/example/stonegaze/stonegaze/Groups", "addStone", "(II)V"⟩ : MethodName)) hown (mvT hZ (hw _ (List.mem_of_getElem? (i := 43) rfl))) (mvT hZ (hw _ (List.mem_of_getElem? (i := 44) rfl))) (notFace_of_selects (args := #[]) (mvT hZ (hw _ (List.mem_of_getElem? (i := 46) rfl)))) (mvT hZ (hw _ (List.mem_of_getElem? (i := 46) rfl))) (mvT hZ (hw _ (List.mem_of_getElem? (i := 45) rfl))) (by decide) (backOf (W := 0) (rm5g0 l Z a0 hw [] b3 x249 z14_groupOf z14_stones x1 k14_groupOf ((x225, (.int (1 : Int32))) :: []) k14_stones (0 : Int32) (1 : Int32) h228 n0 O245 f231 f234 f236 G14_groupOf G14_stones (by have := OR_b3; omega) CI_x249 L0_x1 L1_x1 p228_0 p228_1) hZ (hw _ (List.mem_of_getElem? (i := 47) rfl)) (hw _ (List.mem_of_getElem? (i := 2) rfl)) (by decide) (by decide)) q254a q254c (g := (mkF m 98 #[iv pi0, iv pi1, iv pi2, iv pi3, iv pi4, iv pi5, iv x1, rv b3, iv (0 : Int32), iv (1 : Int32), iv (1 : Int32), iv x225, iv (0 : Int32), iv x249, iv x251, .unset, .unset, .unset, .unset] [(.int x249), (.int (0 : Int32)), (.ref b3)])) rfl (by rw [hml]; rfl) (Steps.refl _) (argsL := [(.int (0 : Int32)), (.int x249)]) (rest := []) (lenOf pd__II_V rfl) rfl (by show 2 * 0 + _ ≤ _; exact Nat.le_of_eq rfl) (hb hby at_98) (fun _ _ => ⟨rfl, eh228, (by decide : 7 + 0 ≤ _), (by decide : 37 + 0 ≤ _)⟩)
      dsimp only [Pt.U, Pt.locs, Pt.cells, Pt.slots] at X254 l254 y254 z254 st254 hQ254
      subst l254 y254 z254
      obtain ⟨hv254, N254q, K254q, p254_0, p254_1⟩ := hQ254
      have N255 := Fr.app N229 N254q
      subst hv254
      have pre256 : ∀ t, Steps p.tables e below (T254.setTop (mkF m 101 #[iv pi0, iv pi1, iv pi2, iv pi3, iv pi4, iv pi5, iv x1, rv b3, iv (0 : Int32), iv (1 : Int32), iv (1 : Int32), iv x225, iv (0 : Int32), iv x249, iv x251, .unset, .unset, .unset, .unset] [])) t → Go t := fun t kt => pre253 t (st254.trans kt)
      obtain ⟨h254, eh254⟩ : ∃ z, T254.heap = z := ⟨_, rfl⟩
      rw [eh254] at K254q p254_0 p254_1
      have f257 : Exa Z h254 b3 "com/example/stonegaze/stonegaze/Groups" := (f231.keep K254q)
      have f258 : Fld Z h254 b3 "com/example/stonegaze/stonegaze/Groups" "groupOf" "[I" (.ref z14_groupOf) := (f234.keep K254q (ninS ne25 (ninS ne27 nin0)))
      have f259 : Fld Z h254 b3 "com/example/stonegaze/stonegaze/Groups" "colours" "[Lcom/example/stonegaze/stonegaze/Side;" (.ref z14_colours) := (f235.keep K254q (ninS ne25 (ninS ne27 nin0)))
      have f260 : Fld Z h254 b3 "com/example/stonegaze/stonegaze/Groups" "stones" "[I" (.ref z14_stones) := (f236.keep K254q (ninS ne25 (ninS ne27 nin0)))
      have f261 : Fld Z h254 b3 "com/example/stonegaze/stonegaze/Groups" "liberties" "[I" (.ref z14_liberties) := (f237.keep K254q (ninS ne25 (ninS ne27 nin0)))
      have f262 : Fld Z h254 b3 "com/example/stonegaze/stonegaze/Groups" "ringed" "[Z" (.ref z14_ringed) := (f238.keep K254q (ninS ne25 (ninS ne27 nin0)))
      have f263 : Fld Z h254 b3 "com/example/stonegaze/stonegaze/Groups" "aLiberty" "[I" (.ref z14_aLiberty) := (f239.keep K254q (ninS ne25 (ninS ne27 nin0)))
      have f264 : Fld Z h254 b3 "com/example/stonegaze/stonegaze/Groups" "count" "I" (.int (2 : Int32)) := (f240.keep K254q (ninS ne25 (ninS ne27 nin0)))
      have f265 : Arv Z h254 z14_colours k14_colours (.object "com/example/stonegaze/stonegaze/Side") x1 [(.ref w_WHITE), (.ref w_BLACK)] .null := (f241.keep K254q (ninS (Ne.symm ne31) (ninS ne36 nin0)))
      have f266 : Arv Z h254 z14_liberties k14_liberties .int x1 [(.int (0 : Int32)), (.int (1 : Int32))] (.int (0 : Int32)) := (f242.keep K254q (ninS (Ne.symm ne33) (ninS (Ne.symm ne40) nin0)))
      have f267 : Arv Z h254 z14_aLiberty k14_aLiberty .int x1 [(.int (-1 : Int32)), (.int (0 : Int32))] (.int (0 : Int32)) := (f243.keep K254q (ninS (Ne.symm ne35) (ninS (Ne.symm ne42) nin0)))
      have f268 : Arv Z h254 z14_ringed k14_ringed .boolean x1 [(.int x67), (.int x90)] (.int (0 : Int32)) := (f244.keep K254q (ninS (Ne.symm ne34) (ninS (Ne.symm ne41) nin0)))
      replace p254_1 : Arv Z h254 z14_stones k14_stones .int x1 [(.int (1 : Int32)), (.int (1 : Int32))] (.int (0 : Int32)) := p254_1
      have O271 := O245.keep K254q (allS G14_groupOf (allS G14_stones all0))
      have pre272 : ∀ t, Steps p.tables e below (T254.setTop (mkF m 153 #[iv pi0, iv pi1, iv pi2, iv pi3, iv pi4, iv pi5, iv x1, rv b3, iv (0 : Int32), iv (1 : Int32), iv (1 : Int32), iv x225, iv (0 : Int32), iv x249, iv x251, iv (1 : Int32), iv (1 : Int32), .unset, .unset] [(.int x249), (.int x251)])) t → Go t := fun t kt => pre256 t (by
          refine y_iload X254.here hx (hb hby at_101) rfl (pc' := 103) rfl ?_
          refine y_ifYes X254.here hx (hb hby at_103) ((if0 _ _).trans (feq (by decide : ¬ ((1 : Int32) = (0 : Int32)))).2) (pc' := 110) (by decide) rfl ?_
          refine y_iconst X254.here hx (hb hby at_110) (v := (0 : Int32)) rfl (pc' := 111) rfl ?_
          refine y_iload X254.here hx (hb hby at_111) rfl (pc' := 113) rfl ?_
          refine y_ifNo X254.here hx (hb hby at_113) ((if0 _ _).trans (teq (rfl : (0 : Int32) = (0 : Int32))).2) (pc' := 116) rfl ?_
          refine y_iconst X254.here hx (hb hby at_116) (v := (1 : Int32)) rfl (pc' := 117) rfl ?_
          refine y_goto X254.here hx (hb hby at_117) (pc' := 121) (by decide) rfl ?_
          refine y_iadd X254.here hx (hb hby at_121) (z := (1 : Int32)) rfl (pc' := 122) rfl ?_
          refine y_istore X254.here hx (hb hby at_122) (l' := #[iv pi0, iv pi1, iv pi2, iv pi3, iv pi4, iv pi5, iv x1, rv b3, iv (0 : Int32), iv (1 : Int32), iv (1 : Int32), iv x225, iv (0 : Int32), iv x249, iv x251, iv (1 : Int32), .unset, .unset, .unset]) rfl (pc' := 124) rfl ?_
          refine y_iload X254.here hx (hb hby at_124) rfl (pc' := 126) rfl ?_
          refine y_iconst X254.here hx (hb hby at_126) (v := (1 : Int32)) rfl (pc' := 127) rfl ?_
          refine y_icmpNo X254.here hx (hb hby at_127) (teq (rfl : (1 : Int32) = (1 : Int32))).2 (pc' := 130) rfl ?_
          refine y_iconst X254.here hx (hb hby at_130) (v := (1 : Int32)) rfl (pc' := 131) rfl ?_
          refine y_goto X254.here hx (hb hby at_131) (pc' := 135) (by decide) rfl ?_
          refine y_iload X254.here hx (hb hby at_135) rfl (pc' := 137) rfl ?_
          refine y_iconst X254.here hx (hb hby at_137) (v := (1 : Int32)) rfl (pc' := 138) rfl ?_
          refine y_icmpYes X254.here hx (hb hby at_138) (feq (by decide : ¬ ((0 : Int32) = (1 : Int32)))).2 (pc' := 145) (by decide) rfl ?_
          refine y_iconst X254.here hx (hb hby at_145) (v := (0 : Int32)) rfl (pc' := 146) rfl ?_
          refine y_iadd X254.here hx (hb hby at_146) (z := (1 : Int32)) rfl (pc' := 147) rfl ?_
          refine y_istore X254.here hx (hb hby at_147) (l' := #[iv pi0, iv pi1, iv pi2, iv pi3, iv pi4, iv pi5, iv x1, rv b3, iv (0 : Int32), iv (1 : Int32), iv (1 : Int32), iv x225, iv (0 : Int32), iv x249, iv x251, iv (1 : Int32), iv (1 : Int32), .unset, .unset]) rfl (pc' := 149) rfl ?_
          refine y_iload X254.here hx (hb hby at_149) rfl (pc' := 151) rfl ?_
          refine y_iload X254.here hx (hb hby at_151) rfl (pc' := 153) rfl ?_
          exact kt)
      obtain ⟨x273, hx273⟩ : ∃ z : Int32, z = (if x251 = x249 then (0 : Int32) else (if x251 = x225 then (1 : Int32) else (-1 : Int32))) := ⟨_, rfl⟩
      obtain ⟨T274, ⟨X274, q274⟩, st274⟩ : ∃ T', Nx X254 T' ∧ ∀ t, Steps p.tables e below (T'.setTop (mkF m 180 #[iv pi0, iv pi1, iv pi2, iv pi3, iv pi4, iv pi5, iv x1, rv b3, iv (0 : Int32), iv (1 : Int32), iv (1 : Int32), iv x225, iv (0 : Int32), iv x249, iv x251, iv (1 : Int32), iv (1 : Int32), iv x273, .unset] [])) t → Steps p.tables e below (T254.setTop (mkF m 153 #[iv pi0, iv pi1, iv pi2, iv pi3, iv pi4, iv pi5, iv x1, rv b3, iv (0 : Int32), iv (1 : Int32), iv (1 : Int32), iv x225, iv (0 : Int32), iv x249, iv x251, iv (1 : Int32), iv (1 : Int32), .unset, .unset] [(.int x249), (.int x251)])) t := by
        have pre274_ : ∀ t, Steps p.tables e below (T254.setTop (mkF m 153 #[iv pi0, iv pi1, iv pi2, iv pi3, iv pi4, iv pi5, iv x1, rv b3, iv (0 : Int32), iv (1 : Int32), iv (1 : Int32), iv x225, iv (0 : Int32), iv x249, iv x251, iv (1 : Int32), iv (1 : Int32), .unset, .unset] [(.int x249), (.int x251)])) t → Steps p.tables e below (T254.setTop (mkF m 153 #[iv pi0, iv pi1, iv pi2, iv pi3, iv pi4, iv pi5, iv x1, rv b3, iv (0 : Int32), iv (1 : Int32), iv (1 : Int32), iv x225, iv (0 : Int32), iv x249, iv x251, iv (1 : Int32), iv (1 : Int32), .unset, .unset] [(.int x249), (.int x251)])) t := fun t kt => kt
        subst hx273
        by_cases hm153_275 : x251 = x249
        · have pre276 : ∀ t, Steps p.tables e below (T254.setTop (mkF m 180 #[iv pi0, iv pi1, iv pi2, iv pi3, iv pi4, iv pi5, iv x1, rv b3, iv (0 : Int32), iv (1 : Int32), iv (1 : Int32), iv x225, iv (0 : Int32), iv x249, iv x251, iv (1 : Int32), iv (1 : Int32), iv (0 : Int32), .unset] [])) t → Steps p.tables e below (T254.setTop (mkF m 153 #[iv pi0, iv pi1, iv pi2, iv pi3, iv pi4, iv pi5, iv x1, rv b3, iv (0 : Int32), iv (1 : Int32), iv (1 : Int32), iv x225, iv (0 : Int32), iv x249, iv x251, iv (1 : Int32), iv (1 : Int32), .unset, .unset] [(.int x249), (.int x251)])) t := fun t kt => pre274_ t (by
              refine y_icmpNo X254.here hx (hb hby at_153) (teq hm153_275).2 (pc' := 156) rfl ?_
              refine y_iload X254.here hx (hb hby at_156) rfl (pc' := 158) rfl ?_
              refine y_istore X254.here hx (hb hby at_158) (l' := #[iv pi0, iv pi1, iv pi2, iv pi3, iv pi4, iv pi5, iv x1, rv b3, iv (0 : Int32), iv (1 : Int32), iv (1 : Int32), iv x225, iv (0 : Int32), iv x249, iv x251, iv (1 : Int32), iv (1 : Int32), iv (0 : Int32), .unset]) rfl (pc' := 160) rfl ?_
              refine y_goto X254.here hx (hb hby at_160) (pc' := 180) (by decide) rfl ?_
              exact kt)
          refine ⟨T254, ⟨X254, eh254.trans eh254.symm⟩, fun t kt => pre276 t ?_⟩
          (try simp only [if_pos hm153_275] at kt)
          exact kt
        · have pre277 : ∀ t, Steps p.tables e below (T254.setTop (mkF m 167 #[iv pi0, iv pi1, iv pi2, iv pi3, iv pi4, iv pi5, iv x1, rv b3, iv (0 : Int32), iv (1 : Int32), iv (1 : Int32), iv x225, iv (0 : Int32), iv x249, iv x251, iv (1 : Int32), iv (1 : Int32), .unset, .unset] [(.int x225), (.int x251)])) t → Steps p.tables e below (T254.setTop (mkF m 153 #[iv pi0, iv pi1, iv pi2, iv pi3, iv pi4, iv pi5, iv x1, rv b3, iv (0 : Int32), iv (1 : Int32), iv (1 : Int32), iv x225, iv (0 : Int32), iv x249, iv x251, iv (1 : Int32), iv (1 : Int32), .unset, .unset] [(.int x249), (.int x251)])) t := fun t kt => pre274_ t (by
              refine y_icmpYes X254.here hx (hb hby at_153) (feq hm153_275).2 (pc' := 163) (by decide) rfl ?_
              refine y_iload X254.here hx (hb hby at_163) rfl (pc' := 165) rfl ?_
              refine y_iload X254.here hx (hb hby at_165) rfl (pc' := 167) rfl ?_
              exact kt)
          by_cases hm167_278 : x251 = x225
          · have pre279 : ∀ t, Steps p.tables e below (T254.setTop (mkF m 180 #[iv pi0, iv pi1, iv pi2, iv pi3, iv pi4, iv pi5, iv x1, rv b3, iv (0 : Int32), iv (1 : Int32), iv (1 : Int32), iv x225, iv (0 : Int32), iv x249, iv x251, iv (1 : Int32), iv (1 : Int32), iv (1 : Int32), .unset] [])) t → Steps p.tables e below (T254.setTop (mkF m 153 #[iv pi0, iv pi1, iv pi2, iv pi3, iv pi4, iv pi5, iv x1, rv b3, iv (0 : Int32), iv (1 : Int32), iv (1 : Int32), iv x225, iv (0 : Int32), iv x249, iv x251, iv (1 : Int32), iv (1 : Int32), .unset, .unset] [(.int x249), (.int x251)])) t := fun t kt => pre277 t (by
                refine y_icmpNo X254.here hx (hb hby at_167) (teq hm167_278).2 (pc' := 170) rfl ?_
                refine y_iload X254.here hx (hb hby at_170) rfl (pc' := 172) rfl ?_
                refine y_istore X254.here hx (hb hby at_172) (l' := #[iv pi0, iv pi1, iv pi2, iv pi3, iv pi4, iv pi5, iv x1, rv b3, iv (0 : Int32), iv (1 : Int32), iv (1 : Int32), iv x225, iv (0 : Int32), iv x249, iv x251, iv (1 : Int32), iv (1 : Int32), iv (1 : Int32), .unset]) rfl (pc' := 174) rfl ?_
                refine y_goto X254.here hx (hb hby at_174) (pc' := 180) (by decide) rfl ?_
                exact kt)
            refine ⟨T254, ⟨X254, eh254.trans eh254.symm⟩, fun t kt => pre279 t ?_⟩
            (try simp only [if_neg hm153_275, if_pos hm167_278] at kt)
            exact kt
          · have pre280 : ∀ t, Steps p.tables e below (T254.setTop (mkF m 180 #[iv pi0, iv pi1, iv pi2, iv pi3, iv pi4, iv pi5, iv x1, rv b3, iv (0 : Int32), iv (1 : Int32), iv (1 : Int32), iv x225, iv (0 : Int32), iv x249, iv x251, iv (1 : Int32), iv (1 : Int32), iv (-1 : Int32), .unset] [])) t → Steps p.tables e below (T254.setTop (mkF m 153 #[iv pi0, iv pi1, iv pi2, iv pi3, iv pi4, iv pi5, iv x1, rv b3, iv (0 : Int32), iv (1 : Int32), iv (1 : Int32), iv x225, iv (0 : Int32), iv x249, iv x251, iv (1 : Int32), iv (1 : Int32), .unset, .unset] [(.int x249), (.int x251)])) t := fun t kt => pre277 t (by
                refine y_icmpYes X254.here hx (hb hby at_167) (feq hm167_278).2 (pc' := 177) (by decide) rfl ?_
                refine y_iconst X254.here hx (hb hby at_177) (v := (-1 : Int32)) rfl (pc' := 178) rfl ?_
                refine y_istore X254.here hx (hb hby at_178) (l' := #[iv pi0, iv pi1, iv pi2, iv pi3, iv pi4, iv pi5, iv x1, rv b3, iv (0 : Int32), iv (1 : Int32), iv (1 : Int32), iv x225, iv (0 : Int32), iv x249, iv x251, iv (1 : Int32), iv (1 : Int32), iv (-1 : Int32), .unset]) rfl (pc' := 180) rfl ?_
                exact kt)
            refine ⟨T254, ⟨X254, eh254.trans eh254.symm⟩, fun t kt => pre280 t ?_⟩
            (try simp only [if_neg hm153_275, if_neg hm167_278] at kt)
            exact kt
      have e274 : T274.heap = h254 := q274.trans eh254
      have pre281 : ∀ t, Steps p.tables e below (T274.setTop (mkF m 180 #[iv pi0, iv pi1, iv pi2, iv pi3, iv pi4, iv pi5, iv x1, rv b3, iv (0 : Int32), iv (1 : Int32), iv (1 : Int32), iv x225, iv (0 : Int32), iv x249, iv x251, iv (1 : Int32), iv (1 : Int32), iv x273, .unset] [])) t → Go t := fun t kt => pre272 t (st274 t kt)
      have pre282 : ∀ t, Steps p.tables e below (T274.setTop (mkF m 207 #[iv pi0, iv pi1, iv pi2, iv pi3, iv pi4, iv pi5, iv x1, rv b3, iv (0 : Int32), iv (1 : Int32), iv (1 : Int32), iv x225, iv (0 : Int32), iv x249, iv x251, iv (1 : Int32), iv (1 : Int32), iv x273, iv (1 : Int32)] [(.int x249), (.ref b3)])) t → Go t := fun t kt => pre281 t (by
          refine y_iload X274.here hx (hb hby at_180) rfl (pc' := 182) rfl ?_
          refine y_ifNo X274.here hx (hb hby at_182) ((if0 _ _).trans (teq (rfl : (0 : Int32) = (0 : Int32))).2) (pc' := 185) rfl ?_
          refine y_iload X274.here hx (hb hby at_185) rfl (pc' := 187) rfl ?_
          refine y_iconst X274.here hx (hb hby at_187) (v := (1 : Int32)) rfl (pc' := 188) rfl ?_
          refine y_icmpNo X274.here hx (hb hby at_188) (teq (rfl : (1 : Int32) = (1 : Int32))).2 (pc' := 191) rfl ?_
          refine y_iconst X274.here hx (hb hby at_191) (v := (1 : Int32)) rfl (pc' := 192) rfl ?_
          refine y_goto X274.here hx (hb hby at_192) (pc' := 196) (by decide) rfl ?_
          refine y_istore X274.here hx (hb hby at_196) (l' := #[iv pi0, iv pi1, iv pi2, iv pi3, iv pi4, iv pi5, iv x1, rv b3, iv (0 : Int32), iv (1 : Int32), iv (1 : Int32), iv x225, iv (0 : Int32), iv x249, iv x251, iv (1 : Int32), iv (1 : Int32), iv x273, iv (1 : Int32)]) rfl (pc' := 198) rfl ?_
          refine y_iload X274.here hx (hb hby at_198) rfl (pc' := 200) rfl ?_
          refine y_ifNo X274.here hx (hb hby at_200) ((if0 _ _).trans (feq (by decide : ¬ ((1 : Int32) = (0 : Int32)))).1) (pc' := 203) rfl ?_
          refine y_aload X274.here hx (hb hby at_203) rfl rfl (pc' := 205) rfl ?_
          refine y_iload X274.here hx (hb hby at_205) rfl (pc' := 207) rfl ?_
          exact kt)
      obtain ⟨cq284, kq284, q284a, q284b, q284c⟩ := isOf hZ e274 f257
      obtain ⟨v284, _, ⟨T284, L284, k284, n284⟩, -, X284, ⟨Lc284, hQ284, l284, y284, z284⟩, st284⟩ := X274.virtualBack hx (y := (⟨"com/example/stonegaze/stonegaze/Groups", "groupAt", "(I)I"⟩ : MethodName)) (z := (⟨"com/example/stonegaze/stonegaze/Groups", "groupAt", "(I)I"⟩ : MethodName)) hown (mvT hZ (hw _ (List.mem_of_getElem? (i := 48) rfl))) (mvT hZ (hw _ (List.mem_of_getElem? (i := 49) rfl))) (notFace_of_selects (args := #[]) (mvT hZ (hw _ (List.mem_of_getElem? (i := 51) rfl)))) (mvT hZ (hw _ (List.mem_of_getElem? (i := 51) rfl))) (mvT hZ (hw _ (List.mem_of_getElem? (i := 50) rfl))) (by decide) (backOf (W := 0) (rm6 l Z a0 hw [] b3 x249 z14_groupOf x1 (0 : Int32) k14_groupOf ((x249, (.int (0 : Int32))) :: ((x225, (.int (1 : Int32))) :: [])) h254 n0 O271 f257 f258 CI_x249 (getH_hit CI_x249.1 rfl) p254_0) hZ (hw _ (List.mem_of_getElem? (i := 52) rfl)) (hw _ (List.mem_of_getElem? (i := 2) rfl)) (by decide) (by decide)) q284a q284c (g := (mkF m 207 #[iv pi0, iv pi1, iv pi2, iv pi3, iv pi4, iv pi5, iv x1, rv b3, iv (0 : Int32), iv (1 : Int32), iv (1 : Int32), iv x225, iv (0 : Int32), iv x249, iv x251, iv (1 : Int32), iv (1 : Int32), iv x273, iv (1 : Int32)] [(.int x249), (.ref b3)])) rfl (by rw [hml]; rfl) (Steps.refl _) (argsL := [(.int x249)]) (rest := []) (lenOf pd__I_I rfl) rfl (by show 2 * 0 + _ ≤ _; exact Nat.le_of_eq rfl) (hb hby at_207) (fun _ _ => ⟨rfl, e274, (by decide : 7 + 0 ≤ _), (by decide : 37 + 0 ≤ _)⟩)
      dsimp only [Pt.U, Pt.locs, Pt.cells, Pt.slots] at X284 l284 y284 z284 st284 hQ284
      subst l284 y284 z284
      obtain ⟨hv284, N284q, e284q⟩ := hQ284
      have N285 := Fr.app N255 N284q
      have hw284 := hv284
      subst hw284
      have pre286 : ∀ t, Steps p.tables e below (T284.setTop (mkF m 210 #[iv pi0, iv pi1, iv pi2, iv pi3, iv pi4, iv pi5, iv x1, rv b3, iv (0 : Int32), iv (1 : Int32), iv (1 : Int32), iv x225, iv (0 : Int32), iv x249, iv x251, iv (1 : Int32), iv (1 : Int32), iv x273, iv (1 : Int32)] [(.int (0 : Int32))])) t → Go t := fun t kt => pre282 t (st284.trans kt)
      have pre287 : ∀ t, Steps p.tables e below (T284.setTop (mkF m 231 #[iv pi0, iv pi1, iv pi2, iv pi3, iv pi4, iv pi5, iv x1, rv b3, iv (0 : Int32), iv (1 : Int32), iv (1 : Int32), iv x225, iv (0 : Int32), iv x249, iv x251, iv (1 : Int32), iv (1 : Int32), iv x273, iv (1 : Int32)] [(.int x251), (.ref b3)])) t → Go t := fun t kt => pre286 t (by
          refine y_iload X284.here hx (hb hby at_210) rfl (pc' := 212) rfl ?_
          refine y_icmpNo X284.here hx (hb hby at_212) (teq (rfl : (0 : Int32) = (0 : Int32))).2 (pc' := 215) rfl ?_
          refine y_iconst X284.here hx (hb hby at_215) (v := (1 : Int32)) rfl (pc' := 216) rfl ?_
          refine y_goto X284.here hx (hb hby at_216) (pc' := 220) (by decide) rfl ?_
          refine y_istore X284.here hx (hb hby at_220) (l' := #[iv pi0, iv pi1, iv pi2, iv pi3, iv pi4, iv pi5, iv x1, rv b3, iv (0 : Int32), iv (1 : Int32), iv (1 : Int32), iv x225, iv (0 : Int32), iv x249, iv x251, iv (1 : Int32), iv (1 : Int32), iv x273, iv (1 : Int32)]) rfl (pc' := 222) rfl ?_
          refine y_iload X284.here hx (hb hby at_222) rfl (pc' := 224) rfl ?_
          refine y_ifNo X284.here hx (hb hby at_224) ((if0 _ _).trans (feq (by decide : ¬ ((1 : Int32) = (0 : Int32)))).1) (pc' := 227) rfl ?_
          refine y_aload X284.here hx (hb hby at_227) rfl rfl (pc' := 229) rfl ?_
          refine y_iload X284.here hx (hb hby at_229) rfl (pc' := 231) rfl ?_
          exact kt)
      have uw288 : getH ((x249, (.int (0 : Int32))) :: ((x225, (.int (1 : Int32))) :: [])) [] (.int (-1 : Int32)) x251.toNatClampNeg = .int x273 := by
          rw [hx273]
          by_cases q1 : x251 = x249
          · rw [if_pos q1]; exact getH_hit CI_x251.1 q1
          · rw [if_neg q1]; refine getH_miss CI_x251.1 q1 ?_
            by_cases q2 : x251 = x225
            · rw [if_pos q2]; exact getH_hit CI_x251.1 q2
            · rw [if_neg q2]; refine getH_miss CI_x251.1 q2 ?_
              rfl
      obtain ⟨cq289, kq289, q289a, q289b, q289c⟩ := isOf hZ e284q f257
      obtain ⟨v289, _, ⟨T289, L289, k289, n289⟩, -, X289, ⟨Lc289, hQ289, l289, y289, z289⟩, st289⟩ := X284.virtualBack hx (y := (⟨"com/example/stonegaze/stonegaze/Groups", "groupAt", "(I)I"⟩ : MethodName)) (z := (⟨"com/example/stonegaze/stonegaze/Groups", "groupAt", "(I)I"⟩ : MethodName)) hown (mvT hZ (hw _ (List.mem_of_getElem? (i := 48) rfl))) (mvT hZ (hw _ (List.mem_of_getElem? (i := 49) rfl))) (notFace_of_selects (args := #[]) (mvT hZ (hw _ (List.mem_of_getElem? (i := 51) rfl)))) (mvT hZ (hw _ (List.mem_of_getElem? (i := 51) rfl))) (mvT hZ (hw _ (List.mem_of_getElem? (i := 50) rfl))) (by decide) (backOf (W := 0) (rm6 l Z a0 hw [] b3 x251 z14_groupOf x1 x273 k14_groupOf ((x249, (.int (0 : Int32))) :: ((x225, (.int (1 : Int32))) :: [])) h254 n0 O271 f257 f258 CI_x251 uw288 p254_0) hZ (hw _ (List.mem_of_getElem? (i := 52) rfl)) (hw _ (List.mem_of_getElem? (i := 2) rfl)) (by decide) (by decide)) q289a q289c (g := (mkF m 231 #[iv pi0, iv pi1, iv pi2, iv pi3, iv pi4, iv pi5, iv x1, rv b3, iv (0 : Int32), iv (1 : Int32), iv (1 : Int32), iv x225, iv (0 : Int32), iv x249, iv x251, iv (1 : Int32), iv (1 : Int32), iv x273, iv (1 : Int32)] [(.int x251), (.ref b3)])) rfl (by rw [hml]; rfl) (Steps.refl _) (argsL := [(.int x251)]) (rest := []) (lenOf pd__I_I rfl) rfl (by show 2 * 0 + _ ≤ _; exact Nat.le_of_eq rfl) (hb hby at_231) (fun _ _ => ⟨rfl, e284q, (by decide : 7 + 0 ≤ _), (by decide : 37 + 0 ≤ _)⟩)
      dsimp only [Pt.U, Pt.locs, Pt.cells, Pt.slots] at X289 l289 y289 z289 st289 hQ289
      subst l289 y289 z289
      obtain ⟨hv289, N289q, e289q⟩ := hQ289
      have N290 := Fr.app N285 N289q
      have hw289 := hv289
      subst hw289
      have pre291 : ∀ t, Steps p.tables e below (T289.setTop (mkF m 234 #[iv pi0, iv pi1, iv pi2, iv pi3, iv pi4, iv pi5, iv x1, rv b3, iv (0 : Int32), iv (1 : Int32), iv (1 : Int32), iv x225, iv (0 : Int32), iv x249, iv x251, iv (1 : Int32), iv (1 : Int32), iv x273, iv (1 : Int32)] [(.int x273)])) t → Go t := fun t kt => pre287 t (st289.trans kt)
      have pre292 : ∀ t, Steps p.tables e below (T289.setTop (mkF m 254 #[iv pi0, iv pi1, iv pi2, iv pi3, iv pi4, iv pi5, iv x1, rv b3, iv (0 : Int32), iv (1 : Int32), iv (1 : Int32), iv x225, iv (0 : Int32), iv x249, iv x251, iv (1 : Int32), iv (1 : Int32), iv x273, iv (1 : Int32)] [(.int (0 : Int32)), (.ref b3)])) t → Go t := fun t kt => pre291 t (by
          refine y_iload X289.here hx (hb hby at_234) rfl (pc' := 236) rfl ?_
          refine y_icmpNo X289.here hx (hb hby at_236) (teq (rfl : x273 = x273)).2 (pc' := 239) rfl ?_
          refine y_iconst X289.here hx (hb hby at_239) (v := (1 : Int32)) rfl (pc' := 240) rfl ?_
          refine y_goto X289.here hx (hb hby at_240) (pc' := 244) (by decide) rfl ?_
          refine y_istore X289.here hx (hb hby at_244) (l' := #[iv pi0, iv pi1, iv pi2, iv pi3, iv pi4, iv pi5, iv x1, rv b3, iv (0 : Int32), iv (1 : Int32), iv (1 : Int32), iv x225, iv (0 : Int32), iv x249, iv x251, iv (1 : Int32), iv (1 : Int32), iv x273, iv (1 : Int32)]) rfl (pc' := 246) rfl ?_
          refine y_iload X289.here hx (hb hby at_246) rfl (pc' := 248) rfl ?_
          refine y_ifNo X289.here hx (hb hby at_248) ((if0 _ _).trans (feq (by decide : ¬ ((1 : Int32) = (0 : Int32)))).1) (pc' := 251) rfl ?_
          refine y_aload X289.here hx (hb hby at_251) rfl rfl (pc' := 253) rfl ?_
          refine y_iconst X289.here hx (hb hby at_253) (v := (0 : Int32)) rfl (pc' := 254) rfl ?_
          exact kt)
      obtain ⟨cq293, kq293, q293a, q293b, q293c⟩ := isOf hZ e289q f257
      obtain ⟨v293, _, ⟨T293, L293, k293, n293⟩, -, X293, ⟨Lc293, hQ293, l293, y293, z293⟩, st293⟩ := X289.virtualBack hx (y := (⟨"com/example/stonegaze/stonegaze/Groups", "stones", "(I)I"⟩ : MethodName)) (z := (⟨"com/example/stonegaze/stonegaze/Groups", "stones", "(I)I"⟩ : MethodName)) hown (mvT hZ (hw _ (List.mem_of_getElem? (i := 53) rfl))) (mvT hZ (hw _ (List.mem_of_getElem? (i := 54) rfl))) (notFace_of_selects (args := #[]) (mvT hZ (hw _ (List.mem_of_getElem? (i := 56) rfl)))) (mvT hZ (hw _ (List.mem_of_getElem? (i := 56) rfl))) (mvT hZ (hw _ (List.mem_of_getElem? (i := 55) rfl))) (by decide) (backOf (W := 0) (rm7i0 l Z a0 hw [] b3 z14_stones x1 k14_stones (1 : Int32) (1 : Int32) h254 n0 O271 f257 f260 L0_x1 L1_x1 p254_1) hZ (hw _ (List.mem_of_getElem? (i := 57) rfl)) (hw _ (List.mem_of_getElem? (i := 2) rfl)) (by decide) (by decide)) q293a q293c (g := (mkF m 254 #[iv pi0, iv pi1, iv pi2, iv pi3, iv pi4, iv pi5, iv x1, rv b3, iv (0 : Int32), iv (1 : Int32), iv (1 : Int32), iv x225, iv (0 : Int32), iv x249, iv x251, iv (1 : Int32), iv (1 : Int32), iv x273, iv (1 : Int32)] [(.int (0 : Int32)), (.ref b3)])) rfl (by rw [hml]; rfl) (Steps.refl _) (argsL := [(.int (0 : Int32))]) (rest := []) (lenOf pd__I_I rfl) rfl (by show 2 * 0 + _ ≤ _; exact Nat.le_of_eq rfl) (hb hby at_254) (fun _ _ => ⟨rfl, e289q, (by decide : 7 + 0 ≤ _), (by decide : 37 + 0 ≤ _)⟩)
      dsimp only [Pt.U, Pt.locs, Pt.cells, Pt.slots] at X293 l293 y293 z293 st293 hQ293
      subst l293 y293 z293
      obtain ⟨hv293, N293q, e293q⟩ := hQ293
      have N294 := Fr.app N290 N293q
      have hw293 := hv293
      subst hw293
      have pre295 : ∀ t, Steps p.tables e below (T293.setTop (mkF m 257 #[iv pi0, iv pi1, iv pi2, iv pi3, iv pi4, iv pi5, iv x1, rv b3, iv (0 : Int32), iv (1 : Int32), iv (1 : Int32), iv x225, iv (0 : Int32), iv x249, iv x251, iv (1 : Int32), iv (1 : Int32), iv x273, iv (1 : Int32)] [(.int (1 : Int32))])) t → Go t := fun t kt => pre292 t (st293.trans kt)
      have pre296 : ∀ t, Steps p.tables e below (T293.setTop (mkF m 277 #[iv pi0, iv pi1, iv pi2, iv pi3, iv pi4, iv pi5, iv x1, rv b3, iv (0 : Int32), iv (1 : Int32), iv (1 : Int32), iv x225, iv (0 : Int32), iv x249, iv x251, iv (1 : Int32), iv (1 : Int32), iv x273, iv (1 : Int32)] [(.int (1 : Int32)), (.ref b3)])) t → Go t := fun t kt => pre295 t (by
          refine y_iload X293.here hx (hb hby at_257) rfl (pc' := 259) rfl ?_
          refine y_icmpNo X293.here hx (hb hby at_259) (teq (rfl : (1 : Int32) = (1 : Int32))).2 (pc' := 262) rfl ?_
          refine y_iconst X293.here hx (hb hby at_262) (v := (1 : Int32)) rfl (pc' := 263) rfl ?_
          refine y_goto X293.here hx (hb hby at_263) (pc' := 267) (by decide) rfl ?_
          refine y_istore X293.here hx (hb hby at_267) (l' := #[iv pi0, iv pi1, iv pi2, iv pi3, iv pi4, iv pi5, iv x1, rv b3, iv (0 : Int32), iv (1 : Int32), iv (1 : Int32), iv x225, iv (0 : Int32), iv x249, iv x251, iv (1 : Int32), iv (1 : Int32), iv x273, iv (1 : Int32)]) rfl (pc' := 269) rfl ?_
          refine y_iload X293.here hx (hb hby at_269) rfl (pc' := 271) rfl ?_
          refine y_ifNo X293.here hx (hb hby at_271) ((if0 _ _).trans (feq (by decide : ¬ ((1 : Int32) = (0 : Int32)))).1) (pc' := 274) rfl ?_
          refine y_aload X293.here hx (hb hby at_274) rfl rfl (pc' := 276) rfl ?_
          refine y_iconst X293.here hx (hb hby at_276) (v := (1 : Int32)) rfl (pc' := 277) rfl ?_
          exact kt)
      obtain ⟨cq297, kq297, q297a, q297b, q297c⟩ := isOf hZ e293q f257
      obtain ⟨v297, _, ⟨T297, L297, k297, n297⟩, -, X297, ⟨Lc297, hQ297, l297, y297, z297⟩, st297⟩ := X293.virtualBack hx (y := (⟨"com/example/stonegaze/stonegaze/Groups", "stones", "(I)I"⟩ : MethodName)) (z := (⟨"com/example/stonegaze/stonegaze/Groups", "stones", "(I)I"⟩ : MethodName)) hown (mvT hZ (hw _ (List.mem_of_getElem? (i := 53) rfl))) (mvT hZ (hw _ (List.mem_of_getElem? (i := 54) rfl))) (notFace_of_selects (args := #[]) (mvT hZ (hw _ (List.mem_of_getElem? (i := 56) rfl)))) (mvT hZ (hw _ (List.mem_of_getElem? (i := 56) rfl))) (mvT hZ (hw _ (List.mem_of_getElem? (i := 55) rfl))) (by decide) (backOf (W := 0) (rm7i1 l Z a0 hw [] b3 z14_stones x1 k14_stones (1 : Int32) (1 : Int32) h254 n0 O271 f257 f260 L0_x1 L1_x1 p254_1) hZ (hw _ (List.mem_of_getElem? (i := 57) rfl)) (hw _ (List.mem_of_getElem? (i := 2) rfl)) (by decide) (by decide)) q297a q297c (g := (mkF m 277 #[iv pi0, iv pi1, iv pi2, iv pi3, iv pi4, iv pi5, iv x1, rv b3, iv (0 : Int32), iv (1 : Int32), iv (1 : Int32), iv x225, iv (0 : Int32), iv x249, iv x251, iv (1 : Int32), iv (1 : Int32), iv x273, iv (1 : Int32)] [(.int (1 : Int32)), (.ref b3)])) rfl (by rw [hml]; rfl) (Steps.refl _) (argsL := [(.int (1 : Int32))]) (rest := []) (lenOf pd__I_I rfl) rfl (by show 2 * 0 + _ ≤ _; exact Nat.le_of_eq rfl) (hb hby at_277) (fun _ _ => ⟨rfl, e293q, (by decide : 7 + 0 ≤ _), (by decide : 37 + 0 ≤ _)⟩)
      dsimp only [Pt.U, Pt.locs, Pt.cells, Pt.slots] at X297 l297 y297 z297 st297 hQ297
      subst l297 y297 z297
      obtain ⟨hv297, N297q, e297q⟩ := hQ297
      have N298 := Fr.app N294 N297q
      have hw297 := hv297
      subst hw297
      have pre299 : ∀ t, Steps p.tables e below (T297.setTop (mkF m 280 #[iv pi0, iv pi1, iv pi2, iv pi3, iv pi4, iv pi5, iv x1, rv b3, iv (0 : Int32), iv (1 : Int32), iv (1 : Int32), iv x225, iv (0 : Int32), iv x249, iv x251, iv (1 : Int32), iv (1 : Int32), iv x273, iv (1 : Int32)] [(.int (1 : Int32))])) t → Go t := fun t kt => pre296 t (st297.trans kt)
      have pre300 : ∀ t, Steps p.tables e below (T297.setTop (mkF m 294 #[iv pi0, iv pi1, iv pi2, iv pi3, iv pi4, iv pi5, iv x1, rv b3, iv (0 : Int32), iv (1 : Int32), iv (1 : Int32), iv x225, iv (0 : Int32), iv x249, iv x251, iv (1 : Int32), iv (1 : Int32), iv x273, iv (1 : Int32)] [(.int (1 : Int32))])) t → Go t := fun t kt => pre299 t (by
          refine y_iload X297.here hx (hb hby at_280) rfl (pc' := 282) rfl ?_
          refine y_icmpNo X297.here hx (hb hby at_282) (teq (rfl : (1 : Int32) = (1 : Int32))).2 (pc' := 285) rfl ?_
          refine y_iconst X297.here hx (hb hby at_285) (v := (1 : Int32)) rfl (pc' := 286) rfl ?_
          refine y_goto X297.here hx (hb hby at_286) (pc' := 290) (by decide) rfl ?_
          refine y_istore X297.here hx (hb hby at_290) (l' := #[iv pi0, iv pi1, iv pi2, iv pi3, iv pi4, iv pi5, iv x1, rv b3, iv (0 : Int32), iv (1 : Int32), iv (1 : Int32), iv x225, iv (0 : Int32), iv x249, iv x251, iv (1 : Int32), iv (1 : Int32), iv x273, iv (1 : Int32)]) rfl (pc' := 292) rfl ?_
          refine y_iload X297.here hx (hb hby at_292) rfl (pc' := 294) rfl ?_
          exact kt)
      obtain ⟨fs, hr, hrun, hended, hW, hsame⟩ := X297.leave (v := some (.int (1 : Int32))) (fun h => by rw [Bd.returns] at h; cases h)
      refine ⟨_, _, (hGo _).mp (pre300 _ ?_), hrun, hended, _, _, rfl, ?_, ⟨_, rfl⟩, hW, hsame.mono (by decide) (by decide)⟩
      · exact retN X297 hx (t := .boolean) Bd.returns (by simp) (hb hby at_294) hr
      · show Q0 Z pi0 pi1 pi2 pi3 pi4 pi5 w_WHITE w_BLACK h0 n0 _ T297.heap _
        rw [e297q]
        exact ⟨rfl, N298⟩
    · skip
      obtain ⟨x301, hx301⟩ : ∃ z : Int32, z = ((pi4 &&& (2147483647 : Int32)) % x1) := ⟨_, rfl⟩
      have pre302 : ∀ t, Steps p.tables e below (T228.setTop (mkF m 82 #[iv pi0, iv pi1, iv pi2, iv pi3, iv pi4, iv pi5, iv x1, rv b3, iv (0 : Int32), iv (1 : Int32), iv (1 : Int32), iv x225, iv (1 : Int32), iv x301, .unset, .unset, .unset, .unset, .unset] [])) t → Go t := fun t kt => pre247 t (by
          subst hx301
          refine y_iload X228.here hx (hb hby at_72) rfl (pc' := 74) rfl ?_
          refine X228.ldcInt hx hown (mvT hZ (hw _ (List.mem_of_getElem? (i := 42) rfl))) (g := (mkF m 74 #[iv pi0, iv pi1, iv pi2, iv pi3, iv pi4, iv pi5, iv x1, rv b3, iv (0 : Int32), iv (1 : Int32), iv (1 : Int32), iv x225, iv (1 : Int32), .unset, .unset, .unset, .unset, .unset, .unset] [(.int pi4)])) rfl (hb hby at_74) _ ?_
          show Steps p.tables e below (T228.setTop (mkF m 76 #[iv pi0, iv pi1, iv pi2, iv pi3, iv pi4, iv pi5, iv x1, rv b3, iv (0 : Int32), iv (1 : Int32), iv (1 : Int32), iv x225, iv (1 : Int32), .unset, .unset, .unset, .unset, .unset, .unset] [(.int (2147483647 : Int32)), (.int pi4)])) _
          refine y_iand X228.here hx (hb hby at_76) rfl (pc' := 77) rfl ?_
          refine y_iload X228.here hx (hb hby at_77) rfl (pc' := 79) rfl ?_
          refine iremM (g := (mkF m 79 #[iv pi0, iv pi1, iv pi2, iv pi3, iv pi4, iv pi5, iv x1, rv b3, iv (0 : Int32), iv (1 : Int32), iv (1 : Int32), iv x225, iv (1 : Int32), .unset, .unset, .unset, .unset, .unset, .unset] [(.int x1), (.int (pi4 &&& (2147483647 : Int32)))])) X228 hx rfl (hb hby at_79) rfl NZ_x1 ?_
          show Steps p.tables e below (T228.setTop (mkF m 80 #[iv pi0, iv pi1, iv pi2, iv pi3, iv pi4, iv pi5, iv x1, rv b3, iv (0 : Int32), iv (1 : Int32), iv (1 : Int32), iv x225, iv (1 : Int32), .unset, .unset, .unset, .unset, .unset, .unset] [(.int ((pi4 &&& (2147483647 : Int32)) % x1))])) _
          refine y_istore X228.here hx (hb hby at_80) (l' := #[iv pi0, iv pi1, iv pi2, iv pi3, iv pi4, iv pi5, iv x1, rv b3, iv (0 : Int32), iv (1 : Int32), iv (1 : Int32), iv x225, iv (1 : Int32), iv ((pi4 &&& (2147483647 : Int32)) % x1), .unset, .unset, .unset, .unset, .unset]) rfl (pc' := 82) rfl ?_
          exact kt)
      have CI_x301 : ¬ x301 < 0 ∧ x301 < x1 := by rw [hx301]; exact own_rem pi4 L0_x1
      obtain ⟨x303, hx303⟩ : ∃ z : Int32, z = ((pi5 &&& (2147483647 : Int32)) % x1) := ⟨_, rfl⟩
      have pre304 : ∀ t, Steps p.tables e below (T228.setTop (mkF m 92 #[iv pi0, iv pi1, iv pi2, iv pi3, iv pi4, iv pi5, iv x1, rv b3, iv (0 : Int32), iv (1 : Int32), iv (1 : Int32), iv x225, iv (1 : Int32), iv x301, iv x303, .unset, .unset, .unset, .unset] [])) t → Go t := fun t kt => pre302 t (by
          subst hx303
          refine y_iload X228.here hx (hb hby at_82) rfl (pc' := 84) rfl ?_
          refine X228.ldcInt hx hown (mvT hZ (hw _ (List.mem_of_getElem? (i := 42) rfl))) (g := (mkF m 84 #[iv pi0, iv pi1, iv pi2, iv pi3, iv pi4, iv pi5, iv x1, rv b3, iv (0 : Int32), iv (1 : Int32), iv (1 : Int32), iv x225, iv (1 : Int32), iv x301, .unset, .unset, .unset, .unset, .unset] [(.int pi5)])) rfl (hb hby at_84) _ ?_
          show Steps p.tables e below (T228.setTop (mkF m 86 #[iv pi0, iv pi1, iv pi2, iv pi3, iv pi4, iv pi5, iv x1, rv b3, iv (0 : Int32), iv (1 : Int32), iv (1 : Int32), iv x225, iv (1 : Int32), iv x301, .unset, .unset, .unset, .unset, .unset] [(.int (2147483647 : Int32)), (.int pi5)])) _
          refine y_iand X228.here hx (hb hby at_86) rfl (pc' := 87) rfl ?_
          refine y_iload X228.here hx (hb hby at_87) rfl (pc' := 89) rfl ?_
          refine iremM (g := (mkF m 89 #[iv pi0, iv pi1, iv pi2, iv pi3, iv pi4, iv pi5, iv x1, rv b3, iv (0 : Int32), iv (1 : Int32), iv (1 : Int32), iv x225, iv (1 : Int32), iv x301, .unset, .unset, .unset, .unset, .unset] [(.int x1), (.int (pi5 &&& (2147483647 : Int32)))])) X228 hx rfl (hb hby at_89) rfl NZ_x1 ?_
          show Steps p.tables e below (T228.setTop (mkF m 90 #[iv pi0, iv pi1, iv pi2, iv pi3, iv pi4, iv pi5, iv x1, rv b3, iv (0 : Int32), iv (1 : Int32), iv (1 : Int32), iv x225, iv (1 : Int32), iv x301, .unset, .unset, .unset, .unset, .unset] [(.int ((pi5 &&& (2147483647 : Int32)) % x1))])) _
          refine y_istore X228.here hx (hb hby at_90) (l' := #[iv pi0, iv pi1, iv pi2, iv pi3, iv pi4, iv pi5, iv x1, rv b3, iv (0 : Int32), iv (1 : Int32), iv (1 : Int32), iv x225, iv (1 : Int32), iv x301, iv ((pi5 &&& (2147483647 : Int32)) % x1), .unset, .unset, .unset, .unset]) rfl (pc' := 92) rfl ?_
          exact kt)
      have CI_x303 : ¬ x303 < 0 ∧ x303 < x1 := by rw [hx303]; exact own_rem pi5 L0_x1
      have pre305 : ∀ t, Steps p.tables e below (T228.setTop (mkF m 98 #[iv pi0, iv pi1, iv pi2, iv pi3, iv pi4, iv pi5, iv x1, rv b3, iv (0 : Int32), iv (1 : Int32), iv (1 : Int32), iv x225, iv (1 : Int32), iv x301, iv x303, .unset, .unset, .unset, .unset] [(.int x301), (.int (1 : Int32)), (.ref b3)])) t → Go t := fun t kt => pre304 t (by
          refine y_aload X228.here hx (hb hby at_92) rfl rfl (pc' := 94) rfl ?_
          refine y_iload X228.here hx (hb hby at_94) rfl (pc' := 96) rfl ?_
          refine y_iload X228.here hx (hb hby at_96) rfl (pc' := 98) rfl ?_
          exact kt)
      obtain ⟨cq306, kq306, q306a, q306b, q306c⟩ := isOf hZ eh228 f231
      obtain ⟨v306, _, ⟨T306, L306, k306, n306⟩, -, X306, ⟨Lc306, hQ306, l306, y306, z306⟩, st306⟩ := X228.virtualBack hx (y := (⟨"com/example/stonegaze/stonegaze/Groups", "addStone", "(II)V"⟩ : MethodName)) (z := (⟨"com/example/stonegaze/stonegaze/Groups", "addStone", "(II)V"⟩ : MethodName)) hown (mvT hZ (hw _ (List.mem_of_getElem? (i := 43) rfl))) (mvT hZ (hw _ (List.mem_of_getElem? (i := 44) rfl))) (notFace_of_selects (args := #[]) (mvT hZ (hw _ (List.mem_of_getElem? (i := 46) rfl)))) (mvT hZ (hw _ (List.mem_of_getElem? (i := 46) rfl))) (mvT hZ (hw _ (List.mem_of_getElem? (i := 45) rfl))) (by decide) (backOf (W := 0) (rm5g1 l Z a0 hw [] b3 x301 z14_groupOf z14_stones x1 k14_groupOf ((x225, (.int (1 : Int32))) :: []) k14_stones (0 : Int32) (1 : Int32) h228 n0 O245 f231 f234 f236 G14_groupOf G14_stones (by have := OR_b3; omega) CI_x301 L0_x1 L1_x1 p228_0 p228_1) hZ (hw _ (List.mem_of_getElem? (i := 47) rfl)) (hw _ (List.mem_of_getElem? (i := 2) rfl)) (by decide) (by decide)) q306a q306c (g := (mkF m 98 #[iv pi0, iv pi1, iv pi2, iv pi3, iv pi4, iv pi5, iv x1, rv b3, iv (0 : Int32), iv (1 : Int32), iv (1 : Int32), iv x225, iv (1 : Int32), iv x301, iv x303, .unset, .unset, .unset, .unset] [(.int x301), (.int (1 : Int32)), (.ref b3)])) rfl (by rw [hml]; rfl) (Steps.refl _) (argsL := [(.int (1 : Int32)), (.int x301)]) (rest := []) (lenOf pd__II_V rfl) rfl (by show 2 * 0 + _ ≤ _; exact Nat.le_of_eq rfl) (hb hby at_98) (fun _ _ => ⟨rfl, eh228, (by decide : 7 + 0 ≤ _), (by decide : 37 + 0 ≤ _)⟩)
      dsimp only [Pt.U, Pt.locs, Pt.cells, Pt.slots] at X306 l306 y306 z306 st306 hQ306
      subst l306 y306 z306
      obtain ⟨hv306, N306q, K306q, p306_0, p306_1⟩ := hQ306
      have N307 := Fr.app N229 N306q
      subst hv306
      have pre308 : ∀ t, Steps p.tables e below (T306.setTop (mkF m 101 #[iv pi0, iv pi1, iv pi2, iv pi3, iv pi4, iv pi5, iv x1, rv b3, iv (0 : Int32), iv (1 : Int32), iv (1 : Int32), iv x225, iv (1 : Int32), iv x301, iv x303, .unset, .unset, .unset, .unset] [])) t → Go t := fun t kt => pre305 t (st306.trans kt)
      obtain ⟨h306, eh306⟩ : ∃ z, T306.heap = z := ⟨_, rfl⟩
      rw [eh306] at K306q p306_0 p306_1
      have f309 : Exa Z h306 b3 "com/example/stonegaze/stonegaze/Groups" := (f231.keep K306q)
      have f310 : Fld Z h306 b3 "com/example/stonegaze/stonegaze/Groups" "groupOf" "[I" (.ref z14_groupOf) := (f234.keep K306q (ninS ne25 (ninS ne27 nin0)))
      have f311 : Fld Z h306 b3 "com/example/stonegaze/stonegaze/Groups" "colours" "[Lcom/example/stonegaze/stonegaze/Side;" (.ref z14_colours) := (f235.keep K306q (ninS ne25 (ninS ne27 nin0)))
      have f312 : Fld Z h306 b3 "com/example/stonegaze/stonegaze/Groups" "stones" "[I" (.ref z14_stones) := (f236.keep K306q (ninS ne25 (ninS ne27 nin0)))
      have f313 : Fld Z h306 b3 "com/example/stonegaze/stonegaze/Groups" "liberties" "[I" (.ref z14_liberties) := (f237.keep K306q (ninS ne25 (ninS ne27 nin0)))
      have f314 : Fld Z h306 b3 "com/example/stonegaze/stonegaze/Groups" "ringed" "[Z" (.ref z14_ringed) := (f238.keep K306q (ninS ne25 (ninS ne27 nin0)))
      have f315 : Fld Z h306 b3 "com/example/stonegaze/stonegaze/Groups" "aLiberty" "[I" (.ref z14_aLiberty) := (f239.keep K306q (ninS ne25 (ninS ne27 nin0)))
      have f316 : Fld Z h306 b3 "com/example/stonegaze/stonegaze/Groups" "count" "I" (.int (2 : Int32)) := (f240.keep K306q (ninS ne25 (ninS ne27 nin0)))
      have f317 : Arv Z h306 z14_colours k14_colours (.object "com/example/stonegaze/stonegaze/Side") x1 [(.ref w_WHITE), (.ref w_BLACK)] .null := (f241.keep K306q (ninS (Ne.symm ne31) (ninS ne36 nin0)))
      have f318 : Arv Z h306 z14_liberties k14_liberties .int x1 [(.int (0 : Int32)), (.int (1 : Int32))] (.int (0 : Int32)) := (f242.keep K306q (ninS (Ne.symm ne33) (ninS (Ne.symm ne40) nin0)))
      have f319 : Arv Z h306 z14_aLiberty k14_aLiberty .int x1 [(.int (-1 : Int32)), (.int (0 : Int32))] (.int (0 : Int32)) := (f243.keep K306q (ninS (Ne.symm ne35) (ninS (Ne.symm ne42) nin0)))
      have f320 : Arv Z h306 z14_ringed k14_ringed .boolean x1 [(.int x67), (.int x90)] (.int (0 : Int32)) := (f244.keep K306q (ninS (Ne.symm ne34) (ninS (Ne.symm ne41) nin0)))
      replace p306_1 : Arv Z h306 z14_stones k14_stones .int x1 [(.int (0 : Int32)), (.int (2 : Int32))] (.int (0 : Int32)) := p306_1
      have O323 := O245.keep K306q (allS G14_groupOf (allS G14_stones all0))
      have pre324 : ∀ t, Steps p.tables e below (T306.setTop (mkF m 153 #[iv pi0, iv pi1, iv pi2, iv pi3, iv pi4, iv pi5, iv x1, rv b3, iv (0 : Int32), iv (1 : Int32), iv (1 : Int32), iv x225, iv (1 : Int32), iv x301, iv x303, iv (0 : Int32), iv (2 : Int32), .unset, .unset] [(.int x301), (.int x303)])) t → Go t := fun t kt => pre308 t (by
          refine y_iload X306.here hx (hb hby at_101) rfl (pc' := 103) rfl ?_
          refine y_ifYes X306.here hx (hb hby at_103) ((if0 _ _).trans (feq (by decide : ¬ ((1 : Int32) = (0 : Int32)))).2) (pc' := 110) (by decide) rfl ?_
          refine y_iconst X306.here hx (hb hby at_110) (v := (0 : Int32)) rfl (pc' := 111) rfl ?_
          refine y_iload X306.here hx (hb hby at_111) rfl (pc' := 113) rfl ?_
          refine y_ifYes X306.here hx (hb hby at_113) ((if0 _ _).trans (feq (by decide : ¬ ((1 : Int32) = (0 : Int32)))).2) (pc' := 120) (by decide) rfl ?_
          refine y_iconst X306.here hx (hb hby at_120) (v := (0 : Int32)) rfl (pc' := 121) rfl ?_
          refine y_iadd X306.here hx (hb hby at_121) (z := (0 : Int32)) rfl (pc' := 122) rfl ?_
          refine y_istore X306.here hx (hb hby at_122) (l' := #[iv pi0, iv pi1, iv pi2, iv pi3, iv pi4, iv pi5, iv x1, rv b3, iv (0 : Int32), iv (1 : Int32), iv (1 : Int32), iv x225, iv (1 : Int32), iv x301, iv x303, iv (0 : Int32), .unset, .unset, .unset]) rfl (pc' := 124) rfl ?_
          refine y_iload X306.here hx (hb hby at_124) rfl (pc' := 126) rfl ?_
          refine y_iconst X306.here hx (hb hby at_126) (v := (1 : Int32)) rfl (pc' := 127) rfl ?_
          refine y_icmpNo X306.here hx (hb hby at_127) (teq (rfl : (1 : Int32) = (1 : Int32))).2 (pc' := 130) rfl ?_
          refine y_iconst X306.here hx (hb hby at_130) (v := (1 : Int32)) rfl (pc' := 131) rfl ?_
          refine y_goto X306.here hx (hb hby at_131) (pc' := 135) (by decide) rfl ?_
          refine y_iload X306.here hx (hb hby at_135) rfl (pc' := 137) rfl ?_
          refine y_iconst X306.here hx (hb hby at_137) (v := (1 : Int32)) rfl (pc' := 138) rfl ?_
          refine y_icmpNo X306.here hx (hb hby at_138) (teq (rfl : (1 : Int32) = (1 : Int32))).2 (pc' := 141) rfl ?_
          refine y_iconst X306.here hx (hb hby at_141) (v := (1 : Int32)) rfl (pc' := 142) rfl ?_
          refine y_goto X306.here hx (hb hby at_142) (pc' := 146) (by decide) rfl ?_
          refine y_iadd X306.here hx (hb hby at_146) (z := (2 : Int32)) rfl (pc' := 147) rfl ?_
          refine y_istore X306.here hx (hb hby at_147) (l' := #[iv pi0, iv pi1, iv pi2, iv pi3, iv pi4, iv pi5, iv x1, rv b3, iv (0 : Int32), iv (1 : Int32), iv (1 : Int32), iv x225, iv (1 : Int32), iv x301, iv x303, iv (0 : Int32), iv (2 : Int32), .unset, .unset]) rfl (pc' := 149) rfl ?_
          refine y_iload X306.here hx (hb hby at_149) rfl (pc' := 151) rfl ?_
          refine y_iload X306.here hx (hb hby at_151) rfl (pc' := 153) rfl ?_
          exact kt)
      obtain ⟨x325, hx325⟩ : ∃ z : Int32, z = (if x303 = x301 then (1 : Int32) else (if x303 = x225 then (1 : Int32) else (-1 : Int32))) := ⟨_, rfl⟩
      obtain ⟨T326, ⟨X326, q326⟩, st326⟩ : ∃ T', Nx X306 T' ∧ ∀ t, Steps p.tables e below (T'.setTop (mkF m 180 #[iv pi0, iv pi1, iv pi2, iv pi3, iv pi4, iv pi5, iv x1, rv b3, iv (0 : Int32), iv (1 : Int32), iv (1 : Int32), iv x225, iv (1 : Int32), iv x301, iv x303, iv (0 : Int32), iv (2 : Int32), iv x325, .unset] [])) t → Steps p.tables e below (T306.setTop (mkF m 153 #[iv pi0, iv pi1, iv pi2, iv pi3, iv pi4, iv pi5, iv x1, rv b3, iv (0 : Int32), iv (1 : Int32), iv (1 : Int32), iv x225, iv (1 : Int32), iv x301, iv x303, iv (0 : Int32), iv (2 : Int32), .unset, .unset] [(.int x301), (.int x303)])) t := by
        have pre326_ : ∀ t, Steps p.tables e below (T306.setTop (mkF m 153 #[iv pi0, iv pi1, iv pi2, iv pi3, iv pi4, iv pi5, iv x1, rv b3, iv (0 : Int32), iv (1 : Int32), iv (1 : Int32), iv x225, iv (1 : Int32), iv x301, iv x303, iv (0 : Int32), iv (2 : Int32), .unset, .unset] [(.int x301), (.int x303)])) t → Steps p.tables e below (T306.setTop (mkF m 153 #[iv pi0, iv pi1, iv pi2, iv pi3, iv pi4, iv pi5, iv x1, rv b3, iv (0 : Int32), iv (1 : Int32), iv (1 : Int32), iv x225, iv (1 : Int32), iv x301, iv x303, iv (0 : Int32), iv (2 : Int32), .unset, .unset] [(.int x301), (.int x303)])) t := fun t kt => kt
        subst hx325
        by_cases hm153_327 : x303 = x301
        · have pre328 : ∀ t, Steps p.tables e below (T306.setTop (mkF m 180 #[iv pi0, iv pi1, iv pi2, iv pi3, iv pi4, iv pi5, iv x1, rv b3, iv (0 : Int32), iv (1 : Int32), iv (1 : Int32), iv x225, iv (1 : Int32), iv x301, iv x303, iv (0 : Int32), iv (2 : Int32), iv (1 : Int32), .unset] [])) t → Steps p.tables e below (T306.setTop (mkF m 153 #[iv pi0, iv pi1, iv pi2, iv pi3, iv pi4, iv pi5, iv x1, rv b3, iv (0 : Int32), iv (1 : Int32), iv (1 : Int32), iv x225, iv (1 : Int32), iv x301, iv x303, iv (0 : Int32), iv (2 : Int32), .unset, .unset] [(.int x301), (.int x303)])) t := fun t kt => pre326_ t (by
              refine y_icmpNo X306.here hx (hb hby at_153) (teq hm153_327).2 (pc' := 156) rfl ?_
              refine y_iload X306.here hx (hb hby at_156) rfl (pc' := 158) rfl ?_
              refine y_istore X306.here hx (hb hby at_158) (l' := #[iv pi0, iv pi1, iv pi2, iv pi3, iv pi4, iv pi5, iv x1, rv b3, iv (0 : Int32), iv (1 : Int32), iv (1 : Int32), iv x225, iv (1 : Int32), iv x301, iv x303, iv (0 : Int32), iv (2 : Int32), iv (1 : Int32), .unset]) rfl (pc' := 160) rfl ?_
              refine y_goto X306.here hx (hb hby at_160) (pc' := 180) (by decide) rfl ?_
              exact kt)
          refine ⟨T306, ⟨X306, eh306.trans eh306.symm⟩, fun t kt => pre328 t ?_⟩
          (try simp only [if_pos hm153_327] at kt)
          exact kt
        · have pre329 : ∀ t, Steps p.tables e below (T306.setTop (mkF m 167 #[iv pi0, iv pi1, iv pi2, iv pi3, iv pi4, iv pi5, iv x1, rv b3, iv (0 : Int32), iv (1 : Int32), iv (1 : Int32), iv x225, iv (1 : Int32), iv x301, iv x303, iv (0 : Int32), iv (2 : Int32), .unset, .unset] [(.int x225), (.int x303)])) t → Steps p.tables e below (T306.setTop (mkF m 153 #[iv pi0, iv pi1, iv pi2, iv pi3, iv pi4, iv pi5, iv x1, rv b3, iv (0 : Int32), iv (1 : Int32), iv (1 : Int32), iv x225, iv (1 : Int32), iv x301, iv x303, iv (0 : Int32), iv (2 : Int32), .unset, .unset] [(.int x301), (.int x303)])) t := fun t kt => pre326_ t (by
              refine y_icmpYes X306.here hx (hb hby at_153) (feq hm153_327).2 (pc' := 163) (by decide) rfl ?_
              refine y_iload X306.here hx (hb hby at_163) rfl (pc' := 165) rfl ?_
              refine y_iload X306.here hx (hb hby at_165) rfl (pc' := 167) rfl ?_
              exact kt)
          by_cases hm167_330 : x303 = x225
          · have pre331 : ∀ t, Steps p.tables e below (T306.setTop (mkF m 180 #[iv pi0, iv pi1, iv pi2, iv pi3, iv pi4, iv pi5, iv x1, rv b3, iv (0 : Int32), iv (1 : Int32), iv (1 : Int32), iv x225, iv (1 : Int32), iv x301, iv x303, iv (0 : Int32), iv (2 : Int32), iv (1 : Int32), .unset] [])) t → Steps p.tables e below (T306.setTop (mkF m 153 #[iv pi0, iv pi1, iv pi2, iv pi3, iv pi4, iv pi5, iv x1, rv b3, iv (0 : Int32), iv (1 : Int32), iv (1 : Int32), iv x225, iv (1 : Int32), iv x301, iv x303, iv (0 : Int32), iv (2 : Int32), .unset, .unset] [(.int x301), (.int x303)])) t := fun t kt => pre329 t (by
                refine y_icmpNo X306.here hx (hb hby at_167) (teq hm167_330).2 (pc' := 170) rfl ?_
                refine y_iload X306.here hx (hb hby at_170) rfl (pc' := 172) rfl ?_
                refine y_istore X306.here hx (hb hby at_172) (l' := #[iv pi0, iv pi1, iv pi2, iv pi3, iv pi4, iv pi5, iv x1, rv b3, iv (0 : Int32), iv (1 : Int32), iv (1 : Int32), iv x225, iv (1 : Int32), iv x301, iv x303, iv (0 : Int32), iv (2 : Int32), iv (1 : Int32), .unset]) rfl (pc' := 174) rfl ?_
                refine y_goto X306.here hx (hb hby at_174) (pc' := 180) (by decide) rfl ?_
                exact kt)
            refine ⟨T306, ⟨X306, eh306.trans eh306.symm⟩, fun t kt => pre331 t ?_⟩
            (try simp only [if_neg hm153_327, if_pos hm167_330] at kt)
            exact kt
          · have pre332 : ∀ t, Steps p.tables e below (T306.setTop (mkF m 180 #[iv pi0, iv pi1, iv pi2, iv pi3, iv pi4, iv pi5, iv x1, rv b3, iv (0 : Int32), iv (1 : Int32), iv (1 : Int32), iv x225, iv (1 : Int32), iv x301, iv x303, iv (0 : Int32), iv (2 : Int32), iv (-1 : Int32), .unset] [])) t → Steps p.tables e below (T306.setTop (mkF m 153 #[iv pi0, iv pi1, iv pi2, iv pi3, iv pi4, iv pi5, iv x1, rv b3, iv (0 : Int32), iv (1 : Int32), iv (1 : Int32), iv x225, iv (1 : Int32), iv x301, iv x303, iv (0 : Int32), iv (2 : Int32), .unset, .unset] [(.int x301), (.int x303)])) t := fun t kt => pre329 t (by
                refine y_icmpYes X306.here hx (hb hby at_167) (feq hm167_330).2 (pc' := 177) (by decide) rfl ?_
                refine y_iconst X306.here hx (hb hby at_177) (v := (-1 : Int32)) rfl (pc' := 178) rfl ?_
                refine y_istore X306.here hx (hb hby at_178) (l' := #[iv pi0, iv pi1, iv pi2, iv pi3, iv pi4, iv pi5, iv x1, rv b3, iv (0 : Int32), iv (1 : Int32), iv (1 : Int32), iv x225, iv (1 : Int32), iv x301, iv x303, iv (0 : Int32), iv (2 : Int32), iv (-1 : Int32), .unset]) rfl (pc' := 180) rfl ?_
                exact kt)
            refine ⟨T306, ⟨X306, eh306.trans eh306.symm⟩, fun t kt => pre332 t ?_⟩
            (try simp only [if_neg hm153_327, if_neg hm167_330] at kt)
            exact kt
      have e326 : T326.heap = h306 := q326.trans eh306
      have pre333 : ∀ t, Steps p.tables e below (T326.setTop (mkF m 180 #[iv pi0, iv pi1, iv pi2, iv pi3, iv pi4, iv pi5, iv x1, rv b3, iv (0 : Int32), iv (1 : Int32), iv (1 : Int32), iv x225, iv (1 : Int32), iv x301, iv x303, iv (0 : Int32), iv (2 : Int32), iv x325, .unset] [])) t → Go t := fun t kt => pre324 t (st326 t kt)
      have pre334 : ∀ t, Steps p.tables e below (T326.setTop (mkF m 207 #[iv pi0, iv pi1, iv pi2, iv pi3, iv pi4, iv pi5, iv x1, rv b3, iv (0 : Int32), iv (1 : Int32), iv (1 : Int32), iv x225, iv (1 : Int32), iv x301, iv x303, iv (0 : Int32), iv (2 : Int32), iv x325, iv (1 : Int32)] [(.int x301), (.ref b3)])) t → Go t := fun t kt => pre333 t (by
          refine y_iload X326.here hx (hb hby at_180) rfl (pc' := 182) rfl ?_
          refine y_ifNo X326.here hx (hb hby at_182) ((if0 _ _).trans (teq (rfl : (0 : Int32) = (0 : Int32))).2) (pc' := 185) rfl ?_
          refine y_iload X326.here hx (hb hby at_185) rfl (pc' := 187) rfl ?_
          refine y_iconst X326.here hx (hb hby at_187) (v := (1 : Int32)) rfl (pc' := 188) rfl ?_
          refine y_icmpNo X326.here hx (hb hby at_188) (teq (rfl : (1 : Int32) = (1 : Int32))).2 (pc' := 191) rfl ?_
          refine y_iconst X326.here hx (hb hby at_191) (v := (1 : Int32)) rfl (pc' := 192) rfl ?_
          refine y_goto X326.here hx (hb hby at_192) (pc' := 196) (by decide) rfl ?_
          refine y_istore X326.here hx (hb hby at_196) (l' := #[iv pi0, iv pi1, iv pi2, iv pi3, iv pi4, iv pi5, iv x1, rv b3, iv (0 : Int32), iv (1 : Int32), iv (1 : Int32), iv x225, iv (1 : Int32), iv x301, iv x303, iv (0 : Int32), iv (2 : Int32), iv x325, iv (1 : Int32)]) rfl (pc' := 198) rfl ?_
          refine y_iload X326.here hx (hb hby at_198) rfl (pc' := 200) rfl ?_
          refine y_ifNo X326.here hx (hb hby at_200) ((if0 _ _).trans (feq (by decide : ¬ ((1 : Int32) = (0 : Int32)))).1) (pc' := 203) rfl ?_
          refine y_aload X326.here hx (hb hby at_203) rfl rfl (pc' := 205) rfl ?_
          refine y_iload X326.here hx (hb hby at_205) rfl (pc' := 207) rfl ?_
          exact kt)
      obtain ⟨cq336, kq336, q336a, q336b, q336c⟩ := isOf hZ e326 f309
      obtain ⟨v336, _, ⟨T336, L336, k336, n336⟩, -, X336, ⟨Lc336, hQ336, l336, y336, z336⟩, st336⟩ := X326.virtualBack hx (y := (⟨"com/example/stonegaze/stonegaze/Groups", "groupAt", "(I)I"⟩ : MethodName)) (z := (⟨"com/example/stonegaze/stonegaze/Groups", "groupAt", "(I)I"⟩ : MethodName)) hown (mvT hZ (hw _ (List.mem_of_getElem? (i := 48) rfl))) (mvT hZ (hw _ (List.mem_of_getElem? (i := 49) rfl))) (notFace_of_selects (args := #[]) (mvT hZ (hw _ (List.mem_of_getElem? (i := 51) rfl)))) (mvT hZ (hw _ (List.mem_of_getElem? (i := 51) rfl))) (mvT hZ (hw _ (List.mem_of_getElem? (i := 50) rfl))) (by decide) (backOf (W := 0) (rm6 l Z a0 hw [] b3 x301 z14_groupOf x1 (1 : Int32) k14_groupOf ((x301, (.int (1 : Int32))) :: ((x225, (.int (1 : Int32))) :: [])) h306 n0 O323 f309 f310 CI_x301 (getH_hit CI_x301.1 rfl) p306_0) hZ (hw _ (List.mem_of_getElem? (i := 52) rfl)) (hw _ (List.mem_of_getElem? (i := 2) rfl)) (by decide) (by decide)) q336a q336c (g := (mkF m 207 #[iv pi0, iv pi1, iv pi2, iv pi3, iv pi4, iv pi5, iv x1, rv b3, iv (0 : Int32), iv (1 : Int32), iv (1 : Int32), iv x225, iv (1 : Int32), iv x301, iv x303, iv (0 : Int32), iv (2 : Int32), iv x325, iv (1 : Int32)] [(.int x301), (.ref b3)])) rfl (by rw [hml]; rfl) (Steps.refl _) (argsL := [(.int x301)]) (rest := []) (lenOf pd__I_I rfl) rfl (by show 2 * 0 + _ ≤ _; exact Nat.le_of_eq rfl) (hb hby at_207) (fun _ _ => ⟨rfl, e326, (by decide : 7 + 0 ≤ _), (by decide : 37 + 0 ≤ _)⟩)
      dsimp only [Pt.U, Pt.locs, Pt.cells, Pt.slots] at X336 l336 y336 z336 st336 hQ336
      subst l336 y336 z336
      obtain ⟨hv336, N336q, e336q⟩ := hQ336
      have N337 := Fr.app N307 N336q
      have hw336 := hv336
      subst hw336
      have pre338 : ∀ t, Steps p.tables e below (T336.setTop (mkF m 210 #[iv pi0, iv pi1, iv pi2, iv pi3, iv pi4, iv pi5, iv x1, rv b3, iv (0 : Int32), iv (1 : Int32), iv (1 : Int32), iv x225, iv (1 : Int32), iv x301, iv x303, iv (0 : Int32), iv (2 : Int32), iv x325, iv (1 : Int32)] [(.int (1 : Int32))])) t → Go t := fun t kt => pre334 t (st336.trans kt)
      have pre339 : ∀ t, Steps p.tables e below (T336.setTop (mkF m 231 #[iv pi0, iv pi1, iv pi2, iv pi3, iv pi4, iv pi5, iv x1, rv b3, iv (0 : Int32), iv (1 : Int32), iv (1 : Int32), iv x225, iv (1 : Int32), iv x301, iv x303, iv (0 : Int32), iv (2 : Int32), iv x325, iv (1 : Int32)] [(.int x303), (.ref b3)])) t → Go t := fun t kt => pre338 t (by
          refine y_iload X336.here hx (hb hby at_210) rfl (pc' := 212) rfl ?_
          refine y_icmpNo X336.here hx (hb hby at_212) (teq (rfl : (1 : Int32) = (1 : Int32))).2 (pc' := 215) rfl ?_
          refine y_iconst X336.here hx (hb hby at_215) (v := (1 : Int32)) rfl (pc' := 216) rfl ?_
          refine y_goto X336.here hx (hb hby at_216) (pc' := 220) (by decide) rfl ?_
          refine y_istore X336.here hx (hb hby at_220) (l' := #[iv pi0, iv pi1, iv pi2, iv pi3, iv pi4, iv pi5, iv x1, rv b3, iv (0 : Int32), iv (1 : Int32), iv (1 : Int32), iv x225, iv (1 : Int32), iv x301, iv x303, iv (0 : Int32), iv (2 : Int32), iv x325, iv (1 : Int32)]) rfl (pc' := 222) rfl ?_
          refine y_iload X336.here hx (hb hby at_222) rfl (pc' := 224) rfl ?_
          refine y_ifNo X336.here hx (hb hby at_224) ((if0 _ _).trans (feq (by decide : ¬ ((1 : Int32) = (0 : Int32)))).1) (pc' := 227) rfl ?_
          refine y_aload X336.here hx (hb hby at_227) rfl rfl (pc' := 229) rfl ?_
          refine y_iload X336.here hx (hb hby at_229) rfl (pc' := 231) rfl ?_
          exact kt)
      have uw340 : getH ((x301, (.int (1 : Int32))) :: ((x225, (.int (1 : Int32))) :: [])) [] (.int (-1 : Int32)) x303.toNatClampNeg = .int x325 := by
          rw [hx325]
          by_cases q1 : x303 = x301
          · rw [if_pos q1]; exact getH_hit CI_x303.1 q1
          · rw [if_neg q1]; refine getH_miss CI_x303.1 q1 ?_
            by_cases q2 : x303 = x225
            · rw [if_pos q2]; exact getH_hit CI_x303.1 q2
            · rw [if_neg q2]; refine getH_miss CI_x303.1 q2 ?_
              rfl
      obtain ⟨cq341, kq341, q341a, q341b, q341c⟩ := isOf hZ e336q f309
      obtain ⟨v341, _, ⟨T341, L341, k341, n341⟩, -, X341, ⟨Lc341, hQ341, l341, y341, z341⟩, st341⟩ := X336.virtualBack hx (y := (⟨"com/example/stonegaze/stonegaze/Groups", "groupAt", "(I)I"⟩ : MethodName)) (z := (⟨"com/example/stonegaze/stonegaze/Groups", "groupAt", "(I)I"⟩ : MethodName)) hown (mvT hZ (hw _ (List.mem_of_getElem? (i := 48) rfl))) (mvT hZ (hw _ (List.mem_of_getElem? (i := 49) rfl))) (notFace_of_selects (args := #[]) (mvT hZ (hw _ (List.mem_of_getElem? (i := 51) rfl)))) (mvT hZ (hw _ (List.mem_of_getElem? (i := 51) rfl))) (mvT hZ (hw _ (List.mem_of_getElem? (i := 50) rfl))) (by decide) (backOf (W := 0) (rm6 l Z a0 hw [] b3 x303 z14_groupOf x1 x325 k14_groupOf ((x301, (.int (1 : Int32))) :: ((x225, (.int (1 : Int32))) :: [])) h306 n0 O323 f309 f310 CI_x303 uw340 p306_0) hZ (hw _ (List.mem_of_getElem? (i := 52) rfl)) (hw _ (List.mem_of_getElem? (i := 2) rfl)) (by decide) (by decide)) q341a q341c (g := (mkF m 231 #[iv pi0, iv pi1, iv pi2, iv pi3, iv pi4, iv pi5, iv x1, rv b3, iv (0 : Int32), iv (1 : Int32), iv (1 : Int32), iv x225, iv (1 : Int32), iv x301, iv x303, iv (0 : Int32), iv (2 : Int32), iv x325, iv (1 : Int32)] [(.int x303), (.ref b3)])) rfl (by rw [hml]; rfl) (Steps.refl _) (argsL := [(.int x303)]) (rest := []) (lenOf pd__I_I rfl) rfl (by show 2 * 0 + _ ≤ _; exact Nat.le_of_eq rfl) (hb hby at_231) (fun _ _ => ⟨rfl, e336q, (by decide : 7 + 0 ≤ _), (by decide : 37 + 0 ≤ _)⟩)
      dsimp only [Pt.U, Pt.locs, Pt.cells, Pt.slots] at X341 l341 y341 z341 st341 hQ341
      subst l341 y341 z341
      obtain ⟨hv341, N341q, e341q⟩ := hQ341
      have N342 := Fr.app N337 N341q
      have hw341 := hv341
      subst hw341
      have pre343 : ∀ t, Steps p.tables e below (T341.setTop (mkF m 234 #[iv pi0, iv pi1, iv pi2, iv pi3, iv pi4, iv pi5, iv x1, rv b3, iv (0 : Int32), iv (1 : Int32), iv (1 : Int32), iv x225, iv (1 : Int32), iv x301, iv x303, iv (0 : Int32), iv (2 : Int32), iv x325, iv (1 : Int32)] [(.int x325)])) t → Go t := fun t kt => pre339 t (st341.trans kt)
      have pre344 : ∀ t, Steps p.tables e below (T341.setTop (mkF m 254 #[iv pi0, iv pi1, iv pi2, iv pi3, iv pi4, iv pi5, iv x1, rv b3, iv (0 : Int32), iv (1 : Int32), iv (1 : Int32), iv x225, iv (1 : Int32), iv x301, iv x303, iv (0 : Int32), iv (2 : Int32), iv x325, iv (1 : Int32)] [(.int (0 : Int32)), (.ref b3)])) t → Go t := fun t kt => pre343 t (by
          refine y_iload X341.here hx (hb hby at_234) rfl (pc' := 236) rfl ?_
          refine y_icmpNo X341.here hx (hb hby at_236) (teq (rfl : x325 = x325)).2 (pc' := 239) rfl ?_
          refine y_iconst X341.here hx (hb hby at_239) (v := (1 : Int32)) rfl (pc' := 240) rfl ?_
          refine y_goto X341.here hx (hb hby at_240) (pc' := 244) (by decide) rfl ?_
          refine y_istore X341.here hx (hb hby at_244) (l' := #[iv pi0, iv pi1, iv pi2, iv pi3, iv pi4, iv pi5, iv x1, rv b3, iv (0 : Int32), iv (1 : Int32), iv (1 : Int32), iv x225, iv (1 : Int32), iv x301, iv x303, iv (0 : Int32), iv (2 : Int32), iv x325, iv (1 : Int32)]) rfl (pc' := 246) rfl ?_
          refine y_iload X341.here hx (hb hby at_246) rfl (pc' := 248) rfl ?_
          refine y_ifNo X341.here hx (hb hby at_248) ((if0 _ _).trans (feq (by decide : ¬ ((1 : Int32) = (0 : Int32)))).1) (pc' := 251) rfl ?_
          refine y_aload X341.here hx (hb hby at_251) rfl rfl (pc' := 253) rfl ?_
          refine y_iconst X341.here hx (hb hby at_253) (v := (0 : Int32)) rfl (pc' := 254) rfl ?_
          exact kt)
      obtain ⟨cq345, kq345, q345a, q345b, q345c⟩ := isOf hZ e341q f309
      obtain ⟨v345, _, ⟨T345, L345, k345, n345⟩, -, X345, ⟨Lc345, hQ345, l345, y345, z345⟩, st345⟩ := X341.virtualBack hx (y := (⟨"com/example/stonegaze/stonegaze/Groups", "stones", "(I)I"⟩ : MethodName)) (z := (⟨"com/example/stonegaze/stonegaze/Groups", "stones", "(I)I"⟩ : MethodName)) hown (mvT hZ (hw _ (List.mem_of_getElem? (i := 53) rfl))) (mvT hZ (hw _ (List.mem_of_getElem? (i := 54) rfl))) (notFace_of_selects (args := #[]) (mvT hZ (hw _ (List.mem_of_getElem? (i := 56) rfl)))) (mvT hZ (hw _ (List.mem_of_getElem? (i := 56) rfl))) (mvT hZ (hw _ (List.mem_of_getElem? (i := 55) rfl))) (by decide) (backOf (W := 0) (rm7i0 l Z a0 hw [] b3 z14_stones x1 k14_stones (0 : Int32) (2 : Int32) h306 n0 O323 f309 f312 L0_x1 L1_x1 p306_1) hZ (hw _ (List.mem_of_getElem? (i := 57) rfl)) (hw _ (List.mem_of_getElem? (i := 2) rfl)) (by decide) (by decide)) q345a q345c (g := (mkF m 254 #[iv pi0, iv pi1, iv pi2, iv pi3, iv pi4, iv pi5, iv x1, rv b3, iv (0 : Int32), iv (1 : Int32), iv (1 : Int32), iv x225, iv (1 : Int32), iv x301, iv x303, iv (0 : Int32), iv (2 : Int32), iv x325, iv (1 : Int32)] [(.int (0 : Int32)), (.ref b3)])) rfl (by rw [hml]; rfl) (Steps.refl _) (argsL := [(.int (0 : Int32))]) (rest := []) (lenOf pd__I_I rfl) rfl (by show 2 * 0 + _ ≤ _; exact Nat.le_of_eq rfl) (hb hby at_254) (fun _ _ => ⟨rfl, e341q, (by decide : 7 + 0 ≤ _), (by decide : 37 + 0 ≤ _)⟩)
      dsimp only [Pt.U, Pt.locs, Pt.cells, Pt.slots] at X345 l345 y345 z345 st345 hQ345
      subst l345 y345 z345
      obtain ⟨hv345, N345q, e345q⟩ := hQ345
      have N346 := Fr.app N342 N345q
      have hw345 := hv345
      subst hw345
      have pre347 : ∀ t, Steps p.tables e below (T345.setTop (mkF m 257 #[iv pi0, iv pi1, iv pi2, iv pi3, iv pi4, iv pi5, iv x1, rv b3, iv (0 : Int32), iv (1 : Int32), iv (1 : Int32), iv x225, iv (1 : Int32), iv x301, iv x303, iv (0 : Int32), iv (2 : Int32), iv x325, iv (1 : Int32)] [(.int (0 : Int32))])) t → Go t := fun t kt => pre344 t (st345.trans kt)
      have pre348 : ∀ t, Steps p.tables e below (T345.setTop (mkF m 277 #[iv pi0, iv pi1, iv pi2, iv pi3, iv pi4, iv pi5, iv x1, rv b3, iv (0 : Int32), iv (1 : Int32), iv (1 : Int32), iv x225, iv (1 : Int32), iv x301, iv x303, iv (0 : Int32), iv (2 : Int32), iv x325, iv (1 : Int32)] [(.int (1 : Int32)), (.ref b3)])) t → Go t := fun t kt => pre347 t (by
          refine y_iload X345.here hx (hb hby at_257) rfl (pc' := 259) rfl ?_
          refine y_icmpNo X345.here hx (hb hby at_259) (teq (rfl : (0 : Int32) = (0 : Int32))).2 (pc' := 262) rfl ?_
          refine y_iconst X345.here hx (hb hby at_262) (v := (1 : Int32)) rfl (pc' := 263) rfl ?_
          refine y_goto X345.here hx (hb hby at_263) (pc' := 267) (by decide) rfl ?_
          refine y_istore X345.here hx (hb hby at_267) (l' := #[iv pi0, iv pi1, iv pi2, iv pi3, iv pi4, iv pi5, iv x1, rv b3, iv (0 : Int32), iv (1 : Int32), iv (1 : Int32), iv x225, iv (1 : Int32), iv x301, iv x303, iv (0 : Int32), iv (2 : Int32), iv x325, iv (1 : Int32)]) rfl (pc' := 269) rfl ?_
          refine y_iload X345.here hx (hb hby at_269) rfl (pc' := 271) rfl ?_
          refine y_ifNo X345.here hx (hb hby at_271) ((if0 _ _).trans (feq (by decide : ¬ ((1 : Int32) = (0 : Int32)))).1) (pc' := 274) rfl ?_
          refine y_aload X345.here hx (hb hby at_274) rfl rfl (pc' := 276) rfl ?_
          refine y_iconst X345.here hx (hb hby at_276) (v := (1 : Int32)) rfl (pc' := 277) rfl ?_
          exact kt)
      obtain ⟨cq349, kq349, q349a, q349b, q349c⟩ := isOf hZ e345q f309
      obtain ⟨v349, _, ⟨T349, L349, k349, n349⟩, -, X349, ⟨Lc349, hQ349, l349, y349, z349⟩, st349⟩ := X345.virtualBack hx (y := (⟨"com/example/stonegaze/stonegaze/Groups", "stones", "(I)I"⟩ : MethodName)) (z := (⟨"com/example/stonegaze/stonegaze/Groups", "stones", "(I)I"⟩ : MethodName)) hown (mvT hZ (hw _ (List.mem_of_getElem? (i := 53) rfl))) (mvT hZ (hw _ (List.mem_of_getElem? (i := 54) rfl))) (notFace_of_selects (args := #[]) (mvT hZ (hw _ (List.mem_of_getElem? (i := 56) rfl)))) (mvT hZ (hw _ (List.mem_of_getElem? (i := 56) rfl))) (mvT hZ (hw _ (List.mem_of_getElem? (i := 55) rfl))) (by decide) (backOf (W := 0) (rm7i1 l Z a0 hw [] b3 z14_stones x1 k14_stones (0 : Int32) (2 : Int32) h306 n0 O323 f309 f312 L0_x1 L1_x1 p306_1) hZ (hw _ (List.mem_of_getElem? (i := 57) rfl)) (hw _ (List.mem_of_getElem? (i := 2) rfl)) (by decide) (by decide)) q349a q349c (g := (mkF m 277 #[iv pi0, iv pi1, iv pi2, iv pi3, iv pi4, iv pi5, iv x1, rv b3, iv (0 : Int32), iv (1 : Int32), iv (1 : Int32), iv x225, iv (1 : Int32), iv x301, iv x303, iv (0 : Int32), iv (2 : Int32), iv x325, iv (1 : Int32)] [(.int (1 : Int32)), (.ref b3)])) rfl (by rw [hml]; rfl) (Steps.refl _) (argsL := [(.int (1 : Int32))]) (rest := []) (lenOf pd__I_I rfl) rfl (by show 2 * 0 + _ ≤ _; exact Nat.le_of_eq rfl) (hb hby at_277) (fun _ _ => ⟨rfl, e345q, (by decide : 7 + 0 ≤ _), (by decide : 37 + 0 ≤ _)⟩)
      dsimp only [Pt.U, Pt.locs, Pt.cells, Pt.slots] at X349 l349 y349 z349 st349 hQ349
      subst l349 y349 z349
      obtain ⟨hv349, N349q, e349q⟩ := hQ349
      have N350 := Fr.app N346 N349q
      have hw349 := hv349
      subst hw349
      have pre351 : ∀ t, Steps p.tables e below (T349.setTop (mkF m 280 #[iv pi0, iv pi1, iv pi2, iv pi3, iv pi4, iv pi5, iv x1, rv b3, iv (0 : Int32), iv (1 : Int32), iv (1 : Int32), iv x225, iv (1 : Int32), iv x301, iv x303, iv (0 : Int32), iv (2 : Int32), iv x325, iv (1 : Int32)] [(.int (2 : Int32))])) t → Go t := fun t kt => pre348 t (st349.trans kt)
      have pre352 : ∀ t, Steps p.tables e below (T349.setTop (mkF m 294 #[iv pi0, iv pi1, iv pi2, iv pi3, iv pi4, iv pi5, iv x1, rv b3, iv (0 : Int32), iv (1 : Int32), iv (1 : Int32), iv x225, iv (1 : Int32), iv x301, iv x303, iv (0 : Int32), iv (2 : Int32), iv x325, iv (1 : Int32)] [(.int (1 : Int32))])) t → Go t := fun t kt => pre351 t (by
          refine y_iload X349.here hx (hb hby at_280) rfl (pc' := 282) rfl ?_
          refine y_icmpNo X349.here hx (hb hby at_282) (teq (rfl : (2 : Int32) = (2 : Int32))).2 (pc' := 285) rfl ?_
          refine y_iconst X349.here hx (hb hby at_285) (v := (1 : Int32)) rfl (pc' := 286) rfl ?_
          refine y_goto X349.here hx (hb hby at_286) (pc' := 290) (by decide) rfl ?_
          refine y_istore X349.here hx (hb hby at_290) (l' := #[iv pi0, iv pi1, iv pi2, iv pi3, iv pi4, iv pi5, iv x1, rv b3, iv (0 : Int32), iv (1 : Int32), iv (1 : Int32), iv x225, iv (1 : Int32), iv x301, iv x303, iv (0 : Int32), iv (2 : Int32), iv x325, iv (1 : Int32)]) rfl (pc' := 292) rfl ?_
          refine y_iload X349.here hx (hb hby at_292) rfl (pc' := 294) rfl ?_
          exact kt)
      obtain ⟨fs, hr, hrun, hended, hW, hsame⟩ := X349.leave (v := some (.int (1 : Int32))) (fun h => by rw [Bd.returns] at h; cases h)
      refine ⟨_, _, (hGo _).mp (pre352 _ ?_), hrun, hended, _, _, rfl, ?_, ⟨_, rfl⟩, hW, hsame.mono (by decide) (by decide)⟩
      · exact retN X349 hx (t := .boolean) Bd.returns (by simp) (hb hby at_294) hr
      · show Q0 Z pi0 pi1 pi2 pi3 pi4 pi5 w_WHITE w_BLACK h0 n0 _ T349.heap _
        rw [e349q]
        exact ⟨rfl, N350⟩
set_option maxRecDepth 65536 in
set_option maxHeartbeats 40000000 in
theorem comes_1 {Post : Tables → Env → Array Value → State → Outcome → State → Prop} (hpost : ∀ tb e args s v u, (limb_1_1.after args s (.returned v) u = true ∧ limb_1_2.after args s (.returned v) u = true ∧ True) → FrameEnd s (.returned v) u (Jvm.fieldLocs frame_1_writes args s ++ Jvm.arrayLocs frame_1_arrays args s ++ Jvm.staticLocs frame_1_statics s) 24 192 → Post tb e args s (.returned v) u) :
    ArmFor flags0 classFile x code maxLocals ret World_1 tables_1 room_1 Calls_1 rest_1 Pre_1 Post := by
  intro l hfl _ _ p e ha hc hk s m args below hf hA hF happ hP
  obtain ⟨hcalls, hrest, hpre⟩ := hP
  obtain ⟨-, -, -, hnamed, -, -, -, hat⟩ := (Spec.applies_iff hf).mp happ
  obtain ⟨hg, hn⟩ := and_e (Cond.before_iff.mp (show (Jvm.Cond.and given_1 narrow_1).before args s = true from hpre))
  obtain ⟨g0, gr0⟩ := and_e hg
  obtain ⟨g1, gr1⟩ := and_e gr0
  obtain ⟨g2, gr2⟩ := and_e gr1
  obtain ⟨g3, gr3⟩ := and_e gr2
  obtain ⟨g4, gr4⟩ := and_e gr3
  obtain ⟨g5, gr5⟩ := and_e gr4
  obtain ⟨w0, w1, w2, w3, w4, w5, rfl⟩ : ∃ w0 w1 w2 w3 w4 w5 : Value, args = #[w0, w1, w2, w3, w4, w5] := by
    have hs : args.size = 6 := by simpa [Cond.value, given_1] using g0
    obtain ⟨L⟩ := args
    match L, hs with
    | [w0, w1, w2, w3, w4, w5], _ => exact ⟨w0, w1, w2, w3, w4, w5, rfl⟩
  have hw := fun d (hd : d ∈ tables_1) => atoms_spec (ws := Jvm.Cond.code x code maxLocals ret :: tables_1) hat d (List.mem_cons_of_mem _ hd)
  have hfit : Fit s := fun {y c} hc i hi => by
    obtain ⟨ha, rfl⟩ := Array.getElem?_eq_some_iff.mp hc
    have q := List.all_eq_true.mp ((Array.all_eq_true_iff_forall_mem.mp hF) _ (Array.getElem_mem ha)) i (List.mem_range.mpr hi)
    simpa [Array.getElem?_eq_getElem hi] using q
  obtain ⟨i0, ei0⟩ := is_v g1
  obtain rfl : w0 = (.int i0) := Option.some.inj ei0
  obtain ⟨i1, ei1⟩ := is_v g2
  obtain rfl : w1 = (.int i1) := Option.some.inj ei1
  obtain ⟨i2, ei2⟩ := is_v g3
  obtain rfl : w2 = (.int i2) := Option.some.inj ei2
  obtain ⟨i3, ei3⟩ := is_v g4
  obtain rfl : w3 = (.int i3) := Option.some.inj ei3
  obtain ⟨i4, ei4⟩ := is_v g5
  obtain rfl : w4 = (.int i4) := Option.some.inj ei4
  obtain ⟨i5, ei5⟩ := is_v gr5
  obtain rfl : w5 = (.int i5) := Option.some.inj ei5
  obtain ⟨n0, nr0⟩ := and_e hn
  obtain ⟨w_WHITE, ev_WHITE⟩ := exa_v n0
  have S_WHITE := Sta.start ev_WHITE (Or.inr ⟨(hw _ (List.mem_of_getElem? (i := 30) rfl)), (hw _ (List.mem_of_getElem? (i := 31) rfl))⟩)
  have E_w_WHITE := Exa.start ev_WHITE n0
  obtain ⟨w_BLACK, ev_BLACK⟩ := exa_v nr0
  have S_BLACK := Sta.start ev_BLACK (Or.inr ⟨(hw _ (List.mem_of_getElem? (i := 30) rfl)), (hw _ (List.mem_of_getElem? (i := 41) rfl))⟩)
  have E_w_BLACK := Exa.start ev_BLACK nr0
  obtain ⟨n, o, h1, h2, h3, _, L, rfl, ⟨rfl, N⟩, hq⟩ := rm0 l s _ hw tables_1 i0 i1 i2 i3 i4 i5 w_WHITE w_BLACK s.heap s.heap.size (Old.start s) S_WHITE S_BLACK E_w_WHITE E_w_BLACK p e ha hc hk s m _ below hf ((Spec.applies_iff_loose hf).mp happ).1 ⟨rfl, State.Warmed39.refl s, rfl⟩ trivial
  refine ⟨n, _, h1, h2, h3, hpost _ _ _ _ _ _ ⟨Cond.after_iff.mpr rfl, Cond.after_iff.mpr (eq_i res_at (Term.int_eval (1)) rfl), trivial⟩ ⟨hq.1, hq.2.1, (hq.2.2.sift fun y hy => Or.inr (N y hy)).mono (by decide) (by decide)⟩⟩
theorem main_1_1 : Claimed_1_1 := comes_1 fun _ _ _ _ _ _ h hF => ⟨h.1, hF⟩
theorem main_1_2 : Claimed_1_2 := comes_1 fun _ _ _ _ _ _ h hF => ⟨h.2.1, hF⟩
end Jvm.Pilot.@@N@@
namespace Jvm.Pilot.@@N@@
open Jvm Jvm.ClassFile Sem Op Lib Jvm.Free Jvm.Stand Jvm.Pilot.@@N@@.Jvm.D
/-! MADE BY PROGRAM (witnessworld.py) out of the Statement's table words and the real class files: 17 classes; the members and pool entries that the words name. The judged class is class 1, her method 1. -/
namespace start1
open Jvm.ClassFile
def u (s : String) : CpInfo := .utf8 (stringToUtf16 s)
/-- a pool by its gaps: so many unusable entries, then the entry; so many at the end -/
def gap : Nat → List CpInfo → List CpInfo
  | 0, r => r
  | n + 1, r => .unusable :: gap n r
def poolList (es : List (Nat × CpInfo)) (last : Nat) : List CpInfo := es.foldr (fun e r => gap e.1 (e.2 :: r)) (gap last [])
def pool (es : List (Nat × CpInfo)) (last : Nat) : Array CpInfo := ⟨poolList es last⟩
def fileOf (pool : Array CpInfo) (this : Nat) (attrs : Array Attribute := #[]) (ms : Array MethodInfo := #[]) (fl : Nat := 33) (sup : Nat := 0) (ifs : Array Nat := #[]) (fds : Array FieldInfo := #[]) : ClassFile where
  minorVersion := 0
  majorVersion := 65
  constantPool := pool
  accessFlags := fl
  thisClass := this
  superClass := sup
  interfaces := ifs
  fields := fds
  methods := ms
  attributes := attrs
def plain (name : String) (sup : Option ClassId) : Class where
  name := name
  kind := .ordinary
  loader := none
  accessFlags := 33
  super := sup
  interfaces := #[]
  cf := none
  fields := #[]
  methods := #[]
  instanceTypes := #[]
  staticTypes := #[]
  resolved := #[]
  callSites := []
  init := .initialized
  statics := none
  mirror := none

def pool0 : Array CpInfo := pool [(5, u "<init>"), (0, u "()V"), (1, .class_ 10), (1, u "java/lang/Object")] 113

def k0c0 : Code := { maxStack := 0, maxLocals := 1, code := object_method_1_code, exceptionTable := #[], attributes := #[] }
def k0m0 : Method := { name := "<init>", desc := "()V", sig := { parameters := [], returnType := none }, accessFlags := 1, code := some k0c0 }
/-- java/lang/Object -/
def k0 : Class := { plain "java/lang/Object" none with
  accessFlags := 33
  interfaces := #[]
  cf := some (fileOf pool0 8 #[] #[{ accessFlags := 1, nameIndex := 5, descriptorIndex := 6, attributes := #[] }] 33 0 #[] #[])
  fields := #[]
  methods := #[k0m0]
  instanceTypes := #[]
  staticTypes := #[]
  resolved := Array.replicate 124 none
  statics := none }

def pool1 : Array CpInfo := pool [(2, .class_ 4), (1, u "java/lang/Object"), (0, u "<init>"), (0, u "()V"), (0, .class_ 8), (0, u "com/example/stonegaze/stonegaze/Groups"), (0, .methodref 7 10), (0, .nameAndType 5 11), (0, u "(I)V"), (0, .fieldref 13 14), (0, .class_ 15), (0, .nameAndType 16 17), (0, u "com/example/stonegaze/stonegaze/Side"), (0, u "WHITE"), (0, u "Lcom/example/stonegaze/stonegaze/Side;"), (0, .methodref 7 19), (0, .nameAndType 20 21), (0, u "add"), (0, u "(Lcom/example/stonegaze/stonegaze/Side;IIZ)I"), (0, .fieldref 13 23), (0, .nameAndType 24 17), (0, u "BLACK"), (0, .integer 2147483647), (0, .methodref 7 27), (0, .nameAndType 28 29), (0, u "addStone"), (0, u "(II)V"), (0, .methodref 7 31), (0, .nameAndType 32 33), (0, u "groupAt"), (0, u "(I)I"), (0, .methodref 7 35), (0, .nameAndType 36 33), (0, u "stones"), (0, .class_ 38), (0, u "com/example/stonegaze/stonegaze/GroupsAddStonePinLaw"), (2, u "law"), (0, u "(IIIIII)Z")] 3

def k1m0 : Method := { name := "<init>", desc := "()V", sig := { parameters := [], returnType := none }, accessFlags := 2, code := none }
def k1c1 : Code := { maxStack := 5, maxLocals := 19, code := code, exceptionTable := #[], attributes := #[] }
def k1m1 : Method := { name := "law", desc := "(IIIIII)Z", sig := { parameters := [.int, .int, .int, .int, .int, .int], returnType := some .boolean }, accessFlags := 9, code := some k1c1 }
/-- com/example/stonegaze/stonegaze/GroupsAddStonePinLaw -/
def k1 : Class := { plain "com/example/stonegaze/stonegaze/GroupsAddStonePinLaw" (some 0) with
  accessFlags := 49
  interfaces := #[]
  cf := some (fileOf pool1 37 #[] #[{ accessFlags := 2, nameIndex := 5, descriptorIndex := 6, attributes := #[] }, { accessFlags := 9, nameIndex := 41, descriptorIndex := 42, attributes := #[] }] 49 2 #[] #[])
  fields := #[]
  methods := #[k1m0, k1m1]
  instanceTypes := #[]
  staticTypes := #[]
  resolved := Array.replicate 46 none
  statics := none }

def pool2 : Array CpInfo := pool [(1, .methodref 2 3), (0, .class_ 4), (0, .nameAndType 5 6), (0, u "java/lang/Object"), (0, u "<init>"), (0, u "()V"), (0, .fieldref 8 9), (0, .class_ 10), (0, .nameAndType 11 12), (0, u "com/example/stonegaze/stonegaze/Groups"), (0, u "groupOf"), (0, u "[I"), (0, .methodref 14 15), (0, .class_ 16), (0, .nameAndType 17 18), (0, u "java/util/Arrays"), (0, u "fill"), (0, u "([II)V"), (0, .class_ 20), (0, u "com/example/stonegaze/stonegaze/Side"), (0, .fieldref 8 22), (0, .nameAndType 23 24), (0, u "colours"), (0, u "[Lcom/example/stonegaze/stonegaze/Side;"), (0, .fieldref 8 26), (0, .nameAndType 27 12), (0, u "stones"), (0, .fieldref 8 29), (0, .nameAndType 30 12), (0, u "liberties"), (0, .fieldref 8 32), (0, .nameAndType 33 34), (0, u "ringed"), (0, u "[Z"), (0, .fieldref 8 36), (0, .nameAndType 37 12), (0, u "aLiberty"), (0, .fieldref 8 39), (0, .nameAndType 40 41), (0, u "count"), (0, u "I"), (0, u "(I)V"), (2, u "add"), (0, u "(Lcom/example/stonegaze/stonegaze/Side;IIZ)I"), (0, u "addStone"), (0, u "(II)V"), (1, u "groupAt"), (0, u "(I)I")] 7

def k2c0 : Code := { maxStack := 2, maxLocals := 2, code := prog_17_method_1_code, exceptionTable := #[], attributes := #[] }
def k2m0 : Method := { name := "<init>", desc := "(I)V", sig := { parameters := [.int], returnType := none }, accessFlags := 0, code := some k2c0 }
def k2c1 : Code := { maxStack := 3, maxLocals := 5, code := prog_17_method_2_code, exceptionTable := #[], attributes := #[] }
def k2m1 : Method := { name := "add", desc := "(Lcom/example/stonegaze/stonegaze/Side;IIZ)I", sig := { parameters := [(.object "com/example/stonegaze/stonegaze/Side"), .int, .int, .boolean], returnType := some .int }, accessFlags := 0, code := some k2c1 }
def k2c2 : Code := { maxStack := 4, maxLocals := 3, code := prog_17_method_3_code, exceptionTable := #[], attributes := #[] }
def k2m2 : Method := { name := "addStone", desc := "(II)V", sig := { parameters := [.int, .int], returnType := none }, accessFlags := 0, code := some k2c2 }
def k2c3 : Code := { maxStack := 2, maxLocals := 2, code := prog_17_method_5_code, exceptionTable := #[], attributes := #[] }
def k2m3 : Method := { name := "groupAt", desc := "(I)I", sig := { parameters := [.int], returnType := some .int }, accessFlags := 0, code := some k2c3 }
def k2c4 : Code := { maxStack := 2, maxLocals := 2, code := prog_17_method_7_code, exceptionTable := #[], attributes := #[] }
def k2m4 : Method := { name := "stones", desc := "(I)I", sig := { parameters := [.int], returnType := some .int }, accessFlags := 0, code := some k2c4 }
/-- com/example/stonegaze/stonegaze/Groups -/
def k2 : Class := { plain "com/example/stonegaze/stonegaze/Groups" (some 0) with
  accessFlags := 48
  interfaces := #[]
  cf := some (fileOf pool2 8 #[] #[{ accessFlags := 0, nameIndex := 5, descriptorIndex := 42, attributes := #[] }, { accessFlags := 0, nameIndex := 45, descriptorIndex := 46, attributes := #[] }, { accessFlags := 0, nameIndex := 47, descriptorIndex := 48, attributes := #[] }, { accessFlags := 0, nameIndex := 50, descriptorIndex := 51, attributes := #[] }, { accessFlags := 0, nameIndex := 27, descriptorIndex := 51, attributes := #[] }] 48 2 #[] #[{ accessFlags := 18, nameIndex := 11, descriptorIndex := 12, attributes := #[] }, { accessFlags := 18, nameIndex := 23, descriptorIndex := 24, attributes := #[] }, { accessFlags := 18, nameIndex := 27, descriptorIndex := 12, attributes := #[] }, { accessFlags := 18, nameIndex := 30, descriptorIndex := 12, attributes := #[] }, { accessFlags := 18, nameIndex := 33, descriptorIndex := 34, attributes := #[] }, { accessFlags := 18, nameIndex := 37, descriptorIndex := 12, attributes := #[] }, { accessFlags := 2, nameIndex := 40, descriptorIndex := 41, attributes := #[] }])
  fields := #[{ name := "groupOf", type := (.array .int), accessFlags := 18, slot := 0, constantValue := 0 }, { name := "colours", type := (.array (.object "com/example/stonegaze/stonegaze/Side")), accessFlags := 18, slot := 1, constantValue := 0 }, { name := "stones", type := (.array .int), accessFlags := 18, slot := 2, constantValue := 0 }, { name := "liberties", type := (.array .int), accessFlags := 18, slot := 3, constantValue := 0 }, { name := "ringed", type := (.array .boolean), accessFlags := 18, slot := 4, constantValue := 0 }, { name := "aLiberty", type := (.array .int), accessFlags := 18, slot := 5, constantValue := 0 }, { name := "count", type := .int, accessFlags := 2, slot := 6, constantValue := 0 }]
  methods := #[k2m0, k2m1, k2m2, k2m3, k2m4]
  instanceTypes := #[(.array .int), (.array (.object "com/example/stonegaze/stonegaze/Side")), (.array .int), (.array .int), (.array .boolean), (.array .int), .int]
  staticTypes := #[]
  resolved := Array.replicate 59 none
  statics := none }

def pool3 : Array CpInfo := pool [(2, .class_ 4), (1, u "java/lang/Object"), (0, u "<init>"), (0, u "()V"), (7, .class_ 16), (1, u "java/util/Arrays"), (57, .class_ 76), (1, u "java/util/Arrays$NaturalOrder"), (36, .class_ 115), (1, u "java/util/Arrays$LegacyMergeSort"), (1, u "Z"), (257, .class_ 376), (0, u "java/util/Arrays$ArrayList"), (68, u "$assertionsDisabled"), (269, u "MIN_ARRAY_SORT_GRAN"), (0, u "I"), (2, u "INSERTIONSORT_THRESHOLD"), (120, u "fill"), (4, u "([II)V"), (129, .class_ 976), (0, u "java/util/Arrays$ArrayItr")] 52

def k3m0 : Method := { name := "<init>", desc := "()V", sig := { parameters := [], returnType := none }, accessFlags := 2, code := none }
def k3c1 : Code := { maxStack := 3, maxLocals := 4, code := jdk_65_method_103_code, exceptionTable := #[], attributes := #[] }
def k3m1 : Method := { name := "fill", desc := "([II)V", sig := { parameters := [(.array .int), .int], returnType := none }, accessFlags := 9, code := some k3c1 }
/-- java/util/Arrays -/
def k3 : Class := { plain "java/util/Arrays" (some 0) with
  accessFlags := 49
  interfaces := #[]
  cf := some (fileOf pool3 14 #[.nestMembers #[975, 375, 113, 74]] #[{ accessFlags := 2, nameIndex := 5, descriptorIndex := 6, attributes := #[] }, { accessFlags := 9, nameIndex := 840, descriptorIndex := 845, attributes := #[] }] 49 2 #[] #[{ accessFlags := 26, nameIndex := 715, descriptorIndex := 716, attributes := #[] }, { accessFlags := 26, nameIndex := 719, descriptorIndex := 716, attributes := #[] }, { accessFlags := 4120, nameIndex := 445, descriptorIndex := 117, attributes := #[] }])
  fields := #[{ name := "MIN_ARRAY_SORT_GRAN", type := .int, accessFlags := 26, slot := 0, constantValue := 0 }, { name := "INSERTIONSORT_THRESHOLD", type := .int, accessFlags := 26, slot := 1, constantValue := 0 }, { name := "$assertionsDisabled", type := .boolean, accessFlags := 4120, slot := 2, constantValue := 0 }]
  methods := #[k3m0, k3m1]
  instanceTypes := #[]
  staticTypes := #[.int, .int, .boolean]
  resolved := Array.replicate 1029 none
  statics := none }

def pool4 : Array CpInfo := pool [(1, .class_ 2), (0, u "java/lang/constant/Constable"), (0, .class_ 4), (0, u "java/lang/Object")] 6

/-- java/lang/constant/Constable -/
def k4 : Class := { plain "java/lang/constant/Constable" (some 0) with
  accessFlags := 1537
  interfaces := #[]
  cf := some (fileOf pool4 1 #[] #[] 1537 3 #[] #[])
  fields := #[]
  methods := #[]
  instanceTypes := #[]
  staticTypes := #[]
  resolved := Array.replicate 11 none
  statics := none }

def pool5 : Array CpInfo := pool [(1, .class_ 2), (0, u "java/lang/Comparable"), (0, .class_ 4), (0, u "java/lang/Object")] 7

/-- java/lang/Comparable -/
def k5 : Class := { plain "java/lang/Comparable" (some 0) with
  accessFlags := 1537
  interfaces := #[]
  cf := some (fileOf pool5 1 #[] #[] 1537 3 #[] #[])
  fields := #[]
  methods := #[]
  instanceTypes := #[]
  staticTypes := #[]
  resolved := Array.replicate 12 none
  statics := none }

def pool6 : Array CpInfo := pool [(1, .class_ 2), (0, u "java/io/Serializable"), (0, .class_ 4), (0, u "java/lang/Object")] 2

/-- java/io/Serializable -/
def k6 : Class := { plain "java/io/Serializable" (some 0) with
  accessFlags := 1537
  interfaces := #[]
  cf := some (fileOf pool6 1 #[] #[] 1537 3 #[] #[])
  fields := #[]
  methods := #[]
  instanceTypes := #[]
  staticTypes := #[]
  resolved := Array.replicate 7 none
  statics := none }

def pool7 : Array CpInfo := pool [(2, .class_ 4), (1, u "java/lang/Enum"), (0, u "name"), (0, u "Ljava/lang/String;"), (2, u "ordinal"), (0, u "I"), (1, .class_ 14), (1, u "java/lang/Object"), (4, u "hash"), (86, .class_ 108), (1, u "java/lang/Enum$EnumDesc"), (2, .class_ 112), (0, u "java/lang/constant/Constable"), (0, .class_ 114), (0, u "java/lang/Comparable"), (0, .class_ 116), (0, u "java/io/Serializable")] 87

/-- java/lang/Enum -/
def k7 : Class := { plain "java/lang/Enum" (some 0) with
  accessFlags := 1057
  interfaces := #[4, 5, 6]
  cf := some (fileOf pool7 2 #[.nestMembers #[106]] #[] 1057 12 #[111, 113, 115] #[{ accessFlags := 18, nameIndex := 5, descriptorIndex := 6, attributes := #[] }, { accessFlags := 18, nameIndex := 9, descriptorIndex := 10, attributes := #[] }, { accessFlags := 2, nameIndex := 19, descriptorIndex := 10, attributes := #[] }])
  fields := #[{ name := "name", type := (.object "java/lang/String"), accessFlags := 18, slot := 0, constantValue := 0 }, { name := "ordinal", type := .int, accessFlags := 18, slot := 1, constantValue := 0 }, { name := "hash", type := .int, accessFlags := 2, slot := 2, constantValue := 0 }]
  methods := #[]
  instanceTypes := #[(.object "java/lang/String"), .int, .int]
  staticTypes := #[]
  resolved := Array.replicate 204 none
  statics := none }

def pool8 : Array CpInfo := pool [(1, .class_ 2), (0, u "com/example/stonegaze/stonegaze/Side"), (2, u "WHITE"), (0, u "Lcom/example/stonegaze/stonegaze/Side;"), (2, u "BLACK"), (2, u "$VALUES"), (0, u "[Lcom/example/stonegaze/stonegaze/Side;"), (6, .class_ 22), (1, u "java/lang/Enum")] 35

/-- com/example/stonegaze/stonegaze/Side -/
def k8 : Class := { plain "com/example/stonegaze/stonegaze/Side" (some 7) with
  accessFlags := 16433
  interfaces := #[]
  cf := some (fileOf pool8 1 #[] #[] 16433 20 #[] #[{ accessFlags := 16409, nameIndex := 5, descriptorIndex := 6, attributes := #[] }, { accessFlags := 16409, nameIndex := 9, descriptorIndex := 6, attributes := #[] }, { accessFlags := 4122, nameIndex := 12, descriptorIndex := 13, attributes := #[] }])
  fields := #[{ name := "WHITE", type := (.object "com/example/stonegaze/stonegaze/Side"), accessFlags := 16409, slot := 0, constantValue := 0 }, { name := "BLACK", type := (.object "com/example/stonegaze/stonegaze/Side"), accessFlags := 16409, slot := 1, constantValue := 0 }, { name := "$VALUES", type := (.array (.object "com/example/stonegaze/stonegaze/Side")), accessFlags := 4122, slot := 2, constantValue := 0 }]
  methods := #[]
  instanceTypes := #[(.object "java/lang/String"), .int, .int]
  staticTypes := #[(.object "com/example/stonegaze/stonegaze/Side"), (.object "com/example/stonegaze/stonegaze/Side"), (.array (.object "com/example/stonegaze/stonegaze/Side"))]
  resolved := Array.replicate 58 none
  statics := some 0 }

def pool9 : Array CpInfo := pool [(1, u "java/lang/Cloneable"), (0, .class_ 1), (0, u "java/lang/Object"), (0, .class_ 3)] 3

/-- java/lang/Cloneable -/
def k9 : Class := { plain "java/lang/Cloneable" (some 0) with
  accessFlags := 1537
  interfaces := #[]
  cf := some (fileOf pool9 2 #[] #[] 1537 4 #[] #[])
  fields := #[]
  methods := #[]
  instanceTypes := #[]
  staticTypes := #[]
  resolved := Array.replicate 8 none
  statics := none }

/-- the primitive boolean -/
def k10 : Class := { plain "boolean" none with kind := .primitive 'Z', accessFlags := 0x411 }
/-- [Z -/
def k11 : Class := { plain "[Z" (some 0) with kind := .array 10 .boolean, interfaces := #[9, 6], accessFlags := 1041 }

/-- the primitive byte -/
def k12 : Class := { plain "byte" none with kind := .primitive 'B', accessFlags := 0x411 }
/-- [B -/
def k13 : Class := { plain "[B" (some 0) with kind := .array 12 .byte, interfaces := #[9, 6], accessFlags := 1041 }

/-- the primitive int -/
def k14 : Class := { plain "int" none with kind := .primitive 'I', accessFlags := 0x411 }
/-- [I -/
def k15 : Class := { plain "[I" (some 0) with kind := .array 14 .int, interfaces := #[9, 6], accessFlags := 1041 }

/-- [Lcom/example/stonegaze/stonegaze/Side; -/
def k16 : Class := { plain "[Lcom/example/stonegaze/stonegaze/Side;" (some 0) with kind := .array 8 (.object "com/example/stonegaze/stonegaze/Side"), interfaces := #[9, 6], accessFlags := 1041 }

def heap : Heap := #[{ cls := 8, slots := #[.ref 1, .ref 2, .null], vm := .statics 8 },
  { cls := 8, slots := #[.null, .int 0, .int 0], vm := .none },
  { cls := 8, slots := #[.null, .int 1, .int 0], vm := .none }]
def classes : Array Class := #[k0, k1, k2, k3, k4, k5, k6, k7, k8, k9, k10, k11, k12, k13, k14, k15, k16]
def interned : List (Array UInt16 × Addr) := []
def slotsUsed : Nat := 9
def theMethod : MethodId := ⟨1, 1⟩
def args0 : Array Value := #[.int 5, .int 1, .int 2, .int 3, .int 4, .int 6]
def aboutOver (below : List Frame) : State where
  vm := { classes := classes, interned := interned.toArray }
  heap := heap
  slotsUsed := slotsUsed
  threads := #[{ frames := .invoking theMethod args0 :: below }]
def below0 : List Frame := [.native { method := ⟨0, 0⟩, args := #[] }]
def about1 : State := aboutOver below0
def p0 : Program := .bare "" "" ""
def e0 : Env := launch0.env 0 0 0
theorem w_frames : about1.frames = Frame.invoking theMethod args0 :: below0 := rfl
set_option maxRecDepth 65536 in
theorem w_args : argsFit about1.vm theMethod args0 = true := by decide +kernel
set_option maxRecDepth 65536 in
theorem w_heap : heapFits about1 = true := by decide +kernel
set_option maxRecDepth 65536 in
theorem w_runnable : about1.curStatus? = some .runnable := by decide +kernel
set_option maxRecDepth 65536 in
theorem w_alone : about1.alone = true := by decide +kernel
set_option maxRecDepth 65536 in
theorem w_named : about1.methodNamed? x = some theMethod := by decide +kernel
set_option maxRecDepth 65536 in
theorem w_hears : about1.hears theMethod below0 = true := by decide +kernel
set_option maxRecDepth 65536 in
theorem w_ripe : about1.ripe theMethod args0 below0 = true := by decide +kernel
theorem w_running : about1.status = .running := rfl
set_option maxRecDepth 65536 in
theorem w_room : about1.hasRoom e0.platform room_1 = true :=
  launch0.hasRoom_least _ room_1 (by decide +kernel) (by decide +kernel) (by decide +kernel) (by decide +kernel) (by decide +kernel) (by decide +kernel)
theorem allAtoms_all (ts : List Jvm.Cond) (a : Array Jvm.Value) (st : Jvm.State) : (allAtoms ts).before a st = ts.all (fun c => c.before a st) := by
  induction ts with
  | nil => rfl
  | cons c t ih =>
    show (Jvm.Cond.and c (allAtoms t)).before a st = _
    rw [Jvm.Cond.before_and, ih, List.all_cons]
def words1 : List Jvm.Cond := Jvm.Cond.code x code maxLocals ret :: tables_1
/-- a 'code' word, met by the world's own term for the bytes: nothing is compared byte by byte -/
theorem code_word {y : MethodName} {bytes : ByteArray} {mx : Nat} {rt : Option FieldType} {a : Array Value} {s : State} {m : MethodId} {meth : Method} {c : Code} (h1 : s.methodNamed? y = some m) (h2 : s.vm.method? m = some meth) (h3 : meth.code = some c) (h4 : c.code = bytes)
    (h5 : (c.maxLocals == mx && c.exceptionTable.isEmpty && decide (c.maxStack ≤ mostOperands) && decide (meth.sig.returnType = rt) && !meth.locks && decide (parseMethodDescriptor y.desc = some meth.sig)) = true) : (Jvm.Cond.code y bytes mx rt).before a s = true := by
  simp only [Bool.and_eq_true, beq_iff_eq, Bool.not_eq_true', decide_eq_true_eq] at h5
  obtain ⟨⟨⟨⟨⟨g1, g2⟩, g3⟩, g4⟩, g5⟩, g6⟩ := h5
  simp [Cond.before, Cond.holds, Cond.value, h1, h2, h3, h4, g1, g2, g3, g4, g5, g6]
def isCode : Jvm.Cond → Bool
  | .code _ _ _ _ => true
  | _ => false
theorem all_split {L : List Jvm.Cond} {P : Jvm.Cond → Bool} (h1 : L.all (fun c => isCode c || P c) = true) (h2 : ∀ c ∈ L.filter isCode, P c = true) : L.all P = true := by
  refine List.all_eq_true.mpr fun c hc => ?_
  have h := List.all_eq_true.mp h1 c hc
  rcases Bool.eq_false_or_eq_true (isCode c) with hi | hi
  · exact h2 c (List.mem_filter.mpr ⟨hc, hi⟩)
  · simpa [hi] using h
set_option maxRecDepth 65536 in
theorem w_c0 : (Jvm.Cond.code x code maxLocals ret).before args0 about1 = true := code_word (m := ⟨1, 1⟩) (meth := k1m1) (c := k1c1) (by decide +kernel) rfl rfl rfl (by decide +kernel)
set_option maxRecDepth 65536 in
theorem w_c1 : (Jvm.Cond.code ({ cls := "com/example/stonegaze/stonegaze/Groups", name := "<init>", desc := "(I)V" } : Jvm.MethodName) prog_17_method_1_code (2 : Nat) (Option.none : Option Jvm.ClassFile.FieldType)).before args0 about1 = true := code_word (m := ⟨2, 0⟩) (meth := k2m0) (c := k2c0) (by decide +kernel) rfl rfl rfl (by decide +kernel)
set_option maxRecDepth 65536 in
theorem w_c2 : (Jvm.Cond.code ({ cls := "java/lang/Object", name := "<init>", desc := "()V" } : Jvm.MethodName) object_method_1_code (1 : Nat) (Option.none : Option Jvm.ClassFile.FieldType)).before args0 about1 = true := code_word (m := ⟨0, 0⟩) (meth := k0m0) (c := k0c0) (by decide +kernel) rfl rfl rfl (by decide +kernel)
set_option maxRecDepth 65536 in
theorem w_c3 : (Jvm.Cond.code ({ cls := "java/util/Arrays", name := "fill", desc := "([II)V" } : Jvm.MethodName) jdk_65_method_103_code (4 : Nat) (Option.none : Option Jvm.ClassFile.FieldType)).before args0 about1 = true := code_word (m := ⟨3, 1⟩) (meth := k3m1) (c := k3c1) (by decide +kernel) rfl rfl rfl (by decide +kernel)
set_option maxRecDepth 65536 in
theorem w_c4 : (Jvm.Cond.code ({ cls := "com/example/stonegaze/stonegaze/Groups", name := "add", desc := "(Lcom/example/stonegaze/stonegaze/Side;IIZ)I" } : Jvm.MethodName) prog_17_method_2_code (5 : Nat) (Option.some Jvm.ClassFile.FieldType.int)).before args0 about1 = true := code_word (m := ⟨2, 1⟩) (meth := k2m1) (c := k2c1) (by decide +kernel) rfl rfl rfl (by decide +kernel)
set_option maxRecDepth 65536 in
theorem w_c5 : (Jvm.Cond.code ({ cls := "com/example/stonegaze/stonegaze/Groups", name := "addStone", desc := "(II)V" } : Jvm.MethodName) prog_17_method_3_code (3 : Nat) (Option.none : Option Jvm.ClassFile.FieldType)).before args0 about1 = true := code_word (m := ⟨2, 2⟩) (meth := k2m2) (c := k2c2) (by decide +kernel) rfl rfl rfl (by decide +kernel)
set_option maxRecDepth 65536 in
theorem w_c6 : (Jvm.Cond.code ({ cls := "com/example/stonegaze/stonegaze/Groups", name := "groupAt", desc := "(I)I" } : Jvm.MethodName) prog_17_method_5_code (2 : Nat) (Option.some Jvm.ClassFile.FieldType.int)).before args0 about1 = true := code_word (m := ⟨2, 3⟩) (meth := k2m3) (c := k2c3) (by decide +kernel) rfl rfl rfl (by decide +kernel)
set_option maxRecDepth 65536 in
theorem w_c7 : (Jvm.Cond.code ({ cls := "com/example/stonegaze/stonegaze/Groups", name := "stones", desc := "(I)I" } : Jvm.MethodName) prog_17_method_7_code (2 : Nat) (Option.some Jvm.ClassFile.FieldType.int)).before args0 about1 = true := code_word (m := ⟨2, 4⟩) (meth := k2m4) (c := k2c4) (by decide +kernel) rfl rfl rfl (by decide +kernel)
def codes1 : List Jvm.Cond := [Jvm.Cond.code x code maxLocals ret, Jvm.Cond.code ({ cls := "com/example/stonegaze/stonegaze/Groups", name := "<init>", desc := "(I)V" } : Jvm.MethodName) prog_17_method_1_code (2 : Nat) (Option.none : Option Jvm.ClassFile.FieldType), Jvm.Cond.code ({ cls := "java/lang/Object", name := "<init>", desc := "()V" } : Jvm.MethodName) object_method_1_code (1 : Nat) (Option.none : Option Jvm.ClassFile.FieldType), Jvm.Cond.code ({ cls := "java/util/Arrays", name := "fill", desc := "([II)V" } : Jvm.MethodName) jdk_65_method_103_code (4 : Nat) (Option.none : Option Jvm.ClassFile.FieldType), Jvm.Cond.code ({ cls := "com/example/stonegaze/stonegaze/Groups", name := "add", desc := "(Lcom/example/stonegaze/stonegaze/Side;IIZ)I" } : Jvm.MethodName) prog_17_method_2_code (5 : Nat) (Option.some Jvm.ClassFile.FieldType.int), Jvm.Cond.code ({ cls := "com/example/stonegaze/stonegaze/Groups", name := "addStone", desc := "(II)V" } : Jvm.MethodName) prog_17_method_3_code (3 : Nat) (Option.none : Option Jvm.ClassFile.FieldType), Jvm.Cond.code ({ cls := "com/example/stonegaze/stonegaze/Groups", name := "groupAt", desc := "(I)I" } : Jvm.MethodName) prog_17_method_5_code (2 : Nat) (Option.some Jvm.ClassFile.FieldType.int), Jvm.Cond.code ({ cls := "com/example/stonegaze/stonegaze/Groups", name := "stones", desc := "(I)I" } : Jvm.MethodName) prog_17_method_7_code (2 : Nat) (Option.some Jvm.ClassFile.FieldType.int)]
set_option maxRecDepth 65536 in
theorem codes_eq : words1.filter isCode = codes1 := rfl
theorem w_codes : ∀ c ∈ words1.filter isCode, c.before args0 about1 = true := by
  rw [codes_eq]
  intro c hc
  simp only [codes1, List.mem_cons, List.not_mem_nil, or_false] at hc
  rcases hc with rfl | rfl | rfl | rfl | rfl | rfl | rfl | rfl
  · exact w_c0
  · exact w_c1
  · exact w_c2
  · exact w_c3
  · exact w_c4
  · exact w_c5
  · exact w_c6
  · exact w_c7
set_option maxRecDepth 65536 in
theorem w_t1 : (words1.take 24).all (fun c => isCode c || c.before args0 about1) = true := by decide +kernel
set_option maxRecDepth 65536 in
theorem w_t2 : ((words1.drop 24).take 24).all (fun c => isCode c || c.before args0 about1) = true := by decide +kernel
set_option maxRecDepth 65536 in
theorem w_t3 : ((words1.drop 24).drop 24).all (fun c => isCode c || c.before args0 about1) = true := by decide +kernel
theorem w_tables : (allAtoms (Jvm.Cond.code x code maxLocals ret :: tables_1)).before args0 about1 = true := by
  rw [allAtoms_all]
  show words1.all (fun c => c.before args0 about1) = true
  refine all_split ?_ w_codes
  rw [← List.take_append_drop 24 words1, List.all_append, w_t1, ← List.take_append_drop 24 (words1.drop 24), List.all_append, w_t2, w_t3]
  rfl
set_option maxRecDepth 65536 in
theorem w_case : (Jvm.Cond.and given_1 narrow_1).before args0 about1 = true := by decide +kernel
theorem w_applies : (headSpec (Jvm.Cond.code x code maxLocals ret :: tables_1) room_1).applies x e0.platform about1 = true :=
  (Spec.applies_iff w_frames).mpr ⟨w_running, w_runnable, w_alone, w_named, w_hears, w_ripe, w_room, w_tables⟩
theorem atStart : AtStart classFile x code maxLocals ret World_1 tables_1 room_1 Calls_1 rest_1 Pre_1 launch0 p0 e0 about1 theMethod args0 below0 :=
  ⟨lists_1, trivial, launch0.admits_env _ _ _, launch0.least_env, fairChoices_fair.cas, fairChoices_fair.clock, w_frames, w_args, w_heap, w_applies, trivial, trivial, w_case⟩
end start1
theorem witness_1 : WitnessClaimed_1 := ⟨start1.p0, start1.e0, start1.about1, start1.theMethod, start1.args0, start1.below0, start1.atStart⟩
end Jvm.Pilot.@@N@@
