import JvmDerived
import JvmDerived.Pilot.@@N@@Statement
import JvmDerived.Pilot.@@N@@Code
set_option linter.unusedVariables false
set_option linter.unusedSimpArgs false
namespace Jvm.Pilot.@@N@@
open Jvm Jvm.ClassFile Sem Op Lib Jvm.Free Jvm.Stand Jvm.LawKit Jvm.RoadKit Bundle Jvm.Pilot.@@N@@.Jvm.D
/-- the run stands at T' as it stood at T: the heap is the same -/
def Nx {p : Program} {l : Launch} {e : Env} {R : Room} {s : State} {m : MethodId} {args : Array Value} {below : List Frame} {meth : Method} {c : Code} {T : State} {locs : List Loc} {cells slots : Nat} (X : Stand p l e R s m args below meth c T locs cells slots) (T' : State) : Prop := Stand p l e R s m args below meth c T' locs cells slots ∧ T'.heap = T.heap
theorem lq_eq {x y : Int64} (h : x = y) : lcmpW x y = 0 := (lcW x y).trans ((lc_eq x y).mpr h)
theorem lq_ne {x y : Int64} (h : ¬ x = y) : ¬ lcmpW x y = 0 := fun q => h ((lc_eq x y).mp ((lcW x y).symm.trans q))
theorem lq_lt {x y : Int64} (h : x < y) : lcmpW x y < 0 := by rw [lcW]; exact (lc_lt x y).mpr h
theorem lq_nlt {x y : Int64} (h : ¬ x < y) : ¬ lcmpW x y < 0 := by rw [lcW]; exact fun q => h ((lc_lt x y).mp q)
theorem lq_gt {x y : Int64} (h : y < x) : 0 < lcmpW x y := by rw [lcW]; exact (lc_gt x y).mpr h
theorem lq_ngt {x y : Int64} (h : ¬ y < x) : ¬ 0 < lcmpW x y := by rw [lcW]; exact fun q => h ((lc_gt x y).mp q)
theorem own_eqI {args : Array Value} {first s : State} {o : Option Outcome} {idx : List Nat} {t : Term} {k : Int32} (h : (Jvm.Cond.eq t (.int k)).value args first o s idx = some true) : t.eval args first o idx s = some (.int k) := by
  simp only [Cond.value, Term.eval] at h
  cases ht : t.eval args first o idx s with
  | none => simp [ht] at h
  | some x => cases x <;> simp [ht] at h ⊢; exact h
theorem own_eqL {args : Array Value} {first s : State} {o : Option Outcome} {idx : List Nat} {t : Term} {k : Int64} (h : (Jvm.Cond.eq t (.long k)).value args first o s idx = some true) : t.eval args first o idx s = some (.long k) := by
  simp only [Cond.value, Term.eval] at h
  cases ht : t.eval args first o idx s with
  | none => simp [ht] at h
  | some x => cases x <;> simp [ht] at h ⊢; exact h
abbrev jv (x : Int64) : Slot := .val (.long x)
theorem y_iloadN {tb : Tables} [Ours tb] {e : Env} {below : List Frame} {T target : State} {m : MethodId} {c : Code} (h : At T m c below) (hx : tb.exec = Jvm.exec) {pc pc' : Nat} {L : Array Slot} {S : List Value} {k : Fin 4} {v : Int32} (hd : decode c.code pc = .ok (.iload_n k, 1)) (hl : L[k.val]? = some (.val (.int v))) (hp : pc + 1 = pc') (hr : Steps tb e below (T.setTop (mkF m pc' L (.int v :: S))) target) : Steps tb e below (T.setTop (mkF m pc L S)) target := by subst hp; exact XS.iloadN h hx rfl hd hl hr
theorem y_lloadN {tb : Tables} [Ours tb] {e : Env} {below : List Frame} {T target : State} {m : MethodId} {c : Code} (h : At T m c below) (hx : tb.exec = Jvm.exec) {pc pc' : Nat} {L : Array Slot} {S : List Value} {k : Fin 4} {v : Int64} (hd : decode c.code pc = .ok (.lload_n k, 1)) (hl : L[k.val]? = some (.val (.long v))) (hp : pc + 1 = pc') (hr : Steps tb e below (T.setTop (mkF m pc' L (.long v :: S))) target) : Steps tb e below (T.setTop (mkF m pc L S)) target := by subst hp; exact XS.lloadN h hx rfl hd hl hr
theorem y_aloadN {tb : Tables} [Ours tb] {e : Env} {below : List Frame} {T target : State} {m : MethodId} {c : Code} (h : At T m c below) (hx : tb.exec = Jvm.exec) {pc pc' : Nat} {L : Array Slot} {S : List Value} {k : Fin 4} {v : Value} (hd : decode c.code pc = .ok (.aload_n k, 1)) (hl : L[k.val]? = some (.val v)) (hv : v.isRef = true) (hp : pc + 1 = pc') (hr : Steps tb e below (T.setTop (mkF m pc' L (v :: S))) target) : Steps tb e below (T.setTop (mkF m pc L S)) target := by subst hp; exact XS.aloadN h hx rfl hd hl hv hr
theorem y_istoreN {tb : Tables} [Ours tb] {e : Env} {below : List Frame} {T target : State} {m : MethodId} {c : Code} (h : At T m c below) (hx : tb.exec = Jvm.exec) {pc pc' : Nat} {L : Array Slot} {S : List Value} {k : Fin 4} {v : Int32} {l' : Array Slot} (hd : decode c.code pc = .ok (.istore_n k, 1)) (hl : storeLocals L k.val (.int v) = some l') (hp : pc + 1 = pc') (hr : Steps tb e below (T.setTop (mkF m pc' l' S)) target) : Steps tb e below (T.setTop (mkF m pc L (.int v :: S))) target := by subst hp; exact XS.istoreN h hx rfl hd rfl hl hr
theorem y_lstoreN {tb : Tables} [Ours tb] {e : Env} {below : List Frame} {T target : State} {m : MethodId} {c : Code} (h : At T m c below) (hx : tb.exec = Jvm.exec) {pc pc' : Nat} {L : Array Slot} {S : List Value} {k : Fin 4} {v : Int64} {l' : Array Slot} (hd : decode c.code pc = .ok (.lstore_n k, 1)) (hl : storeLocals L k.val (.long v) = some l') (hp : pc + 1 = pc') (hr : Steps tb e below (T.setTop (mkF m pc' l' S)) target) : Steps tb e below (T.setTop (mkF m pc L (.long v :: S))) target := by subst hp; exact XS.lstoreN h hx rfl hd rfl hl hr
theorem y_astoreN {tb : Tables} [Ours tb] {e : Env} {below : List Frame} {T target : State} {m : MethodId} {c : Code} (h : At T m c below) (hx : tb.exec = Jvm.exec) {pc pc' : Nat} {L : Array Slot} {S : List Value} {k : Fin 4} {v : Value} {l' : Array Slot} (hd : decode c.code pc = .ok (.astore_n k, 1)) (hv : v.isRef = true) (hl : storeLocals L k.val v = some l') (hp : pc + 1 = pc') (hr : Steps tb e below (T.setTop (mkF m pc' l' S)) target) : Steps tb e below (T.setTop (mkF m pc L (v :: S))) target := by subst hp; exact XS.astoreN h hx rfl hd rfl hv hl hr
theorem y_iload {tb : Tables} [Ours tb] {e : Env} {below : List Frame} {T target : State} {m : MethodId} {c : Code} (h : At T m c below) (hx : tb.exec = Jvm.exec) {pc pc' : Nat} {L : Array Slot} {S : List Value} {k : Nat} {v : Int32} (hd : decode c.code pc = .ok (.iload k, 2)) (hl : L[k]? = some (.val (.int v))) (hp : pc + 2 = pc') (hr : Steps tb e below (T.setTop (mkF m pc' L (.int v :: S))) target) : Steps tb e below (T.setTop (mkF m pc L S)) target := by subst hp; exact XS.iload h hx rfl hd hl hr
theorem y_lload {tb : Tables} [Ours tb] {e : Env} {below : List Frame} {T target : State} {m : MethodId} {c : Code} (h : At T m c below) (hx : tb.exec = Jvm.exec) {pc pc' : Nat} {L : Array Slot} {S : List Value} {k : Nat} {v : Int64} (hd : decode c.code pc = .ok (.lload k, 2)) (hl : L[k]? = some (.val (.long v))) (hp : pc + 2 = pc') (hr : Steps tb e below (T.setTop (mkF m pc' L (.long v :: S))) target) : Steps tb e below (T.setTop (mkF m pc L S)) target := by subst hp; exact XS.lload h hx rfl hd hl hr
theorem y_aload {tb : Tables} [Ours tb] {e : Env} {below : List Frame} {T target : State} {m : MethodId} {c : Code} (h : At T m c below) (hx : tb.exec = Jvm.exec) {pc pc' : Nat} {L : Array Slot} {S : List Value} {k : Nat} {v : Value} (hd : decode c.code pc = .ok (.aload k, 2)) (hl : L[k]? = some (.val v)) (hv : v.isRef = true) (hp : pc + 2 = pc') (hr : Steps tb e below (T.setTop (mkF m pc' L (v :: S))) target) : Steps tb e below (T.setTop (mkF m pc L S)) target := by subst hp; exact XS.aload h hx rfl hd hl hv hr
theorem y_istore {tb : Tables} [Ours tb] {e : Env} {below : List Frame} {T target : State} {m : MethodId} {c : Code} (h : At T m c below) (hx : tb.exec = Jvm.exec) {pc pc' : Nat} {L : Array Slot} {S : List Value} {k : Nat} {v : Int32} {l' : Array Slot} (hd : decode c.code pc = .ok (.istore k, 2)) (hl : storeLocals L k (.int v) = some l') (hp : pc + 2 = pc') (hr : Steps tb e below (T.setTop (mkF m pc' l' S)) target) : Steps tb e below (T.setTop (mkF m pc L (.int v :: S))) target := by subst hp; exact XS.istore h hx rfl hd rfl hl hr
theorem y_lstore {tb : Tables} [Ours tb] {e : Env} {below : List Frame} {T target : State} {m : MethodId} {c : Code} (h : At T m c below) (hx : tb.exec = Jvm.exec) {pc pc' : Nat} {L : Array Slot} {S : List Value} {k : Nat} {v : Int64} {l' : Array Slot} (hd : decode c.code pc = .ok (.lstore k, 2)) (hl : storeLocals L k (.long v) = some l') (hp : pc + 2 = pc') (hr : Steps tb e below (T.setTop (mkF m pc' l' S)) target) : Steps tb e below (T.setTop (mkF m pc L (.long v :: S))) target := by subst hp; exact XS.lstore h hx rfl hd rfl hl hr
theorem y_astore {tb : Tables} [Ours tb] {e : Env} {below : List Frame} {T target : State} {m : MethodId} {c : Code} (h : At T m c below) (hx : tb.exec = Jvm.exec) {pc pc' : Nat} {L : Array Slot} {S : List Value} {k : Nat} {v : Value} {l' : Array Slot} (hd : decode c.code pc = .ok (.astore k, 2)) (hv : v.isRef = true) (hl : storeLocals L k v = some l') (hp : pc + 2 = pc') (hr : Steps tb e below (T.setTop (mkF m pc' l' S)) target) : Steps tb e below (T.setTop (mkF m pc L (v :: S))) target := by subst hp; exact XS.astore h hx rfl hd rfl hv hl hr
theorem y_iconst {tb : Tables} [Ours tb] {e : Env} {below : List Frame} {T target : State} {m : MethodId} {c : Code} (h : At T m c below) (hx : tb.exec = Jvm.exec) {pc pc' : Nat} {L : Array Slot} {S : List Value} {i : Int} {v : Int32} (hd : decode c.code pc = .ok (.iconst i, 1)) (hv : Int32.ofInt i = v) (hp : pc + 1 = pc') (hr : Steps tb e below (T.setTop (mkF m pc' L (.int v :: S))) target) : Steps tb e below (T.setTop (mkF m pc L S)) target := by subst hp; exact XS.iconst h hx rfl hd (by rw [hv]; exact hr)
theorem y_bipush {tb : Tables} [Ours tb] {e : Env} {below : List Frame} {T target : State} {m : MethodId} {c : Code} (h : At T m c below) (hx : tb.exec = Jvm.exec) {pc pc' : Nat} {L : Array Slot} {S : List Value} {i : Int} {v : Int32} (hd : decode c.code pc = .ok (.bipush i, 2)) (hv : (Int8.ofInt i).toInt32 = v) (hp : pc + 2 = pc') (hr : Steps tb e below (T.setTop (mkF m pc' L (.int v :: S))) target) : Steps tb e below (T.setTop (mkF m pc L S)) target := by subst hp; exact XS.bipush h hx rfl hd (by rw [hv]; exact hr)
theorem y_sipush {tb : Tables} [Ours tb] {e : Env} {below : List Frame} {T target : State} {m : MethodId} {c : Code} (h : At T m c below) (hx : tb.exec = Jvm.exec) {pc pc' : Nat} {L : Array Slot} {S : List Value} {i : Int} {v : Int32} (hd : decode c.code pc = .ok (.sipush i, 3)) (hv : (Int16.ofInt i).toInt32 = v) (hp : pc + 3 = pc') (hr : Steps tb e below (T.setTop (mkF m pc' L (.int v :: S))) target) : Steps tb e below (T.setTop (mkF m pc L S)) target := by subst hp; exact XS.sipush h hx rfl hd (by rw [hv]; exact hr)
theorem y_lconst {tb : Tables} [Ours tb] {e : Env} {below : List Frame} {T target : State} {m : MethodId} {c : Code} (h : At T m c below) (hx : tb.exec = Jvm.exec) {pc pc' : Nat} {L : Array Slot} {S : List Value} {k : Fin 2} {v : Int64} (hd : decode c.code pc = .ok (.lconst k, 1)) (hv : Int64.ofNat k.val = v) (hp : pc + 1 = pc') (hr : Steps tb e below (T.setTop (mkF m pc' L (.long v :: S))) target) : Steps tb e below (T.setTop (mkF m pc L S)) target := by subst hp; exact XS.lconst h hx rfl hd (by first | exact hv ▸ hr | (rw [hv]; exact hr) | (subst hv; exact hr))
theorem y_aconstNull {tb : Tables} [Ours tb] {e : Env} {below : List Frame} {T target : State} {m : MethodId} {c : Code} (h : At T m c below) (hx : tb.exec = Jvm.exec) {pc pc' : Nat} {L : Array Slot} {S : List Value} (hd : decode c.code pc = .ok (.aconst_null, 1)) (hp : pc + 1 = pc') (hr : Steps tb e below (T.setTop (mkF m pc' L (.null :: S))) target) : Steps tb e below (T.setTop (mkF m pc L S)) target := by subst hp; exact XS.aconstNull h hx rfl hd hr
theorem y_iadd {tb : Tables} [Ours tb] {e : Env} {below : List Frame} {T target : State} {m : MethodId} {c : Code} (h : At T m c below) (hx : tb.exec = Jvm.exec) {pc pc' : Nat} {L : Array Slot} {S : List Value} {x y z : Int32} (hd : decode c.code pc = .ok (.iadd, 1)) (hz : x + y = z) (hp : pc + 1 = pc') (hr : Steps tb e below (T.setTop (mkF m pc' L (.int z :: S))) target) : Steps tb e below (T.setTop (mkF m pc L (.int y :: .int x :: S))) target := by subst hp; exact XS.iadd h hx rfl hd rfl (by rw [hz]; exact hr)
theorem y_isub {tb : Tables} [Ours tb] {e : Env} {below : List Frame} {T target : State} {m : MethodId} {c : Code} (h : At T m c below) (hx : tb.exec = Jvm.exec) {pc pc' : Nat} {L : Array Slot} {S : List Value} {x y z : Int32} (hd : decode c.code pc = .ok (.isub, 1)) (hz : x - y = z) (hp : pc + 1 = pc') (hr : Steps tb e below (T.setTop (mkF m pc' L (.int z :: S))) target) : Steps tb e below (T.setTop (mkF m pc L (.int y :: .int x :: S))) target := by subst hp; exact XS.isub h hx rfl hd rfl (by rw [hz]; exact hr)
theorem y_imul {tb : Tables} [Ours tb] {e : Env} {below : List Frame} {T target : State} {m : MethodId} {c : Code} (h : At T m c below) (hx : tb.exec = Jvm.exec) {pc pc' : Nat} {L : Array Slot} {S : List Value} {x y z : Int32} (hd : decode c.code pc = .ok (.imul, 1)) (hz : x * y = z) (hp : pc + 1 = pc') (hr : Steps tb e below (T.setTop (mkF m pc' L (.int z :: S))) target) : Steps tb e below (T.setTop (mkF m pc L (.int y :: .int x :: S))) target := by subst hp; exact XS.imul h hx rfl hd rfl (by rw [hz]; exact hr)
theorem y_iand {tb : Tables} [Ours tb] {e : Env} {below : List Frame} {T target : State} {m : MethodId} {c : Code} (h : At T m c below) (hx : tb.exec = Jvm.exec) {pc pc' : Nat} {L : Array Slot} {S : List Value} {x y z : Int32} (hd : decode c.code pc = .ok (.iand, 1)) (hz : x &&& y = z) (hp : pc + 1 = pc') (hr : Steps tb e below (T.setTop (mkF m pc' L (.int z :: S))) target) : Steps tb e below (T.setTop (mkF m pc L (.int y :: .int x :: S))) target := by subst hp; exact XS.iand h hx rfl hd rfl (by rw [hz]; exact hr)
theorem y_ior {tb : Tables} [Ours tb] {e : Env} {below : List Frame} {T target : State} {m : MethodId} {c : Code} (h : At T m c below) (hx : tb.exec = Jvm.exec) {pc pc' : Nat} {L : Array Slot} {S : List Value} {x y z : Int32} (hd : decode c.code pc = .ok (.ior, 1)) (hz : x ||| y = z) (hp : pc + 1 = pc') (hr : Steps tb e below (T.setTop (mkF m pc' L (.int z :: S))) target) : Steps tb e below (T.setTop (mkF m pc L (.int y :: .int x :: S))) target := by subst hp; exact XS.ior h hx rfl hd rfl (by rw [hz]; exact hr)
theorem y_ixor {tb : Tables} [Ours tb] {e : Env} {below : List Frame} {T target : State} {m : MethodId} {c : Code} (h : At T m c below) (hx : tb.exec = Jvm.exec) {pc pc' : Nat} {L : Array Slot} {S : List Value} {x y z : Int32} (hd : decode c.code pc = .ok (.ixor, 1)) (hz : x ^^^ y = z) (hp : pc + 1 = pc') (hr : Steps tb e below (T.setTop (mkF m pc' L (.int z :: S))) target) : Steps tb e below (T.setTop (mkF m pc L (.int y :: .int x :: S))) target := by subst hp; exact XS.ixor h hx rfl hd rfl (by rw [hz]; exact hr)
theorem y_ladd {tb : Tables} [Ours tb] {e : Env} {below : List Frame} {T target : State} {m : MethodId} {c : Code} (h : At T m c below) (hx : tb.exec = Jvm.exec) {pc pc' : Nat} {L : Array Slot} {S : List Value} {x y z : Int64} (hd : decode c.code pc = .ok (.ladd, 1)) (hz : x + y = z) (hp : pc + 1 = pc') (hr : Steps tb e below (T.setTop (mkF m pc' L (.long z :: S))) target) : Steps tb e below (T.setTop (mkF m pc L (.long y :: .long x :: S))) target := by subst hp; exact XS.ladd h hx rfl hd rfl (by rw [hz]; exact hr)
theorem y_lsub {tb : Tables} [Ours tb] {e : Env} {below : List Frame} {T target : State} {m : MethodId} {c : Code} (h : At T m c below) (hx : tb.exec = Jvm.exec) {pc pc' : Nat} {L : Array Slot} {S : List Value} {x y z : Int64} (hd : decode c.code pc = .ok (.lsub, 1)) (hz : x - y = z) (hp : pc + 1 = pc') (hr : Steps tb e below (T.setTop (mkF m pc' L (.long z :: S))) target) : Steps tb e below (T.setTop (mkF m pc L (.long y :: .long x :: S))) target := by subst hp; exact XS.lsub h hx rfl hd rfl (by rw [hz]; exact hr)
theorem y_lmul {tb : Tables} [Ours tb] {e : Env} {below : List Frame} {T target : State} {m : MethodId} {c : Code} (h : At T m c below) (hx : tb.exec = Jvm.exec) {pc pc' : Nat} {L : Array Slot} {S : List Value} {x y z : Int64} (hd : decode c.code pc = .ok (.lmul, 1)) (hz : x * y = z) (hp : pc + 1 = pc') (hr : Steps tb e below (T.setTop (mkF m pc' L (.long z :: S))) target) : Steps tb e below (T.setTop (mkF m pc L (.long y :: .long x :: S))) target := by subst hp; exact XS.lmul h hx rfl hd rfl (by rw [hz]; exact hr)
theorem y_land {tb : Tables} [Ours tb] {e : Env} {below : List Frame} {T target : State} {m : MethodId} {c : Code} (h : At T m c below) (hx : tb.exec = Jvm.exec) {pc pc' : Nat} {L : Array Slot} {S : List Value} {x y z : Int64} (hd : decode c.code pc = .ok (.land, 1)) (hz : x &&& y = z) (hp : pc + 1 = pc') (hr : Steps tb e below (T.setTop (mkF m pc' L (.long z :: S))) target) : Steps tb e below (T.setTop (mkF m pc L (.long y :: .long x :: S))) target := by subst hp; exact XS.land h hx rfl hd rfl (by rw [hz]; exact hr)
theorem y_lor {tb : Tables} [Ours tb] {e : Env} {below : List Frame} {T target : State} {m : MethodId} {c : Code} (h : At T m c below) (hx : tb.exec = Jvm.exec) {pc pc' : Nat} {L : Array Slot} {S : List Value} {x y z : Int64} (hd : decode c.code pc = .ok (.lor, 1)) (hz : x ||| y = z) (hp : pc + 1 = pc') (hr : Steps tb e below (T.setTop (mkF m pc' L (.long z :: S))) target) : Steps tb e below (T.setTop (mkF m pc L (.long y :: .long x :: S))) target := by subst hp; exact XS.lor h hx rfl hd rfl (by rw [hz]; exact hr)
theorem y_lxor {tb : Tables} [Ours tb] {e : Env} {below : List Frame} {T target : State} {m : MethodId} {c : Code} (h : At T m c below) (hx : tb.exec = Jvm.exec) {pc pc' : Nat} {L : Array Slot} {S : List Value} {x y z : Int64} (hd : decode c.code pc = .ok (.lxor, 1)) (hz : x ^^^ y = z) (hp : pc + 1 = pc') (hr : Steps tb e below (T.setTop (mkF m pc' L (.long z :: S))) target) : Steps tb e below (T.setTop (mkF m pc L (.long y :: .long x :: S))) target := by subst hp; exact XS.lxor h hx rfl hd rfl (by rw [hz]; exact hr)
theorem y_ineg {tb : Tables} [Ours tb] {e : Env} {below : List Frame} {T target : State} {m : MethodId} {c : Code} (h : At T m c below) (hx : tb.exec = Jvm.exec) {pc pc' : Nat} {L : Array Slot} {S : List Value} {x : Int32} {z : Int32} (hd : decode c.code pc = .ok (.ineg, 1)) (hz : -x = z) (hp : pc + 1 = pc') (hr : Steps tb e below (T.setTop (mkF m pc' L (.int z :: S))) target) : Steps tb e below (T.setTop (mkF m pc L (.int x :: S))) target := by subst hp; exact XS.ineg h hx rfl hd rfl (by subst hz; exact hr)
theorem y_lneg {tb : Tables} [Ours tb] {e : Env} {below : List Frame} {T target : State} {m : MethodId} {c : Code} (h : At T m c below) (hx : tb.exec = Jvm.exec) {pc pc' : Nat} {L : Array Slot} {S : List Value} {x : Int64} {z : Int64} (hd : decode c.code pc = .ok (.lneg, 1)) (hz : -x = z) (hp : pc + 1 = pc') (hr : Steps tb e below (T.setTop (mkF m pc' L (.long z :: S))) target) : Steps tb e below (T.setTop (mkF m pc L (.long x :: S))) target := by subst hp; exact XS.lneg h hx rfl hd rfl (by subst hz; exact hr)
theorem y_i2l {tb : Tables} [Ours tb] {e : Env} {below : List Frame} {T target : State} {m : MethodId} {c : Code} (h : At T m c below) (hx : tb.exec = Jvm.exec) {pc pc' : Nat} {L : Array Slot} {S : List Value} {x : Int32} {z : Int64} (hd : decode c.code pc = .ok (.i2l, 1)) (hz : x.toInt64 = z) (hp : pc + 1 = pc') (hr : Steps tb e below (T.setTop (mkF m pc' L (.long z :: S))) target) : Steps tb e below (T.setTop (mkF m pc L (.int x :: S))) target := by subst hp; exact XS.i2l h hx rfl hd rfl (by subst hz; exact hr)
theorem y_l2i {tb : Tables} [Ours tb] {e : Env} {below : List Frame} {T target : State} {m : MethodId} {c : Code} (h : At T m c below) (hx : tb.exec = Jvm.exec) {pc pc' : Nat} {L : Array Slot} {S : List Value} {x : Int64} {z : Int32} (hd : decode c.code pc = .ok (.l2i, 1)) (hz : x.toInt32 = z) (hp : pc + 1 = pc') (hr : Steps tb e below (T.setTop (mkF m pc' L (.int z :: S))) target) : Steps tb e below (T.setTop (mkF m pc L (.long x :: S))) target := by subst hp; exact XS.l2i h hx rfl hd rfl (by subst hz; exact hr)
theorem y_i2b {tb : Tables} [Ours tb] {e : Env} {below : List Frame} {T target : State} {m : MethodId} {c : Code} (h : At T m c below) (hx : tb.exec = Jvm.exec) {pc pc' : Nat} {L : Array Slot} {S : List Value} {x : Int32} {z : Int32} (hd : decode c.code pc = .ok (.i2b, 1)) (hz : x.toInt8.toInt32 = z) (hp : pc + 1 = pc') (hr : Steps tb e below (T.setTop (mkF m pc' L (.int z :: S))) target) : Steps tb e below (T.setTop (mkF m pc L (.int x :: S))) target := by subst hp; exact XS.i2b h hx rfl hd rfl (by subst hz; exact hr)
theorem y_i2s {tb : Tables} [Ours tb] {e : Env} {below : List Frame} {T target : State} {m : MethodId} {c : Code} (h : At T m c below) (hx : tb.exec = Jvm.exec) {pc pc' : Nat} {L : Array Slot} {S : List Value} {x : Int32} {z : Int32} (hd : decode c.code pc = .ok (.i2s, 1)) (hz : x.toInt16.toInt32 = z) (hp : pc + 1 = pc') (hr : Steps tb e below (T.setTop (mkF m pc' L (.int z :: S))) target) : Steps tb e below (T.setTop (mkF m pc L (.int x :: S))) target := by subst hp; exact XS.i2s h hx rfl hd rfl (by subst hz; exact hr)
theorem y_i2c {tb : Tables} [Ours tb] {e : Env} {below : List Frame} {T target : State} {m : MethodId} {c : Code} (h : At T m c below) (hx : tb.exec = Jvm.exec) {pc pc' : Nat} {L : Array Slot} {S : List Value} {x : Int32} {z : Int32} (hd : decode c.code pc = .ok (.i2c, 1)) (hz : x.toUInt32.toUInt16.toUInt32.toInt32 = z) (hp : pc + 1 = pc') (hr : Steps tb e below (T.setTop (mkF m pc' L (.int z :: S))) target) : Steps tb e below (T.setTop (mkF m pc L (.int x :: S))) target := by subst hp; exact XS.i2c h hx rfl hd rfl (by subst hz; exact hr)
theorem y_ishl {tb : Tables} [Ours tb] {e : Env} {below : List Frame} {T target : State} {m : MethodId} {c : Code} (h : At T m c below) (hx : tb.exec = Jvm.exec) {pc pc' : Nat} {L : Array Slot} {S : List Value} {x z : Int32} {y : Int32} (hd : decode c.code pc = .ok (.ishl, 1)) (hz : (x <<< (y &&& 31)) = z) (hp : pc + 1 = pc') (hr : Steps tb e below (T.setTop (mkF m pc' L (.int z :: S))) target) : Steps tb e below (T.setTop (mkF m pc L (.int y :: .int x :: S))) target := by subst hp; exact XS.ishl h hx rfl hd rfl (by subst hz; exact hr)
theorem y_ishr {tb : Tables} [Ours tb] {e : Env} {below : List Frame} {T target : State} {m : MethodId} {c : Code} (h : At T m c below) (hx : tb.exec = Jvm.exec) {pc pc' : Nat} {L : Array Slot} {S : List Value} {x z : Int32} {y : Int32} (hd : decode c.code pc = .ok (.ishr, 1)) (hz : (x >>> (y &&& 31)) = z) (hp : pc + 1 = pc') (hr : Steps tb e below (T.setTop (mkF m pc' L (.int z :: S))) target) : Steps tb e below (T.setTop (mkF m pc L (.int y :: .int x :: S))) target := by subst hp; exact XS.ishr h hx rfl hd rfl (by subst hz; exact hr)
theorem y_iushr {tb : Tables} [Ours tb] {e : Env} {below : List Frame} {T target : State} {m : MethodId} {c : Code} (h : At T m c below) (hx : tb.exec = Jvm.exec) {pc pc' : Nat} {L : Array Slot} {S : List Value} {x z : Int32} {y : Int32} (hd : decode c.code pc = .ok (.iushr, 1)) (hz : ((x.toUInt32 >>> (y &&& 31).toUInt32).toInt32) = z) (hp : pc + 1 = pc') (hr : Steps tb e below (T.setTop (mkF m pc' L (.int z :: S))) target) : Steps tb e below (T.setTop (mkF m pc L (.int y :: .int x :: S))) target := by subst hp; exact XS.iushr h hx rfl hd rfl (by subst hz; exact hr)
theorem y_lshl {tb : Tables} [Ours tb] {e : Env} {below : List Frame} {T target : State} {m : MethodId} {c : Code} (h : At T m c below) (hx : tb.exec = Jvm.exec) {pc pc' : Nat} {L : Array Slot} {S : List Value} {x z : Int64} {y : Int32} (hd : decode c.code pc = .ok (.lshl, 1)) (hz : (x <<< (y &&& 0x3f).toInt64) = z) (hp : pc + 1 = pc') (hr : Steps tb e below (T.setTop (mkF m pc' L (.long z :: S))) target) : Steps tb e below (T.setTop (mkF m pc L (.int y :: .long x :: S))) target := by subst hp; exact XS.lshl h hx rfl hd rfl (by subst hz; exact hr)
theorem y_lshr {tb : Tables} [Ours tb] {e : Env} {below : List Frame} {T target : State} {m : MethodId} {c : Code} (h : At T m c below) (hx : tb.exec = Jvm.exec) {pc pc' : Nat} {L : Array Slot} {S : List Value} {x z : Int64} {y : Int32} (hd : decode c.code pc = .ok (.lshr, 1)) (hz : (x >>> (y &&& 0x3f).toInt64) = z) (hp : pc + 1 = pc') (hr : Steps tb e below (T.setTop (mkF m pc' L (.long z :: S))) target) : Steps tb e below (T.setTop (mkF m pc L (.int y :: .long x :: S))) target := by subst hp; exact XS.lshr h hx rfl hd rfl (by subst hz; exact hr)
theorem y_lushr {tb : Tables} [Ours tb] {e : Env} {below : List Frame} {T target : State} {m : MethodId} {c : Code} (h : At T m c below) (hx : tb.exec = Jvm.exec) {pc pc' : Nat} {L : Array Slot} {S : List Value} {x z : Int64} {y : Int32} (hd : decode c.code pc = .ok (.lushr, 1)) (hz : ((x.toUInt64 >>> (y &&& 0x3f).toInt64.toUInt64).toInt64) = z) (hp : pc + 1 = pc') (hr : Steps tb e below (T.setTop (mkF m pc' L (.long z :: S))) target) : Steps tb e below (T.setTop (mkF m pc L (.int y :: .long x :: S))) target := by subst hp; exact XS.lushr h hx rfl hd rfl (by subst hz; exact hr)
theorem y_lcmp {tb : Tables} [Ours tb] {e : Env} {below : List Frame} {T target : State} {m : MethodId} {c : Code} (h : At T m c below) (hx : tb.exec = Jvm.exec) {pc pc' : Nat} {L : Array Slot} {S : List Value} {x y : Int64} (hd : decode c.code pc = .ok (.lcmp, 1)) (hp : pc + 1 = pc') (hr : Steps tb e below (T.setTop (mkF m pc' L (.int (lcmpW x y) :: S))) target) : Steps tb e below (T.setTop (mkF m pc L (.long y :: .long x :: S))) target := by subst hp; exact XS.lcmp h hx rfl hd rfl hr
theorem y_iinc {tb : Tables} [Ours tb] {e : Env} {below : List Frame} {T target : State} {m : MethodId} {c : Code} (h : At T m c below) (hx : tb.exec = Jvm.exec) {pc pc' : Nat} {L : Array Slot} {S : List Value} {k : Nat} {cst : Int} {x : Int32} {l' : Array Slot} (hd : decode c.code pc = .ok (.iinc k cst, 3)) (hl : L[k]? = some (.val (.int x))) (hl' : storeLocals L k (.int (x + Int32.ofInt cst)) = some l') (hp : pc + 3 = pc') (hr : Steps tb e below (T.setTop (mkF m pc' l' S)) target) : Steps tb e below (T.setTop (mkF m pc L S)) target := by subst hp; exact XS.iinc h hx rfl hd hl hl' hr
theorem y_dup {tb : Tables} [Ours tb] {e : Env} {below : List Frame} {T target : State} {m : MethodId} {c : Code} (h : At T m c below) (hx : tb.exec = Jvm.exec) {pc pc' : Nat} {L : Array Slot} {S : List Value} {v : Value} (hd : decode c.code pc = .ok (.dup, 1)) (hc : v.category = 1) (hp : pc + 1 = pc') (hr : Steps tb e below (T.setTop (mkF m pc' L (v :: v :: S))) target) : Steps tb e below (T.setTop (mkF m pc L (v :: S))) target := by subst hp; exact XS.dup h hx rfl hd rfl hc hr
theorem y_goto {tb : Tables} [Ours tb] {e : Env} {below : List Frame} {T target : State} {m : MethodId} {c : Code} (h : At T m c below) (hx : tb.exec = Jvm.exec) {pc pc' : Nat} {L : Array Slot} {S : List Value} {o : Int} (hd : decode c.code pc = .ok (.goto o, 3)) (ho : 0 ≤ (pc : Int) + o) (hp : ((pc : Int) + o).toNat = pc') (hr : Steps tb e below (T.setTop (mkF m pc' L S)) target) : Steps tb e below (T.setTop (mkF m pc L S)) target := XS.goto h hx rfl rfl hd ho hp hr
theorem y_ifYes {tb : Tables} [Ours tb] {e : Env} {below : List Frame} {T target : State} {m : MethodId} {c : Code} (h : At T m c below) (hx : tb.exec = Jvm.exec) {pc pc' : Nat} {L : Array Slot} {S : List Value} {cd : ClassFile.Cond} {x : Int32} {o : Int} (hd : decode c.code pc = .ok (.ifCond cd o, 3)) (hc : ifCond.holds cd x = true) (ho : 0 ≤ (pc : Int) + o) (hp : ((pc : Int) + o).toNat = pc') (hr : Steps tb e below (T.setTop (mkF m pc' L S)) target) : Steps tb e below (T.setTop (mkF m pc L (.int x :: S))) target := XS.ifYes h hx rfl rfl hd rfl hc ho hp hr
theorem y_ifNo {tb : Tables} [Ours tb] {e : Env} {below : List Frame} {T target : State} {m : MethodId} {c : Code} (h : At T m c below) (hx : tb.exec = Jvm.exec) {pc pc' : Nat} {L : Array Slot} {S : List Value} {cd : ClassFile.Cond} {x : Int32} {o : Int} (hd : decode c.code pc = .ok (.ifCond cd o, 3)) (hc : ifCond.holds cd x = false) (hp : pc + 3 = pc') (hr : Steps tb e below (T.setTop (mkF m pc' L S)) target) : Steps tb e below (T.setTop (mkF m pc L (.int x :: S))) target := by subst hp; exact XS.ifNo h hx rfl hd rfl hc hr
theorem y_icmpYes {tb : Tables} [Ours tb] {e : Env} {below : List Frame} {T target : State} {m : MethodId} {c : Code} (h : At T m c below) (hx : tb.exec = Jvm.exec) {pc pc' : Nat} {L : Array Slot} {S : List Value} {cd : ClassFile.Cond} {x y : Int32} {o : Int} (hd : decode c.code pc = .ok (.if_icmp cd o, 3)) (hc : if_icmp.holds cd x y = true) (ho : 0 ≤ (pc : Int) + o) (hp : ((pc : Int) + o).toNat = pc') (hr : Steps tb e below (T.setTop (mkF m pc' L S)) target) : Steps tb e below (T.setTop (mkF m pc L (.int y :: .int x :: S))) target := XS.icmpYes h hx rfl rfl hd rfl hc ho hp hr
theorem y_icmpNo {tb : Tables} [Ours tb] {e : Env} {below : List Frame} {T target : State} {m : MethodId} {c : Code} (h : At T m c below) (hx : tb.exec = Jvm.exec) {pc pc' : Nat} {L : Array Slot} {S : List Value} {cd : ClassFile.Cond} {x y : Int32} {o : Int} (hd : decode c.code pc = .ok (.if_icmp cd o, 3)) (hc : if_icmp.holds cd x y = false) (hp : pc + 3 = pc') (hr : Steps tb e below (T.setTop (mkF m pc' L S)) target) : Steps tb e below (T.setTop (mkF m pc L (.int y :: .int x :: S))) target := by subst hp; exact XS.icmpNo h hx rfl hd rfl hc hr
theorem own_of {x k : Int32} (h : x.toInt = k.toInt) : x = k := Int32.toInt_inj.mp h
theorem own_and3 (k : Int32) : k &&& 3 = 0 ∨ k &&& 3 = 1 ∨ k &&& 3 = 2 ∨ k &&& 3 = 3 := by
  have q : (k &&& 3).toInt = k.toInt % 4 := c_mask k 3 2 (by decide) (by decide)
  generalize k &&& 3 = x at q ⊢
  have : x.toInt = 0 ∨ x.toInt = 1 ∨ x.toInt = 2 ∨ x.toInt = 3 := by omega
  rcases this with h | h | h | h
  · exact Or.inl (own_of h)
  · exact Or.inr (Or.inl (own_of h))
  · exact Or.inr (Or.inr (Or.inl (own_of h)))
  · exact Or.inr (Or.inr (Or.inr (own_of h)))
theorem d1_0 : decode method_2_code 0 = .ok (.iload_n 0, 1) := by decide +kernel
theorem d1_1 : decode method_2_code 1 = .ok (.ifCond .ne 7, 3) := by decide +kernel
theorem d1_4 : decode method_2_code 4 = .ok (.getstatic 7, 3) := by decide +kernel
theorem d1_7 : decode method_2_code 7 = .ok (.areturn, 1) := by decide +kernel
theorem d1_8 : decode method_2_code 8 = .ok (.iload_n 0, 1) := by decide +kernel
theorem d1_9 : decode method_2_code 9 = .ok (.iconst 1, 1) := by decide +kernel
theorem d1_10 : decode method_2_code 10 = .ok (.if_icmp .ne 7, 3) := by decide +kernel
theorem d1_13 : decode method_2_code 13 = .ok (.getstatic 13, 3) := by decide +kernel
theorem d1_16 : decode method_2_code 16 = .ok (.areturn, 1) := by decide +kernel
theorem d1_17 : decode method_2_code 17 = .ok (.iload_n 0, 1) := by decide +kernel
theorem d1_18 : decode method_2_code 18 = .ok (.iconst 2, 1) := by decide +kernel
theorem d1_19 : decode method_2_code 19 = .ok (.if_icmp .ne 7, 3) := by decide +kernel
theorem d1_22 : decode method_2_code 22 = .ok (.getstatic 16, 3) := by decide +kernel
theorem d1_25 : decode method_2_code 25 = .ok (.areturn, 1) := by decide +kernel
theorem d1_26 : decode method_2_code 26 = .ok (.getstatic 19, 3) := by decide +kernel
theorem d1_29 : decode method_2_code 29 = .ok (.areturn, 1) := by decide +kernel
theorem pn_com_example_brace_brace_account_FixedRateAfterReservationPinLaw : plainName "com/example/brace/brace/account/FixedRateAfterReservationPinLaw" = true := by first | (simp [plainName, overriddenIn]; done) | decide +kernel
theorem ef_1 (m : MethodId) (x0 : Int32) : entryFrame m #[(.int x0)] 1 = mkF m 0 #[iv x0] [] := by first | (simp [entryFrame, mkF, argsToLocals, Value.category]; done) | rfl
def Q1 (Z : State) (pi0 : Int32) (w_UNRATED : Addr) (w_DUE : Addr) (w_SETTLED : Addr) (w_NONE : Addr) (h0 : Heap) (n0 : Nat) (v : Option Value) (h : Heap) (L : List Loc) : Prop := v = some (.ref (if pi0 = (0 : Int32) then w_UNRATED else (if pi0 = (1 : Int32) then w_DUE else (if pi0 = (2 : Int32) then w_SETTLED else w_NONE)))) ∧ Fr n0 L ∧ h = h0
set_option maxRecDepth 65536 in
set_option maxHeartbeats 40000000 in
theorem rm1 (l : Launch) (Z : State) (a0 : Array Value) (hw : ∀ d ∈ tables_1, d.before a0 Z = true) (ws : List Jvm.Cond) (pi0 : Int32) (w_UNRATED : Addr) (w_DUE : Addr) (w_SETTLED : Addr) (w_NONE : Addr) (h0 : Heap) (n0 : Nat) (O0 : Old Z n0 h0) (S_UNRATED : Sta Z Z.heap "com/example/brace/brace/account/Session$FixedRate" "UNRATED" "Lcom/example/brace/brace/account/Session$FixedRate;" (.ref w_UNRATED)) (S_DUE : Sta Z Z.heap "com/example/brace/brace/account/Session$FixedRate" "DUE" "Lcom/example/brace/brace/account/Session$FixedRate;" (.ref w_DUE)) (S_SETTLED : Sta Z Z.heap "com/example/brace/brace/account/Session$FixedRate" "SETTLED" "Lcom/example/brace/brace/account/Session$FixedRate;" (.ref w_SETTLED)) (S_NONE : Sta Z Z.heap "com/example/brace/brace/account/Session$FixedRate" "NONE" "Lcom/example/brace/brace/account/Session$FixedRate;" (.ref w_NONE)) :
    MetFree l (⟨"com/example/brace/brace/account/FixedRateAfterReservationPinLaw", "pick", "(I)Lcom/example/brace/brace/account/Session$FixedRate;"⟩ : MethodName) (head1 (Jvm.Cond.code (⟨"com/example/brace/brace/account/FixedRateAfterReservationPinLaw", "pick", "(I)Lcom/example/brace/brace/account/Session$FixedRate;"⟩ : MethodName) method_2_code 1 (some (.object "com/example/brace/brace/account/Session$FixedRate")) :: ws) ({ frames := 0, cells := 0, slots := 0, locals := 0 } : Room)) (fun a U => a = #[(.int pi0)] ∧ Z.Warmed39 U.vm ∧ U.heap = h0) (fun _ _ _ _ _ => True) (fun _ U o U' => ∃ v L, o = .returned v ∧ Q1 Z pi0 w_UNRATED w_DUE w_SETTLED w_NONE h0 n0 v U'.heap L ∧ FrameEnd U o U' L ({ frames := 0, cells := 0, slots := 0, locals := 0 } : Room).cells ({ frames := 0, cells := 0, slots := 0, locals := 0 } : Room).slots) := by
  refine MetFree.of_bodySF (plainFor_of_name pn_com_example_brace_brace_account_FixedRateAfterReservationPinLaw) hisR ?_
  intro p e s m args below meth c s₁ Bd hml0 hP hK
  obtain ⟨rfl, hZ, hh⟩ := hP
  have hx := Bd.exec
  have hby := Bd.bytes
  have hml : c.maxLocals = 1 := hml0
  have hown : s.vm.findClass "com/example/brace/brace/account/FixedRateAfterReservationPinLaw" = some m.cls := findClass_of_methodNamed Bd.named
  have hnm := (name_of_methodNamed Bd.named Bd.method).1
  have X0 : Stand p l e ({ frames := 0, cells := 0, slots := 0, locals := 0 } : Room) s m #[(.int pi0)] below meth c s₁ [] 0 0 := Stand.of_body Bd
  have e0 : s₁.heap = h0 := by rw [← hh, Bd.state]; rfl
  have N0 := Fr.nil n0
  obtain ⟨Go, hGo⟩ : ∃ P : State → Prop, ∀ t, P t ↔ Steps p.tables e below (s₁.setTop (entryFrame m #[(.int pi0)] 1)) t := ⟨_, fun _ => Iff.rfl⟩
  have pre0 : ∀ t, Steps p.tables e below (s₁.setTop (mkF m 0 #[iv pi0] [])) t → Go t := fun t k => (hGo t).mpr (castTop (ef_1 m pi0) k)
  have pre1 : ∀ t, Steps p.tables e below (s₁.setTop (mkF m 1 #[iv pi0] [(.int pi0)])) t → Go t := fun t kt => pre0 t (by
      refine y_iloadN X0.here hx (hb hby d1_0) rfl (pc' := 1) rfl ?_
      exact kt)
  by_cases hc1_2 : pi0 = (0 : Int32)
  · have pre3 : ∀ t, Steps p.tables e below (s₁.setTop (mkF m 4 #[iv pi0] [])) t → Go t := fun t kt => pre1 t (by
        refine y_ifNo X0.here hx (hb hby d1_1) ((if0 _ _).trans (teq hc1_2).2) (pc' := 4) rfl ?_
        exact kt)
    obtain ⟨T4, X4, e4, st4⟩ := getS2 X0 hx hZ hown (host := "") (Or.inl (hw _ (List.mem_of_getElem? (i := 4) rfl))) Via.refl e0 (S_UNRATED.ext O0.2) (g := (mkF m 4 #[iv pi0] [])) rfl (hb hby d1_4)
    have pre5 : ∀ t, Steps p.tables e below (T4.setTop (mkF m 7 #[iv pi0] [(.ref w_UNRATED)])) t → Go t := fun t kt => pre3 t (st4 t kt)
    obtain ⟨fs, hr, hrun, hended, hW, hsame⟩ := X4.leave (v := some (.ref w_UNRATED)) (fun h => by rw [Bd.returns] at h; cases h)
    refine ⟨_, _, (hGo _).mp (pre5 _ ?_), hrun, hended, _, _, rfl, ?_, ⟨_, rfl⟩, hW, hsame.mono (by decide) (by decide)⟩
    · exact retOut X4 hx Bd.returns rfl (Or.inr (Or.inr (Or.inr (Or.inr ⟨rfl, rfl, rfl⟩)))) (hb hby d1_7) hr
    · show Q1 Z pi0 w_UNRATED w_DUE w_SETTLED w_NONE h0 n0 _ T4.heap _
      rw [e4]
      exact ⟨(by first | (simp only [if_pos hc1_2]; done) | (simp only [if_pos hc1_2]; exact rfl) | exact rfl), N0, rfl⟩
  · have pre6 : ∀ t, Steps p.tables e below (s₁.setTop (mkF m 10 #[iv pi0] [(.int (1 : Int32)), (.int pi0)])) t → Go t := fun t kt => pre1 t (by
        refine y_ifYes X0.here hx (hb hby d1_1) ((if0 _ _).trans (feq hc1_2).2) (pc' := 8) (by decide) rfl ?_
        refine y_iloadN X0.here hx (hb hby d1_8) rfl (pc' := 9) rfl ?_
        refine y_iconst X0.here hx (hb hby d1_9) (v := (1 : Int32)) rfl (pc' := 10) rfl ?_
        exact kt)
    by_cases hc10_7 : pi0 = (1 : Int32)
    · have pre8 : ∀ t, Steps p.tables e below (s₁.setTop (mkF m 13 #[iv pi0] [])) t → Go t := fun t kt => pre6 t (by
          refine y_icmpNo X0.here hx (hb hby d1_10) (teq hc10_7).2 (pc' := 13) rfl ?_
          exact kt)
      obtain ⟨T9, X9, e9, st9⟩ := getS2 X0 hx hZ hown (host := "") (Or.inl (hw _ (List.mem_of_getElem? (i := 7) rfl))) Via.refl e0 (S_DUE.ext O0.2) (g := (mkF m 13 #[iv pi0] [])) rfl (hb hby d1_13)
      have pre10 : ∀ t, Steps p.tables e below (T9.setTop (mkF m 16 #[iv pi0] [(.ref w_DUE)])) t → Go t := fun t kt => pre8 t (st9 t kt)
      obtain ⟨fs, hr, hrun, hended, hW, hsame⟩ := X9.leave (v := some (.ref w_DUE)) (fun h => by rw [Bd.returns] at h; cases h)
      refine ⟨_, _, (hGo _).mp (pre10 _ ?_), hrun, hended, _, _, rfl, ?_, ⟨_, rfl⟩, hW, hsame.mono (by decide) (by decide)⟩
      · exact retOut X9 hx Bd.returns rfl (Or.inr (Or.inr (Or.inr (Or.inr ⟨rfl, rfl, rfl⟩)))) (hb hby d1_16) hr
      · show Q1 Z pi0 w_UNRATED w_DUE w_SETTLED w_NONE h0 n0 _ T9.heap _
        rw [e9]
        exact ⟨(by first | (simp only [if_neg hc1_2, if_pos hc10_7]; done) | (simp only [if_neg hc1_2, if_pos hc10_7]; exact rfl) | exact rfl), N0, rfl⟩
    · have pre11 : ∀ t, Steps p.tables e below (s₁.setTop (mkF m 19 #[iv pi0] [(.int (2 : Int32)), (.int pi0)])) t → Go t := fun t kt => pre6 t (by
          refine y_icmpYes X0.here hx (hb hby d1_10) (feq hc10_7).2 (pc' := 17) (by decide) rfl ?_
          refine y_iloadN X0.here hx (hb hby d1_17) rfl (pc' := 18) rfl ?_
          refine y_iconst X0.here hx (hb hby d1_18) (v := (2 : Int32)) rfl (pc' := 19) rfl ?_
          exact kt)
      by_cases hc19_12 : pi0 = (2 : Int32)
      · have pre13 : ∀ t, Steps p.tables e below (s₁.setTop (mkF m 22 #[iv pi0] [])) t → Go t := fun t kt => pre11 t (by
            refine y_icmpNo X0.here hx (hb hby d1_19) (teq hc19_12).2 (pc' := 22) rfl ?_
            exact kt)
        obtain ⟨T14, X14, e14, st14⟩ := getS2 X0 hx hZ hown (host := "") (Or.inl (hw _ (List.mem_of_getElem? (i := 19) rfl))) Via.refl e0 (S_SETTLED.ext O0.2) (g := (mkF m 22 #[iv pi0] [])) rfl (hb hby d1_22)
        have pre15 : ∀ t, Steps p.tables e below (T14.setTop (mkF m 25 #[iv pi0] [(.ref w_SETTLED)])) t → Go t := fun t kt => pre13 t (st14 t kt)
        obtain ⟨fs, hr, hrun, hended, hW, hsame⟩ := X14.leave (v := some (.ref w_SETTLED)) (fun h => by rw [Bd.returns] at h; cases h)
        refine ⟨_, _, (hGo _).mp (pre15 _ ?_), hrun, hended, _, _, rfl, ?_, ⟨_, rfl⟩, hW, hsame.mono (by decide) (by decide)⟩
        · exact retOut X14 hx Bd.returns rfl (Or.inr (Or.inr (Or.inr (Or.inr ⟨rfl, rfl, rfl⟩)))) (hb hby d1_25) hr
        · show Q1 Z pi0 w_UNRATED w_DUE w_SETTLED w_NONE h0 n0 _ T14.heap _
          rw [e14]
          exact ⟨(by first | (simp only [if_neg hc1_2, if_neg hc10_7, if_pos hc19_12]; done) | (simp only [if_neg hc1_2, if_neg hc10_7, if_pos hc19_12]; exact rfl) | exact rfl), N0, rfl⟩
      · have pre16 : ∀ t, Steps p.tables e below (s₁.setTop (mkF m 26 #[iv pi0] [])) t → Go t := fun t kt => pre11 t (by
            refine y_icmpYes X0.here hx (hb hby d1_19) (feq hc19_12).2 (pc' := 26) (by decide) rfl ?_
            exact kt)
        obtain ⟨T17, X17, e17, st17⟩ := getS2 X0 hx hZ hown (host := "") (Or.inl (hw _ (List.mem_of_getElem? (i := 16) rfl))) Via.refl e0 (S_NONE.ext O0.2) (g := (mkF m 26 #[iv pi0] [])) rfl (hb hby d1_26)
        have pre18 : ∀ t, Steps p.tables e below (T17.setTop (mkF m 29 #[iv pi0] [(.ref w_NONE)])) t → Go t := fun t kt => pre16 t (st17 t kt)
        obtain ⟨fs, hr, hrun, hended, hW, hsame⟩ := X17.leave (v := some (.ref w_NONE)) (fun h => by rw [Bd.returns] at h; cases h)
        refine ⟨_, _, (hGo _).mp (pre18 _ ?_), hrun, hended, _, _, rfl, ?_, ⟨_, rfl⟩, hW, hsame.mono (by decide) (by decide)⟩
        · exact retOut X17 hx Bd.returns rfl (Or.inr (Or.inr (Or.inr (Or.inr ⟨rfl, rfl, rfl⟩)))) (hb hby d1_29) hr
        · show Q1 Z pi0 w_UNRATED w_DUE w_SETTLED w_NONE h0 n0 _ T17.heap _
          rw [e17]
          exact ⟨(by first | (simp only [if_neg hc1_2, if_neg hc10_7, if_neg hc19_12]; done) | (simp only [if_neg hc1_2, if_neg hc10_7, if_neg hc19_12]; exact rfl) | exact rfl), N0, rfl⟩
theorem d2_0 : decode prog_4_method_6_code 0 = .ok (.aload_n 0, 1) := by decide +kernel
theorem d2_1 : decode prog_4_method_6_code 1 = .ok (.getstatic 3, 3) := by decide +kernel
theorem d2_4 : decode prog_4_method_6_code 4 = .ok (.if_acmp .eq 5, 3) := by decide +kernel
theorem d2_7 : decode prog_4_method_6_code 7 = .ok (.aload_n 0, 1) := by decide +kernel
theorem d2_8 : decode prog_4_method_6_code 8 = .ok (.areturn, 1) := by decide +kernel
theorem d2_9 : decode prog_4_method_6_code 9 = .ok (.iload_n 1, 1) := by decide +kernel
theorem d2_10 : decode prog_4_method_6_code 10 = .ok (.ifCond .eq 9, 3) := by decide +kernel
theorem d2_13 : decode prog_4_method_6_code 13 = .ok (.getstatic 7, 3) := by decide +kernel
theorem d2_16 : decode prog_4_method_6_code 16 = .ok (.goto 6, 3) := by decide +kernel
theorem d2_19 : decode prog_4_method_6_code 19 = .ok (.getstatic 13, 3) := by decide +kernel
theorem d2_22 : decode prog_4_method_6_code 22 = .ok (.areturn, 1) := by decide +kernel
theorem pn_com_example_brace_brace_account_Session_FixedRate : plainName "com/example/brace/brace/account/Session$FixedRate" = true := by first | (simp [plainName, overriddenIn]; done) | decide +kernel
theorem ef_2 (m : MethodId) (x0 : Addr) (x1 : Int32) : entryFrame m #[(.ref x0), (.int x1)] 2 = mkF m 0 #[rv x0, iv x1] [] := by first | (simp [entryFrame, mkF, argsToLocals, Value.category]; done) | rfl
def Q2 (Z : State) (pr0 : Addr) (pi1 : Int32) (w_UNRATED : Addr) (w_DUE : Addr) (w_NONE : Addr) (h0 : Heap) (n0 : Nat) (v : Option Value) (h : Heap) (L : List Loc) : Prop := v = some (.ref (if pr0 = w_UNRATED then (if pi1 = (0 : Int32) then w_NONE else w_DUE) else pr0)) ∧ Fr n0 L ∧ h = h0
set_option maxRecDepth 65536 in
set_option maxHeartbeats 40000000 in
theorem rm2 (l : Launch) (Z : State) (a0 : Array Value) (hw : ∀ d ∈ tables_1, d.before a0 Z = true) (ws : List Jvm.Cond) (pr0 : Addr) (pi1 : Int32) (w_UNRATED : Addr) (w_DUE : Addr) (w_NONE : Addr) (h0 : Heap) (n0 : Nat) (O0 : Old Z n0 h0) (S_UNRATED : Sta Z Z.heap "com/example/brace/brace/account/Session$FixedRate" "UNRATED" "Lcom/example/brace/brace/account/Session$FixedRate;" (.ref w_UNRATED)) (S_DUE : Sta Z Z.heap "com/example/brace/brace/account/Session$FixedRate" "DUE" "Lcom/example/brace/brace/account/Session$FixedRate;" (.ref w_DUE)) (S_NONE : Sta Z Z.heap "com/example/brace/brace/account/Session$FixedRate" "NONE" "Lcom/example/brace/brace/account/Session$FixedRate;" (.ref w_NONE)) :
    MetFree l (⟨"com/example/brace/brace/account/Session$FixedRate", "afterReservation", "(Z)Lcom/example/brace/brace/account/Session$FixedRate;"⟩ : MethodName) (head1 (Jvm.Cond.code (⟨"com/example/brace/brace/account/Session$FixedRate", "afterReservation", "(Z)Lcom/example/brace/brace/account/Session$FixedRate;"⟩ : MethodName) prog_4_method_6_code 2 (some (.object "com/example/brace/brace/account/Session$FixedRate")) :: ws) ({ frames := 0, cells := 0, slots := 0, locals := 0 } : Room)) (fun a U => a = #[(.ref pr0), (.int pi1)] ∧ Z.Warmed39 U.vm ∧ U.heap = h0) (fun _ _ _ _ _ => True) (fun _ U o U' => ∃ v L, o = .returned v ∧ Q2 Z pr0 pi1 w_UNRATED w_DUE w_NONE h0 n0 v U'.heap L ∧ FrameEnd U o U' L ({ frames := 0, cells := 0, slots := 0, locals := 0 } : Room).cells ({ frames := 0, cells := 0, slots := 0, locals := 0 } : Room).slots) := by
  refine MetFree.of_bodySF (plainFor_of_name pn_com_example_brace_brace_account_Session_FixedRate) hisR ?_
  intro p e s m args below meth c s₁ Bd hml0 hP hK
  obtain ⟨rfl, hZ, hh⟩ := hP
  have hx := Bd.exec
  have hby := Bd.bytes
  have hml : c.maxLocals = 2 := hml0
  have hown : s.vm.findClass "com/example/brace/brace/account/Session$FixedRate" = some m.cls := findClass_of_methodNamed Bd.named
  have hnm := (name_of_methodNamed Bd.named Bd.method).1
  have X0 : Stand p l e ({ frames := 0, cells := 0, slots := 0, locals := 0 } : Room) s m #[(.ref pr0), (.int pi1)] below meth c s₁ [] 0 0 := Stand.of_body Bd
  have e0 : s₁.heap = h0 := by rw [← hh, Bd.state]; rfl
  have N0 := Fr.nil n0
  obtain ⟨Go, hGo⟩ : ∃ P : State → Prop, ∀ t, P t ↔ Steps p.tables e below (s₁.setTop (entryFrame m #[(.ref pr0), (.int pi1)] 2)) t := ⟨_, fun _ => Iff.rfl⟩
  have pre0 : ∀ t, Steps p.tables e below (s₁.setTop (mkF m 0 #[rv pr0, iv pi1] [])) t → Go t := fun t k => (hGo t).mpr (castTop (ef_2 m pr0 pi1) k)
  have pre1 : ∀ t, Steps p.tables e below (s₁.setTop (mkF m 1 #[rv pr0, iv pi1] [(.ref pr0)])) t → Go t := fun t kt => pre0 t (by
      refine y_aloadN X0.here hx (hb hby d2_0) rfl rfl (pc' := 1) rfl ?_
      exact kt)
  obtain ⟨T2, X2, e2, st2⟩ := getS2 X0 hx hZ hown (host := "") (Or.inl (hw _ (List.mem_of_getElem? (i := 14) rfl))) Via.refl e0 (S_UNRATED.ext O0.2) (g := (mkF m 1 #[rv pr0, iv pi1] [(.ref pr0)])) rfl (hb hby d2_1)
  have pre3 : ∀ t, Steps p.tables e below (T2.setTop (mkF m 4 #[rv pr0, iv pi1] [(.ref w_UNRATED), (.ref pr0)])) t → Go t := fun t kt => pre1 t (st2 t kt)
  by_cases hc4_4 : pr0 = w_UNRATED
  · have pre5 : ∀ t, Steps p.tables e below (T2.setTop (mkF m 10 #[rv pr0, iv pi1] [(.int pi1)])) t → Go t := fun t kt => pre3 t (by
        refine Jvm.RoadKit.acmp (g := (mkF m 4 #[rv pr0, iv pi1] [(.ref w_UNRATED), (.ref pr0)])) X2 hx rfl rfl rfl (pc0 := 4) (pc' := 9) (same := true) rfl (hb hby d2_4) rfl (decide_eq_true (congrArg Value.ref hc4_4)) (by decide) (by decide) ?_
        show Steps p.tables e below (T2.setTop (mkF m 9 #[rv pr0, iv pi1] [])) _
        refine y_iloadN X2.here hx (hb hby d2_9) rfl (pc' := 10) rfl ?_
        exact kt)
    by_cases hc10_6 : pi1 = (0 : Int32)
    · have pre7 : ∀ t, Steps p.tables e below (T2.setTop (mkF m 19 #[rv pr0, iv pi1] [])) t → Go t := fun t kt => pre5 t (by
          refine y_ifYes X2.here hx (hb hby d2_10) ((if0 _ _).trans (teq hc10_6).1) (pc' := 19) (by decide) rfl ?_
          exact kt)
      obtain ⟨T8, X8, e8, st8⟩ := getS2 X2 hx hZ hown (host := "") (Or.inl (hw _ (List.mem_of_getElem? (i := 18) rfl))) Via.refl e2 (S_NONE.ext O0.2) (g := (mkF m 19 #[rv pr0, iv pi1] [])) rfl (hb hby d2_19)
      have pre9 : ∀ t, Steps p.tables e below (T8.setTop (mkF m 22 #[rv pr0, iv pi1] [(.ref w_NONE)])) t → Go t := fun t kt => pre7 t (st8 t kt)
      obtain ⟨fs, hr, hrun, hended, hW, hsame⟩ := X8.leave (v := some (.ref w_NONE)) (fun h => by rw [Bd.returns] at h; cases h)
      refine ⟨_, _, (hGo _).mp (pre9 _ ?_), hrun, hended, _, _, rfl, ?_, ⟨_, rfl⟩, hW, hsame.mono (by decide) (by decide)⟩
      · exact retOut X8 hx Bd.returns rfl (Or.inr (Or.inr (Or.inr (Or.inr ⟨rfl, rfl, rfl⟩)))) (hb hby d2_22) hr
      · show Q2 Z pr0 pi1 w_UNRATED w_DUE w_NONE h0 n0 _ T8.heap _
        rw [e8]
        exact ⟨(by first | (simp only [if_pos hc4_4, if_pos hc10_6]; done) | (simp only [if_pos hc4_4, if_pos hc10_6]; exact rfl) | exact rfl), N0, rfl⟩
    · have pre10 : ∀ t, Steps p.tables e below (T2.setTop (mkF m 13 #[rv pr0, iv pi1] [])) t → Go t := fun t kt => pre5 t (by
          refine y_ifNo X2.here hx (hb hby d2_10) ((if0 _ _).trans (feq hc10_6).1) (pc' := 13) rfl ?_
          exact kt)
      obtain ⟨T11, X11, e11, st11⟩ := getS2 X2 hx hZ hown (host := "") (Or.inl (hw _ (List.mem_of_getElem? (i := 15) rfl))) Via.refl e2 (S_DUE.ext O0.2) (g := (mkF m 13 #[rv pr0, iv pi1] [])) rfl (hb hby d2_13)
      have pre12 : ∀ t, Steps p.tables e below (T11.setTop (mkF m 16 #[rv pr0, iv pi1] [(.ref w_DUE)])) t → Go t := fun t kt => pre10 t (st11 t kt)
      have pre13 : ∀ t, Steps p.tables e below (T11.setTop (mkF m 22 #[rv pr0, iv pi1] [(.ref w_DUE)])) t → Go t := fun t kt => pre12 t (by
          refine y_goto X11.here hx (hb hby d2_16) (pc' := 22) (by decide) rfl ?_
          exact kt)
      obtain ⟨fs, hr, hrun, hended, hW, hsame⟩ := X11.leave (v := some (.ref w_DUE)) (fun h => by rw [Bd.returns] at h; cases h)
      refine ⟨_, _, (hGo _).mp (pre13 _ ?_), hrun, hended, _, _, rfl, ?_, ⟨_, rfl⟩, hW, hsame.mono (by decide) (by decide)⟩
      · exact retOut X11 hx Bd.returns rfl (Or.inr (Or.inr (Or.inr (Or.inr ⟨rfl, rfl, rfl⟩)))) (hb hby d2_22) hr
      · show Q2 Z pr0 pi1 w_UNRATED w_DUE w_NONE h0 n0 _ T11.heap _
        rw [e11]
        exact ⟨(by first | (simp only [if_pos hc4_4, if_neg hc10_6]; done) | (simp only [if_pos hc4_4, if_neg hc10_6]; exact rfl) | exact rfl), N0, rfl⟩
  · have pre14 : ∀ t, Steps p.tables e below (T2.setTop (mkF m 8 #[rv pr0, iv pi1] [(.ref pr0)])) t → Go t := fun t kt => pre3 t (by
        refine Jvm.RoadKit.acmp (g := (mkF m 4 #[rv pr0, iv pi1] [(.ref w_UNRATED), (.ref pr0)])) X2 hx rfl rfl rfl (pc0 := 4) (pc' := 7) (same := false) rfl (hb hby d2_4) rfl (decide_eq_false fun q => hc4_4 (Value.ref.inj q)) (by decide) (by decide) ?_
        show Steps p.tables e below (T2.setTop (mkF m 7 #[rv pr0, iv pi1] [])) _
        refine y_aloadN X2.here hx (hb hby d2_7) rfl rfl (pc' := 8) rfl ?_
        exact kt)
    obtain ⟨fs, hr, hrun, hended, hW, hsame⟩ := X2.leave (v := some (.ref pr0)) (fun h => by rw [Bd.returns] at h; cases h)
    refine ⟨_, _, (hGo _).mp (pre14 _ ?_), hrun, hended, _, _, rfl, ?_, ⟨_, rfl⟩, hW, hsame.mono (by decide) (by decide)⟩
    · exact retOut X2 hx Bd.returns rfl (Or.inr (Or.inr (Or.inr (Or.inr ⟨rfl, rfl, rfl⟩)))) (hb hby d2_8) hr
    · show Q2 Z pr0 pi1 w_UNRATED w_DUE w_NONE h0 n0 _ T2.heap _
      rw [e2]
      exact ⟨(by first | (simp only [if_neg hc4_4]; done) | (simp only [if_neg hc4_4]; exact rfl) | exact rfl), N0, rfl⟩
theorem pd__I_Lcom_example_brace_brace_account_Session_FixedRate_ : parseMethodDescriptor "(I)Lcom/example/brace/brace/account/Session$FixedRate;" = some ⟨[.int], some (.object "com/example/brace/brace/account/Session$FixedRate")⟩ := by decide +kernel
theorem pd__Z_Lcom_example_brace_brace_account_Session_FixedRate_ : parseMethodDescriptor "(Z)Lcom/example/brace/brace/account/Session$FixedRate;" = some ⟨[.boolean], some (.object "com/example/brace/brace/account/Session$FixedRate")⟩ := by decide +kernel
theorem ef_0 (m : MethodId) (x0 : Int32) (x1 : Int32) (x2 : Int32) : entryFrame m #[(.int x0), (.int x1), (.int x2)] maxLocals = mkF m 0 #[iv x0, iv x1, iv x2, .unset, .unset, .unset, .unset, .unset, .unset] [] := by first | (simp [entryFrame, mkF, argsToLocals, Value.category, maxLocals]; done) | rfl
def Q0 (Z : State) (pi0 : Int32) (pi1 : Int32) (pi2 : Int32) (w_UNRATED : Addr) (w_DUE : Addr) (w_SETTLED : Addr) (w_NONE : Addr) (h0 : Heap) (n0 : Nat) (v : Option Value) (h : Heap) (L : List Loc) : Prop := v = some (.int (1 : Int32)) ∧ Fr n0 L
set_option maxRecDepth 65536 in
set_option maxHeartbeats 40000000 in
theorem rm0 (l : Launch) (Z : State) (a0 : Array Value) (hw : ∀ d ∈ tables_1, d.before a0 Z = true) (ws : List Jvm.Cond) (pi0 : Int32) (pi1 : Int32) (pi2 : Int32) (w_UNRATED : Addr) (w_DUE : Addr) (w_SETTLED : Addr) (w_NONE : Addr) (h0 : Heap) (n0 : Nat) (O0 : Old Z n0 h0) (S_UNRATED : Sta Z Z.heap "com/example/brace/brace/account/Session$FixedRate" "UNRATED" "Lcom/example/brace/brace/account/Session$FixedRate;" (.ref w_UNRATED)) (S_DUE : Sta Z Z.heap "com/example/brace/brace/account/Session$FixedRate" "DUE" "Lcom/example/brace/brace/account/Session$FixedRate;" (.ref w_DUE)) (S_SETTLED : Sta Z Z.heap "com/example/brace/brace/account/Session$FixedRate" "SETTLED" "Lcom/example/brace/brace/account/Session$FixedRate;" (.ref w_SETTLED)) (S_NONE : Sta Z Z.heap "com/example/brace/brace/account/Session$FixedRate" "NONE" "Lcom/example/brace/brace/account/Session$FixedRate;" (.ref w_NONE)) (E_w_UNRATED : Exa Z Z.heap w_UNRATED "com/example/brace/brace/account/Session$FixedRate") (E_w_DUE : Exa Z Z.heap w_DUE "com/example/brace/brace/account/Session$FixedRate") (E_w_SETTLED : Exa Z Z.heap w_SETTLED "com/example/brace/brace/account/Session$FixedRate") (E_w_NONE : Exa Z Z.heap w_NONE "com/example/brace/brace/account/Session$FixedRate") (ne_UNRATED_DUE : w_UNRATED ≠ w_DUE) (ne_UNRATED_SETTLED : w_UNRATED ≠ w_SETTLED) (ne_UNRATED_NONE : w_UNRATED ≠ w_NONE) (ne_DUE_SETTLED : w_DUE ≠ w_SETTLED) (ne_DUE_NONE : w_DUE ≠ w_NONE) (ne_SETTLED_NONE : w_SETTLED ≠ w_NONE) :
    MetFree l x (head1 (Jvm.Cond.code x code maxLocals ret :: ws) room_1) (fun a U => a = #[(.int pi0), (.int pi1), (.int pi2)] ∧ Z.Warmed39 U.vm ∧ U.heap = h0) (fun _ _ _ _ _ => True) (fun _ U o U' => ∃ v L, o = .returned v ∧ Q0 Z pi0 pi1 pi2 w_UNRATED w_DUE w_SETTLED w_NONE h0 n0 v U'.heap L ∧ FrameEnd U o U' L room_1.cells room_1.slots) := by
  refine MetFree.of_bodySF (plainFor_of_name pn_com_example_brace_brace_account_FixedRateAfterReservationPinLaw) hisR ?_
  intro p e s m args below meth c s₁ Bd hml0 hP hK
  obtain ⟨rfl, hZ, hh⟩ := hP
  have hx := Bd.exec
  have hby := Bd.bytes
  have hml : c.maxLocals = 9 := hml0
  have hown : s.vm.findClass "com/example/brace/brace/account/FixedRateAfterReservationPinLaw" = some m.cls := findClass_of_methodNamed Bd.named
  have hnm := (name_of_methodNamed Bd.named Bd.method).1
  have X0 : Stand p l e room_1 s m #[(.int pi0), (.int pi1), (.int pi2)] below meth c s₁ [] 0 0 := Stand.of_body Bd
  have e0 : s₁.heap = h0 := by rw [← hh, Bd.state]; rfl
  have N0 := Fr.nil n0
  obtain ⟨Go, hGo⟩ : ∃ P : State → Prop, ∀ t, P t ↔ Steps p.tables e below (s₁.setTop (entryFrame m #[(.int pi0), (.int pi1), (.int pi2)] maxLocals)) t := ⟨_, fun _ => Iff.rfl⟩
  have pre0 : ∀ t, Steps p.tables e below (s₁.setTop (mkF m 0 #[iv pi0, iv pi1, iv pi2, .unset, .unset, .unset, .unset, .unset, .unset] [])) t → Go t := fun t k => (hGo t).mpr (castTop (ef_0 m pi0 pi1 pi2) k)
  obtain ⟨x1, hx1⟩ : ∃ z : Int32, z = (pi0 &&& (3 : Int32)) := ⟨_, rfl⟩
  have pre2 : ∀ t, Steps p.tables e below (s₁.setTop (mkF m 4 #[iv pi0, iv pi1, iv pi2, iv x1, .unset, .unset, .unset, .unset, .unset] [])) t → Go t := fun t kt => pre0 t (by
      subst hx1
      refine y_iloadN X0.here hx (hb hby at_0) rfl (pc' := 1) rfl ?_
      refine y_iconst X0.here hx (hb hby at_1) (v := (3 : Int32)) rfl (pc' := 2) rfl ?_
      refine y_iand X0.here hx (hb hby at_2) rfl (pc' := 3) rfl ?_
      refine y_istoreN X0.here hx (hb hby at_3) (l' := #[iv pi0, iv pi1, iv pi2, iv (pi0 &&& (3 : Int32)), .unset, .unset, .unset, .unset, .unset]) rfl (pc' := 4) rfl ?_
      exact kt)
  have pre3 : ∀ t, Steps p.tables e below (s₁.setTop (mkF m 7 #[iv pi0, iv pi1, iv pi2, iv x1, .unset, .unset, .unset, .unset, .unset] [(.int (pi1 &&& (1 : Int32)))])) t → Go t := fun t kt => pre2 t (by
      refine y_iloadN X0.here hx (hb hby at_4) rfl (pc' := 5) rfl ?_
      refine y_iconst X0.here hx (hb hby at_5) (v := (1 : Int32)) rfl (pc' := 6) rfl ?_
      refine y_iand X0.here hx (hb hby at_6) rfl (pc' := 7) rfl ?_
      exact kt)
  by_cases hc7_4 : (pi1 &&& (1 : Int32)) = (0 : Int32)
  · have pre5 : ∀ t, Steps p.tables e below (s₁.setTop (mkF m 20 #[iv pi0, iv pi1, iv pi2, iv x1, iv (0 : Int32), .unset, .unset, .unset, .unset] [(.int (pi2 &&& (1 : Int32)))])) t → Go t := fun t kt => pre3 t (by
        refine y_ifYes X0.here hx (hb hby at_7) ((if0 _ _).trans (teq hc7_4).1) (pc' := 14) (by decide) rfl ?_
        refine y_iconst X0.here hx (hb hby at_14) (v := (0 : Int32)) rfl (pc' := 15) rfl ?_
        refine y_istore X0.here hx (hb hby at_15) (l' := #[iv pi0, iv pi1, iv pi2, iv x1, iv (0 : Int32), .unset, .unset, .unset, .unset]) rfl (pc' := 17) rfl ?_
        refine y_iloadN X0.here hx (hb hby at_17) rfl (pc' := 18) rfl ?_
        refine y_iconst X0.here hx (hb hby at_18) (v := (1 : Int32)) rfl (pc' := 19) rfl ?_
        refine y_iand X0.here hx (hb hby at_19) rfl (pc' := 20) rfl ?_
        exact kt)
    by_cases hc20_6 : (pi2 &&& (1 : Int32)) = (0 : Int32)
    · have pre7 : ∀ t, Steps p.tables e below (s₁.setTop (mkF m 30 #[iv pi0, iv pi1, iv pi2, iv x1, iv (0 : Int32), iv (0 : Int32), .unset, .unset, .unset] [])) t → Go t := fun t kt => pre5 t (by
          refine y_ifYes X0.here hx (hb hby at_20) ((if0 _ _).trans (teq hc20_6).1) (pc' := 27) (by decide) rfl ?_
          refine y_iconst X0.here hx (hb hby at_27) (v := (0 : Int32)) rfl (pc' := 28) rfl ?_
          refine y_istore X0.here hx (hb hby at_28) (l' := #[iv pi0, iv pi1, iv pi2, iv x1, iv (0 : Int32), iv (0 : Int32), .unset, .unset, .unset]) rfl (pc' := 30) rfl ?_
          exact kt)
      have hs30_8 : x1 = (0 : Int32) ∨ x1 = (1 : Int32) ∨ x1 = (2 : Int32) ∨ x1 = (3 : Int32) := by
          rw [hx1]; exact own_and3 _
      rcases hs30_8 with rfl | rfl | rfl | rfl
      · skip
        have pre9 : ∀ t, Steps p.tables e below (s₁.setTop (mkF m 31 #[iv pi0, iv pi1, iv pi2, iv (0 : Int32), iv (0 : Int32), iv (0 : Int32), .unset, .unset, .unset] [(.int (0 : Int32))])) t → Go t := fun t kt => pre7 t (by
            refine y_iloadN X0.here hx (hb hby at_30) rfl (pc' := 31) rfl ?_
            exact kt)
        obtain ⟨v10, _, ⟨T10, L10, k10, n10⟩, -, X10, ⟨Lc10, hQ10, l10, y10, z10⟩, st10⟩ := Jvm.LawKit.callS X0 hx (y := (⟨"com/example/brace/brace/account/FixedRateAfterReservationPinLaw", "pick", "(I)Lcom/example/brace/brace/account/Session$FixedRate;"⟩ : MethodName)) hown (mvT hZ (hw _ (List.mem_of_getElem? (i := 0) rfl))) (mvT hZ (hw _ (List.mem_of_getElem? (i := 1) rfl))) (mvT hZ (hw _ (List.mem_of_getElem? (i := 2) rfl))) (mvT hZ (hw _ (List.mem_of_getElem? (i := 3) rfl))) (by decide) (backOf (W := 0) (rm1 l Z a0 hw [] (0 : Int32) w_UNRATED w_DUE w_SETTLED w_NONE h0 n0 O0 S_UNRATED S_DUE S_SETTLED S_NONE) hZ (hw _ (List.mem_of_getElem? (i := 3) rfl)) (hw _ (List.mem_of_getElem? (i := 2) rfl)) (by decide) (by decide)) (g := (mkF m 31 #[iv pi0, iv pi1, iv pi2, iv (0 : Int32), iv (0 : Int32), iv (0 : Int32), .unset, .unset, .unset] [(.int (0 : Int32))])) rfl (by rw [hml]; rfl) (argsL := [(.int (0 : Int32))]) (rest := []) (lenOf pd__I_Lcom_example_brace_brace_account_Session_FixedRate_ rfl) rfl (by show 2 * 0 + _ ≤ _; exact Nat.le_of_eq rfl) (hb hby at_31) (fun _ _ => ⟨rfl, e0, (by decide : 0 + 0 ≤ _), (by decide : 0 + 0 ≤ _)⟩)
        dsimp only [Pt.U, Pt.locs, Pt.cells, Pt.slots] at X10 l10 y10 z10 st10 hQ10
        subst l10 y10 z10
        obtain ⟨hv10, N10q, e10q⟩ := hQ10
        have N11 := Fr.app N0 N10q
        have hw10 : v10 = some (.ref w_UNRATED) := by rw [hv10, if_pos (rfl : (0 : Int32) = (0 : Int32))]
        subst hw10
        have pre12 : ∀ t, Steps p.tables e below (T10.setTop (mkF m 34 #[iv pi0, iv pi1, iv pi2, iv (0 : Int32), iv (0 : Int32), iv (0 : Int32), .unset, .unset, .unset] [(.ref w_UNRATED)])) t → Go t := fun t kt => pre9 t (st10 t kt)
        have pre13 : ∀ t, Steps p.tables e below (T10.setTop (mkF m 53 #[iv pi0, iv pi1, iv pi2, iv (0 : Int32), iv (0 : Int32), iv (0 : Int32), rv w_UNRATED, .unset, .unset] [])) t → Go t := fun t kt => pre12 t (by
            refine y_astore X10.here hx (hb hby at_34) rfl (l' := #[iv pi0, iv pi1, iv pi2, iv (0 : Int32), iv (0 : Int32), iv (0 : Int32), rv w_UNRATED, .unset, .unset]) rfl (pc' := 36) rfl ?_
            refine y_iloadN X10.here hx (hb hby at_36) rfl (pc' := 37) rfl ?_
            refine y_ifNo X10.here hx (hb hby at_37) ((if0 _ _).trans (teq (rfl : (0 : Int32) = (0 : Int32))).2) (pc' := 40) rfl ?_
            refine y_iload X10.here hx (hb hby at_40) rfl (pc' := 42) rfl ?_
            refine y_ifYes X10.here hx (hb hby at_42) ((if0 _ _).trans (teq (rfl : (0 : Int32) = (0 : Int32))).1) (pc' := 53) (by decide) rfl ?_
            exact kt)
        obtain ⟨T14, X14, e14, st14⟩ := getS2 X10 hx hZ hown (host := "") (Or.inl (hw _ (List.mem_of_getElem? (i := 16) rfl))) Via.refl e10q (S_NONE.ext O0.2) (g := (mkF m 53 #[iv pi0, iv pi1, iv pi2, iv (0 : Int32), iv (0 : Int32), iv (0 : Int32), rv w_UNRATED, .unset, .unset] [])) rfl (hb hby at_53)
        have pre15 : ∀ t, Steps p.tables e below (T14.setTop (mkF m 56 #[iv pi0, iv pi1, iv pi2, iv (0 : Int32), iv (0 : Int32), iv (0 : Int32), rv w_UNRATED, .unset, .unset] [(.ref w_NONE)])) t → Go t := fun t kt => pre13 t (st14 t kt)
        have pre16 : ∀ t, Steps p.tables e below (T14.setTop (mkF m 96 #[iv pi0, iv pi1, iv pi2, iv (0 : Int32), iv (0 : Int32), iv (0 : Int32), rv w_UNRATED, rv w_NONE, .unset] [(.int (0 : Int32)), (.ref w_UNRATED)])) t → Go t := fun t kt => pre15 t (by
            refine y_astore X14.here hx (hb hby at_56) rfl (l' := #[iv pi0, iv pi1, iv pi2, iv (0 : Int32), iv (0 : Int32), iv (0 : Int32), rv w_UNRATED, rv w_NONE, .unset]) rfl (pc' := 58) rfl ?_
            refine y_goto X14.here hx (hb hby at_58) (pc' := 92) (by decide) rfl ?_
            refine y_aload X14.here hx (hb hby at_92) rfl rfl (pc' := 94) rfl ?_
            refine y_iload X14.here hx (hb hby at_94) rfl (pc' := 96) rfl ?_
            exact kt)
        obtain ⟨cq17, kq17, q17a, q17b, q17c⟩ := isOf hZ e14 (E_w_UNRATED.ext O0.2)
        obtain ⟨v17, _, ⟨T17, L17, k17, n17⟩, -, X17, ⟨Lc17, hQ17, l17, y17, z17⟩, st17⟩ := X14.virtualBack hx (y := (⟨"com/example/brace/brace/account/Session$FixedRate", "afterReservation", "(Z)Lcom/example/brace/brace/account/Session$FixedRate;"⟩ : MethodName)) (z := (⟨"com/example/brace/brace/account/Session$FixedRate", "afterReservation", "(Z)Lcom/example/brace/brace/account/Session$FixedRate;"⟩ : MethodName)) hown (mvT hZ (hw _ (List.mem_of_getElem? (i := 9) rfl))) (mvT hZ (hw _ (List.mem_of_getElem? (i := 10) rfl))) (notFace_of_selects (args := #[]) (mvT hZ (hw _ (List.mem_of_getElem? (i := 12) rfl)))) (mvT hZ (hw _ (List.mem_of_getElem? (i := 12) rfl))) (mvT hZ (hw _ (List.mem_of_getElem? (i := 11) rfl))) (by decide) (backOf (W := 0) (rm2 l Z a0 hw [] w_UNRATED (0 : Int32) w_UNRATED w_DUE w_NONE h0 n0 O0 S_UNRATED S_DUE S_NONE) hZ (hw _ (List.mem_of_getElem? (i := 13) rfl)) (hw _ (List.mem_of_getElem? (i := 5) rfl)) (by decide) (by decide)) q17a q17c (g := (mkF m 96 #[iv pi0, iv pi1, iv pi2, iv (0 : Int32), iv (0 : Int32), iv (0 : Int32), rv w_UNRATED, rv w_NONE, .unset] [(.int (0 : Int32)), (.ref w_UNRATED)])) rfl (by rw [hml]; rfl) (Steps.refl _) (argsL := [(.int (0 : Int32))]) (rest := []) (lenOf pd__Z_Lcom_example_brace_brace_account_Session_FixedRate_ rfl) rfl (by show 2 * 0 + _ ≤ _; exact Nat.le_of_eq rfl) (hb hby at_96) (fun _ _ => ⟨rfl, e14, (by decide : 0 + 0 ≤ _), (by decide : 0 + 0 ≤ _)⟩)
        dsimp only [Pt.U, Pt.locs, Pt.cells, Pt.slots] at X17 l17 y17 z17 st17 hQ17
        subst l17 y17 z17
        obtain ⟨hv17, N17q, e17q⟩ := hQ17
        have N18 := Fr.app N11 N17q
        have hw17 : v17 = some (.ref w_NONE) := by rw [hv17, if_pos (rfl : w_UNRATED = w_UNRATED), if_pos (rfl : (0 : Int32) = (0 : Int32))]
        subst hw17
        have pre19 : ∀ t, Steps p.tables e below (T17.setTop (mkF m 99 #[iv pi0, iv pi1, iv pi2, iv (0 : Int32), iv (0 : Int32), iv (0 : Int32), rv w_UNRATED, rv w_NONE, .unset] [(.ref w_NONE)])) t → Go t := fun t kt => pre16 t (st17.trans kt)
        have pre20 : ∀ t, Steps p.tables e below (T17.setTop (mkF m 114 #[iv pi0, iv pi1, iv pi2, iv (0 : Int32), iv (0 : Int32), iv (0 : Int32), rv w_UNRATED, rv w_NONE, rv w_NONE] [(.int (0 : Int32)), (.ref w_NONE)])) t → Go t := fun t kt => pre19 t (by
            refine y_astore X17.here hx (hb hby at_99) rfl (l' := #[iv pi0, iv pi1, iv pi2, iv (0 : Int32), iv (0 : Int32), iv (0 : Int32), rv w_UNRATED, rv w_NONE, rv w_NONE]) rfl (pc' := 101) rfl ?_
            refine y_aload X17.here hx (hb hby at_101) rfl rfl (pc' := 103) rfl ?_
            refine y_aload X17.here hx (hb hby at_103) rfl rfl (pc' := 105) rfl ?_
            refine Jvm.RoadKit.acmp (g := (mkF m 105 #[iv pi0, iv pi1, iv pi2, iv (0 : Int32), iv (0 : Int32), iv (0 : Int32), rv w_UNRATED, rv w_NONE, rv w_NONE] [(.ref w_NONE), (.ref w_NONE)])) X17 hx rfl rfl rfl (pc0 := 105) (pc' := 110) (same := true) rfl (hb hby at_105) rfl (decide_eq_true (congrArg Value.ref (rfl : w_NONE = w_NONE))) (by decide) (by decide) ?_
            show Steps p.tables e below (T17.setTop (mkF m 110 #[iv pi0, iv pi1, iv pi2, iv (0 : Int32), iv (0 : Int32), iv (0 : Int32), rv w_UNRATED, rv w_NONE, rv w_NONE] [])) _
            refine y_aload X17.here hx (hb hby at_110) rfl rfl (pc' := 112) rfl ?_
            refine y_iload X17.here hx (hb hby at_112) rfl (pc' := 114) rfl ?_
            exact kt)
        obtain ⟨cq21, kq21, q21a, q21b, q21c⟩ := isOf hZ e17q (E_w_NONE.ext O0.2)
        obtain ⟨v21, _, ⟨T21, L21, k21, n21⟩, -, X21, ⟨Lc21, hQ21, l21, y21, z21⟩, st21⟩ := X17.virtualBack hx (y := (⟨"com/example/brace/brace/account/Session$FixedRate", "afterReservation", "(Z)Lcom/example/brace/brace/account/Session$FixedRate;"⟩ : MethodName)) (z := (⟨"com/example/brace/brace/account/Session$FixedRate", "afterReservation", "(Z)Lcom/example/brace/brace/account/Session$FixedRate;"⟩ : MethodName)) hown (mvT hZ (hw _ (List.mem_of_getElem? (i := 9) rfl))) (mvT hZ (hw _ (List.mem_of_getElem? (i := 10) rfl))) (notFace_of_selects (args := #[]) (mvT hZ (hw _ (List.mem_of_getElem? (i := 12) rfl)))) (mvT hZ (hw _ (List.mem_of_getElem? (i := 12) rfl))) (mvT hZ (hw _ (List.mem_of_getElem? (i := 11) rfl))) (by decide) (backOf (W := 0) (rm2 l Z a0 hw [] w_NONE (0 : Int32) w_UNRATED w_DUE w_NONE h0 n0 O0 S_UNRATED S_DUE S_NONE) hZ (hw _ (List.mem_of_getElem? (i := 13) rfl)) (hw _ (List.mem_of_getElem? (i := 5) rfl)) (by decide) (by decide)) q21a q21c (g := (mkF m 114 #[iv pi0, iv pi1, iv pi2, iv (0 : Int32), iv (0 : Int32), iv (0 : Int32), rv w_UNRATED, rv w_NONE, rv w_NONE] [(.int (0 : Int32)), (.ref w_NONE)])) rfl (by rw [hml]; rfl) (Steps.refl _) (argsL := [(.int (0 : Int32))]) (rest := []) (lenOf pd__Z_Lcom_example_brace_brace_account_Session_FixedRate_ rfl) rfl (by show 2 * 0 + _ ≤ _; exact Nat.le_of_eq rfl) (hb hby at_114) (fun _ _ => ⟨rfl, e17q, (by decide : 0 + 0 ≤ _), (by decide : 0 + 0 ≤ _)⟩)
        dsimp only [Pt.U, Pt.locs, Pt.cells, Pt.slots] at X21 l21 y21 z21 st21 hQ21
        subst l21 y21 z21
        obtain ⟨hv21, N21q, e21q⟩ := hQ21
        have N22 := Fr.app N18 N21q
        have hw21 : v21 = some (.ref w_NONE) := by rw [hv21, if_neg (Ne.symm ne_UNRATED_NONE)]
        subst hw21
        have pre23 : ∀ t, Steps p.tables e below (T21.setTop (mkF m 117 #[iv pi0, iv pi1, iv pi2, iv (0 : Int32), iv (0 : Int32), iv (0 : Int32), rv w_UNRATED, rv w_NONE, rv w_NONE] [(.ref w_NONE)])) t → Go t := fun t kt => pre20 t (st21.trans kt)
        have pre24 : ∀ t, Steps p.tables e below (T21.setTop (mkF m 127 #[iv pi0, iv pi1, iv pi2, iv (0 : Int32), iv (0 : Int32), iv (0 : Int32), rv w_UNRATED, rv w_NONE, rv w_NONE] [(.int (1 : Int32))])) t → Go t := fun t kt => pre23 t (by
            refine y_aload X21.here hx (hb hby at_117) rfl rfl (pc' := 119) rfl ?_
            refine Jvm.RoadKit.acmp (g := (mkF m 119 #[iv pi0, iv pi1, iv pi2, iv (0 : Int32), iv (0 : Int32), iv (0 : Int32), rv w_UNRATED, rv w_NONE, rv w_NONE] [(.ref w_NONE), (.ref w_NONE)])) X21 hx rfl rfl rfl (pc0 := 119) (pc' := 122) (same := true) rfl (hb hby at_119) rfl (decide_eq_true (congrArg Value.ref (rfl : w_NONE = w_NONE))) (by decide) (by decide) ?_
            show Steps p.tables e below (T21.setTop (mkF m 122 #[iv pi0, iv pi1, iv pi2, iv (0 : Int32), iv (0 : Int32), iv (0 : Int32), rv w_UNRATED, rv w_NONE, rv w_NONE] [])) _
            refine y_iconst X21.here hx (hb hby at_122) (v := (1 : Int32)) rfl (pc' := 123) rfl ?_
            refine y_goto X21.here hx (hb hby at_123) (pc' := 127) (by decide) rfl ?_
            exact kt)
        obtain ⟨fs, hr, hrun, hended, hW, hsame⟩ := X21.leave (v := some (.int (1 : Int32))) (fun h => by rw [Bd.returns] at h; cases h)
        refine ⟨_, _, (hGo _).mp (pre24 _ ?_), hrun, hended, _, _, rfl, ?_, ⟨_, rfl⟩, hW, hsame.mono (by decide) (by decide)⟩
        · exact retN X21 hx (t := .boolean) Bd.returns (by simp) (hb hby at_127) hr
        · show Q0 Z pi0 pi1 pi2 w_UNRATED w_DUE w_SETTLED w_NONE h0 n0 _ T21.heap _
          rw [e21q]
          exact ⟨rfl, N22⟩
      · skip
        have pre25 : ∀ t, Steps p.tables e below (s₁.setTop (mkF m 31 #[iv pi0, iv pi1, iv pi2, iv (1 : Int32), iv (0 : Int32), iv (0 : Int32), .unset, .unset, .unset] [(.int (1 : Int32))])) t → Go t := fun t kt => pre7 t (by
            refine y_iloadN X0.here hx (hb hby at_30) rfl (pc' := 31) rfl ?_
            exact kt)
        obtain ⟨v26, _, ⟨T26, L26, k26, n26⟩, -, X26, ⟨Lc26, hQ26, l26, y26, z26⟩, st26⟩ := Jvm.LawKit.callS X0 hx (y := (⟨"com/example/brace/brace/account/FixedRateAfterReservationPinLaw", "pick", "(I)Lcom/example/brace/brace/account/Session$FixedRate;"⟩ : MethodName)) hown (mvT hZ (hw _ (List.mem_of_getElem? (i := 0) rfl))) (mvT hZ (hw _ (List.mem_of_getElem? (i := 1) rfl))) (mvT hZ (hw _ (List.mem_of_getElem? (i := 2) rfl))) (mvT hZ (hw _ (List.mem_of_getElem? (i := 3) rfl))) (by decide) (backOf (W := 0) (rm1 l Z a0 hw [] (1 : Int32) w_UNRATED w_DUE w_SETTLED w_NONE h0 n0 O0 S_UNRATED S_DUE S_SETTLED S_NONE) hZ (hw _ (List.mem_of_getElem? (i := 3) rfl)) (hw _ (List.mem_of_getElem? (i := 2) rfl)) (by decide) (by decide)) (g := (mkF m 31 #[iv pi0, iv pi1, iv pi2, iv (1 : Int32), iv (0 : Int32), iv (0 : Int32), .unset, .unset, .unset] [(.int (1 : Int32))])) rfl (by rw [hml]; rfl) (argsL := [(.int (1 : Int32))]) (rest := []) (lenOf pd__I_Lcom_example_brace_brace_account_Session_FixedRate_ rfl) rfl (by show 2 * 0 + _ ≤ _; exact Nat.le_of_eq rfl) (hb hby at_31) (fun _ _ => ⟨rfl, e0, (by decide : 0 + 0 ≤ _), (by decide : 0 + 0 ≤ _)⟩)
        dsimp only [Pt.U, Pt.locs, Pt.cells, Pt.slots] at X26 l26 y26 z26 st26 hQ26
        subst l26 y26 z26
        obtain ⟨hv26, N26q, e26q⟩ := hQ26
        have N27 := Fr.app N0 N26q
        have hw26 : v26 = some (.ref w_DUE) := by rw [hv26, if_neg (by decide : ¬ ((1 : Int32) = (0 : Int32))), if_pos (rfl : (1 : Int32) = (1 : Int32))]
        subst hw26
        have pre28 : ∀ t, Steps p.tables e below (T26.setTop (mkF m 34 #[iv pi0, iv pi1, iv pi2, iv (1 : Int32), iv (0 : Int32), iv (0 : Int32), .unset, .unset, .unset] [(.ref w_DUE)])) t → Go t := fun t kt => pre25 t (st26 t kt)
        have pre29 : ∀ t, Steps p.tables e below (T26.setTop (mkF m 66 #[iv pi0, iv pi1, iv pi2, iv (1 : Int32), iv (0 : Int32), iv (0 : Int32), rv w_DUE, .unset, .unset] [])) t → Go t := fun t kt => pre28 t (by
            refine y_astore X26.here hx (hb hby at_34) rfl (l' := #[iv pi0, iv pi1, iv pi2, iv (1 : Int32), iv (0 : Int32), iv (0 : Int32), rv w_DUE, .unset, .unset]) rfl (pc' := 36) rfl ?_
            refine y_iloadN X26.here hx (hb hby at_36) rfl (pc' := 37) rfl ?_
            refine y_ifYes X26.here hx (hb hby at_37) ((if0 _ _).trans (feq (by decide : ¬ ((1 : Int32) = (0 : Int32)))).2) (pc' := 61) (by decide) rfl ?_
            refine y_iloadN X26.here hx (hb hby at_61) rfl (pc' := 62) rfl ?_
            refine y_iconst X26.here hx (hb hby at_62) (v := (1 : Int32)) rfl (pc' := 63) rfl ?_
            refine y_icmpNo X26.here hx (hb hby at_63) (teq (rfl : (1 : Int32) = (1 : Int32))).2 (pc' := 66) rfl ?_
            exact kt)
        obtain ⟨T30, X30, e30, st30⟩ := getS2 X26 hx hZ hown (host := "") (Or.inl (hw _ (List.mem_of_getElem? (i := 7) rfl))) Via.refl e26q (S_DUE.ext O0.2) (g := (mkF m 66 #[iv pi0, iv pi1, iv pi2, iv (1 : Int32), iv (0 : Int32), iv (0 : Int32), rv w_DUE, .unset, .unset] [])) rfl (hb hby at_66)
        have pre31 : ∀ t, Steps p.tables e below (T30.setTop (mkF m 69 #[iv pi0, iv pi1, iv pi2, iv (1 : Int32), iv (0 : Int32), iv (0 : Int32), rv w_DUE, .unset, .unset] [(.ref w_DUE)])) t → Go t := fun t kt => pre29 t (st30 t kt)
        have pre32 : ∀ t, Steps p.tables e below (T30.setTop (mkF m 96 #[iv pi0, iv pi1, iv pi2, iv (1 : Int32), iv (0 : Int32), iv (0 : Int32), rv w_DUE, rv w_DUE, .unset] [(.int (0 : Int32)), (.ref w_DUE)])) t → Go t := fun t kt => pre31 t (by
            refine y_astore X30.here hx (hb hby at_69) rfl (l' := #[iv pi0, iv pi1, iv pi2, iv (1 : Int32), iv (0 : Int32), iv (0 : Int32), rv w_DUE, rv w_DUE, .unset]) rfl (pc' := 71) rfl ?_
            refine y_goto X30.here hx (hb hby at_71) (pc' := 92) (by decide) rfl ?_
            refine y_aload X30.here hx (hb hby at_92) rfl rfl (pc' := 94) rfl ?_
            refine y_iload X30.here hx (hb hby at_94) rfl (pc' := 96) rfl ?_
            exact kt)
        obtain ⟨cq33, kq33, q33a, q33b, q33c⟩ := isOf hZ e30 (E_w_DUE.ext O0.2)
        obtain ⟨v33, _, ⟨T33, L33, k33, n33⟩, -, X33, ⟨Lc33, hQ33, l33, y33, z33⟩, st33⟩ := X30.virtualBack hx (y := (⟨"com/example/brace/brace/account/Session$FixedRate", "afterReservation", "(Z)Lcom/example/brace/brace/account/Session$FixedRate;"⟩ : MethodName)) (z := (⟨"com/example/brace/brace/account/Session$FixedRate", "afterReservation", "(Z)Lcom/example/brace/brace/account/Session$FixedRate;"⟩ : MethodName)) hown (mvT hZ (hw _ (List.mem_of_getElem? (i := 9) rfl))) (mvT hZ (hw _ (List.mem_of_getElem? (i := 10) rfl))) (notFace_of_selects (args := #[]) (mvT hZ (hw _ (List.mem_of_getElem? (i := 12) rfl)))) (mvT hZ (hw _ (List.mem_of_getElem? (i := 12) rfl))) (mvT hZ (hw _ (List.mem_of_getElem? (i := 11) rfl))) (by decide) (backOf (W := 0) (rm2 l Z a0 hw [] w_DUE (0 : Int32) w_UNRATED w_DUE w_NONE h0 n0 O0 S_UNRATED S_DUE S_NONE) hZ (hw _ (List.mem_of_getElem? (i := 13) rfl)) (hw _ (List.mem_of_getElem? (i := 5) rfl)) (by decide) (by decide)) q33a q33c (g := (mkF m 96 #[iv pi0, iv pi1, iv pi2, iv (1 : Int32), iv (0 : Int32), iv (0 : Int32), rv w_DUE, rv w_DUE, .unset] [(.int (0 : Int32)), (.ref w_DUE)])) rfl (by rw [hml]; rfl) (Steps.refl _) (argsL := [(.int (0 : Int32))]) (rest := []) (lenOf pd__Z_Lcom_example_brace_brace_account_Session_FixedRate_ rfl) rfl (by show 2 * 0 + _ ≤ _; exact Nat.le_of_eq rfl) (hb hby at_96) (fun _ _ => ⟨rfl, e30, (by decide : 0 + 0 ≤ _), (by decide : 0 + 0 ≤ _)⟩)
        dsimp only [Pt.U, Pt.locs, Pt.cells, Pt.slots] at X33 l33 y33 z33 st33 hQ33
        subst l33 y33 z33
        obtain ⟨hv33, N33q, e33q⟩ := hQ33
        have N34 := Fr.app N27 N33q
        have hw33 : v33 = some (.ref w_DUE) := by rw [hv33, if_neg (Ne.symm ne_UNRATED_DUE)]
        subst hw33
        have pre35 : ∀ t, Steps p.tables e below (T33.setTop (mkF m 99 #[iv pi0, iv pi1, iv pi2, iv (1 : Int32), iv (0 : Int32), iv (0 : Int32), rv w_DUE, rv w_DUE, .unset] [(.ref w_DUE)])) t → Go t := fun t kt => pre32 t (st33.trans kt)
        have pre36 : ∀ t, Steps p.tables e below (T33.setTop (mkF m 114 #[iv pi0, iv pi1, iv pi2, iv (1 : Int32), iv (0 : Int32), iv (0 : Int32), rv w_DUE, rv w_DUE, rv w_DUE] [(.int (0 : Int32)), (.ref w_DUE)])) t → Go t := fun t kt => pre35 t (by
            refine y_astore X33.here hx (hb hby at_99) rfl (l' := #[iv pi0, iv pi1, iv pi2, iv (1 : Int32), iv (0 : Int32), iv (0 : Int32), rv w_DUE, rv w_DUE, rv w_DUE]) rfl (pc' := 101) rfl ?_
            refine y_aload X33.here hx (hb hby at_101) rfl rfl (pc' := 103) rfl ?_
            refine y_aload X33.here hx (hb hby at_103) rfl rfl (pc' := 105) rfl ?_
            refine Jvm.RoadKit.acmp (g := (mkF m 105 #[iv pi0, iv pi1, iv pi2, iv (1 : Int32), iv (0 : Int32), iv (0 : Int32), rv w_DUE, rv w_DUE, rv w_DUE] [(.ref w_DUE), (.ref w_DUE)])) X33 hx rfl rfl rfl (pc0 := 105) (pc' := 110) (same := true) rfl (hb hby at_105) rfl (decide_eq_true (congrArg Value.ref (rfl : w_DUE = w_DUE))) (by decide) (by decide) ?_
            show Steps p.tables e below (T33.setTop (mkF m 110 #[iv pi0, iv pi1, iv pi2, iv (1 : Int32), iv (0 : Int32), iv (0 : Int32), rv w_DUE, rv w_DUE, rv w_DUE] [])) _
            refine y_aload X33.here hx (hb hby at_110) rfl rfl (pc' := 112) rfl ?_
            refine y_iload X33.here hx (hb hby at_112) rfl (pc' := 114) rfl ?_
            exact kt)
        obtain ⟨cq37, kq37, q37a, q37b, q37c⟩ := isOf hZ e33q (E_w_DUE.ext O0.2)
        obtain ⟨v37, _, ⟨T37, L37, k37, n37⟩, -, X37, ⟨Lc37, hQ37, l37, y37, z37⟩, st37⟩ := X33.virtualBack hx (y := (⟨"com/example/brace/brace/account/Session$FixedRate", "afterReservation", "(Z)Lcom/example/brace/brace/account/Session$FixedRate;"⟩ : MethodName)) (z := (⟨"com/example/brace/brace/account/Session$FixedRate", "afterReservation", "(Z)Lcom/example/brace/brace/account/Session$FixedRate;"⟩ : MethodName)) hown (mvT hZ (hw _ (List.mem_of_getElem? (i := 9) rfl))) (mvT hZ (hw _ (List.mem_of_getElem? (i := 10) rfl))) (notFace_of_selects (args := #[]) (mvT hZ (hw _ (List.mem_of_getElem? (i := 12) rfl)))) (mvT hZ (hw _ (List.mem_of_getElem? (i := 12) rfl))) (mvT hZ (hw _ (List.mem_of_getElem? (i := 11) rfl))) (by decide) (backOf (W := 0) (rm2 l Z a0 hw [] w_DUE (0 : Int32) w_UNRATED w_DUE w_NONE h0 n0 O0 S_UNRATED S_DUE S_NONE) hZ (hw _ (List.mem_of_getElem? (i := 13) rfl)) (hw _ (List.mem_of_getElem? (i := 5) rfl)) (by decide) (by decide)) q37a q37c (g := (mkF m 114 #[iv pi0, iv pi1, iv pi2, iv (1 : Int32), iv (0 : Int32), iv (0 : Int32), rv w_DUE, rv w_DUE, rv w_DUE] [(.int (0 : Int32)), (.ref w_DUE)])) rfl (by rw [hml]; rfl) (Steps.refl _) (argsL := [(.int (0 : Int32))]) (rest := []) (lenOf pd__Z_Lcom_example_brace_brace_account_Session_FixedRate_ rfl) rfl (by show 2 * 0 + _ ≤ _; exact Nat.le_of_eq rfl) (hb hby at_114) (fun _ _ => ⟨rfl, e33q, (by decide : 0 + 0 ≤ _), (by decide : 0 + 0 ≤ _)⟩)
        dsimp only [Pt.U, Pt.locs, Pt.cells, Pt.slots] at X37 l37 y37 z37 st37 hQ37
        subst l37 y37 z37
        obtain ⟨hv37, N37q, e37q⟩ := hQ37
        have N38 := Fr.app N34 N37q
        have hw37 : v37 = some (.ref w_DUE) := by rw [hv37, if_neg (Ne.symm ne_UNRATED_DUE)]
        subst hw37
        have pre39 : ∀ t, Steps p.tables e below (T37.setTop (mkF m 117 #[iv pi0, iv pi1, iv pi2, iv (1 : Int32), iv (0 : Int32), iv (0 : Int32), rv w_DUE, rv w_DUE, rv w_DUE] [(.ref w_DUE)])) t → Go t := fun t kt => pre36 t (st37.trans kt)
        have pre40 : ∀ t, Steps p.tables e below (T37.setTop (mkF m 127 #[iv pi0, iv pi1, iv pi2, iv (1 : Int32), iv (0 : Int32), iv (0 : Int32), rv w_DUE, rv w_DUE, rv w_DUE] [(.int (1 : Int32))])) t → Go t := fun t kt => pre39 t (by
            refine y_aload X37.here hx (hb hby at_117) rfl rfl (pc' := 119) rfl ?_
            refine Jvm.RoadKit.acmp (g := (mkF m 119 #[iv pi0, iv pi1, iv pi2, iv (1 : Int32), iv (0 : Int32), iv (0 : Int32), rv w_DUE, rv w_DUE, rv w_DUE] [(.ref w_DUE), (.ref w_DUE)])) X37 hx rfl rfl rfl (pc0 := 119) (pc' := 122) (same := true) rfl (hb hby at_119) rfl (decide_eq_true (congrArg Value.ref (rfl : w_DUE = w_DUE))) (by decide) (by decide) ?_
            show Steps p.tables e below (T37.setTop (mkF m 122 #[iv pi0, iv pi1, iv pi2, iv (1 : Int32), iv (0 : Int32), iv (0 : Int32), rv w_DUE, rv w_DUE, rv w_DUE] [])) _
            refine y_iconst X37.here hx (hb hby at_122) (v := (1 : Int32)) rfl (pc' := 123) rfl ?_
            refine y_goto X37.here hx (hb hby at_123) (pc' := 127) (by decide) rfl ?_
            exact kt)
        obtain ⟨fs, hr, hrun, hended, hW, hsame⟩ := X37.leave (v := some (.int (1 : Int32))) (fun h => by rw [Bd.returns] at h; cases h)
        refine ⟨_, _, (hGo _).mp (pre40 _ ?_), hrun, hended, _, _, rfl, ?_, ⟨_, rfl⟩, hW, hsame.mono (by decide) (by decide)⟩
        · exact retN X37 hx (t := .boolean) Bd.returns (by simp) (hb hby at_127) hr
        · show Q0 Z pi0 pi1 pi2 w_UNRATED w_DUE w_SETTLED w_NONE h0 n0 _ T37.heap _
          rw [e37q]
          exact ⟨rfl, N38⟩
      · skip
        have pre41 : ∀ t, Steps p.tables e below (s₁.setTop (mkF m 31 #[iv pi0, iv pi1, iv pi2, iv (2 : Int32), iv (0 : Int32), iv (0 : Int32), .unset, .unset, .unset] [(.int (2 : Int32))])) t → Go t := fun t kt => pre7 t (by
            refine y_iloadN X0.here hx (hb hby at_30) rfl (pc' := 31) rfl ?_
            exact kt)
        obtain ⟨v42, _, ⟨T42, L42, k42, n42⟩, -, X42, ⟨Lc42, hQ42, l42, y42, z42⟩, st42⟩ := Jvm.LawKit.callS X0 hx (y := (⟨"com/example/brace/brace/account/FixedRateAfterReservationPinLaw", "pick", "(I)Lcom/example/brace/brace/account/Session$FixedRate;"⟩ : MethodName)) hown (mvT hZ (hw _ (List.mem_of_getElem? (i := 0) rfl))) (mvT hZ (hw _ (List.mem_of_getElem? (i := 1) rfl))) (mvT hZ (hw _ (List.mem_of_getElem? (i := 2) rfl))) (mvT hZ (hw _ (List.mem_of_getElem? (i := 3) rfl))) (by decide) (backOf (W := 0) (rm1 l Z a0 hw [] (2 : Int32) w_UNRATED w_DUE w_SETTLED w_NONE h0 n0 O0 S_UNRATED S_DUE S_SETTLED S_NONE) hZ (hw _ (List.mem_of_getElem? (i := 3) rfl)) (hw _ (List.mem_of_getElem? (i := 2) rfl)) (by decide) (by decide)) (g := (mkF m 31 #[iv pi0, iv pi1, iv pi2, iv (2 : Int32), iv (0 : Int32), iv (0 : Int32), .unset, .unset, .unset] [(.int (2 : Int32))])) rfl (by rw [hml]; rfl) (argsL := [(.int (2 : Int32))]) (rest := []) (lenOf pd__I_Lcom_example_brace_brace_account_Session_FixedRate_ rfl) rfl (by show 2 * 0 + _ ≤ _; exact Nat.le_of_eq rfl) (hb hby at_31) (fun _ _ => ⟨rfl, e0, (by decide : 0 + 0 ≤ _), (by decide : 0 + 0 ≤ _)⟩)
        dsimp only [Pt.U, Pt.locs, Pt.cells, Pt.slots] at X42 l42 y42 z42 st42 hQ42
        subst l42 y42 z42
        obtain ⟨hv42, N42q, e42q⟩ := hQ42
        have N43 := Fr.app N0 N42q
        have hw42 : v42 = some (.ref w_SETTLED) := by rw [hv42, if_neg (by decide : ¬ ((2 : Int32) = (0 : Int32))), if_neg (by decide : ¬ ((2 : Int32) = (1 : Int32))), if_pos (rfl : (2 : Int32) = (2 : Int32))]
        subst hw42
        have pre44 : ∀ t, Steps p.tables e below (T42.setTop (mkF m 34 #[iv pi0, iv pi1, iv pi2, iv (2 : Int32), iv (0 : Int32), iv (0 : Int32), .unset, .unset, .unset] [(.ref w_SETTLED)])) t → Go t := fun t kt => pre41 t (st42 t kt)
        have pre45 : ∀ t, Steps p.tables e below (T42.setTop (mkF m 79 #[iv pi0, iv pi1, iv pi2, iv (2 : Int32), iv (0 : Int32), iv (0 : Int32), rv w_SETTLED, .unset, .unset] [])) t → Go t := fun t kt => pre44 t (by
            refine y_astore X42.here hx (hb hby at_34) rfl (l' := #[iv pi0, iv pi1, iv pi2, iv (2 : Int32), iv (0 : Int32), iv (0 : Int32), rv w_SETTLED, .unset, .unset]) rfl (pc' := 36) rfl ?_
            refine y_iloadN X42.here hx (hb hby at_36) rfl (pc' := 37) rfl ?_
            refine y_ifYes X42.here hx (hb hby at_37) ((if0 _ _).trans (feq (by decide : ¬ ((2 : Int32) = (0 : Int32)))).2) (pc' := 61) (by decide) rfl ?_
            refine y_iloadN X42.here hx (hb hby at_61) rfl (pc' := 62) rfl ?_
            refine y_iconst X42.here hx (hb hby at_62) (v := (1 : Int32)) rfl (pc' := 63) rfl ?_
            refine y_icmpYes X42.here hx (hb hby at_63) (feq (by decide : ¬ ((2 : Int32) = (1 : Int32)))).2 (pc' := 74) (by decide) rfl ?_
            refine y_iloadN X42.here hx (hb hby at_74) rfl (pc' := 75) rfl ?_
            refine y_iconst X42.here hx (hb hby at_75) (v := (2 : Int32)) rfl (pc' := 76) rfl ?_
            refine y_icmpNo X42.here hx (hb hby at_76) (teq (rfl : (2 : Int32) = (2 : Int32))).2 (pc' := 79) rfl ?_
            exact kt)
        obtain ⟨T46, X46, e46, st46⟩ := getS2 X42 hx hZ hown (host := "") (Or.inl (hw _ (List.mem_of_getElem? (i := 19) rfl))) Via.refl e42q (S_SETTLED.ext O0.2) (g := (mkF m 79 #[iv pi0, iv pi1, iv pi2, iv (2 : Int32), iv (0 : Int32), iv (0 : Int32), rv w_SETTLED, .unset, .unset] [])) rfl (hb hby at_79)
        have pre47 : ∀ t, Steps p.tables e below (T46.setTop (mkF m 82 #[iv pi0, iv pi1, iv pi2, iv (2 : Int32), iv (0 : Int32), iv (0 : Int32), rv w_SETTLED, .unset, .unset] [(.ref w_SETTLED)])) t → Go t := fun t kt => pre45 t (st46 t kt)
        have pre48 : ∀ t, Steps p.tables e below (T46.setTop (mkF m 96 #[iv pi0, iv pi1, iv pi2, iv (2 : Int32), iv (0 : Int32), iv (0 : Int32), rv w_SETTLED, rv w_SETTLED, .unset] [(.int (0 : Int32)), (.ref w_SETTLED)])) t → Go t := fun t kt => pre47 t (by
            refine y_astore X46.here hx (hb hby at_82) rfl (l' := #[iv pi0, iv pi1, iv pi2, iv (2 : Int32), iv (0 : Int32), iv (0 : Int32), rv w_SETTLED, rv w_SETTLED, .unset]) rfl (pc' := 84) rfl ?_
            refine y_goto X46.here hx (hb hby at_84) (pc' := 92) (by decide) rfl ?_
            refine y_aload X46.here hx (hb hby at_92) rfl rfl (pc' := 94) rfl ?_
            refine y_iload X46.here hx (hb hby at_94) rfl (pc' := 96) rfl ?_
            exact kt)
        obtain ⟨cq49, kq49, q49a, q49b, q49c⟩ := isOf hZ e46 (E_w_SETTLED.ext O0.2)
        obtain ⟨v49, _, ⟨T49, L49, k49, n49⟩, -, X49, ⟨Lc49, hQ49, l49, y49, z49⟩, st49⟩ := X46.virtualBack hx (y := (⟨"com/example/brace/brace/account/Session$FixedRate", "afterReservation", "(Z)Lcom/example/brace/brace/account/Session$FixedRate;"⟩ : MethodName)) (z := (⟨"com/example/brace/brace/account/Session$FixedRate", "afterReservation", "(Z)Lcom/example/brace/brace/account/Session$FixedRate;"⟩ : MethodName)) hown (mvT hZ (hw _ (List.mem_of_getElem? (i := 9) rfl))) (mvT hZ (hw _ (List.mem_of_getElem? (i := 10) rfl))) (notFace_of_selects (args := #[]) (mvT hZ (hw _ (List.mem_of_getElem? (i := 12) rfl)))) (mvT hZ (hw _ (List.mem_of_getElem? (i := 12) rfl))) (mvT hZ (hw _ (List.mem_of_getElem? (i := 11) rfl))) (by decide) (backOf (W := 0) (rm2 l Z a0 hw [] w_SETTLED (0 : Int32) w_UNRATED w_DUE w_NONE h0 n0 O0 S_UNRATED S_DUE S_NONE) hZ (hw _ (List.mem_of_getElem? (i := 13) rfl)) (hw _ (List.mem_of_getElem? (i := 5) rfl)) (by decide) (by decide)) q49a q49c (g := (mkF m 96 #[iv pi0, iv pi1, iv pi2, iv (2 : Int32), iv (0 : Int32), iv (0 : Int32), rv w_SETTLED, rv w_SETTLED, .unset] [(.int (0 : Int32)), (.ref w_SETTLED)])) rfl (by rw [hml]; rfl) (Steps.refl _) (argsL := [(.int (0 : Int32))]) (rest := []) (lenOf pd__Z_Lcom_example_brace_brace_account_Session_FixedRate_ rfl) rfl (by show 2 * 0 + _ ≤ _; exact Nat.le_of_eq rfl) (hb hby at_96) (fun _ _ => ⟨rfl, e46, (by decide : 0 + 0 ≤ _), (by decide : 0 + 0 ≤ _)⟩)
        dsimp only [Pt.U, Pt.locs, Pt.cells, Pt.slots] at X49 l49 y49 z49 st49 hQ49
        subst l49 y49 z49
        obtain ⟨hv49, N49q, e49q⟩ := hQ49
        have N50 := Fr.app N43 N49q
        have hw49 : v49 = some (.ref w_SETTLED) := by rw [hv49, if_neg (Ne.symm ne_UNRATED_SETTLED)]
        subst hw49
        have pre51 : ∀ t, Steps p.tables e below (T49.setTop (mkF m 99 #[iv pi0, iv pi1, iv pi2, iv (2 : Int32), iv (0 : Int32), iv (0 : Int32), rv w_SETTLED, rv w_SETTLED, .unset] [(.ref w_SETTLED)])) t → Go t := fun t kt => pre48 t (st49.trans kt)
        have pre52 : ∀ t, Steps p.tables e below (T49.setTop (mkF m 114 #[iv pi0, iv pi1, iv pi2, iv (2 : Int32), iv (0 : Int32), iv (0 : Int32), rv w_SETTLED, rv w_SETTLED, rv w_SETTLED] [(.int (0 : Int32)), (.ref w_SETTLED)])) t → Go t := fun t kt => pre51 t (by
            refine y_astore X49.here hx (hb hby at_99) rfl (l' := #[iv pi0, iv pi1, iv pi2, iv (2 : Int32), iv (0 : Int32), iv (0 : Int32), rv w_SETTLED, rv w_SETTLED, rv w_SETTLED]) rfl (pc' := 101) rfl ?_
            refine y_aload X49.here hx (hb hby at_101) rfl rfl (pc' := 103) rfl ?_
            refine y_aload X49.here hx (hb hby at_103) rfl rfl (pc' := 105) rfl ?_
            refine Jvm.RoadKit.acmp (g := (mkF m 105 #[iv pi0, iv pi1, iv pi2, iv (2 : Int32), iv (0 : Int32), iv (0 : Int32), rv w_SETTLED, rv w_SETTLED, rv w_SETTLED] [(.ref w_SETTLED), (.ref w_SETTLED)])) X49 hx rfl rfl rfl (pc0 := 105) (pc' := 110) (same := true) rfl (hb hby at_105) rfl (decide_eq_true (congrArg Value.ref (rfl : w_SETTLED = w_SETTLED))) (by decide) (by decide) ?_
            show Steps p.tables e below (T49.setTop (mkF m 110 #[iv pi0, iv pi1, iv pi2, iv (2 : Int32), iv (0 : Int32), iv (0 : Int32), rv w_SETTLED, rv w_SETTLED, rv w_SETTLED] [])) _
            refine y_aload X49.here hx (hb hby at_110) rfl rfl (pc' := 112) rfl ?_
            refine y_iload X49.here hx (hb hby at_112) rfl (pc' := 114) rfl ?_
            exact kt)
        obtain ⟨cq53, kq53, q53a, q53b, q53c⟩ := isOf hZ e49q (E_w_SETTLED.ext O0.2)
        obtain ⟨v53, _, ⟨T53, L53, k53, n53⟩, -, X53, ⟨Lc53, hQ53, l53, y53, z53⟩, st53⟩ := X49.virtualBack hx (y := (⟨"com/example/brace/brace/account/Session$FixedRate", "afterReservation", "(Z)Lcom/example/brace/brace/account/Session$FixedRate;"⟩ : MethodName)) (z := (⟨"com/example/brace/brace/account/Session$FixedRate", "afterReservation", "(Z)Lcom/example/brace/brace/account/Session$FixedRate;"⟩ : MethodName)) hown (mvT hZ (hw _ (List.mem_of_getElem? (i := 9) rfl))) (mvT hZ (hw _ (List.mem_of_getElem? (i := 10) rfl))) (notFace_of_selects (args := #[]) (mvT hZ (hw _ (List.mem_of_getElem? (i := 12) rfl)))) (mvT hZ (hw _ (List.mem_of_getElem? (i := 12) rfl))) (mvT hZ (hw _ (List.mem_of_getElem? (i := 11) rfl))) (by decide) (backOf (W := 0) (rm2 l Z a0 hw [] w_SETTLED (0 : Int32) w_UNRATED w_DUE w_NONE h0 n0 O0 S_UNRATED S_DUE S_NONE) hZ (hw _ (List.mem_of_getElem? (i := 13) rfl)) (hw _ (List.mem_of_getElem? (i := 5) rfl)) (by decide) (by decide)) q53a q53c (g := (mkF m 114 #[iv pi0, iv pi1, iv pi2, iv (2 : Int32), iv (0 : Int32), iv (0 : Int32), rv w_SETTLED, rv w_SETTLED, rv w_SETTLED] [(.int (0 : Int32)), (.ref w_SETTLED)])) rfl (by rw [hml]; rfl) (Steps.refl _) (argsL := [(.int (0 : Int32))]) (rest := []) (lenOf pd__Z_Lcom_example_brace_brace_account_Session_FixedRate_ rfl) rfl (by show 2 * 0 + _ ≤ _; exact Nat.le_of_eq rfl) (hb hby at_114) (fun _ _ => ⟨rfl, e49q, (by decide : 0 + 0 ≤ _), (by decide : 0 + 0 ≤ _)⟩)
        dsimp only [Pt.U, Pt.locs, Pt.cells, Pt.slots] at X53 l53 y53 z53 st53 hQ53
        subst l53 y53 z53
        obtain ⟨hv53, N53q, e53q⟩ := hQ53
        have N54 := Fr.app N50 N53q
        have hw53 : v53 = some (.ref w_SETTLED) := by rw [hv53, if_neg (Ne.symm ne_UNRATED_SETTLED)]
        subst hw53
        have pre55 : ∀ t, Steps p.tables e below (T53.setTop (mkF m 117 #[iv pi0, iv pi1, iv pi2, iv (2 : Int32), iv (0 : Int32), iv (0 : Int32), rv w_SETTLED, rv w_SETTLED, rv w_SETTLED] [(.ref w_SETTLED)])) t → Go t := fun t kt => pre52 t (st53.trans kt)
        have pre56 : ∀ t, Steps p.tables e below (T53.setTop (mkF m 127 #[iv pi0, iv pi1, iv pi2, iv (2 : Int32), iv (0 : Int32), iv (0 : Int32), rv w_SETTLED, rv w_SETTLED, rv w_SETTLED] [(.int (1 : Int32))])) t → Go t := fun t kt => pre55 t (by
            refine y_aload X53.here hx (hb hby at_117) rfl rfl (pc' := 119) rfl ?_
            refine Jvm.RoadKit.acmp (g := (mkF m 119 #[iv pi0, iv pi1, iv pi2, iv (2 : Int32), iv (0 : Int32), iv (0 : Int32), rv w_SETTLED, rv w_SETTLED, rv w_SETTLED] [(.ref w_SETTLED), (.ref w_SETTLED)])) X53 hx rfl rfl rfl (pc0 := 119) (pc' := 122) (same := true) rfl (hb hby at_119) rfl (decide_eq_true (congrArg Value.ref (rfl : w_SETTLED = w_SETTLED))) (by decide) (by decide) ?_
            show Steps p.tables e below (T53.setTop (mkF m 122 #[iv pi0, iv pi1, iv pi2, iv (2 : Int32), iv (0 : Int32), iv (0 : Int32), rv w_SETTLED, rv w_SETTLED, rv w_SETTLED] [])) _
            refine y_iconst X53.here hx (hb hby at_122) (v := (1 : Int32)) rfl (pc' := 123) rfl ?_
            refine y_goto X53.here hx (hb hby at_123) (pc' := 127) (by decide) rfl ?_
            exact kt)
        obtain ⟨fs, hr, hrun, hended, hW, hsame⟩ := X53.leave (v := some (.int (1 : Int32))) (fun h => by rw [Bd.returns] at h; cases h)
        refine ⟨_, _, (hGo _).mp (pre56 _ ?_), hrun, hended, _, _, rfl, ?_, ⟨_, rfl⟩, hW, hsame.mono (by decide) (by decide)⟩
        · exact retN X53 hx (t := .boolean) Bd.returns (by simp) (hb hby at_127) hr
        · show Q0 Z pi0 pi1 pi2 w_UNRATED w_DUE w_SETTLED w_NONE h0 n0 _ T53.heap _
          rw [e53q]
          exact ⟨rfl, N54⟩
      · skip
        have pre57 : ∀ t, Steps p.tables e below (s₁.setTop (mkF m 31 #[iv pi0, iv pi1, iv pi2, iv (3 : Int32), iv (0 : Int32), iv (0 : Int32), .unset, .unset, .unset] [(.int (3 : Int32))])) t → Go t := fun t kt => pre7 t (by
            refine y_iloadN X0.here hx (hb hby at_30) rfl (pc' := 31) rfl ?_
            exact kt)
        obtain ⟨v58, _, ⟨T58, L58, k58, n58⟩, -, X58, ⟨Lc58, hQ58, l58, y58, z58⟩, st58⟩ := Jvm.LawKit.callS X0 hx (y := (⟨"com/example/brace/brace/account/FixedRateAfterReservationPinLaw", "pick", "(I)Lcom/example/brace/brace/account/Session$FixedRate;"⟩ : MethodName)) hown (mvT hZ (hw _ (List.mem_of_getElem? (i := 0) rfl))) (mvT hZ (hw _ (List.mem_of_getElem? (i := 1) rfl))) (mvT hZ (hw _ (List.mem_of_getElem? (i := 2) rfl))) (mvT hZ (hw _ (List.mem_of_getElem? (i := 3) rfl))) (by decide) (backOf (W := 0) (rm1 l Z a0 hw [] (3 : Int32) w_UNRATED w_DUE w_SETTLED w_NONE h0 n0 O0 S_UNRATED S_DUE S_SETTLED S_NONE) hZ (hw _ (List.mem_of_getElem? (i := 3) rfl)) (hw _ (List.mem_of_getElem? (i := 2) rfl)) (by decide) (by decide)) (g := (mkF m 31 #[iv pi0, iv pi1, iv pi2, iv (3 : Int32), iv (0 : Int32), iv (0 : Int32), .unset, .unset, .unset] [(.int (3 : Int32))])) rfl (by rw [hml]; rfl) (argsL := [(.int (3 : Int32))]) (rest := []) (lenOf pd__I_Lcom_example_brace_brace_account_Session_FixedRate_ rfl) rfl (by show 2 * 0 + _ ≤ _; exact Nat.le_of_eq rfl) (hb hby at_31) (fun _ _ => ⟨rfl, e0, (by decide : 0 + 0 ≤ _), (by decide : 0 + 0 ≤ _)⟩)
        dsimp only [Pt.U, Pt.locs, Pt.cells, Pt.slots] at X58 l58 y58 z58 st58 hQ58
        subst l58 y58 z58
        obtain ⟨hv58, N58q, e58q⟩ := hQ58
        have N59 := Fr.app N0 N58q
        have hw58 : v58 = some (.ref w_NONE) := by rw [hv58, if_neg (by decide : ¬ ((3 : Int32) = (0 : Int32))), if_neg (by decide : ¬ ((3 : Int32) = (1 : Int32))), if_neg (by decide : ¬ ((3 : Int32) = (2 : Int32)))]
        subst hw58
        have pre60 : ∀ t, Steps p.tables e below (T58.setTop (mkF m 34 #[iv pi0, iv pi1, iv pi2, iv (3 : Int32), iv (0 : Int32), iv (0 : Int32), .unset, .unset, .unset] [(.ref w_NONE)])) t → Go t := fun t kt => pre57 t (st58 t kt)
        have pre61 : ∀ t, Steps p.tables e below (T58.setTop (mkF m 87 #[iv pi0, iv pi1, iv pi2, iv (3 : Int32), iv (0 : Int32), iv (0 : Int32), rv w_NONE, .unset, .unset] [])) t → Go t := fun t kt => pre60 t (by
            refine y_astore X58.here hx (hb hby at_34) rfl (l' := #[iv pi0, iv pi1, iv pi2, iv (3 : Int32), iv (0 : Int32), iv (0 : Int32), rv w_NONE, .unset, .unset]) rfl (pc' := 36) rfl ?_
            refine y_iloadN X58.here hx (hb hby at_36) rfl (pc' := 37) rfl ?_
            refine y_ifYes X58.here hx (hb hby at_37) ((if0 _ _).trans (feq (by decide : ¬ ((3 : Int32) = (0 : Int32)))).2) (pc' := 61) (by decide) rfl ?_
            refine y_iloadN X58.here hx (hb hby at_61) rfl (pc' := 62) rfl ?_
            refine y_iconst X58.here hx (hb hby at_62) (v := (1 : Int32)) rfl (pc' := 63) rfl ?_
            refine y_icmpYes X58.here hx (hb hby at_63) (feq (by decide : ¬ ((3 : Int32) = (1 : Int32)))).2 (pc' := 74) (by decide) rfl ?_
            refine y_iloadN X58.here hx (hb hby at_74) rfl (pc' := 75) rfl ?_
            refine y_iconst X58.here hx (hb hby at_75) (v := (2 : Int32)) rfl (pc' := 76) rfl ?_
            refine y_icmpYes X58.here hx (hb hby at_76) (feq (by decide : ¬ ((3 : Int32) = (2 : Int32)))).2 (pc' := 87) (by decide) rfl ?_
            exact kt)
        obtain ⟨T62, X62, e62, st62⟩ := getS2 X58 hx hZ hown (host := "") (Or.inl (hw _ (List.mem_of_getElem? (i := 16) rfl))) Via.refl e58q (S_NONE.ext O0.2) (g := (mkF m 87 #[iv pi0, iv pi1, iv pi2, iv (3 : Int32), iv (0 : Int32), iv (0 : Int32), rv w_NONE, .unset, .unset] [])) rfl (hb hby at_87)
        have pre63 : ∀ t, Steps p.tables e below (T62.setTop (mkF m 90 #[iv pi0, iv pi1, iv pi2, iv (3 : Int32), iv (0 : Int32), iv (0 : Int32), rv w_NONE, .unset, .unset] [(.ref w_NONE)])) t → Go t := fun t kt => pre61 t (st62 t kt)
        have pre64 : ∀ t, Steps p.tables e below (T62.setTop (mkF m 96 #[iv pi0, iv pi1, iv pi2, iv (3 : Int32), iv (0 : Int32), iv (0 : Int32), rv w_NONE, rv w_NONE, .unset] [(.int (0 : Int32)), (.ref w_NONE)])) t → Go t := fun t kt => pre63 t (by
            refine y_astore X62.here hx (hb hby at_90) rfl (l' := #[iv pi0, iv pi1, iv pi2, iv (3 : Int32), iv (0 : Int32), iv (0 : Int32), rv w_NONE, rv w_NONE, .unset]) rfl (pc' := 92) rfl ?_
            refine y_aload X62.here hx (hb hby at_92) rfl rfl (pc' := 94) rfl ?_
            refine y_iload X62.here hx (hb hby at_94) rfl (pc' := 96) rfl ?_
            exact kt)
        obtain ⟨cq65, kq65, q65a, q65b, q65c⟩ := isOf hZ e62 (E_w_NONE.ext O0.2)
        obtain ⟨v65, _, ⟨T65, L65, k65, n65⟩, -, X65, ⟨Lc65, hQ65, l65, y65, z65⟩, st65⟩ := X62.virtualBack hx (y := (⟨"com/example/brace/brace/account/Session$FixedRate", "afterReservation", "(Z)Lcom/example/brace/brace/account/Session$FixedRate;"⟩ : MethodName)) (z := (⟨"com/example/brace/brace/account/Session$FixedRate", "afterReservation", "(Z)Lcom/example/brace/brace/account/Session$FixedRate;"⟩ : MethodName)) hown (mvT hZ (hw _ (List.mem_of_getElem? (i := 9) rfl))) (mvT hZ (hw _ (List.mem_of_getElem? (i := 10) rfl))) (notFace_of_selects (args := #[]) (mvT hZ (hw _ (List.mem_of_getElem? (i := 12) rfl)))) (mvT hZ (hw _ (List.mem_of_getElem? (i := 12) rfl))) (mvT hZ (hw _ (List.mem_of_getElem? (i := 11) rfl))) (by decide) (backOf (W := 0) (rm2 l Z a0 hw [] w_NONE (0 : Int32) w_UNRATED w_DUE w_NONE h0 n0 O0 S_UNRATED S_DUE S_NONE) hZ (hw _ (List.mem_of_getElem? (i := 13) rfl)) (hw _ (List.mem_of_getElem? (i := 5) rfl)) (by decide) (by decide)) q65a q65c (g := (mkF m 96 #[iv pi0, iv pi1, iv pi2, iv (3 : Int32), iv (0 : Int32), iv (0 : Int32), rv w_NONE, rv w_NONE, .unset] [(.int (0 : Int32)), (.ref w_NONE)])) rfl (by rw [hml]; rfl) (Steps.refl _) (argsL := [(.int (0 : Int32))]) (rest := []) (lenOf pd__Z_Lcom_example_brace_brace_account_Session_FixedRate_ rfl) rfl (by show 2 * 0 + _ ≤ _; exact Nat.le_of_eq rfl) (hb hby at_96) (fun _ _ => ⟨rfl, e62, (by decide : 0 + 0 ≤ _), (by decide : 0 + 0 ≤ _)⟩)
        dsimp only [Pt.U, Pt.locs, Pt.cells, Pt.slots] at X65 l65 y65 z65 st65 hQ65
        subst l65 y65 z65
        obtain ⟨hv65, N65q, e65q⟩ := hQ65
        have N66 := Fr.app N59 N65q
        have hw65 : v65 = some (.ref w_NONE) := by rw [hv65, if_neg (Ne.symm ne_UNRATED_NONE)]
        subst hw65
        have pre67 : ∀ t, Steps p.tables e below (T65.setTop (mkF m 99 #[iv pi0, iv pi1, iv pi2, iv (3 : Int32), iv (0 : Int32), iv (0 : Int32), rv w_NONE, rv w_NONE, .unset] [(.ref w_NONE)])) t → Go t := fun t kt => pre64 t (st65.trans kt)
        have pre68 : ∀ t, Steps p.tables e below (T65.setTop (mkF m 114 #[iv pi0, iv pi1, iv pi2, iv (3 : Int32), iv (0 : Int32), iv (0 : Int32), rv w_NONE, rv w_NONE, rv w_NONE] [(.int (0 : Int32)), (.ref w_NONE)])) t → Go t := fun t kt => pre67 t (by
            refine y_astore X65.here hx (hb hby at_99) rfl (l' := #[iv pi0, iv pi1, iv pi2, iv (3 : Int32), iv (0 : Int32), iv (0 : Int32), rv w_NONE, rv w_NONE, rv w_NONE]) rfl (pc' := 101) rfl ?_
            refine y_aload X65.here hx (hb hby at_101) rfl rfl (pc' := 103) rfl ?_
            refine y_aload X65.here hx (hb hby at_103) rfl rfl (pc' := 105) rfl ?_
            refine Jvm.RoadKit.acmp (g := (mkF m 105 #[iv pi0, iv pi1, iv pi2, iv (3 : Int32), iv (0 : Int32), iv (0 : Int32), rv w_NONE, rv w_NONE, rv w_NONE] [(.ref w_NONE), (.ref w_NONE)])) X65 hx rfl rfl rfl (pc0 := 105) (pc' := 110) (same := true) rfl (hb hby at_105) rfl (decide_eq_true (congrArg Value.ref (rfl : w_NONE = w_NONE))) (by decide) (by decide) ?_
            show Steps p.tables e below (T65.setTop (mkF m 110 #[iv pi0, iv pi1, iv pi2, iv (3 : Int32), iv (0 : Int32), iv (0 : Int32), rv w_NONE, rv w_NONE, rv w_NONE] [])) _
            refine y_aload X65.here hx (hb hby at_110) rfl rfl (pc' := 112) rfl ?_
            refine y_iload X65.here hx (hb hby at_112) rfl (pc' := 114) rfl ?_
            exact kt)
        obtain ⟨cq69, kq69, q69a, q69b, q69c⟩ := isOf hZ e65q (E_w_NONE.ext O0.2)
        obtain ⟨v69, _, ⟨T69, L69, k69, n69⟩, -, X69, ⟨Lc69, hQ69, l69, y69, z69⟩, st69⟩ := X65.virtualBack hx (y := (⟨"com/example/brace/brace/account/Session$FixedRate", "afterReservation", "(Z)Lcom/example/brace/brace/account/Session$FixedRate;"⟩ : MethodName)) (z := (⟨"com/example/brace/brace/account/Session$FixedRate", "afterReservation", "(Z)Lcom/example/brace/brace/account/Session$FixedRate;"⟩ : MethodName)) hown (mvT hZ (hw _ (List.mem_of_getElem? (i := 9) rfl))) (mvT hZ (hw _ (List.mem_of_getElem? (i := 10) rfl))) (notFace_of_selects (args := #[]) (mvT hZ (hw _ (List.mem_of_getElem? (i := 12) rfl)))) (mvT hZ (hw _ (List.mem_of_getElem? (i := 12) rfl))) (mvT hZ (hw _ (List.mem_of_getElem? (i := 11) rfl))) (by decide) (backOf (W := 0) (rm2 l Z a0 hw [] w_NONE (0 : Int32) w_UNRATED w_DUE w_NONE h0 n0 O0 S_UNRATED S_DUE S_NONE) hZ (hw _ (List.mem_of_getElem? (i := 13) rfl)) (hw _ (List.mem_of_getElem? (i := 5) rfl)) (by decide) (by decide)) q69a q69c (g := (mkF m 114 #[iv pi0, iv pi1, iv pi2, iv (3 : Int32), iv (0 : Int32), iv (0 : Int32), rv w_NONE, rv w_NONE, rv w_NONE] [(.int (0 : Int32)), (.ref w_NONE)])) rfl (by rw [hml]; rfl) (Steps.refl _) (argsL := [(.int (0 : Int32))]) (rest := []) (lenOf pd__Z_Lcom_example_brace_brace_account_Session_FixedRate_ rfl) rfl (by show 2 * 0 + _ ≤ _; exact Nat.le_of_eq rfl) (hb hby at_114) (fun _ _ => ⟨rfl, e65q, (by decide : 0 + 0 ≤ _), (by decide : 0 + 0 ≤ _)⟩)
        dsimp only [Pt.U, Pt.locs, Pt.cells, Pt.slots] at X69 l69 y69 z69 st69 hQ69
        subst l69 y69 z69
        obtain ⟨hv69, N69q, e69q⟩ := hQ69
        have N70 := Fr.app N66 N69q
        have hw69 : v69 = some (.ref w_NONE) := by rw [hv69, if_neg (Ne.symm ne_UNRATED_NONE)]
        subst hw69
        have pre71 : ∀ t, Steps p.tables e below (T69.setTop (mkF m 117 #[iv pi0, iv pi1, iv pi2, iv (3 : Int32), iv (0 : Int32), iv (0 : Int32), rv w_NONE, rv w_NONE, rv w_NONE] [(.ref w_NONE)])) t → Go t := fun t kt => pre68 t (st69.trans kt)
        have pre72 : ∀ t, Steps p.tables e below (T69.setTop (mkF m 127 #[iv pi0, iv pi1, iv pi2, iv (3 : Int32), iv (0 : Int32), iv (0 : Int32), rv w_NONE, rv w_NONE, rv w_NONE] [(.int (1 : Int32))])) t → Go t := fun t kt => pre71 t (by
            refine y_aload X69.here hx (hb hby at_117) rfl rfl (pc' := 119) rfl ?_
            refine Jvm.RoadKit.acmp (g := (mkF m 119 #[iv pi0, iv pi1, iv pi2, iv (3 : Int32), iv (0 : Int32), iv (0 : Int32), rv w_NONE, rv w_NONE, rv w_NONE] [(.ref w_NONE), (.ref w_NONE)])) X69 hx rfl rfl rfl (pc0 := 119) (pc' := 122) (same := true) rfl (hb hby at_119) rfl (decide_eq_true (congrArg Value.ref (rfl : w_NONE = w_NONE))) (by decide) (by decide) ?_
            show Steps p.tables e below (T69.setTop (mkF m 122 #[iv pi0, iv pi1, iv pi2, iv (3 : Int32), iv (0 : Int32), iv (0 : Int32), rv w_NONE, rv w_NONE, rv w_NONE] [])) _
            refine y_iconst X69.here hx (hb hby at_122) (v := (1 : Int32)) rfl (pc' := 123) rfl ?_
            refine y_goto X69.here hx (hb hby at_123) (pc' := 127) (by decide) rfl ?_
            exact kt)
        obtain ⟨fs, hr, hrun, hended, hW, hsame⟩ := X69.leave (v := some (.int (1 : Int32))) (fun h => by rw [Bd.returns] at h; cases h)
        refine ⟨_, _, (hGo _).mp (pre72 _ ?_), hrun, hended, _, _, rfl, ?_, ⟨_, rfl⟩, hW, hsame.mono (by decide) (by decide)⟩
        · exact retN X69 hx (t := .boolean) Bd.returns (by simp) (hb hby at_127) hr
        · show Q0 Z pi0 pi1 pi2 w_UNRATED w_DUE w_SETTLED w_NONE h0 n0 _ T69.heap _
          rw [e69q]
          exact ⟨rfl, N70⟩
    · have pre73 : ∀ t, Steps p.tables e below (s₁.setTop (mkF m 30 #[iv pi0, iv pi1, iv pi2, iv x1, iv (0 : Int32), iv (1 : Int32), .unset, .unset, .unset] [])) t → Go t := fun t kt => pre5 t (by
          refine y_ifNo X0.here hx (hb hby at_20) ((if0 _ _).trans (feq hc20_6).1) (pc' := 23) rfl ?_
          refine y_iconst X0.here hx (hb hby at_23) (v := (1 : Int32)) rfl (pc' := 24) rfl ?_
          refine y_goto X0.here hx (hb hby at_24) (pc' := 28) (by decide) rfl ?_
          refine y_istore X0.here hx (hb hby at_28) (l' := #[iv pi0, iv pi1, iv pi2, iv x1, iv (0 : Int32), iv (1 : Int32), .unset, .unset, .unset]) rfl (pc' := 30) rfl ?_
          exact kt)
      have hs30_74 : x1 = (0 : Int32) ∨ x1 = (1 : Int32) ∨ x1 = (2 : Int32) ∨ x1 = (3 : Int32) := by
          rw [hx1]; exact own_and3 _
      rcases hs30_74 with rfl | rfl | rfl | rfl
      · skip
        have pre75 : ∀ t, Steps p.tables e below (s₁.setTop (mkF m 31 #[iv pi0, iv pi1, iv pi2, iv (0 : Int32), iv (0 : Int32), iv (1 : Int32), .unset, .unset, .unset] [(.int (0 : Int32))])) t → Go t := fun t kt => pre73 t (by
            refine y_iloadN X0.here hx (hb hby at_30) rfl (pc' := 31) rfl ?_
            exact kt)
        obtain ⟨v76, _, ⟨T76, L76, k76, n76⟩, -, X76, ⟨Lc76, hQ76, l76, y76, z76⟩, st76⟩ := Jvm.LawKit.callS X0 hx (y := (⟨"com/example/brace/brace/account/FixedRateAfterReservationPinLaw", "pick", "(I)Lcom/example/brace/brace/account/Session$FixedRate;"⟩ : MethodName)) hown (mvT hZ (hw _ (List.mem_of_getElem? (i := 0) rfl))) (mvT hZ (hw _ (List.mem_of_getElem? (i := 1) rfl))) (mvT hZ (hw _ (List.mem_of_getElem? (i := 2) rfl))) (mvT hZ (hw _ (List.mem_of_getElem? (i := 3) rfl))) (by decide) (backOf (W := 0) (rm1 l Z a0 hw [] (0 : Int32) w_UNRATED w_DUE w_SETTLED w_NONE h0 n0 O0 S_UNRATED S_DUE S_SETTLED S_NONE) hZ (hw _ (List.mem_of_getElem? (i := 3) rfl)) (hw _ (List.mem_of_getElem? (i := 2) rfl)) (by decide) (by decide)) (g := (mkF m 31 #[iv pi0, iv pi1, iv pi2, iv (0 : Int32), iv (0 : Int32), iv (1 : Int32), .unset, .unset, .unset] [(.int (0 : Int32))])) rfl (by rw [hml]; rfl) (argsL := [(.int (0 : Int32))]) (rest := []) (lenOf pd__I_Lcom_example_brace_brace_account_Session_FixedRate_ rfl) rfl (by show 2 * 0 + _ ≤ _; exact Nat.le_of_eq rfl) (hb hby at_31) (fun _ _ => ⟨rfl, e0, (by decide : 0 + 0 ≤ _), (by decide : 0 + 0 ≤ _)⟩)
        dsimp only [Pt.U, Pt.locs, Pt.cells, Pt.slots] at X76 l76 y76 z76 st76 hQ76
        subst l76 y76 z76
        obtain ⟨hv76, N76q, e76q⟩ := hQ76
        have N77 := Fr.app N0 N76q
        have hw76 : v76 = some (.ref w_UNRATED) := by rw [hv76, if_pos (rfl : (0 : Int32) = (0 : Int32))]
        subst hw76
        have pre78 : ∀ t, Steps p.tables e below (T76.setTop (mkF m 34 #[iv pi0, iv pi1, iv pi2, iv (0 : Int32), iv (0 : Int32), iv (1 : Int32), .unset, .unset, .unset] [(.ref w_UNRATED)])) t → Go t := fun t kt => pre75 t (st76 t kt)
        have pre79 : ∀ t, Steps p.tables e below (T76.setTop (mkF m 53 #[iv pi0, iv pi1, iv pi2, iv (0 : Int32), iv (0 : Int32), iv (1 : Int32), rv w_UNRATED, .unset, .unset] [])) t → Go t := fun t kt => pre78 t (by
            refine y_astore X76.here hx (hb hby at_34) rfl (l' := #[iv pi0, iv pi1, iv pi2, iv (0 : Int32), iv (0 : Int32), iv (1 : Int32), rv w_UNRATED, .unset, .unset]) rfl (pc' := 36) rfl ?_
            refine y_iloadN X76.here hx (hb hby at_36) rfl (pc' := 37) rfl ?_
            refine y_ifNo X76.here hx (hb hby at_37) ((if0 _ _).trans (teq (rfl : (0 : Int32) = (0 : Int32))).2) (pc' := 40) rfl ?_
            refine y_iload X76.here hx (hb hby at_40) rfl (pc' := 42) rfl ?_
            refine y_ifYes X76.here hx (hb hby at_42) ((if0 _ _).trans (teq (rfl : (0 : Int32) = (0 : Int32))).1) (pc' := 53) (by decide) rfl ?_
            exact kt)
        obtain ⟨T80, X80, e80, st80⟩ := getS2 X76 hx hZ hown (host := "") (Or.inl (hw _ (List.mem_of_getElem? (i := 16) rfl))) Via.refl e76q (S_NONE.ext O0.2) (g := (mkF m 53 #[iv pi0, iv pi1, iv pi2, iv (0 : Int32), iv (0 : Int32), iv (1 : Int32), rv w_UNRATED, .unset, .unset] [])) rfl (hb hby at_53)
        have pre81 : ∀ t, Steps p.tables e below (T80.setTop (mkF m 56 #[iv pi0, iv pi1, iv pi2, iv (0 : Int32), iv (0 : Int32), iv (1 : Int32), rv w_UNRATED, .unset, .unset] [(.ref w_NONE)])) t → Go t := fun t kt => pre79 t (st80 t kt)
        have pre82 : ∀ t, Steps p.tables e below (T80.setTop (mkF m 96 #[iv pi0, iv pi1, iv pi2, iv (0 : Int32), iv (0 : Int32), iv (1 : Int32), rv w_UNRATED, rv w_NONE, .unset] [(.int (0 : Int32)), (.ref w_UNRATED)])) t → Go t := fun t kt => pre81 t (by
            refine y_astore X80.here hx (hb hby at_56) rfl (l' := #[iv pi0, iv pi1, iv pi2, iv (0 : Int32), iv (0 : Int32), iv (1 : Int32), rv w_UNRATED, rv w_NONE, .unset]) rfl (pc' := 58) rfl ?_
            refine y_goto X80.here hx (hb hby at_58) (pc' := 92) (by decide) rfl ?_
            refine y_aload X80.here hx (hb hby at_92) rfl rfl (pc' := 94) rfl ?_
            refine y_iload X80.here hx (hb hby at_94) rfl (pc' := 96) rfl ?_
            exact kt)
        obtain ⟨cq83, kq83, q83a, q83b, q83c⟩ := isOf hZ e80 (E_w_UNRATED.ext O0.2)
        obtain ⟨v83, _, ⟨T83, L83, k83, n83⟩, -, X83, ⟨Lc83, hQ83, l83, y83, z83⟩, st83⟩ := X80.virtualBack hx (y := (⟨"com/example/brace/brace/account/Session$FixedRate", "afterReservation", "(Z)Lcom/example/brace/brace/account/Session$FixedRate;"⟩ : MethodName)) (z := (⟨"com/example/brace/brace/account/Session$FixedRate", "afterReservation", "(Z)Lcom/example/brace/brace/account/Session$FixedRate;"⟩ : MethodName)) hown (mvT hZ (hw _ (List.mem_of_getElem? (i := 9) rfl))) (mvT hZ (hw _ (List.mem_of_getElem? (i := 10) rfl))) (notFace_of_selects (args := #[]) (mvT hZ (hw _ (List.mem_of_getElem? (i := 12) rfl)))) (mvT hZ (hw _ (List.mem_of_getElem? (i := 12) rfl))) (mvT hZ (hw _ (List.mem_of_getElem? (i := 11) rfl))) (by decide) (backOf (W := 0) (rm2 l Z a0 hw [] w_UNRATED (0 : Int32) w_UNRATED w_DUE w_NONE h0 n0 O0 S_UNRATED S_DUE S_NONE) hZ (hw _ (List.mem_of_getElem? (i := 13) rfl)) (hw _ (List.mem_of_getElem? (i := 5) rfl)) (by decide) (by decide)) q83a q83c (g := (mkF m 96 #[iv pi0, iv pi1, iv pi2, iv (0 : Int32), iv (0 : Int32), iv (1 : Int32), rv w_UNRATED, rv w_NONE, .unset] [(.int (0 : Int32)), (.ref w_UNRATED)])) rfl (by rw [hml]; rfl) (Steps.refl _) (argsL := [(.int (0 : Int32))]) (rest := []) (lenOf pd__Z_Lcom_example_brace_brace_account_Session_FixedRate_ rfl) rfl (by show 2 * 0 + _ ≤ _; exact Nat.le_of_eq rfl) (hb hby at_96) (fun _ _ => ⟨rfl, e80, (by decide : 0 + 0 ≤ _), (by decide : 0 + 0 ≤ _)⟩)
        dsimp only [Pt.U, Pt.locs, Pt.cells, Pt.slots] at X83 l83 y83 z83 st83 hQ83
        subst l83 y83 z83
        obtain ⟨hv83, N83q, e83q⟩ := hQ83
        have N84 := Fr.app N77 N83q
        have hw83 : v83 = some (.ref w_NONE) := by rw [hv83, if_pos (rfl : w_UNRATED = w_UNRATED), if_pos (rfl : (0 : Int32) = (0 : Int32))]
        subst hw83
        have pre85 : ∀ t, Steps p.tables e below (T83.setTop (mkF m 99 #[iv pi0, iv pi1, iv pi2, iv (0 : Int32), iv (0 : Int32), iv (1 : Int32), rv w_UNRATED, rv w_NONE, .unset] [(.ref w_NONE)])) t → Go t := fun t kt => pre82 t (st83.trans kt)
        have pre86 : ∀ t, Steps p.tables e below (T83.setTop (mkF m 114 #[iv pi0, iv pi1, iv pi2, iv (0 : Int32), iv (0 : Int32), iv (1 : Int32), rv w_UNRATED, rv w_NONE, rv w_NONE] [(.int (1 : Int32)), (.ref w_NONE)])) t → Go t := fun t kt => pre85 t (by
            refine y_astore X83.here hx (hb hby at_99) rfl (l' := #[iv pi0, iv pi1, iv pi2, iv (0 : Int32), iv (0 : Int32), iv (1 : Int32), rv w_UNRATED, rv w_NONE, rv w_NONE]) rfl (pc' := 101) rfl ?_
            refine y_aload X83.here hx (hb hby at_101) rfl rfl (pc' := 103) rfl ?_
            refine y_aload X83.here hx (hb hby at_103) rfl rfl (pc' := 105) rfl ?_
            refine Jvm.RoadKit.acmp (g := (mkF m 105 #[iv pi0, iv pi1, iv pi2, iv (0 : Int32), iv (0 : Int32), iv (1 : Int32), rv w_UNRATED, rv w_NONE, rv w_NONE] [(.ref w_NONE), (.ref w_NONE)])) X83 hx rfl rfl rfl (pc0 := 105) (pc' := 110) (same := true) rfl (hb hby at_105) rfl (decide_eq_true (congrArg Value.ref (rfl : w_NONE = w_NONE))) (by decide) (by decide) ?_
            show Steps p.tables e below (T83.setTop (mkF m 110 #[iv pi0, iv pi1, iv pi2, iv (0 : Int32), iv (0 : Int32), iv (1 : Int32), rv w_UNRATED, rv w_NONE, rv w_NONE] [])) _
            refine y_aload X83.here hx (hb hby at_110) rfl rfl (pc' := 112) rfl ?_
            refine y_iload X83.here hx (hb hby at_112) rfl (pc' := 114) rfl ?_
            exact kt)
        obtain ⟨cq87, kq87, q87a, q87b, q87c⟩ := isOf hZ e83q (E_w_NONE.ext O0.2)
        obtain ⟨v87, _, ⟨T87, L87, k87, n87⟩, -, X87, ⟨Lc87, hQ87, l87, y87, z87⟩, st87⟩ := X83.virtualBack hx (y := (⟨"com/example/brace/brace/account/Session$FixedRate", "afterReservation", "(Z)Lcom/example/brace/brace/account/Session$FixedRate;"⟩ : MethodName)) (z := (⟨"com/example/brace/brace/account/Session$FixedRate", "afterReservation", "(Z)Lcom/example/brace/brace/account/Session$FixedRate;"⟩ : MethodName)) hown (mvT hZ (hw _ (List.mem_of_getElem? (i := 9) rfl))) (mvT hZ (hw _ (List.mem_of_getElem? (i := 10) rfl))) (notFace_of_selects (args := #[]) (mvT hZ (hw _ (List.mem_of_getElem? (i := 12) rfl)))) (mvT hZ (hw _ (List.mem_of_getElem? (i := 12) rfl))) (mvT hZ (hw _ (List.mem_of_getElem? (i := 11) rfl))) (by decide) (backOf (W := 0) (rm2 l Z a0 hw [] w_NONE (1 : Int32) w_UNRATED w_DUE w_NONE h0 n0 O0 S_UNRATED S_DUE S_NONE) hZ (hw _ (List.mem_of_getElem? (i := 13) rfl)) (hw _ (List.mem_of_getElem? (i := 5) rfl)) (by decide) (by decide)) q87a q87c (g := (mkF m 114 #[iv pi0, iv pi1, iv pi2, iv (0 : Int32), iv (0 : Int32), iv (1 : Int32), rv w_UNRATED, rv w_NONE, rv w_NONE] [(.int (1 : Int32)), (.ref w_NONE)])) rfl (by rw [hml]; rfl) (Steps.refl _) (argsL := [(.int (1 : Int32))]) (rest := []) (lenOf pd__Z_Lcom_example_brace_brace_account_Session_FixedRate_ rfl) rfl (by show 2 * 0 + _ ≤ _; exact Nat.le_of_eq rfl) (hb hby at_114) (fun _ _ => ⟨rfl, e83q, (by decide : 0 + 0 ≤ _), (by decide : 0 + 0 ≤ _)⟩)
        dsimp only [Pt.U, Pt.locs, Pt.cells, Pt.slots] at X87 l87 y87 z87 st87 hQ87
        subst l87 y87 z87
        obtain ⟨hv87, N87q, e87q⟩ := hQ87
        have N88 := Fr.app N84 N87q
        have hw87 : v87 = some (.ref w_NONE) := by rw [hv87, if_neg (Ne.symm ne_UNRATED_NONE)]
        subst hw87
        have pre89 : ∀ t, Steps p.tables e below (T87.setTop (mkF m 117 #[iv pi0, iv pi1, iv pi2, iv (0 : Int32), iv (0 : Int32), iv (1 : Int32), rv w_UNRATED, rv w_NONE, rv w_NONE] [(.ref w_NONE)])) t → Go t := fun t kt => pre86 t (st87.trans kt)
        have pre90 : ∀ t, Steps p.tables e below (T87.setTop (mkF m 127 #[iv pi0, iv pi1, iv pi2, iv (0 : Int32), iv (0 : Int32), iv (1 : Int32), rv w_UNRATED, rv w_NONE, rv w_NONE] [(.int (1 : Int32))])) t → Go t := fun t kt => pre89 t (by
            refine y_aload X87.here hx (hb hby at_117) rfl rfl (pc' := 119) rfl ?_
            refine Jvm.RoadKit.acmp (g := (mkF m 119 #[iv pi0, iv pi1, iv pi2, iv (0 : Int32), iv (0 : Int32), iv (1 : Int32), rv w_UNRATED, rv w_NONE, rv w_NONE] [(.ref w_NONE), (.ref w_NONE)])) X87 hx rfl rfl rfl (pc0 := 119) (pc' := 122) (same := true) rfl (hb hby at_119) rfl (decide_eq_true (congrArg Value.ref (rfl : w_NONE = w_NONE))) (by decide) (by decide) ?_
            show Steps p.tables e below (T87.setTop (mkF m 122 #[iv pi0, iv pi1, iv pi2, iv (0 : Int32), iv (0 : Int32), iv (1 : Int32), rv w_UNRATED, rv w_NONE, rv w_NONE] [])) _
            refine y_iconst X87.here hx (hb hby at_122) (v := (1 : Int32)) rfl (pc' := 123) rfl ?_
            refine y_goto X87.here hx (hb hby at_123) (pc' := 127) (by decide) rfl ?_
            exact kt)
        obtain ⟨fs, hr, hrun, hended, hW, hsame⟩ := X87.leave (v := some (.int (1 : Int32))) (fun h => by rw [Bd.returns] at h; cases h)
        refine ⟨_, _, (hGo _).mp (pre90 _ ?_), hrun, hended, _, _, rfl, ?_, ⟨_, rfl⟩, hW, hsame.mono (by decide) (by decide)⟩
        · exact retN X87 hx (t := .boolean) Bd.returns (by simp) (hb hby at_127) hr
        · show Q0 Z pi0 pi1 pi2 w_UNRATED w_DUE w_SETTLED w_NONE h0 n0 _ T87.heap _
          rw [e87q]
          exact ⟨rfl, N88⟩
      · skip
        have pre91 : ∀ t, Steps p.tables e below (s₁.setTop (mkF m 31 #[iv pi0, iv pi1, iv pi2, iv (1 : Int32), iv (0 : Int32), iv (1 : Int32), .unset, .unset, .unset] [(.int (1 : Int32))])) t → Go t := fun t kt => pre73 t (by
            refine y_iloadN X0.here hx (hb hby at_30) rfl (pc' := 31) rfl ?_
            exact kt)
        obtain ⟨v92, _, ⟨T92, L92, k92, n92⟩, -, X92, ⟨Lc92, hQ92, l92, y92, z92⟩, st92⟩ := Jvm.LawKit.callS X0 hx (y := (⟨"com/example/brace/brace/account/FixedRateAfterReservationPinLaw", "pick", "(I)Lcom/example/brace/brace/account/Session$FixedRate;"⟩ : MethodName)) hown (mvT hZ (hw _ (List.mem_of_getElem? (i := 0) rfl))) (mvT hZ (hw _ (List.mem_of_getElem? (i := 1) rfl))) (mvT hZ (hw _ (List.mem_of_getElem? (i := 2) rfl))) (mvT hZ (hw _ (List.mem_of_getElem? (i := 3) rfl))) (by decide) (backOf (W := 0) (rm1 l Z a0 hw [] (1 : Int32) w_UNRATED w_DUE w_SETTLED w_NONE h0 n0 O0 S_UNRATED S_DUE S_SETTLED S_NONE) hZ (hw _ (List.mem_of_getElem? (i := 3) rfl)) (hw _ (List.mem_of_getElem? (i := 2) rfl)) (by decide) (by decide)) (g := (mkF m 31 #[iv pi0, iv pi1, iv pi2, iv (1 : Int32), iv (0 : Int32), iv (1 : Int32), .unset, .unset, .unset] [(.int (1 : Int32))])) rfl (by rw [hml]; rfl) (argsL := [(.int (1 : Int32))]) (rest := []) (lenOf pd__I_Lcom_example_brace_brace_account_Session_FixedRate_ rfl) rfl (by show 2 * 0 + _ ≤ _; exact Nat.le_of_eq rfl) (hb hby at_31) (fun _ _ => ⟨rfl, e0, (by decide : 0 + 0 ≤ _), (by decide : 0 + 0 ≤ _)⟩)
        dsimp only [Pt.U, Pt.locs, Pt.cells, Pt.slots] at X92 l92 y92 z92 st92 hQ92
        subst l92 y92 z92
        obtain ⟨hv92, N92q, e92q⟩ := hQ92
        have N93 := Fr.app N0 N92q
        have hw92 : v92 = some (.ref w_DUE) := by rw [hv92, if_neg (by decide : ¬ ((1 : Int32) = (0 : Int32))), if_pos (rfl : (1 : Int32) = (1 : Int32))]
        subst hw92
        have pre94 : ∀ t, Steps p.tables e below (T92.setTop (mkF m 34 #[iv pi0, iv pi1, iv pi2, iv (1 : Int32), iv (0 : Int32), iv (1 : Int32), .unset, .unset, .unset] [(.ref w_DUE)])) t → Go t := fun t kt => pre91 t (st92 t kt)
        have pre95 : ∀ t, Steps p.tables e below (T92.setTop (mkF m 66 #[iv pi0, iv pi1, iv pi2, iv (1 : Int32), iv (0 : Int32), iv (1 : Int32), rv w_DUE, .unset, .unset] [])) t → Go t := fun t kt => pre94 t (by
            refine y_astore X92.here hx (hb hby at_34) rfl (l' := #[iv pi0, iv pi1, iv pi2, iv (1 : Int32), iv (0 : Int32), iv (1 : Int32), rv w_DUE, .unset, .unset]) rfl (pc' := 36) rfl ?_
            refine y_iloadN X92.here hx (hb hby at_36) rfl (pc' := 37) rfl ?_
            refine y_ifYes X92.here hx (hb hby at_37) ((if0 _ _).trans (feq (by decide : ¬ ((1 : Int32) = (0 : Int32)))).2) (pc' := 61) (by decide) rfl ?_
            refine y_iloadN X92.here hx (hb hby at_61) rfl (pc' := 62) rfl ?_
            refine y_iconst X92.here hx (hb hby at_62) (v := (1 : Int32)) rfl (pc' := 63) rfl ?_
            refine y_icmpNo X92.here hx (hb hby at_63) (teq (rfl : (1 : Int32) = (1 : Int32))).2 (pc' := 66) rfl ?_
            exact kt)
        obtain ⟨T96, X96, e96, st96⟩ := getS2 X92 hx hZ hown (host := "") (Or.inl (hw _ (List.mem_of_getElem? (i := 7) rfl))) Via.refl e92q (S_DUE.ext O0.2) (g := (mkF m 66 #[iv pi0, iv pi1, iv pi2, iv (1 : Int32), iv (0 : Int32), iv (1 : Int32), rv w_DUE, .unset, .unset] [])) rfl (hb hby at_66)
        have pre97 : ∀ t, Steps p.tables e below (T96.setTop (mkF m 69 #[iv pi0, iv pi1, iv pi2, iv (1 : Int32), iv (0 : Int32), iv (1 : Int32), rv w_DUE, .unset, .unset] [(.ref w_DUE)])) t → Go t := fun t kt => pre95 t (st96 t kt)
        have pre98 : ∀ t, Steps p.tables e below (T96.setTop (mkF m 96 #[iv pi0, iv pi1, iv pi2, iv (1 : Int32), iv (0 : Int32), iv (1 : Int32), rv w_DUE, rv w_DUE, .unset] [(.int (0 : Int32)), (.ref w_DUE)])) t → Go t := fun t kt => pre97 t (by
            refine y_astore X96.here hx (hb hby at_69) rfl (l' := #[iv pi0, iv pi1, iv pi2, iv (1 : Int32), iv (0 : Int32), iv (1 : Int32), rv w_DUE, rv w_DUE, .unset]) rfl (pc' := 71) rfl ?_
            refine y_goto X96.here hx (hb hby at_71) (pc' := 92) (by decide) rfl ?_
            refine y_aload X96.here hx (hb hby at_92) rfl rfl (pc' := 94) rfl ?_
            refine y_iload X96.here hx (hb hby at_94) rfl (pc' := 96) rfl ?_
            exact kt)
        obtain ⟨cq99, kq99, q99a, q99b, q99c⟩ := isOf hZ e96 (E_w_DUE.ext O0.2)
        obtain ⟨v99, _, ⟨T99, L99, k99, n99⟩, -, X99, ⟨Lc99, hQ99, l99, y99, z99⟩, st99⟩ := X96.virtualBack hx (y := (⟨"com/example/brace/brace/account/Session$FixedRate", "afterReservation", "(Z)Lcom/example/brace/brace/account/Session$FixedRate;"⟩ : MethodName)) (z := (⟨"com/example/brace/brace/account/Session$FixedRate", "afterReservation", "(Z)Lcom/example/brace/brace/account/Session$FixedRate;"⟩ : MethodName)) hown (mvT hZ (hw _ (List.mem_of_getElem? (i := 9) rfl))) (mvT hZ (hw _ (List.mem_of_getElem? (i := 10) rfl))) (notFace_of_selects (args := #[]) (mvT hZ (hw _ (List.mem_of_getElem? (i := 12) rfl)))) (mvT hZ (hw _ (List.mem_of_getElem? (i := 12) rfl))) (mvT hZ (hw _ (List.mem_of_getElem? (i := 11) rfl))) (by decide) (backOf (W := 0) (rm2 l Z a0 hw [] w_DUE (0 : Int32) w_UNRATED w_DUE w_NONE h0 n0 O0 S_UNRATED S_DUE S_NONE) hZ (hw _ (List.mem_of_getElem? (i := 13) rfl)) (hw _ (List.mem_of_getElem? (i := 5) rfl)) (by decide) (by decide)) q99a q99c (g := (mkF m 96 #[iv pi0, iv pi1, iv pi2, iv (1 : Int32), iv (0 : Int32), iv (1 : Int32), rv w_DUE, rv w_DUE, .unset] [(.int (0 : Int32)), (.ref w_DUE)])) rfl (by rw [hml]; rfl) (Steps.refl _) (argsL := [(.int (0 : Int32))]) (rest := []) (lenOf pd__Z_Lcom_example_brace_brace_account_Session_FixedRate_ rfl) rfl (by show 2 * 0 + _ ≤ _; exact Nat.le_of_eq rfl) (hb hby at_96) (fun _ _ => ⟨rfl, e96, (by decide : 0 + 0 ≤ _), (by decide : 0 + 0 ≤ _)⟩)
        dsimp only [Pt.U, Pt.locs, Pt.cells, Pt.slots] at X99 l99 y99 z99 st99 hQ99
        subst l99 y99 z99
        obtain ⟨hv99, N99q, e99q⟩ := hQ99
        have N100 := Fr.app N93 N99q
        have hw99 : v99 = some (.ref w_DUE) := by rw [hv99, if_neg (Ne.symm ne_UNRATED_DUE)]
        subst hw99
        have pre101 : ∀ t, Steps p.tables e below (T99.setTop (mkF m 99 #[iv pi0, iv pi1, iv pi2, iv (1 : Int32), iv (0 : Int32), iv (1 : Int32), rv w_DUE, rv w_DUE, .unset] [(.ref w_DUE)])) t → Go t := fun t kt => pre98 t (st99.trans kt)
        have pre102 : ∀ t, Steps p.tables e below (T99.setTop (mkF m 114 #[iv pi0, iv pi1, iv pi2, iv (1 : Int32), iv (0 : Int32), iv (1 : Int32), rv w_DUE, rv w_DUE, rv w_DUE] [(.int (1 : Int32)), (.ref w_DUE)])) t → Go t := fun t kt => pre101 t (by
            refine y_astore X99.here hx (hb hby at_99) rfl (l' := #[iv pi0, iv pi1, iv pi2, iv (1 : Int32), iv (0 : Int32), iv (1 : Int32), rv w_DUE, rv w_DUE, rv w_DUE]) rfl (pc' := 101) rfl ?_
            refine y_aload X99.here hx (hb hby at_101) rfl rfl (pc' := 103) rfl ?_
            refine y_aload X99.here hx (hb hby at_103) rfl rfl (pc' := 105) rfl ?_
            refine Jvm.RoadKit.acmp (g := (mkF m 105 #[iv pi0, iv pi1, iv pi2, iv (1 : Int32), iv (0 : Int32), iv (1 : Int32), rv w_DUE, rv w_DUE, rv w_DUE] [(.ref w_DUE), (.ref w_DUE)])) X99 hx rfl rfl rfl (pc0 := 105) (pc' := 110) (same := true) rfl (hb hby at_105) rfl (decide_eq_true (congrArg Value.ref (rfl : w_DUE = w_DUE))) (by decide) (by decide) ?_
            show Steps p.tables e below (T99.setTop (mkF m 110 #[iv pi0, iv pi1, iv pi2, iv (1 : Int32), iv (0 : Int32), iv (1 : Int32), rv w_DUE, rv w_DUE, rv w_DUE] [])) _
            refine y_aload X99.here hx (hb hby at_110) rfl rfl (pc' := 112) rfl ?_
            refine y_iload X99.here hx (hb hby at_112) rfl (pc' := 114) rfl ?_
            exact kt)
        obtain ⟨cq103, kq103, q103a, q103b, q103c⟩ := isOf hZ e99q (E_w_DUE.ext O0.2)
        obtain ⟨v103, _, ⟨T103, L103, k103, n103⟩, -, X103, ⟨Lc103, hQ103, l103, y103, z103⟩, st103⟩ := X99.virtualBack hx (y := (⟨"com/example/brace/brace/account/Session$FixedRate", "afterReservation", "(Z)Lcom/example/brace/brace/account/Session$FixedRate;"⟩ : MethodName)) (z := (⟨"com/example/brace/brace/account/Session$FixedRate", "afterReservation", "(Z)Lcom/example/brace/brace/account/Session$FixedRate;"⟩ : MethodName)) hown (mvT hZ (hw _ (List.mem_of_getElem? (i := 9) rfl))) (mvT hZ (hw _ (List.mem_of_getElem? (i := 10) rfl))) (notFace_of_selects (args := #[]) (mvT hZ (hw _ (List.mem_of_getElem? (i := 12) rfl)))) (mvT hZ (hw _ (List.mem_of_getElem? (i := 12) rfl))) (mvT hZ (hw _ (List.mem_of_getElem? (i := 11) rfl))) (by decide) (backOf (W := 0) (rm2 l Z a0 hw [] w_DUE (1 : Int32) w_UNRATED w_DUE w_NONE h0 n0 O0 S_UNRATED S_DUE S_NONE) hZ (hw _ (List.mem_of_getElem? (i := 13) rfl)) (hw _ (List.mem_of_getElem? (i := 5) rfl)) (by decide) (by decide)) q103a q103c (g := (mkF m 114 #[iv pi0, iv pi1, iv pi2, iv (1 : Int32), iv (0 : Int32), iv (1 : Int32), rv w_DUE, rv w_DUE, rv w_DUE] [(.int (1 : Int32)), (.ref w_DUE)])) rfl (by rw [hml]; rfl) (Steps.refl _) (argsL := [(.int (1 : Int32))]) (rest := []) (lenOf pd__Z_Lcom_example_brace_brace_account_Session_FixedRate_ rfl) rfl (by show 2 * 0 + _ ≤ _; exact Nat.le_of_eq rfl) (hb hby at_114) (fun _ _ => ⟨rfl, e99q, (by decide : 0 + 0 ≤ _), (by decide : 0 + 0 ≤ _)⟩)
        dsimp only [Pt.U, Pt.locs, Pt.cells, Pt.slots] at X103 l103 y103 z103 st103 hQ103
        subst l103 y103 z103
        obtain ⟨hv103, N103q, e103q⟩ := hQ103
        have N104 := Fr.app N100 N103q
        have hw103 : v103 = some (.ref w_DUE) := by rw [hv103, if_neg (Ne.symm ne_UNRATED_DUE)]
        subst hw103
        have pre105 : ∀ t, Steps p.tables e below (T103.setTop (mkF m 117 #[iv pi0, iv pi1, iv pi2, iv (1 : Int32), iv (0 : Int32), iv (1 : Int32), rv w_DUE, rv w_DUE, rv w_DUE] [(.ref w_DUE)])) t → Go t := fun t kt => pre102 t (st103.trans kt)
        have pre106 : ∀ t, Steps p.tables e below (T103.setTop (mkF m 127 #[iv pi0, iv pi1, iv pi2, iv (1 : Int32), iv (0 : Int32), iv (1 : Int32), rv w_DUE, rv w_DUE, rv w_DUE] [(.int (1 : Int32))])) t → Go t := fun t kt => pre105 t (by
            refine y_aload X103.here hx (hb hby at_117) rfl rfl (pc' := 119) rfl ?_
            refine Jvm.RoadKit.acmp (g := (mkF m 119 #[iv pi0, iv pi1, iv pi2, iv (1 : Int32), iv (0 : Int32), iv (1 : Int32), rv w_DUE, rv w_DUE, rv w_DUE] [(.ref w_DUE), (.ref w_DUE)])) X103 hx rfl rfl rfl (pc0 := 119) (pc' := 122) (same := true) rfl (hb hby at_119) rfl (decide_eq_true (congrArg Value.ref (rfl : w_DUE = w_DUE))) (by decide) (by decide) ?_
            show Steps p.tables e below (T103.setTop (mkF m 122 #[iv pi0, iv pi1, iv pi2, iv (1 : Int32), iv (0 : Int32), iv (1 : Int32), rv w_DUE, rv w_DUE, rv w_DUE] [])) _
            refine y_iconst X103.here hx (hb hby at_122) (v := (1 : Int32)) rfl (pc' := 123) rfl ?_
            refine y_goto X103.here hx (hb hby at_123) (pc' := 127) (by decide) rfl ?_
            exact kt)
        obtain ⟨fs, hr, hrun, hended, hW, hsame⟩ := X103.leave (v := some (.int (1 : Int32))) (fun h => by rw [Bd.returns] at h; cases h)
        refine ⟨_, _, (hGo _).mp (pre106 _ ?_), hrun, hended, _, _, rfl, ?_, ⟨_, rfl⟩, hW, hsame.mono (by decide) (by decide)⟩
        · exact retN X103 hx (t := .boolean) Bd.returns (by simp) (hb hby at_127) hr
        · show Q0 Z pi0 pi1 pi2 w_UNRATED w_DUE w_SETTLED w_NONE h0 n0 _ T103.heap _
          rw [e103q]
          exact ⟨rfl, N104⟩
      · skip
        have pre107 : ∀ t, Steps p.tables e below (s₁.setTop (mkF m 31 #[iv pi0, iv pi1, iv pi2, iv (2 : Int32), iv (0 : Int32), iv (1 : Int32), .unset, .unset, .unset] [(.int (2 : Int32))])) t → Go t := fun t kt => pre73 t (by
            refine y_iloadN X0.here hx (hb hby at_30) rfl (pc' := 31) rfl ?_
            exact kt)
        obtain ⟨v108, _, ⟨T108, L108, k108, n108⟩, -, X108, ⟨Lc108, hQ108, l108, y108, z108⟩, st108⟩ := Jvm.LawKit.callS X0 hx (y := (⟨"com/example/brace/brace/account/FixedRateAfterReservationPinLaw", "pick", "(I)Lcom/example/brace/brace/account/Session$FixedRate;"⟩ : MethodName)) hown (mvT hZ (hw _ (List.mem_of_getElem? (i := 0) rfl))) (mvT hZ (hw _ (List.mem_of_getElem? (i := 1) rfl))) (mvT hZ (hw _ (List.mem_of_getElem? (i := 2) rfl))) (mvT hZ (hw _ (List.mem_of_getElem? (i := 3) rfl))) (by decide) (backOf (W := 0) (rm1 l Z a0 hw [] (2 : Int32) w_UNRATED w_DUE w_SETTLED w_NONE h0 n0 O0 S_UNRATED S_DUE S_SETTLED S_NONE) hZ (hw _ (List.mem_of_getElem? (i := 3) rfl)) (hw _ (List.mem_of_getElem? (i := 2) rfl)) (by decide) (by decide)) (g := (mkF m 31 #[iv pi0, iv pi1, iv pi2, iv (2 : Int32), iv (0 : Int32), iv (1 : Int32), .unset, .unset, .unset] [(.int (2 : Int32))])) rfl (by rw [hml]; rfl) (argsL := [(.int (2 : Int32))]) (rest := []) (lenOf pd__I_Lcom_example_brace_brace_account_Session_FixedRate_ rfl) rfl (by show 2 * 0 + _ ≤ _; exact Nat.le_of_eq rfl) (hb hby at_31) (fun _ _ => ⟨rfl, e0, (by decide : 0 + 0 ≤ _), (by decide : 0 + 0 ≤ _)⟩)
        dsimp only [Pt.U, Pt.locs, Pt.cells, Pt.slots] at X108 l108 y108 z108 st108 hQ108
        subst l108 y108 z108
        obtain ⟨hv108, N108q, e108q⟩ := hQ108
        have N109 := Fr.app N0 N108q
        have hw108 : v108 = some (.ref w_SETTLED) := by rw [hv108, if_neg (by decide : ¬ ((2 : Int32) = (0 : Int32))), if_neg (by decide : ¬ ((2 : Int32) = (1 : Int32))), if_pos (rfl : (2 : Int32) = (2 : Int32))]
        subst hw108
        have pre110 : ∀ t, Steps p.tables e below (T108.setTop (mkF m 34 #[iv pi0, iv pi1, iv pi2, iv (2 : Int32), iv (0 : Int32), iv (1 : Int32), .unset, .unset, .unset] [(.ref w_SETTLED)])) t → Go t := fun t kt => pre107 t (st108 t kt)
        have pre111 : ∀ t, Steps p.tables e below (T108.setTop (mkF m 79 #[iv pi0, iv pi1, iv pi2, iv (2 : Int32), iv (0 : Int32), iv (1 : Int32), rv w_SETTLED, .unset, .unset] [])) t → Go t := fun t kt => pre110 t (by
            refine y_astore X108.here hx (hb hby at_34) rfl (l' := #[iv pi0, iv pi1, iv pi2, iv (2 : Int32), iv (0 : Int32), iv (1 : Int32), rv w_SETTLED, .unset, .unset]) rfl (pc' := 36) rfl ?_
            refine y_iloadN X108.here hx (hb hby at_36) rfl (pc' := 37) rfl ?_
            refine y_ifYes X108.here hx (hb hby at_37) ((if0 _ _).trans (feq (by decide : ¬ ((2 : Int32) = (0 : Int32)))).2) (pc' := 61) (by decide) rfl ?_
            refine y_iloadN X108.here hx (hb hby at_61) rfl (pc' := 62) rfl ?_
            refine y_iconst X108.here hx (hb hby at_62) (v := (1 : Int32)) rfl (pc' := 63) rfl ?_
            refine y_icmpYes X108.here hx (hb hby at_63) (feq (by decide : ¬ ((2 : Int32) = (1 : Int32)))).2 (pc' := 74) (by decide) rfl ?_
            refine y_iloadN X108.here hx (hb hby at_74) rfl (pc' := 75) rfl ?_
            refine y_iconst X108.here hx (hb hby at_75) (v := (2 : Int32)) rfl (pc' := 76) rfl ?_
            refine y_icmpNo X108.here hx (hb hby at_76) (teq (rfl : (2 : Int32) = (2 : Int32))).2 (pc' := 79) rfl ?_
            exact kt)
        obtain ⟨T112, X112, e112, st112⟩ := getS2 X108 hx hZ hown (host := "") (Or.inl (hw _ (List.mem_of_getElem? (i := 19) rfl))) Via.refl e108q (S_SETTLED.ext O0.2) (g := (mkF m 79 #[iv pi0, iv pi1, iv pi2, iv (2 : Int32), iv (0 : Int32), iv (1 : Int32), rv w_SETTLED, .unset, .unset] [])) rfl (hb hby at_79)
        have pre113 : ∀ t, Steps p.tables e below (T112.setTop (mkF m 82 #[iv pi0, iv pi1, iv pi2, iv (2 : Int32), iv (0 : Int32), iv (1 : Int32), rv w_SETTLED, .unset, .unset] [(.ref w_SETTLED)])) t → Go t := fun t kt => pre111 t (st112 t kt)
        have pre114 : ∀ t, Steps p.tables e below (T112.setTop (mkF m 96 #[iv pi0, iv pi1, iv pi2, iv (2 : Int32), iv (0 : Int32), iv (1 : Int32), rv w_SETTLED, rv w_SETTLED, .unset] [(.int (0 : Int32)), (.ref w_SETTLED)])) t → Go t := fun t kt => pre113 t (by
            refine y_astore X112.here hx (hb hby at_82) rfl (l' := #[iv pi0, iv pi1, iv pi2, iv (2 : Int32), iv (0 : Int32), iv (1 : Int32), rv w_SETTLED, rv w_SETTLED, .unset]) rfl (pc' := 84) rfl ?_
            refine y_goto X112.here hx (hb hby at_84) (pc' := 92) (by decide) rfl ?_
            refine y_aload X112.here hx (hb hby at_92) rfl rfl (pc' := 94) rfl ?_
            refine y_iload X112.here hx (hb hby at_94) rfl (pc' := 96) rfl ?_
            exact kt)
        obtain ⟨cq115, kq115, q115a, q115b, q115c⟩ := isOf hZ e112 (E_w_SETTLED.ext O0.2)
        obtain ⟨v115, _, ⟨T115, L115, k115, n115⟩, -, X115, ⟨Lc115, hQ115, l115, y115, z115⟩, st115⟩ := X112.virtualBack hx (y := (⟨"com/example/brace/brace/account/Session$FixedRate", "afterReservation", "(Z)Lcom/example/brace/brace/account/Session$FixedRate;"⟩ : MethodName)) (z := (⟨"com/example/brace/brace/account/Session$FixedRate", "afterReservation", "(Z)Lcom/example/brace/brace/account/Session$FixedRate;"⟩ : MethodName)) hown (mvT hZ (hw _ (List.mem_of_getElem? (i := 9) rfl))) (mvT hZ (hw _ (List.mem_of_getElem? (i := 10) rfl))) (notFace_of_selects (args := #[]) (mvT hZ (hw _ (List.mem_of_getElem? (i := 12) rfl)))) (mvT hZ (hw _ (List.mem_of_getElem? (i := 12) rfl))) (mvT hZ (hw _ (List.mem_of_getElem? (i := 11) rfl))) (by decide) (backOf (W := 0) (rm2 l Z a0 hw [] w_SETTLED (0 : Int32) w_UNRATED w_DUE w_NONE h0 n0 O0 S_UNRATED S_DUE S_NONE) hZ (hw _ (List.mem_of_getElem? (i := 13) rfl)) (hw _ (List.mem_of_getElem? (i := 5) rfl)) (by decide) (by decide)) q115a q115c (g := (mkF m 96 #[iv pi0, iv pi1, iv pi2, iv (2 : Int32), iv (0 : Int32), iv (1 : Int32), rv w_SETTLED, rv w_SETTLED, .unset] [(.int (0 : Int32)), (.ref w_SETTLED)])) rfl (by rw [hml]; rfl) (Steps.refl _) (argsL := [(.int (0 : Int32))]) (rest := []) (lenOf pd__Z_Lcom_example_brace_brace_account_Session_FixedRate_ rfl) rfl (by show 2 * 0 + _ ≤ _; exact Nat.le_of_eq rfl) (hb hby at_96) (fun _ _ => ⟨rfl, e112, (by decide : 0 + 0 ≤ _), (by decide : 0 + 0 ≤ _)⟩)
        dsimp only [Pt.U, Pt.locs, Pt.cells, Pt.slots] at X115 l115 y115 z115 st115 hQ115
        subst l115 y115 z115
        obtain ⟨hv115, N115q, e115q⟩ := hQ115
        have N116 := Fr.app N109 N115q
        have hw115 : v115 = some (.ref w_SETTLED) := by rw [hv115, if_neg (Ne.symm ne_UNRATED_SETTLED)]
        subst hw115
        have pre117 : ∀ t, Steps p.tables e below (T115.setTop (mkF m 99 #[iv pi0, iv pi1, iv pi2, iv (2 : Int32), iv (0 : Int32), iv (1 : Int32), rv w_SETTLED, rv w_SETTLED, .unset] [(.ref w_SETTLED)])) t → Go t := fun t kt => pre114 t (st115.trans kt)
        have pre118 : ∀ t, Steps p.tables e below (T115.setTop (mkF m 114 #[iv pi0, iv pi1, iv pi2, iv (2 : Int32), iv (0 : Int32), iv (1 : Int32), rv w_SETTLED, rv w_SETTLED, rv w_SETTLED] [(.int (1 : Int32)), (.ref w_SETTLED)])) t → Go t := fun t kt => pre117 t (by
            refine y_astore X115.here hx (hb hby at_99) rfl (l' := #[iv pi0, iv pi1, iv pi2, iv (2 : Int32), iv (0 : Int32), iv (1 : Int32), rv w_SETTLED, rv w_SETTLED, rv w_SETTLED]) rfl (pc' := 101) rfl ?_
            refine y_aload X115.here hx (hb hby at_101) rfl rfl (pc' := 103) rfl ?_
            refine y_aload X115.here hx (hb hby at_103) rfl rfl (pc' := 105) rfl ?_
            refine Jvm.RoadKit.acmp (g := (mkF m 105 #[iv pi0, iv pi1, iv pi2, iv (2 : Int32), iv (0 : Int32), iv (1 : Int32), rv w_SETTLED, rv w_SETTLED, rv w_SETTLED] [(.ref w_SETTLED), (.ref w_SETTLED)])) X115 hx rfl rfl rfl (pc0 := 105) (pc' := 110) (same := true) rfl (hb hby at_105) rfl (decide_eq_true (congrArg Value.ref (rfl : w_SETTLED = w_SETTLED))) (by decide) (by decide) ?_
            show Steps p.tables e below (T115.setTop (mkF m 110 #[iv pi0, iv pi1, iv pi2, iv (2 : Int32), iv (0 : Int32), iv (1 : Int32), rv w_SETTLED, rv w_SETTLED, rv w_SETTLED] [])) _
            refine y_aload X115.here hx (hb hby at_110) rfl rfl (pc' := 112) rfl ?_
            refine y_iload X115.here hx (hb hby at_112) rfl (pc' := 114) rfl ?_
            exact kt)
        obtain ⟨cq119, kq119, q119a, q119b, q119c⟩ := isOf hZ e115q (E_w_SETTLED.ext O0.2)
        obtain ⟨v119, _, ⟨T119, L119, k119, n119⟩, -, X119, ⟨Lc119, hQ119, l119, y119, z119⟩, st119⟩ := X115.virtualBack hx (y := (⟨"com/example/brace/brace/account/Session$FixedRate", "afterReservation", "(Z)Lcom/example/brace/brace/account/Session$FixedRate;"⟩ : MethodName)) (z := (⟨"com/example/brace/brace/account/Session$FixedRate", "afterReservation", "(Z)Lcom/example/brace/brace/account/Session$FixedRate;"⟩ : MethodName)) hown (mvT hZ (hw _ (List.mem_of_getElem? (i := 9) rfl))) (mvT hZ (hw _ (List.mem_of_getElem? (i := 10) rfl))) (notFace_of_selects (args := #[]) (mvT hZ (hw _ (List.mem_of_getElem? (i := 12) rfl)))) (mvT hZ (hw _ (List.mem_of_getElem? (i := 12) rfl))) (mvT hZ (hw _ (List.mem_of_getElem? (i := 11) rfl))) (by decide) (backOf (W := 0) (rm2 l Z a0 hw [] w_SETTLED (1 : Int32) w_UNRATED w_DUE w_NONE h0 n0 O0 S_UNRATED S_DUE S_NONE) hZ (hw _ (List.mem_of_getElem? (i := 13) rfl)) (hw _ (List.mem_of_getElem? (i := 5) rfl)) (by decide) (by decide)) q119a q119c (g := (mkF m 114 #[iv pi0, iv pi1, iv pi2, iv (2 : Int32), iv (0 : Int32), iv (1 : Int32), rv w_SETTLED, rv w_SETTLED, rv w_SETTLED] [(.int (1 : Int32)), (.ref w_SETTLED)])) rfl (by rw [hml]; rfl) (Steps.refl _) (argsL := [(.int (1 : Int32))]) (rest := []) (lenOf pd__Z_Lcom_example_brace_brace_account_Session_FixedRate_ rfl) rfl (by show 2 * 0 + _ ≤ _; exact Nat.le_of_eq rfl) (hb hby at_114) (fun _ _ => ⟨rfl, e115q, (by decide : 0 + 0 ≤ _), (by decide : 0 + 0 ≤ _)⟩)
        dsimp only [Pt.U, Pt.locs, Pt.cells, Pt.slots] at X119 l119 y119 z119 st119 hQ119
        subst l119 y119 z119
        obtain ⟨hv119, N119q, e119q⟩ := hQ119
        have N120 := Fr.app N116 N119q
        have hw119 : v119 = some (.ref w_SETTLED) := by rw [hv119, if_neg (Ne.symm ne_UNRATED_SETTLED)]
        subst hw119
        have pre121 : ∀ t, Steps p.tables e below (T119.setTop (mkF m 117 #[iv pi0, iv pi1, iv pi2, iv (2 : Int32), iv (0 : Int32), iv (1 : Int32), rv w_SETTLED, rv w_SETTLED, rv w_SETTLED] [(.ref w_SETTLED)])) t → Go t := fun t kt => pre118 t (st119.trans kt)
        have pre122 : ∀ t, Steps p.tables e below (T119.setTop (mkF m 127 #[iv pi0, iv pi1, iv pi2, iv (2 : Int32), iv (0 : Int32), iv (1 : Int32), rv w_SETTLED, rv w_SETTLED, rv w_SETTLED] [(.int (1 : Int32))])) t → Go t := fun t kt => pre121 t (by
            refine y_aload X119.here hx (hb hby at_117) rfl rfl (pc' := 119) rfl ?_
            refine Jvm.RoadKit.acmp (g := (mkF m 119 #[iv pi0, iv pi1, iv pi2, iv (2 : Int32), iv (0 : Int32), iv (1 : Int32), rv w_SETTLED, rv w_SETTLED, rv w_SETTLED] [(.ref w_SETTLED), (.ref w_SETTLED)])) X119 hx rfl rfl rfl (pc0 := 119) (pc' := 122) (same := true) rfl (hb hby at_119) rfl (decide_eq_true (congrArg Value.ref (rfl : w_SETTLED = w_SETTLED))) (by decide) (by decide) ?_
            show Steps p.tables e below (T119.setTop (mkF m 122 #[iv pi0, iv pi1, iv pi2, iv (2 : Int32), iv (0 : Int32), iv (1 : Int32), rv w_SETTLED, rv w_SETTLED, rv w_SETTLED] [])) _
            refine y_iconst X119.here hx (hb hby at_122) (v := (1 : Int32)) rfl (pc' := 123) rfl ?_
            refine y_goto X119.here hx (hb hby at_123) (pc' := 127) (by decide) rfl ?_
            exact kt)
        obtain ⟨fs, hr, hrun, hended, hW, hsame⟩ := X119.leave (v := some (.int (1 : Int32))) (fun h => by rw [Bd.returns] at h; cases h)
        refine ⟨_, _, (hGo _).mp (pre122 _ ?_), hrun, hended, _, _, rfl, ?_, ⟨_, rfl⟩, hW, hsame.mono (by decide) (by decide)⟩
        · exact retN X119 hx (t := .boolean) Bd.returns (by simp) (hb hby at_127) hr
        · show Q0 Z pi0 pi1 pi2 w_UNRATED w_DUE w_SETTLED w_NONE h0 n0 _ T119.heap _
          rw [e119q]
          exact ⟨rfl, N120⟩
      · skip
        have pre123 : ∀ t, Steps p.tables e below (s₁.setTop (mkF m 31 #[iv pi0, iv pi1, iv pi2, iv (3 : Int32), iv (0 : Int32), iv (1 : Int32), .unset, .unset, .unset] [(.int (3 : Int32))])) t → Go t := fun t kt => pre73 t (by
            refine y_iloadN X0.here hx (hb hby at_30) rfl (pc' := 31) rfl ?_
            exact kt)
        obtain ⟨v124, _, ⟨T124, L124, k124, n124⟩, -, X124, ⟨Lc124, hQ124, l124, y124, z124⟩, st124⟩ := Jvm.LawKit.callS X0 hx (y := (⟨"com/example/brace/brace/account/FixedRateAfterReservationPinLaw", "pick", "(I)Lcom/example/brace/brace/account/Session$FixedRate;"⟩ : MethodName)) hown (mvT hZ (hw _ (List.mem_of_getElem? (i := 0) rfl))) (mvT hZ (hw _ (List.mem_of_getElem? (i := 1) rfl))) (mvT hZ (hw _ (List.mem_of_getElem? (i := 2) rfl))) (mvT hZ (hw _ (List.mem_of_getElem? (i := 3) rfl))) (by decide) (backOf (W := 0) (rm1 l Z a0 hw [] (3 : Int32) w_UNRATED w_DUE w_SETTLED w_NONE h0 n0 O0 S_UNRATED S_DUE S_SETTLED S_NONE) hZ (hw _ (List.mem_of_getElem? (i := 3) rfl)) (hw _ (List.mem_of_getElem? (i := 2) rfl)) (by decide) (by decide)) (g := (mkF m 31 #[iv pi0, iv pi1, iv pi2, iv (3 : Int32), iv (0 : Int32), iv (1 : Int32), .unset, .unset, .unset] [(.int (3 : Int32))])) rfl (by rw [hml]; rfl) (argsL := [(.int (3 : Int32))]) (rest := []) (lenOf pd__I_Lcom_example_brace_brace_account_Session_FixedRate_ rfl) rfl (by show 2 * 0 + _ ≤ _; exact Nat.le_of_eq rfl) (hb hby at_31) (fun _ _ => ⟨rfl, e0, (by decide : 0 + 0 ≤ _), (by decide : 0 + 0 ≤ _)⟩)
        dsimp only [Pt.U, Pt.locs, Pt.cells, Pt.slots] at X124 l124 y124 z124 st124 hQ124
        subst l124 y124 z124
        obtain ⟨hv124, N124q, e124q⟩ := hQ124
        have N125 := Fr.app N0 N124q
        have hw124 : v124 = some (.ref w_NONE) := by rw [hv124, if_neg (by decide : ¬ ((3 : Int32) = (0 : Int32))), if_neg (by decide : ¬ ((3 : Int32) = (1 : Int32))), if_neg (by decide : ¬ ((3 : Int32) = (2 : Int32)))]
        subst hw124
        have pre126 : ∀ t, Steps p.tables e below (T124.setTop (mkF m 34 #[iv pi0, iv pi1, iv pi2, iv (3 : Int32), iv (0 : Int32), iv (1 : Int32), .unset, .unset, .unset] [(.ref w_NONE)])) t → Go t := fun t kt => pre123 t (st124 t kt)
        have pre127 : ∀ t, Steps p.tables e below (T124.setTop (mkF m 87 #[iv pi0, iv pi1, iv pi2, iv (3 : Int32), iv (0 : Int32), iv (1 : Int32), rv w_NONE, .unset, .unset] [])) t → Go t := fun t kt => pre126 t (by
            refine y_astore X124.here hx (hb hby at_34) rfl (l' := #[iv pi0, iv pi1, iv pi2, iv (3 : Int32), iv (0 : Int32), iv (1 : Int32), rv w_NONE, .unset, .unset]) rfl (pc' := 36) rfl ?_
            refine y_iloadN X124.here hx (hb hby at_36) rfl (pc' := 37) rfl ?_
            refine y_ifYes X124.here hx (hb hby at_37) ((if0 _ _).trans (feq (by decide : ¬ ((3 : Int32) = (0 : Int32)))).2) (pc' := 61) (by decide) rfl ?_
            refine y_iloadN X124.here hx (hb hby at_61) rfl (pc' := 62) rfl ?_
            refine y_iconst X124.here hx (hb hby at_62) (v := (1 : Int32)) rfl (pc' := 63) rfl ?_
            refine y_icmpYes X124.here hx (hb hby at_63) (feq (by decide : ¬ ((3 : Int32) = (1 : Int32)))).2 (pc' := 74) (by decide) rfl ?_
            refine y_iloadN X124.here hx (hb hby at_74) rfl (pc' := 75) rfl ?_
            refine y_iconst X124.here hx (hb hby at_75) (v := (2 : Int32)) rfl (pc' := 76) rfl ?_
            refine y_icmpYes X124.here hx (hb hby at_76) (feq (by decide : ¬ ((3 : Int32) = (2 : Int32)))).2 (pc' := 87) (by decide) rfl ?_
            exact kt)
        obtain ⟨T128, X128, e128, st128⟩ := getS2 X124 hx hZ hown (host := "") (Or.inl (hw _ (List.mem_of_getElem? (i := 16) rfl))) Via.refl e124q (S_NONE.ext O0.2) (g := (mkF m 87 #[iv pi0, iv pi1, iv pi2, iv (3 : Int32), iv (0 : Int32), iv (1 : Int32), rv w_NONE, .unset, .unset] [])) rfl (hb hby at_87)
        have pre129 : ∀ t, Steps p.tables e below (T128.setTop (mkF m 90 #[iv pi0, iv pi1, iv pi2, iv (3 : Int32), iv (0 : Int32), iv (1 : Int32), rv w_NONE, .unset, .unset] [(.ref w_NONE)])) t → Go t := fun t kt => pre127 t (st128 t kt)
        have pre130 : ∀ t, Steps p.tables e below (T128.setTop (mkF m 96 #[iv pi0, iv pi1, iv pi2, iv (3 : Int32), iv (0 : Int32), iv (1 : Int32), rv w_NONE, rv w_NONE, .unset] [(.int (0 : Int32)), (.ref w_NONE)])) t → Go t := fun t kt => pre129 t (by
            refine y_astore X128.here hx (hb hby at_90) rfl (l' := #[iv pi0, iv pi1, iv pi2, iv (3 : Int32), iv (0 : Int32), iv (1 : Int32), rv w_NONE, rv w_NONE, .unset]) rfl (pc' := 92) rfl ?_
            refine y_aload X128.here hx (hb hby at_92) rfl rfl (pc' := 94) rfl ?_
            refine y_iload X128.here hx (hb hby at_94) rfl (pc' := 96) rfl ?_
            exact kt)
        obtain ⟨cq131, kq131, q131a, q131b, q131c⟩ := isOf hZ e128 (E_w_NONE.ext O0.2)
        obtain ⟨v131, _, ⟨T131, L131, k131, n131⟩, -, X131, ⟨Lc131, hQ131, l131, y131, z131⟩, st131⟩ := X128.virtualBack hx (y := (⟨"com/example/brace/brace/account/Session$FixedRate", "afterReservation", "(Z)Lcom/example/brace/brace/account/Session$FixedRate;"⟩ : MethodName)) (z := (⟨"com/example/brace/brace/account/Session$FixedRate", "afterReservation", "(Z)Lcom/example/brace/brace/account/Session$FixedRate;"⟩ : MethodName)) hown (mvT hZ (hw _ (List.mem_of_getElem? (i := 9) rfl))) (mvT hZ (hw _ (List.mem_of_getElem? (i := 10) rfl))) (notFace_of_selects (args := #[]) (mvT hZ (hw _ (List.mem_of_getElem? (i := 12) rfl)))) (mvT hZ (hw _ (List.mem_of_getElem? (i := 12) rfl))) (mvT hZ (hw _ (List.mem_of_getElem? (i := 11) rfl))) (by decide) (backOf (W := 0) (rm2 l Z a0 hw [] w_NONE (0 : Int32) w_UNRATED w_DUE w_NONE h0 n0 O0 S_UNRATED S_DUE S_NONE) hZ (hw _ (List.mem_of_getElem? (i := 13) rfl)) (hw _ (List.mem_of_getElem? (i := 5) rfl)) (by decide) (by decide)) q131a q131c (g := (mkF m 96 #[iv pi0, iv pi1, iv pi2, iv (3 : Int32), iv (0 : Int32), iv (1 : Int32), rv w_NONE, rv w_NONE, .unset] [(.int (0 : Int32)), (.ref w_NONE)])) rfl (by rw [hml]; rfl) (Steps.refl _) (argsL := [(.int (0 : Int32))]) (rest := []) (lenOf pd__Z_Lcom_example_brace_brace_account_Session_FixedRate_ rfl) rfl (by show 2 * 0 + _ ≤ _; exact Nat.le_of_eq rfl) (hb hby at_96) (fun _ _ => ⟨rfl, e128, (by decide : 0 + 0 ≤ _), (by decide : 0 + 0 ≤ _)⟩)
        dsimp only [Pt.U, Pt.locs, Pt.cells, Pt.slots] at X131 l131 y131 z131 st131 hQ131
        subst l131 y131 z131
        obtain ⟨hv131, N131q, e131q⟩ := hQ131
        have N132 := Fr.app N125 N131q
        have hw131 : v131 = some (.ref w_NONE) := by rw [hv131, if_neg (Ne.symm ne_UNRATED_NONE)]
        subst hw131
        have pre133 : ∀ t, Steps p.tables e below (T131.setTop (mkF m 99 #[iv pi0, iv pi1, iv pi2, iv (3 : Int32), iv (0 : Int32), iv (1 : Int32), rv w_NONE, rv w_NONE, .unset] [(.ref w_NONE)])) t → Go t := fun t kt => pre130 t (st131.trans kt)
        have pre134 : ∀ t, Steps p.tables e below (T131.setTop (mkF m 114 #[iv pi0, iv pi1, iv pi2, iv (3 : Int32), iv (0 : Int32), iv (1 : Int32), rv w_NONE, rv w_NONE, rv w_NONE] [(.int (1 : Int32)), (.ref w_NONE)])) t → Go t := fun t kt => pre133 t (by
            refine y_astore X131.here hx (hb hby at_99) rfl (l' := #[iv pi0, iv pi1, iv pi2, iv (3 : Int32), iv (0 : Int32), iv (1 : Int32), rv w_NONE, rv w_NONE, rv w_NONE]) rfl (pc' := 101) rfl ?_
            refine y_aload X131.here hx (hb hby at_101) rfl rfl (pc' := 103) rfl ?_
            refine y_aload X131.here hx (hb hby at_103) rfl rfl (pc' := 105) rfl ?_
            refine Jvm.RoadKit.acmp (g := (mkF m 105 #[iv pi0, iv pi1, iv pi2, iv (3 : Int32), iv (0 : Int32), iv (1 : Int32), rv w_NONE, rv w_NONE, rv w_NONE] [(.ref w_NONE), (.ref w_NONE)])) X131 hx rfl rfl rfl (pc0 := 105) (pc' := 110) (same := true) rfl (hb hby at_105) rfl (decide_eq_true (congrArg Value.ref (rfl : w_NONE = w_NONE))) (by decide) (by decide) ?_
            show Steps p.tables e below (T131.setTop (mkF m 110 #[iv pi0, iv pi1, iv pi2, iv (3 : Int32), iv (0 : Int32), iv (1 : Int32), rv w_NONE, rv w_NONE, rv w_NONE] [])) _
            refine y_aload X131.here hx (hb hby at_110) rfl rfl (pc' := 112) rfl ?_
            refine y_iload X131.here hx (hb hby at_112) rfl (pc' := 114) rfl ?_
            exact kt)
        obtain ⟨cq135, kq135, q135a, q135b, q135c⟩ := isOf hZ e131q (E_w_NONE.ext O0.2)
        obtain ⟨v135, _, ⟨T135, L135, k135, n135⟩, -, X135, ⟨Lc135, hQ135, l135, y135, z135⟩, st135⟩ := X131.virtualBack hx (y := (⟨"com/example/brace/brace/account/Session$FixedRate", "afterReservation", "(Z)Lcom/example/brace/brace/account/Session$FixedRate;"⟩ : MethodName)) (z := (⟨"com/example/brace/brace/account/Session$FixedRate", "afterReservation", "(Z)Lcom/example/brace/brace/account/Session$FixedRate;"⟩ : MethodName)) hown (mvT hZ (hw _ (List.mem_of_getElem? (i := 9) rfl))) (mvT hZ (hw _ (List.mem_of_getElem? (i := 10) rfl))) (notFace_of_selects (args := #[]) (mvT hZ (hw _ (List.mem_of_getElem? (i := 12) rfl)))) (mvT hZ (hw _ (List.mem_of_getElem? (i := 12) rfl))) (mvT hZ (hw _ (List.mem_of_getElem? (i := 11) rfl))) (by decide) (backOf (W := 0) (rm2 l Z a0 hw [] w_NONE (1 : Int32) w_UNRATED w_DUE w_NONE h0 n0 O0 S_UNRATED S_DUE S_NONE) hZ (hw _ (List.mem_of_getElem? (i := 13) rfl)) (hw _ (List.mem_of_getElem? (i := 5) rfl)) (by decide) (by decide)) q135a q135c (g := (mkF m 114 #[iv pi0, iv pi1, iv pi2, iv (3 : Int32), iv (0 : Int32), iv (1 : Int32), rv w_NONE, rv w_NONE, rv w_NONE] [(.int (1 : Int32)), (.ref w_NONE)])) rfl (by rw [hml]; rfl) (Steps.refl _) (argsL := [(.int (1 : Int32))]) (rest := []) (lenOf pd__Z_Lcom_example_brace_brace_account_Session_FixedRate_ rfl) rfl (by show 2 * 0 + _ ≤ _; exact Nat.le_of_eq rfl) (hb hby at_114) (fun _ _ => ⟨rfl, e131q, (by decide : 0 + 0 ≤ _), (by decide : 0 + 0 ≤ _)⟩)
        dsimp only [Pt.U, Pt.locs, Pt.cells, Pt.slots] at X135 l135 y135 z135 st135 hQ135
        subst l135 y135 z135
        obtain ⟨hv135, N135q, e135q⟩ := hQ135
        have N136 := Fr.app N132 N135q
        have hw135 : v135 = some (.ref w_NONE) := by rw [hv135, if_neg (Ne.symm ne_UNRATED_NONE)]
        subst hw135
        have pre137 : ∀ t, Steps p.tables e below (T135.setTop (mkF m 117 #[iv pi0, iv pi1, iv pi2, iv (3 : Int32), iv (0 : Int32), iv (1 : Int32), rv w_NONE, rv w_NONE, rv w_NONE] [(.ref w_NONE)])) t → Go t := fun t kt => pre134 t (st135.trans kt)
        have pre138 : ∀ t, Steps p.tables e below (T135.setTop (mkF m 127 #[iv pi0, iv pi1, iv pi2, iv (3 : Int32), iv (0 : Int32), iv (1 : Int32), rv w_NONE, rv w_NONE, rv w_NONE] [(.int (1 : Int32))])) t → Go t := fun t kt => pre137 t (by
            refine y_aload X135.here hx (hb hby at_117) rfl rfl (pc' := 119) rfl ?_
            refine Jvm.RoadKit.acmp (g := (mkF m 119 #[iv pi0, iv pi1, iv pi2, iv (3 : Int32), iv (0 : Int32), iv (1 : Int32), rv w_NONE, rv w_NONE, rv w_NONE] [(.ref w_NONE), (.ref w_NONE)])) X135 hx rfl rfl rfl (pc0 := 119) (pc' := 122) (same := true) rfl (hb hby at_119) rfl (decide_eq_true (congrArg Value.ref (rfl : w_NONE = w_NONE))) (by decide) (by decide) ?_
            show Steps p.tables e below (T135.setTop (mkF m 122 #[iv pi0, iv pi1, iv pi2, iv (3 : Int32), iv (0 : Int32), iv (1 : Int32), rv w_NONE, rv w_NONE, rv w_NONE] [])) _
            refine y_iconst X135.here hx (hb hby at_122) (v := (1 : Int32)) rfl (pc' := 123) rfl ?_
            refine y_goto X135.here hx (hb hby at_123) (pc' := 127) (by decide) rfl ?_
            exact kt)
        obtain ⟨fs, hr, hrun, hended, hW, hsame⟩ := X135.leave (v := some (.int (1 : Int32))) (fun h => by rw [Bd.returns] at h; cases h)
        refine ⟨_, _, (hGo _).mp (pre138 _ ?_), hrun, hended, _, _, rfl, ?_, ⟨_, rfl⟩, hW, hsame.mono (by decide) (by decide)⟩
        · exact retN X135 hx (t := .boolean) Bd.returns (by simp) (hb hby at_127) hr
        · show Q0 Z pi0 pi1 pi2 w_UNRATED w_DUE w_SETTLED w_NONE h0 n0 _ T135.heap _
          rw [e135q]
          exact ⟨rfl, N136⟩
  · have pre139 : ∀ t, Steps p.tables e below (s₁.setTop (mkF m 20 #[iv pi0, iv pi1, iv pi2, iv x1, iv (1 : Int32), .unset, .unset, .unset, .unset] [(.int (pi2 &&& (1 : Int32)))])) t → Go t := fun t kt => pre3 t (by
        refine y_ifNo X0.here hx (hb hby at_7) ((if0 _ _).trans (feq hc7_4).1) (pc' := 10) rfl ?_
        refine y_iconst X0.here hx (hb hby at_10) (v := (1 : Int32)) rfl (pc' := 11) rfl ?_
        refine y_goto X0.here hx (hb hby at_11) (pc' := 15) (by decide) rfl ?_
        refine y_istore X0.here hx (hb hby at_15) (l' := #[iv pi0, iv pi1, iv pi2, iv x1, iv (1 : Int32), .unset, .unset, .unset, .unset]) rfl (pc' := 17) rfl ?_
        refine y_iloadN X0.here hx (hb hby at_17) rfl (pc' := 18) rfl ?_
        refine y_iconst X0.here hx (hb hby at_18) (v := (1 : Int32)) rfl (pc' := 19) rfl ?_
        refine y_iand X0.here hx (hb hby at_19) rfl (pc' := 20) rfl ?_
        exact kt)
    by_cases hc20_140 : (pi2 &&& (1 : Int32)) = (0 : Int32)
    · have pre141 : ∀ t, Steps p.tables e below (s₁.setTop (mkF m 30 #[iv pi0, iv pi1, iv pi2, iv x1, iv (1 : Int32), iv (0 : Int32), .unset, .unset, .unset] [])) t → Go t := fun t kt => pre139 t (by
          refine y_ifYes X0.here hx (hb hby at_20) ((if0 _ _).trans (teq hc20_140).1) (pc' := 27) (by decide) rfl ?_
          refine y_iconst X0.here hx (hb hby at_27) (v := (0 : Int32)) rfl (pc' := 28) rfl ?_
          refine y_istore X0.here hx (hb hby at_28) (l' := #[iv pi0, iv pi1, iv pi2, iv x1, iv (1 : Int32), iv (0 : Int32), .unset, .unset, .unset]) rfl (pc' := 30) rfl ?_
          exact kt)
      have hs30_142 : x1 = (0 : Int32) ∨ x1 = (1 : Int32) ∨ x1 = (2 : Int32) ∨ x1 = (3 : Int32) := by
          rw [hx1]; exact own_and3 _
      rcases hs30_142 with rfl | rfl | rfl | rfl
      · skip
        have pre143 : ∀ t, Steps p.tables e below (s₁.setTop (mkF m 31 #[iv pi0, iv pi1, iv pi2, iv (0 : Int32), iv (1 : Int32), iv (0 : Int32), .unset, .unset, .unset] [(.int (0 : Int32))])) t → Go t := fun t kt => pre141 t (by
            refine y_iloadN X0.here hx (hb hby at_30) rfl (pc' := 31) rfl ?_
            exact kt)
        obtain ⟨v144, _, ⟨T144, L144, k144, n144⟩, -, X144, ⟨Lc144, hQ144, l144, y144, z144⟩, st144⟩ := Jvm.LawKit.callS X0 hx (y := (⟨"com/example/brace/brace/account/FixedRateAfterReservationPinLaw", "pick", "(I)Lcom/example/brace/brace/account/Session$FixedRate;"⟩ : MethodName)) hown (mvT hZ (hw _ (List.mem_of_getElem? (i := 0) rfl))) (mvT hZ (hw _ (List.mem_of_getElem? (i := 1) rfl))) (mvT hZ (hw _ (List.mem_of_getElem? (i := 2) rfl))) (mvT hZ (hw _ (List.mem_of_getElem? (i := 3) rfl))) (by decide) (backOf (W := 0) (rm1 l Z a0 hw [] (0 : Int32) w_UNRATED w_DUE w_SETTLED w_NONE h0 n0 O0 S_UNRATED S_DUE S_SETTLED S_NONE) hZ (hw _ (List.mem_of_getElem? (i := 3) rfl)) (hw _ (List.mem_of_getElem? (i := 2) rfl)) (by decide) (by decide)) (g := (mkF m 31 #[iv pi0, iv pi1, iv pi2, iv (0 : Int32), iv (1 : Int32), iv (0 : Int32), .unset, .unset, .unset] [(.int (0 : Int32))])) rfl (by rw [hml]; rfl) (argsL := [(.int (0 : Int32))]) (rest := []) (lenOf pd__I_Lcom_example_brace_brace_account_Session_FixedRate_ rfl) rfl (by show 2 * 0 + _ ≤ _; exact Nat.le_of_eq rfl) (hb hby at_31) (fun _ _ => ⟨rfl, e0, (by decide : 0 + 0 ≤ _), (by decide : 0 + 0 ≤ _)⟩)
        dsimp only [Pt.U, Pt.locs, Pt.cells, Pt.slots] at X144 l144 y144 z144 st144 hQ144
        subst l144 y144 z144
        obtain ⟨hv144, N144q, e144q⟩ := hQ144
        have N145 := Fr.app N0 N144q
        have hw144 : v144 = some (.ref w_UNRATED) := by rw [hv144, if_pos (rfl : (0 : Int32) = (0 : Int32))]
        subst hw144
        have pre146 : ∀ t, Steps p.tables e below (T144.setTop (mkF m 34 #[iv pi0, iv pi1, iv pi2, iv (0 : Int32), iv (1 : Int32), iv (0 : Int32), .unset, .unset, .unset] [(.ref w_UNRATED)])) t → Go t := fun t kt => pre143 t (st144 t kt)
        have pre147 : ∀ t, Steps p.tables e below (T144.setTop (mkF m 45 #[iv pi0, iv pi1, iv pi2, iv (0 : Int32), iv (1 : Int32), iv (0 : Int32), rv w_UNRATED, .unset, .unset] [])) t → Go t := fun t kt => pre146 t (by
            refine y_astore X144.here hx (hb hby at_34) rfl (l' := #[iv pi0, iv pi1, iv pi2, iv (0 : Int32), iv (1 : Int32), iv (0 : Int32), rv w_UNRATED, .unset, .unset]) rfl (pc' := 36) rfl ?_
            refine y_iloadN X144.here hx (hb hby at_36) rfl (pc' := 37) rfl ?_
            refine y_ifNo X144.here hx (hb hby at_37) ((if0 _ _).trans (teq (rfl : (0 : Int32) = (0 : Int32))).2) (pc' := 40) rfl ?_
            refine y_iload X144.here hx (hb hby at_40) rfl (pc' := 42) rfl ?_
            refine y_ifNo X144.here hx (hb hby at_42) ((if0 _ _).trans (feq (by decide : ¬ ((1 : Int32) = (0 : Int32)))).1) (pc' := 45) rfl ?_
            exact kt)
        obtain ⟨T148, X148, e148, st148⟩ := getS2 X144 hx hZ hown (host := "") (Or.inl (hw _ (List.mem_of_getElem? (i := 7) rfl))) Via.refl e144q (S_DUE.ext O0.2) (g := (mkF m 45 #[iv pi0, iv pi1, iv pi2, iv (0 : Int32), iv (1 : Int32), iv (0 : Int32), rv w_UNRATED, .unset, .unset] [])) rfl (hb hby at_45)
        have pre149 : ∀ t, Steps p.tables e below (T148.setTop (mkF m 48 #[iv pi0, iv pi1, iv pi2, iv (0 : Int32), iv (1 : Int32), iv (0 : Int32), rv w_UNRATED, .unset, .unset] [(.ref w_DUE)])) t → Go t := fun t kt => pre147 t (st148 t kt)
        have pre150 : ∀ t, Steps p.tables e below (T148.setTop (mkF m 96 #[iv pi0, iv pi1, iv pi2, iv (0 : Int32), iv (1 : Int32), iv (0 : Int32), rv w_UNRATED, rv w_DUE, .unset] [(.int (1 : Int32)), (.ref w_UNRATED)])) t → Go t := fun t kt => pre149 t (by
            refine y_astore X148.here hx (hb hby at_48) rfl (l' := #[iv pi0, iv pi1, iv pi2, iv (0 : Int32), iv (1 : Int32), iv (0 : Int32), rv w_UNRATED, rv w_DUE, .unset]) rfl (pc' := 50) rfl ?_
            refine y_goto X148.here hx (hb hby at_50) (pc' := 92) (by decide) rfl ?_
            refine y_aload X148.here hx (hb hby at_92) rfl rfl (pc' := 94) rfl ?_
            refine y_iload X148.here hx (hb hby at_94) rfl (pc' := 96) rfl ?_
            exact kt)
        obtain ⟨cq151, kq151, q151a, q151b, q151c⟩ := isOf hZ e148 (E_w_UNRATED.ext O0.2)
        obtain ⟨v151, _, ⟨T151, L151, k151, n151⟩, -, X151, ⟨Lc151, hQ151, l151, y151, z151⟩, st151⟩ := X148.virtualBack hx (y := (⟨"com/example/brace/brace/account/Session$FixedRate", "afterReservation", "(Z)Lcom/example/brace/brace/account/Session$FixedRate;"⟩ : MethodName)) (z := (⟨"com/example/brace/brace/account/Session$FixedRate", "afterReservation", "(Z)Lcom/example/brace/brace/account/Session$FixedRate;"⟩ : MethodName)) hown (mvT hZ (hw _ (List.mem_of_getElem? (i := 9) rfl))) (mvT hZ (hw _ (List.mem_of_getElem? (i := 10) rfl))) (notFace_of_selects (args := #[]) (mvT hZ (hw _ (List.mem_of_getElem? (i := 12) rfl)))) (mvT hZ (hw _ (List.mem_of_getElem? (i := 12) rfl))) (mvT hZ (hw _ (List.mem_of_getElem? (i := 11) rfl))) (by decide) (backOf (W := 0) (rm2 l Z a0 hw [] w_UNRATED (1 : Int32) w_UNRATED w_DUE w_NONE h0 n0 O0 S_UNRATED S_DUE S_NONE) hZ (hw _ (List.mem_of_getElem? (i := 13) rfl)) (hw _ (List.mem_of_getElem? (i := 5) rfl)) (by decide) (by decide)) q151a q151c (g := (mkF m 96 #[iv pi0, iv pi1, iv pi2, iv (0 : Int32), iv (1 : Int32), iv (0 : Int32), rv w_UNRATED, rv w_DUE, .unset] [(.int (1 : Int32)), (.ref w_UNRATED)])) rfl (by rw [hml]; rfl) (Steps.refl _) (argsL := [(.int (1 : Int32))]) (rest := []) (lenOf pd__Z_Lcom_example_brace_brace_account_Session_FixedRate_ rfl) rfl (by show 2 * 0 + _ ≤ _; exact Nat.le_of_eq rfl) (hb hby at_96) (fun _ _ => ⟨rfl, e148, (by decide : 0 + 0 ≤ _), (by decide : 0 + 0 ≤ _)⟩)
        dsimp only [Pt.U, Pt.locs, Pt.cells, Pt.slots] at X151 l151 y151 z151 st151 hQ151
        subst l151 y151 z151
        obtain ⟨hv151, N151q, e151q⟩ := hQ151
        have N152 := Fr.app N145 N151q
        have hw151 : v151 = some (.ref w_DUE) := by rw [hv151, if_pos (rfl : w_UNRATED = w_UNRATED), if_neg (by decide : ¬ ((1 : Int32) = (0 : Int32)))]
        subst hw151
        have pre153 : ∀ t, Steps p.tables e below (T151.setTop (mkF m 99 #[iv pi0, iv pi1, iv pi2, iv (0 : Int32), iv (1 : Int32), iv (0 : Int32), rv w_UNRATED, rv w_DUE, .unset] [(.ref w_DUE)])) t → Go t := fun t kt => pre150 t (st151.trans kt)
        have pre154 : ∀ t, Steps p.tables e below (T151.setTop (mkF m 114 #[iv pi0, iv pi1, iv pi2, iv (0 : Int32), iv (1 : Int32), iv (0 : Int32), rv w_UNRATED, rv w_DUE, rv w_DUE] [(.int (0 : Int32)), (.ref w_DUE)])) t → Go t := fun t kt => pre153 t (by
            refine y_astore X151.here hx (hb hby at_99) rfl (l' := #[iv pi0, iv pi1, iv pi2, iv (0 : Int32), iv (1 : Int32), iv (0 : Int32), rv w_UNRATED, rv w_DUE, rv w_DUE]) rfl (pc' := 101) rfl ?_
            refine y_aload X151.here hx (hb hby at_101) rfl rfl (pc' := 103) rfl ?_
            refine y_aload X151.here hx (hb hby at_103) rfl rfl (pc' := 105) rfl ?_
            refine Jvm.RoadKit.acmp (g := (mkF m 105 #[iv pi0, iv pi1, iv pi2, iv (0 : Int32), iv (1 : Int32), iv (0 : Int32), rv w_UNRATED, rv w_DUE, rv w_DUE] [(.ref w_DUE), (.ref w_DUE)])) X151 hx rfl rfl rfl (pc0 := 105) (pc' := 110) (same := true) rfl (hb hby at_105) rfl (decide_eq_true (congrArg Value.ref (rfl : w_DUE = w_DUE))) (by decide) (by decide) ?_
            show Steps p.tables e below (T151.setTop (mkF m 110 #[iv pi0, iv pi1, iv pi2, iv (0 : Int32), iv (1 : Int32), iv (0 : Int32), rv w_UNRATED, rv w_DUE, rv w_DUE] [])) _
            refine y_aload X151.here hx (hb hby at_110) rfl rfl (pc' := 112) rfl ?_
            refine y_iload X151.here hx (hb hby at_112) rfl (pc' := 114) rfl ?_
            exact kt)
        obtain ⟨cq155, kq155, q155a, q155b, q155c⟩ := isOf hZ e151q (E_w_DUE.ext O0.2)
        obtain ⟨v155, _, ⟨T155, L155, k155, n155⟩, -, X155, ⟨Lc155, hQ155, l155, y155, z155⟩, st155⟩ := X151.virtualBack hx (y := (⟨"com/example/brace/brace/account/Session$FixedRate", "afterReservation", "(Z)Lcom/example/brace/brace/account/Session$FixedRate;"⟩ : MethodName)) (z := (⟨"com/example/brace/brace/account/Session$FixedRate", "afterReservation", "(Z)Lcom/example/brace/brace/account/Session$FixedRate;"⟩ : MethodName)) hown (mvT hZ (hw _ (List.mem_of_getElem? (i := 9) rfl))) (mvT hZ (hw _ (List.mem_of_getElem? (i := 10) rfl))) (notFace_of_selects (args := #[]) (mvT hZ (hw _ (List.mem_of_getElem? (i := 12) rfl)))) (mvT hZ (hw _ (List.mem_of_getElem? (i := 12) rfl))) (mvT hZ (hw _ (List.mem_of_getElem? (i := 11) rfl))) (by decide) (backOf (W := 0) (rm2 l Z a0 hw [] w_DUE (0 : Int32) w_UNRATED w_DUE w_NONE h0 n0 O0 S_UNRATED S_DUE S_NONE) hZ (hw _ (List.mem_of_getElem? (i := 13) rfl)) (hw _ (List.mem_of_getElem? (i := 5) rfl)) (by decide) (by decide)) q155a q155c (g := (mkF m 114 #[iv pi0, iv pi1, iv pi2, iv (0 : Int32), iv (1 : Int32), iv (0 : Int32), rv w_UNRATED, rv w_DUE, rv w_DUE] [(.int (0 : Int32)), (.ref w_DUE)])) rfl (by rw [hml]; rfl) (Steps.refl _) (argsL := [(.int (0 : Int32))]) (rest := []) (lenOf pd__Z_Lcom_example_brace_brace_account_Session_FixedRate_ rfl) rfl (by show 2 * 0 + _ ≤ _; exact Nat.le_of_eq rfl) (hb hby at_114) (fun _ _ => ⟨rfl, e151q, (by decide : 0 + 0 ≤ _), (by decide : 0 + 0 ≤ _)⟩)
        dsimp only [Pt.U, Pt.locs, Pt.cells, Pt.slots] at X155 l155 y155 z155 st155 hQ155
        subst l155 y155 z155
        obtain ⟨hv155, N155q, e155q⟩ := hQ155
        have N156 := Fr.app N152 N155q
        have hw155 : v155 = some (.ref w_DUE) := by rw [hv155, if_neg (Ne.symm ne_UNRATED_DUE)]
        subst hw155
        have pre157 : ∀ t, Steps p.tables e below (T155.setTop (mkF m 117 #[iv pi0, iv pi1, iv pi2, iv (0 : Int32), iv (1 : Int32), iv (0 : Int32), rv w_UNRATED, rv w_DUE, rv w_DUE] [(.ref w_DUE)])) t → Go t := fun t kt => pre154 t (st155.trans kt)
        have pre158 : ∀ t, Steps p.tables e below (T155.setTop (mkF m 127 #[iv pi0, iv pi1, iv pi2, iv (0 : Int32), iv (1 : Int32), iv (0 : Int32), rv w_UNRATED, rv w_DUE, rv w_DUE] [(.int (1 : Int32))])) t → Go t := fun t kt => pre157 t (by
            refine y_aload X155.here hx (hb hby at_117) rfl rfl (pc' := 119) rfl ?_
            refine Jvm.RoadKit.acmp (g := (mkF m 119 #[iv pi0, iv pi1, iv pi2, iv (0 : Int32), iv (1 : Int32), iv (0 : Int32), rv w_UNRATED, rv w_DUE, rv w_DUE] [(.ref w_DUE), (.ref w_DUE)])) X155 hx rfl rfl rfl (pc0 := 119) (pc' := 122) (same := true) rfl (hb hby at_119) rfl (decide_eq_true (congrArg Value.ref (rfl : w_DUE = w_DUE))) (by decide) (by decide) ?_
            show Steps p.tables e below (T155.setTop (mkF m 122 #[iv pi0, iv pi1, iv pi2, iv (0 : Int32), iv (1 : Int32), iv (0 : Int32), rv w_UNRATED, rv w_DUE, rv w_DUE] [])) _
            refine y_iconst X155.here hx (hb hby at_122) (v := (1 : Int32)) rfl (pc' := 123) rfl ?_
            refine y_goto X155.here hx (hb hby at_123) (pc' := 127) (by decide) rfl ?_
            exact kt)
        obtain ⟨fs, hr, hrun, hended, hW, hsame⟩ := X155.leave (v := some (.int (1 : Int32))) (fun h => by rw [Bd.returns] at h; cases h)
        refine ⟨_, _, (hGo _).mp (pre158 _ ?_), hrun, hended, _, _, rfl, ?_, ⟨_, rfl⟩, hW, hsame.mono (by decide) (by decide)⟩
        · exact retN X155 hx (t := .boolean) Bd.returns (by simp) (hb hby at_127) hr
        · show Q0 Z pi0 pi1 pi2 w_UNRATED w_DUE w_SETTLED w_NONE h0 n0 _ T155.heap _
          rw [e155q]
          exact ⟨rfl, N156⟩
      · skip
        have pre159 : ∀ t, Steps p.tables e below (s₁.setTop (mkF m 31 #[iv pi0, iv pi1, iv pi2, iv (1 : Int32), iv (1 : Int32), iv (0 : Int32), .unset, .unset, .unset] [(.int (1 : Int32))])) t → Go t := fun t kt => pre141 t (by
            refine y_iloadN X0.here hx (hb hby at_30) rfl (pc' := 31) rfl ?_
            exact kt)
        obtain ⟨v160, _, ⟨T160, L160, k160, n160⟩, -, X160, ⟨Lc160, hQ160, l160, y160, z160⟩, st160⟩ := Jvm.LawKit.callS X0 hx (y := (⟨"com/example/brace/brace/account/FixedRateAfterReservationPinLaw", "pick", "(I)Lcom/example/brace/brace/account/Session$FixedRate;"⟩ : MethodName)) hown (mvT hZ (hw _ (List.mem_of_getElem? (i := 0) rfl))) (mvT hZ (hw _ (List.mem_of_getElem? (i := 1) rfl))) (mvT hZ (hw _ (List.mem_of_getElem? (i := 2) rfl))) (mvT hZ (hw _ (List.mem_of_getElem? (i := 3) rfl))) (by decide) (backOf (W := 0) (rm1 l Z a0 hw [] (1 : Int32) w_UNRATED w_DUE w_SETTLED w_NONE h0 n0 O0 S_UNRATED S_DUE S_SETTLED S_NONE) hZ (hw _ (List.mem_of_getElem? (i := 3) rfl)) (hw _ (List.mem_of_getElem? (i := 2) rfl)) (by decide) (by decide)) (g := (mkF m 31 #[iv pi0, iv pi1, iv pi2, iv (1 : Int32), iv (1 : Int32), iv (0 : Int32), .unset, .unset, .unset] [(.int (1 : Int32))])) rfl (by rw [hml]; rfl) (argsL := [(.int (1 : Int32))]) (rest := []) (lenOf pd__I_Lcom_example_brace_brace_account_Session_FixedRate_ rfl) rfl (by show 2 * 0 + _ ≤ _; exact Nat.le_of_eq rfl) (hb hby at_31) (fun _ _ => ⟨rfl, e0, (by decide : 0 + 0 ≤ _), (by decide : 0 + 0 ≤ _)⟩)
        dsimp only [Pt.U, Pt.locs, Pt.cells, Pt.slots] at X160 l160 y160 z160 st160 hQ160
        subst l160 y160 z160
        obtain ⟨hv160, N160q, e160q⟩ := hQ160
        have N161 := Fr.app N0 N160q
        have hw160 : v160 = some (.ref w_DUE) := by rw [hv160, if_neg (by decide : ¬ ((1 : Int32) = (0 : Int32))), if_pos (rfl : (1 : Int32) = (1 : Int32))]
        subst hw160
        have pre162 : ∀ t, Steps p.tables e below (T160.setTop (mkF m 34 #[iv pi0, iv pi1, iv pi2, iv (1 : Int32), iv (1 : Int32), iv (0 : Int32), .unset, .unset, .unset] [(.ref w_DUE)])) t → Go t := fun t kt => pre159 t (st160 t kt)
        have pre163 : ∀ t, Steps p.tables e below (T160.setTop (mkF m 66 #[iv pi0, iv pi1, iv pi2, iv (1 : Int32), iv (1 : Int32), iv (0 : Int32), rv w_DUE, .unset, .unset] [])) t → Go t := fun t kt => pre162 t (by
            refine y_astore X160.here hx (hb hby at_34) rfl (l' := #[iv pi0, iv pi1, iv pi2, iv (1 : Int32), iv (1 : Int32), iv (0 : Int32), rv w_DUE, .unset, .unset]) rfl (pc' := 36) rfl ?_
            refine y_iloadN X160.here hx (hb hby at_36) rfl (pc' := 37) rfl ?_
            refine y_ifYes X160.here hx (hb hby at_37) ((if0 _ _).trans (feq (by decide : ¬ ((1 : Int32) = (0 : Int32)))).2) (pc' := 61) (by decide) rfl ?_
            refine y_iloadN X160.here hx (hb hby at_61) rfl (pc' := 62) rfl ?_
            refine y_iconst X160.here hx (hb hby at_62) (v := (1 : Int32)) rfl (pc' := 63) rfl ?_
            refine y_icmpNo X160.here hx (hb hby at_63) (teq (rfl : (1 : Int32) = (1 : Int32))).2 (pc' := 66) rfl ?_
            exact kt)
        obtain ⟨T164, X164, e164, st164⟩ := getS2 X160 hx hZ hown (host := "") (Or.inl (hw _ (List.mem_of_getElem? (i := 7) rfl))) Via.refl e160q (S_DUE.ext O0.2) (g := (mkF m 66 #[iv pi0, iv pi1, iv pi2, iv (1 : Int32), iv (1 : Int32), iv (0 : Int32), rv w_DUE, .unset, .unset] [])) rfl (hb hby at_66)
        have pre165 : ∀ t, Steps p.tables e below (T164.setTop (mkF m 69 #[iv pi0, iv pi1, iv pi2, iv (1 : Int32), iv (1 : Int32), iv (0 : Int32), rv w_DUE, .unset, .unset] [(.ref w_DUE)])) t → Go t := fun t kt => pre163 t (st164 t kt)
        have pre166 : ∀ t, Steps p.tables e below (T164.setTop (mkF m 96 #[iv pi0, iv pi1, iv pi2, iv (1 : Int32), iv (1 : Int32), iv (0 : Int32), rv w_DUE, rv w_DUE, .unset] [(.int (1 : Int32)), (.ref w_DUE)])) t → Go t := fun t kt => pre165 t (by
            refine y_astore X164.here hx (hb hby at_69) rfl (l' := #[iv pi0, iv pi1, iv pi2, iv (1 : Int32), iv (1 : Int32), iv (0 : Int32), rv w_DUE, rv w_DUE, .unset]) rfl (pc' := 71) rfl ?_
            refine y_goto X164.here hx (hb hby at_71) (pc' := 92) (by decide) rfl ?_
            refine y_aload X164.here hx (hb hby at_92) rfl rfl (pc' := 94) rfl ?_
            refine y_iload X164.here hx (hb hby at_94) rfl (pc' := 96) rfl ?_
            exact kt)
        obtain ⟨cq167, kq167, q167a, q167b, q167c⟩ := isOf hZ e164 (E_w_DUE.ext O0.2)
        obtain ⟨v167, _, ⟨T167, L167, k167, n167⟩, -, X167, ⟨Lc167, hQ167, l167, y167, z167⟩, st167⟩ := X164.virtualBack hx (y := (⟨"com/example/brace/brace/account/Session$FixedRate", "afterReservation", "(Z)Lcom/example/brace/brace/account/Session$FixedRate;"⟩ : MethodName)) (z := (⟨"com/example/brace/brace/account/Session$FixedRate", "afterReservation", "(Z)Lcom/example/brace/brace/account/Session$FixedRate;"⟩ : MethodName)) hown (mvT hZ (hw _ (List.mem_of_getElem? (i := 9) rfl))) (mvT hZ (hw _ (List.mem_of_getElem? (i := 10) rfl))) (notFace_of_selects (args := #[]) (mvT hZ (hw _ (List.mem_of_getElem? (i := 12) rfl)))) (mvT hZ (hw _ (List.mem_of_getElem? (i := 12) rfl))) (mvT hZ (hw _ (List.mem_of_getElem? (i := 11) rfl))) (by decide) (backOf (W := 0) (rm2 l Z a0 hw [] w_DUE (1 : Int32) w_UNRATED w_DUE w_NONE h0 n0 O0 S_UNRATED S_DUE S_NONE) hZ (hw _ (List.mem_of_getElem? (i := 13) rfl)) (hw _ (List.mem_of_getElem? (i := 5) rfl)) (by decide) (by decide)) q167a q167c (g := (mkF m 96 #[iv pi0, iv pi1, iv pi2, iv (1 : Int32), iv (1 : Int32), iv (0 : Int32), rv w_DUE, rv w_DUE, .unset] [(.int (1 : Int32)), (.ref w_DUE)])) rfl (by rw [hml]; rfl) (Steps.refl _) (argsL := [(.int (1 : Int32))]) (rest := []) (lenOf pd__Z_Lcom_example_brace_brace_account_Session_FixedRate_ rfl) rfl (by show 2 * 0 + _ ≤ _; exact Nat.le_of_eq rfl) (hb hby at_96) (fun _ _ => ⟨rfl, e164, (by decide : 0 + 0 ≤ _), (by decide : 0 + 0 ≤ _)⟩)
        dsimp only [Pt.U, Pt.locs, Pt.cells, Pt.slots] at X167 l167 y167 z167 st167 hQ167
        subst l167 y167 z167
        obtain ⟨hv167, N167q, e167q⟩ := hQ167
        have N168 := Fr.app N161 N167q
        have hw167 : v167 = some (.ref w_DUE) := by rw [hv167, if_neg (Ne.symm ne_UNRATED_DUE)]
        subst hw167
        have pre169 : ∀ t, Steps p.tables e below (T167.setTop (mkF m 99 #[iv pi0, iv pi1, iv pi2, iv (1 : Int32), iv (1 : Int32), iv (0 : Int32), rv w_DUE, rv w_DUE, .unset] [(.ref w_DUE)])) t → Go t := fun t kt => pre166 t (st167.trans kt)
        have pre170 : ∀ t, Steps p.tables e below (T167.setTop (mkF m 114 #[iv pi0, iv pi1, iv pi2, iv (1 : Int32), iv (1 : Int32), iv (0 : Int32), rv w_DUE, rv w_DUE, rv w_DUE] [(.int (0 : Int32)), (.ref w_DUE)])) t → Go t := fun t kt => pre169 t (by
            refine y_astore X167.here hx (hb hby at_99) rfl (l' := #[iv pi0, iv pi1, iv pi2, iv (1 : Int32), iv (1 : Int32), iv (0 : Int32), rv w_DUE, rv w_DUE, rv w_DUE]) rfl (pc' := 101) rfl ?_
            refine y_aload X167.here hx (hb hby at_101) rfl rfl (pc' := 103) rfl ?_
            refine y_aload X167.here hx (hb hby at_103) rfl rfl (pc' := 105) rfl ?_
            refine Jvm.RoadKit.acmp (g := (mkF m 105 #[iv pi0, iv pi1, iv pi2, iv (1 : Int32), iv (1 : Int32), iv (0 : Int32), rv w_DUE, rv w_DUE, rv w_DUE] [(.ref w_DUE), (.ref w_DUE)])) X167 hx rfl rfl rfl (pc0 := 105) (pc' := 110) (same := true) rfl (hb hby at_105) rfl (decide_eq_true (congrArg Value.ref (rfl : w_DUE = w_DUE))) (by decide) (by decide) ?_
            show Steps p.tables e below (T167.setTop (mkF m 110 #[iv pi0, iv pi1, iv pi2, iv (1 : Int32), iv (1 : Int32), iv (0 : Int32), rv w_DUE, rv w_DUE, rv w_DUE] [])) _
            refine y_aload X167.here hx (hb hby at_110) rfl rfl (pc' := 112) rfl ?_
            refine y_iload X167.here hx (hb hby at_112) rfl (pc' := 114) rfl ?_
            exact kt)
        obtain ⟨cq171, kq171, q171a, q171b, q171c⟩ := isOf hZ e167q (E_w_DUE.ext O0.2)
        obtain ⟨v171, _, ⟨T171, L171, k171, n171⟩, -, X171, ⟨Lc171, hQ171, l171, y171, z171⟩, st171⟩ := X167.virtualBack hx (y := (⟨"com/example/brace/brace/account/Session$FixedRate", "afterReservation", "(Z)Lcom/example/brace/brace/account/Session$FixedRate;"⟩ : MethodName)) (z := (⟨"com/example/brace/brace/account/Session$FixedRate", "afterReservation", "(Z)Lcom/example/brace/brace/account/Session$FixedRate;"⟩ : MethodName)) hown (mvT hZ (hw _ (List.mem_of_getElem? (i := 9) rfl))) (mvT hZ (hw _ (List.mem_of_getElem? (i := 10) rfl))) (notFace_of_selects (args := #[]) (mvT hZ (hw _ (List.mem_of_getElem? (i := 12) rfl)))) (mvT hZ (hw _ (List.mem_of_getElem? (i := 12) rfl))) (mvT hZ (hw _ (List.mem_of_getElem? (i := 11) rfl))) (by decide) (backOf (W := 0) (rm2 l Z a0 hw [] w_DUE (0 : Int32) w_UNRATED w_DUE w_NONE h0 n0 O0 S_UNRATED S_DUE S_NONE) hZ (hw _ (List.mem_of_getElem? (i := 13) rfl)) (hw _ (List.mem_of_getElem? (i := 5) rfl)) (by decide) (by decide)) q171a q171c (g := (mkF m 114 #[iv pi0, iv pi1, iv pi2, iv (1 : Int32), iv (1 : Int32), iv (0 : Int32), rv w_DUE, rv w_DUE, rv w_DUE] [(.int (0 : Int32)), (.ref w_DUE)])) rfl (by rw [hml]; rfl) (Steps.refl _) (argsL := [(.int (0 : Int32))]) (rest := []) (lenOf pd__Z_Lcom_example_brace_brace_account_Session_FixedRate_ rfl) rfl (by show 2 * 0 + _ ≤ _; exact Nat.le_of_eq rfl) (hb hby at_114) (fun _ _ => ⟨rfl, e167q, (by decide : 0 + 0 ≤ _), (by decide : 0 + 0 ≤ _)⟩)
        dsimp only [Pt.U, Pt.locs, Pt.cells, Pt.slots] at X171 l171 y171 z171 st171 hQ171
        subst l171 y171 z171
        obtain ⟨hv171, N171q, e171q⟩ := hQ171
        have N172 := Fr.app N168 N171q
        have hw171 : v171 = some (.ref w_DUE) := by rw [hv171, if_neg (Ne.symm ne_UNRATED_DUE)]
        subst hw171
        have pre173 : ∀ t, Steps p.tables e below (T171.setTop (mkF m 117 #[iv pi0, iv pi1, iv pi2, iv (1 : Int32), iv (1 : Int32), iv (0 : Int32), rv w_DUE, rv w_DUE, rv w_DUE] [(.ref w_DUE)])) t → Go t := fun t kt => pre170 t (st171.trans kt)
        have pre174 : ∀ t, Steps p.tables e below (T171.setTop (mkF m 127 #[iv pi0, iv pi1, iv pi2, iv (1 : Int32), iv (1 : Int32), iv (0 : Int32), rv w_DUE, rv w_DUE, rv w_DUE] [(.int (1 : Int32))])) t → Go t := fun t kt => pre173 t (by
            refine y_aload X171.here hx (hb hby at_117) rfl rfl (pc' := 119) rfl ?_
            refine Jvm.RoadKit.acmp (g := (mkF m 119 #[iv pi0, iv pi1, iv pi2, iv (1 : Int32), iv (1 : Int32), iv (0 : Int32), rv w_DUE, rv w_DUE, rv w_DUE] [(.ref w_DUE), (.ref w_DUE)])) X171 hx rfl rfl rfl (pc0 := 119) (pc' := 122) (same := true) rfl (hb hby at_119) rfl (decide_eq_true (congrArg Value.ref (rfl : w_DUE = w_DUE))) (by decide) (by decide) ?_
            show Steps p.tables e below (T171.setTop (mkF m 122 #[iv pi0, iv pi1, iv pi2, iv (1 : Int32), iv (1 : Int32), iv (0 : Int32), rv w_DUE, rv w_DUE, rv w_DUE] [])) _
            refine y_iconst X171.here hx (hb hby at_122) (v := (1 : Int32)) rfl (pc' := 123) rfl ?_
            refine y_goto X171.here hx (hb hby at_123) (pc' := 127) (by decide) rfl ?_
            exact kt)
        obtain ⟨fs, hr, hrun, hended, hW, hsame⟩ := X171.leave (v := some (.int (1 : Int32))) (fun h => by rw [Bd.returns] at h; cases h)
        refine ⟨_, _, (hGo _).mp (pre174 _ ?_), hrun, hended, _, _, rfl, ?_, ⟨_, rfl⟩, hW, hsame.mono (by decide) (by decide)⟩
        · exact retN X171 hx (t := .boolean) Bd.returns (by simp) (hb hby at_127) hr
        · show Q0 Z pi0 pi1 pi2 w_UNRATED w_DUE w_SETTLED w_NONE h0 n0 _ T171.heap _
          rw [e171q]
          exact ⟨rfl, N172⟩
      · skip
        have pre175 : ∀ t, Steps p.tables e below (s₁.setTop (mkF m 31 #[iv pi0, iv pi1, iv pi2, iv (2 : Int32), iv (1 : Int32), iv (0 : Int32), .unset, .unset, .unset] [(.int (2 : Int32))])) t → Go t := fun t kt => pre141 t (by
            refine y_iloadN X0.here hx (hb hby at_30) rfl (pc' := 31) rfl ?_
            exact kt)
        obtain ⟨v176, _, ⟨T176, L176, k176, n176⟩, -, X176, ⟨Lc176, hQ176, l176, y176, z176⟩, st176⟩ := Jvm.LawKit.callS X0 hx (y := (⟨"com/example/brace/brace/account/FixedRateAfterReservationPinLaw", "pick", "(I)Lcom/example/brace/brace/account/Session$FixedRate;"⟩ : MethodName)) hown (mvT hZ (hw _ (List.mem_of_getElem? (i := 0) rfl))) (mvT hZ (hw _ (List.mem_of_getElem? (i := 1) rfl))) (mvT hZ (hw _ (List.mem_of_getElem? (i := 2) rfl))) (mvT hZ (hw _ (List.mem_of_getElem? (i := 3) rfl))) (by decide) (backOf (W := 0) (rm1 l Z a0 hw [] (2 : Int32) w_UNRATED w_DUE w_SETTLED w_NONE h0 n0 O0 S_UNRATED S_DUE S_SETTLED S_NONE) hZ (hw _ (List.mem_of_getElem? (i := 3) rfl)) (hw _ (List.mem_of_getElem? (i := 2) rfl)) (by decide) (by decide)) (g := (mkF m 31 #[iv pi0, iv pi1, iv pi2, iv (2 : Int32), iv (1 : Int32), iv (0 : Int32), .unset, .unset, .unset] [(.int (2 : Int32))])) rfl (by rw [hml]; rfl) (argsL := [(.int (2 : Int32))]) (rest := []) (lenOf pd__I_Lcom_example_brace_brace_account_Session_FixedRate_ rfl) rfl (by show 2 * 0 + _ ≤ _; exact Nat.le_of_eq rfl) (hb hby at_31) (fun _ _ => ⟨rfl, e0, (by decide : 0 + 0 ≤ _), (by decide : 0 + 0 ≤ _)⟩)
        dsimp only [Pt.U, Pt.locs, Pt.cells, Pt.slots] at X176 l176 y176 z176 st176 hQ176
        subst l176 y176 z176
        obtain ⟨hv176, N176q, e176q⟩ := hQ176
        have N177 := Fr.app N0 N176q
        have hw176 : v176 = some (.ref w_SETTLED) := by rw [hv176, if_neg (by decide : ¬ ((2 : Int32) = (0 : Int32))), if_neg (by decide : ¬ ((2 : Int32) = (1 : Int32))), if_pos (rfl : (2 : Int32) = (2 : Int32))]
        subst hw176
        have pre178 : ∀ t, Steps p.tables e below (T176.setTop (mkF m 34 #[iv pi0, iv pi1, iv pi2, iv (2 : Int32), iv (1 : Int32), iv (0 : Int32), .unset, .unset, .unset] [(.ref w_SETTLED)])) t → Go t := fun t kt => pre175 t (st176 t kt)
        have pre179 : ∀ t, Steps p.tables e below (T176.setTop (mkF m 79 #[iv pi0, iv pi1, iv pi2, iv (2 : Int32), iv (1 : Int32), iv (0 : Int32), rv w_SETTLED, .unset, .unset] [])) t → Go t := fun t kt => pre178 t (by
            refine y_astore X176.here hx (hb hby at_34) rfl (l' := #[iv pi0, iv pi1, iv pi2, iv (2 : Int32), iv (1 : Int32), iv (0 : Int32), rv w_SETTLED, .unset, .unset]) rfl (pc' := 36) rfl ?_
            refine y_iloadN X176.here hx (hb hby at_36) rfl (pc' := 37) rfl ?_
            refine y_ifYes X176.here hx (hb hby at_37) ((if0 _ _).trans (feq (by decide : ¬ ((2 : Int32) = (0 : Int32)))).2) (pc' := 61) (by decide) rfl ?_
            refine y_iloadN X176.here hx (hb hby at_61) rfl (pc' := 62) rfl ?_
            refine y_iconst X176.here hx (hb hby at_62) (v := (1 : Int32)) rfl (pc' := 63) rfl ?_
            refine y_icmpYes X176.here hx (hb hby at_63) (feq (by decide : ¬ ((2 : Int32) = (1 : Int32)))).2 (pc' := 74) (by decide) rfl ?_
            refine y_iloadN X176.here hx (hb hby at_74) rfl (pc' := 75) rfl ?_
            refine y_iconst X176.here hx (hb hby at_75) (v := (2 : Int32)) rfl (pc' := 76) rfl ?_
            refine y_icmpNo X176.here hx (hb hby at_76) (teq (rfl : (2 : Int32) = (2 : Int32))).2 (pc' := 79) rfl ?_
            exact kt)
        obtain ⟨T180, X180, e180, st180⟩ := getS2 X176 hx hZ hown (host := "") (Or.inl (hw _ (List.mem_of_getElem? (i := 19) rfl))) Via.refl e176q (S_SETTLED.ext O0.2) (g := (mkF m 79 #[iv pi0, iv pi1, iv pi2, iv (2 : Int32), iv (1 : Int32), iv (0 : Int32), rv w_SETTLED, .unset, .unset] [])) rfl (hb hby at_79)
        have pre181 : ∀ t, Steps p.tables e below (T180.setTop (mkF m 82 #[iv pi0, iv pi1, iv pi2, iv (2 : Int32), iv (1 : Int32), iv (0 : Int32), rv w_SETTLED, .unset, .unset] [(.ref w_SETTLED)])) t → Go t := fun t kt => pre179 t (st180 t kt)
        have pre182 : ∀ t, Steps p.tables e below (T180.setTop (mkF m 96 #[iv pi0, iv pi1, iv pi2, iv (2 : Int32), iv (1 : Int32), iv (0 : Int32), rv w_SETTLED, rv w_SETTLED, .unset] [(.int (1 : Int32)), (.ref w_SETTLED)])) t → Go t := fun t kt => pre181 t (by
            refine y_astore X180.here hx (hb hby at_82) rfl (l' := #[iv pi0, iv pi1, iv pi2, iv (2 : Int32), iv (1 : Int32), iv (0 : Int32), rv w_SETTLED, rv w_SETTLED, .unset]) rfl (pc' := 84) rfl ?_
            refine y_goto X180.here hx (hb hby at_84) (pc' := 92) (by decide) rfl ?_
            refine y_aload X180.here hx (hb hby at_92) rfl rfl (pc' := 94) rfl ?_
            refine y_iload X180.here hx (hb hby at_94) rfl (pc' := 96) rfl ?_
            exact kt)
        obtain ⟨cq183, kq183, q183a, q183b, q183c⟩ := isOf hZ e180 (E_w_SETTLED.ext O0.2)
        obtain ⟨v183, _, ⟨T183, L183, k183, n183⟩, -, X183, ⟨Lc183, hQ183, l183, y183, z183⟩, st183⟩ := X180.virtualBack hx (y := (⟨"com/example/brace/brace/account/Session$FixedRate", "afterReservation", "(Z)Lcom/example/brace/brace/account/Session$FixedRate;"⟩ : MethodName)) (z := (⟨"com/example/brace/brace/account/Session$FixedRate", "afterReservation", "(Z)Lcom/example/brace/brace/account/Session$FixedRate;"⟩ : MethodName)) hown (mvT hZ (hw _ (List.mem_of_getElem? (i := 9) rfl))) (mvT hZ (hw _ (List.mem_of_getElem? (i := 10) rfl))) (notFace_of_selects (args := #[]) (mvT hZ (hw _ (List.mem_of_getElem? (i := 12) rfl)))) (mvT hZ (hw _ (List.mem_of_getElem? (i := 12) rfl))) (mvT hZ (hw _ (List.mem_of_getElem? (i := 11) rfl))) (by decide) (backOf (W := 0) (rm2 l Z a0 hw [] w_SETTLED (1 : Int32) w_UNRATED w_DUE w_NONE h0 n0 O0 S_UNRATED S_DUE S_NONE) hZ (hw _ (List.mem_of_getElem? (i := 13) rfl)) (hw _ (List.mem_of_getElem? (i := 5) rfl)) (by decide) (by decide)) q183a q183c (g := (mkF m 96 #[iv pi0, iv pi1, iv pi2, iv (2 : Int32), iv (1 : Int32), iv (0 : Int32), rv w_SETTLED, rv w_SETTLED, .unset] [(.int (1 : Int32)), (.ref w_SETTLED)])) rfl (by rw [hml]; rfl) (Steps.refl _) (argsL := [(.int (1 : Int32))]) (rest := []) (lenOf pd__Z_Lcom_example_brace_brace_account_Session_FixedRate_ rfl) rfl (by show 2 * 0 + _ ≤ _; exact Nat.le_of_eq rfl) (hb hby at_96) (fun _ _ => ⟨rfl, e180, (by decide : 0 + 0 ≤ _), (by decide : 0 + 0 ≤ _)⟩)
        dsimp only [Pt.U, Pt.locs, Pt.cells, Pt.slots] at X183 l183 y183 z183 st183 hQ183
        subst l183 y183 z183
        obtain ⟨hv183, N183q, e183q⟩ := hQ183
        have N184 := Fr.app N177 N183q
        have hw183 : v183 = some (.ref w_SETTLED) := by rw [hv183, if_neg (Ne.symm ne_UNRATED_SETTLED)]
        subst hw183
        have pre185 : ∀ t, Steps p.tables e below (T183.setTop (mkF m 99 #[iv pi0, iv pi1, iv pi2, iv (2 : Int32), iv (1 : Int32), iv (0 : Int32), rv w_SETTLED, rv w_SETTLED, .unset] [(.ref w_SETTLED)])) t → Go t := fun t kt => pre182 t (st183.trans kt)
        have pre186 : ∀ t, Steps p.tables e below (T183.setTop (mkF m 114 #[iv pi0, iv pi1, iv pi2, iv (2 : Int32), iv (1 : Int32), iv (0 : Int32), rv w_SETTLED, rv w_SETTLED, rv w_SETTLED] [(.int (0 : Int32)), (.ref w_SETTLED)])) t → Go t := fun t kt => pre185 t (by
            refine y_astore X183.here hx (hb hby at_99) rfl (l' := #[iv pi0, iv pi1, iv pi2, iv (2 : Int32), iv (1 : Int32), iv (0 : Int32), rv w_SETTLED, rv w_SETTLED, rv w_SETTLED]) rfl (pc' := 101) rfl ?_
            refine y_aload X183.here hx (hb hby at_101) rfl rfl (pc' := 103) rfl ?_
            refine y_aload X183.here hx (hb hby at_103) rfl rfl (pc' := 105) rfl ?_
            refine Jvm.RoadKit.acmp (g := (mkF m 105 #[iv pi0, iv pi1, iv pi2, iv (2 : Int32), iv (1 : Int32), iv (0 : Int32), rv w_SETTLED, rv w_SETTLED, rv w_SETTLED] [(.ref w_SETTLED), (.ref w_SETTLED)])) X183 hx rfl rfl rfl (pc0 := 105) (pc' := 110) (same := true) rfl (hb hby at_105) rfl (decide_eq_true (congrArg Value.ref (rfl : w_SETTLED = w_SETTLED))) (by decide) (by decide) ?_
            show Steps p.tables e below (T183.setTop (mkF m 110 #[iv pi0, iv pi1, iv pi2, iv (2 : Int32), iv (1 : Int32), iv (0 : Int32), rv w_SETTLED, rv w_SETTLED, rv w_SETTLED] [])) _
            refine y_aload X183.here hx (hb hby at_110) rfl rfl (pc' := 112) rfl ?_
            refine y_iload X183.here hx (hb hby at_112) rfl (pc' := 114) rfl ?_
            exact kt)
        obtain ⟨cq187, kq187, q187a, q187b, q187c⟩ := isOf hZ e183q (E_w_SETTLED.ext O0.2)
        obtain ⟨v187, _, ⟨T187, L187, k187, n187⟩, -, X187, ⟨Lc187, hQ187, l187, y187, z187⟩, st187⟩ := X183.virtualBack hx (y := (⟨"com/example/brace/brace/account/Session$FixedRate", "afterReservation", "(Z)Lcom/example/brace/brace/account/Session$FixedRate;"⟩ : MethodName)) (z := (⟨"com/example/brace/brace/account/Session$FixedRate", "afterReservation", "(Z)Lcom/example/brace/brace/account/Session$FixedRate;"⟩ : MethodName)) hown (mvT hZ (hw _ (List.mem_of_getElem? (i := 9) rfl))) (mvT hZ (hw _ (List.mem_of_getElem? (i := 10) rfl))) (notFace_of_selects (args := #[]) (mvT hZ (hw _ (List.mem_of_getElem? (i := 12) rfl)))) (mvT hZ (hw _ (List.mem_of_getElem? (i := 12) rfl))) (mvT hZ (hw _ (List.mem_of_getElem? (i := 11) rfl))) (by decide) (backOf (W := 0) (rm2 l Z a0 hw [] w_SETTLED (0 : Int32) w_UNRATED w_DUE w_NONE h0 n0 O0 S_UNRATED S_DUE S_NONE) hZ (hw _ (List.mem_of_getElem? (i := 13) rfl)) (hw _ (List.mem_of_getElem? (i := 5) rfl)) (by decide) (by decide)) q187a q187c (g := (mkF m 114 #[iv pi0, iv pi1, iv pi2, iv (2 : Int32), iv (1 : Int32), iv (0 : Int32), rv w_SETTLED, rv w_SETTLED, rv w_SETTLED] [(.int (0 : Int32)), (.ref w_SETTLED)])) rfl (by rw [hml]; rfl) (Steps.refl _) (argsL := [(.int (0 : Int32))]) (rest := []) (lenOf pd__Z_Lcom_example_brace_brace_account_Session_FixedRate_ rfl) rfl (by show 2 * 0 + _ ≤ _; exact Nat.le_of_eq rfl) (hb hby at_114) (fun _ _ => ⟨rfl, e183q, (by decide : 0 + 0 ≤ _), (by decide : 0 + 0 ≤ _)⟩)
        dsimp only [Pt.U, Pt.locs, Pt.cells, Pt.slots] at X187 l187 y187 z187 st187 hQ187
        subst l187 y187 z187
        obtain ⟨hv187, N187q, e187q⟩ := hQ187
        have N188 := Fr.app N184 N187q
        have hw187 : v187 = some (.ref w_SETTLED) := by rw [hv187, if_neg (Ne.symm ne_UNRATED_SETTLED)]
        subst hw187
        have pre189 : ∀ t, Steps p.tables e below (T187.setTop (mkF m 117 #[iv pi0, iv pi1, iv pi2, iv (2 : Int32), iv (1 : Int32), iv (0 : Int32), rv w_SETTLED, rv w_SETTLED, rv w_SETTLED] [(.ref w_SETTLED)])) t → Go t := fun t kt => pre186 t (st187.trans kt)
        have pre190 : ∀ t, Steps p.tables e below (T187.setTop (mkF m 127 #[iv pi0, iv pi1, iv pi2, iv (2 : Int32), iv (1 : Int32), iv (0 : Int32), rv w_SETTLED, rv w_SETTLED, rv w_SETTLED] [(.int (1 : Int32))])) t → Go t := fun t kt => pre189 t (by
            refine y_aload X187.here hx (hb hby at_117) rfl rfl (pc' := 119) rfl ?_
            refine Jvm.RoadKit.acmp (g := (mkF m 119 #[iv pi0, iv pi1, iv pi2, iv (2 : Int32), iv (1 : Int32), iv (0 : Int32), rv w_SETTLED, rv w_SETTLED, rv w_SETTLED] [(.ref w_SETTLED), (.ref w_SETTLED)])) X187 hx rfl rfl rfl (pc0 := 119) (pc' := 122) (same := true) rfl (hb hby at_119) rfl (decide_eq_true (congrArg Value.ref (rfl : w_SETTLED = w_SETTLED))) (by decide) (by decide) ?_
            show Steps p.tables e below (T187.setTop (mkF m 122 #[iv pi0, iv pi1, iv pi2, iv (2 : Int32), iv (1 : Int32), iv (0 : Int32), rv w_SETTLED, rv w_SETTLED, rv w_SETTLED] [])) _
            refine y_iconst X187.here hx (hb hby at_122) (v := (1 : Int32)) rfl (pc' := 123) rfl ?_
            refine y_goto X187.here hx (hb hby at_123) (pc' := 127) (by decide) rfl ?_
            exact kt)
        obtain ⟨fs, hr, hrun, hended, hW, hsame⟩ := X187.leave (v := some (.int (1 : Int32))) (fun h => by rw [Bd.returns] at h; cases h)
        refine ⟨_, _, (hGo _).mp (pre190 _ ?_), hrun, hended, _, _, rfl, ?_, ⟨_, rfl⟩, hW, hsame.mono (by decide) (by decide)⟩
        · exact retN X187 hx (t := .boolean) Bd.returns (by simp) (hb hby at_127) hr
        · show Q0 Z pi0 pi1 pi2 w_UNRATED w_DUE w_SETTLED w_NONE h0 n0 _ T187.heap _
          rw [e187q]
          exact ⟨rfl, N188⟩
      · skip
        have pre191 : ∀ t, Steps p.tables e below (s₁.setTop (mkF m 31 #[iv pi0, iv pi1, iv pi2, iv (3 : Int32), iv (1 : Int32), iv (0 : Int32), .unset, .unset, .unset] [(.int (3 : Int32))])) t → Go t := fun t kt => pre141 t (by
            refine y_iloadN X0.here hx (hb hby at_30) rfl (pc' := 31) rfl ?_
            exact kt)
        obtain ⟨v192, _, ⟨T192, L192, k192, n192⟩, -, X192, ⟨Lc192, hQ192, l192, y192, z192⟩, st192⟩ := Jvm.LawKit.callS X0 hx (y := (⟨"com/example/brace/brace/account/FixedRateAfterReservationPinLaw", "pick", "(I)Lcom/example/brace/brace/account/Session$FixedRate;"⟩ : MethodName)) hown (mvT hZ (hw _ (List.mem_of_getElem? (i := 0) rfl))) (mvT hZ (hw _ (List.mem_of_getElem? (i := 1) rfl))) (mvT hZ (hw _ (List.mem_of_getElem? (i := 2) rfl))) (mvT hZ (hw _ (List.mem_of_getElem? (i := 3) rfl))) (by decide) (backOf (W := 0) (rm1 l Z a0 hw [] (3 : Int32) w_UNRATED w_DUE w_SETTLED w_NONE h0 n0 O0 S_UNRATED S_DUE S_SETTLED S_NONE) hZ (hw _ (List.mem_of_getElem? (i := 3) rfl)) (hw _ (List.mem_of_getElem? (i := 2) rfl)) (by decide) (by decide)) (g := (mkF m 31 #[iv pi0, iv pi1, iv pi2, iv (3 : Int32), iv (1 : Int32), iv (0 : Int32), .unset, .unset, .unset] [(.int (3 : Int32))])) rfl (by rw [hml]; rfl) (argsL := [(.int (3 : Int32))]) (rest := []) (lenOf pd__I_Lcom_example_brace_brace_account_Session_FixedRate_ rfl) rfl (by show 2 * 0 + _ ≤ _; exact Nat.le_of_eq rfl) (hb hby at_31) (fun _ _ => ⟨rfl, e0, (by decide : 0 + 0 ≤ _), (by decide : 0 + 0 ≤ _)⟩)
        dsimp only [Pt.U, Pt.locs, Pt.cells, Pt.slots] at X192 l192 y192 z192 st192 hQ192
        subst l192 y192 z192
        obtain ⟨hv192, N192q, e192q⟩ := hQ192
        have N193 := Fr.app N0 N192q
        have hw192 : v192 = some (.ref w_NONE) := by rw [hv192, if_neg (by decide : ¬ ((3 : Int32) = (0 : Int32))), if_neg (by decide : ¬ ((3 : Int32) = (1 : Int32))), if_neg (by decide : ¬ ((3 : Int32) = (2 : Int32)))]
        subst hw192
        have pre194 : ∀ t, Steps p.tables e below (T192.setTop (mkF m 34 #[iv pi0, iv pi1, iv pi2, iv (3 : Int32), iv (1 : Int32), iv (0 : Int32), .unset, .unset, .unset] [(.ref w_NONE)])) t → Go t := fun t kt => pre191 t (st192 t kt)
        have pre195 : ∀ t, Steps p.tables e below (T192.setTop (mkF m 87 #[iv pi0, iv pi1, iv pi2, iv (3 : Int32), iv (1 : Int32), iv (0 : Int32), rv w_NONE, .unset, .unset] [])) t → Go t := fun t kt => pre194 t (by
            refine y_astore X192.here hx (hb hby at_34) rfl (l' := #[iv pi0, iv pi1, iv pi2, iv (3 : Int32), iv (1 : Int32), iv (0 : Int32), rv w_NONE, .unset, .unset]) rfl (pc' := 36) rfl ?_
            refine y_iloadN X192.here hx (hb hby at_36) rfl (pc' := 37) rfl ?_
            refine y_ifYes X192.here hx (hb hby at_37) ((if0 _ _).trans (feq (by decide : ¬ ((3 : Int32) = (0 : Int32)))).2) (pc' := 61) (by decide) rfl ?_
            refine y_iloadN X192.here hx (hb hby at_61) rfl (pc' := 62) rfl ?_
            refine y_iconst X192.here hx (hb hby at_62) (v := (1 : Int32)) rfl (pc' := 63) rfl ?_
            refine y_icmpYes X192.here hx (hb hby at_63) (feq (by decide : ¬ ((3 : Int32) = (1 : Int32)))).2 (pc' := 74) (by decide) rfl ?_
            refine y_iloadN X192.here hx (hb hby at_74) rfl (pc' := 75) rfl ?_
            refine y_iconst X192.here hx (hb hby at_75) (v := (2 : Int32)) rfl (pc' := 76) rfl ?_
            refine y_icmpYes X192.here hx (hb hby at_76) (feq (by decide : ¬ ((3 : Int32) = (2 : Int32)))).2 (pc' := 87) (by decide) rfl ?_
            exact kt)
        obtain ⟨T196, X196, e196, st196⟩ := getS2 X192 hx hZ hown (host := "") (Or.inl (hw _ (List.mem_of_getElem? (i := 16) rfl))) Via.refl e192q (S_NONE.ext O0.2) (g := (mkF m 87 #[iv pi0, iv pi1, iv pi2, iv (3 : Int32), iv (1 : Int32), iv (0 : Int32), rv w_NONE, .unset, .unset] [])) rfl (hb hby at_87)
        have pre197 : ∀ t, Steps p.tables e below (T196.setTop (mkF m 90 #[iv pi0, iv pi1, iv pi2, iv (3 : Int32), iv (1 : Int32), iv (0 : Int32), rv w_NONE, .unset, .unset] [(.ref w_NONE)])) t → Go t := fun t kt => pre195 t (st196 t kt)
        have pre198 : ∀ t, Steps p.tables e below (T196.setTop (mkF m 96 #[iv pi0, iv pi1, iv pi2, iv (3 : Int32), iv (1 : Int32), iv (0 : Int32), rv w_NONE, rv w_NONE, .unset] [(.int (1 : Int32)), (.ref w_NONE)])) t → Go t := fun t kt => pre197 t (by
            refine y_astore X196.here hx (hb hby at_90) rfl (l' := #[iv pi0, iv pi1, iv pi2, iv (3 : Int32), iv (1 : Int32), iv (0 : Int32), rv w_NONE, rv w_NONE, .unset]) rfl (pc' := 92) rfl ?_
            refine y_aload X196.here hx (hb hby at_92) rfl rfl (pc' := 94) rfl ?_
            refine y_iload X196.here hx (hb hby at_94) rfl (pc' := 96) rfl ?_
            exact kt)
        obtain ⟨cq199, kq199, q199a, q199b, q199c⟩ := isOf hZ e196 (E_w_NONE.ext O0.2)
        obtain ⟨v199, _, ⟨T199, L199, k199, n199⟩, -, X199, ⟨Lc199, hQ199, l199, y199, z199⟩, st199⟩ := X196.virtualBack hx (y := (⟨"com/example/brace/brace/account/Session$FixedRate", "afterReservation", "(Z)Lcom/example/brace/brace/account/Session$FixedRate;"⟩ : MethodName)) (z := (⟨"com/example/brace/brace/account/Session$FixedRate", "afterReservation", "(Z)Lcom/example/brace/brace/account/Session$FixedRate;"⟩ : MethodName)) hown (mvT hZ (hw _ (List.mem_of_getElem? (i := 9) rfl))) (mvT hZ (hw _ (List.mem_of_getElem? (i := 10) rfl))) (notFace_of_selects (args := #[]) (mvT hZ (hw _ (List.mem_of_getElem? (i := 12) rfl)))) (mvT hZ (hw _ (List.mem_of_getElem? (i := 12) rfl))) (mvT hZ (hw _ (List.mem_of_getElem? (i := 11) rfl))) (by decide) (backOf (W := 0) (rm2 l Z a0 hw [] w_NONE (1 : Int32) w_UNRATED w_DUE w_NONE h0 n0 O0 S_UNRATED S_DUE S_NONE) hZ (hw _ (List.mem_of_getElem? (i := 13) rfl)) (hw _ (List.mem_of_getElem? (i := 5) rfl)) (by decide) (by decide)) q199a q199c (g := (mkF m 96 #[iv pi0, iv pi1, iv pi2, iv (3 : Int32), iv (1 : Int32), iv (0 : Int32), rv w_NONE, rv w_NONE, .unset] [(.int (1 : Int32)), (.ref w_NONE)])) rfl (by rw [hml]; rfl) (Steps.refl _) (argsL := [(.int (1 : Int32))]) (rest := []) (lenOf pd__Z_Lcom_example_brace_brace_account_Session_FixedRate_ rfl) rfl (by show 2 * 0 + _ ≤ _; exact Nat.le_of_eq rfl) (hb hby at_96) (fun _ _ => ⟨rfl, e196, (by decide : 0 + 0 ≤ _), (by decide : 0 + 0 ≤ _)⟩)
        dsimp only [Pt.U, Pt.locs, Pt.cells, Pt.slots] at X199 l199 y199 z199 st199 hQ199
        subst l199 y199 z199
        obtain ⟨hv199, N199q, e199q⟩ := hQ199
        have N200 := Fr.app N193 N199q
        have hw199 : v199 = some (.ref w_NONE) := by rw [hv199, if_neg (Ne.symm ne_UNRATED_NONE)]
        subst hw199
        have pre201 : ∀ t, Steps p.tables e below (T199.setTop (mkF m 99 #[iv pi0, iv pi1, iv pi2, iv (3 : Int32), iv (1 : Int32), iv (0 : Int32), rv w_NONE, rv w_NONE, .unset] [(.ref w_NONE)])) t → Go t := fun t kt => pre198 t (st199.trans kt)
        have pre202 : ∀ t, Steps p.tables e below (T199.setTop (mkF m 114 #[iv pi0, iv pi1, iv pi2, iv (3 : Int32), iv (1 : Int32), iv (0 : Int32), rv w_NONE, rv w_NONE, rv w_NONE] [(.int (0 : Int32)), (.ref w_NONE)])) t → Go t := fun t kt => pre201 t (by
            refine y_astore X199.here hx (hb hby at_99) rfl (l' := #[iv pi0, iv pi1, iv pi2, iv (3 : Int32), iv (1 : Int32), iv (0 : Int32), rv w_NONE, rv w_NONE, rv w_NONE]) rfl (pc' := 101) rfl ?_
            refine y_aload X199.here hx (hb hby at_101) rfl rfl (pc' := 103) rfl ?_
            refine y_aload X199.here hx (hb hby at_103) rfl rfl (pc' := 105) rfl ?_
            refine Jvm.RoadKit.acmp (g := (mkF m 105 #[iv pi0, iv pi1, iv pi2, iv (3 : Int32), iv (1 : Int32), iv (0 : Int32), rv w_NONE, rv w_NONE, rv w_NONE] [(.ref w_NONE), (.ref w_NONE)])) X199 hx rfl rfl rfl (pc0 := 105) (pc' := 110) (same := true) rfl (hb hby at_105) rfl (decide_eq_true (congrArg Value.ref (rfl : w_NONE = w_NONE))) (by decide) (by decide) ?_
            show Steps p.tables e below (T199.setTop (mkF m 110 #[iv pi0, iv pi1, iv pi2, iv (3 : Int32), iv (1 : Int32), iv (0 : Int32), rv w_NONE, rv w_NONE, rv w_NONE] [])) _
            refine y_aload X199.here hx (hb hby at_110) rfl rfl (pc' := 112) rfl ?_
            refine y_iload X199.here hx (hb hby at_112) rfl (pc' := 114) rfl ?_
            exact kt)
        obtain ⟨cq203, kq203, q203a, q203b, q203c⟩ := isOf hZ e199q (E_w_NONE.ext O0.2)
        obtain ⟨v203, _, ⟨T203, L203, k203, n203⟩, -, X203, ⟨Lc203, hQ203, l203, y203, z203⟩, st203⟩ := X199.virtualBack hx (y := (⟨"com/example/brace/brace/account/Session$FixedRate", "afterReservation", "(Z)Lcom/example/brace/brace/account/Session$FixedRate;"⟩ : MethodName)) (z := (⟨"com/example/brace/brace/account/Session$FixedRate", "afterReservation", "(Z)Lcom/example/brace/brace/account/Session$FixedRate;"⟩ : MethodName)) hown (mvT hZ (hw _ (List.mem_of_getElem? (i := 9) rfl))) (mvT hZ (hw _ (List.mem_of_getElem? (i := 10) rfl))) (notFace_of_selects (args := #[]) (mvT hZ (hw _ (List.mem_of_getElem? (i := 12) rfl)))) (mvT hZ (hw _ (List.mem_of_getElem? (i := 12) rfl))) (mvT hZ (hw _ (List.mem_of_getElem? (i := 11) rfl))) (by decide) (backOf (W := 0) (rm2 l Z a0 hw [] w_NONE (0 : Int32) w_UNRATED w_DUE w_NONE h0 n0 O0 S_UNRATED S_DUE S_NONE) hZ (hw _ (List.mem_of_getElem? (i := 13) rfl)) (hw _ (List.mem_of_getElem? (i := 5) rfl)) (by decide) (by decide)) q203a q203c (g := (mkF m 114 #[iv pi0, iv pi1, iv pi2, iv (3 : Int32), iv (1 : Int32), iv (0 : Int32), rv w_NONE, rv w_NONE, rv w_NONE] [(.int (0 : Int32)), (.ref w_NONE)])) rfl (by rw [hml]; rfl) (Steps.refl _) (argsL := [(.int (0 : Int32))]) (rest := []) (lenOf pd__Z_Lcom_example_brace_brace_account_Session_FixedRate_ rfl) rfl (by show 2 * 0 + _ ≤ _; exact Nat.le_of_eq rfl) (hb hby at_114) (fun _ _ => ⟨rfl, e199q, (by decide : 0 + 0 ≤ _), (by decide : 0 + 0 ≤ _)⟩)
        dsimp only [Pt.U, Pt.locs, Pt.cells, Pt.slots] at X203 l203 y203 z203 st203 hQ203
        subst l203 y203 z203
        obtain ⟨hv203, N203q, e203q⟩ := hQ203
        have N204 := Fr.app N200 N203q
        have hw203 : v203 = some (.ref w_NONE) := by rw [hv203, if_neg (Ne.symm ne_UNRATED_NONE)]
        subst hw203
        have pre205 : ∀ t, Steps p.tables e below (T203.setTop (mkF m 117 #[iv pi0, iv pi1, iv pi2, iv (3 : Int32), iv (1 : Int32), iv (0 : Int32), rv w_NONE, rv w_NONE, rv w_NONE] [(.ref w_NONE)])) t → Go t := fun t kt => pre202 t (st203.trans kt)
        have pre206 : ∀ t, Steps p.tables e below (T203.setTop (mkF m 127 #[iv pi0, iv pi1, iv pi2, iv (3 : Int32), iv (1 : Int32), iv (0 : Int32), rv w_NONE, rv w_NONE, rv w_NONE] [(.int (1 : Int32))])) t → Go t := fun t kt => pre205 t (by
            refine y_aload X203.here hx (hb hby at_117) rfl rfl (pc' := 119) rfl ?_
            refine Jvm.RoadKit.acmp (g := (mkF m 119 #[iv pi0, iv pi1, iv pi2, iv (3 : Int32), iv (1 : Int32), iv (0 : Int32), rv w_NONE, rv w_NONE, rv w_NONE] [(.ref w_NONE), (.ref w_NONE)])) X203 hx rfl rfl rfl (pc0 := 119) (pc' := 122) (same := true) rfl (hb hby at_119) rfl (decide_eq_true (congrArg Value.ref (rfl : w_NONE = w_NONE))) (by decide) (by decide) ?_
            show Steps p.tables e below (T203.setTop (mkF m 122 #[iv pi0, iv pi1, iv pi2, iv (3 : Int32), iv (1 : Int32), iv (0 : Int32), rv w_NONE, rv w_NONE, rv w_NONE] [])) _
            refine y_iconst X203.here hx (hb hby at_122) (v := (1 : Int32)) rfl (pc' := 123) rfl ?_
            refine y_goto X203.here hx (hb hby at_123) (pc' := 127) (by decide) rfl ?_
            exact kt)
        obtain ⟨fs, hr, hrun, hended, hW, hsame⟩ := X203.leave (v := some (.int (1 : Int32))) (fun h => by rw [Bd.returns] at h; cases h)
        refine ⟨_, _, (hGo _).mp (pre206 _ ?_), hrun, hended, _, _, rfl, ?_, ⟨_, rfl⟩, hW, hsame.mono (by decide) (by decide)⟩
        · exact retN X203 hx (t := .boolean) Bd.returns (by simp) (hb hby at_127) hr
        · show Q0 Z pi0 pi1 pi2 w_UNRATED w_DUE w_SETTLED w_NONE h0 n0 _ T203.heap _
          rw [e203q]
          exact ⟨rfl, N204⟩
    · have pre207 : ∀ t, Steps p.tables e below (s₁.setTop (mkF m 30 #[iv pi0, iv pi1, iv pi2, iv x1, iv (1 : Int32), iv (1 : Int32), .unset, .unset, .unset] [])) t → Go t := fun t kt => pre139 t (by
          refine y_ifNo X0.here hx (hb hby at_20) ((if0 _ _).trans (feq hc20_140).1) (pc' := 23) rfl ?_
          refine y_iconst X0.here hx (hb hby at_23) (v := (1 : Int32)) rfl (pc' := 24) rfl ?_
          refine y_goto X0.here hx (hb hby at_24) (pc' := 28) (by decide) rfl ?_
          refine y_istore X0.here hx (hb hby at_28) (l' := #[iv pi0, iv pi1, iv pi2, iv x1, iv (1 : Int32), iv (1 : Int32), .unset, .unset, .unset]) rfl (pc' := 30) rfl ?_
          exact kt)
      have hs30_208 : x1 = (0 : Int32) ∨ x1 = (1 : Int32) ∨ x1 = (2 : Int32) ∨ x1 = (3 : Int32) := by
          rw [hx1]; exact own_and3 _
      rcases hs30_208 with rfl | rfl | rfl | rfl
      · skip
        have pre209 : ∀ t, Steps p.tables e below (s₁.setTop (mkF m 31 #[iv pi0, iv pi1, iv pi2, iv (0 : Int32), iv (1 : Int32), iv (1 : Int32), .unset, .unset, .unset] [(.int (0 : Int32))])) t → Go t := fun t kt => pre207 t (by
            refine y_iloadN X0.here hx (hb hby at_30) rfl (pc' := 31) rfl ?_
            exact kt)
        obtain ⟨v210, _, ⟨T210, L210, k210, n210⟩, -, X210, ⟨Lc210, hQ210, l210, y210, z210⟩, st210⟩ := Jvm.LawKit.callS X0 hx (y := (⟨"com/example/brace/brace/account/FixedRateAfterReservationPinLaw", "pick", "(I)Lcom/example/brace/brace/account/Session$FixedRate;"⟩ : MethodName)) hown (mvT hZ (hw _ (List.mem_of_getElem? (i := 0) rfl))) (mvT hZ (hw _ (List.mem_of_getElem? (i := 1) rfl))) (mvT hZ (hw _ (List.mem_of_getElem? (i := 2) rfl))) (mvT hZ (hw _ (List.mem_of_getElem? (i := 3) rfl))) (by decide) (backOf (W := 0) (rm1 l Z a0 hw [] (0 : Int32) w_UNRATED w_DUE w_SETTLED w_NONE h0 n0 O0 S_UNRATED S_DUE S_SETTLED S_NONE) hZ (hw _ (List.mem_of_getElem? (i := 3) rfl)) (hw _ (List.mem_of_getElem? (i := 2) rfl)) (by decide) (by decide)) (g := (mkF m 31 #[iv pi0, iv pi1, iv pi2, iv (0 : Int32), iv (1 : Int32), iv (1 : Int32), .unset, .unset, .unset] [(.int (0 : Int32))])) rfl (by rw [hml]; rfl) (argsL := [(.int (0 : Int32))]) (rest := []) (lenOf pd__I_Lcom_example_brace_brace_account_Session_FixedRate_ rfl) rfl (by show 2 * 0 + _ ≤ _; exact Nat.le_of_eq rfl) (hb hby at_31) (fun _ _ => ⟨rfl, e0, (by decide : 0 + 0 ≤ _), (by decide : 0 + 0 ≤ _)⟩)
        dsimp only [Pt.U, Pt.locs, Pt.cells, Pt.slots] at X210 l210 y210 z210 st210 hQ210
        subst l210 y210 z210
        obtain ⟨hv210, N210q, e210q⟩ := hQ210
        have N211 := Fr.app N0 N210q
        have hw210 : v210 = some (.ref w_UNRATED) := by rw [hv210, if_pos (rfl : (0 : Int32) = (0 : Int32))]
        subst hw210
        have pre212 : ∀ t, Steps p.tables e below (T210.setTop (mkF m 34 #[iv pi0, iv pi1, iv pi2, iv (0 : Int32), iv (1 : Int32), iv (1 : Int32), .unset, .unset, .unset] [(.ref w_UNRATED)])) t → Go t := fun t kt => pre209 t (st210 t kt)
        have pre213 : ∀ t, Steps p.tables e below (T210.setTop (mkF m 45 #[iv pi0, iv pi1, iv pi2, iv (0 : Int32), iv (1 : Int32), iv (1 : Int32), rv w_UNRATED, .unset, .unset] [])) t → Go t := fun t kt => pre212 t (by
            refine y_astore X210.here hx (hb hby at_34) rfl (l' := #[iv pi0, iv pi1, iv pi2, iv (0 : Int32), iv (1 : Int32), iv (1 : Int32), rv w_UNRATED, .unset, .unset]) rfl (pc' := 36) rfl ?_
            refine y_iloadN X210.here hx (hb hby at_36) rfl (pc' := 37) rfl ?_
            refine y_ifNo X210.here hx (hb hby at_37) ((if0 _ _).trans (teq (rfl : (0 : Int32) = (0 : Int32))).2) (pc' := 40) rfl ?_
            refine y_iload X210.here hx (hb hby at_40) rfl (pc' := 42) rfl ?_
            refine y_ifNo X210.here hx (hb hby at_42) ((if0 _ _).trans (feq (by decide : ¬ ((1 : Int32) = (0 : Int32)))).1) (pc' := 45) rfl ?_
            exact kt)
        obtain ⟨T214, X214, e214, st214⟩ := getS2 X210 hx hZ hown (host := "") (Or.inl (hw _ (List.mem_of_getElem? (i := 7) rfl))) Via.refl e210q (S_DUE.ext O0.2) (g := (mkF m 45 #[iv pi0, iv pi1, iv pi2, iv (0 : Int32), iv (1 : Int32), iv (1 : Int32), rv w_UNRATED, .unset, .unset] [])) rfl (hb hby at_45)
        have pre215 : ∀ t, Steps p.tables e below (T214.setTop (mkF m 48 #[iv pi0, iv pi1, iv pi2, iv (0 : Int32), iv (1 : Int32), iv (1 : Int32), rv w_UNRATED, .unset, .unset] [(.ref w_DUE)])) t → Go t := fun t kt => pre213 t (st214 t kt)
        have pre216 : ∀ t, Steps p.tables e below (T214.setTop (mkF m 96 #[iv pi0, iv pi1, iv pi2, iv (0 : Int32), iv (1 : Int32), iv (1 : Int32), rv w_UNRATED, rv w_DUE, .unset] [(.int (1 : Int32)), (.ref w_UNRATED)])) t → Go t := fun t kt => pre215 t (by
            refine y_astore X214.here hx (hb hby at_48) rfl (l' := #[iv pi0, iv pi1, iv pi2, iv (0 : Int32), iv (1 : Int32), iv (1 : Int32), rv w_UNRATED, rv w_DUE, .unset]) rfl (pc' := 50) rfl ?_
            refine y_goto X214.here hx (hb hby at_50) (pc' := 92) (by decide) rfl ?_
            refine y_aload X214.here hx (hb hby at_92) rfl rfl (pc' := 94) rfl ?_
            refine y_iload X214.here hx (hb hby at_94) rfl (pc' := 96) rfl ?_
            exact kt)
        obtain ⟨cq217, kq217, q217a, q217b, q217c⟩ := isOf hZ e214 (E_w_UNRATED.ext O0.2)
        obtain ⟨v217, _, ⟨T217, L217, k217, n217⟩, -, X217, ⟨Lc217, hQ217, l217, y217, z217⟩, st217⟩ := X214.virtualBack hx (y := (⟨"com/example/brace/brace/account/Session$FixedRate", "afterReservation", "(Z)Lcom/example/brace/brace/account/Session$FixedRate;"⟩ : MethodName)) (z := (⟨"com/example/brace/brace/account/Session$FixedRate", "afterReservation", "(Z)Lcom/example/brace/brace/account/Session$FixedRate;"⟩ : MethodName)) hown (mvT hZ (hw _ (List.mem_of_getElem? (i := 9) rfl))) (mvT hZ (hw _ (List.mem_of_getElem? (i := 10) rfl))) (notFace_of_selects (args := #[]) (mvT hZ (hw _ (List.mem_of_getElem? (i := 12) rfl)))) (mvT hZ (hw _ (List.mem_of_getElem? (i := 12) rfl))) (mvT hZ (hw _ (List.mem_of_getElem? (i := 11) rfl))) (by decide) (backOf (W := 0) (rm2 l Z a0 hw [] w_UNRATED (1 : Int32) w_UNRATED w_DUE w_NONE h0 n0 O0 S_UNRATED S_DUE S_NONE) hZ (hw _ (List.mem_of_getElem? (i := 13) rfl)) (hw _ (List.mem_of_getElem? (i := 5) rfl)) (by decide) (by decide)) q217a q217c (g := (mkF m 96 #[iv pi0, iv pi1, iv pi2, iv (0 : Int32), iv (1 : Int32), iv (1 : Int32), rv w_UNRATED, rv w_DUE, .unset] [(.int (1 : Int32)), (.ref w_UNRATED)])) rfl (by rw [hml]; rfl) (Steps.refl _) (argsL := [(.int (1 : Int32))]) (rest := []) (lenOf pd__Z_Lcom_example_brace_brace_account_Session_FixedRate_ rfl) rfl (by show 2 * 0 + _ ≤ _; exact Nat.le_of_eq rfl) (hb hby at_96) (fun _ _ => ⟨rfl, e214, (by decide : 0 + 0 ≤ _), (by decide : 0 + 0 ≤ _)⟩)
        dsimp only [Pt.U, Pt.locs, Pt.cells, Pt.slots] at X217 l217 y217 z217 st217 hQ217
        subst l217 y217 z217
        obtain ⟨hv217, N217q, e217q⟩ := hQ217
        have N218 := Fr.app N211 N217q
        have hw217 : v217 = some (.ref w_DUE) := by rw [hv217, if_pos (rfl : w_UNRATED = w_UNRATED), if_neg (by decide : ¬ ((1 : Int32) = (0 : Int32)))]
        subst hw217
        have pre219 : ∀ t, Steps p.tables e below (T217.setTop (mkF m 99 #[iv pi0, iv pi1, iv pi2, iv (0 : Int32), iv (1 : Int32), iv (1 : Int32), rv w_UNRATED, rv w_DUE, .unset] [(.ref w_DUE)])) t → Go t := fun t kt => pre216 t (st217.trans kt)
        have pre220 : ∀ t, Steps p.tables e below (T217.setTop (mkF m 114 #[iv pi0, iv pi1, iv pi2, iv (0 : Int32), iv (1 : Int32), iv (1 : Int32), rv w_UNRATED, rv w_DUE, rv w_DUE] [(.int (1 : Int32)), (.ref w_DUE)])) t → Go t := fun t kt => pre219 t (by
            refine y_astore X217.here hx (hb hby at_99) rfl (l' := #[iv pi0, iv pi1, iv pi2, iv (0 : Int32), iv (1 : Int32), iv (1 : Int32), rv w_UNRATED, rv w_DUE, rv w_DUE]) rfl (pc' := 101) rfl ?_
            refine y_aload X217.here hx (hb hby at_101) rfl rfl (pc' := 103) rfl ?_
            refine y_aload X217.here hx (hb hby at_103) rfl rfl (pc' := 105) rfl ?_
            refine Jvm.RoadKit.acmp (g := (mkF m 105 #[iv pi0, iv pi1, iv pi2, iv (0 : Int32), iv (1 : Int32), iv (1 : Int32), rv w_UNRATED, rv w_DUE, rv w_DUE] [(.ref w_DUE), (.ref w_DUE)])) X217 hx rfl rfl rfl (pc0 := 105) (pc' := 110) (same := true) rfl (hb hby at_105) rfl (decide_eq_true (congrArg Value.ref (rfl : w_DUE = w_DUE))) (by decide) (by decide) ?_
            show Steps p.tables e below (T217.setTop (mkF m 110 #[iv pi0, iv pi1, iv pi2, iv (0 : Int32), iv (1 : Int32), iv (1 : Int32), rv w_UNRATED, rv w_DUE, rv w_DUE] [])) _
            refine y_aload X217.here hx (hb hby at_110) rfl rfl (pc' := 112) rfl ?_
            refine y_iload X217.here hx (hb hby at_112) rfl (pc' := 114) rfl ?_
            exact kt)
        obtain ⟨cq221, kq221, q221a, q221b, q221c⟩ := isOf hZ e217q (E_w_DUE.ext O0.2)
        obtain ⟨v221, _, ⟨T221, L221, k221, n221⟩, -, X221, ⟨Lc221, hQ221, l221, y221, z221⟩, st221⟩ := X217.virtualBack hx (y := (⟨"com/example/brace/brace/account/Session$FixedRate", "afterReservation", "(Z)Lcom/example/brace/brace/account/Session$FixedRate;"⟩ : MethodName)) (z := (⟨"com/example/brace/brace/account/Session$FixedRate", "afterReservation", "(Z)Lcom/example/brace/brace/account/Session$FixedRate;"⟩ : MethodName)) hown (mvT hZ (hw _ (List.mem_of_getElem? (i := 9) rfl))) (mvT hZ (hw _ (List.mem_of_getElem? (i := 10) rfl))) (notFace_of_selects (args := #[]) (mvT hZ (hw _ (List.mem_of_getElem? (i := 12) rfl)))) (mvT hZ (hw _ (List.mem_of_getElem? (i := 12) rfl))) (mvT hZ (hw _ (List.mem_of_getElem? (i := 11) rfl))) (by decide) (backOf (W := 0) (rm2 l Z a0 hw [] w_DUE (1 : Int32) w_UNRATED w_DUE w_NONE h0 n0 O0 S_UNRATED S_DUE S_NONE) hZ (hw _ (List.mem_of_getElem? (i := 13) rfl)) (hw _ (List.mem_of_getElem? (i := 5) rfl)) (by decide) (by decide)) q221a q221c (g := (mkF m 114 #[iv pi0, iv pi1, iv pi2, iv (0 : Int32), iv (1 : Int32), iv (1 : Int32), rv w_UNRATED, rv w_DUE, rv w_DUE] [(.int (1 : Int32)), (.ref w_DUE)])) rfl (by rw [hml]; rfl) (Steps.refl _) (argsL := [(.int (1 : Int32))]) (rest := []) (lenOf pd__Z_Lcom_example_brace_brace_account_Session_FixedRate_ rfl) rfl (by show 2 * 0 + _ ≤ _; exact Nat.le_of_eq rfl) (hb hby at_114) (fun _ _ => ⟨rfl, e217q, (by decide : 0 + 0 ≤ _), (by decide : 0 + 0 ≤ _)⟩)
        dsimp only [Pt.U, Pt.locs, Pt.cells, Pt.slots] at X221 l221 y221 z221 st221 hQ221
        subst l221 y221 z221
        obtain ⟨hv221, N221q, e221q⟩ := hQ221
        have N222 := Fr.app N218 N221q
        have hw221 : v221 = some (.ref w_DUE) := by rw [hv221, if_neg (Ne.symm ne_UNRATED_DUE)]
        subst hw221
        have pre223 : ∀ t, Steps p.tables e below (T221.setTop (mkF m 117 #[iv pi0, iv pi1, iv pi2, iv (0 : Int32), iv (1 : Int32), iv (1 : Int32), rv w_UNRATED, rv w_DUE, rv w_DUE] [(.ref w_DUE)])) t → Go t := fun t kt => pre220 t (st221.trans kt)
        have pre224 : ∀ t, Steps p.tables e below (T221.setTop (mkF m 127 #[iv pi0, iv pi1, iv pi2, iv (0 : Int32), iv (1 : Int32), iv (1 : Int32), rv w_UNRATED, rv w_DUE, rv w_DUE] [(.int (1 : Int32))])) t → Go t := fun t kt => pre223 t (by
            refine y_aload X221.here hx (hb hby at_117) rfl rfl (pc' := 119) rfl ?_
            refine Jvm.RoadKit.acmp (g := (mkF m 119 #[iv pi0, iv pi1, iv pi2, iv (0 : Int32), iv (1 : Int32), iv (1 : Int32), rv w_UNRATED, rv w_DUE, rv w_DUE] [(.ref w_DUE), (.ref w_DUE)])) X221 hx rfl rfl rfl (pc0 := 119) (pc' := 122) (same := true) rfl (hb hby at_119) rfl (decide_eq_true (congrArg Value.ref (rfl : w_DUE = w_DUE))) (by decide) (by decide) ?_
            show Steps p.tables e below (T221.setTop (mkF m 122 #[iv pi0, iv pi1, iv pi2, iv (0 : Int32), iv (1 : Int32), iv (1 : Int32), rv w_UNRATED, rv w_DUE, rv w_DUE] [])) _
            refine y_iconst X221.here hx (hb hby at_122) (v := (1 : Int32)) rfl (pc' := 123) rfl ?_
            refine y_goto X221.here hx (hb hby at_123) (pc' := 127) (by decide) rfl ?_
            exact kt)
        obtain ⟨fs, hr, hrun, hended, hW, hsame⟩ := X221.leave (v := some (.int (1 : Int32))) (fun h => by rw [Bd.returns] at h; cases h)
        refine ⟨_, _, (hGo _).mp (pre224 _ ?_), hrun, hended, _, _, rfl, ?_, ⟨_, rfl⟩, hW, hsame.mono (by decide) (by decide)⟩
        · exact retN X221 hx (t := .boolean) Bd.returns (by simp) (hb hby at_127) hr
        · show Q0 Z pi0 pi1 pi2 w_UNRATED w_DUE w_SETTLED w_NONE h0 n0 _ T221.heap _
          rw [e221q]
          exact ⟨rfl, N222⟩
      · skip
        have pre225 : ∀ t, Steps p.tables e below (s₁.setTop (mkF m 31 #[iv pi0, iv pi1, iv pi2, iv (1 : Int32), iv (1 : Int32), iv (1 : Int32), .unset, .unset, .unset] [(.int (1 : Int32))])) t → Go t := fun t kt => pre207 t (by
            refine y_iloadN X0.here hx (hb hby at_30) rfl (pc' := 31) rfl ?_
            exact kt)
        obtain ⟨v226, _, ⟨T226, L226, k226, n226⟩, -, X226, ⟨Lc226, hQ226, l226, y226, z226⟩, st226⟩ := Jvm.LawKit.callS X0 hx (y := (⟨"com/example/brace/brace/account/FixedRateAfterReservationPinLaw", "pick", "(I)Lcom/example/brace/brace/account/Session$FixedRate;"⟩ : MethodName)) hown (mvT hZ (hw _ (List.mem_of_getElem? (i := 0) rfl))) (mvT hZ (hw _ (List.mem_of_getElem? (i := 1) rfl))) (mvT hZ (hw _ (List.mem_of_getElem? (i := 2) rfl))) (mvT hZ (hw _ (List.mem_of_getElem? (i := 3) rfl))) (by decide) (backOf (W := 0) (rm1 l Z a0 hw [] (1 : Int32) w_UNRATED w_DUE w_SETTLED w_NONE h0 n0 O0 S_UNRATED S_DUE S_SETTLED S_NONE) hZ (hw _ (List.mem_of_getElem? (i := 3) rfl)) (hw _ (List.mem_of_getElem? (i := 2) rfl)) (by decide) (by decide)) (g := (mkF m 31 #[iv pi0, iv pi1, iv pi2, iv (1 : Int32), iv (1 : Int32), iv (1 : Int32), .unset, .unset, .unset] [(.int (1 : Int32))])) rfl (by rw [hml]; rfl) (argsL := [(.int (1 : Int32))]) (rest := []) (lenOf pd__I_Lcom_example_brace_brace_account_Session_FixedRate_ rfl) rfl (by show 2 * 0 + _ ≤ _; exact Nat.le_of_eq rfl) (hb hby at_31) (fun _ _ => ⟨rfl, e0, (by decide : 0 + 0 ≤ _), (by decide : 0 + 0 ≤ _)⟩)
        dsimp only [Pt.U, Pt.locs, Pt.cells, Pt.slots] at X226 l226 y226 z226 st226 hQ226
        subst l226 y226 z226
        obtain ⟨hv226, N226q, e226q⟩ := hQ226
        have N227 := Fr.app N0 N226q
        have hw226 : v226 = some (.ref w_DUE) := by rw [hv226, if_neg (by decide : ¬ ((1 : Int32) = (0 : Int32))), if_pos (rfl : (1 : Int32) = (1 : Int32))]
        subst hw226
        have pre228 : ∀ t, Steps p.tables e below (T226.setTop (mkF m 34 #[iv pi0, iv pi1, iv pi2, iv (1 : Int32), iv (1 : Int32), iv (1 : Int32), .unset, .unset, .unset] [(.ref w_DUE)])) t → Go t := fun t kt => pre225 t (st226 t kt)
        have pre229 : ∀ t, Steps p.tables e below (T226.setTop (mkF m 66 #[iv pi0, iv pi1, iv pi2, iv (1 : Int32), iv (1 : Int32), iv (1 : Int32), rv w_DUE, .unset, .unset] [])) t → Go t := fun t kt => pre228 t (by
            refine y_astore X226.here hx (hb hby at_34) rfl (l' := #[iv pi0, iv pi1, iv pi2, iv (1 : Int32), iv (1 : Int32), iv (1 : Int32), rv w_DUE, .unset, .unset]) rfl (pc' := 36) rfl ?_
            refine y_iloadN X226.here hx (hb hby at_36) rfl (pc' := 37) rfl ?_
            refine y_ifYes X226.here hx (hb hby at_37) ((if0 _ _).trans (feq (by decide : ¬ ((1 : Int32) = (0 : Int32)))).2) (pc' := 61) (by decide) rfl ?_
            refine y_iloadN X226.here hx (hb hby at_61) rfl (pc' := 62) rfl ?_
            refine y_iconst X226.here hx (hb hby at_62) (v := (1 : Int32)) rfl (pc' := 63) rfl ?_
            refine y_icmpNo X226.here hx (hb hby at_63) (teq (rfl : (1 : Int32) = (1 : Int32))).2 (pc' := 66) rfl ?_
            exact kt)
        obtain ⟨T230, X230, e230, st230⟩ := getS2 X226 hx hZ hown (host := "") (Or.inl (hw _ (List.mem_of_getElem? (i := 7) rfl))) Via.refl e226q (S_DUE.ext O0.2) (g := (mkF m 66 #[iv pi0, iv pi1, iv pi2, iv (1 : Int32), iv (1 : Int32), iv (1 : Int32), rv w_DUE, .unset, .unset] [])) rfl (hb hby at_66)
        have pre231 : ∀ t, Steps p.tables e below (T230.setTop (mkF m 69 #[iv pi0, iv pi1, iv pi2, iv (1 : Int32), iv (1 : Int32), iv (1 : Int32), rv w_DUE, .unset, .unset] [(.ref w_DUE)])) t → Go t := fun t kt => pre229 t (st230 t kt)
        have pre232 : ∀ t, Steps p.tables e below (T230.setTop (mkF m 96 #[iv pi0, iv pi1, iv pi2, iv (1 : Int32), iv (1 : Int32), iv (1 : Int32), rv w_DUE, rv w_DUE, .unset] [(.int (1 : Int32)), (.ref w_DUE)])) t → Go t := fun t kt => pre231 t (by
            refine y_astore X230.here hx (hb hby at_69) rfl (l' := #[iv pi0, iv pi1, iv pi2, iv (1 : Int32), iv (1 : Int32), iv (1 : Int32), rv w_DUE, rv w_DUE, .unset]) rfl (pc' := 71) rfl ?_
            refine y_goto X230.here hx (hb hby at_71) (pc' := 92) (by decide) rfl ?_
            refine y_aload X230.here hx (hb hby at_92) rfl rfl (pc' := 94) rfl ?_
            refine y_iload X230.here hx (hb hby at_94) rfl (pc' := 96) rfl ?_
            exact kt)
        obtain ⟨cq233, kq233, q233a, q233b, q233c⟩ := isOf hZ e230 (E_w_DUE.ext O0.2)
        obtain ⟨v233, _, ⟨T233, L233, k233, n233⟩, -, X233, ⟨Lc233, hQ233, l233, y233, z233⟩, st233⟩ := X230.virtualBack hx (y := (⟨"com/example/brace/brace/account/Session$FixedRate", "afterReservation", "(Z)Lcom/example/brace/brace/account/Session$FixedRate;"⟩ : MethodName)) (z := (⟨"com/example/brace/brace/account/Session$FixedRate", "afterReservation", "(Z)Lcom/example/brace/brace/account/Session$FixedRate;"⟩ : MethodName)) hown (mvT hZ (hw _ (List.mem_of_getElem? (i := 9) rfl))) (mvT hZ (hw _ (List.mem_of_getElem? (i := 10) rfl))) (notFace_of_selects (args := #[]) (mvT hZ (hw _ (List.mem_of_getElem? (i := 12) rfl)))) (mvT hZ (hw _ (List.mem_of_getElem? (i := 12) rfl))) (mvT hZ (hw _ (List.mem_of_getElem? (i := 11) rfl))) (by decide) (backOf (W := 0) (rm2 l Z a0 hw [] w_DUE (1 : Int32) w_UNRATED w_DUE w_NONE h0 n0 O0 S_UNRATED S_DUE S_NONE) hZ (hw _ (List.mem_of_getElem? (i := 13) rfl)) (hw _ (List.mem_of_getElem? (i := 5) rfl)) (by decide) (by decide)) q233a q233c (g := (mkF m 96 #[iv pi0, iv pi1, iv pi2, iv (1 : Int32), iv (1 : Int32), iv (1 : Int32), rv w_DUE, rv w_DUE, .unset] [(.int (1 : Int32)), (.ref w_DUE)])) rfl (by rw [hml]; rfl) (Steps.refl _) (argsL := [(.int (1 : Int32))]) (rest := []) (lenOf pd__Z_Lcom_example_brace_brace_account_Session_FixedRate_ rfl) rfl (by show 2 * 0 + _ ≤ _; exact Nat.le_of_eq rfl) (hb hby at_96) (fun _ _ => ⟨rfl, e230, (by decide : 0 + 0 ≤ _), (by decide : 0 + 0 ≤ _)⟩)
        dsimp only [Pt.U, Pt.locs, Pt.cells, Pt.slots] at X233 l233 y233 z233 st233 hQ233
        subst l233 y233 z233
        obtain ⟨hv233, N233q, e233q⟩ := hQ233
        have N234 := Fr.app N227 N233q
        have hw233 : v233 = some (.ref w_DUE) := by rw [hv233, if_neg (Ne.symm ne_UNRATED_DUE)]
        subst hw233
        have pre235 : ∀ t, Steps p.tables e below (T233.setTop (mkF m 99 #[iv pi0, iv pi1, iv pi2, iv (1 : Int32), iv (1 : Int32), iv (1 : Int32), rv w_DUE, rv w_DUE, .unset] [(.ref w_DUE)])) t → Go t := fun t kt => pre232 t (st233.trans kt)
        have pre236 : ∀ t, Steps p.tables e below (T233.setTop (mkF m 114 #[iv pi0, iv pi1, iv pi2, iv (1 : Int32), iv (1 : Int32), iv (1 : Int32), rv w_DUE, rv w_DUE, rv w_DUE] [(.int (1 : Int32)), (.ref w_DUE)])) t → Go t := fun t kt => pre235 t (by
            refine y_astore X233.here hx (hb hby at_99) rfl (l' := #[iv pi0, iv pi1, iv pi2, iv (1 : Int32), iv (1 : Int32), iv (1 : Int32), rv w_DUE, rv w_DUE, rv w_DUE]) rfl (pc' := 101) rfl ?_
            refine y_aload X233.here hx (hb hby at_101) rfl rfl (pc' := 103) rfl ?_
            refine y_aload X233.here hx (hb hby at_103) rfl rfl (pc' := 105) rfl ?_
            refine Jvm.RoadKit.acmp (g := (mkF m 105 #[iv pi0, iv pi1, iv pi2, iv (1 : Int32), iv (1 : Int32), iv (1 : Int32), rv w_DUE, rv w_DUE, rv w_DUE] [(.ref w_DUE), (.ref w_DUE)])) X233 hx rfl rfl rfl (pc0 := 105) (pc' := 110) (same := true) rfl (hb hby at_105) rfl (decide_eq_true (congrArg Value.ref (rfl : w_DUE = w_DUE))) (by decide) (by decide) ?_
            show Steps p.tables e below (T233.setTop (mkF m 110 #[iv pi0, iv pi1, iv pi2, iv (1 : Int32), iv (1 : Int32), iv (1 : Int32), rv w_DUE, rv w_DUE, rv w_DUE] [])) _
            refine y_aload X233.here hx (hb hby at_110) rfl rfl (pc' := 112) rfl ?_
            refine y_iload X233.here hx (hb hby at_112) rfl (pc' := 114) rfl ?_
            exact kt)
        obtain ⟨cq237, kq237, q237a, q237b, q237c⟩ := isOf hZ e233q (E_w_DUE.ext O0.2)
        obtain ⟨v237, _, ⟨T237, L237, k237, n237⟩, -, X237, ⟨Lc237, hQ237, l237, y237, z237⟩, st237⟩ := X233.virtualBack hx (y := (⟨"com/example/brace/brace/account/Session$FixedRate", "afterReservation", "(Z)Lcom/example/brace/brace/account/Session$FixedRate;"⟩ : MethodName)) (z := (⟨"com/example/brace/brace/account/Session$FixedRate", "afterReservation", "(Z)Lcom/example/brace/brace/account/Session$FixedRate;"⟩ : MethodName)) hown (mvT hZ (hw _ (List.mem_of_getElem? (i := 9) rfl))) (mvT hZ (hw _ (List.mem_of_getElem? (i := 10) rfl))) (notFace_of_selects (args := #[]) (mvT hZ (hw _ (List.mem_of_getElem? (i := 12) rfl)))) (mvT hZ (hw _ (List.mem_of_getElem? (i := 12) rfl))) (mvT hZ (hw _ (List.mem_of_getElem? (i := 11) rfl))) (by decide) (backOf (W := 0) (rm2 l Z a0 hw [] w_DUE (1 : Int32) w_UNRATED w_DUE w_NONE h0 n0 O0 S_UNRATED S_DUE S_NONE) hZ (hw _ (List.mem_of_getElem? (i := 13) rfl)) (hw _ (List.mem_of_getElem? (i := 5) rfl)) (by decide) (by decide)) q237a q237c (g := (mkF m 114 #[iv pi0, iv pi1, iv pi2, iv (1 : Int32), iv (1 : Int32), iv (1 : Int32), rv w_DUE, rv w_DUE, rv w_DUE] [(.int (1 : Int32)), (.ref w_DUE)])) rfl (by rw [hml]; rfl) (Steps.refl _) (argsL := [(.int (1 : Int32))]) (rest := []) (lenOf pd__Z_Lcom_example_brace_brace_account_Session_FixedRate_ rfl) rfl (by show 2 * 0 + _ ≤ _; exact Nat.le_of_eq rfl) (hb hby at_114) (fun _ _ => ⟨rfl, e233q, (by decide : 0 + 0 ≤ _), (by decide : 0 + 0 ≤ _)⟩)
        dsimp only [Pt.U, Pt.locs, Pt.cells, Pt.slots] at X237 l237 y237 z237 st237 hQ237
        subst l237 y237 z237
        obtain ⟨hv237, N237q, e237q⟩ := hQ237
        have N238 := Fr.app N234 N237q
        have hw237 : v237 = some (.ref w_DUE) := by rw [hv237, if_neg (Ne.symm ne_UNRATED_DUE)]
        subst hw237
        have pre239 : ∀ t, Steps p.tables e below (T237.setTop (mkF m 117 #[iv pi0, iv pi1, iv pi2, iv (1 : Int32), iv (1 : Int32), iv (1 : Int32), rv w_DUE, rv w_DUE, rv w_DUE] [(.ref w_DUE)])) t → Go t := fun t kt => pre236 t (st237.trans kt)
        have pre240 : ∀ t, Steps p.tables e below (T237.setTop (mkF m 127 #[iv pi0, iv pi1, iv pi2, iv (1 : Int32), iv (1 : Int32), iv (1 : Int32), rv w_DUE, rv w_DUE, rv w_DUE] [(.int (1 : Int32))])) t → Go t := fun t kt => pre239 t (by
            refine y_aload X237.here hx (hb hby at_117) rfl rfl (pc' := 119) rfl ?_
            refine Jvm.RoadKit.acmp (g := (mkF m 119 #[iv pi0, iv pi1, iv pi2, iv (1 : Int32), iv (1 : Int32), iv (1 : Int32), rv w_DUE, rv w_DUE, rv w_DUE] [(.ref w_DUE), (.ref w_DUE)])) X237 hx rfl rfl rfl (pc0 := 119) (pc' := 122) (same := true) rfl (hb hby at_119) rfl (decide_eq_true (congrArg Value.ref (rfl : w_DUE = w_DUE))) (by decide) (by decide) ?_
            show Steps p.tables e below (T237.setTop (mkF m 122 #[iv pi0, iv pi1, iv pi2, iv (1 : Int32), iv (1 : Int32), iv (1 : Int32), rv w_DUE, rv w_DUE, rv w_DUE] [])) _
            refine y_iconst X237.here hx (hb hby at_122) (v := (1 : Int32)) rfl (pc' := 123) rfl ?_
            refine y_goto X237.here hx (hb hby at_123) (pc' := 127) (by decide) rfl ?_
            exact kt)
        obtain ⟨fs, hr, hrun, hended, hW, hsame⟩ := X237.leave (v := some (.int (1 : Int32))) (fun h => by rw [Bd.returns] at h; cases h)
        refine ⟨_, _, (hGo _).mp (pre240 _ ?_), hrun, hended, _, _, rfl, ?_, ⟨_, rfl⟩, hW, hsame.mono (by decide) (by decide)⟩
        · exact retN X237 hx (t := .boolean) Bd.returns (by simp) (hb hby at_127) hr
        · show Q0 Z pi0 pi1 pi2 w_UNRATED w_DUE w_SETTLED w_NONE h0 n0 _ T237.heap _
          rw [e237q]
          exact ⟨rfl, N238⟩
      · skip
        have pre241 : ∀ t, Steps p.tables e below (s₁.setTop (mkF m 31 #[iv pi0, iv pi1, iv pi2, iv (2 : Int32), iv (1 : Int32), iv (1 : Int32), .unset, .unset, .unset] [(.int (2 : Int32))])) t → Go t := fun t kt => pre207 t (by
            refine y_iloadN X0.here hx (hb hby at_30) rfl (pc' := 31) rfl ?_
            exact kt)
        obtain ⟨v242, _, ⟨T242, L242, k242, n242⟩, -, X242, ⟨Lc242, hQ242, l242, y242, z242⟩, st242⟩ := Jvm.LawKit.callS X0 hx (y := (⟨"com/example/brace/brace/account/FixedRateAfterReservationPinLaw", "pick", "(I)Lcom/example/brace/brace/account/Session$FixedRate;"⟩ : MethodName)) hown (mvT hZ (hw _ (List.mem_of_getElem? (i := 0) rfl))) (mvT hZ (hw _ (List.mem_of_getElem? (i := 1) rfl))) (mvT hZ (hw _ (List.mem_of_getElem? (i := 2) rfl))) (mvT hZ (hw _ (List.mem_of_getElem? (i := 3) rfl))) (by decide) (backOf (W := 0) (rm1 l Z a0 hw [] (2 : Int32) w_UNRATED w_DUE w_SETTLED w_NONE h0 n0 O0 S_UNRATED S_DUE S_SETTLED S_NONE) hZ (hw _ (List.mem_of_getElem? (i := 3) rfl)) (hw _ (List.mem_of_getElem? (i := 2) rfl)) (by decide) (by decide)) (g := (mkF m 31 #[iv pi0, iv pi1, iv pi2, iv (2 : Int32), iv (1 : Int32), iv (1 : Int32), .unset, .unset, .unset] [(.int (2 : Int32))])) rfl (by rw [hml]; rfl) (argsL := [(.int (2 : Int32))]) (rest := []) (lenOf pd__I_Lcom_example_brace_brace_account_Session_FixedRate_ rfl) rfl (by show 2 * 0 + _ ≤ _; exact Nat.le_of_eq rfl) (hb hby at_31) (fun _ _ => ⟨rfl, e0, (by decide : 0 + 0 ≤ _), (by decide : 0 + 0 ≤ _)⟩)
        dsimp only [Pt.U, Pt.locs, Pt.cells, Pt.slots] at X242 l242 y242 z242 st242 hQ242
        subst l242 y242 z242
        obtain ⟨hv242, N242q, e242q⟩ := hQ242
        have N243 := Fr.app N0 N242q
        have hw242 : v242 = some (.ref w_SETTLED) := by rw [hv242, if_neg (by decide : ¬ ((2 : Int32) = (0 : Int32))), if_neg (by decide : ¬ ((2 : Int32) = (1 : Int32))), if_pos (rfl : (2 : Int32) = (2 : Int32))]
        subst hw242
        have pre244 : ∀ t, Steps p.tables e below (T242.setTop (mkF m 34 #[iv pi0, iv pi1, iv pi2, iv (2 : Int32), iv (1 : Int32), iv (1 : Int32), .unset, .unset, .unset] [(.ref w_SETTLED)])) t → Go t := fun t kt => pre241 t (st242 t kt)
        have pre245 : ∀ t, Steps p.tables e below (T242.setTop (mkF m 79 #[iv pi0, iv pi1, iv pi2, iv (2 : Int32), iv (1 : Int32), iv (1 : Int32), rv w_SETTLED, .unset, .unset] [])) t → Go t := fun t kt => pre244 t (by
            refine y_astore X242.here hx (hb hby at_34) rfl (l' := #[iv pi0, iv pi1, iv pi2, iv (2 : Int32), iv (1 : Int32), iv (1 : Int32), rv w_SETTLED, .unset, .unset]) rfl (pc' := 36) rfl ?_
            refine y_iloadN X242.here hx (hb hby at_36) rfl (pc' := 37) rfl ?_
            refine y_ifYes X242.here hx (hb hby at_37) ((if0 _ _).trans (feq (by decide : ¬ ((2 : Int32) = (0 : Int32)))).2) (pc' := 61) (by decide) rfl ?_
            refine y_iloadN X242.here hx (hb hby at_61) rfl (pc' := 62) rfl ?_
            refine y_iconst X242.here hx (hb hby at_62) (v := (1 : Int32)) rfl (pc' := 63) rfl ?_
            refine y_icmpYes X242.here hx (hb hby at_63) (feq (by decide : ¬ ((2 : Int32) = (1 : Int32)))).2 (pc' := 74) (by decide) rfl ?_
            refine y_iloadN X242.here hx (hb hby at_74) rfl (pc' := 75) rfl ?_
            refine y_iconst X242.here hx (hb hby at_75) (v := (2 : Int32)) rfl (pc' := 76) rfl ?_
            refine y_icmpNo X242.here hx (hb hby at_76) (teq (rfl : (2 : Int32) = (2 : Int32))).2 (pc' := 79) rfl ?_
            exact kt)
        obtain ⟨T246, X246, e246, st246⟩ := getS2 X242 hx hZ hown (host := "") (Or.inl (hw _ (List.mem_of_getElem? (i := 19) rfl))) Via.refl e242q (S_SETTLED.ext O0.2) (g := (mkF m 79 #[iv pi0, iv pi1, iv pi2, iv (2 : Int32), iv (1 : Int32), iv (1 : Int32), rv w_SETTLED, .unset, .unset] [])) rfl (hb hby at_79)
        have pre247 : ∀ t, Steps p.tables e below (T246.setTop (mkF m 82 #[iv pi0, iv pi1, iv pi2, iv (2 : Int32), iv (1 : Int32), iv (1 : Int32), rv w_SETTLED, .unset, .unset] [(.ref w_SETTLED)])) t → Go t := fun t kt => pre245 t (st246 t kt)
        have pre248 : ∀ t, Steps p.tables e below (T246.setTop (mkF m 96 #[iv pi0, iv pi1, iv pi2, iv (2 : Int32), iv (1 : Int32), iv (1 : Int32), rv w_SETTLED, rv w_SETTLED, .unset] [(.int (1 : Int32)), (.ref w_SETTLED)])) t → Go t := fun t kt => pre247 t (by
            refine y_astore X246.here hx (hb hby at_82) rfl (l' := #[iv pi0, iv pi1, iv pi2, iv (2 : Int32), iv (1 : Int32), iv (1 : Int32), rv w_SETTLED, rv w_SETTLED, .unset]) rfl (pc' := 84) rfl ?_
            refine y_goto X246.here hx (hb hby at_84) (pc' := 92) (by decide) rfl ?_
            refine y_aload X246.here hx (hb hby at_92) rfl rfl (pc' := 94) rfl ?_
            refine y_iload X246.here hx (hb hby at_94) rfl (pc' := 96) rfl ?_
            exact kt)
        obtain ⟨cq249, kq249, q249a, q249b, q249c⟩ := isOf hZ e246 (E_w_SETTLED.ext O0.2)
        obtain ⟨v249, _, ⟨T249, L249, k249, n249⟩, -, X249, ⟨Lc249, hQ249, l249, y249, z249⟩, st249⟩ := X246.virtualBack hx (y := (⟨"com/example/brace/brace/account/Session$FixedRate", "afterReservation", "(Z)Lcom/example/brace/brace/account/Session$FixedRate;"⟩ : MethodName)) (z := (⟨"com/example/brace/brace/account/Session$FixedRate", "afterReservation", "(Z)Lcom/example/brace/brace/account/Session$FixedRate;"⟩ : MethodName)) hown (mvT hZ (hw _ (List.mem_of_getElem? (i := 9) rfl))) (mvT hZ (hw _ (List.mem_of_getElem? (i := 10) rfl))) (notFace_of_selects (args := #[]) (mvT hZ (hw _ (List.mem_of_getElem? (i := 12) rfl)))) (mvT hZ (hw _ (List.mem_of_getElem? (i := 12) rfl))) (mvT hZ (hw _ (List.mem_of_getElem? (i := 11) rfl))) (by decide) (backOf (W := 0) (rm2 l Z a0 hw [] w_SETTLED (1 : Int32) w_UNRATED w_DUE w_NONE h0 n0 O0 S_UNRATED S_DUE S_NONE) hZ (hw _ (List.mem_of_getElem? (i := 13) rfl)) (hw _ (List.mem_of_getElem? (i := 5) rfl)) (by decide) (by decide)) q249a q249c (g := (mkF m 96 #[iv pi0, iv pi1, iv pi2, iv (2 : Int32), iv (1 : Int32), iv (1 : Int32), rv w_SETTLED, rv w_SETTLED, .unset] [(.int (1 : Int32)), (.ref w_SETTLED)])) rfl (by rw [hml]; rfl) (Steps.refl _) (argsL := [(.int (1 : Int32))]) (rest := []) (lenOf pd__Z_Lcom_example_brace_brace_account_Session_FixedRate_ rfl) rfl (by show 2 * 0 + _ ≤ _; exact Nat.le_of_eq rfl) (hb hby at_96) (fun _ _ => ⟨rfl, e246, (by decide : 0 + 0 ≤ _), (by decide : 0 + 0 ≤ _)⟩)
        dsimp only [Pt.U, Pt.locs, Pt.cells, Pt.slots] at X249 l249 y249 z249 st249 hQ249
        subst l249 y249 z249
        obtain ⟨hv249, N249q, e249q⟩ := hQ249
        have N250 := Fr.app N243 N249q
        have hw249 : v249 = some (.ref w_SETTLED) := by rw [hv249, if_neg (Ne.symm ne_UNRATED_SETTLED)]
        subst hw249
        have pre251 : ∀ t, Steps p.tables e below (T249.setTop (mkF m 99 #[iv pi0, iv pi1, iv pi2, iv (2 : Int32), iv (1 : Int32), iv (1 : Int32), rv w_SETTLED, rv w_SETTLED, .unset] [(.ref w_SETTLED)])) t → Go t := fun t kt => pre248 t (st249.trans kt)
        have pre252 : ∀ t, Steps p.tables e below (T249.setTop (mkF m 114 #[iv pi0, iv pi1, iv pi2, iv (2 : Int32), iv (1 : Int32), iv (1 : Int32), rv w_SETTLED, rv w_SETTLED, rv w_SETTLED] [(.int (1 : Int32)), (.ref w_SETTLED)])) t → Go t := fun t kt => pre251 t (by
            refine y_astore X249.here hx (hb hby at_99) rfl (l' := #[iv pi0, iv pi1, iv pi2, iv (2 : Int32), iv (1 : Int32), iv (1 : Int32), rv w_SETTLED, rv w_SETTLED, rv w_SETTLED]) rfl (pc' := 101) rfl ?_
            refine y_aload X249.here hx (hb hby at_101) rfl rfl (pc' := 103) rfl ?_
            refine y_aload X249.here hx (hb hby at_103) rfl rfl (pc' := 105) rfl ?_
            refine Jvm.RoadKit.acmp (g := (mkF m 105 #[iv pi0, iv pi1, iv pi2, iv (2 : Int32), iv (1 : Int32), iv (1 : Int32), rv w_SETTLED, rv w_SETTLED, rv w_SETTLED] [(.ref w_SETTLED), (.ref w_SETTLED)])) X249 hx rfl rfl rfl (pc0 := 105) (pc' := 110) (same := true) rfl (hb hby at_105) rfl (decide_eq_true (congrArg Value.ref (rfl : w_SETTLED = w_SETTLED))) (by decide) (by decide) ?_
            show Steps p.tables e below (T249.setTop (mkF m 110 #[iv pi0, iv pi1, iv pi2, iv (2 : Int32), iv (1 : Int32), iv (1 : Int32), rv w_SETTLED, rv w_SETTLED, rv w_SETTLED] [])) _
            refine y_aload X249.here hx (hb hby at_110) rfl rfl (pc' := 112) rfl ?_
            refine y_iload X249.here hx (hb hby at_112) rfl (pc' := 114) rfl ?_
            exact kt)
        obtain ⟨cq253, kq253, q253a, q253b, q253c⟩ := isOf hZ e249q (E_w_SETTLED.ext O0.2)
        obtain ⟨v253, _, ⟨T253, L253, k253, n253⟩, -, X253, ⟨Lc253, hQ253, l253, y253, z253⟩, st253⟩ := X249.virtualBack hx (y := (⟨"com/example/brace/brace/account/Session$FixedRate", "afterReservation", "(Z)Lcom/example/brace/brace/account/Session$FixedRate;"⟩ : MethodName)) (z := (⟨"com/example/brace/brace/account/Session$FixedRate", "afterReservation", "(Z)Lcom/example/brace/brace/account/Session$FixedRate;"⟩ : MethodName)) hown (mvT hZ (hw _ (List.mem_of_getElem? (i := 9) rfl))) (mvT hZ (hw _ (List.mem_of_getElem? (i := 10) rfl))) (notFace_of_selects (args := #[]) (mvT hZ (hw _ (List.mem_of_getElem? (i := 12) rfl)))) (mvT hZ (hw _ (List.mem_of_getElem? (i := 12) rfl))) (mvT hZ (hw _ (List.mem_of_getElem? (i := 11) rfl))) (by decide) (backOf (W := 0) (rm2 l Z a0 hw [] w_SETTLED (1 : Int32) w_UNRATED w_DUE w_NONE h0 n0 O0 S_UNRATED S_DUE S_NONE) hZ (hw _ (List.mem_of_getElem? (i := 13) rfl)) (hw _ (List.mem_of_getElem? (i := 5) rfl)) (by decide) (by decide)) q253a q253c (g := (mkF m 114 #[iv pi0, iv pi1, iv pi2, iv (2 : Int32), iv (1 : Int32), iv (1 : Int32), rv w_SETTLED, rv w_SETTLED, rv w_SETTLED] [(.int (1 : Int32)), (.ref w_SETTLED)])) rfl (by rw [hml]; rfl) (Steps.refl _) (argsL := [(.int (1 : Int32))]) (rest := []) (lenOf pd__Z_Lcom_example_brace_brace_account_Session_FixedRate_ rfl) rfl (by show 2 * 0 + _ ≤ _; exact Nat.le_of_eq rfl) (hb hby at_114) (fun _ _ => ⟨rfl, e249q, (by decide : 0 + 0 ≤ _), (by decide : 0 + 0 ≤ _)⟩)
        dsimp only [Pt.U, Pt.locs, Pt.cells, Pt.slots] at X253 l253 y253 z253 st253 hQ253
        subst l253 y253 z253
        obtain ⟨hv253, N253q, e253q⟩ := hQ253
        have N254 := Fr.app N250 N253q
        have hw253 : v253 = some (.ref w_SETTLED) := by rw [hv253, if_neg (Ne.symm ne_UNRATED_SETTLED)]
        subst hw253
        have pre255 : ∀ t, Steps p.tables e below (T253.setTop (mkF m 117 #[iv pi0, iv pi1, iv pi2, iv (2 : Int32), iv (1 : Int32), iv (1 : Int32), rv w_SETTLED, rv w_SETTLED, rv w_SETTLED] [(.ref w_SETTLED)])) t → Go t := fun t kt => pre252 t (st253.trans kt)
        have pre256 : ∀ t, Steps p.tables e below (T253.setTop (mkF m 127 #[iv pi0, iv pi1, iv pi2, iv (2 : Int32), iv (1 : Int32), iv (1 : Int32), rv w_SETTLED, rv w_SETTLED, rv w_SETTLED] [(.int (1 : Int32))])) t → Go t := fun t kt => pre255 t (by
            refine y_aload X253.here hx (hb hby at_117) rfl rfl (pc' := 119) rfl ?_
            refine Jvm.RoadKit.acmp (g := (mkF m 119 #[iv pi0, iv pi1, iv pi2, iv (2 : Int32), iv (1 : Int32), iv (1 : Int32), rv w_SETTLED, rv w_SETTLED, rv w_SETTLED] [(.ref w_SETTLED), (.ref w_SETTLED)])) X253 hx rfl rfl rfl (pc0 := 119) (pc' := 122) (same := true) rfl (hb hby at_119) rfl (decide_eq_true (congrArg Value.ref (rfl : w_SETTLED = w_SETTLED))) (by decide) (by decide) ?_
            show Steps p.tables e below (T253.setTop (mkF m 122 #[iv pi0, iv pi1, iv pi2, iv (2 : Int32), iv (1 : Int32), iv (1 : Int32), rv w_SETTLED, rv w_SETTLED, rv w_SETTLED] [])) _
            refine y_iconst X253.here hx (hb hby at_122) (v := (1 : Int32)) rfl (pc' := 123) rfl ?_
            refine y_goto X253.here hx (hb hby at_123) (pc' := 127) (by decide) rfl ?_
            exact kt)
        obtain ⟨fs, hr, hrun, hended, hW, hsame⟩ := X253.leave (v := some (.int (1 : Int32))) (fun h => by rw [Bd.returns] at h; cases h)
        refine ⟨_, _, (hGo _).mp (pre256 _ ?_), hrun, hended, _, _, rfl, ?_, ⟨_, rfl⟩, hW, hsame.mono (by decide) (by decide)⟩
        · exact retN X253 hx (t := .boolean) Bd.returns (by simp) (hb hby at_127) hr
        · show Q0 Z pi0 pi1 pi2 w_UNRATED w_DUE w_SETTLED w_NONE h0 n0 _ T253.heap _
          rw [e253q]
          exact ⟨rfl, N254⟩
      · skip
        have pre257 : ∀ t, Steps p.tables e below (s₁.setTop (mkF m 31 #[iv pi0, iv pi1, iv pi2, iv (3 : Int32), iv (1 : Int32), iv (1 : Int32), .unset, .unset, .unset] [(.int (3 : Int32))])) t → Go t := fun t kt => pre207 t (by
            refine y_iloadN X0.here hx (hb hby at_30) rfl (pc' := 31) rfl ?_
            exact kt)
        obtain ⟨v258, _, ⟨T258, L258, k258, n258⟩, -, X258, ⟨Lc258, hQ258, l258, y258, z258⟩, st258⟩ := Jvm.LawKit.callS X0 hx (y := (⟨"com/example/brace/brace/account/FixedRateAfterReservationPinLaw", "pick", "(I)Lcom/example/brace/brace/account/Session$FixedRate;"⟩ : MethodName)) hown (mvT hZ (hw _ (List.mem_of_getElem? (i := 0) rfl))) (mvT hZ (hw _ (List.mem_of_getElem? (i := 1) rfl))) (mvT hZ (hw _ (List.mem_of_getElem? (i := 2) rfl))) (mvT hZ (hw _ (List.mem_of_getElem? (i := 3) rfl))) (by decide) (backOf (W := 0) (rm1 l Z a0 hw [] (3 : Int32) w_UNRATED w_DUE w_SETTLED w_NONE h0 n0 O0 S_UNRATED S_DUE S_SETTLED S_NONE) hZ (hw _ (List.mem_of_getElem? (i := 3) rfl)) (hw _ (List.mem_of_getElem? (i := 2) rfl)) (by decide) (by decide)) (g := (mkF m 31 #[iv pi0, iv pi1, iv pi2, iv (3 : Int32), iv (1 : Int32), iv (1 : Int32), .unset, .unset, .unset] [(.int (3 : Int32))])) rfl (by rw [hml]; rfl) (argsL := [(.int (3 : Int32))]) (rest := []) (lenOf pd__I_Lcom_example_brace_brace_account_Session_FixedRate_ rfl) rfl (by show 2 * 0 + _ ≤ _; exact Nat.le_of_eq rfl) (hb hby at_31) (fun _ _ => ⟨rfl, e0, (by decide : 0 + 0 ≤ _), (by decide : 0 + 0 ≤ _)⟩)
        dsimp only [Pt.U, Pt.locs, Pt.cells, Pt.slots] at X258 l258 y258 z258 st258 hQ258
        subst l258 y258 z258
        obtain ⟨hv258, N258q, e258q⟩ := hQ258
        have N259 := Fr.app N0 N258q
        have hw258 : v258 = some (.ref w_NONE) := by rw [hv258, if_neg (by decide : ¬ ((3 : Int32) = (0 : Int32))), if_neg (by decide : ¬ ((3 : Int32) = (1 : Int32))), if_neg (by decide : ¬ ((3 : Int32) = (2 : Int32)))]
        subst hw258
        have pre260 : ∀ t, Steps p.tables e below (T258.setTop (mkF m 34 #[iv pi0, iv pi1, iv pi2, iv (3 : Int32), iv (1 : Int32), iv (1 : Int32), .unset, .unset, .unset] [(.ref w_NONE)])) t → Go t := fun t kt => pre257 t (st258 t kt)
        have pre261 : ∀ t, Steps p.tables e below (T258.setTop (mkF m 87 #[iv pi0, iv pi1, iv pi2, iv (3 : Int32), iv (1 : Int32), iv (1 : Int32), rv w_NONE, .unset, .unset] [])) t → Go t := fun t kt => pre260 t (by
            refine y_astore X258.here hx (hb hby at_34) rfl (l' := #[iv pi0, iv pi1, iv pi2, iv (3 : Int32), iv (1 : Int32), iv (1 : Int32), rv w_NONE, .unset, .unset]) rfl (pc' := 36) rfl ?_
            refine y_iloadN X258.here hx (hb hby at_36) rfl (pc' := 37) rfl ?_
            refine y_ifYes X258.here hx (hb hby at_37) ((if0 _ _).trans (feq (by decide : ¬ ((3 : Int32) = (0 : Int32)))).2) (pc' := 61) (by decide) rfl ?_
            refine y_iloadN X258.here hx (hb hby at_61) rfl (pc' := 62) rfl ?_
            refine y_iconst X258.here hx (hb hby at_62) (v := (1 : Int32)) rfl (pc' := 63) rfl ?_
            refine y_icmpYes X258.here hx (hb hby at_63) (feq (by decide : ¬ ((3 : Int32) = (1 : Int32)))).2 (pc' := 74) (by decide) rfl ?_
            refine y_iloadN X258.here hx (hb hby at_74) rfl (pc' := 75) rfl ?_
            refine y_iconst X258.here hx (hb hby at_75) (v := (2 : Int32)) rfl (pc' := 76) rfl ?_
            refine y_icmpYes X258.here hx (hb hby at_76) (feq (by decide : ¬ ((3 : Int32) = (2 : Int32)))).2 (pc' := 87) (by decide) rfl ?_
            exact kt)
        obtain ⟨T262, X262, e262, st262⟩ := getS2 X258 hx hZ hown (host := "") (Or.inl (hw _ (List.mem_of_getElem? (i := 16) rfl))) Via.refl e258q (S_NONE.ext O0.2) (g := (mkF m 87 #[iv pi0, iv pi1, iv pi2, iv (3 : Int32), iv (1 : Int32), iv (1 : Int32), rv w_NONE, .unset, .unset] [])) rfl (hb hby at_87)
        have pre263 : ∀ t, Steps p.tables e below (T262.setTop (mkF m 90 #[iv pi0, iv pi1, iv pi2, iv (3 : Int32), iv (1 : Int32), iv (1 : Int32), rv w_NONE, .unset, .unset] [(.ref w_NONE)])) t → Go t := fun t kt => pre261 t (st262 t kt)
        have pre264 : ∀ t, Steps p.tables e below (T262.setTop (mkF m 96 #[iv pi0, iv pi1, iv pi2, iv (3 : Int32), iv (1 : Int32), iv (1 : Int32), rv w_NONE, rv w_NONE, .unset] [(.int (1 : Int32)), (.ref w_NONE)])) t → Go t := fun t kt => pre263 t (by
            refine y_astore X262.here hx (hb hby at_90) rfl (l' := #[iv pi0, iv pi1, iv pi2, iv (3 : Int32), iv (1 : Int32), iv (1 : Int32), rv w_NONE, rv w_NONE, .unset]) rfl (pc' := 92) rfl ?_
            refine y_aload X262.here hx (hb hby at_92) rfl rfl (pc' := 94) rfl ?_
            refine y_iload X262.here hx (hb hby at_94) rfl (pc' := 96) rfl ?_
            exact kt)
        obtain ⟨cq265, kq265, q265a, q265b, q265c⟩ := isOf hZ e262 (E_w_NONE.ext O0.2)
        obtain ⟨v265, _, ⟨T265, L265, k265, n265⟩, -, X265, ⟨Lc265, hQ265, l265, y265, z265⟩, st265⟩ := X262.virtualBack hx (y := (⟨"com/example/brace/brace/account/Session$FixedRate", "afterReservation", "(Z)Lcom/example/brace/brace/account/Session$FixedRate;"⟩ : MethodName)) (z := (⟨"com/example/brace/brace/account/Session$FixedRate", "afterReservation", "(Z)Lcom/example/brace/brace/account/Session$FixedRate;"⟩ : MethodName)) hown (mvT hZ (hw _ (List.mem_of_getElem? (i := 9) rfl))) (mvT hZ (hw _ (List.mem_of_getElem? (i := 10) rfl))) (notFace_of_selects (args := #[]) (mvT hZ (hw _ (List.mem_of_getElem? (i := 12) rfl)))) (mvT hZ (hw _ (List.mem_of_getElem? (i := 12) rfl))) (mvT hZ (hw _ (List.mem_of_getElem? (i := 11) rfl))) (by decide) (backOf (W := 0) (rm2 l Z a0 hw [] w_NONE (1 : Int32) w_UNRATED w_DUE w_NONE h0 n0 O0 S_UNRATED S_DUE S_NONE) hZ (hw _ (List.mem_of_getElem? (i := 13) rfl)) (hw _ (List.mem_of_getElem? (i := 5) rfl)) (by decide) (by decide)) q265a q265c (g := (mkF m 96 #[iv pi0, iv pi1, iv pi2, iv (3 : Int32), iv (1 : Int32), iv (1 : Int32), rv w_NONE, rv w_NONE, .unset] [(.int (1 : Int32)), (.ref w_NONE)])) rfl (by rw [hml]; rfl) (Steps.refl _) (argsL := [(.int (1 : Int32))]) (rest := []) (lenOf pd__Z_Lcom_example_brace_brace_account_Session_FixedRate_ rfl) rfl (by show 2 * 0 + _ ≤ _; exact Nat.le_of_eq rfl) (hb hby at_96) (fun _ _ => ⟨rfl, e262, (by decide : 0 + 0 ≤ _), (by decide : 0 + 0 ≤ _)⟩)
        dsimp only [Pt.U, Pt.locs, Pt.cells, Pt.slots] at X265 l265 y265 z265 st265 hQ265
        subst l265 y265 z265
        obtain ⟨hv265, N265q, e265q⟩ := hQ265
        have N266 := Fr.app N259 N265q
        have hw265 : v265 = some (.ref w_NONE) := by rw [hv265, if_neg (Ne.symm ne_UNRATED_NONE)]
        subst hw265
        have pre267 : ∀ t, Steps p.tables e below (T265.setTop (mkF m 99 #[iv pi0, iv pi1, iv pi2, iv (3 : Int32), iv (1 : Int32), iv (1 : Int32), rv w_NONE, rv w_NONE, .unset] [(.ref w_NONE)])) t → Go t := fun t kt => pre264 t (st265.trans kt)
        have pre268 : ∀ t, Steps p.tables e below (T265.setTop (mkF m 114 #[iv pi0, iv pi1, iv pi2, iv (3 : Int32), iv (1 : Int32), iv (1 : Int32), rv w_NONE, rv w_NONE, rv w_NONE] [(.int (1 : Int32)), (.ref w_NONE)])) t → Go t := fun t kt => pre267 t (by
            refine y_astore X265.here hx (hb hby at_99) rfl (l' := #[iv pi0, iv pi1, iv pi2, iv (3 : Int32), iv (1 : Int32), iv (1 : Int32), rv w_NONE, rv w_NONE, rv w_NONE]) rfl (pc' := 101) rfl ?_
            refine y_aload X265.here hx (hb hby at_101) rfl rfl (pc' := 103) rfl ?_
            refine y_aload X265.here hx (hb hby at_103) rfl rfl (pc' := 105) rfl ?_
            refine Jvm.RoadKit.acmp (g := (mkF m 105 #[iv pi0, iv pi1, iv pi2, iv (3 : Int32), iv (1 : Int32), iv (1 : Int32), rv w_NONE, rv w_NONE, rv w_NONE] [(.ref w_NONE), (.ref w_NONE)])) X265 hx rfl rfl rfl (pc0 := 105) (pc' := 110) (same := true) rfl (hb hby at_105) rfl (decide_eq_true (congrArg Value.ref (rfl : w_NONE = w_NONE))) (by decide) (by decide) ?_
            show Steps p.tables e below (T265.setTop (mkF m 110 #[iv pi0, iv pi1, iv pi2, iv (3 : Int32), iv (1 : Int32), iv (1 : Int32), rv w_NONE, rv w_NONE, rv w_NONE] [])) _
            refine y_aload X265.here hx (hb hby at_110) rfl rfl (pc' := 112) rfl ?_
            refine y_iload X265.here hx (hb hby at_112) rfl (pc' := 114) rfl ?_
            exact kt)
        obtain ⟨cq269, kq269, q269a, q269b, q269c⟩ := isOf hZ e265q (E_w_NONE.ext O0.2)
        obtain ⟨v269, _, ⟨T269, L269, k269, n269⟩, -, X269, ⟨Lc269, hQ269, l269, y269, z269⟩, st269⟩ := X265.virtualBack hx (y := (⟨"com/example/brace/brace/account/Session$FixedRate", "afterReservation", "(Z)Lcom/example/brace/brace/account/Session$FixedRate;"⟩ : MethodName)) (z := (⟨"com/example/brace/brace/account/Session$FixedRate", "afterReservation", "(Z)Lcom/example/brace/brace/account/Session$FixedRate;"⟩ : MethodName)) hown (mvT hZ (hw _ (List.mem_of_getElem? (i := 9) rfl))) (mvT hZ (hw _ (List.mem_of_getElem? (i := 10) rfl))) (notFace_of_selects (args := #[]) (mvT hZ (hw _ (List.mem_of_getElem? (i := 12) rfl)))) (mvT hZ (hw _ (List.mem_of_getElem? (i := 12) rfl))) (mvT hZ (hw _ (List.mem_of_getElem? (i := 11) rfl))) (by decide) (backOf (W := 0) (rm2 l Z a0 hw [] w_NONE (1 : Int32) w_UNRATED w_DUE w_NONE h0 n0 O0 S_UNRATED S_DUE S_NONE) hZ (hw _ (List.mem_of_getElem? (i := 13) rfl)) (hw _ (List.mem_of_getElem? (i := 5) rfl)) (by decide) (by decide)) q269a q269c (g := (mkF m 114 #[iv pi0, iv pi1, iv pi2, iv (3 : Int32), iv (1 : Int32), iv (1 : Int32), rv w_NONE, rv w_NONE, rv w_NONE] [(.int (1 : Int32)), (.ref w_NONE)])) rfl (by rw [hml]; rfl) (Steps.refl _) (argsL := [(.int (1 : Int32))]) (rest := []) (lenOf pd__Z_Lcom_example_brace_brace_account_Session_FixedRate_ rfl) rfl (by show 2 * 0 + _ ≤ _; exact Nat.le_of_eq rfl) (hb hby at_114) (fun _ _ => ⟨rfl, e265q, (by decide : 0 + 0 ≤ _), (by decide : 0 + 0 ≤ _)⟩)
        dsimp only [Pt.U, Pt.locs, Pt.cells, Pt.slots] at X269 l269 y269 z269 st269 hQ269
        subst l269 y269 z269
        obtain ⟨hv269, N269q, e269q⟩ := hQ269
        have N270 := Fr.app N266 N269q
        have hw269 : v269 = some (.ref w_NONE) := by rw [hv269, if_neg (Ne.symm ne_UNRATED_NONE)]
        subst hw269
        have pre271 : ∀ t, Steps p.tables e below (T269.setTop (mkF m 117 #[iv pi0, iv pi1, iv pi2, iv (3 : Int32), iv (1 : Int32), iv (1 : Int32), rv w_NONE, rv w_NONE, rv w_NONE] [(.ref w_NONE)])) t → Go t := fun t kt => pre268 t (st269.trans kt)
        have pre272 : ∀ t, Steps p.tables e below (T269.setTop (mkF m 127 #[iv pi0, iv pi1, iv pi2, iv (3 : Int32), iv (1 : Int32), iv (1 : Int32), rv w_NONE, rv w_NONE, rv w_NONE] [(.int (1 : Int32))])) t → Go t := fun t kt => pre271 t (by
            refine y_aload X269.here hx (hb hby at_117) rfl rfl (pc' := 119) rfl ?_
            refine Jvm.RoadKit.acmp (g := (mkF m 119 #[iv pi0, iv pi1, iv pi2, iv (3 : Int32), iv (1 : Int32), iv (1 : Int32), rv w_NONE, rv w_NONE, rv w_NONE] [(.ref w_NONE), (.ref w_NONE)])) X269 hx rfl rfl rfl (pc0 := 119) (pc' := 122) (same := true) rfl (hb hby at_119) rfl (decide_eq_true (congrArg Value.ref (rfl : w_NONE = w_NONE))) (by decide) (by decide) ?_
            show Steps p.tables e below (T269.setTop (mkF m 122 #[iv pi0, iv pi1, iv pi2, iv (3 : Int32), iv (1 : Int32), iv (1 : Int32), rv w_NONE, rv w_NONE, rv w_NONE] [])) _
            refine y_iconst X269.here hx (hb hby at_122) (v := (1 : Int32)) rfl (pc' := 123) rfl ?_
            refine y_goto X269.here hx (hb hby at_123) (pc' := 127) (by decide) rfl ?_
            exact kt)
        obtain ⟨fs, hr, hrun, hended, hW, hsame⟩ := X269.leave (v := some (.int (1 : Int32))) (fun h => by rw [Bd.returns] at h; cases h)
        refine ⟨_, _, (hGo _).mp (pre272 _ ?_), hrun, hended, _, _, rfl, ?_, ⟨_, rfl⟩, hW, hsame.mono (by decide) (by decide)⟩
        · exact retN X269 hx (t := .boolean) Bd.returns (by simp) (hb hby at_127) hr
        · show Q0 Z pi0 pi1 pi2 w_UNRATED w_DUE w_SETTLED w_NONE h0 n0 _ T269.heap _
          rw [e269q]
          exact ⟨rfl, N270⟩
set_option maxRecDepth 65536 in
set_option maxHeartbeats 40000000 in
theorem comes_1 {Post : Tables → Env → Array Value → State → Outcome → State → Prop} (hpost : ∀ tb e args s v u, (limb_1_1.after args s (.returned v) u = true ∧ limb_1_2.after args s (.returned v) u = true ∧ True) → FrameEnd s (.returned v) u (Jvm.fieldLocs frame_1_writes args s ++ Jvm.arrayLocs frame_1_arrays args s ++ Jvm.staticLocs frame_1_statics s) 0 0 → Post tb e args s (.returned v) u) :
    ArmFor flags0 classFile x code maxLocals ret World_1 tables_1 room_1 Calls_1 rest_1 Pre_1 Post := by
  intro l hfl _ _ p e ha hc hk s m args below hf hA hF happ hP
  obtain ⟨hcalls, hrest, hpre⟩ := hP
  obtain ⟨-, -, -, hnamed, -, -, -, hat⟩ := (Spec.applies_iff hf).mp happ
  obtain ⟨hg, hn⟩ := and_e (Cond.before_iff.mp (show (Jvm.Cond.and given_1 narrow_1).before args s = true from hpre))
  obtain ⟨g0, gr0⟩ := and_e hg
  obtain ⟨g1, gr1⟩ := and_e gr0
  obtain ⟨g2, gr2⟩ := and_e gr1
  obtain ⟨w0, w1, w2, rfl⟩ : ∃ w0 w1 w2 : Value, args = #[w0, w1, w2] := by
    have hs : args.size = 3 := by simpa [Cond.value, given_1] using g0
    obtain ⟨L⟩ := args
    match L, hs with
    | [w0, w1, w2], _ => exact ⟨w0, w1, w2, rfl⟩
  have hw := fun d (hd : d ∈ tables_1) => atoms_spec (ws := Jvm.Cond.code x code maxLocals ret :: tables_1) hat d (List.mem_cons_of_mem _ hd)
  have hfit : Fit s := fun {y c} hc i hi => by
    obtain ⟨ha, rfl⟩ := Array.getElem?_eq_some_iff.mp hc
    have q := List.all_eq_true.mp ((Array.all_eq_true_iff_forall_mem.mp hF) _ (Array.getElem_mem ha)) i (List.mem_range.mpr hi)
    simpa [Array.getElem?_eq_getElem hi] using q
  obtain ⟨i0, ei0⟩ := is_v g1
  obtain rfl : w0 = (.int i0) := Option.some.inj ei0
  obtain ⟨i1, ei1⟩ := is_v g2
  obtain rfl : w1 = (.int i1) := Option.some.inj ei1
  obtain ⟨i2, ei2⟩ := is_v gr2
  obtain rfl : w2 = (.int i2) := Option.some.inj ei2
  obtain ⟨n0, nr0⟩ := and_e hn
  obtain ⟨n1, nr1⟩ := and_e nr0
  obtain ⟨n2, nr2⟩ := and_e nr1
  obtain ⟨n3, nr3⟩ := and_e nr2
  obtain ⟨n4, nr4⟩ := and_e nr3
  obtain ⟨n5, nr5⟩ := and_e nr4
  obtain ⟨n6, nr6⟩ := and_e nr5
  obtain ⟨w_UNRATED, ev_UNRATED⟩ := exa_v n0
  have S_UNRATED := Sta.start ev_UNRATED (Or.inr ⟨(hw _ (List.mem_of_getElem? (i := 5) rfl)), (hw _ (List.mem_of_getElem? (i := 6) rfl))⟩)
  have E_w_UNRATED := Exa.start ev_UNRATED n0
  obtain ⟨w_DUE, ev_DUE⟩ := exa_v n1
  have S_DUE := Sta.start ev_DUE (Or.inr ⟨(hw _ (List.mem_of_getElem? (i := 5) rfl)), (hw _ (List.mem_of_getElem? (i := 8) rfl))⟩)
  have E_w_DUE := Exa.start ev_DUE n1
  have F_ordinal_w_DUE := Fld.start ((fld_at ev_DUE).symm.trans (own_eqI n2))
  have F_ordinal_w_UNRATED := Fld.start ((fld_at ev_UNRATED).symm.trans (own_eqI n3))
  obtain ⟨w_NONE, ev_NONE⟩ := exa_v n4
  have S_NONE := Sta.start ev_NONE (Or.inr ⟨(hw _ (List.mem_of_getElem? (i := 5) rfl)), (hw _ (List.mem_of_getElem? (i := 17) rfl))⟩)
  have E_w_NONE := Exa.start ev_NONE n4
  have F_ordinal_w_NONE := Fld.start ((fld_at ev_NONE).symm.trans (own_eqI n5))
  obtain ⟨w_SETTLED, ev_SETTLED⟩ := exa_v n6
  have S_SETTLED := Sta.start ev_SETTLED (Or.inr ⟨(hw _ (List.mem_of_getElem? (i := 5) rfl)), (hw _ (List.mem_of_getElem? (i := 20) rfl))⟩)
  have E_w_SETTLED := Exa.start ev_SETTLED n6
  have F_ordinal_w_SETTLED := Fld.start ((fld_at ev_SETTLED).symm.trans (own_eqI nr6))
  have ne_UNRATED_DUE : w_UNRATED ≠ w_DUE := Fld.ne F_ordinal_w_UNRATED F_ordinal_w_DUE (fun q => absurd (Value.int.inj q) (by decide))
  have ne_UNRATED_SETTLED : w_UNRATED ≠ w_SETTLED := Fld.ne F_ordinal_w_UNRATED F_ordinal_w_SETTLED (fun q => absurd (Value.int.inj q) (by decide))
  have ne_UNRATED_NONE : w_UNRATED ≠ w_NONE := Fld.ne F_ordinal_w_UNRATED F_ordinal_w_NONE (fun q => absurd (Value.int.inj q) (by decide))
  have ne_DUE_SETTLED : w_DUE ≠ w_SETTLED := Fld.ne F_ordinal_w_DUE F_ordinal_w_SETTLED (fun q => absurd (Value.int.inj q) (by decide))
  have ne_DUE_NONE : w_DUE ≠ w_NONE := Fld.ne F_ordinal_w_DUE F_ordinal_w_NONE (fun q => absurd (Value.int.inj q) (by decide))
  have ne_SETTLED_NONE : w_SETTLED ≠ w_NONE := Fld.ne F_ordinal_w_SETTLED F_ordinal_w_NONE (fun q => absurd (Value.int.inj q) (by decide))
  obtain ⟨n, o, h1, h2, h3, _, L, rfl, ⟨rfl, N⟩, hq⟩ := rm0 l s _ hw tables_1 i0 i1 i2 w_UNRATED w_DUE w_SETTLED w_NONE s.heap s.heap.size (Old.start s) S_UNRATED S_DUE S_SETTLED S_NONE E_w_UNRATED E_w_DUE E_w_SETTLED E_w_NONE ne_UNRATED_DUE ne_UNRATED_SETTLED ne_UNRATED_NONE ne_DUE_SETTLED ne_DUE_NONE ne_SETTLED_NONE p e ha hc hk s m _ below hf ((Spec.applies_iff_loose hf).mp happ).1 ⟨rfl, State.Warmed39.refl s, rfl⟩ trivial
  refine ⟨n, _, h1, h2, h3, hpost _ _ _ _ _ _ ⟨Cond.after_iff.mpr rfl, Cond.after_iff.mpr (eq_i res_at (Term.int_eval (1)) rfl), trivial⟩ ⟨hq.1, hq.2.1, (hq.2.2.sift fun y hy => Or.inr (N y hy)).mono (by decide) (by decide)⟩⟩
theorem main_1_1 : Claimed_1_1 := comes_1 fun _ _ _ _ _ _ h hF => ⟨h.1, hF⟩
theorem main_1_2 : Claimed_1_2 := comes_1 fun _ _ _ _ _ _ h hF => ⟨h.2.1, hF⟩
end Jvm.Pilot.@@N@@
namespace Jvm.Pilot.@@N@@
open Jvm Jvm.ClassFile Sem Op Lib Jvm.Free Jvm.Stand Jvm.Pilot.@@N@@.Jvm.D
/-! MADE BY PROGRAM (witnessworld.py) out of the Statement's table words and the real class files: 12 classes; the members and pool entries that the words name. The judged class is class 1, her method 2. -/
namespace start1
open Jvm.ClassFile
def u (s : String) : CpInfo := .utf8 (stringToUtf16 s)
/-- a pool by its gaps: so many unusable entries, then the entry; so many at the end -/
def gap : Nat → List CpInfo → List CpInfo
  | 0, r => r
  | n + 1, r => .unusable :: gap n r
def poolList (es : List (Nat × CpInfo)) (last : Nat) : List CpInfo := es.foldr (fun e r => gap e.1 (e.2 :: r)) (gap last [])
def pool (es : List (Nat × CpInfo)) (last : Nat) : Array CpInfo := ⟨poolList es last⟩
def fileOf (pool : Array CpInfo) (this : Nat) (attrs : Array Attribute := #[]) (ms : Array MethodInfo := #[]) (fl : Nat := 33) (sup : Nat := 0) (ifs : Array Nat := #[]) (fds : Array FieldInfo := #[]) : ClassFile where
  minorVersion := 0
  majorVersion := 65
  constantPool := pool
  accessFlags := fl
  thisClass := this
  superClass := sup
  interfaces := ifs
  fields := fds
  methods := ms
  attributes := attrs
def plain (name : String) (sup : Option ClassId) : Class where
  name := name
  kind := .ordinary
  loader := none
  accessFlags := 33
  super := sup
  interfaces := #[]
  cf := none
  fields := #[]
  methods := #[]
  instanceTypes := #[]
  staticTypes := #[]
  resolved := #[]
  callSites := []
  init := .initialized
  statics := none
  mirror := none

def pool0 : Array CpInfo := pool [(5, u "<init>"), (0, u "()V"), (1, .class_ 10), (1, u "java/lang/Object")] 113

def k0m0 : Method := { name := "<init>", desc := "()V", sig := { parameters := [], returnType := none }, accessFlags := 1, code := none }
/-- java/lang/Object -/
def k0 : Class := { plain "java/lang/Object" none with
  accessFlags := 33
  interfaces := #[]
  cf := some (fileOf pool0 8 #[] #[{ accessFlags := 1, nameIndex := 5, descriptorIndex := 6, attributes := #[] }] 33 0 #[] #[])
  fields := #[]
  methods := #[k0m0]
  instanceTypes := #[]
  staticTypes := #[]
  resolved := Array.replicate 124 none
  statics := none }

def pool1 : Array CpInfo := pool [(2, .class_ 4), (1, u "java/lang/Object"), (0, u "<init>"), (0, u "()V"), (0, .fieldref 8 9), (0, .class_ 10), (0, .nameAndType 11 12), (0, u "com/example/brace/brace/account/Session$FixedRate"), (0, u "UNRATED"), (0, u "Lcom/example/brace/brace/account/Session$FixedRate;"), (0, .fieldref 8 14), (0, .nameAndType 15 12), (0, u "DUE"), (0, .fieldref 8 17), (0, .nameAndType 18 12), (0, u "SETTLED"), (0, .fieldref 8 20), (0, .nameAndType 21 12), (0, u "NONE"), (0, .methodref 23 24), (0, .class_ 25), (0, .nameAndType 26 27), (0, u "com/example/brace/brace/account/FixedRateAfterReservationPinLaw"), (0, u "pick"), (0, u "(I)Lcom/example/brace/brace/account/Session$FixedRate;"), (0, .methodref 8 29), (0, .nameAndType 30 31), (0, u "afterReservation"), (0, u "(Z)Lcom/example/brace/brace/account/Session$FixedRate;"), (3, u "law"), (0, u "(III)Z")] 6

def k1m0 : Method := { name := "<init>", desc := "()V", sig := { parameters := [], returnType := none }, accessFlags := 1, code := none }
def k1c1 : Code := { maxStack := 2, maxLocals := 1, code := method_2_code, exceptionTable := #[], attributes := #[] }
def k1m1 : Method := { name := "pick", desc := "(I)Lcom/example/brace/brace/account/Session$FixedRate;", sig := { parameters := [.int], returnType := some (.object "com/example/brace/brace/account/Session$FixedRate") }, accessFlags := 10, code := some k1c1 }
def k1c2 : Code := { maxStack := 2, maxLocals := 9, code := code, exceptionTable := #[], attributes := #[] }
def k1m2 : Method := { name := "law", desc := "(III)Z", sig := { parameters := [.int, .int, .int], returnType := some .boolean }, accessFlags := 9, code := some k1c2 }
/-- com/example/brace/brace/account/FixedRateAfterReservationPinLaw -/
def k1 : Class := { plain "com/example/brace/brace/account/FixedRateAfterReservationPinLaw" (some 0) with
  accessFlags := 49
  interfaces := #[]
  cf := some (fileOf pool1 23 #[] #[{ accessFlags := 1, nameIndex := 5, descriptorIndex := 6, attributes := #[] }, { accessFlags := 10, nameIndex := 26, descriptorIndex := 27, attributes := #[] }, { accessFlags := 9, nameIndex := 35, descriptorIndex := 36, attributes := #[] }] 49 2 #[] #[])
  fields := #[]
  methods := #[k1m0, k1m1, k1m2]
  instanceTypes := #[]
  staticTypes := #[]
  resolved := Array.replicate 43 none
  statics := none }

def pool2 : Array CpInfo := pool [(1, .class_ 2), (0, u "java/lang/constant/Constable"), (0, .class_ 4), (0, u "java/lang/Object")] 6

/-- java/lang/constant/Constable -/
def k2 : Class := { plain "java/lang/constant/Constable" (some 0) with
  accessFlags := 1537
  interfaces := #[]
  cf := some (fileOf pool2 1 #[] #[] 1537 3 #[] #[])
  fields := #[]
  methods := #[]
  instanceTypes := #[]
  staticTypes := #[]
  resolved := Array.replicate 11 none
  statics := none }

def pool3 : Array CpInfo := pool [(1, .class_ 2), (0, u "java/lang/Comparable"), (0, .class_ 4), (0, u "java/lang/Object")] 7

/-- java/lang/Comparable -/
def k3 : Class := { plain "java/lang/Comparable" (some 0) with
  accessFlags := 1537
  interfaces := #[]
  cf := some (fileOf pool3 1 #[] #[] 1537 3 #[] #[])
  fields := #[]
  methods := #[]
  instanceTypes := #[]
  staticTypes := #[]
  resolved := Array.replicate 12 none
  statics := none }

def pool4 : Array CpInfo := pool [(1, .class_ 2), (0, u "java/io/Serializable"), (0, .class_ 4), (0, u "java/lang/Object")] 2

/-- java/io/Serializable -/
def k4 : Class := { plain "java/io/Serializable" (some 0) with
  accessFlags := 1537
  interfaces := #[]
  cf := some (fileOf pool4 1 #[] #[] 1537 3 #[] #[])
  fields := #[]
  methods := #[]
  instanceTypes := #[]
  staticTypes := #[]
  resolved := Array.replicate 7 none
  statics := none }

def pool5 : Array CpInfo := pool [(2, .class_ 4), (1, u "java/lang/Enum"), (0, u "name"), (0, u "Ljava/lang/String;"), (2, u "ordinal"), (0, u "I"), (1, .class_ 14), (1, u "java/lang/Object"), (4, u "hash"), (86, .class_ 108), (1, u "java/lang/Enum$EnumDesc"), (2, .class_ 112), (0, u "java/lang/constant/Constable"), (0, .class_ 114), (0, u "java/lang/Comparable"), (0, .class_ 116), (0, u "java/io/Serializable")] 87

/-- java/lang/Enum -/
def k5 : Class := { plain "java/lang/Enum" (some 0) with
  accessFlags := 1057
  interfaces := #[2, 3, 4]
  cf := some (fileOf pool5 2 #[.nestMembers #[106]] #[] 1057 12 #[111, 113, 115] #[{ accessFlags := 18, nameIndex := 5, descriptorIndex := 6, attributes := #[] }, { accessFlags := 18, nameIndex := 9, descriptorIndex := 10, attributes := #[] }, { accessFlags := 2, nameIndex := 19, descriptorIndex := 10, attributes := #[] }])
  fields := #[{ name := "name", type := (.object "java/lang/String"), accessFlags := 18, slot := 0, constantValue := 0 }, { name := "ordinal", type := .int, accessFlags := 18, slot := 1, constantValue := 0 }, { name := "hash", type := .int, accessFlags := 2, slot := 2, constantValue := 0 }]
  methods := #[]
  instanceTypes := #[(.object "java/lang/String"), .int, .int]
  staticTypes := #[]
  resolved := Array.replicate 204 none
  statics := none }

def pool6 : Array CpInfo := pool [(1, .class_ 2), (0, u "com/example/brace/brace/account/Session$FixedRate"), (0, .fieldref 1 4), (0, .nameAndType 5 6), (0, u "UNRATED"), (0, u "Lcom/example/brace/brace/account/Session$FixedRate;"), (0, .fieldref 1 8), (0, .nameAndType 9 6), (0, u "DUE"), (2, u "SETTLED"), (0, .fieldref 1 14), (0, .nameAndType 15 6), (0, u "NONE"), (2, u "$VALUES"), (0, u "[Lcom/example/brace/brace/account/Session$FixedRate;"), (6, .class_ 28), (1, u "java/lang/Enum"), (26, u "afterReservation"), (0, u "(Z)Lcom/example/brace/brace/account/Session$FixedRate;"), (7, .class_ 65), (0, u "com/example/brace/brace/account/Session")] 2

def k6c0 : Code := { maxStack := 2, maxLocals := 2, code := prog_4_method_6_code, exceptionTable := #[], attributes := #[] }
def k6m0 : Method := { name := "afterReservation", desc := "(Z)Lcom/example/brace/brace/account/Session$FixedRate;", sig := { parameters := [.boolean], returnType := some (.object "com/example/brace/brace/account/Session$FixedRate") }, accessFlags := 1, code := some k6c0 }
/-- com/example/brace/brace/account/Session$FixedRate -/
def k6 : Class := { plain "com/example/brace/brace/account/Session$FixedRate" (some 5) with
  accessFlags := 16433
  interfaces := #[]
  cf := some (fileOf pool6 1 #[.nestHost 64] #[{ accessFlags := 1, nameIndex := 55, descriptorIndex := 56, attributes := #[] }] 16433 26 #[] #[{ accessFlags := 16409, nameIndex := 5, descriptorIndex := 6, attributes := #[] }, { accessFlags := 16409, nameIndex := 9, descriptorIndex := 6, attributes := #[] }, { accessFlags := 16409, nameIndex := 12, descriptorIndex := 6, attributes := #[] }, { accessFlags := 16409, nameIndex := 15, descriptorIndex := 6, attributes := #[] }, { accessFlags := 4122, nameIndex := 18, descriptorIndex := 19, attributes := #[] }])
  fields := #[{ name := "UNRATED", type := (.object "com/example/brace/brace/account/Session$FixedRate"), accessFlags := 16409, slot := 0, constantValue := 0 }, { name := "DUE", type := (.object "com/example/brace/brace/account/Session$FixedRate"), accessFlags := 16409, slot := 1, constantValue := 0 }, { name := "SETTLED", type := (.object "com/example/brace/brace/account/Session$FixedRate"), accessFlags := 16409, slot := 2, constantValue := 0 }, { name := "NONE", type := (.object "com/example/brace/brace/account/Session$FixedRate"), accessFlags := 16409, slot := 3, constantValue := 0 }, { name := "$VALUES", type := (.array (.object "com/example/brace/brace/account/Session$FixedRate")), accessFlags := 4122, slot := 4, constantValue := 0 }]
  methods := #[k6m0]
  instanceTypes := #[(.object "java/lang/String"), .int, .int]
  staticTypes := #[(.object "com/example/brace/brace/account/Session$FixedRate"), (.object "com/example/brace/brace/account/Session$FixedRate"), (.object "com/example/brace/brace/account/Session$FixedRate"), (.object "com/example/brace/brace/account/Session$FixedRate"), (.array (.object "com/example/brace/brace/account/Session$FixedRate"))]
  resolved := Array.replicate 68 none
  statics := some 0 }

def pool7 : Array CpInfo := pool [(1, u "java/lang/Cloneable"), (0, .class_ 1), (0, u "java/lang/Object"), (0, .class_ 3)] 3

/-- java/lang/Cloneable -/
def k7 : Class := { plain "java/lang/Cloneable" (some 0) with
  accessFlags := 1537
  interfaces := #[]
  cf := some (fileOf pool7 2 #[] #[] 1537 4 #[] #[])
  fields := #[]
  methods := #[]
  instanceTypes := #[]
  staticTypes := #[]
  resolved := Array.replicate 8 none
  statics := none }

/-- the primitive byte -/
def k8 : Class := { plain "byte" none with kind := .primitive 'B', accessFlags := 0x411 }
/-- [B -/
def k9 : Class := { plain "[B" (some 0) with kind := .array 8 .byte, interfaces := #[7, 4], accessFlags := 1041 }

/-- the primitive int -/
def k10 : Class := { plain "int" none with kind := .primitive 'I', accessFlags := 0x411 }
/-- [I -/
def k11 : Class := { plain "[I" (some 0) with kind := .array 10 .int, interfaces := #[7, 4], accessFlags := 1041 }

def heap : Heap := #[{ cls := 6, slots := #[.ref 1, .ref 2, .ref 3, .ref 4, .null], vm := .statics 6 },
  { cls := 6, slots := #[.null, .int 0, .int 0], vm := .none },
  { cls := 6, slots := #[.null, .int 1, .int 0], vm := .none },
  { cls := 6, slots := #[.null, .int 2, .int 0], vm := .none },
  { cls := 6, slots := #[.null, .int 3, .int 0], vm := .none }]
def classes : Array Class := #[k0, k1, k2, k3, k4, k5, k6, k7, k8, k9, k10, k11]
def interned : List (Array UInt16 × Addr) := []
def slotsUsed : Nat := 17
def theMethod : MethodId := ⟨1, 2⟩
def args0 : Array Value := #[.int 5, .int 1, .int 0]
def aboutOver (below : List Frame) : State where
  vm := { classes := classes, interned := interned.toArray }
  heap := heap
  slotsUsed := slotsUsed
  threads := #[{ frames := .invoking theMethod args0 :: below }]
def below0 : List Frame := [.native { method := ⟨0, 0⟩, args := #[] }]
def about1 : State := aboutOver below0
def p0 : Program := .bare "" "" ""
def e0 : Env := launch0.env 0 0 0
theorem w_frames : about1.frames = Frame.invoking theMethod args0 :: below0 := rfl
set_option maxRecDepth 65536 in
theorem w_args : argsFit about1.vm theMethod args0 = true := by decide +kernel
set_option maxRecDepth 65536 in
theorem w_heap : heapFits about1 = true := by decide +kernel
set_option maxRecDepth 65536 in
theorem w_runnable : about1.curStatus? = some .runnable := by decide +kernel
set_option maxRecDepth 65536 in
theorem w_alone : about1.alone = true := by decide +kernel
set_option maxRecDepth 65536 in
theorem w_named : about1.methodNamed? x = some theMethod := by decide +kernel
set_option maxRecDepth 65536 in
theorem w_hears : about1.hears theMethod below0 = true := by decide +kernel
set_option maxRecDepth 65536 in
theorem w_ripe : about1.ripe theMethod args0 below0 = true := by decide +kernel
theorem w_running : about1.status = .running := rfl
set_option maxRecDepth 65536 in
theorem w_room : about1.hasRoom e0.platform room_1 = true :=
  launch0.hasRoom_least _ room_1 (by decide +kernel) (by decide +kernel) (by decide +kernel) (by decide +kernel) (by decide +kernel) (by decide +kernel)
theorem allAtoms_all (ts : List Jvm.Cond) (a : Array Jvm.Value) (st : Jvm.State) : (allAtoms ts).before a st = ts.all (fun c => c.before a st) := by
  induction ts with
  | nil => rfl
  | cons c t ih =>
    show (Jvm.Cond.and c (allAtoms t)).before a st = _
    rw [Jvm.Cond.before_and, ih, List.all_cons]
def words1 : List Jvm.Cond := Jvm.Cond.code x code maxLocals ret :: tables_1
/-- a 'code' word, met by the world's own term for the bytes: nothing is compared byte by byte -/
theorem code_word {y : MethodName} {bytes : ByteArray} {mx : Nat} {rt : Option FieldType} {a : Array Value} {s : State} {m : MethodId} {meth : Method} {c : Code} (h1 : s.methodNamed? y = some m) (h2 : s.vm.method? m = some meth) (h3 : meth.code = some c) (h4 : c.code = bytes)
    (h5 : (c.maxLocals == mx && c.exceptionTable.isEmpty && decide (c.maxStack ≤ mostOperands) && decide (meth.sig.returnType = rt) && !meth.locks && decide (parseMethodDescriptor y.desc = some meth.sig)) = true) : (Jvm.Cond.code y bytes mx rt).before a s = true := by
  simp only [Bool.and_eq_true, beq_iff_eq, Bool.not_eq_true', decide_eq_true_eq] at h5
  obtain ⟨⟨⟨⟨⟨g1, g2⟩, g3⟩, g4⟩, g5⟩, g6⟩ := h5
  simp [Cond.before, Cond.holds, Cond.value, h1, h2, h3, h4, g1, g2, g3, g4, g5, g6]
def isCode : Jvm.Cond → Bool
  | .code _ _ _ _ => true
  | _ => false
theorem all_split {L : List Jvm.Cond} {P : Jvm.Cond → Bool} (h1 : L.all (fun c => isCode c || P c) = true) (h2 : ∀ c ∈ L.filter isCode, P c = true) : L.all P = true := by
  refine List.all_eq_true.mpr fun c hc => ?_
  have h := List.all_eq_true.mp h1 c hc
  rcases Bool.eq_false_or_eq_true (isCode c) with hi | hi
  · exact h2 c (List.mem_filter.mpr ⟨hc, hi⟩)
  · simpa [hi] using h
set_option maxRecDepth 65536 in
theorem w_c0 : (Jvm.Cond.code x code maxLocals ret).before args0 about1 = true := code_word (m := ⟨1, 2⟩) (meth := k1m2) (c := k1c2) (by decide +kernel) rfl rfl rfl (by decide +kernel)
set_option maxRecDepth 65536 in
theorem w_c1 : (Jvm.Cond.code ({ cls := "com/example/brace/brace/account/FixedRateAfterReservationPinLaw", name := "pick", desc := "(I)Lcom/example/brace/brace/account/Session$FixedRate;" } : Jvm.MethodName) method_2_code (1 : Nat) (Option.some (Jvm.ClassFile.FieldType.object "com/example/brace/brace/account/Session$FixedRate"))).before args0 about1 = true := code_word (m := ⟨1, 1⟩) (meth := k1m1) (c := k1c1) (by decide +kernel) rfl rfl rfl (by decide +kernel)
set_option maxRecDepth 65536 in
theorem w_c2 : (Jvm.Cond.code ({ cls := "com/example/brace/brace/account/Session$FixedRate", name := "afterReservation", desc := "(Z)Lcom/example/brace/brace/account/Session$FixedRate;" } : Jvm.MethodName) prog_4_method_6_code (2 : Nat) (Option.some (Jvm.ClassFile.FieldType.object "com/example/brace/brace/account/Session$FixedRate"))).before args0 about1 = true := code_word (m := ⟨6, 0⟩) (meth := k6m0) (c := k6c0) (by decide +kernel) rfl rfl rfl (by decide +kernel)
def codes1 : List Jvm.Cond := [Jvm.Cond.code x code maxLocals ret, Jvm.Cond.code ({ cls := "com/example/brace/brace/account/FixedRateAfterReservationPinLaw", name := "pick", desc := "(I)Lcom/example/brace/brace/account/Session$FixedRate;" } : Jvm.MethodName) method_2_code (1 : Nat) (Option.some (Jvm.ClassFile.FieldType.object "com/example/brace/brace/account/Session$FixedRate")), Jvm.Cond.code ({ cls := "com/example/brace/brace/account/Session$FixedRate", name := "afterReservation", desc := "(Z)Lcom/example/brace/brace/account/Session$FixedRate;" } : Jvm.MethodName) prog_4_method_6_code (2 : Nat) (Option.some (Jvm.ClassFile.FieldType.object "com/example/brace/brace/account/Session$FixedRate"))]
set_option maxRecDepth 65536 in
theorem codes_eq : words1.filter isCode = codes1 := rfl
theorem w_codes : ∀ c ∈ words1.filter isCode, c.before args0 about1 = true := by
  rw [codes_eq]
  intro c hc
  simp only [codes1, List.mem_cons, List.not_mem_nil, or_false] at hc
  rcases hc with rfl | rfl | rfl
  · exact w_c0
  · exact w_c1
  · exact w_c2
set_option maxRecDepth 65536 in
theorem w_t1 : words1.all (fun c => isCode c || c.before args0 about1) = true := by decide +kernel
theorem w_tables : (allAtoms (Jvm.Cond.code x code maxLocals ret :: tables_1)).before args0 about1 = true := by
  rw [allAtoms_all]
  show words1.all (fun c => c.before args0 about1) = true
  refine all_split ?_ w_codes
  rw [w_t1]
set_option maxRecDepth 65536 in
theorem w_case : (Jvm.Cond.and given_1 narrow_1).before args0 about1 = true := by decide +kernel
theorem w_applies : (headSpec (Jvm.Cond.code x code maxLocals ret :: tables_1) room_1).applies x e0.platform about1 = true :=
  (Spec.applies_iff w_frames).mpr ⟨w_running, w_runnable, w_alone, w_named, w_hears, w_ripe, w_room, w_tables⟩
theorem atStart : AtStart classFile x code maxLocals ret World_1 tables_1 room_1 Calls_1 rest_1 Pre_1 launch0 p0 e0 about1 theMethod args0 below0 :=
  ⟨lists_1, trivial, launch0.admits_env _ _ _, launch0.least_env, fairChoices_fair.cas, fairChoices_fair.clock, w_frames, w_args, w_heap, w_applies, trivial, trivial, w_case⟩
end start1
theorem witness_1 : WitnessClaimed_1 := ⟨start1.p0, start1.e0, start1.about1, start1.theMethod, start1.args0, start1.below0, start1.atStart⟩
end Jvm.Pilot.@@N@@
