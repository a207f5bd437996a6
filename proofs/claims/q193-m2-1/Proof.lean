import JvmDerived
import JvmDerived.Pilot.@@N@@Statement
import JvmDerived.Pilot.@@N@@Code
set_option linter.unusedVariables false
set_option linter.unusedSimpArgs false
namespace Jvm.Pilot.@@N@@
open Jvm Jvm.ClassFile Sem Op Lib Jvm.Free Jvm.Stand Jvm.LawKit Jvm.RoadKit Bundle Jvm.Pilot.@@N@@.Jvm.D
/-- the run stands at T' as it stood at T: the heap is the same -/
def Nx {p : Program} {l : Launch} {e : Env} {R : Room} {s : State} {m : MethodId} {args : Array Value} {below : List Frame} {meth : Method} {c : Code} {T : State} {locs : List Loc} {cells slots : Nat} (X : Stand p l e R s m args below meth c T locs cells slots) (T' : State) : Prop := Stand p l e R s m args below meth c T' locs cells slots ∧ T'.heap = T.heap
theorem lq_eq {x y : Int64} (h : x = y) : lcmpW x y = 0 := (lcW x y).trans ((lc_eq x y).mpr h)
theorem lq_ne {x y : Int64} (h : ¬ x = y) : ¬ lcmpW x y = 0 := fun q => h ((lc_eq x y).mp ((lcW x y).symm.trans q))
theorem lq_lt {x y : Int64} (h : x < y) : lcmpW x y < 0 := by rw [lcW]; exact (lc_lt x y).mpr h
theorem lq_nlt {x y : Int64} (h : ¬ x < y) : ¬ lcmpW x y < 0 := by rw [lcW]; exact fun q => h ((lc_lt x y).mp q)
theorem lq_gt {x y : Int64} (h : y < x) : 0 < lcmpW x y := by rw [lcW]; exact (lc_gt x y).mpr h
theorem lq_ngt {x y : Int64} (h : ¬ y < x) : ¬ 0 < lcmpW x y := by rw [lcW]; exact fun q => h ((lc_gt x y).mp q)
theorem own_eqI {args : Array Value} {first s : State} {o : Option Outcome} {idx : List Nat} {t : Term} {k : Int32} (h : (Jvm.Cond.eq t (.int k)).value args first o s idx = some true) : t.eval args first o idx s = some (.int k) := by
  simp only [Cond.value, Term.eval] at h
  cases ht : t.eval args first o idx s with
  | none => simp [ht] at h
  | some x => cases x <;> simp [ht] at h ⊢; exact h
theorem own_eqL {args : Array Value} {first s : State} {o : Option Outcome} {idx : List Nat} {t : Term} {k : Int64} (h : (Jvm.Cond.eq t (.long k)).value args first o s idx = some true) : t.eval args first o idx s = some (.long k) := by
  simp only [Cond.value, Term.eval] at h
  cases ht : t.eval args first o idx s with
  | none => simp [ht] at h
  | some x => cases x <;> simp [ht] at h ⊢; exact h
abbrev jv (x : Int64) : Slot := .val (.long x)
theorem y_iloadN {tb : Tables} [Ours tb] {e : Env} {below : List Frame} {T target : State} {m : MethodId} {c : Code} (h : At T m c below) (hx : tb.exec = Jvm.exec) {pc pc' : Nat} {L : Array Slot} {S : List Value} {k : Fin 4} {v : Int32} (hd : decode c.code pc = .ok (.iload_n k, 1)) (hl : L[k.val]? = some (.val (.int v))) (hp : pc + 1 = pc') (hr : Steps tb e below (T.setTop (mkF m pc' L (.int v :: S))) target) : Steps tb e below (T.setTop (mkF m pc L S)) target := by subst hp; exact XS.iloadN h hx rfl hd hl hr
theorem y_lloadN {tb : Tables} [Ours tb] {e : Env} {below : List Frame} {T target : State} {m : MethodId} {c : Code} (h : At T m c below) (hx : tb.exec = Jvm.exec) {pc pc' : Nat} {L : Array Slot} {S : List Value} {k : Fin 4} {v : Int64} (hd : decode c.code pc = .ok (.lload_n k, 1)) (hl : L[k.val]? = some (.val (.long v))) (hp : pc + 1 = pc') (hr : Steps tb e below (T.setTop (mkF m pc' L (.long v :: S))) target) : Steps tb e below (T.setTop (mkF m pc L S)) target := by subst hp; exact XS.lloadN h hx rfl hd hl hr
theorem y_aloadN {tb : Tables} [Ours tb] {e : Env} {below : List Frame} {T target : State} {m : MethodId} {c : Code} (h : At T m c below) (hx : tb.exec = Jvm.exec) {pc pc' : Nat} {L : Array Slot} {S : List Value} {k : Fin 4} {v : Value} (hd : decode c.code pc = .ok (.aload_n k, 1)) (hl : L[k.val]? = some (.val v)) (hv : v.isRef = true) (hp : pc + 1 = pc') (hr : Steps tb e below (T.setTop (mkF m pc' L (v :: S))) target) : Steps tb e below (T.setTop (mkF m pc L S)) target := by subst hp; exact XS.aloadN h hx rfl hd hl hv hr
theorem y_istoreN {tb : Tables} [Ours tb] {e : Env} {below : List Frame} {T target : State} {m : MethodId} {c : Code} (h : At T m c below) (hx : tb.exec = Jvm.exec) {pc pc' : Nat} {L : Array Slot} {S : List Value} {k : Fin 4} {v : Int32} {l' : Array Slot} (hd : decode c.code pc = .ok (.istore_n k, 1)) (hl : storeLocals L k.val (.int v) = some l') (hp : pc + 1 = pc') (hr : Steps tb e below (T.setTop (mkF m pc' l' S)) target) : Steps tb e below (T.setTop (mkF m pc L (.int v :: S))) target := by subst hp; exact XS.istoreN h hx rfl hd rfl hl hr
theorem y_lstoreN {tb : Tables} [Ours tb] {e : Env} {below : List Frame} {T target : State} {m : MethodId} {c : Code} (h : At T m c below) (hx : tb.exec = Jvm.exec) {pc pc' : Nat} {L : Array Slot} {S : List Value} {k : Fin 4} {v : Int64} {l' : Array Slot} (hd : decode c.code pc = .ok (.lstore_n k, 1)) (hl : storeLocals L k.val (.long v) = some l') (hp : pc + 1 = pc') (hr : Steps tb e below (T.setTop (mkF m pc' l' S)) target) : Steps tb e below (T.setTop (mkF m pc L (.long v :: S))) target := by subst hp; exact XS.lstoreN h hx rfl hd rfl hl hr
theorem y_astoreN {tb : Tables} [Ours tb] {e : Env} {below : List Frame} {T target : State} {m : MethodId} {c : Code} (h : At T m c below) (hx : tb.exec = Jvm.exec) {pc pc' : Nat} {L : Array Slot} {S : List Value} {k : Fin 4} {v : Value} {l' : Array Slot} (hd : decode c.code pc = .ok (.astore_n k, 1)) (hv : v.isRef = true) (hl : storeLocals L k.val v = some l') (hp : pc + 1 = pc') (hr : Steps tb e below (T.setTop (mkF m pc' l' S)) target) : Steps tb e below (T.setTop (mkF m pc L (v :: S))) target := by subst hp; exact XS.astoreN h hx rfl hd rfl hv hl hr
theorem y_iload {tb : Tables} [Ours tb] {e : Env} {below : List Frame} {T target : State} {m : MethodId} {c : Code} (h : At T m c below) (hx : tb.exec = Jvm.exec) {pc pc' : Nat} {L : Array Slot} {S : List Value} {k : Nat} {v : Int32} (hd : decode c.code pc = .ok (.iload k, 2)) (hl : L[k]? = some (.val (.int v))) (hp : pc + 2 = pc') (hr : Steps tb e below (T.setTop (mkF m pc' L (.int v :: S))) target) : Steps tb e below (T.setTop (mkF m pc L S)) target := by subst hp; exact XS.iload h hx rfl hd hl hr
theorem y_lload {tb : Tables} [Ours tb] {e : Env} {below : List Frame} {T target : State} {m : MethodId} {c : Code} (h : At T m c below) (hx : tb.exec = Jvm.exec) {pc pc' : Nat} {L : Array Slot} {S : List Value} {k : Nat} {v : Int64} (hd : decode c.code pc = .ok (.lload k, 2)) (hl : L[k]? = some (.val (.long v))) (hp : pc + 2 = pc') (hr : Steps tb e below (T.setTop (mkF m pc' L (.long v :: S))) target) : Steps tb e below (T.setTop (mkF m pc L S)) target := by subst hp; exact XS.lload h hx rfl hd hl hr
theorem y_aload {tb : Tables} [Ours tb] {e : Env} {below : List Frame} {T target : State} {m : MethodId} {c : Code} (h : At T m c below) (hx : tb.exec = Jvm.exec) {pc pc' : Nat} {L : Array Slot} {S : List Value} {k : Nat} {v : Value} (hd : decode c.code pc = .ok (.aload k, 2)) (hl : L[k]? = some (.val v)) (hv : v.isRef = true) (hp : pc + 2 = pc') (hr : Steps tb e below (T.setTop (mkF m pc' L (v :: S))) target) : Steps tb e below (T.setTop (mkF m pc L S)) target := by subst hp; exact XS.aload h hx rfl hd hl hv hr
theorem y_istore {tb : Tables} [Ours tb] {e : Env} {below : List Frame} {T target : State} {m : MethodId} {c : Code} (h : At T m c below) (hx : tb.exec = Jvm.exec) {pc pc' : Nat} {L : Array Slot} {S : List Value} {k : Nat} {v : Int32} {l' : Array Slot} (hd : decode c.code pc = .ok (.istore k, 2)) (hl : storeLocals L k (.int v) = some l') (hp : pc + 2 = pc') (hr : Steps tb e below (T.setTop (mkF m pc' l' S)) target) : Steps tb e below (T.setTop (mkF m pc L (.int v :: S))) target := by subst hp; exact XS.istore h hx rfl hd rfl hl hr
theorem y_lstore {tb : Tables} [Ours tb] {e : Env} {below : List Frame} {T target : State} {m : MethodId} {c : Code} (h : At T m c below) (hx : tb.exec = Jvm.exec) {pc pc' : Nat} {L : Array Slot} {S : List Value} {k : Nat} {v : Int64} {l' : Array Slot} (hd : decode c.code pc = .ok (.lstore k, 2)) (hl : storeLocals L k (.long v) = some l') (hp : pc + 2 = pc') (hr : Steps tb e below (T.setTop (mkF m pc' l' S)) target) : Steps tb e below (T.setTop (mkF m pc L (.long v :: S))) target := by subst hp; exact XS.lstore h hx rfl hd rfl hl hr
theorem y_astore {tb : Tables} [Ours tb] {e : Env} {below : List Frame} {T target : State} {m : MethodId} {c : Code} (h : At T m c below) (hx : tb.exec = Jvm.exec) {pc pc' : Nat} {L : Array Slot} {S : List Value} {k : Nat} {v : Value} {l' : Array Slot} (hd : decode c.code pc = .ok (.astore k, 2)) (hv : v.isRef = true) (hl : storeLocals L k v = some l') (hp : pc + 2 = pc') (hr : Steps tb e below (T.setTop (mkF m pc' l' S)) target) : Steps tb e below (T.setTop (mkF m pc L (v :: S))) target := by subst hp; exact XS.astore h hx rfl hd rfl hv hl hr
theorem y_iconst {tb : Tables} [Ours tb] {e : Env} {below : List Frame} {T target : State} {m : MethodId} {c : Code} (h : At T m c below) (hx : tb.exec = Jvm.exec) {pc pc' : Nat} {L : Array Slot} {S : List Value} {i : Int} {v : Int32} (hd : decode c.code pc = .ok (.iconst i, 1)) (hv : Int32.ofInt i = v) (hp : pc + 1 = pc') (hr : Steps tb e below (T.setTop (mkF m pc' L (.int v :: S))) target) : Steps tb e below (T.setTop (mkF m pc L S)) target := by subst hp; exact XS.iconst h hx rfl hd (by rw [hv]; exact hr)
theorem y_bipush {tb : Tables} [Ours tb] {e : Env} {below : List Frame} {T target : State} {m : MethodId} {c : Code} (h : At T m c below) (hx : tb.exec = Jvm.exec) {pc pc' : Nat} {L : Array Slot} {S : List Value} {i : Int} {v : Int32} (hd : decode c.code pc = .ok (.bipush i, 2)) (hv : (Int8.ofInt i).toInt32 = v) (hp : pc + 2 = pc') (hr : Steps tb e below (T.setTop (mkF m pc' L (.int v :: S))) target) : Steps tb e below (T.setTop (mkF m pc L S)) target := by subst hp; exact XS.bipush h hx rfl hd (by rw [hv]; exact hr)
theorem y_sipush {tb : Tables} [Ours tb] {e : Env} {below : List Frame} {T target : State} {m : MethodId} {c : Code} (h : At T m c below) (hx : tb.exec = Jvm.exec) {pc pc' : Nat} {L : Array Slot} {S : List Value} {i : Int} {v : Int32} (hd : decode c.code pc = .ok (.sipush i, 3)) (hv : (Int16.ofInt i).toInt32 = v) (hp : pc + 3 = pc') (hr : Steps tb e below (T.setTop (mkF m pc' L (.int v :: S))) target) : Steps tb e below (T.setTop (mkF m pc L S)) target := by subst hp; exact XS.sipush h hx rfl hd (by rw [hv]; exact hr)
theorem y_lconst {tb : Tables} [Ours tb] {e : Env} {below : List Frame} {T target : State} {m : MethodId} {c : Code} (h : At T m c below) (hx : tb.exec = Jvm.exec) {pc pc' : Nat} {L : Array Slot} {S : List Value} {k : Fin 2} {v : Int64} (hd : decode c.code pc = .ok (.lconst k, 1)) (hv : Int64.ofNat k.val = v) (hp : pc + 1 = pc') (hr : Steps tb e below (T.setTop (mkF m pc' L (.long v :: S))) target) : Steps tb e below (T.setTop (mkF m pc L S)) target := by subst hp; exact XS.lconst h hx rfl hd (by first | exact hv ▸ hr | (rw [hv]; exact hr) | (subst hv; exact hr))
theorem y_aconstNull {tb : Tables} [Ours tb] {e : Env} {below : List Frame} {T target : State} {m : MethodId} {c : Code} (h : At T m c below) (hx : tb.exec = Jvm.exec) {pc pc' : Nat} {L : Array Slot} {S : List Value} (hd : decode c.code pc = .ok (.aconst_null, 1)) (hp : pc + 1 = pc') (hr : Steps tb e below (T.setTop (mkF m pc' L (.null :: S))) target) : Steps tb e below (T.setTop (mkF m pc L S)) target := by subst hp; exact XS.aconstNull h hx rfl hd hr
theorem y_iadd {tb : Tables} [Ours tb] {e : Env} {below : List Frame} {T target : State} {m : MethodId} {c : Code} (h : At T m c below) (hx : tb.exec = Jvm.exec) {pc pc' : Nat} {L : Array Slot} {S : List Value} {x y z : Int32} (hd : decode c.code pc = .ok (.iadd, 1)) (hz : x + y = z) (hp : pc + 1 = pc') (hr : Steps tb e below (T.setTop (mkF m pc' L (.int z :: S))) target) : Steps tb e below (T.setTop (mkF m pc L (.int y :: .int x :: S))) target := by subst hp; exact XS.iadd h hx rfl hd rfl (by rw [hz]; exact hr)
theorem y_isub {tb : Tables} [Ours tb] {e : Env} {below : List Frame} {T target : State} {m : MethodId} {c : Code} (h : At T m c below) (hx : tb.exec = Jvm.exec) {pc pc' : Nat} {L : Array Slot} {S : List Value} {x y z : Int32} (hd : decode c.code pc = .ok (.isub, 1)) (hz : x - y = z) (hp : pc + 1 = pc') (hr : Steps tb e below (T.setTop (mkF m pc' L (.int z :: S))) target) : Steps tb e below (T.setTop (mkF m pc L (.int y :: .int x :: S))) target := by subst hp; exact XS.isub h hx rfl hd rfl (by rw [hz]; exact hr)
theorem y_imul {tb : Tables} [Ours tb] {e : Env} {below : List Frame} {T target : State} {m : MethodId} {c : Code} (h : At T m c below) (hx : tb.exec = Jvm.exec) {pc pc' : Nat} {L : Array Slot} {S : List Value} {x y z : Int32} (hd : decode c.code pc = .ok (.imul, 1)) (hz : x * y = z) (hp : pc + 1 = pc') (hr : Steps tb e below (T.setTop (mkF m pc' L (.int z :: S))) target) : Steps tb e below (T.setTop (mkF m pc L (.int y :: .int x :: S))) target := by subst hp; exact XS.imul h hx rfl hd rfl (by rw [hz]; exact hr)
theorem y_iand {tb : Tables} [Ours tb] {e : Env} {below : List Frame} {T target : State} {m : MethodId} {c : Code} (h : At T m c below) (hx : tb.exec = Jvm.exec) {pc pc' : Nat} {L : Array Slot} {S : List Value} {x y z : Int32} (hd : decode c.code pc = .ok (.iand, 1)) (hz : x &&& y = z) (hp : pc + 1 = pc') (hr : Steps tb e below (T.setTop (mkF m pc' L (.int z :: S))) target) : Steps tb e below (T.setTop (mkF m pc L (.int y :: .int x :: S))) target := by subst hp; exact XS.iand h hx rfl hd rfl (by rw [hz]; exact hr)
theorem y_ior {tb : Tables} [Ours tb] {e : Env} {below : List Frame} {T target : State} {m : MethodId} {c : Code} (h : At T m c below) (hx : tb.exec = Jvm.exec) {pc pc' : Nat} {L : Array Slot} {S : List Value} {x y z : Int32} (hd : decode c.code pc = .ok (.ior, 1)) (hz : x ||| y = z) (hp : pc + 1 = pc') (hr : Steps tb e below (T.setTop (mkF m pc' L (.int z :: S))) target) : Steps tb e below (T.setTop (mkF m pc L (.int y :: .int x :: S))) target := by subst hp; exact XS.ior h hx rfl hd rfl (by rw [hz]; exact hr)
theorem y_ixor {tb : Tables} [Ours tb] {e : Env} {below : List Frame} {T target : State} {m : MethodId} {c : Code} (h : At T m c below) (hx : tb.exec = Jvm.exec) {pc pc' : Nat} {L : Array Slot} {S : List Value} {x y z : Int32} (hd : decode c.code pc = .ok (.ixor, 1)) (hz : x ^^^ y = z) (hp : pc + 1 = pc') (hr : Steps tb e below (T.setTop (mkF m pc' L (.int z :: S))) target) : Steps tb e below (T.setTop (mkF m pc L (.int y :: .int x :: S))) target := by subst hp; exact XS.ixor h hx rfl hd rfl (by rw [hz]; exact hr)
theorem y_ladd {tb : Tables} [Ours tb] {e : Env} {below : List Frame} {T target : State} {m : MethodId} {c : Code} (h : At T m c below) (hx : tb.exec = Jvm.exec) {pc pc' : Nat} {L : Array Slot} {S : List Value} {x y z : Int64} (hd : decode c.code pc = .ok (.ladd, 1)) (hz : x + y = z) (hp : pc + 1 = pc') (hr : Steps tb e below (T.setTop (mkF m pc' L (.long z :: S))) target) : Steps tb e below (T.setTop (mkF m pc L (.long y :: .long x :: S))) target := by subst hp; exact XS.ladd h hx rfl hd rfl (by rw [hz]; exact hr)
theorem y_lsub {tb : Tables} [Ours tb] {e : Env} {below : List Frame} {T target : State} {m : MethodId} {c : Code} (h : At T m c below) (hx : tb.exec = Jvm.exec) {pc pc' : Nat} {L : Array Slot} {S : List Value} {x y z : Int64} (hd : decode c.code pc = .ok (.lsub, 1)) (hz : x - y = z) (hp : pc + 1 = pc') (hr : Steps tb e below (T.setTop (mkF m pc' L (.long z :: S))) target) : Steps tb e below (T.setTop (mkF m pc L (.long y :: .long x :: S))) target := by subst hp; exact XS.lsub h hx rfl hd rfl (by rw [hz]; exact hr)
theorem y_lmul {tb : Tables} [Ours tb] {e : Env} {below : List Frame} {T target : State} {m : MethodId} {c : Code} (h : At T m c below) (hx : tb.exec = Jvm.exec) {pc pc' : Nat} {L : Array Slot} {S : List Value} {x y z : Int64} (hd : decode c.code pc = .ok (.lmul, 1)) (hz : x * y = z) (hp : pc + 1 = pc') (hr : Steps tb e below (T.setTop (mkF m pc' L (.long z :: S))) target) : Steps tb e below (T.setTop (mkF m pc L (.long y :: .long x :: S))) target := by subst hp; exact XS.lmul h hx rfl hd rfl (by rw [hz]; exact hr)
theorem y_land {tb : Tables} [Ours tb] {e : Env} {below : List Frame} {T target : State} {m : MethodId} {c : Code} (h : At T m c below) (hx : tb.exec = Jvm.exec) {pc pc' : Nat} {L : Array Slot} {S : List Value} {x y z : Int64} (hd : decode c.code pc = .ok (.land, 1)) (hz : x &&& y = z) (hp : pc + 1 = pc') (hr : Steps tb e below (T.setTop (mkF m pc' L (.long z :: S))) target) : Steps tb e below (T.setTop (mkF m pc L (.long y :: .long x :: S))) target := by subst hp; exact XS.land h hx rfl hd rfl (by rw [hz]; exact hr)
theorem y_lor {tb : Tables} [Ours tb] {e : Env} {below : List Frame} {T target : State} {m : MethodId} {c : Code} (h : At T m c below) (hx : tb.exec = Jvm.exec) {pc pc' : Nat} {L : Array Slot} {S : List Value} {x y z : Int64} (hd : decode c.code pc = .ok (.lor, 1)) (hz : x ||| y = z) (hp : pc + 1 = pc') (hr : Steps tb e below (T.setTop (mkF m pc' L (.long z :: S))) target) : Steps tb e below (T.setTop (mkF m pc L (.long y :: .long x :: S))) target := by subst hp; exact XS.lor h hx rfl hd rfl (by rw [hz]; exact hr)
theorem y_lxor {tb : Tables} [Ours tb] {e : Env} {below : List Frame} {T target : State} {m : MethodId} {c : Code} (h : At T m c below) (hx : tb.exec = Jvm.exec) {pc pc' : Nat} {L : Array Slot} {S : List Value} {x y z : Int64} (hd : decode c.code pc = .ok (.lxor, 1)) (hz : x ^^^ y = z) (hp : pc + 1 = pc') (hr : Steps tb e below (T.setTop (mkF m pc' L (.long z :: S))) target) : Steps tb e below (T.setTop (mkF m pc L (.long y :: .long x :: S))) target := by subst hp; exact XS.lxor h hx rfl hd rfl (by rw [hz]; exact hr)
theorem y_ineg {tb : Tables} [Ours tb] {e : Env} {below : List Frame} {T target : State} {m : MethodId} {c : Code} (h : At T m c below) (hx : tb.exec = Jvm.exec) {pc pc' : Nat} {L : Array Slot} {S : List Value} {x : Int32} {z : Int32} (hd : decode c.code pc = .ok (.ineg, 1)) (hz : -x = z) (hp : pc + 1 = pc') (hr : Steps tb e below (T.setTop (mkF m pc' L (.int z :: S))) target) : Steps tb e below (T.setTop (mkF m pc L (.int x :: S))) target := by subst hp; exact XS.ineg h hx rfl hd rfl (by subst hz; exact hr)
theorem y_lneg {tb : Tables} [Ours tb] {e : Env} {below : List Frame} {T target : State} {m : MethodId} {c : Code} (h : At T m c below) (hx : tb.exec = Jvm.exec) {pc pc' : Nat} {L : Array Slot} {S : List Value} {x : Int64} {z : Int64} (hd : decode c.code pc = .ok (.lneg, 1)) (hz : -x = z) (hp : pc + 1 = pc') (hr : Steps tb e below (T.setTop (mkF m pc' L (.long z :: S))) target) : Steps tb e below (T.setTop (mkF m pc L (.long x :: S))) target := by subst hp; exact XS.lneg h hx rfl hd rfl (by subst hz; exact hr)
theorem y_i2l {tb : Tables} [Ours tb] {e : Env} {below : List Frame} {T target : State} {m : MethodId} {c : Code} (h : At T m c below) (hx : tb.exec = Jvm.exec) {pc pc' : Nat} {L : Array Slot} {S : List Value} {x : Int32} {z : Int64} (hd : decode c.code pc = .ok (.i2l, 1)) (hz : x.toInt64 = z) (hp : pc + 1 = pc') (hr : Steps tb e below (T.setTop (mkF m pc' L (.long z :: S))) target) : Steps tb e below (T.setTop (mkF m pc L (.int x :: S))) target := by subst hp; exact XS.i2l h hx rfl hd rfl (by subst hz; exact hr)
theorem y_l2i {tb : Tables} [Ours tb] {e : Env} {below : List Frame} {T target : State} {m : MethodId} {c : Code} (h : At T m c below) (hx : tb.exec = Jvm.exec) {pc pc' : Nat} {L : Array Slot} {S : List Value} {x : Int64} {z : Int32} (hd : decode c.code pc = .ok (.l2i, 1)) (hz : x.toInt32 = z) (hp : pc + 1 = pc') (hr : Steps tb e below (T.setTop (mkF m pc' L (.int z :: S))) target) : Steps tb e below (T.setTop (mkF m pc L (.long x :: S))) target := by subst hp; exact XS.l2i h hx rfl hd rfl (by subst hz; exact hr)
theorem y_i2b {tb : Tables} [Ours tb] {e : Env} {below : List Frame} {T target : State} {m : MethodId} {c : Code} (h : At T m c below) (hx : tb.exec = Jvm.exec) {pc pc' : Nat} {L : Array Slot} {S : List Value} {x : Int32} {z : Int32} (hd : decode c.code pc = .ok (.i2b, 1)) (hz : x.toInt8.toInt32 = z) (hp : pc + 1 = pc') (hr : Steps tb e below (T.setTop (mkF m pc' L (.int z :: S))) target) : Steps tb e below (T.setTop (mkF m pc L (.int x :: S))) target := by subst hp; exact XS.i2b h hx rfl hd rfl (by subst hz; exact hr)
theorem y_i2s {tb : Tables} [Ours tb] {e : Env} {below : List Frame} {T target : State} {m : MethodId} {c : Code} (h : At T m c below) (hx : tb.exec = Jvm.exec) {pc pc' : Nat} {L : Array Slot} {S : List Value} {x : Int32} {z : Int32} (hd : decode c.code pc = .ok (.i2s, 1)) (hz : x.toInt16.toInt32 = z) (hp : pc + 1 = pc') (hr : Steps tb e below (T.setTop (mkF m pc' L (.int z :: S))) target) : Steps tb e below (T.setTop (mkF m pc L (.int x :: S))) target := by subst hp; exact XS.i2s h hx rfl hd rfl (by subst hz; exact hr)
theorem y_i2c {tb : Tables} [Ours tb] {e : Env} {below : List Frame} {T target : State} {m : MethodId} {c : Code} (h : At T m c below) (hx : tb.exec = Jvm.exec) {pc pc' : Nat} {L : Array Slot} {S : List Value} {x : Int32} {z : Int32} (hd : decode c.code pc = .ok (.i2c, 1)) (hz : x.toUInt32.toUInt16.toUInt32.toInt32 = z) (hp : pc + 1 = pc') (hr : Steps tb e below (T.setTop (mkF m pc' L (.int z :: S))) target) : Steps tb e below (T.setTop (mkF m pc L (.int x :: S))) target := by subst hp; exact XS.i2c h hx rfl hd rfl (by subst hz; exact hr)
theorem y_ishl {tb : Tables} [Ours tb] {e : Env} {below : List Frame} {T target : State} {m : MethodId} {c : Code} (h : At T m c below) (hx : tb.exec = Jvm.exec) {pc pc' : Nat} {L : Array Slot} {S : List Value} {x z : Int32} {y : Int32} (hd : decode c.code pc = .ok (.ishl, 1)) (hz : (x <<< (y &&& 31)) = z) (hp : pc + 1 = pc') (hr : Steps tb e below (T.setTop (mkF m pc' L (.int z :: S))) target) : Steps tb e below (T.setTop (mkF m pc L (.int y :: .int x :: S))) target := by subst hp; exact XS.ishl h hx rfl hd rfl (by subst hz; exact hr)
theorem y_ishr {tb : Tables} [Ours tb] {e : Env} {below : List Frame} {T target : State} {m : MethodId} {c : Code} (h : At T m c below) (hx : tb.exec = Jvm.exec) {pc pc' : Nat} {L : Array Slot} {S : List Value} {x z : Int32} {y : Int32} (hd : decode c.code pc = .ok (.ishr, 1)) (hz : (x >>> (y &&& 31)) = z) (hp : pc + 1 = pc') (hr : Steps tb e below (T.setTop (mkF m pc' L (.int z :: S))) target) : Steps tb e below (T.setTop (mkF m pc L (.int y :: .int x :: S))) target := by subst hp; exact XS.ishr h hx rfl hd rfl (by subst hz; exact hr)
theorem y_iushr {tb : Tables} [Ours tb] {e : Env} {below : List Frame} {T target : State} {m : MethodId} {c : Code} (h : At T m c below) (hx : tb.exec = Jvm.exec) {pc pc' : Nat} {L : Array Slot} {S : List Value} {x z : Int32} {y : Int32} (hd : decode c.code pc = .ok (.iushr, 1)) (hz : ((x.toUInt32 >>> (y &&& 31).toUInt32).toInt32) = z) (hp : pc + 1 = pc') (hr : Steps tb e below (T.setTop (mkF m pc' L (.int z :: S))) target) : Steps tb e below (T.setTop (mkF m pc L (.int y :: .int x :: S))) target := by subst hp; exact XS.iushr h hx rfl hd rfl (by subst hz; exact hr)
theorem y_lshl {tb : Tables} [Ours tb] {e : Env} {below : List Frame} {T target : State} {m : MethodId} {c : Code} (h : At T m c below) (hx : tb.exec = Jvm.exec) {pc pc' : Nat} {L : Array Slot} {S : List Value} {x z : Int64} {y : Int32} (hd : decode c.code pc = .ok (.lshl, 1)) (hz : (x <<< (y &&& 0x3f).toInt64) = z) (hp : pc + 1 = pc') (hr : Steps tb e below (T.setTop (mkF m pc' L (.long z :: S))) target) : Steps tb e below (T.setTop (mkF m pc L (.int y :: .long x :: S))) target := by subst hp; exact XS.lshl h hx rfl hd rfl (by subst hz; exact hr)
theorem y_lshr {tb : Tables} [Ours tb] {e : Env} {below : List Frame} {T target : State} {m : MethodId} {c : Code} (h : At T m c below) (hx : tb.exec = Jvm.exec) {pc pc' : Nat} {L : Array Slot} {S : List Value} {x z : Int64} {y : Int32} (hd : decode c.code pc = .ok (.lshr, 1)) (hz : (x >>> (y &&& 0x3f).toInt64) = z) (hp : pc + 1 = pc') (hr : Steps tb e below (T.setTop (mkF m pc' L (.long z :: S))) target) : Steps tb e below (T.setTop (mkF m pc L (.int y :: .long x :: S))) target := by subst hp; exact XS.lshr h hx rfl hd rfl (by subst hz; exact hr)
theorem y_lushr {tb : Tables} [Ours tb] {e : Env} {below : List Frame} {T target : State} {m : MethodId} {c : Code} (h : At T m c below) (hx : tb.exec = Jvm.exec) {pc pc' : Nat} {L : Array Slot} {S : List Value} {x z : Int64} {y : Int32} (hd : decode c.code pc = .ok (.lushr, 1)) (hz : ((x.toUInt64 >>> (y &&& 0x3f).toInt64.toUInt64).toInt64) = z) (hp : pc + 1 = pc') (hr : Steps tb e below (T.setTop (mkF m pc' L (.long z :: S))) target) : Steps tb e below (T.setTop (mkF m pc L (.int y :: .long x :: S))) target := by subst hp; exact XS.lushr h hx rfl hd rfl (by subst hz; exact hr)
theorem y_lcmp {tb : Tables} [Ours tb] {e : Env} {below : List Frame} {T target : State} {m : MethodId} {c : Code} (h : At T m c below) (hx : tb.exec = Jvm.exec) {pc pc' : Nat} {L : Array Slot} {S : List Value} {x y : Int64} (hd : decode c.code pc = .ok (.lcmp, 1)) (hp : pc + 1 = pc') (hr : Steps tb e below (T.setTop (mkF m pc' L (.int (lcmpW x y) :: S))) target) : Steps tb e below (T.setTop (mkF m pc L (.long y :: .long x :: S))) target := by subst hp; exact XS.lcmp h hx rfl hd rfl hr
theorem y_iinc {tb : Tables} [Ours tb] {e : Env} {below : List Frame} {T target : State} {m : MethodId} {c : Code} (h : At T m c below) (hx : tb.exec = Jvm.exec) {pc pc' : Nat} {L : Array Slot} {S : List Value} {k : Nat} {cst : Int} {x : Int32} {l' : Array Slot} (hd : decode c.code pc = .ok (.iinc k cst, 3)) (hl : L[k]? = some (.val (.int x))) (hl' : storeLocals L k (.int (x + Int32.ofInt cst)) = some l') (hp : pc + 3 = pc') (hr : Steps tb e below (T.setTop (mkF m pc' l' S)) target) : Steps tb e below (T.setTop (mkF m pc L S)) target := by subst hp; exact XS.iinc h hx rfl hd hl hl' hr
theorem y_dup {tb : Tables} [Ours tb] {e : Env} {below : List Frame} {T target : State} {m : MethodId} {c : Code} (h : At T m c below) (hx : tb.exec = Jvm.exec) {pc pc' : Nat} {L : Array Slot} {S : List Value} {v : Value} (hd : decode c.code pc = .ok (.dup, 1)) (hc : v.category = 1) (hp : pc + 1 = pc') (hr : Steps tb e below (T.setTop (mkF m pc' L (v :: v :: S))) target) : Steps tb e below (T.setTop (mkF m pc L (v :: S))) target := by subst hp; exact XS.dup h hx rfl hd rfl hc hr
theorem y_goto {tb : Tables} [Ours tb] {e : Env} {below : List Frame} {T target : State} {m : MethodId} {c : Code} (h : At T m c below) (hx : tb.exec = Jvm.exec) {pc pc' : Nat} {L : Array Slot} {S : List Value} {o : Int} (hd : decode c.code pc = .ok (.goto o, 3)) (ho : 0 ≤ (pc : Int) + o) (hp : ((pc : Int) + o).toNat = pc') (hr : Steps tb e below (T.setTop (mkF m pc' L S)) target) : Steps tb e below (T.setTop (mkF m pc L S)) target := XS.goto h hx rfl rfl hd ho hp hr
theorem y_ifYes {tb : Tables} [Ours tb] {e : Env} {below : List Frame} {T target : State} {m : MethodId} {c : Code} (h : At T m c below) (hx : tb.exec = Jvm.exec) {pc pc' : Nat} {L : Array Slot} {S : List Value} {cd : ClassFile.Cond} {x : Int32} {o : Int} (hd : decode c.code pc = .ok (.ifCond cd o, 3)) (hc : ifCond.holds cd x = true) (ho : 0 ≤ (pc : Int) + o) (hp : ((pc : Int) + o).toNat = pc') (hr : Steps tb e below (T.setTop (mkF m pc' L S)) target) : Steps tb e below (T.setTop (mkF m pc L (.int x :: S))) target := XS.ifYes h hx rfl rfl hd rfl hc ho hp hr
theorem y_ifNo {tb : Tables} [Ours tb] {e : Env} {below : List Frame} {T target : State} {m : MethodId} {c : Code} (h : At T m c below) (hx : tb.exec = Jvm.exec) {pc pc' : Nat} {L : Array Slot} {S : List Value} {cd : ClassFile.Cond} {x : Int32} {o : Int} (hd : decode c.code pc = .ok (.ifCond cd o, 3)) (hc : ifCond.holds cd x = false) (hp : pc + 3 = pc') (hr : Steps tb e below (T.setTop (mkF m pc' L S)) target) : Steps tb e below (T.setTop (mkF m pc L (.int x :: S))) target := by subst hp; exact XS.ifNo h hx rfl hd rfl hc hr
theorem y_icmpYes {tb : Tables} [Ours tb] {e : Env} {below : List Frame} {T target : State} {m : MethodId} {c : Code} (h : At T m c below) (hx : tb.exec = Jvm.exec) {pc pc' : Nat} {L : Array Slot} {S : List Value} {cd : ClassFile.Cond} {x y : Int32} {o : Int} (hd : decode c.code pc = .ok (.if_icmp cd o, 3)) (hc : if_icmp.holds cd x y = true) (ho : 0 ≤ (pc : Int) + o) (hp : ((pc : Int) + o).toNat = pc') (hr : Steps tb e below (T.setTop (mkF m pc' L S)) target) : Steps tb e below (T.setTop (mkF m pc L (.int y :: .int x :: S))) target := XS.icmpYes h hx rfl rfl hd rfl hc ho hp hr
theorem y_icmpNo {tb : Tables} [Ours tb] {e : Env} {below : List Frame} {T target : State} {m : MethodId} {c : Code} (h : At T m c below) (hx : tb.exec = Jvm.exec) {pc pc' : Nat} {L : Array Slot} {S : List Value} {cd : ClassFile.Cond} {x y : Int32} {o : Int} (hd : decode c.code pc = .ok (.if_icmp cd o, 3)) (hc : if_icmp.holds cd x y = false) (hp : pc + 3 = pc') (hr : Steps tb e below (T.setTop (mkF m pc' L S)) target) : Steps tb e below (T.setTop (mkF m pc L (.int y :: .int x :: S))) target := by subst hp; exact XS.icmpNo h hx rfl hd rfl hc hr
theorem d1_0 : decode prog_4_method_7_code 0 = .ok (.aload_n 0, 1) := by decide +kernel
theorem d1_1 : decode prog_4_method_7_code 1 = .ok (.getstatic 13, 3) := by decide +kernel
theorem d1_4 : decode prog_4_method_7_code 4 = .ok (.if_acmp .ne 9, 3) := by decide +kernel
theorem d1_7 : decode prog_4_method_7_code 7 = .ok (.getstatic 13, 3) := by decide +kernel
theorem d1_10 : decode prog_4_method_7_code 10 = .ok (.goto 6, 3) := by decide +kernel
theorem d1_13 : decode prog_4_method_7_code 13 = .ok (.getstatic 10, 3) := by decide +kernel
theorem d1_16 : decode prog_4_method_7_code 16 = .ok (.areturn, 1) := by decide +kernel
theorem pn_com_example_brace_brace_account_Session_FixedRate : plainName "com/example/brace/brace/account/Session$FixedRate" = true := by first | (simp [plainName, overriddenIn]; done) | decide +kernel
theorem ef_1 (m : MethodId) (x0 : Addr) : entryFrame m #[(.ref x0)] 1 = mkF m 0 #[rv x0] [] := by first | (simp [entryFrame, mkF, argsToLocals, Value.category]; done) | rfl
def Q1 (Z : State) (pr0 : Addr) (w_SETTLED : Addr) (w_NONE : Addr) (h0 : Heap) (n0 : Nat) (v : Option Value) (h : Heap) (L : List Loc) : Prop := v = some (.ref (if pr0 = w_NONE then w_NONE else w_SETTLED)) ∧ Fr n0 L ∧ h = h0
set_option maxRecDepth 65536 in
set_option maxHeartbeats 40000000 in
theorem rm1 (l : Launch) (Z : State) (a0 : Array Value) (hw : ∀ d ∈ tables_1, d.before a0 Z = true) (ws : List Jvm.Cond) (pr0 : Addr) (w_SETTLED : Addr) (w_NONE : Addr) (h0 : Heap) (n0 : Nat) (O0 : Old Z n0 h0) (S_SETTLED : Sta Z Z.heap "com/example/brace/brace/account/Session$FixedRate" "SETTLED" "Lcom/example/brace/brace/account/Session$FixedRate;" (.ref w_SETTLED)) (S_NONE : Sta Z Z.heap "com/example/brace/brace/account/Session$FixedRate" "NONE" "Lcom/example/brace/brace/account/Session$FixedRate;" (.ref w_NONE)) :
    MetFree l (⟨"com/example/brace/brace/account/Session$FixedRate", "afterCharge", "()Lcom/example/brace/brace/account/Session$FixedRate;"⟩ : MethodName) (head1 (Jvm.Cond.code (⟨"com/example/brace/brace/account/Session$FixedRate", "afterCharge", "()Lcom/example/brace/brace/account/Session$FixedRate;"⟩ : MethodName) prog_4_method_7_code 1 (some (.object "com/example/brace/brace/account/Session$FixedRate")) :: ws) ({ frames := 0, cells := 0, slots := 0, locals := 0 } : Room)) (fun a U => a = #[(.ref pr0)] ∧ Z.Warmed39 U.vm ∧ U.heap = h0) (fun _ _ _ _ _ => True) (fun _ U o U' => ∃ v L, o = .returned v ∧ Q1 Z pr0 w_SETTLED w_NONE h0 n0 v U'.heap L ∧ FrameEnd U o U' L ({ frames := 0, cells := 0, slots := 0, locals := 0 } : Room).cells ({ frames := 0, cells := 0, slots := 0, locals := 0 } : Room).slots) := by
  refine MetFree.of_bodySF (plainFor_of_name pn_com_example_brace_brace_account_Session_FixedRate) hisR ?_
  intro p e s m args below meth c s₁ Bd hml0 hP hK
  obtain ⟨rfl, hZ, hh⟩ := hP
  have hx := Bd.exec
  have hby := Bd.bytes
  have hml : c.maxLocals = 1 := hml0
  have hown : s.vm.findClass "com/example/brace/brace/account/Session$FixedRate" = some m.cls := findClass_of_methodNamed Bd.named
  have hnm := (name_of_methodNamed Bd.named Bd.method).1
  have X0 : Stand p l e ({ frames := 0, cells := 0, slots := 0, locals := 0 } : Room) s m #[(.ref pr0)] below meth c s₁ [] 0 0 := Stand.of_body Bd
  have e0 : s₁.heap = h0 := by rw [← hh, Bd.state]; rfl
  have N0 := Fr.nil n0
  obtain ⟨Go, hGo⟩ : ∃ P : State → Prop, ∀ t, P t ↔ Steps p.tables e below (s₁.setTop (entryFrame m #[(.ref pr0)] 1)) t := ⟨_, fun _ => Iff.rfl⟩
  have pre0 : ∀ t, Steps p.tables e below (s₁.setTop (mkF m 0 #[rv pr0] [])) t → Go t := fun t k => (hGo t).mpr (castTop (ef_1 m pr0) k)
  have pre1 : ∀ t, Steps p.tables e below (s₁.setTop (mkF m 1 #[rv pr0] [(.ref pr0)])) t → Go t := fun t kt => pre0 t (by
      refine y_aloadN X0.here hx (hb hby d1_0) rfl rfl (pc' := 1) rfl ?_
      exact kt)
  obtain ⟨T2, X2, e2, st2⟩ := getS2 X0 hx hZ hown (host := "") (Or.inl (hw _ (List.mem_of_getElem? (i := 10) rfl))) Via.refl e0 (S_NONE.ext O0.2) (g := (mkF m 1 #[rv pr0] [(.ref pr0)])) rfl (hb hby d1_1)
  have pre3 : ∀ t, Steps p.tables e below (T2.setTop (mkF m 4 #[rv pr0] [(.ref w_NONE), (.ref pr0)])) t → Go t := fun t kt => pre1 t (st2 t kt)
  by_cases hc4_4 : pr0 = w_NONE
  · have pre5 : ∀ t, Steps p.tables e below (T2.setTop (mkF m 7 #[rv pr0] [])) t → Go t := fun t kt => pre3 t (by
        refine Jvm.RoadKit.acmp (g := (mkF m 4 #[rv pr0] [(.ref w_NONE), (.ref pr0)])) X2 hx rfl rfl rfl (pc0 := 4) (pc' := 7) (same := true) rfl (hb hby d1_4) rfl (decide_eq_true (congrArg Value.ref hc4_4)) (by decide) (by decide) ?_
        show Steps p.tables e below (T2.setTop (mkF m 7 #[rv pr0] [])) _
        exact kt)
    obtain ⟨T6, X6, e6, st6⟩ := getS2 X2 hx hZ hown (host := "") (Or.inl (hw _ (List.mem_of_getElem? (i := 10) rfl))) Via.refl e2 (S_NONE.ext O0.2) (g := (mkF m 7 #[rv pr0] [])) rfl (hb hby d1_7)
    have pre7 : ∀ t, Steps p.tables e below (T6.setTop (mkF m 10 #[rv pr0] [(.ref w_NONE)])) t → Go t := fun t kt => pre5 t (st6 t kt)
    have pre8 : ∀ t, Steps p.tables e below (T6.setTop (mkF m 16 #[rv pr0] [(.ref w_NONE)])) t → Go t := fun t kt => pre7 t (by
        refine y_goto X6.here hx (hb hby d1_10) (pc' := 16) (by decide) rfl ?_
        exact kt)
    obtain ⟨fs, hr, hrun, hended, hW, hsame⟩ := X6.leave (v := some (.ref w_NONE)) (fun h => by rw [Bd.returns] at h; cases h)
    refine ⟨_, _, (hGo _).mp (pre8 _ ?_), hrun, hended, _, _, rfl, ?_, ⟨_, rfl⟩, hW, hsame.mono (by decide) (by decide)⟩
    · exact retOut X6 hx Bd.returns rfl (Or.inr (Or.inr (Or.inr (Or.inr ⟨rfl, rfl, rfl⟩)))) (hb hby d1_16) hr
    · show Q1 Z pr0 w_SETTLED w_NONE h0 n0 _ T6.heap _
      rw [e6]
      exact ⟨(by first | (simp only [if_pos hc4_4]; done) | (simp only [if_pos hc4_4]; exact rfl) | exact rfl), N0, rfl⟩
  · have pre9 : ∀ t, Steps p.tables e below (T2.setTop (mkF m 13 #[rv pr0] [])) t → Go t := fun t kt => pre3 t (by
        refine Jvm.RoadKit.acmp (g := (mkF m 4 #[rv pr0] [(.ref w_NONE), (.ref pr0)])) X2 hx rfl rfl rfl (pc0 := 4) (pc' := 13) (same := false) rfl (hb hby d1_4) rfl (decide_eq_false fun q => hc4_4 (Value.ref.inj q)) (by decide) (by decide) ?_
        show Steps p.tables e below (T2.setTop (mkF m 13 #[rv pr0] [])) _
        exact kt)
    obtain ⟨T10, X10, e10, st10⟩ := getS2 X2 hx hZ hown (host := "") (Or.inl (hw _ (List.mem_of_getElem? (i := 12) rfl))) Via.refl e2 (S_SETTLED.ext O0.2) (g := (mkF m 13 #[rv pr0] [])) rfl (hb hby d1_13)
    have pre11 : ∀ t, Steps p.tables e below (T10.setTop (mkF m 16 #[rv pr0] [(.ref w_SETTLED)])) t → Go t := fun t kt => pre9 t (st10 t kt)
    obtain ⟨fs, hr, hrun, hended, hW, hsame⟩ := X10.leave (v := some (.ref w_SETTLED)) (fun h => by rw [Bd.returns] at h; cases h)
    refine ⟨_, _, (hGo _).mp (pre11 _ ?_), hrun, hended, _, _, rfl, ?_, ⟨_, rfl⟩, hW, hsame.mono (by decide) (by decide)⟩
    · exact retOut X10 hx Bd.returns rfl (Or.inr (Or.inr (Or.inr (Or.inr ⟨rfl, rfl, rfl⟩)))) (hb hby d1_16) hr
    · show Q1 Z pr0 w_SETTLED w_NONE h0 n0 _ T10.heap _
      rw [e10]
      exact ⟨(by first | (simp only [if_neg hc4_4]; done) | (simp only [if_neg hc4_4]; exact rfl) | exact rfl), N0, rfl⟩
theorem pn_com_example_brace_brace_account_FixedRateAfterChargePinLaw : plainName "com/example/brace/brace/account/FixedRateAfterChargePinLaw" = true := by first | (simp [plainName, overriddenIn]; done) | decide +kernel
theorem pd___Lcom_example_brace_brace_account_Session_FixedRate_ : parseMethodDescriptor "()Lcom/example/brace/brace/account/Session$FixedRate;" = some ⟨[], some (.object "com/example/brace/brace/account/Session$FixedRate")⟩ := by decide +kernel
theorem ef_0 (m : MethodId) (x0 : Int32) : entryFrame m #[(.int x0)] maxLocals = mkF m 0 #[iv x0, .unset, .unset, .unset, .unset] [] := by first | (simp [entryFrame, mkF, argsToLocals, Value.category, maxLocals]; done) | rfl
def Q0 (Z : State) (pi0 : Int32) (w_UNRATED : Addr) (w_DUE : Addr) (w_SETTLED : Addr) (w_NONE : Addr) (h0 : Heap) (n0 : Nat) (v : Option Value) (h : Heap) (L : List Loc) : Prop := v = some (.int (1 : Int32)) ∧ Fr n0 L
set_option maxRecDepth 65536 in
set_option maxHeartbeats 40000000 in
theorem rm0 (l : Launch) (Z : State) (a0 : Array Value) (hw : ∀ d ∈ tables_1, d.before a0 Z = true) (ws : List Jvm.Cond) (pi0 : Int32) (w_UNRATED : Addr) (w_DUE : Addr) (w_SETTLED : Addr) (w_NONE : Addr) (h0 : Heap) (n0 : Nat) (O0 : Old Z n0 h0) (S_UNRATED : Sta Z Z.heap "com/example/brace/brace/account/Session$FixedRate" "UNRATED" "Lcom/example/brace/brace/account/Session$FixedRate;" (.ref w_UNRATED)) (S_DUE : Sta Z Z.heap "com/example/brace/brace/account/Session$FixedRate" "DUE" "Lcom/example/brace/brace/account/Session$FixedRate;" (.ref w_DUE)) (S_SETTLED : Sta Z Z.heap "com/example/brace/brace/account/Session$FixedRate" "SETTLED" "Lcom/example/brace/brace/account/Session$FixedRate;" (.ref w_SETTLED)) (S_NONE : Sta Z Z.heap "com/example/brace/brace/account/Session$FixedRate" "NONE" "Lcom/example/brace/brace/account/Session$FixedRate;" (.ref w_NONE)) (E_w_UNRATED : Exa Z Z.heap w_UNRATED "com/example/brace/brace/account/Session$FixedRate") (E_w_DUE : Exa Z Z.heap w_DUE "com/example/brace/brace/account/Session$FixedRate") (E_w_SETTLED : Exa Z Z.heap w_SETTLED "com/example/brace/brace/account/Session$FixedRate") (E_w_NONE : Exa Z Z.heap w_NONE "com/example/brace/brace/account/Session$FixedRate") (ne_UNRATED_DUE : w_UNRATED ≠ w_DUE) (ne_UNRATED_SETTLED : w_UNRATED ≠ w_SETTLED) (ne_UNRATED_NONE : w_UNRATED ≠ w_NONE) (ne_DUE_SETTLED : w_DUE ≠ w_SETTLED) (ne_DUE_NONE : w_DUE ≠ w_NONE) (ne_SETTLED_NONE : w_SETTLED ≠ w_NONE) :
    MetFree l x (head1 (Jvm.Cond.code x code maxLocals ret :: ws) room_1) (fun a U => a = #[(.int pi0)] ∧ Z.Warmed39 U.vm ∧ U.heap = h0) (fun _ _ _ _ _ => True) (fun _ U o U' => ∃ v L, o = .returned v ∧ Q0 Z pi0 w_UNRATED w_DUE w_SETTLED w_NONE h0 n0 v U'.heap L ∧ FrameEnd U o U' L room_1.cells room_1.slots) := by
  refine MetFree.of_bodySF (plainFor_of_name pn_com_example_brace_brace_account_FixedRateAfterChargePinLaw) hisR ?_
  intro p e s m args below meth c s₁ Bd hml0 hP hK
  obtain ⟨rfl, hZ, hh⟩ := hP
  have hx := Bd.exec
  have hby := Bd.bytes
  have hml : c.maxLocals = 5 := hml0
  have hown : s.vm.findClass "com/example/brace/brace/account/FixedRateAfterChargePinLaw" = some m.cls := findClass_of_methodNamed Bd.named
  have hnm := (name_of_methodNamed Bd.named Bd.method).1
  have X0 : Stand p l e room_1 s m #[(.int pi0)] below meth c s₁ [] 0 0 := Stand.of_body Bd
  have e0 : s₁.heap = h0 := by rw [← hh, Bd.state]; rfl
  have N0 := Fr.nil n0
  obtain ⟨Go, hGo⟩ : ∃ P : State → Prop, ∀ t, P t ↔ Steps p.tables e below (s₁.setTop (entryFrame m #[(.int pi0)] maxLocals)) t := ⟨_, fun _ => Iff.rfl⟩
  have pre0 : ∀ t, Steps p.tables e below (s₁.setTop (mkF m 0 #[iv pi0, .unset, .unset, .unset, .unset] [])) t → Go t := fun t k => (hGo t).mpr (castTop (ef_0 m pi0) k)
  obtain ⟨x1, hx1⟩ : ∃ z : Int32, z = (pi0 &&& (3 : Int32)) := ⟨_, rfl⟩
  have pre2 : ∀ t, Steps p.tables e below (s₁.setTop (mkF m 4 #[iv pi0, iv x1, .unset, .unset, .unset] [])) t → Go t := fun t kt => pre0 t (by
      subst hx1
      refine y_iloadN X0.here hx (hb hby at_0) rfl (pc' := 1) rfl ?_
      refine y_iconst X0.here hx (hb hby at_1) (v := (3 : Int32)) rfl (pc' := 2) rfl ?_
      refine y_iand X0.here hx (hb hby at_2) rfl (pc' := 3) rfl ?_
      refine y_istoreN X0.here hx (hb hby at_3) (l' := #[iv pi0, iv (pi0 &&& (3 : Int32)), .unset, .unset, .unset]) rfl (pc' := 4) rfl ?_
      exact kt)
  have pre3 : ∀ t, Steps p.tables e below (s₁.setTop (mkF m 5 #[iv pi0, iv x1, .unset, .unset, .unset] [(.int x1)])) t → Go t := fun t kt => pre2 t (by
      refine y_iloadN X0.here hx (hb hby at_4) rfl (pc' := 5) rfl ?_
      exact kt)
  by_cases hc5_4 : x1 = (0 : Int32)
  · have pre5 : ∀ t, Steps p.tables e below (s₁.setTop (mkF m 8 #[iv pi0, iv x1, .unset, .unset, .unset] [])) t → Go t := fun t kt => pre3 t (by
        refine y_ifNo X0.here hx (hb hby at_5) ((if0 _ _).trans (teq hc5_4).2) (pc' := 8) rfl ?_
        exact kt)
    obtain ⟨T6, X6, e6, st6⟩ := getS2 X0 hx hZ hown (host := "") (Or.inl (hw _ (List.mem_of_getElem? (i := 0) rfl))) Via.refl e0 (S_UNRATED.ext O0.2) (g := (mkF m 8 #[iv pi0, iv x1, .unset, .unset, .unset] [])) rfl (hb hby at_8)
    have pre7 : ∀ t, Steps p.tables e below (T6.setTop (mkF m 11 #[iv pi0, iv x1, .unset, .unset, .unset] [(.ref w_UNRATED)])) t → Go t := fun t kt => pre5 t (st6 t kt)
    have pre8 : ∀ t, Steps p.tables e below (T6.setTop (mkF m 12 #[iv pi0, iv x1, rv w_UNRATED, .unset, .unset] [])) t → Go t := fun t kt => pre7 t (by
        refine y_astoreN X6.here hx (hb hby at_11) rfl (l' := #[iv pi0, iv x1, rv w_UNRATED, .unset, .unset]) rfl (pc' := 12) rfl ?_
        exact kt)
    obtain ⟨T9, X9, e9, st9⟩ := getS2 X6 hx hZ hown (host := "") (Or.inl (hw _ (List.mem_of_getElem? (i := 3) rfl))) Via.refl e6 (S_SETTLED.ext O0.2) (g := (mkF m 12 #[iv pi0, iv x1, rv w_UNRATED, .unset, .unset] [])) rfl (hb hby at_12)
    have pre10 : ∀ t, Steps p.tables e below (T9.setTop (mkF m 15 #[iv pi0, iv x1, rv w_UNRATED, .unset, .unset] [(.ref w_SETTLED)])) t → Go t := fun t kt => pre8 t (st9 t kt)
    have pre11 : ∀ t, Steps p.tables e below (T9.setTop (mkF m 60 #[iv pi0, iv x1, rv w_UNRATED, rv w_SETTLED, .unset] [(.ref w_UNRATED)])) t → Go t := fun t kt => pre10 t (by
        refine y_astoreN X9.here hx (hb hby at_15) rfl (l' := #[iv pi0, iv x1, rv w_UNRATED, rv w_SETTLED, .unset]) rfl (pc' := 16) rfl ?_
        refine y_goto X9.here hx (hb hby at_16) (pc' := 59) (by decide) rfl ?_
        refine y_aloadN X9.here hx (hb hby at_59) rfl rfl (pc' := 60) rfl ?_
        exact kt)
    obtain ⟨cq12, kq12, q12a, q12b, q12c⟩ := isOf hZ e9 (E_w_UNRATED.ext O0.2)
    obtain ⟨v12, _, ⟨T12, L12, k12, n12⟩, -, X12, ⟨Lc12, hQ12, l12, y12, z12⟩, st12⟩ := X9.virtualBack hx (y := (⟨"com/example/brace/brace/account/Session$FixedRate", "afterCharge", "()Lcom/example/brace/brace/account/Session$FixedRate;"⟩ : MethodName)) (z := (⟨"com/example/brace/brace/account/Session$FixedRate", "afterCharge", "()Lcom/example/brace/brace/account/Session$FixedRate;"⟩ : MethodName)) hown (mvT hZ (hw _ (List.mem_of_getElem? (i := 5) rfl))) (mvT hZ (hw _ (List.mem_of_getElem? (i := 6) rfl))) (notFace_of_selects (args := #[]) (mvT hZ (hw _ (List.mem_of_getElem? (i := 8) rfl)))) (mvT hZ (hw _ (List.mem_of_getElem? (i := 8) rfl))) (mvT hZ (hw _ (List.mem_of_getElem? (i := 7) rfl))) (by decide) (backOf (W := 0) (rm1 l Z a0 hw [] w_UNRATED w_SETTLED w_NONE h0 n0 O0 S_SETTLED S_NONE) hZ (hw _ (List.mem_of_getElem? (i := 9) rfl)) (hw _ (List.mem_of_getElem? (i := 1) rfl)) (by decide) (by decide)) q12a q12c (g := (mkF m 60 #[iv pi0, iv x1, rv w_UNRATED, rv w_SETTLED, .unset] [(.ref w_UNRATED)])) rfl (by rw [hml]; rfl) (Steps.refl _) (argsL := []) (rest := []) (lenOf pd___Lcom_example_brace_brace_account_Session_FixedRate_ rfl) rfl (by show 2 * 0 + _ ≤ _; exact Nat.le_of_eq rfl) (hb hby at_60) (fun _ _ => ⟨rfl, e9, (by decide : 0 + 0 ≤ _), (by decide : 0 + 0 ≤ _)⟩)
    dsimp only [Pt.U, Pt.locs, Pt.cells, Pt.slots] at X12 l12 y12 z12 st12 hQ12
    subst l12 y12 z12
    obtain ⟨hv12, N12q, e12q⟩ := hQ12
    have N13 := Fr.app N0 N12q
    have hw12 : v12 = some (.ref w_SETTLED) := by rw [hv12, if_neg ne_UNRATED_NONE]
    subst hw12
    have pre14 : ∀ t, Steps p.tables e below (T12.setTop (mkF m 63 #[iv pi0, iv x1, rv w_UNRATED, rv w_SETTLED, .unset] [(.ref w_SETTLED)])) t → Go t := fun t kt => pre11 t (st12.trans kt)
    have pre15 : ∀ t, Steps p.tables e below (T12.setTop (mkF m 73 #[iv pi0, iv x1, rv w_UNRATED, rv w_SETTLED, rv w_SETTLED] [(.ref w_SETTLED)])) t → Go t := fun t kt => pre14 t (by
        refine y_astore X12.here hx (hb hby at_63) rfl (l' := #[iv pi0, iv x1, rv w_UNRATED, rv w_SETTLED, rv w_SETTLED]) rfl (pc' := 65) rfl ?_
        refine y_aload X12.here hx (hb hby at_65) rfl rfl (pc' := 67) rfl ?_
        refine y_aloadN X12.here hx (hb hby at_67) rfl rfl (pc' := 68) rfl ?_
        refine Jvm.RoadKit.acmp (g := (mkF m 68 #[iv pi0, iv x1, rv w_UNRATED, rv w_SETTLED, rv w_SETTLED] [(.ref w_SETTLED), (.ref w_SETTLED)])) X12 hx rfl rfl rfl (pc0 := 68) (pc' := 71) (same := true) rfl (hb hby at_68) rfl (decide_eq_true (congrArg Value.ref (rfl : w_SETTLED = w_SETTLED))) (by decide) (by decide) ?_
        show Steps p.tables e below (T12.setTop (mkF m 71 #[iv pi0, iv x1, rv w_UNRATED, rv w_SETTLED, rv w_SETTLED] [])) _
        refine y_aload X12.here hx (hb hby at_71) rfl rfl (pc' := 73) rfl ?_
        exact kt)
    obtain ⟨cq16, kq16, q16a, q16b, q16c⟩ := isOf hZ e12q (E_w_SETTLED.ext O0.2)
    obtain ⟨v16, _, ⟨T16, L16, k16, n16⟩, -, X16, ⟨Lc16, hQ16, l16, y16, z16⟩, st16⟩ := X12.virtualBack hx (y := (⟨"com/example/brace/brace/account/Session$FixedRate", "afterCharge", "()Lcom/example/brace/brace/account/Session$FixedRate;"⟩ : MethodName)) (z := (⟨"com/example/brace/brace/account/Session$FixedRate", "afterCharge", "()Lcom/example/brace/brace/account/Session$FixedRate;"⟩ : MethodName)) hown (mvT hZ (hw _ (List.mem_of_getElem? (i := 5) rfl))) (mvT hZ (hw _ (List.mem_of_getElem? (i := 6) rfl))) (notFace_of_selects (args := #[]) (mvT hZ (hw _ (List.mem_of_getElem? (i := 8) rfl)))) (mvT hZ (hw _ (List.mem_of_getElem? (i := 8) rfl))) (mvT hZ (hw _ (List.mem_of_getElem? (i := 7) rfl))) (by decide) (backOf (W := 0) (rm1 l Z a0 hw [] w_SETTLED w_SETTLED w_NONE h0 n0 O0 S_SETTLED S_NONE) hZ (hw _ (List.mem_of_getElem? (i := 9) rfl)) (hw _ (List.mem_of_getElem? (i := 1) rfl)) (by decide) (by decide)) q16a q16c (g := (mkF m 73 #[iv pi0, iv x1, rv w_UNRATED, rv w_SETTLED, rv w_SETTLED] [(.ref w_SETTLED)])) rfl (by rw [hml]; rfl) (Steps.refl _) (argsL := []) (rest := []) (lenOf pd___Lcom_example_brace_brace_account_Session_FixedRate_ rfl) rfl (by show 2 * 0 + _ ≤ _; exact Nat.le_of_eq rfl) (hb hby at_73) (fun _ _ => ⟨rfl, e12q, (by decide : 0 + 0 ≤ _), (by decide : 0 + 0 ≤ _)⟩)
    dsimp only [Pt.U, Pt.locs, Pt.cells, Pt.slots] at X16 l16 y16 z16 st16 hQ16
    subst l16 y16 z16
    obtain ⟨hv16, N16q, e16q⟩ := hQ16
    have N17 := Fr.app N13 N16q
    have hw16 : v16 = some (.ref w_SETTLED) := by rw [hv16, if_neg ne_SETTLED_NONE]
    subst hw16
    have pre18 : ∀ t, Steps p.tables e below (T16.setTop (mkF m 76 #[iv pi0, iv x1, rv w_UNRATED, rv w_SETTLED, rv w_SETTLED] [(.ref w_SETTLED)])) t → Go t := fun t kt => pre15 t (st16.trans kt)
    have pre19 : ∀ t, Steps p.tables e below (T16.setTop (mkF m 86 #[iv pi0, iv x1, rv w_UNRATED, rv w_SETTLED, rv w_SETTLED] [(.int (1 : Int32))])) t → Go t := fun t kt => pre18 t (by
        refine y_aload X16.here hx (hb hby at_76) rfl rfl (pc' := 78) rfl ?_
        refine Jvm.RoadKit.acmp (g := (mkF m 78 #[iv pi0, iv x1, rv w_UNRATED, rv w_SETTLED, rv w_SETTLED] [(.ref w_SETTLED), (.ref w_SETTLED)])) X16 hx rfl rfl rfl (pc0 := 78) (pc' := 81) (same := true) rfl (hb hby at_78) rfl (decide_eq_true (congrArg Value.ref (rfl : w_SETTLED = w_SETTLED))) (by decide) (by decide) ?_
        show Steps p.tables e below (T16.setTop (mkF m 81 #[iv pi0, iv x1, rv w_UNRATED, rv w_SETTLED, rv w_SETTLED] [])) _
        refine y_iconst X16.here hx (hb hby at_81) (v := (1 : Int32)) rfl (pc' := 82) rfl ?_
        refine y_goto X16.here hx (hb hby at_82) (pc' := 86) (by decide) rfl ?_
        exact kt)
    obtain ⟨fs, hr, hrun, hended, hW, hsame⟩ := X16.leave (v := some (.int (1 : Int32))) (fun h => by rw [Bd.returns] at h; cases h)
    refine ⟨_, _, (hGo _).mp (pre19 _ ?_), hrun, hended, _, _, rfl, ?_, ⟨_, rfl⟩, hW, hsame.mono (by decide) (by decide)⟩
    · exact retN X16 hx (t := .boolean) Bd.returns (by simp) (hb hby at_86) hr
    · show Q0 Z pi0 w_UNRATED w_DUE w_SETTLED w_NONE h0 n0 _ T16.heap _
      rw [e16q]
      exact ⟨rfl, N17⟩
  · have pre20 : ∀ t, Steps p.tables e below (s₁.setTop (mkF m 21 #[iv pi0, iv x1, .unset, .unset, .unset] [(.int (1 : Int32)), (.int x1)])) t → Go t := fun t kt => pre3 t (by
        refine y_ifYes X0.here hx (hb hby at_5) ((if0 _ _).trans (feq hc5_4).2) (pc' := 19) (by decide) rfl ?_
        refine y_iloadN X0.here hx (hb hby at_19) rfl (pc' := 20) rfl ?_
        refine y_iconst X0.here hx (hb hby at_20) (v := (1 : Int32)) rfl (pc' := 21) rfl ?_
        exact kt)
    by_cases hc21_21 : x1 = (1 : Int32)
    · have pre22 : ∀ t, Steps p.tables e below (s₁.setTop (mkF m 24 #[iv pi0, iv x1, .unset, .unset, .unset] [])) t → Go t := fun t kt => pre20 t (by
          refine y_icmpNo X0.here hx (hb hby at_21) (teq hc21_21).2 (pc' := 24) rfl ?_
          exact kt)
      obtain ⟨T23, X23, e23, st23⟩ := getS2 X0 hx hZ hown (host := "") (Or.inl (hw _ (List.mem_of_getElem? (i := 14) rfl))) Via.refl e0 (S_DUE.ext O0.2) (g := (mkF m 24 #[iv pi0, iv x1, .unset, .unset, .unset] [])) rfl (hb hby at_24)
      have pre24 : ∀ t, Steps p.tables e below (T23.setTop (mkF m 27 #[iv pi0, iv x1, .unset, .unset, .unset] [(.ref w_DUE)])) t → Go t := fun t kt => pre22 t (st23 t kt)
      have pre25 : ∀ t, Steps p.tables e below (T23.setTop (mkF m 28 #[iv pi0, iv x1, rv w_DUE, .unset, .unset] [])) t → Go t := fun t kt => pre24 t (by
          refine y_astoreN X23.here hx (hb hby at_27) rfl (l' := #[iv pi0, iv x1, rv w_DUE, .unset, .unset]) rfl (pc' := 28) rfl ?_
          exact kt)
      obtain ⟨T26, X26, e26, st26⟩ := getS2 X23 hx hZ hown (host := "") (Or.inl (hw _ (List.mem_of_getElem? (i := 3) rfl))) Via.refl e23 (S_SETTLED.ext O0.2) (g := (mkF m 28 #[iv pi0, iv x1, rv w_DUE, .unset, .unset] [])) rfl (hb hby at_28)
      have pre27 : ∀ t, Steps p.tables e below (T26.setTop (mkF m 31 #[iv pi0, iv x1, rv w_DUE, .unset, .unset] [(.ref w_SETTLED)])) t → Go t := fun t kt => pre25 t (st26 t kt)
      have pre28 : ∀ t, Steps p.tables e below (T26.setTop (mkF m 60 #[iv pi0, iv x1, rv w_DUE, rv w_SETTLED, .unset] [(.ref w_DUE)])) t → Go t := fun t kt => pre27 t (by
          refine y_astoreN X26.here hx (hb hby at_31) rfl (l' := #[iv pi0, iv x1, rv w_DUE, rv w_SETTLED, .unset]) rfl (pc' := 32) rfl ?_
          refine y_goto X26.here hx (hb hby at_32) (pc' := 59) (by decide) rfl ?_
          refine y_aloadN X26.here hx (hb hby at_59) rfl rfl (pc' := 60) rfl ?_
          exact kt)
      obtain ⟨cq29, kq29, q29a, q29b, q29c⟩ := isOf hZ e26 (E_w_DUE.ext O0.2)
      obtain ⟨v29, _, ⟨T29, L29, k29, n29⟩, -, X29, ⟨Lc29, hQ29, l29, y29, z29⟩, st29⟩ := X26.virtualBack hx (y := (⟨"com/example/brace/brace/account/Session$FixedRate", "afterCharge", "()Lcom/example/brace/brace/account/Session$FixedRate;"⟩ : MethodName)) (z := (⟨"com/example/brace/brace/account/Session$FixedRate", "afterCharge", "()Lcom/example/brace/brace/account/Session$FixedRate;"⟩ : MethodName)) hown (mvT hZ (hw _ (List.mem_of_getElem? (i := 5) rfl))) (mvT hZ (hw _ (List.mem_of_getElem? (i := 6) rfl))) (notFace_of_selects (args := #[]) (mvT hZ (hw _ (List.mem_of_getElem? (i := 8) rfl)))) (mvT hZ (hw _ (List.mem_of_getElem? (i := 8) rfl))) (mvT hZ (hw _ (List.mem_of_getElem? (i := 7) rfl))) (by decide) (backOf (W := 0) (rm1 l Z a0 hw [] w_DUE w_SETTLED w_NONE h0 n0 O0 S_SETTLED S_NONE) hZ (hw _ (List.mem_of_getElem? (i := 9) rfl)) (hw _ (List.mem_of_getElem? (i := 1) rfl)) (by decide) (by decide)) q29a q29c (g := (mkF m 60 #[iv pi0, iv x1, rv w_DUE, rv w_SETTLED, .unset] [(.ref w_DUE)])) rfl (by rw [hml]; rfl) (Steps.refl _) (argsL := []) (rest := []) (lenOf pd___Lcom_example_brace_brace_account_Session_FixedRate_ rfl) rfl (by show 2 * 0 + _ ≤ _; exact Nat.le_of_eq rfl) (hb hby at_60) (fun _ _ => ⟨rfl, e26, (by decide : 0 + 0 ≤ _), (by decide : 0 + 0 ≤ _)⟩)
      dsimp only [Pt.U, Pt.locs, Pt.cells, Pt.slots] at X29 l29 y29 z29 st29 hQ29
      subst l29 y29 z29
      obtain ⟨hv29, N29q, e29q⟩ := hQ29
      have N30 := Fr.app N0 N29q
      have hw29 : v29 = some (.ref w_SETTLED) := by rw [hv29, if_neg ne_DUE_NONE]
      subst hw29
      have pre31 : ∀ t, Steps p.tables e below (T29.setTop (mkF m 63 #[iv pi0, iv x1, rv w_DUE, rv w_SETTLED, .unset] [(.ref w_SETTLED)])) t → Go t := fun t kt => pre28 t (st29.trans kt)
      have pre32 : ∀ t, Steps p.tables e below (T29.setTop (mkF m 73 #[iv pi0, iv x1, rv w_DUE, rv w_SETTLED, rv w_SETTLED] [(.ref w_SETTLED)])) t → Go t := fun t kt => pre31 t (by
          refine y_astore X29.here hx (hb hby at_63) rfl (l' := #[iv pi0, iv x1, rv w_DUE, rv w_SETTLED, rv w_SETTLED]) rfl (pc' := 65) rfl ?_
          refine y_aload X29.here hx (hb hby at_65) rfl rfl (pc' := 67) rfl ?_
          refine y_aloadN X29.here hx (hb hby at_67) rfl rfl (pc' := 68) rfl ?_
          refine Jvm.RoadKit.acmp (g := (mkF m 68 #[iv pi0, iv x1, rv w_DUE, rv w_SETTLED, rv w_SETTLED] [(.ref w_SETTLED), (.ref w_SETTLED)])) X29 hx rfl rfl rfl (pc0 := 68) (pc' := 71) (same := true) rfl (hb hby at_68) rfl (decide_eq_true (congrArg Value.ref (rfl : w_SETTLED = w_SETTLED))) (by decide) (by decide) ?_
          show Steps p.tables e below (T29.setTop (mkF m 71 #[iv pi0, iv x1, rv w_DUE, rv w_SETTLED, rv w_SETTLED] [])) _
          refine y_aload X29.here hx (hb hby at_71) rfl rfl (pc' := 73) rfl ?_
          exact kt)
      obtain ⟨cq33, kq33, q33a, q33b, q33c⟩ := isOf hZ e29q (E_w_SETTLED.ext O0.2)
      obtain ⟨v33, _, ⟨T33, L33, k33, n33⟩, -, X33, ⟨Lc33, hQ33, l33, y33, z33⟩, st33⟩ := X29.virtualBack hx (y := (⟨"com/example/brace/brace/account/Session$FixedRate", "afterCharge", "()Lcom/example/brace/brace/account/Session$FixedRate;"⟩ : MethodName)) (z := (⟨"com/example/brace/brace/account/Session$FixedRate", "afterCharge", "()Lcom/example/brace/brace/account/Session$FixedRate;"⟩ : MethodName)) hown (mvT hZ (hw _ (List.mem_of_getElem? (i := 5) rfl))) (mvT hZ (hw _ (List.mem_of_getElem? (i := 6) rfl))) (notFace_of_selects (args := #[]) (mvT hZ (hw _ (List.mem_of_getElem? (i := 8) rfl)))) (mvT hZ (hw _ (List.mem_of_getElem? (i := 8) rfl))) (mvT hZ (hw _ (List.mem_of_getElem? (i := 7) rfl))) (by decide) (backOf (W := 0) (rm1 l Z a0 hw [] w_SETTLED w_SETTLED w_NONE h0 n0 O0 S_SETTLED S_NONE) hZ (hw _ (List.mem_of_getElem? (i := 9) rfl)) (hw _ (List.mem_of_getElem? (i := 1) rfl)) (by decide) (by decide)) q33a q33c (g := (mkF m 73 #[iv pi0, iv x1, rv w_DUE, rv w_SETTLED, rv w_SETTLED] [(.ref w_SETTLED)])) rfl (by rw [hml]; rfl) (Steps.refl _) (argsL := []) (rest := []) (lenOf pd___Lcom_example_brace_brace_account_Session_FixedRate_ rfl) rfl (by show 2 * 0 + _ ≤ _; exact Nat.le_of_eq rfl) (hb hby at_73) (fun _ _ => ⟨rfl, e29q, (by decide : 0 + 0 ≤ _), (by decide : 0 + 0 ≤ _)⟩)
      dsimp only [Pt.U, Pt.locs, Pt.cells, Pt.slots] at X33 l33 y33 z33 st33 hQ33
      subst l33 y33 z33
      obtain ⟨hv33, N33q, e33q⟩ := hQ33
      have N34 := Fr.app N30 N33q
      have hw33 : v33 = some (.ref w_SETTLED) := by rw [hv33, if_neg ne_SETTLED_NONE]
      subst hw33
      have pre35 : ∀ t, Steps p.tables e below (T33.setTop (mkF m 76 #[iv pi0, iv x1, rv w_DUE, rv w_SETTLED, rv w_SETTLED] [(.ref w_SETTLED)])) t → Go t := fun t kt => pre32 t (st33.trans kt)
      have pre36 : ∀ t, Steps p.tables e below (T33.setTop (mkF m 86 #[iv pi0, iv x1, rv w_DUE, rv w_SETTLED, rv w_SETTLED] [(.int (1 : Int32))])) t → Go t := fun t kt => pre35 t (by
          refine y_aload X33.here hx (hb hby at_76) rfl rfl (pc' := 78) rfl ?_
          refine Jvm.RoadKit.acmp (g := (mkF m 78 #[iv pi0, iv x1, rv w_DUE, rv w_SETTLED, rv w_SETTLED] [(.ref w_SETTLED), (.ref w_SETTLED)])) X33 hx rfl rfl rfl (pc0 := 78) (pc' := 81) (same := true) rfl (hb hby at_78) rfl (decide_eq_true (congrArg Value.ref (rfl : w_SETTLED = w_SETTLED))) (by decide) (by decide) ?_
          show Steps p.tables e below (T33.setTop (mkF m 81 #[iv pi0, iv x1, rv w_DUE, rv w_SETTLED, rv w_SETTLED] [])) _
          refine y_iconst X33.here hx (hb hby at_81) (v := (1 : Int32)) rfl (pc' := 82) rfl ?_
          refine y_goto X33.here hx (hb hby at_82) (pc' := 86) (by decide) rfl ?_
          exact kt)
      obtain ⟨fs, hr, hrun, hended, hW, hsame⟩ := X33.leave (v := some (.int (1 : Int32))) (fun h => by rw [Bd.returns] at h; cases h)
      refine ⟨_, _, (hGo _).mp (pre36 _ ?_), hrun, hended, _, _, rfl, ?_, ⟨_, rfl⟩, hW, hsame.mono (by decide) (by decide)⟩
      · exact retN X33 hx (t := .boolean) Bd.returns (by simp) (hb hby at_86) hr
      · show Q0 Z pi0 w_UNRATED w_DUE w_SETTLED w_NONE h0 n0 _ T33.heap _
        rw [e33q]
        exact ⟨rfl, N34⟩
    · have pre37 : ∀ t, Steps p.tables e below (s₁.setTop (mkF m 37 #[iv pi0, iv x1, .unset, .unset, .unset] [(.int (2 : Int32)), (.int x1)])) t → Go t := fun t kt => pre20 t (by
          refine y_icmpYes X0.here hx (hb hby at_21) (feq hc21_21).2 (pc' := 35) (by decide) rfl ?_
          refine y_iloadN X0.here hx (hb hby at_35) rfl (pc' := 36) rfl ?_
          refine y_iconst X0.here hx (hb hby at_36) (v := (2 : Int32)) rfl (pc' := 37) rfl ?_
          exact kt)
      by_cases hc37_38 : x1 = (2 : Int32)
      · have pre39 : ∀ t, Steps p.tables e below (s₁.setTop (mkF m 40 #[iv pi0, iv x1, .unset, .unset, .unset] [])) t → Go t := fun t kt => pre37 t (by
            refine y_icmpNo X0.here hx (hb hby at_37) (teq hc37_38).2 (pc' := 40) rfl ?_
            exact kt)
        obtain ⟨T40, X40, e40, st40⟩ := getS2 X0 hx hZ hown (host := "") (Or.inl (hw _ (List.mem_of_getElem? (i := 3) rfl))) Via.refl e0 (S_SETTLED.ext O0.2) (g := (mkF m 40 #[iv pi0, iv x1, .unset, .unset, .unset] [])) rfl (hb hby at_40)
        have pre41 : ∀ t, Steps p.tables e below (T40.setTop (mkF m 43 #[iv pi0, iv x1, .unset, .unset, .unset] [(.ref w_SETTLED)])) t → Go t := fun t kt => pre39 t (st40 t kt)
        have pre42 : ∀ t, Steps p.tables e below (T40.setTop (mkF m 44 #[iv pi0, iv x1, rv w_SETTLED, .unset, .unset] [])) t → Go t := fun t kt => pre41 t (by
            refine y_astoreN X40.here hx (hb hby at_43) rfl (l' := #[iv pi0, iv x1, rv w_SETTLED, .unset, .unset]) rfl (pc' := 44) rfl ?_
            exact kt)
        obtain ⟨T43, X43, e43, st43⟩ := getS2 X40 hx hZ hown (host := "") (Or.inl (hw _ (List.mem_of_getElem? (i := 3) rfl))) Via.refl e40 (S_SETTLED.ext O0.2) (g := (mkF m 44 #[iv pi0, iv x1, rv w_SETTLED, .unset, .unset] [])) rfl (hb hby at_44)
        have pre44 : ∀ t, Steps p.tables e below (T43.setTop (mkF m 47 #[iv pi0, iv x1, rv w_SETTLED, .unset, .unset] [(.ref w_SETTLED)])) t → Go t := fun t kt => pre42 t (st43 t kt)
        have pre45 : ∀ t, Steps p.tables e below (T43.setTop (mkF m 60 #[iv pi0, iv x1, rv w_SETTLED, rv w_SETTLED, .unset] [(.ref w_SETTLED)])) t → Go t := fun t kt => pre44 t (by
            refine y_astoreN X43.here hx (hb hby at_47) rfl (l' := #[iv pi0, iv x1, rv w_SETTLED, rv w_SETTLED, .unset]) rfl (pc' := 48) rfl ?_
            refine y_goto X43.here hx (hb hby at_48) (pc' := 59) (by decide) rfl ?_
            refine y_aloadN X43.here hx (hb hby at_59) rfl rfl (pc' := 60) rfl ?_
            exact kt)
        obtain ⟨cq46, kq46, q46a, q46b, q46c⟩ := isOf hZ e43 (E_w_SETTLED.ext O0.2)
        obtain ⟨v46, _, ⟨T46, L46, k46, n46⟩, -, X46, ⟨Lc46, hQ46, l46, y46, z46⟩, st46⟩ := X43.virtualBack hx (y := (⟨"com/example/brace/brace/account/Session$FixedRate", "afterCharge", "()Lcom/example/brace/brace/account/Session$FixedRate;"⟩ : MethodName)) (z := (⟨"com/example/brace/brace/account/Session$FixedRate", "afterCharge", "()Lcom/example/brace/brace/account/Session$FixedRate;"⟩ : MethodName)) hown (mvT hZ (hw _ (List.mem_of_getElem? (i := 5) rfl))) (mvT hZ (hw _ (List.mem_of_getElem? (i := 6) rfl))) (notFace_of_selects (args := #[]) (mvT hZ (hw _ (List.mem_of_getElem? (i := 8) rfl)))) (mvT hZ (hw _ (List.mem_of_getElem? (i := 8) rfl))) (mvT hZ (hw _ (List.mem_of_getElem? (i := 7) rfl))) (by decide) (backOf (W := 0) (rm1 l Z a0 hw [] w_SETTLED w_SETTLED w_NONE h0 n0 O0 S_SETTLED S_NONE) hZ (hw _ (List.mem_of_getElem? (i := 9) rfl)) (hw _ (List.mem_of_getElem? (i := 1) rfl)) (by decide) (by decide)) q46a q46c (g := (mkF m 60 #[iv pi0, iv x1, rv w_SETTLED, rv w_SETTLED, .unset] [(.ref w_SETTLED)])) rfl (by rw [hml]; rfl) (Steps.refl _) (argsL := []) (rest := []) (lenOf pd___Lcom_example_brace_brace_account_Session_FixedRate_ rfl) rfl (by show 2 * 0 + _ ≤ _; exact Nat.le_of_eq rfl) (hb hby at_60) (fun _ _ => ⟨rfl, e43, (by decide : 0 + 0 ≤ _), (by decide : 0 + 0 ≤ _)⟩)
        dsimp only [Pt.U, Pt.locs, Pt.cells, Pt.slots] at X46 l46 y46 z46 st46 hQ46
        subst l46 y46 z46
        obtain ⟨hv46, N46q, e46q⟩ := hQ46
        have N47 := Fr.app N0 N46q
        have hw46 : v46 = some (.ref w_SETTLED) := by rw [hv46, if_neg ne_SETTLED_NONE]
        subst hw46
        have pre48 : ∀ t, Steps p.tables e below (T46.setTop (mkF m 63 #[iv pi0, iv x1, rv w_SETTLED, rv w_SETTLED, .unset] [(.ref w_SETTLED)])) t → Go t := fun t kt => pre45 t (st46.trans kt)
        have pre49 : ∀ t, Steps p.tables e below (T46.setTop (mkF m 73 #[iv pi0, iv x1, rv w_SETTLED, rv w_SETTLED, rv w_SETTLED] [(.ref w_SETTLED)])) t → Go t := fun t kt => pre48 t (by
            refine y_astore X46.here hx (hb hby at_63) rfl (l' := #[iv pi0, iv x1, rv w_SETTLED, rv w_SETTLED, rv w_SETTLED]) rfl (pc' := 65) rfl ?_
            refine y_aload X46.here hx (hb hby at_65) rfl rfl (pc' := 67) rfl ?_
            refine y_aloadN X46.here hx (hb hby at_67) rfl rfl (pc' := 68) rfl ?_
            refine Jvm.RoadKit.acmp (g := (mkF m 68 #[iv pi0, iv x1, rv w_SETTLED, rv w_SETTLED, rv w_SETTLED] [(.ref w_SETTLED), (.ref w_SETTLED)])) X46 hx rfl rfl rfl (pc0 := 68) (pc' := 71) (same := true) rfl (hb hby at_68) rfl (decide_eq_true (congrArg Value.ref (rfl : w_SETTLED = w_SETTLED))) (by decide) (by decide) ?_
            show Steps p.tables e below (T46.setTop (mkF m 71 #[iv pi0, iv x1, rv w_SETTLED, rv w_SETTLED, rv w_SETTLED] [])) _
            refine y_aload X46.here hx (hb hby at_71) rfl rfl (pc' := 73) rfl ?_
            exact kt)
        obtain ⟨cq50, kq50, q50a, q50b, q50c⟩ := isOf hZ e46q (E_w_SETTLED.ext O0.2)
        obtain ⟨v50, _, ⟨T50, L50, k50, n50⟩, -, X50, ⟨Lc50, hQ50, l50, y50, z50⟩, st50⟩ := X46.virtualBack hx (y := (⟨"com/example/brace/brace/account/Session$FixedRate", "afterCharge", "()Lcom/example/brace/brace/account/Session$FixedRate;"⟩ : MethodName)) (z := (⟨"com/example/brace/brace/account/Session$FixedRate", "afterCharge", "()Lcom/example/brace/brace/account/Session$FixedRate;"⟩ : MethodName)) hown (mvT hZ (hw _ (List.mem_of_getElem? (i := 5) rfl))) (mvT hZ (hw _ (List.mem_of_getElem? (i := 6) rfl))) (notFace_of_selects (args := #[]) (mvT hZ (hw _ (List.mem_of_getElem? (i := 8) rfl)))) (mvT hZ (hw _ (List.mem_of_getElem? (i := 8) rfl))) (mvT hZ (hw _ (List.mem_of_getElem? (i := 7) rfl))) (by decide) (backOf (W := 0) (rm1 l Z a0 hw [] w_SETTLED w_SETTLED w_NONE h0 n0 O0 S_SETTLED S_NONE) hZ (hw _ (List.mem_of_getElem? (i := 9) rfl)) (hw _ (List.mem_of_getElem? (i := 1) rfl)) (by decide) (by decide)) q50a q50c (g := (mkF m 73 #[iv pi0, iv x1, rv w_SETTLED, rv w_SETTLED, rv w_SETTLED] [(.ref w_SETTLED)])) rfl (by rw [hml]; rfl) (Steps.refl _) (argsL := []) (rest := []) (lenOf pd___Lcom_example_brace_brace_account_Session_FixedRate_ rfl) rfl (by show 2 * 0 + _ ≤ _; exact Nat.le_of_eq rfl) (hb hby at_73) (fun _ _ => ⟨rfl, e46q, (by decide : 0 + 0 ≤ _), (by decide : 0 + 0 ≤ _)⟩)
        dsimp only [Pt.U, Pt.locs, Pt.cells, Pt.slots] at X50 l50 y50 z50 st50 hQ50
        subst l50 y50 z50
        obtain ⟨hv50, N50q, e50q⟩ := hQ50
        have N51 := Fr.app N47 N50q
        have hw50 : v50 = some (.ref w_SETTLED) := by rw [hv50, if_neg ne_SETTLED_NONE]
        subst hw50
        have pre52 : ∀ t, Steps p.tables e below (T50.setTop (mkF m 76 #[iv pi0, iv x1, rv w_SETTLED, rv w_SETTLED, rv w_SETTLED] [(.ref w_SETTLED)])) t → Go t := fun t kt => pre49 t (st50.trans kt)
        have pre53 : ∀ t, Steps p.tables e below (T50.setTop (mkF m 86 #[iv pi0, iv x1, rv w_SETTLED, rv w_SETTLED, rv w_SETTLED] [(.int (1 : Int32))])) t → Go t := fun t kt => pre52 t (by
            refine y_aload X50.here hx (hb hby at_76) rfl rfl (pc' := 78) rfl ?_
            refine Jvm.RoadKit.acmp (g := (mkF m 78 #[iv pi0, iv x1, rv w_SETTLED, rv w_SETTLED, rv w_SETTLED] [(.ref w_SETTLED), (.ref w_SETTLED)])) X50 hx rfl rfl rfl (pc0 := 78) (pc' := 81) (same := true) rfl (hb hby at_78) rfl (decide_eq_true (congrArg Value.ref (rfl : w_SETTLED = w_SETTLED))) (by decide) (by decide) ?_
            show Steps p.tables e below (T50.setTop (mkF m 81 #[iv pi0, iv x1, rv w_SETTLED, rv w_SETTLED, rv w_SETTLED] [])) _
            refine y_iconst X50.here hx (hb hby at_81) (v := (1 : Int32)) rfl (pc' := 82) rfl ?_
            refine y_goto X50.here hx (hb hby at_82) (pc' := 86) (by decide) rfl ?_
            exact kt)
        obtain ⟨fs, hr, hrun, hended, hW, hsame⟩ := X50.leave (v := some (.int (1 : Int32))) (fun h => by rw [Bd.returns] at h; cases h)
        refine ⟨_, _, (hGo _).mp (pre53 _ ?_), hrun, hended, _, _, rfl, ?_, ⟨_, rfl⟩, hW, hsame.mono (by decide) (by decide)⟩
        · exact retN X50 hx (t := .boolean) Bd.returns (by simp) (hb hby at_86) hr
        · show Q0 Z pi0 w_UNRATED w_DUE w_SETTLED w_NONE h0 n0 _ T50.heap _
          rw [e50q]
          exact ⟨rfl, N51⟩
      · have pre54 : ∀ t, Steps p.tables e below (s₁.setTop (mkF m 51 #[iv pi0, iv x1, .unset, .unset, .unset] [])) t → Go t := fun t kt => pre37 t (by
            refine y_icmpYes X0.here hx (hb hby at_37) (feq hc37_38).2 (pc' := 51) (by decide) rfl ?_
            exact kt)
        obtain ⟨T55, X55, e55, st55⟩ := getS2 X0 hx hZ hown (host := "") (Or.inl (hw _ (List.mem_of_getElem? (i := 13) rfl))) Via.refl e0 (S_NONE.ext O0.2) (g := (mkF m 51 #[iv pi0, iv x1, .unset, .unset, .unset] [])) rfl (hb hby at_51)
        have pre56 : ∀ t, Steps p.tables e below (T55.setTop (mkF m 54 #[iv pi0, iv x1, .unset, .unset, .unset] [(.ref w_NONE)])) t → Go t := fun t kt => pre54 t (st55 t kt)
        have pre57 : ∀ t, Steps p.tables e below (T55.setTop (mkF m 55 #[iv pi0, iv x1, rv w_NONE, .unset, .unset] [])) t → Go t := fun t kt => pre56 t (by
            refine y_astoreN X55.here hx (hb hby at_54) rfl (l' := #[iv pi0, iv x1, rv w_NONE, .unset, .unset]) rfl (pc' := 55) rfl ?_
            exact kt)
        obtain ⟨T58, X58, e58, st58⟩ := getS2 X55 hx hZ hown (host := "") (Or.inl (hw _ (List.mem_of_getElem? (i := 13) rfl))) Via.refl e55 (S_NONE.ext O0.2) (g := (mkF m 55 #[iv pi0, iv x1, rv w_NONE, .unset, .unset] [])) rfl (hb hby at_55)
        have pre59 : ∀ t, Steps p.tables e below (T58.setTop (mkF m 58 #[iv pi0, iv x1, rv w_NONE, .unset, .unset] [(.ref w_NONE)])) t → Go t := fun t kt => pre57 t (st58 t kt)
        have pre60 : ∀ t, Steps p.tables e below (T58.setTop (mkF m 60 #[iv pi0, iv x1, rv w_NONE, rv w_NONE, .unset] [(.ref w_NONE)])) t → Go t := fun t kt => pre59 t (by
            refine y_astoreN X58.here hx (hb hby at_58) rfl (l' := #[iv pi0, iv x1, rv w_NONE, rv w_NONE, .unset]) rfl (pc' := 59) rfl ?_
            refine y_aloadN X58.here hx (hb hby at_59) rfl rfl (pc' := 60) rfl ?_
            exact kt)
        obtain ⟨cq61, kq61, q61a, q61b, q61c⟩ := isOf hZ e58 (E_w_NONE.ext O0.2)
        obtain ⟨v61, _, ⟨T61, L61, k61, n61⟩, -, X61, ⟨Lc61, hQ61, l61, y61, z61⟩, st61⟩ := X58.virtualBack hx (y := (⟨"com/example/brace/brace/account/Session$FixedRate", "afterCharge", "()Lcom/example/brace/brace/account/Session$FixedRate;"⟩ : MethodName)) (z := (⟨"com/example/brace/brace/account/Session$FixedRate", "afterCharge", "()Lcom/example/brace/brace/account/Session$FixedRate;"⟩ : MethodName)) hown (mvT hZ (hw _ (List.mem_of_getElem? (i := 5) rfl))) (mvT hZ (hw _ (List.mem_of_getElem? (i := 6) rfl))) (notFace_of_selects (args := #[]) (mvT hZ (hw _ (List.mem_of_getElem? (i := 8) rfl)))) (mvT hZ (hw _ (List.mem_of_getElem? (i := 8) rfl))) (mvT hZ (hw _ (List.mem_of_getElem? (i := 7) rfl))) (by decide) (backOf (W := 0) (rm1 l Z a0 hw [] w_NONE w_SETTLED w_NONE h0 n0 O0 S_SETTLED S_NONE) hZ (hw _ (List.mem_of_getElem? (i := 9) rfl)) (hw _ (List.mem_of_getElem? (i := 1) rfl)) (by decide) (by decide)) q61a q61c (g := (mkF m 60 #[iv pi0, iv x1, rv w_NONE, rv w_NONE, .unset] [(.ref w_NONE)])) rfl (by rw [hml]; rfl) (Steps.refl _) (argsL := []) (rest := []) (lenOf pd___Lcom_example_brace_brace_account_Session_FixedRate_ rfl) rfl (by show 2 * 0 + _ ≤ _; exact Nat.le_of_eq rfl) (hb hby at_60) (fun _ _ => ⟨rfl, e58, (by decide : 0 + 0 ≤ _), (by decide : 0 + 0 ≤ _)⟩)
        dsimp only [Pt.U, Pt.locs, Pt.cells, Pt.slots] at X61 l61 y61 z61 st61 hQ61
        subst l61 y61 z61
        obtain ⟨hv61, N61q, e61q⟩ := hQ61
        have N62 := Fr.app N0 N61q
        have hw61 : v61 = some (.ref w_NONE) := by rw [hv61, if_pos (rfl : w_NONE = w_NONE)]
        subst hw61
        have pre63 : ∀ t, Steps p.tables e below (T61.setTop (mkF m 63 #[iv pi0, iv x1, rv w_NONE, rv w_NONE, .unset] [(.ref w_NONE)])) t → Go t := fun t kt => pre60 t (st61.trans kt)
        have pre64 : ∀ t, Steps p.tables e below (T61.setTop (mkF m 73 #[iv pi0, iv x1, rv w_NONE, rv w_NONE, rv w_NONE] [(.ref w_NONE)])) t → Go t := fun t kt => pre63 t (by
            refine y_astore X61.here hx (hb hby at_63) rfl (l' := #[iv pi0, iv x1, rv w_NONE, rv w_NONE, rv w_NONE]) rfl (pc' := 65) rfl ?_
            refine y_aload X61.here hx (hb hby at_65) rfl rfl (pc' := 67) rfl ?_
            refine y_aloadN X61.here hx (hb hby at_67) rfl rfl (pc' := 68) rfl ?_
            refine Jvm.RoadKit.acmp (g := (mkF m 68 #[iv pi0, iv x1, rv w_NONE, rv w_NONE, rv w_NONE] [(.ref w_NONE), (.ref w_NONE)])) X61 hx rfl rfl rfl (pc0 := 68) (pc' := 71) (same := true) rfl (hb hby at_68) rfl (decide_eq_true (congrArg Value.ref (rfl : w_NONE = w_NONE))) (by decide) (by decide) ?_
            show Steps p.tables e below (T61.setTop (mkF m 71 #[iv pi0, iv x1, rv w_NONE, rv w_NONE, rv w_NONE] [])) _
            refine y_aload X61.here hx (hb hby at_71) rfl rfl (pc' := 73) rfl ?_
            exact kt)
        obtain ⟨cq65, kq65, q65a, q65b, q65c⟩ := isOf hZ e61q (E_w_NONE.ext O0.2)
        obtain ⟨v65, _, ⟨T65, L65, k65, n65⟩, -, X65, ⟨Lc65, hQ65, l65, y65, z65⟩, st65⟩ := X61.virtualBack hx (y := (⟨"com/example/brace/brace/account/Session$FixedRate", "afterCharge", "()Lcom/example/brace/brace/account/Session$FixedRate;"⟩ : MethodName)) (z := (⟨"com/example/brace/brace/account/Session$FixedRate", "afterCharge", "()Lcom/example/brace/brace/account/Session$FixedRate;"⟩ : MethodName)) hown (mvT hZ (hw _ (List.mem_of_getElem? (i := 5) rfl))) (mvT hZ (hw _ (List.mem_of_getElem? (i := 6) rfl))) (notFace_of_selects (args := #[]) (mvT hZ (hw _ (List.mem_of_getElem? (i := 8) rfl)))) (mvT hZ (hw _ (List.mem_of_getElem? (i := 8) rfl))) (mvT hZ (hw _ (List.mem_of_getElem? (i := 7) rfl))) (by decide) (backOf (W := 0) (rm1 l Z a0 hw [] w_NONE w_SETTLED w_NONE h0 n0 O0 S_SETTLED S_NONE) hZ (hw _ (List.mem_of_getElem? (i := 9) rfl)) (hw _ (List.mem_of_getElem? (i := 1) rfl)) (by decide) (by decide)) q65a q65c (g := (mkF m 73 #[iv pi0, iv x1, rv w_NONE, rv w_NONE, rv w_NONE] [(.ref w_NONE)])) rfl (by rw [hml]; rfl) (Steps.refl _) (argsL := []) (rest := []) (lenOf pd___Lcom_example_brace_brace_account_Session_FixedRate_ rfl) rfl (by show 2 * 0 + _ ≤ _; exact Nat.le_of_eq rfl) (hb hby at_73) (fun _ _ => ⟨rfl, e61q, (by decide : 0 + 0 ≤ _), (by decide : 0 + 0 ≤ _)⟩)
        dsimp only [Pt.U, Pt.locs, Pt.cells, Pt.slots] at X65 l65 y65 z65 st65 hQ65
        subst l65 y65 z65
        obtain ⟨hv65, N65q, e65q⟩ := hQ65
        have N66 := Fr.app N62 N65q
        have hw65 : v65 = some (.ref w_NONE) := by rw [hv65, if_pos (rfl : w_NONE = w_NONE)]
        subst hw65
        have pre67 : ∀ t, Steps p.tables e below (T65.setTop (mkF m 76 #[iv pi0, iv x1, rv w_NONE, rv w_NONE, rv w_NONE] [(.ref w_NONE)])) t → Go t := fun t kt => pre64 t (st65.trans kt)
        have pre68 : ∀ t, Steps p.tables e below (T65.setTop (mkF m 86 #[iv pi0, iv x1, rv w_NONE, rv w_NONE, rv w_NONE] [(.int (1 : Int32))])) t → Go t := fun t kt => pre67 t (by
            refine y_aload X65.here hx (hb hby at_76) rfl rfl (pc' := 78) rfl ?_
            refine Jvm.RoadKit.acmp (g := (mkF m 78 #[iv pi0, iv x1, rv w_NONE, rv w_NONE, rv w_NONE] [(.ref w_NONE), (.ref w_NONE)])) X65 hx rfl rfl rfl (pc0 := 78) (pc' := 81) (same := true) rfl (hb hby at_78) rfl (decide_eq_true (congrArg Value.ref (rfl : w_NONE = w_NONE))) (by decide) (by decide) ?_
            show Steps p.tables e below (T65.setTop (mkF m 81 #[iv pi0, iv x1, rv w_NONE, rv w_NONE, rv w_NONE] [])) _
            refine y_iconst X65.here hx (hb hby at_81) (v := (1 : Int32)) rfl (pc' := 82) rfl ?_
            refine y_goto X65.here hx (hb hby at_82) (pc' := 86) (by decide) rfl ?_
            exact kt)
        obtain ⟨fs, hr, hrun, hended, hW, hsame⟩ := X65.leave (v := some (.int (1 : Int32))) (fun h => by rw [Bd.returns] at h; cases h)
        refine ⟨_, _, (hGo _).mp (pre68 _ ?_), hrun, hended, _, _, rfl, ?_, ⟨_, rfl⟩, hW, hsame.mono (by decide) (by decide)⟩
        · exact retN X65 hx (t := .boolean) Bd.returns (by simp) (hb hby at_86) hr
        · show Q0 Z pi0 w_UNRATED w_DUE w_SETTLED w_NONE h0 n0 _ T65.heap _
          rw [e65q]
          exact ⟨rfl, N66⟩
set_option maxRecDepth 65536 in
set_option maxHeartbeats 40000000 in
theorem comes_1 {Post : Tables → Env → Array Value → State → Outcome → State → Prop} (hpost : ∀ tb e args s v u, (limb_1_1.after args s (.returned v) u = true ∧ limb_1_2.after args s (.returned v) u = true ∧ True) → FrameEnd s (.returned v) u (Jvm.fieldLocs frame_1_writes args s ++ Jvm.arrayLocs frame_1_arrays args s ++ Jvm.staticLocs frame_1_statics s) 0 0 → Post tb e args s (.returned v) u) :
    ArmFor flags0 classFile x code maxLocals ret World_1 tables_1 room_1 Calls_1 rest_1 Pre_1 Post := by
  intro l hfl _ _ p e ha hc hk s m args below hf hA hF happ hP
  obtain ⟨hcalls, hrest, hpre⟩ := hP
  obtain ⟨-, -, -, hnamed, -, -, -, hat⟩ := (Spec.applies_iff hf).mp happ
  obtain ⟨hg, hn⟩ := and_e (Cond.before_iff.mp (show (Jvm.Cond.and given_1 narrow_1).before args s = true from hpre))
  obtain ⟨g0, gr0⟩ := and_e hg
  obtain ⟨w0, rfl⟩ : ∃ w0 : Value, args = #[w0] := by
    have hs : args.size = 1 := by simpa [Cond.value, given_1] using g0
    obtain ⟨L⟩ := args
    match L, hs with
    | [w0], _ => exact ⟨w0, rfl⟩
  have hw := fun d (hd : d ∈ tables_1) => atoms_spec (ws := Jvm.Cond.code x code maxLocals ret :: tables_1) hat d (List.mem_cons_of_mem _ hd)
  have hfit : Fit s := fun {y c} hc i hi => by
    obtain ⟨ha, rfl⟩ := Array.getElem?_eq_some_iff.mp hc
    have q := List.all_eq_true.mp ((Array.all_eq_true_iff_forall_mem.mp hF) _ (Array.getElem_mem ha)) i (List.mem_range.mpr hi)
    simpa [Array.getElem?_eq_getElem hi] using q
  obtain ⟨i0, ei0⟩ := is_v gr0
  obtain rfl : w0 = (.int i0) := Option.some.inj ei0
  obtain ⟨n0, nr0⟩ := and_e hn
  obtain ⟨n1, nr1⟩ := and_e nr0
  obtain ⟨n2, nr2⟩ := and_e nr1
  obtain ⟨n3, nr3⟩ := and_e nr2
  obtain ⟨n4, nr4⟩ := and_e nr3
  obtain ⟨n5, nr5⟩ := and_e nr4
  obtain ⟨n6, nr6⟩ := and_e nr5
  obtain ⟨w_UNRATED, ev_UNRATED⟩ := exa_v n0
  have S_UNRATED := Sta.start ev_UNRATED (Or.inr ⟨(hw _ (List.mem_of_getElem? (i := 1) rfl)), (hw _ (List.mem_of_getElem? (i := 2) rfl))⟩)
  have E_w_UNRATED := Exa.start ev_UNRATED n0
  obtain ⟨w_SETTLED, ev_SETTLED⟩ := exa_v n1
  have S_SETTLED := Sta.start ev_SETTLED (Or.inr ⟨(hw _ (List.mem_of_getElem? (i := 1) rfl)), (hw _ (List.mem_of_getElem? (i := 4) rfl))⟩)
  have E_w_SETTLED := Exa.start ev_SETTLED n1
  obtain ⟨w_NONE, ev_NONE⟩ := exa_v n2
  have S_NONE := Sta.start ev_NONE (Or.inr ⟨(hw _ (List.mem_of_getElem? (i := 1) rfl)), (hw _ (List.mem_of_getElem? (i := 11) rfl))⟩)
  have E_w_NONE := Exa.start ev_NONE n2
  have F_ordinal_w_UNRATED := Fld.start ((fld_at ev_UNRATED).symm.trans (own_eqI n3))
  have F_ordinal_w_NONE := Fld.start ((fld_at ev_NONE).symm.trans (own_eqI n4))
  have F_ordinal_w_SETTLED := Fld.start ((fld_at ev_SETTLED).symm.trans (own_eqI n5))
  obtain ⟨w_DUE, ev_DUE⟩ := exa_v n6
  have S_DUE := Sta.start ev_DUE (Or.inr ⟨(hw _ (List.mem_of_getElem? (i := 1) rfl)), (hw _ (List.mem_of_getElem? (i := 15) rfl))⟩)
  have E_w_DUE := Exa.start ev_DUE n6
  have F_ordinal_w_DUE := Fld.start ((fld_at ev_DUE).symm.trans (own_eqI nr6))
  have ne_UNRATED_DUE : w_UNRATED ≠ w_DUE := Fld.ne F_ordinal_w_UNRATED F_ordinal_w_DUE (fun q => absurd (Value.int.inj q) (by decide))
  have ne_UNRATED_SETTLED : w_UNRATED ≠ w_SETTLED := Fld.ne F_ordinal_w_UNRATED F_ordinal_w_SETTLED (fun q => absurd (Value.int.inj q) (by decide))
  have ne_UNRATED_NONE : w_UNRATED ≠ w_NONE := Fld.ne F_ordinal_w_UNRATED F_ordinal_w_NONE (fun q => absurd (Value.int.inj q) (by decide))
  have ne_DUE_SETTLED : w_DUE ≠ w_SETTLED := Fld.ne F_ordinal_w_DUE F_ordinal_w_SETTLED (fun q => absurd (Value.int.inj q) (by decide))
  have ne_DUE_NONE : w_DUE ≠ w_NONE := Fld.ne F_ordinal_w_DUE F_ordinal_w_NONE (fun q => absurd (Value.int.inj q) (by decide))
  have ne_SETTLED_NONE : w_SETTLED ≠ w_NONE := Fld.ne F_ordinal_w_SETTLED F_ordinal_w_NONE (fun q => absurd (Value.int.inj q) (by decide))
  obtain ⟨n, o, h1, h2, h3, _, L, rfl, ⟨rfl, N⟩, hq⟩ := rm0 l s _ hw tables_1 i0 w_UNRATED w_DUE w_SETTLED w_NONE s.heap s.heap.size (Old.start s) S_UNRATED S_DUE S_SETTLED S_NONE E_w_UNRATED E_w_DUE E_w_SETTLED E_w_NONE ne_UNRATED_DUE ne_UNRATED_SETTLED ne_UNRATED_NONE ne_DUE_SETTLED ne_DUE_NONE ne_SETTLED_NONE p e ha hc hk s m _ below hf ((Spec.applies_iff_loose hf).mp happ).1 ⟨rfl, State.Warmed39.refl s, rfl⟩ trivial
  refine ⟨n, _, h1, h2, h3, hpost _ _ _ _ _ _ ⟨Cond.after_iff.mpr rfl, Cond.after_iff.mpr (eq_i res_at (Term.int_eval (1)) rfl), trivial⟩ ⟨hq.1, hq.2.1, (hq.2.2.sift fun y hy => Or.inr (N y hy)).mono (by decide) (by decide)⟩⟩
theorem main_1_1 : Claimed_1_1 := comes_1 fun _ _ _ _ _ _ h hF => ⟨h.1, hF⟩
theorem main_1_2 : Claimed_1_2 := comes_1 fun _ _ _ _ _ _ h hF => ⟨h.2.1, hF⟩
end Jvm.Pilot.@@N@@
namespace Jvm.Pilot.@@N@@
open Jvm Jvm.ClassFile Sem Op Lib Jvm.Free Jvm.Stand Jvm.Pilot.@@N@@.Jvm.D
/-! MADE BY PROGRAM (witnessworld.py) out of the Statement's table words and the real class files: 12 classes; the members and pool entries that the words name. The judged class is class 1, her method 1. -/
namespace start1
open Jvm.ClassFile
def u (s : String) : CpInfo := .utf8 (stringToUtf16 s)
/-- a pool by its gaps: so many unusable entries, then the entry; so many at the end -/
def gap : Nat → List CpInfo → List CpInfo
  | 0, r => r
  | n + 1, r => .unusable :: gap n r
def poolList (es : List (Nat × CpInfo)) (last : Nat) : List CpInfo := es.foldr (fun e r => gap e.1 (e.2 :: r)) (gap last [])
def pool (es : List (Nat × CpInfo)) (last : Nat) : Array CpInfo := ⟨poolList es last⟩
def fileOf (pool : Array CpInfo) (this : Nat) (attrs : Array Attribute := #[]) (ms : Array MethodInfo := #[]) (fl : Nat := 33) (sup : Nat := 0) (ifs : Array Nat := #[]) (fds : Array FieldInfo := #[]) : ClassFile where
  minorVersion := 0
  majorVersion := 65
  constantPool := pool
  accessFlags := fl
  thisClass := this
  superClass := sup
  interfaces := ifs
  fields := fds
  methods := ms
  attributes := attrs
def plain (name : String) (sup : Option ClassId) : Class where
  name := name
  kind := .ordinary
  loader := none
  accessFlags := 33
  super := sup
  interfaces := #[]
  cf := none
  fields := #[]
  methods := #[]
  instanceTypes := #[]
  staticTypes := #[]
  resolved := #[]
  callSites := []
  init := .initialized
  statics := none
  mirror := none

def pool0 : Array CpInfo := pool [(5, u "<init>"), (0, u "()V"), (1, .class_ 10), (1, u "java/lang/Object")] 113

def k0m0 : Method := { name := "<init>", desc := "()V", sig := { parameters := [], returnType := none }, accessFlags := 1, code := none }
/-- java/lang/Object -/
def k0 : Class := { plain "java/lang/Object" none with
  accessFlags := 33
  interfaces := #[]
  cf := some (fileOf pool0 8 #[] #[{ accessFlags := 1, nameIndex := 5, descriptorIndex := 6, attributes := #[] }] 33 0 #[] #[])
  fields := #[]
  methods := #[k0m0]
  instanceTypes := #[]
  staticTypes := #[]
  resolved := Array.replicate 124 none
  statics := none }

def pool1 : Array CpInfo := pool [(2, .class_ 4), (1, u "java/lang/Object"), (0, u "<init>"), (0, u "()V"), (0, .fieldref 8 9), (0, .class_ 10), (0, .nameAndType 11 12), (0, u "com/example/brace/brace/account/Session$FixedRate"), (0, u "UNRATED"), (0, u "Lcom/example/brace/brace/account/Session$FixedRate;"), (0, .fieldref 8 14), (0, .nameAndType 15 12), (0, u "SETTLED"), (0, .fieldref 8 17), (0, .nameAndType 18 12), (0, u "DUE"), (0, .fieldref 8 20), (0, .nameAndType 21 12), (0, u "NONE"), (0, .methodref 8 23), (0, .nameAndType 24 25), (0, u "afterCharge"), (0, u "()Lcom/example/brace/brace/account/Session$FixedRate;"), (0, .class_ 27), (0, u "com/example/brace/brace/account/FixedRateAfterChargePinLaw"), (2, u "law"), (0, u "(I)Z")] 7

def k1m0 : Method := { name := "<init>", desc := "()V", sig := { parameters := [], returnType := none }, accessFlags := 1, code := none }
def k1c1 : Code := { maxStack := 2, maxLocals := 5, code := code, exceptionTable := #[], attributes := #[] }
def k1m1 : Method := { name := "law", desc := "(I)Z", sig := { parameters := [.int], returnType := some .boolean }, accessFlags := 9, code := some k1c1 }
/-- com/example/brace/brace/account/FixedRateAfterChargePinLaw -/
def k1 : Class := { plain "com/example/brace/brace/account/FixedRateAfterChargePinLaw" (some 0) with
  accessFlags := 49
  interfaces := #[]
  cf := some (fileOf pool1 26 #[] #[{ accessFlags := 1, nameIndex := 5, descriptorIndex := 6, attributes := #[] }, { accessFlags := 9, nameIndex := 30, descriptorIndex := 31, attributes := #[] }] 49 2 #[] #[])
  fields := #[]
  methods := #[k1m0, k1m1]
  instanceTypes := #[]
  staticTypes := #[]
  resolved := Array.replicate 39 none
  statics := none }

def pool2 : Array CpInfo := pool [(1, .class_ 2), (0, u "java/lang/constant/Constable"), (0, .class_ 4), (0, u "java/lang/Object")] 6

/-- java/lang/constant/Constable -/
def k2 : Class := { plain "java/lang/constant/Constable" (some 0) with
  accessFlags := 1537
  interfaces := #[]
  cf := some (fileOf pool2 1 #[] #[] 1537 3 #[] #[])
  fields := #[]
  methods := #[]
  instanceTypes := #[]
  staticTypes := #[]
  resolved := Array.replicate 11 none
  statics := none }

def pool3 : Array CpInfo := pool [(1, .class_ 2), (0, u "java/lang/Comparable"), (0, .class_ 4), (0, u "java/lang/Object")] 7

/-- java/lang/Comparable -/
def k3 : Class := { plain "java/lang/Comparable" (some 0) with
  accessFlags := 1537
  interfaces := #[]
  cf := some (fileOf pool3 1 #[] #[] 1537 3 #[] #[])
  fields := #[]
  methods := #[]
  instanceTypes := #[]
  staticTypes := #[]
  resolved := Array.replicate 12 none
  statics := none }

def pool4 : Array CpInfo := pool [(1, .class_ 2), (0, u "java/io/Serializable"), (0, .class_ 4), (0, u "java/lang/Object")] 2

/-- java/io/Serializable -/
def k4 : Class := { plain "java/io/Serializable" (some 0) with
  accessFlags := 1537
  interfaces := #[]
  cf := some (fileOf pool4 1 #[] #[] 1537 3 #[] #[])
  fields := #[]
  methods := #[]
  instanceTypes := #[]
  staticTypes := #[]
  resolved := Array.replicate 7 none
  statics := none }

def pool5 : Array CpInfo := pool [(2, .class_ 4), (1, u "java/lang/Enum"), (0, u "name"), (0, u "Ljava/lang/String;"), (2, u "ordinal"), (0, u "I"), (1, .class_ 14), (1, u "java/lang/Object"), (4, u "hash"), (86, .class_ 108), (1, u "java/lang/Enum$EnumDesc"), (2, .class_ 112), (0, u "java/lang/constant/Constable"), (0, .class_ 114), (0, u "java/lang/Comparable"), (0, .class_ 116), (0, u "java/io/Serializable")] 87

/-- java/lang/Enum -/
def k5 : Class := { plain "java/lang/Enum" (some 0) with
  accessFlags := 1057
  interfaces := #[2, 3, 4]
  cf := some (fileOf pool5 2 #[.nestMembers #[106]] #[] 1057 12 #[111, 113, 115] #[{ accessFlags := 18, nameIndex := 5, descriptorIndex := 6, attributes := #[] }, { accessFlags := 18, nameIndex := 9, descriptorIndex := 10, attributes := #[] }, { accessFlags := 2, nameIndex := 19, descriptorIndex := 10, attributes := #[] }])
  fields := #[{ name := "name", type := (.object "java/lang/String"), accessFlags := 18, slot := 0, constantValue := 0 }, { name := "ordinal", type := .int, accessFlags := 18, slot := 1, constantValue := 0 }, { name := "hash", type := .int, accessFlags := 2, slot := 2, constantValue := 0 }]
  methods := #[]
  instanceTypes := #[(.object "java/lang/String"), .int, .int]
  staticTypes := #[]
  resolved := Array.replicate 204 none
  statics := none }

def pool6 : Array CpInfo := pool [(1, .class_ 2), (0, u "com/example/brace/brace/account/Session$FixedRate"), (2, u "UNRATED"), (0, u "Lcom/example/brace/brace/account/Session$FixedRate;"), (2, u "DUE"), (0, .fieldref 1 11), (0, .nameAndType 12 6), (0, u "SETTLED"), (0, .fieldref 1 14), (0, .nameAndType 15 6), (0, u "NONE"), (2, u "$VALUES"), (0, u "[Lcom/example/brace/brace/account/Session$FixedRate;"), (6, .class_ 28), (1, u "java/lang/Enum"), (28, u "afterCharge"), (0, u "()Lcom/example/brace/brace/account/Session$FixedRate;"), (5, .class_ 65), (0, u "com/example/brace/brace/account/Session")] 2

def k6c0 : Code := { maxStack := 2, maxLocals := 1, code := prog_4_method_7_code, exceptionTable := #[], attributes := #[] }
def k6m0 : Method := { name := "afterCharge", desc := "()Lcom/example/brace/brace/account/Session$FixedRate;", sig := { parameters := [], returnType := some (.object "com/example/brace/brace/account/Session$FixedRate") }, accessFlags := 1, code := some k6c0 }
/-- com/example/brace/brace/account/Session$FixedRate -/
def k6 : Class := { plain "com/example/brace/brace/account/Session$FixedRate" (some 5) with
  accessFlags := 16433
  interfaces := #[]
  cf := some (fileOf pool6 1 #[.nestHost 64] #[{ accessFlags := 1, nameIndex := 57, descriptorIndex := 58, attributes := #[] }] 16433 26 #[] #[{ accessFlags := 16409, nameIndex := 5, descriptorIndex := 6, attributes := #[] }, { accessFlags := 16409, nameIndex := 9, descriptorIndex := 6, attributes := #[] }, { accessFlags := 16409, nameIndex := 12, descriptorIndex := 6, attributes := #[] }, { accessFlags := 16409, nameIndex := 15, descriptorIndex := 6, attributes := #[] }, { accessFlags := 4122, nameIndex := 18, descriptorIndex := 19, attributes := #[] }])
  fields := #[{ name := "UNRATED", type := (.object "com/example/brace/brace/account/Session$FixedRate"), accessFlags := 16409, slot := 0, constantValue := 0 }, { name := "DUE", type := (.object "com/example/brace/brace/account/Session$FixedRate"), accessFlags := 16409, slot := 1, constantValue := 0 }, { name := "SETTLED", type := (.object "com/example/brace/brace/account/Session$FixedRate"), accessFlags := 16409, slot := 2, constantValue := 0 }, { name := "NONE", type := (.object "com/example/brace/brace/account/Session$FixedRate"), accessFlags := 16409, slot := 3, constantValue := 0 }, { name := "$VALUES", type := (.array (.object "com/example/brace/brace/account/Session$FixedRate")), accessFlags := 4122, slot := 4, constantValue := 0 }]
  methods := #[k6m0]
  instanceTypes := #[(.object "java/lang/String"), .int, .int]
  staticTypes := #[(.object "com/example/brace/brace/account/Session$FixedRate"), (.object "com/example/brace/brace/account/Session$FixedRate"), (.object "com/example/brace/brace/account/Session$FixedRate"), (.object "com/example/brace/brace/account/Session$FixedRate"), (.array (.object "com/example/brace/brace/account/Session$FixedRate"))]
  resolved := Array.replicate 68 none
  statics := some 0 }

def pool7 : Array CpInfo := pool [(1, u "java/lang/Cloneable"), (0, .class_ 1), (0, u "java/lang/Object"), (0, .class_ 3)] 3

/-- java/lang/Cloneable -/
def k7 : Class := { plain "java/lang/Cloneable" (some 0) with
  accessFlags := 1537
  interfaces := #[]
  cf := some (fileOf pool7 2 #[] #[] 1537 4 #[] #[])
  fields := #[]
  methods := #[]
  instanceTypes := #[]
  staticTypes := #[]
  resolved := Array.replicate 8 none
  statics := none }

/-- the primitive byte -/
def k8 : Class := { plain "byte" none with kind := .primitive 'B', accessFlags := 0x411 }
/-- [B -/
def k9 : Class := { plain "[B" (some 0) with kind := .array 8 .byte, interfaces := #[7, 4], accessFlags := 1041 }

/-- the primitive int -/
def k10 : Class := { plain "int" none with kind := .primitive 'I', accessFlags := 0x411 }
/-- [I -/
def k11 : Class := { plain "[I" (some 0) with kind := .array 10 .int, interfaces := #[7, 4], accessFlags := 1041 }

def heap : Heap := #[{ cls := 6, slots := #[.ref 1, .ref 2, .ref 3, .ref 4, .null], vm := .statics 6 },
  { cls := 6, slots := #[.null, .int 0, .int 0], vm := .none },
  { cls := 6, slots := #[.null, .int 1, .int 0], vm := .none },
  { cls := 6, slots := #[.null, .int 2, .int 0], vm := .none },
  { cls := 6, slots := #[.null, .int 3, .int 0], vm := .none }]
def classes : Array Class := #[k0, k1, k2, k3, k4, k5, k6, k7, k8, k9, k10, k11]
def interned : List (Array UInt16 × Addr) := []
def slotsUsed : Nat := 17
def theMethod : MethodId := ⟨1, 1⟩
def args0 : Array Value := #[.int 5]
def aboutOver (below : List Frame) : State where
  vm := { classes := classes, interned := interned.toArray }
  heap := heap
  slotsUsed := slotsUsed
  threads := #[{ frames := .invoking theMethod args0 :: below }]
def below0 : List Frame := [.native { method := ⟨0, 0⟩, args := #[] }]
def about1 : State := aboutOver below0
def p0 : Program := .bare "" "" ""
def e0 : Env := launch0.env 0 0 0
theorem w_frames : about1.frames = Frame.invoking theMethod args0 :: below0 := rfl
set_option maxRecDepth 65536 in
theorem w_args : argsFit about1.vm theMethod args0 = true := by decide +kernel
set_option maxRecDepth 65536 in
theorem w_heap : heapFits about1 = true := by decide +kernel
set_option maxRecDepth 65536 in
theorem w_runnable : about1.curStatus? = some .runnable := by decide +kernel
set_option maxRecDepth 65536 in
theorem w_alone : about1.alone = true := by decide +kernel
set_option maxRecDepth 65536 in
theorem w_named : about1.methodNamed? x = some theMethod := by decide +kernel
set_option maxRecDepth 65536 in
theorem w_hears : about1.hears theMethod below0 = true := by decide +kernel
set_option maxRecDepth 65536 in
theorem w_ripe : about1.ripe theMethod args0 below0 = true := by decide +kernel
theorem w_running : about1.status = .running := rfl
set_option maxRecDepth 65536 in
theorem w_room : about1.hasRoom e0.platform room_1 = true :=
  launch0.hasRoom_least _ room_1 (by decide +kernel) (by decide +kernel) (by decide +kernel) (by decide +kernel) (by decide +kernel) (by decide +kernel)
theorem allAtoms_all (ts : List Jvm.Cond) (a : Array Jvm.Value) (st : Jvm.State) : (allAtoms ts).before a st = ts.all (fun c => c.before a st) := by
  induction ts with
  | nil => rfl
  | cons c t ih =>
    show (Jvm.Cond.and c (allAtoms t)).before a st = _
    rw [Jvm.Cond.before_and, ih, List.all_cons]
def words1 : List Jvm.Cond := Jvm.Cond.code x code maxLocals ret :: tables_1
/-- a 'code' word, met by the world's own term for the bytes: nothing is compared byte by byte -/
theorem code_word {y : MethodName} {bytes : ByteArray} {mx : Nat} {rt : Option FieldType} {a : Array Value} {s : State} {m : MethodId} {meth : Method} {c : Code} (h1 : s.methodNamed? y = some m) (h2 : s.vm.method? m = some meth) (h3 : meth.code = some c) (h4 : c.code = bytes)
    (h5 : (c.maxLocals == mx && c.exceptionTable.isEmpty && decide (c.maxStack ≤ mostOperands) && decide (meth.sig.returnType = rt) && !meth.locks && decide (parseMethodDescriptor y.desc = some meth.sig)) = true) : (Jvm.Cond.code y bytes mx rt).before a s = true := by
  simp only [Bool.and_eq_true, beq_iff_eq, Bool.not_eq_true', decide_eq_true_eq] at h5
  obtain ⟨⟨⟨⟨⟨g1, g2⟩, g3⟩, g4⟩, g5⟩, g6⟩ := h5
  simp [Cond.before, Cond.holds, Cond.value, h1, h2, h3, h4, g1, g2, g3, g4, g5, g6]
def isCode : Jvm.Cond → Bool
  | .code _ _ _ _ => true
  | _ => false
theorem all_split {L : List Jvm.Cond} {P : Jvm.Cond → Bool} (h1 : L.all (fun c => isCode c || P c) = true) (h2 : ∀ c ∈ L.filter isCode, P c = true) : L.all P = true := by
  refine List.all_eq_true.mpr fun c hc => ?_
  have h := List.all_eq_true.mp h1 c hc
  rcases Bool.eq_false_or_eq_true (isCode c) with hi | hi
  · exact h2 c (List.mem_filter.mpr ⟨hc, hi⟩)
  · simpa [hi] using h
set_option maxRecDepth 65536 in
theorem w_c0 : (Jvm.Cond.code x code maxLocals ret).before args0 about1 = true := code_word (m := ⟨1, 1⟩) (meth := k1m1) (c := k1c1) (by decide +kernel) rfl rfl rfl (by decide +kernel)
set_option maxRecDepth 65536 in
theorem w_c1 : (Jvm.Cond.code ({ cls := "com/example/brace/brace/account/Session$FixedRate", name := "afterCharge", desc := "()Lcom/example/brace/brace/account/Session$FixedRate;" } : Jvm.MethodName) prog_4_method_7_code (1 : Nat) (Option.some (Jvm.ClassFile.FieldType.object "com/example/brace/brace/account/Session$FixedRate"))).before args0 about1 = true := code_word (m := ⟨6, 0⟩) (meth := k6m0) (c := k6c0) (by decide +kernel) rfl rfl rfl (by decide +kernel)
def codes1 : List Jvm.Cond := [Jvm.Cond.code x code maxLocals ret, Jvm.Cond.code ({ cls := "com/example/brace/brace/account/Session$FixedRate", name := "afterCharge", desc := "()Lcom/example/brace/brace/account/Session$FixedRate;" } : Jvm.MethodName) prog_4_method_7_code (1 : Nat) (Option.some (Jvm.ClassFile.FieldType.object "com/example/brace/brace/account/Session$FixedRate"))]
set_option maxRecDepth 65536 in
theorem codes_eq : words1.filter isCode = codes1 := rfl
theorem w_codes : ∀ c ∈ words1.filter isCode, c.before args0 about1 = true := by
  rw [codes_eq]
  intro c hc
  simp only [codes1, List.mem_cons, List.not_mem_nil, or_false] at hc
  rcases hc with rfl | rfl
  · exact w_c0
  · exact w_c1
set_option maxRecDepth 65536 in
theorem w_t1 : words1.all (fun c => isCode c || c.before args0 about1) = true := by decide +kernel
theorem w_tables : (allAtoms (Jvm.Cond.code x code maxLocals ret :: tables_1)).before args0 about1 = true := by
  rw [allAtoms_all]
  show words1.all (fun c => c.before args0 about1) = true
  refine all_split ?_ w_codes
  rw [w_t1]
set_option maxRecDepth 65536 in
theorem w_case : (Jvm.Cond.and given_1 narrow_1).before args0 about1 = true := by decide +kernel
theorem w_applies : (headSpec (Jvm.Cond.code x code maxLocals ret :: tables_1) room_1).applies x e0.platform about1 = true :=
  (Spec.applies_iff w_frames).mpr ⟨w_running, w_runnable, w_alone, w_named, w_hears, w_ripe, w_room, w_tables⟩
theorem atStart : AtStart classFile x code maxLocals ret World_1 tables_1 room_1 Calls_1 rest_1 Pre_1 launch0 p0 e0 about1 theMethod args0 below0 :=
  ⟨lists_1, trivial, launch0.admits_env _ _ _, launch0.least_env, fairChoices_fair.cas, fairChoices_fair.clock, w_frames, w_args, w_heap, w_applies, trivial, trivial, w_case⟩
end start1
theorem witness_1 : WitnessClaimed_1 := ⟨start1.p0, start1.e0, start1.about1, start1.theMethod, start1.args0, start1.below0, start1.atStart⟩
end Jvm.Pilot.@@N@@
