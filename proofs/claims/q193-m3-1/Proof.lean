import JvmDerived
import JvmDerived.Pilot.@@N@@Statement
import JvmDerived.Pilot.@@N@@Code
set_option linter.unusedVariables false
set_option linter.unusedSimpArgs false
namespace Jvm.Pilot.@@N@@
open Jvm Jvm.ClassFile Sem Op Lib Jvm.Free Jvm.Stand Jvm.LawKit Jvm.RoadKit Bundle Jvm.Pilot.@@N@@.Jvm.D
/-- the run stands at T' as it stood at T: the heap is the same -/
def Nx {p : Program} {l : Launch} {e : Env} {R : Room} {s : State} {m : MethodId} {args : Array Value} {below : List Frame} {meth : Method} {c : Code} {T : State} {locs : List Loc} {cells slots : Nat} (X : Stand p l e R s m args below meth c T locs cells slots) (T' : State) : Prop := Stand p l e R s m args below meth c T' locs cells slots ∧ T'.heap = T.heap
theorem lq_eq {x y : Int64} (h : x = y) : lcmpW x y = 0 := (lcW x y).trans ((lc_eq x y).mpr h)
theorem lq_ne {x y : Int64} (h : ¬ x = y) : ¬ lcmpW x y = 0 := fun q => h ((lc_eq x y).mp ((lcW x y).symm.trans q))
theorem lq_lt {x y : Int64} (h : x < y) : lcmpW x y < 0 := by rw [lcW]; exact (lc_lt x y).mpr h
theorem lq_nlt {x y : Int64} (h : ¬ x < y) : ¬ lcmpW x y < 0 := by rw [lcW]; exact fun q => h ((lc_lt x y).mp q)
theorem lq_gt {x y : Int64} (h : y < x) : 0 < lcmpW x y := by rw [lcW]; exact (lc_gt x y).mpr h
theorem lq_ngt {x y : Int64} (h : ¬ y < x) : ¬ 0 < lcmpW x y := by rw [lcW]; exact fun q => h ((lc_gt x y).mp q)
theorem own_eqI {args : Array Value} {first s : State} {o : Option Outcome} {idx : List Nat} {t : Term} {k : Int32} (h : (Jvm.Cond.eq t (.int k)).value args first o s idx = some true) : t.eval args first o idx s = some (.int k) := by
  simp only [Cond.value, Term.eval] at h
  cases ht : t.eval args first o idx s with
  | none => simp [ht] at h
  | some x => cases x <;> simp [ht] at h ⊢; exact h
theorem own_eqL {args : Array Value} {first s : State} {o : Option Outcome} {idx : List Nat} {t : Term} {k : Int64} (h : (Jvm.Cond.eq t (.long k)).value args first o s idx = some true) : t.eval args first o idx s = some (.long k) := by
  simp only [Cond.value, Term.eval] at h
  cases ht : t.eval args first o idx s with
  | none => simp [ht] at h
  | some x => cases x <;> simp [ht] at h ⊢; exact h
abbrev jv (x : Int64) : Slot := .val (.long x)
theorem y_iloadN {tb : Tables} [Ours tb] {e : Env} {below : List Frame} {T target : State} {m : MethodId} {c : Code} (h : At T m c below) (hx : tb.exec = Jvm.exec) {pc pc' : Nat} {L : Array Slot} {S : List Value} {k : Fin 4} {v : Int32} (hd : decode c.code pc = .ok (.iload_n k, 1)) (hl : L[k.val]? = some (.val (.int v))) (hp : pc + 1 = pc') (hr : Steps tb e below (T.setTop (mkF m pc' L (.int v :: S))) target) : Steps tb e below (T.setTop (mkF m pc L S)) target := by subst hp; exact XS.iloadN h hx rfl hd hl hr
theorem y_lloadN {tb : Tables} [Ours tb] {e : Env} {below : List Frame} {T target : State} {m : MethodId} {c : Code} (h : At T m c below) (hx : tb.exec = Jvm.exec) {pc pc' : Nat} {L : Array Slot} {S : List Value} {k : Fin 4} {v : Int64} (hd : decode c.code pc = .ok (.lload_n k, 1)) (hl : L[k.val]? = some (.val (.long v))) (hp : pc + 1 = pc') (hr : Steps tb e below (T.setTop (mkF m pc' L (.long v :: S))) target) : Steps tb e below (T.setTop (mkF m pc L S)) target := by subst hp; exact XS.lloadN h hx rfl hd hl hr
theorem y_aloadN {tb : Tables} [Ours tb] {e : Env} {below : List Frame} {T target : State} {m : MethodId} {c : Code} (h : At T m c below) (hx : tb.exec = Jvm.exec) {pc pc' : Nat} {L : Array Slot} {S : List Value} {k : Fin 4} {v : Value} (hd : decode c.code pc = .ok (.aload_n k, 1)) (hl : L[k.val]? = some (.val v)) (hv : v.isRef = true) (hp : pc + 1 = pc') (hr : Steps tb e below (T.setTop (mkF m pc' L (v :: S))) target) : Steps tb e below (T.setTop (mkF m pc L S)) target := by subst hp; exact XS.aloadN h hx rfl hd hl hv hr
theorem y_istoreN {tb : Tables} [Ours tb] {e : Env} {below : List Frame} {T target : State} {m : MethodId} {c : Code} (h : At T m c below) (hx : tb.exec = Jvm.exec) {pc pc' : Nat} {L : Array Slot} {S : List Value} {k : Fin 4} {v : Int32} {l' : Array Slot} (hd : decode c.code pc = .ok (.istore_n k, 1)) (hl : storeLocals L k.val (.int v) = some l') (hp : pc + 1 = pc') (hr : Steps tb e below (T.setTop (mkF m pc' l' S)) target) : Steps tb e below (T.setTop (mkF m pc L (.int v :: S))) target := by subst hp; exact XS.istoreN h hx rfl hd rfl hl hr
theorem y_lstoreN {tb : Tables} [Ours tb] {e : Env} {below : List Frame} {T target : State} {m : MethodId} {c : Code} (h : At T m c below) (hx : tb.exec = Jvm.exec) {pc pc' : Nat} {L : Array Slot} {S : List Value} {k : Fin 4} {v : Int64} {l' : Array Slot} (hd : decode c.code pc = .ok (.lstore_n k, 1)) (hl : storeLocals L k.val (.long v) = some l') (hp : pc + 1 = pc') (hr : Steps tb e below (T.setTop (mkF m pc' l' S)) target) : Steps tb e below (T.setTop (mkF m pc L (.long v :: S))) target := by subst hp; exact XS.lstoreN h hx rfl hd rfl hl hr
theorem y_astoreN {tb : Tables} [Ours tb] {e : Env} {below : List Frame} {T target : State} {m : MethodId} {c : Code} (h : At T m c below) (hx : tb.exec = Jvm.exec) {pc pc' : Nat} {L : Array Slot} {S : List Value} {k : Fin 4} {v : Value} {l' : Array Slot} (hd : decode c.code pc = .ok (.astore_n k, 1)) (hv : v.isRef = true) (hl : storeLocals L k.val v = some l') (hp : pc + 1 = pc') (hr : Steps tb e below (T.setTop (mkF m pc' l' S)) target) : Steps tb e below (T.setTop (mkF m pc L (v :: S))) target := by subst hp; exact XS.astoreN h hx rfl hd rfl hv hl hr
theorem y_iload {tb : Tables} [Ours tb] {e : Env} {below : List Frame} {T target : State} {m : MethodId} {c : Code} (h : At T m c below) (hx : tb.exec = Jvm.exec) {pc pc' : Nat} {L : Array Slot} {S : List Value} {k : Nat} {v : Int32} (hd : decode c.code pc = .ok (.iload k, 2)) (hl : L[k]? = some (.val (.int v))) (hp : pc + 2 = pc') (hr : Steps tb e below (T.setTop (mkF m pc' L (.int v :: S))) target) : Steps tb e below (T.setTop (mkF m pc L S)) target := by subst hp; exact XS.iload h hx rfl hd hl hr
theorem y_lload {tb : Tables} [Ours tb] {e : Env} {below : List Frame} {T target : State} {m : MethodId} {c : Code} (h : At T m c below) (hx : tb.exec = Jvm.exec) {pc pc' : Nat} {L : Array Slot} {S : List Value} {k : Nat} {v : Int64} (hd : decode c.code pc = .ok (.lload k, 2)) (hl : L[k]? = some (.val (.long v))) (hp : pc + 2 = pc') (hr : Steps tb e below (T.setTop (mkF m pc' L (.long v :: S))) target) : Steps tb e below (T.setTop (mkF m pc L S)) target := by subst hp; exact XS.lload h hx rfl hd hl hr
theorem y_aload {tb : Tables} [Ours tb] {e : Env} {below : List Frame} {T target : State} {m : MethodId} {c : Code} (h : At T m c below) (hx : tb.exec = Jvm.exec) {pc pc' : Nat} {L : Array Slot} {S : List Value} {k : Nat} {v : Value} (hd : decode c.code pc = .ok (.aload k, 2)) (hl : L[k]? = some (.val v)) (hv : v.isRef = true) (hp : pc + 2 = pc') (hr : Steps tb e below (T.setTop (mkF m pc' L (v :: S))) target) : Steps tb e below (T.setTop (mkF m pc L S)) target := by subst hp; exact XS.aload h hx rfl hd hl hv hr
theorem y_istore {tb : Tables} [Ours tb] {e : Env} {below : List Frame} {T target : State} {m : MethodId} {c : Code} (h : At T m c below) (hx : tb.exec = Jvm.exec) {pc pc' : Nat} {L : Array Slot} {S : List Value} {k : Nat} {v : Int32} {l' : Array Slot} (hd : decode c.code pc = .ok (.istore k, 2)) (hl : storeLocals L k (.int v) = some l') (hp : pc + 2 = pc') (hr : Steps tb e below (T.setTop (mkF m pc' l' S)) target) : Steps tb e below (T.setTop (mkF m pc L (.int v :: S))) target := by subst hp; exact XS.istore h hx rfl hd rfl hl hr
theorem y_lstore {tb : Tables} [Ours tb] {e : Env} {below : List Frame} {T target : State} {m : MethodId} {c : Code} (h : At T m c below) (hx : tb.exec = Jvm.exec) {pc pc' : Nat} {L : Array Slot} {S : List Value} {k : Nat} {v : Int64} {l' : Array Slot} (hd : decode c.code pc = .ok (.lstore k, 2)) (hl : storeLocals L k (.long v) = some l') (hp : pc + 2 = pc') (hr : Steps tb e below (T.setTop (mkF m pc' l' S)) target) : Steps tb e below (T.setTop (mkF m pc L (.long v :: S))) target := by subst hp; exact XS.lstore h hx rfl hd rfl hl hr
theorem y_astore {tb : Tables} [Ours tb] {e : Env} {below : List Frame} {T target : State} {m : MethodId} {c : Code} (h : At T m c below) (hx : tb.exec = Jvm.exec) {pc pc' : Nat} {L : Array Slot} {S : List Value} {k : Nat} {v : Value} {l' : Array Slot} (hd : decode c.code pc = .ok (.astore k, 2)) (hv : v.isRef = true) (hl : storeLocals L k v = some l') (hp : pc + 2 = pc') (hr : Steps tb e below (T.setTop (mkF m pc' l' S)) target) : Steps tb e below (T.setTop (mkF m pc L (v :: S))) target := by subst hp; exact XS.astore h hx rfl hd rfl hv hl hr
theorem y_iconst {tb : Tables} [Ours tb] {e : Env} {below : List Frame} {T target : State} {m : MethodId} {c : Code} (h : At T m c below) (hx : tb.exec = Jvm.exec) {pc pc' : Nat} {L : Array Slot} {S : List Value} {i : Int} {v : Int32} (hd : decode c.code pc = .ok (.iconst i, 1)) (hv : Int32.ofInt i = v) (hp : pc + 1 = pc') (hr : Steps tb e below (T.setTop (mkF m pc' L (.int v :: S))) target) : Steps tb e below (T.setTop (mkF m pc L S)) target := by subst hp; exact XS.iconst h hx rfl hd (by rw [hv]; exact hr)
theorem y_bipush {tb : Tables} [Ours tb] {e : Env} {below : List Frame} {T target : State} {m : MethodId} {c : Code} (h : At T m c below) (hx : tb.exec = Jvm.exec) {pc pc' : Nat} {L : Array Slot} {S : List Value} {i : Int} {v : Int32} (hd : decode c.code pc = .ok (.bipush i, 2)) (hv : (Int8.ofInt i).toInt32 = v) (hp : pc + 2 = pc') (hr : Steps tb e below (T.setTop (mkF m pc' L (.int v :: S))) target) : Steps tb e below (T.setTop (mkF m pc L S)) target := by subst hp; exact XS.bipush h hx rfl hd (by rw [hv]; exact hr)
theorem y_sipush {tb : Tables} [Ours tb] {e : Env} {below : List Frame} {T target : State} {m : MethodId} {c : Code} (h : At T m c below) (hx : tb.exec = Jvm.exec) {pc pc' : Nat} {L : Array Slot} {S : List Value} {i : Int} {v : Int32} (hd : decode c.code pc = .ok (.sipush i, 3)) (hv : (Int16.ofInt i).toInt32 = v) (hp : pc + 3 = pc') (hr : Steps tb e below (T.setTop (mkF m pc' L (.int v :: S))) target) : Steps tb e below (T.setTop (mkF m pc L S)) target := by subst hp; exact XS.sipush h hx rfl hd (by rw [hv]; exact hr)
theorem y_lconst {tb : Tables} [Ours tb] {e : Env} {below : List Frame} {T target : State} {m : MethodId} {c : Code} (h : At T m c below) (hx : tb.exec = Jvm.exec) {pc pc' : Nat} {L : Array Slot} {S : List Value} {k : Fin 2} {v : Int64} (hd : decode c.code pc = .ok (.lconst k, 1)) (hv : Int64.ofNat k.val = v) (hp : pc + 1 = pc') (hr : Steps tb e below (T.setTop (mkF m pc' L (.long v :: S))) target) : Steps tb e below (T.setTop (mkF m pc L S)) target := by subst hp; exact XS.lconst h hx rfl hd (by first | exact hv ▸ hr | (rw [hv]; exact hr) | (subst hv; exact hr))
theorem y_aconstNull {tb : Tables} [Ours tb] {e : Env} {below : List Frame} {T target : State} {m : MethodId} {c : Code} (h : At T m c below) (hx : tb.exec = Jvm.exec) {pc pc' : Nat} {L : Array Slot} {S : List Value} (hd : decode c.code pc = .ok (.aconst_null, 1)) (hp : pc + 1 = pc') (hr : Steps tb e below (T.setTop (mkF m pc' L (.null :: S))) target) : Steps tb e below (T.setTop (mkF m pc L S)) target := by subst hp; exact XS.aconstNull h hx rfl hd hr
theorem y_iadd {tb : Tables} [Ours tb] {e : Env} {below : List Frame} {T target : State} {m : MethodId} {c : Code} (h : At T m c below) (hx : tb.exec = Jvm.exec) {pc pc' : Nat} {L : Array Slot} {S : List Value} {x y z : Int32} (hd : decode c.code pc = .ok (.iadd, 1)) (hz : x + y = z) (hp : pc + 1 = pc') (hr : Steps tb e below (T.setTop (mkF m pc' L (.int z :: S))) target) : Steps tb e below (T.setTop (mkF m pc L (.int y :: .int x :: S))) target := by subst hp; exact XS.iadd h hx rfl hd rfl (by rw [hz]; exact hr)
theorem y_isub {tb : Tables} [Ours tb] {e : Env} {below : List Frame} {T target : State} {m : MethodId} {c : Code} (h : At T m c below) (hx : tb.exec = Jvm.exec) {pc pc' : Nat} {L : Array Slot} {S : List Value} {x y z : Int32} (hd : decode c.code pc = .ok (.isub, 1)) (hz : x - y = z) (hp : pc + 1 = pc') (hr : Steps tb e below (T.setTop (mkF m pc' L (.int z :: S))) target) : Steps tb e below (T.setTop (mkF m pc L (.int y :: .int x :: S))) target := by subst hp; exact XS.isub h hx rfl hd rfl (by rw [hz]; exact hr)
theorem y_imul {tb : Tables} [Ours tb] {e : Env} {below : List Frame} {T target : State} {m : MethodId} {c : Code} (h : At T m c below) (hx : tb.exec = Jvm.exec) {pc pc' : Nat} {L : Array Slot} {S : List Value} {x y z : Int32} (hd : decode c.code pc = .ok (.imul, 1)) (hz : x * y = z) (hp : pc + 1 = pc') (hr : Steps tb e below (T.setTop (mkF m pc' L (.int z :: S))) target) : Steps tb e below (T.setTop (mkF m pc L (.int y :: .int x :: S))) target := by subst hp; exact XS.imul h hx rfl hd rfl (by rw [hz]; exact hr)
theorem y_iand {tb : Tables} [Ours tb] {e : Env} {below : List Frame} {T target : State} {m : MethodId} {c : Code} (h : At T m c below) (hx : tb.exec = Jvm.exec) {pc pc' : Nat} {L : Array Slot} {S : List Value} {x y z : Int32} (hd : decode c.code pc = .ok (.iand, 1)) (hz : x &&& y = z) (hp : pc + 1 = pc') (hr : Steps tb e below (T.setTop (mkF m pc' L (.int z :: S))) target) : Steps tb e below (T.setTop (mkF m pc L (.int y :: .int x :: S))) target := by subst hp; exact XS.iand h hx rfl hd rfl (by rw [hz]; exact hr)
theorem y_ior {tb : Tables} [Ours tb] {e : Env} {below : List Frame} {T target : State} {m : MethodId} {c : Code} (h : At T m c below) (hx : tb.exec = Jvm.exec) {pc pc' : Nat} {L : Array Slot} {S : List Value} {x y z : Int32} (hd : decode c.code pc = .ok (.ior, 1)) (hz : x ||| y = z) (hp : pc + 1 = pc') (hr : Steps tb e below (T.setTop (mkF m pc' L (.int z :: S))) target) : Steps tb e below (T.setTop (mkF m pc L (.int y :: .int x :: S))) target := by subst hp; exact XS.ior h hx rfl hd rfl (by rw [hz]; exact hr)
theorem y_ixor {tb : Tables} [Ours tb] {e : Env} {below : List Frame} {T target : State} {m : MethodId} {c : Code} (h : At T m c below) (hx : tb.exec = Jvm.exec) {pc pc' : Nat} {L : Array Slot} {S : List Value} {x y z : Int32} (hd : decode c.code pc = .ok (.ixor, 1)) (hz : x ^^^ y = z) (hp : pc + 1 = pc') (hr : Steps tb e below (T.setTop (mkF m pc' L (.int z :: S))) target) : Steps tb e below (T.setTop (mkF m pc L (.int y :: .int x :: S))) target := by subst hp; exact XS.ixor h hx rfl hd rfl (by rw [hz]; exact hr)
theorem y_ladd {tb : Tables} [Ours tb] {e : Env} {below : List Frame} {T target : State} {m : MethodId} {c : Code} (h : At T m c below) (hx : tb.exec = Jvm.exec) {pc pc' : Nat} {L : Array Slot} {S : List Value} {x y z : Int64} (hd : decode c.code pc = .ok (.ladd, 1)) (hz : x + y = z) (hp : pc + 1 = pc') (hr : Steps tb e below (T.setTop (mkF m pc' L (.long z :: S))) target) : Steps tb e below (T.setTop (mkF m pc L (.long y :: .long x :: S))) target := by subst hp; exact XS.ladd h hx rfl hd rfl (by rw [hz]; exact hr)
theorem y_lsub {tb : Tables} [Ours tb] {e : Env} {below : List Frame} {T target : State} {m : MethodId} {c : Code} (h : At T m c below) (hx : tb.exec = Jvm.exec) {pc pc' : Nat} {L : Array Slot} {S : List Value} {x y z : Int64} (hd : decode c.code pc = .ok (.lsub, 1)) (hz : x - y = z) (hp : pc + 1 = pc') (hr : Steps tb e below (T.setTop (mkF m pc' L (.long z :: S))) target) : Steps tb e below (T.setTop (mkF m pc L (.long y :: .long x :: S))) target := by subst hp; exact XS.lsub h hx rfl hd rfl (by rw [hz]; exact hr)
theorem y_lmul {tb : Tables} [Ours tb] {e : Env} {below : List Frame} {T target : State} {m : MethodId} {c : Code} (h : At T m c below) (hx : tb.exec = Jvm.exec) {pc pc' : Nat} {L : Array Slot} {S : List Value} {x y z : Int64} (hd : decode c.code pc = .ok (.lmul, 1)) (hz : x * y = z) (hp : pc + 1 = pc') (hr : Steps tb e below (T.setTop (mkF m pc' L (.long z :: S))) target) : Steps tb e below (T.setTop (mkF m pc L (.long y :: .long x :: S))) target := by subst hp; exact XS.lmul h hx rfl hd rfl (by rw [hz]; exact hr)
theorem y_land {tb : Tables} [Ours tb] {e : Env} {below : List Frame} {T target : State} {m : MethodId} {c : Code} (h : At T m c below) (hx : tb.exec = Jvm.exec) {pc pc' : Nat} {L : Array Slot} {S : List Value} {x y z : Int64} (hd : decode c.code pc = .ok (.land, 1)) (hz : x &&& y = z) (hp : pc + 1 = pc') (hr : Steps tb e below (T.setTop (mkF m pc' L (.long z :: S))) target) : Steps tb e below (T.setTop (mkF m pc L (.long y :: .long x :: S))) target := by subst hp; exact XS.land h hx rfl hd rfl (by rw [hz]; exact hr)
theorem y_lor {tb : Tables} [Ours tb] {e : Env} {below : List Frame} {T target : State} {m : MethodId} {c : Code} (h : At T m c below) (hx : tb.exec = Jvm.exec) {pc pc' : Nat} {L : Array Slot} {S : List Value} {x y z : Int64} (hd : decode c.code pc = .ok (.lor, 1)) (hz : x ||| y = z) (hp : pc + 1 = pc') (hr : Steps tb e below (T.setTop (mkF m pc' L (.long z :: S))) target) : Steps tb e below (T.setTop (mkF m pc L (.long y :: .long x :: S))) target := by subst hp; exact XS.lor h hx rfl hd rfl (by rw [hz]; exact hr)
theorem y_lxor {tb : Tables} [Ours tb] {e : Env} {below : List Frame} {T target : State} {m : MethodId} {c : Code} (h : At T m c below) (hx : tb.exec = Jvm.exec) {pc pc' : Nat} {L : Array Slot} {S : List Value} {x y z : Int64} (hd : decode c.code pc = .ok (.lxor, 1)) (hz : x ^^^ y = z) (hp : pc + 1 = pc') (hr : Steps tb e below (T.setTop (mkF m pc' L (.long z :: S))) target) : Steps tb e below (T.setTop (mkF m pc L (.long y :: .long x :: S))) target := by subst hp; exact XS.lxor h hx rfl hd rfl (by rw [hz]; exact hr)
theorem y_ineg {tb : Tables} [Ours tb] {e : Env} {below : List Frame} {T target : State} {m : MethodId} {c : Code} (h : At T m c below) (hx : tb.exec = Jvm.exec) {pc pc' : Nat} {L : Array Slot} {S : List Value} {x : Int32} {z : Int32} (hd : decode c.code pc = .ok (.ineg, 1)) (hz : -x = z) (hp : pc + 1 = pc') (hr : Steps tb e below (T.setTop (mkF m pc' L (.int z :: S))) target) : Steps tb e below (T.setTop (mkF m pc L (.int x :: S))) target := by subst hp; exact XS.ineg h hx rfl hd rfl (by subst hz; exact hr)
theorem y_lneg {tb : Tables} [Ours tb] {e : Env} {below : List Frame} {T target : State} {m : MethodId} {c : Code} (h : At T m c below) (hx : tb.exec = Jvm.exec) {pc pc' : Nat} {L : Array Slot} {S : List Value} {x : Int64} {z : Int64} (hd : decode c.code pc = .ok (.lneg, 1)) (hz : -x = z) (hp : pc + 1 = pc') (hr : Steps tb e below (T.setTop (mkF m pc' L (.long z :: S))) target) : Steps tb e below (T.setTop (mkF m pc L (.long x :: S))) target := by subst hp; exact XS.lneg h hx rfl hd rfl (by subst hz; exact hr)
theorem y_i2l {tb : Tables} [Ours tb] {e : Env} {below : List Frame} {T target : State} {m : MethodId} {c : Code} (h : At T m c below) (hx : tb.exec = Jvm.exec) {pc pc' : Nat} {L : Array Slot} {S : List Value} {x : Int32} {z : Int64} (hd : decode c.code pc = .ok (.i2l, 1)) (hz : x.toInt64 = z) (hp : pc + 1 = pc') (hr : Steps tb e below (T.setTop (mkF m pc' L (.long z :: S))) target) : Steps tb e below (T.setTop (mkF m pc L (.int x :: S))) target := by subst hp; exact XS.i2l h hx rfl hd rfl (by subst hz; exact hr)
theorem y_l2i {tb : Tables} [Ours tb] {e : Env} {below : List Frame} {T target : State} {m : MethodId} {c : Code} (h : At T m c below) (hx : tb.exec = Jvm.exec) {pc pc' : Nat} {L : Array Slot} {S : List Value} {x : Int64} {z : Int32} (hd : decode c.code pc = .ok (.l2i, 1)) (hz : x.toInt32 = z) (hp : pc + 1 = pc') (hr : Steps tb e below (T.setTop (mkF m pc' L (.int z :: S))) target) : Steps tb e below (T.setTop (mkF m pc L (.long x :: S))) target := by subst hp; exact XS.l2i h hx rfl hd rfl (by subst hz; exact hr)
theorem y_i2b {tb : Tables} [Ours tb] {e : Env} {below : List Frame} {T target : State} {m : MethodId} {c : Code} (h : At T m c below) (hx : tb.exec = Jvm.exec) {pc pc' : Nat} {L : Array Slot} {S : List Value} {x : Int32} {z : Int32} (hd : decode c.code pc = .ok (.i2b, 1)) (hz : x.toInt8.toInt32 = z) (hp : pc + 1 = pc') (hr : Steps tb e below (T.setTop (mkF m pc' L (.int z :: S))) target) : Steps tb e below (T.setTop (mkF m pc L (.int x :: S))) target := by subst hp; exact XS.i2b h hx rfl hd rfl (by subst hz; exact hr)
theorem y_i2s {tb : Tables} [Ours tb] {e : Env} {below : List Frame} {T target : State} {m : MethodId} {c : Code} (h : At T m c below) (hx : tb.exec = Jvm.exec) {pc pc' : Nat} {L : Array Slot} {S : List Value} {x : Int32} {z : Int32} (hd : decode c.code pc = .ok (.i2s, 1)) (hz : x.toInt16.toInt32 = z) (hp : pc + 1 = pc') (hr : Steps tb e below (T.setTop (mkF m pc' L (.int z :: S))) target) : Steps tb e below (T.setTop (mkF m pc L (.int x :: S))) target := by subst hp; exact XS.i2s h hx rfl hd rfl (by subst hz; exact hr)
theorem y_i2c {tb : Tables} [Ours tb] {e : Env} {below : List Frame} {T target : State} {m : MethodId} {c : Code} (h : At T m c below) (hx : tb.exec = Jvm.exec) {pc pc' : Nat} {L : Array Slot} {S : List Value} {x : Int32} {z : Int32} (hd : decode c.code pc = .ok (.i2c, 1)) (hz : x.toUInt32.toUInt16.toUInt32.toInt32 = z) (hp : pc + 1 = pc') (hr : Steps tb e below (T.setTop (mkF m pc' L (.int z :: S))) target) : Steps tb e below (T.setTop (mkF m pc L (.int x :: S))) target := by subst hp; exact XS.i2c h hx rfl hd rfl (by subst hz; exact hr)
theorem y_ishl {tb : Tables} [Ours tb] {e : Env} {below : List Frame} {T target : State} {m : MethodId} {c : Code} (h : At T m c below) (hx : tb.exec = Jvm.exec) {pc pc' : Nat} {L : Array Slot} {S : List Value} {x z : Int32} {y : Int32} (hd : decode c.code pc = .ok (.ishl, 1)) (hz : (x <<< (y &&& 31)) = z) (hp : pc + 1 = pc') (hr : Steps tb e below (T.setTop (mkF m pc' L (.int z :: S))) target) : Steps tb e below (T.setTop (mkF m pc L (.int y :: .int x :: S))) target := by subst hp; exact XS.ishl h hx rfl hd rfl (by subst hz; exact hr)
theorem y_ishr {tb : Tables} [Ours tb] {e : Env} {below : List Frame} {T target : State} {m : MethodId} {c : Code} (h : At T m c below) (hx : tb.exec = Jvm.exec) {pc pc' : Nat} {L : Array Slot} {S : List Value} {x z : Int32} {y : Int32} (hd : decode c.code pc = .ok (.ishr, 1)) (hz : (x >>> (y &&& 31)) = z) (hp : pc + 1 = pc') (hr : Steps tb e below (T.setTop (mkF m pc' L (.int z :: S))) target) : Steps tb e below (T.setTop (mkF m pc L (.int y :: .int x :: S))) target := by subst hp; exact XS.ishr h hx rfl hd rfl (by subst hz; exact hr)
theorem y_iushr {tb : Tables} [Ours tb] {e : Env} {below : List Frame} {T target : State} {m : MethodId} {c : Code} (h : At T m c below) (hx : tb.exec = Jvm.exec) {pc pc' : Nat} {L : Array Slot} {S : List Value} {x z : Int32} {y : Int32} (hd : decode c.code pc = .ok (.iushr, 1)) (hz : ((x.toUInt32 >>> (y &&& 31).toUInt32).toInt32) = z) (hp : pc + 1 = pc') (hr : Steps tb e below (T.setTop (mkF m pc' L (.int z :: S))) target) : Steps tb e below (T.setTop (mkF m pc L (.int y :: .int x :: S))) target := by subst hp; exact XS.iushr h hx rfl hd rfl (by subst hz; exact hr)
theorem y_lshl {tb : Tables} [Ours tb] {e : Env} {below : List Frame} {T target : State} {m : MethodId} {c : Code} (h : At T m c below) (hx : tb.exec = Jvm.exec) {pc pc' : Nat} {L : Array Slot} {S : List Value} {x z : Int64} {y : Int32} (hd : decode c.code pc = .ok (.lshl, 1)) (hz : (x <<< (y &&& 0x3f).toInt64) = z) (hp : pc + 1 = pc') (hr : Steps tb e below (T.setTop (mkF m pc' L (.long z :: S))) target) : Steps tb e below (T.setTop (mkF m pc L (.int y :: .long x :: S))) target := by subst hp; exact XS.lshl h hx rfl hd rfl (by subst hz; exact hr)
theorem y_lshr {tb : Tables} [Ours tb] {e : Env} {below : List Frame} {T target : State} {m : MethodId} {c : Code} (h : At T m c below) (hx : tb.exec = Jvm.exec) {pc pc' : Nat} {L : Array Slot} {S : List Value} {x z : Int64} {y : Int32} (hd : decode c.code pc = .ok (.lshr, 1)) (hz : (x >>> (y &&& 0x3f).toInt64) = z) (hp : pc + 1 = pc') (hr : Steps tb e below (T.setTop (mkF m pc' L (.long z :: S))) target) : Steps tb e below (T.setTop (mkF m pc L (.int y :: .long x :: S))) target := by subst hp; exact XS.lshr h hx rfl hd rfl (by subst hz; exact hr)
theorem y_lushr {tb : Tables} [Ours tb] {e : Env} {below : List Frame} {T target : State} {m : MethodId} {c : Code} (h : At T m c below) (hx : tb.exec = Jvm.exec) {pc pc' : Nat} {L : Array Slot} {S : List Value} {x z : Int64} {y : Int32} (hd : decode c.code pc = .ok (.lushr, 1)) (hz : ((x.toUInt64 >>> (y &&& 0x3f).toInt64.toUInt64).toInt64) = z) (hp : pc + 1 = pc') (hr : Steps tb e below (T.setTop (mkF m pc' L (.long z :: S))) target) : Steps tb e below (T.setTop (mkF m pc L (.int y :: .long x :: S))) target := by subst hp; exact XS.lushr h hx rfl hd rfl (by subst hz; exact hr)
theorem y_lcmp {tb : Tables} [Ours tb] {e : Env} {below : List Frame} {T target : State} {m : MethodId} {c : Code} (h : At T m c below) (hx : tb.exec = Jvm.exec) {pc pc' : Nat} {L : Array Slot} {S : List Value} {x y : Int64} (hd : decode c.code pc = .ok (.lcmp, 1)) (hp : pc + 1 = pc') (hr : Steps tb e below (T.setTop (mkF m pc' L (.int (lcmpW x y) :: S))) target) : Steps tb e below (T.setTop (mkF m pc L (.long y :: .long x :: S))) target := by subst hp; exact XS.lcmp h hx rfl hd rfl hr
theorem y_iinc {tb : Tables} [Ours tb] {e : Env} {below : List Frame} {T target : State} {m : MethodId} {c : Code} (h : At T m c below) (hx : tb.exec = Jvm.exec) {pc pc' : Nat} {L : Array Slot} {S : List Value} {k : Nat} {cst : Int} {x : Int32} {l' : Array Slot} (hd : decode c.code pc = .ok (.iinc k cst, 3)) (hl : L[k]? = some (.val (.int x))) (hl' : storeLocals L k (.int (x + Int32.ofInt cst)) = some l') (hp : pc + 3 = pc') (hr : Steps tb e below (T.setTop (mkF m pc' l' S)) target) : Steps tb e below (T.setTop (mkF m pc L S)) target := by subst hp; exact XS.iinc h hx rfl hd hl hl' hr
theorem y_dup {tb : Tables} [Ours tb] {e : Env} {below : List Frame} {T target : State} {m : MethodId} {c : Code} (h : At T m c below) (hx : tb.exec = Jvm.exec) {pc pc' : Nat} {L : Array Slot} {S : List Value} {v : Value} (hd : decode c.code pc = .ok (.dup, 1)) (hc : v.category = 1) (hp : pc + 1 = pc') (hr : Steps tb e below (T.setTop (mkF m pc' L (v :: v :: S))) target) : Steps tb e below (T.setTop (mkF m pc L (v :: S))) target := by subst hp; exact XS.dup h hx rfl hd rfl hc hr
theorem y_goto {tb : Tables} [Ours tb] {e : Env} {below : List Frame} {T target : State} {m : MethodId} {c : Code} (h : At T m c below) (hx : tb.exec = Jvm.exec) {pc pc' : Nat} {L : Array Slot} {S : List Value} {o : Int} (hd : decode c.code pc = .ok (.goto o, 3)) (ho : 0 ≤ (pc : Int) + o) (hp : ((pc : Int) + o).toNat = pc') (hr : Steps tb e below (T.setTop (mkF m pc' L S)) target) : Steps tb e below (T.setTop (mkF m pc L S)) target := XS.goto h hx rfl rfl hd ho hp hr
theorem y_ifYes {tb : Tables} [Ours tb] {e : Env} {below : List Frame} {T target : State} {m : MethodId} {c : Code} (h : At T m c below) (hx : tb.exec = Jvm.exec) {pc pc' : Nat} {L : Array Slot} {S : List Value} {cd : ClassFile.Cond} {x : Int32} {o : Int} (hd : decode c.code pc = .ok (.ifCond cd o, 3)) (hc : ifCond.holds cd x = true) (ho : 0 ≤ (pc : Int) + o) (hp : ((pc : Int) + o).toNat = pc') (hr : Steps tb e below (T.setTop (mkF m pc' L S)) target) : Steps tb e below (T.setTop (mkF m pc L (.int x :: S))) target := XS.ifYes h hx rfl rfl hd rfl hc ho hp hr
theorem y_ifNo {tb : Tables} [Ours tb] {e : Env} {below : List Frame} {T target : State} {m : MethodId} {c : Code} (h : At T m c below) (hx : tb.exec = Jvm.exec) {pc pc' : Nat} {L : Array Slot} {S : List Value} {cd : ClassFile.Cond} {x : Int32} {o : Int} (hd : decode c.code pc = .ok (.ifCond cd o, 3)) (hc : ifCond.holds cd x = false) (hp : pc + 3 = pc') (hr : Steps tb e below (T.setTop (mkF m pc' L S)) target) : Steps tb e below (T.setTop (mkF m pc L (.int x :: S))) target := by subst hp; exact XS.ifNo h hx rfl hd rfl hc hr
theorem y_icmpYes {tb : Tables} [Ours tb] {e : Env} {below : List Frame} {T target : State} {m : MethodId} {c : Code} (h : At T m c below) (hx : tb.exec = Jvm.exec) {pc pc' : Nat} {L : Array Slot} {S : List Value} {cd : ClassFile.Cond} {x y : Int32} {o : Int} (hd : decode c.code pc = .ok (.if_icmp cd o, 3)) (hc : if_icmp.holds cd x y = true) (ho : 0 ≤ (pc : Int) + o) (hp : ((pc : Int) + o).toNat = pc') (hr : Steps tb e below (T.setTop (mkF m pc' L S)) target) : Steps tb e below (T.setTop (mkF m pc L (.int y :: .int x :: S))) target := XS.icmpYes h hx rfl rfl hd rfl hc ho hp hr
theorem y_icmpNo {tb : Tables} [Ours tb] {e : Env} {below : List Frame} {T target : State} {m : MethodId} {c : Code} (h : At T m c below) (hx : tb.exec = Jvm.exec) {pc pc' : Nat} {L : Array Slot} {S : List Value} {cd : ClassFile.Cond} {x y : Int32} {o : Int} (hd : decode c.code pc = .ok (.if_icmp cd o, 3)) (hc : if_icmp.holds cd x y = false) (hp : pc + 3 = pc') (hr : Steps tb e below (T.setTop (mkF m pc' L S)) target) : Steps tb e below (T.setTop (mkF m pc L (.int y :: .int x :: S))) target := by subst hp; exact XS.icmpNo h hx rfl hd rfl hc hr
theorem own_of {x k : Int32} (h : x.toInt = k.toInt) : x = k := Int32.toInt_inj.mp h
theorem own_and3 (k : Int32) : k &&& 3 = 0 ∨ k &&& 3 = 1 ∨ k &&& 3 = 2 ∨ k &&& 3 = 3 := by
  have q : (k &&& 3).toInt = k.toInt % 4 := c_mask k 3 2 (by decide) (by decide)
  generalize k &&& 3 = x at q ⊢
  have : x.toInt = 0 ∨ x.toInt = 1 ∨ x.toInt = 2 ∨ x.toInt = 3 := by omega
  rcases this with h | h | h | h
  · exact Or.inl (own_of h)
  · exact Or.inr (Or.inl (own_of h))
  · exact Or.inr (Or.inr (Or.inl (own_of h)))
  · exact Or.inr (Or.inr (Or.inr (own_of h)))
theorem d1_0 : decode method_2_code 0 = .ok (.iload_n 0, 1) := by decide +kernel
theorem d1_1 : decode method_2_code 1 = .ok (.ifCond .ne 7, 3) := by decide +kernel
theorem d1_4 : decode method_2_code 4 = .ok (.getstatic 7, 3) := by decide +kernel
theorem d1_7 : decode method_2_code 7 = .ok (.areturn, 1) := by decide +kernel
theorem d1_8 : decode method_2_code 8 = .ok (.iload_n 0, 1) := by decide +kernel
theorem d1_9 : decode method_2_code 9 = .ok (.iconst 1, 1) := by decide +kernel
theorem d1_10 : decode method_2_code 10 = .ok (.if_icmp .ne 7, 3) := by decide +kernel
theorem d1_13 : decode method_2_code 13 = .ok (.getstatic 13, 3) := by decide +kernel
theorem d1_16 : decode method_2_code 16 = .ok (.areturn, 1) := by decide +kernel
theorem d1_17 : decode method_2_code 17 = .ok (.iload_n 0, 1) := by decide +kernel
theorem d1_18 : decode method_2_code 18 = .ok (.iconst 2, 1) := by decide +kernel
theorem d1_19 : decode method_2_code 19 = .ok (.if_icmp .ne 7, 3) := by decide +kernel
theorem d1_22 : decode method_2_code 22 = .ok (.getstatic 16, 3) := by decide +kernel
theorem d1_25 : decode method_2_code 25 = .ok (.areturn, 1) := by decide +kernel
theorem d1_26 : decode method_2_code 26 = .ok (.getstatic 19, 3) := by decide +kernel
theorem d1_29 : decode method_2_code 29 = .ok (.areturn, 1) := by decide +kernel
theorem pn_com_example_brace_brace_account_FixedRatePricedPinLaw : plainName "com/example/brace/brace/account/FixedRatePricedPinLaw" = true := by first | (simp [plainName, overriddenIn]; done) | decide +kernel
theorem ef_1 (m : MethodId) (x0 : Int32) : entryFrame m #[(.int x0)] 1 = mkF m 0 #[iv x0] [] := by first | (simp [entryFrame, mkF, argsToLocals, Value.category]; done) | rfl
def Q1 (Z : State) (pi0 : Int32) (w_UNRATED : Addr) (w_DUE : Addr) (w_SETTLED : Addr) (w_NONE : Addr) (h0 : Heap) (n0 : Nat) (v : Option Value) (h : Heap) (L : List Loc) : Prop := v = some (.ref (if pi0 = (0 : Int32) then w_UNRATED else (if pi0 = (1 : Int32) then w_DUE else (if pi0 = (2 : Int32) then w_SETTLED else w_NONE)))) ∧ Fr n0 L ∧ h = h0
set_option maxRecDepth 65536 in
set_option maxHeartbeats 40000000 in
theorem rm1 (l : Launch) (Z : State) (a0 : Array Value) (hw : ∀ d ∈ tables_1, d.before a0 Z = true) (ws : List Jvm.Cond) (pi0 : Int32) (w_UNRATED : Addr) (w_DUE : Addr) (w_SETTLED : Addr) (w_NONE : Addr) (h0 : Heap) (n0 : Nat) (O0 : Old Z n0 h0) (S_UNRATED : Sta Z Z.heap "com/example/brace/brace/account/Session$FixedRate" "UNRATED" "Lcom/example/brace/brace/account/Session$FixedRate;" (.ref w_UNRATED)) (S_DUE : Sta Z Z.heap "com/example/brace/brace/account/Session$FixedRate" "DUE" "Lcom/example/brace/brace/account/Session$FixedRate;" (.ref w_DUE)) (S_SETTLED : Sta Z Z.heap "com/example/brace/brace/account/Session$FixedRate" "SETTLED" "Lcom/example/brace/brace/account/Session$FixedRate;" (.ref w_SETTLED)) (S_NONE : Sta Z Z.heap "com/example/brace/brace/account/Session$FixedRate" "NONE" "Lcom/example/brace/brace/account/Session$FixedRate;" (.ref w_NONE)) :
    MetFree l (⟨"com/example/brace/brace/account/FixedRatePricedPinLaw", "pick", "(I)Lcom/example/brace/brace/account/Session$FixedRate;"⟩ : MethodName) (head1 (Jvm.Cond.code (⟨"com/example/brace/brace/account/FixedRatePricedPinLaw", "pick", "(I)Lcom/example/brace/brace/account/Session$FixedRate;"⟩ : MethodName) method_2_code 1 (some (.object "com/example/brace/brace/account/Session$FixedRate")) :: ws) ({ frames := 0, cells := 0, slots := 0, locals := 0 } : Room)) (fun a U => a = #[(.int pi0)] ∧ Z.Warmed39 U.vm ∧ U.heap = h0) (fun _ _ _ _ _ => True) (fun _ U o U' => ∃ v L, o = .returned v ∧ Q1 Z pi0 w_UNRATED w_DUE w_SETTLED w_NONE h0 n0 v U'.heap L ∧ FrameEnd U o U' L ({ frames := 0, cells := 0, slots := 0, locals := 0 } : Room).cells ({ frames := 0, cells := 0, slots := 0, locals := 0 } : Room).slots) := by
  refine MetFree.of_bodySF (plainFor_of_name pn_com_example_brace_brace_account_FixedRatePricedPinLaw) hisR ?_
  intro p e s m args below meth c s₁ Bd hml0 hP hK
  obtain ⟨rfl, hZ, hh⟩ := hP
  have hx := Bd.exec
  have hby := Bd.bytes
  have hml : c.maxLocals = 1 := hml0
  have hown : s.vm.findClass "com/example/brace/brace/account/FixedRatePricedPinLaw" = some m.cls := findClass_of_methodNamed Bd.named
  have hnm := (name_of_methodNamed Bd.named Bd.method).1
  have X0 : Stand p l e ({ frames := 0, cells := 0, slots := 0, locals := 0 } : Room) s m #[(.int pi0)] below meth c s₁ [] 0 0 := Stand.of_body Bd
  have e0 : s₁.heap = h0 := by rw [← hh, Bd.state]; rfl
  have N0 := Fr.nil n0
  obtain ⟨Go, hGo⟩ : ∃ P : State → Prop, ∀ t, P t ↔ Steps p.tables e below (s₁.setTop (entryFrame m #[(.int pi0)] 1)) t := ⟨_, fun _ => Iff.rfl⟩
  have pre0 : ∀ t, Steps p.tables e below (s₁.setTop (mkF m 0 #[iv pi0] [])) t → Go t := fun t k => (hGo t).mpr (castTop (ef_1 m pi0) k)
  have pre1 : ∀ t, Steps p.tables e below (s₁.setTop (mkF m 1 #[iv pi0] [(.int pi0)])) t → Go t := fun t kt => pre0 t (by
      refine y_iloadN X0.here hx (hb hby d1_0) rfl (pc' := 1) rfl ?_
      exact kt)
  by_cases hc1_2 : pi0 = (0 : Int32)
  · have pre3 : ∀ t, Steps p.tables e below (s₁.setTop (mkF m 4 #[iv pi0] [])) t → Go t := fun t kt => pre1 t (by
        refine y_ifNo X0.here hx (hb hby d1_1) ((if0 _ _).trans (teq hc1_2).2) (pc' := 4) rfl ?_
        exact kt)
    obtain ⟨T4, X4, e4, st4⟩ := getS2 X0 hx hZ hown (host := "") (Or.inl (hw _ (List.mem_of_getElem? (i := 4) rfl))) Via.refl e0 (S_UNRATED.ext O0.2) (g := (mkF m 4 #[iv pi0] [])) rfl (hb hby d1_4)
    have pre5 : ∀ t, Steps p.tables e below (T4.setTop (mkF m 7 #[iv pi0] [(.ref w_UNRATED)])) t → Go t := fun t kt => pre3 t (st4 t kt)
    obtain ⟨fs, hr, hrun, hended, hW, hsame⟩ := X4.leave (v := some (.ref w_UNRATED)) (fun h => by rw [Bd.returns] at h; cases h)
    refine ⟨_, _, (hGo _).mp (pre5 _ ?_), hrun, hended, _, _, rfl, ?_, ⟨_, rfl⟩, hW, hsame.mono (by decide) (by decide)⟩
    · exact retOut X4 hx Bd.returns rfl (Or.inr (Or.inr (Or.inr (Or.inr ⟨rfl, rfl, rfl⟩)))) (hb hby d1_7) hr
    · show Q1 Z pi0 w_UNRATED w_DUE w_SETTLED w_NONE h0 n0 _ T4.heap _
      rw [e4]
      exact ⟨(by first | (simp only [if_pos hc1_2]; done) | (simp only [if_pos hc1_2]; exact rfl) | exact rfl), N0, rfl⟩
  · have pre6 : ∀ t, Steps p.tables e below (s₁.setTop (mkF m 10 #[iv pi0] [(.int (1 : Int32)), (.int pi0)])) t → Go t := fun t kt => pre1 t (by
        refine y_ifYes X0.here hx (hb hby d1_1) ((if0 _ _).trans (feq hc1_2).2) (pc' := 8) (by decide) rfl ?_
        refine y_iloadN X0.here hx (hb hby d1_8) rfl (pc' := 9) rfl ?_
        refine y_iconst X0.here hx (hb hby d1_9) (v := (1 : Int32)) rfl (pc' := 10) rfl ?_
        exact kt)
    by_cases hc10_7 : pi0 = (1 : Int32)
    · have pre8 : ∀ t, Steps p.tables e below (s₁.setTop (mkF m 13 #[iv pi0] [])) t → Go t := fun t kt => pre6 t (by
          refine y_icmpNo X0.here hx (hb hby d1_10) (teq hc10_7).2 (pc' := 13) rfl ?_
          exact kt)
      obtain ⟨T9, X9, e9, st9⟩ := getS2 X0 hx hZ hown (host := "") (Or.inl (hw _ (List.mem_of_getElem? (i := 36) rfl))) Via.refl e0 (S_DUE.ext O0.2) (g := (mkF m 13 #[iv pi0] [])) rfl (hb hby d1_13)
      have pre10 : ∀ t, Steps p.tables e below (T9.setTop (mkF m 16 #[iv pi0] [(.ref w_DUE)])) t → Go t := fun t kt => pre8 t (st9 t kt)
      obtain ⟨fs, hr, hrun, hended, hW, hsame⟩ := X9.leave (v := some (.ref w_DUE)) (fun h => by rw [Bd.returns] at h; cases h)
      refine ⟨_, _, (hGo _).mp (pre10 _ ?_), hrun, hended, _, _, rfl, ?_, ⟨_, rfl⟩, hW, hsame.mono (by decide) (by decide)⟩
      · exact retOut X9 hx Bd.returns rfl (Or.inr (Or.inr (Or.inr (Or.inr ⟨rfl, rfl, rfl⟩)))) (hb hby d1_16) hr
      · show Q1 Z pi0 w_UNRATED w_DUE w_SETTLED w_NONE h0 n0 _ T9.heap _
        rw [e9]
        exact ⟨(by first | (simp only [if_neg hc1_2, if_pos hc10_7]; done) | (simp only [if_neg hc1_2, if_pos hc10_7]; exact rfl) | exact rfl), N0, rfl⟩
    · have pre11 : ∀ t, Steps p.tables e below (s₁.setTop (mkF m 19 #[iv pi0] [(.int (2 : Int32)), (.int pi0)])) t → Go t := fun t kt => pre6 t (by
          refine y_icmpYes X0.here hx (hb hby d1_10) (feq hc10_7).2 (pc' := 17) (by decide) rfl ?_
          refine y_iloadN X0.here hx (hb hby d1_17) rfl (pc' := 18) rfl ?_
          refine y_iconst X0.here hx (hb hby d1_18) (v := (2 : Int32)) rfl (pc' := 19) rfl ?_
          exact kt)
      by_cases hc19_12 : pi0 = (2 : Int32)
      · have pre13 : ∀ t, Steps p.tables e below (s₁.setTop (mkF m 22 #[iv pi0] [])) t → Go t := fun t kt => pre11 t (by
            refine y_icmpNo X0.here hx (hb hby d1_19) (teq hc19_12).2 (pc' := 22) rfl ?_
            exact kt)
        obtain ⟨T14, X14, e14, st14⟩ := getS2 X0 hx hZ hown (host := "") (Or.inl (hw _ (List.mem_of_getElem? (i := 35) rfl))) Via.refl e0 (S_SETTLED.ext O0.2) (g := (mkF m 22 #[iv pi0] [])) rfl (hb hby d1_22)
        have pre15 : ∀ t, Steps p.tables e below (T14.setTop (mkF m 25 #[iv pi0] [(.ref w_SETTLED)])) t → Go t := fun t kt => pre13 t (st14 t kt)
        obtain ⟨fs, hr, hrun, hended, hW, hsame⟩ := X14.leave (v := some (.ref w_SETTLED)) (fun h => by rw [Bd.returns] at h; cases h)
        refine ⟨_, _, (hGo _).mp (pre15 _ ?_), hrun, hended, _, _, rfl, ?_, ⟨_, rfl⟩, hW, hsame.mono (by decide) (by decide)⟩
        · exact retOut X14 hx Bd.returns rfl (Or.inr (Or.inr (Or.inr (Or.inr ⟨rfl, rfl, rfl⟩)))) (hb hby d1_25) hr
        · show Q1 Z pi0 w_UNRATED w_DUE w_SETTLED w_NONE h0 n0 _ T14.heap _
          rw [e14]
          exact ⟨(by first | (simp only [if_neg hc1_2, if_neg hc10_7, if_pos hc19_12]; done) | (simp only [if_neg hc1_2, if_neg hc10_7, if_pos hc19_12]; exact rfl) | exact rfl), N0, rfl⟩
      · have pre16 : ∀ t, Steps p.tables e below (s₁.setTop (mkF m 26 #[iv pi0] [])) t → Go t := fun t kt => pre11 t (by
            refine y_icmpYes X0.here hx (hb hby d1_19) (feq hc19_12).2 (pc' := 26) (by decide) rfl ?_
            exact kt)
        obtain ⟨T17, X17, e17, st17⟩ := getS2 X0 hx hZ hown (host := "") (Or.inl (hw _ (List.mem_of_getElem? (i := 21) rfl))) Via.refl e0 (S_NONE.ext O0.2) (g := (mkF m 26 #[iv pi0] [])) rfl (hb hby d1_26)
        have pre18 : ∀ t, Steps p.tables e below (T17.setTop (mkF m 29 #[iv pi0] [(.ref w_NONE)])) t → Go t := fun t kt => pre16 t (st17 t kt)
        obtain ⟨fs, hr, hrun, hended, hW, hsame⟩ := X17.leave (v := some (.ref w_NONE)) (fun h => by rw [Bd.returns] at h; cases h)
        refine ⟨_, _, (hGo _).mp (pre18 _ ?_), hrun, hended, _, _, rfl, ?_, ⟨_, rfl⟩, hW, hsame.mono (by decide) (by decide)⟩
        · exact retOut X17 hx Bd.returns rfl (Or.inr (Or.inr (Or.inr (Or.inr ⟨rfl, rfl, rfl⟩)))) (hb hby d1_29) hr
        · show Q1 Z pi0 w_UNRATED w_DUE w_SETTLED w_NONE h0 n0 _ T17.heap _
          rw [e17]
          exact ⟨(by first | (simp only [if_neg hc1_2, if_neg hc10_7, if_neg hc19_12]; done) | (simp only [if_neg hc1_2, if_neg hc10_7, if_neg hc19_12]; exact rfl) | exact rfl), N0, rfl⟩
theorem d2_0 : decode prog_4_method_4_code 0 = .ok (.aload_n 0, 1) := by decide +kernel
theorem d2_1 : decode prog_4_method_4_code 1 = .ok (.getstatic 13, 3) := by decide +kernel
theorem d2_4 : decode prog_4_method_4_code 4 = .ok (.if_acmp .eq 7, 3) := by decide +kernel
theorem d2_7 : decode prog_4_method_4_code 7 = .ok (.iconst 1, 1) := by decide +kernel
theorem d2_8 : decode prog_4_method_4_code 8 = .ok (.goto 4, 3) := by decide +kernel
theorem d2_11 : decode prog_4_method_4_code 11 = .ok (.iconst 0, 1) := by decide +kernel
theorem d2_12 : decode prog_4_method_4_code 12 = .ok (.ireturn, 1) := by decide +kernel
theorem pn_com_example_brace_brace_account_Session_FixedRate : plainName "com/example/brace/brace/account/Session$FixedRate" = true := by first | (simp [plainName, overriddenIn]; done) | decide +kernel
theorem ef_2 (m : MethodId) (x0 : Addr) : entryFrame m #[(.ref x0)] 1 = mkF m 0 #[rv x0] [] := by first | (simp [entryFrame, mkF, argsToLocals, Value.category]; done) | rfl
def Q2 (Z : State) (pr0 : Addr) (w_NONE : Addr) (h0 : Heap) (n0 : Nat) (v : Option Value) (h : Heap) (L : List Loc) : Prop := v = some (.int (if pr0 = w_NONE then (0 : Int32) else (1 : Int32))) ∧ Fr n0 L ∧ h = h0
set_option maxRecDepth 65536 in
set_option maxHeartbeats 40000000 in
theorem rm2 (l : Launch) (Z : State) (a0 : Array Value) (hw : ∀ d ∈ tables_1, d.before a0 Z = true) (ws : List Jvm.Cond) (pr0 : Addr) (w_NONE : Addr) (h0 : Heap) (n0 : Nat) (O0 : Old Z n0 h0) (S_NONE : Sta Z Z.heap "com/example/brace/brace/account/Session$FixedRate" "NONE" "Lcom/example/brace/brace/account/Session$FixedRate;" (.ref w_NONE)) :
    MetFree l (⟨"com/example/brace/brace/account/Session$FixedRate", "priced", "()Z"⟩ : MethodName) (head1 (Jvm.Cond.code (⟨"com/example/brace/brace/account/Session$FixedRate", "priced", "()Z"⟩ : MethodName) prog_4_method_4_code 1 (some .boolean) :: ws) ({ frames := 0, cells := 0, slots := 0, locals := 0 } : Room)) (fun a U => a = #[(.ref pr0)] ∧ Z.Warmed39 U.vm ∧ U.heap = h0) (fun _ _ _ _ _ => True) (fun _ U o U' => ∃ v L, o = .returned v ∧ Q2 Z pr0 w_NONE h0 n0 v U'.heap L ∧ FrameEnd U o U' L ({ frames := 0, cells := 0, slots := 0, locals := 0 } : Room).cells ({ frames := 0, cells := 0, slots := 0, locals := 0 } : Room).slots) := by
  refine MetFree.of_bodySF (plainFor_of_name pn_com_example_brace_brace_account_Session_FixedRate) hisR ?_
  intro p e s m args below meth c s₁ Bd hml0 hP hK
  obtain ⟨rfl, hZ, hh⟩ := hP
  have hx := Bd.exec
  have hby := Bd.bytes
  have hml : c.maxLocals = 1 := hml0
  have hown : s.vm.findClass "com/example/brace/brace/account/Session$FixedRate" = some m.cls := findClass_of_methodNamed Bd.named
  have hnm := (name_of_methodNamed Bd.named Bd.method).1
  have X0 : Stand p l e ({ frames := 0, cells := 0, slots := 0, locals := 0 } : Room) s m #[(.ref pr0)] below meth c s₁ [] 0 0 := Stand.of_body Bd
  have e0 : s₁.heap = h0 := by rw [← hh, Bd.state]; rfl
  have N0 := Fr.nil n0
  obtain ⟨Go, hGo⟩ : ∃ P : State → Prop, ∀ t, P t ↔ Steps p.tables e below (s₁.setTop (entryFrame m #[(.ref pr0)] 1)) t := ⟨_, fun _ => Iff.rfl⟩
  have pre0 : ∀ t, Steps p.tables e below (s₁.setTop (mkF m 0 #[rv pr0] [])) t → Go t := fun t k => (hGo t).mpr (castTop (ef_2 m pr0) k)
  have pre1 : ∀ t, Steps p.tables e below (s₁.setTop (mkF m 1 #[rv pr0] [(.ref pr0)])) t → Go t := fun t kt => pre0 t (by
      refine y_aloadN X0.here hx (hb hby d2_0) rfl rfl (pc' := 1) rfl ?_
      exact kt)
  obtain ⟨T2, X2, e2, st2⟩ := getS2 X0 hx hZ hown (host := "") (Or.inl (hw _ (List.mem_of_getElem? (i := 12) rfl))) Via.refl e0 (S_NONE.ext O0.2) (g := (mkF m 1 #[rv pr0] [(.ref pr0)])) rfl (hb hby d2_1)
  have pre3 : ∀ t, Steps p.tables e below (T2.setTop (mkF m 4 #[rv pr0] [(.ref w_NONE), (.ref pr0)])) t → Go t := fun t kt => pre1 t (st2 t kt)
  by_cases hc4_4 : pr0 = w_NONE
  · have pre5 : ∀ t, Steps p.tables e below (T2.setTop (mkF m 12 #[rv pr0] [(.int (0 : Int32))])) t → Go t := fun t kt => pre3 t (by
        refine Jvm.RoadKit.acmp (g := (mkF m 4 #[rv pr0] [(.ref w_NONE), (.ref pr0)])) X2 hx rfl rfl rfl (pc0 := 4) (pc' := 11) (same := true) rfl (hb hby d2_4) rfl (decide_eq_true (congrArg Value.ref hc4_4)) (by decide) (by decide) ?_
        show Steps p.tables e below (T2.setTop (mkF m 11 #[rv pr0] [])) _
        refine y_iconst X2.here hx (hb hby d2_11) (v := (0 : Int32)) rfl (pc' := 12) rfl ?_
        exact kt)
    obtain ⟨fs, hr, hrun, hended, hW, hsame⟩ := X2.leave (v := some (.int (0 : Int32))) (fun h => by rw [Bd.returns] at h; cases h)
    refine ⟨_, _, (hGo _).mp (pre5 _ ?_), hrun, hended, _, _, rfl, ?_, ⟨_, rfl⟩, hW, hsame.mono (by decide) (by decide)⟩
    · exact retN X2 hx (t := .boolean) Bd.returns (by simp) (hb hby d2_12) hr
    · show Q2 Z pr0 w_NONE h0 n0 _ T2.heap _
      rw [e2]
      exact ⟨(by first | (simp only [if_pos hc4_4]; done) | (simp only [if_pos hc4_4]; exact rfl) | exact rfl), N0, rfl⟩
  · have pre6 : ∀ t, Steps p.tables e below (T2.setTop (mkF m 12 #[rv pr0] [(.int (1 : Int32))])) t → Go t := fun t kt => pre3 t (by
        refine Jvm.RoadKit.acmp (g := (mkF m 4 #[rv pr0] [(.ref w_NONE), (.ref pr0)])) X2 hx rfl rfl rfl (pc0 := 4) (pc' := 7) (same := false) rfl (hb hby d2_4) rfl (decide_eq_false fun q => hc4_4 (Value.ref.inj q)) (by decide) (by decide) ?_
        show Steps p.tables e below (T2.setTop (mkF m 7 #[rv pr0] [])) _
        refine y_iconst X2.here hx (hb hby d2_7) (v := (1 : Int32)) rfl (pc' := 8) rfl ?_
        refine y_goto X2.here hx (hb hby d2_8) (pc' := 12) (by decide) rfl ?_
        exact kt)
    obtain ⟨fs, hr, hrun, hended, hW, hsame⟩ := X2.leave (v := some (.int (1 : Int32))) (fun h => by rw [Bd.returns] at h; cases h)
    refine ⟨_, _, (hGo _).mp (pre6 _ ?_), hrun, hended, _, _, rfl, ?_, ⟨_, rfl⟩, hW, hsame.mono (by decide) (by decide)⟩
    · exact retN X2 hx (t := .boolean) Bd.returns (by simp) (hb hby d2_12) hr
    · show Q2 Z pr0 w_NONE h0 n0 _ T2.heap _
      rw [e2]
      exact ⟨(by first | (simp only [if_neg hc4_4]; done) | (simp only [if_neg hc4_4]; exact rfl) | exact rfl), N0, rfl⟩
theorem d3_0 : decode prog_4_method_7_code 0 = .ok (.aload_n 0, 1) := by decide +kernel
theorem d3_1 : decode prog_4_method_7_code 1 = .ok (.getstatic 13, 3) := by decide +kernel
theorem d3_4 : decode prog_4_method_7_code 4 = .ok (.if_acmp .ne 9, 3) := by decide +kernel
theorem d3_7 : decode prog_4_method_7_code 7 = .ok (.getstatic 13, 3) := by decide +kernel
theorem d3_10 : decode prog_4_method_7_code 10 = .ok (.goto 6, 3) := by decide +kernel
theorem d3_13 : decode prog_4_method_7_code 13 = .ok (.getstatic 10, 3) := by decide +kernel
theorem d3_16 : decode prog_4_method_7_code 16 = .ok (.areturn, 1) := by decide +kernel
theorem ef_3 (m : MethodId) (x0 : Addr) : entryFrame m #[(.ref x0)] 1 = mkF m 0 #[rv x0] [] := by first | (simp [entryFrame, mkF, argsToLocals, Value.category]; done) | rfl
def Q3 (Z : State) (pr0 : Addr) (w_SETTLED : Addr) (w_NONE : Addr) (h0 : Heap) (n0 : Nat) (v : Option Value) (h : Heap) (L : List Loc) : Prop := v = some (.ref (if pr0 = w_NONE then w_NONE else w_SETTLED)) ∧ Fr n0 L ∧ h = h0
set_option maxRecDepth 65536 in
set_option maxHeartbeats 40000000 in
theorem rm3 (l : Launch) (Z : State) (a0 : Array Value) (hw : ∀ d ∈ tables_1, d.before a0 Z = true) (ws : List Jvm.Cond) (pr0 : Addr) (w_SETTLED : Addr) (w_NONE : Addr) (h0 : Heap) (n0 : Nat) (O0 : Old Z n0 h0) (S_SETTLED : Sta Z Z.heap "com/example/brace/brace/account/Session$FixedRate" "SETTLED" "Lcom/example/brace/brace/account/Session$FixedRate;" (.ref w_SETTLED)) (S_NONE : Sta Z Z.heap "com/example/brace/brace/account/Session$FixedRate" "NONE" "Lcom/example/brace/brace/account/Session$FixedRate;" (.ref w_NONE)) :
    MetFree l (⟨"com/example/brace/brace/account/Session$FixedRate", "afterCharge", "()Lcom/example/brace/brace/account/Session$FixedRate;"⟩ : MethodName) (head1 (Jvm.Cond.code (⟨"com/example/brace/brace/account/Session$FixedRate", "afterCharge", "()Lcom/example/brace/brace/account/Session$FixedRate;"⟩ : MethodName) prog_4_method_7_code 1 (some (.object "com/example/brace/brace/account/Session$FixedRate")) :: ws) ({ frames := 0, cells := 0, slots := 0, locals := 0 } : Room)) (fun a U => a = #[(.ref pr0)] ∧ Z.Warmed39 U.vm ∧ U.heap = h0) (fun _ _ _ _ _ => True) (fun _ U o U' => ∃ v L, o = .returned v ∧ Q3 Z pr0 w_SETTLED w_NONE h0 n0 v U'.heap L ∧ FrameEnd U o U' L ({ frames := 0, cells := 0, slots := 0, locals := 0 } : Room).cells ({ frames := 0, cells := 0, slots := 0, locals := 0 } : Room).slots) := by
  refine MetFree.of_bodySF (plainFor_of_name pn_com_example_brace_brace_account_Session_FixedRate) hisR ?_
  intro p e s m args below meth c s₁ Bd hml0 hP hK
  obtain ⟨rfl, hZ, hh⟩ := hP
  have hx := Bd.exec
  have hby := Bd.bytes
  have hml : c.maxLocals = 1 := hml0
  have hown : s.vm.findClass "com/example/brace/brace/account/Session$FixedRate" = some m.cls := findClass_of_methodNamed Bd.named
  have hnm := (name_of_methodNamed Bd.named Bd.method).1
  have X0 : Stand p l e ({ frames := 0, cells := 0, slots := 0, locals := 0 } : Room) s m #[(.ref pr0)] below meth c s₁ [] 0 0 := Stand.of_body Bd
  have e0 : s₁.heap = h0 := by rw [← hh, Bd.state]; rfl
  have N0 := Fr.nil n0
  obtain ⟨Go, hGo⟩ : ∃ P : State → Prop, ∀ t, P t ↔ Steps p.tables e below (s₁.setTop (entryFrame m #[(.ref pr0)] 1)) t := ⟨_, fun _ => Iff.rfl⟩
  have pre0 : ∀ t, Steps p.tables e below (s₁.setTop (mkF m 0 #[rv pr0] [])) t → Go t := fun t k => (hGo t).mpr (castTop (ef_3 m pr0) k)
  have pre1 : ∀ t, Steps p.tables e below (s₁.setTop (mkF m 1 #[rv pr0] [(.ref pr0)])) t → Go t := fun t kt => pre0 t (by
      refine y_aloadN X0.here hx (hb hby d3_0) rfl rfl (pc' := 1) rfl ?_
      exact kt)
  obtain ⟨T2, X2, e2, st2⟩ := getS2 X0 hx hZ hown (host := "") (Or.inl (hw _ (List.mem_of_getElem? (i := 12) rfl))) Via.refl e0 (S_NONE.ext O0.2) (g := (mkF m 1 #[rv pr0] [(.ref pr0)])) rfl (hb hby d3_1)
  have pre3 : ∀ t, Steps p.tables e below (T2.setTop (mkF m 4 #[rv pr0] [(.ref w_NONE), (.ref pr0)])) t → Go t := fun t kt => pre1 t (st2 t kt)
  by_cases hc4_4 : pr0 = w_NONE
  · have pre5 : ∀ t, Steps p.tables e below (T2.setTop (mkF m 7 #[rv pr0] [])) t → Go t := fun t kt => pre3 t (by
        refine Jvm.RoadKit.acmp (g := (mkF m 4 #[rv pr0] [(.ref w_NONE), (.ref pr0)])) X2 hx rfl rfl rfl (pc0 := 4) (pc' := 7) (same := true) rfl (hb hby d3_4) rfl (decide_eq_true (congrArg Value.ref hc4_4)) (by decide) (by decide) ?_
        show Steps p.tables e below (T2.setTop (mkF m 7 #[rv pr0] [])) _
        exact kt)
    obtain ⟨T6, X6, e6, st6⟩ := getS2 X2 hx hZ hown (host := "") (Or.inl (hw _ (List.mem_of_getElem? (i := 12) rfl))) Via.refl e2 (S_NONE.ext O0.2) (g := (mkF m 7 #[rv pr0] [])) rfl (hb hby d3_7)
    have pre7 : ∀ t, Steps p.tables e below (T6.setTop (mkF m 10 #[rv pr0] [(.ref w_NONE)])) t → Go t := fun t kt => pre5 t (st6 t kt)
    have pre8 : ∀ t, Steps p.tables e below (T6.setTop (mkF m 16 #[rv pr0] [(.ref w_NONE)])) t → Go t := fun t kt => pre7 t (by
        refine y_goto X6.here hx (hb hby d3_10) (pc' := 16) (by decide) rfl ?_
        exact kt)
    obtain ⟨fs, hr, hrun, hended, hW, hsame⟩ := X6.leave (v := some (.ref w_NONE)) (fun h => by rw [Bd.returns] at h; cases h)
    refine ⟨_, _, (hGo _).mp (pre8 _ ?_), hrun, hended, _, _, rfl, ?_, ⟨_, rfl⟩, hW, hsame.mono (by decide) (by decide)⟩
    · exact retOut X6 hx Bd.returns rfl (Or.inr (Or.inr (Or.inr (Or.inr ⟨rfl, rfl, rfl⟩)))) (hb hby d3_16) hr
    · show Q3 Z pr0 w_SETTLED w_NONE h0 n0 _ T6.heap _
      rw [e6]
      exact ⟨(by first | (simp only [if_pos hc4_4]; done) | (simp only [if_pos hc4_4]; exact rfl) | exact rfl), N0, rfl⟩
  · have pre9 : ∀ t, Steps p.tables e below (T2.setTop (mkF m 13 #[rv pr0] [])) t → Go t := fun t kt => pre3 t (by
        refine Jvm.RoadKit.acmp (g := (mkF m 4 #[rv pr0] [(.ref w_NONE), (.ref pr0)])) X2 hx rfl rfl rfl (pc0 := 4) (pc' := 13) (same := false) rfl (hb hby d3_4) rfl (decide_eq_false fun q => hc4_4 (Value.ref.inj q)) (by decide) (by decide) ?_
        show Steps p.tables e below (T2.setTop (mkF m 13 #[rv pr0] [])) _
        exact kt)
    obtain ⟨T10, X10, e10, st10⟩ := getS2 X2 hx hZ hown (host := "") (Or.inl (hw _ (List.mem_of_getElem? (i := 19) rfl))) Via.refl e2 (S_SETTLED.ext O0.2) (g := (mkF m 13 #[rv pr0] [])) rfl (hb hby d3_13)
    have pre11 : ∀ t, Steps p.tables e below (T10.setTop (mkF m 16 #[rv pr0] [(.ref w_SETTLED)])) t → Go t := fun t kt => pre9 t (st10 t kt)
    obtain ⟨fs, hr, hrun, hended, hW, hsame⟩ := X10.leave (v := some (.ref w_SETTLED)) (fun h => by rw [Bd.returns] at h; cases h)
    refine ⟨_, _, (hGo _).mp (pre11 _ ?_), hrun, hended, _, _, rfl, ?_, ⟨_, rfl⟩, hW, hsame.mono (by decide) (by decide)⟩
    · exact retOut X10 hx Bd.returns rfl (Or.inr (Or.inr (Or.inr (Or.inr ⟨rfl, rfl, rfl⟩)))) (hb hby d3_16) hr
    · show Q3 Z pr0 w_SETTLED w_NONE h0 n0 _ T10.heap _
      rw [e10]
      exact ⟨(by first | (simp only [if_neg hc4_4]; done) | (simp only [if_neg hc4_4]; exact rfl) | exact rfl), N0, rfl⟩
theorem d4_0 : decode prog_4_method_5_code 0 = .ok (.aload_n 0, 1) := by decide +kernel
theorem d4_1 : decode prog_4_method_5_code 1 = .ok (.getstatic 10, 3) := by decide +kernel
theorem d4_4 : decode prog_4_method_5_code 4 = .ok (.if_acmp .ne 7, 3) := by decide +kernel
theorem d4_7 : decode prog_4_method_5_code 7 = .ok (.iconst 1, 1) := by decide +kernel
theorem d4_8 : decode prog_4_method_5_code 8 = .ok (.goto 4, 3) := by decide +kernel
theorem d4_11 : decode prog_4_method_5_code 11 = .ok (.iconst 0, 1) := by decide +kernel
theorem d4_12 : decode prog_4_method_5_code 12 = .ok (.ireturn, 1) := by decide +kernel
theorem ef_4 (m : MethodId) (x0 : Addr) : entryFrame m #[(.ref x0)] 1 = mkF m 0 #[rv x0] [] := by first | (simp [entryFrame, mkF, argsToLocals, Value.category]; done) | rfl
def Q4 (Z : State) (pr0 : Addr) (w_SETTLED : Addr) (h0 : Heap) (n0 : Nat) (v : Option Value) (h : Heap) (L : List Loc) : Prop := v = some (.int (if pr0 = w_SETTLED then (1 : Int32) else (0 : Int32))) ∧ Fr n0 L ∧ h = h0
set_option maxRecDepth 65536 in
set_option maxHeartbeats 40000000 in
theorem rm4 (l : Launch) (Z : State) (a0 : Array Value) (hw : ∀ d ∈ tables_1, d.before a0 Z = true) (ws : List Jvm.Cond) (pr0 : Addr) (w_SETTLED : Addr) (h0 : Heap) (n0 : Nat) (O0 : Old Z n0 h0) (S_SETTLED : Sta Z Z.heap "com/example/brace/brace/account/Session$FixedRate" "SETTLED" "Lcom/example/brace/brace/account/Session$FixedRate;" (.ref w_SETTLED)) :
    MetFree l (⟨"com/example/brace/brace/account/Session$FixedRate", "settled", "()Z"⟩ : MethodName) (head1 (Jvm.Cond.code (⟨"com/example/brace/brace/account/Session$FixedRate", "settled", "()Z"⟩ : MethodName) prog_4_method_5_code 1 (some .boolean) :: ws) ({ frames := 0, cells := 0, slots := 0, locals := 0 } : Room)) (fun a U => a = #[(.ref pr0)] ∧ Z.Warmed39 U.vm ∧ U.heap = h0) (fun _ _ _ _ _ => True) (fun _ U o U' => ∃ v L, o = .returned v ∧ Q4 Z pr0 w_SETTLED h0 n0 v U'.heap L ∧ FrameEnd U o U' L ({ frames := 0, cells := 0, slots := 0, locals := 0 } : Room).cells ({ frames := 0, cells := 0, slots := 0, locals := 0 } : Room).slots) := by
  refine MetFree.of_bodySF (plainFor_of_name pn_com_example_brace_brace_account_Session_FixedRate) hisR ?_
  intro p e s m args below meth c s₁ Bd hml0 hP hK
  obtain ⟨rfl, hZ, hh⟩ := hP
  have hx := Bd.exec
  have hby := Bd.bytes
  have hml : c.maxLocals = 1 := hml0
  have hown : s.vm.findClass "com/example/brace/brace/account/Session$FixedRate" = some m.cls := findClass_of_methodNamed Bd.named
  have hnm := (name_of_methodNamed Bd.named Bd.method).1
  have X0 : Stand p l e ({ frames := 0, cells := 0, slots := 0, locals := 0 } : Room) s m #[(.ref pr0)] below meth c s₁ [] 0 0 := Stand.of_body Bd
  have e0 : s₁.heap = h0 := by rw [← hh, Bd.state]; rfl
  have N0 := Fr.nil n0
  obtain ⟨Go, hGo⟩ : ∃ P : State → Prop, ∀ t, P t ↔ Steps p.tables e below (s₁.setTop (entryFrame m #[(.ref pr0)] 1)) t := ⟨_, fun _ => Iff.rfl⟩
  have pre0 : ∀ t, Steps p.tables e below (s₁.setTop (mkF m 0 #[rv pr0] [])) t → Go t := fun t k => (hGo t).mpr (castTop (ef_4 m pr0) k)
  have pre1 : ∀ t, Steps p.tables e below (s₁.setTop (mkF m 1 #[rv pr0] [(.ref pr0)])) t → Go t := fun t kt => pre0 t (by
      refine y_aloadN X0.here hx (hb hby d4_0) rfl rfl (pc' := 1) rfl ?_
      exact kt)
  obtain ⟨T2, X2, e2, st2⟩ := getS2 X0 hx hZ hown (host := "") (Or.inl (hw _ (List.mem_of_getElem? (i := 19) rfl))) Via.refl e0 (S_SETTLED.ext O0.2) (g := (mkF m 1 #[rv pr0] [(.ref pr0)])) rfl (hb hby d4_1)
  have pre3 : ∀ t, Steps p.tables e below (T2.setTop (mkF m 4 #[rv pr0] [(.ref w_SETTLED), (.ref pr0)])) t → Go t := fun t kt => pre1 t (st2 t kt)
  by_cases hc4_4 : pr0 = w_SETTLED
  · have pre5 : ∀ t, Steps p.tables e below (T2.setTop (mkF m 12 #[rv pr0] [(.int (1 : Int32))])) t → Go t := fun t kt => pre3 t (by
        refine Jvm.RoadKit.acmp (g := (mkF m 4 #[rv pr0] [(.ref w_SETTLED), (.ref pr0)])) X2 hx rfl rfl rfl (pc0 := 4) (pc' := 7) (same := true) rfl (hb hby d4_4) rfl (decide_eq_true (congrArg Value.ref hc4_4)) (by decide) (by decide) ?_
        show Steps p.tables e below (T2.setTop (mkF m 7 #[rv pr0] [])) _
        refine y_iconst X2.here hx (hb hby d4_7) (v := (1 : Int32)) rfl (pc' := 8) rfl ?_
        refine y_goto X2.here hx (hb hby d4_8) (pc' := 12) (by decide) rfl ?_
        exact kt)
    obtain ⟨fs, hr, hrun, hended, hW, hsame⟩ := X2.leave (v := some (.int (1 : Int32))) (fun h => by rw [Bd.returns] at h; cases h)
    refine ⟨_, _, (hGo _).mp (pre5 _ ?_), hrun, hended, _, _, rfl, ?_, ⟨_, rfl⟩, hW, hsame.mono (by decide) (by decide)⟩
    · exact retN X2 hx (t := .boolean) Bd.returns (by simp) (hb hby d4_12) hr
    · show Q4 Z pr0 w_SETTLED h0 n0 _ T2.heap _
      rw [e2]
      exact ⟨(by first | (simp only [if_pos hc4_4]; done) | (simp only [if_pos hc4_4]; exact rfl) | exact rfl), N0, rfl⟩
  · have pre6 : ∀ t, Steps p.tables e below (T2.setTop (mkF m 12 #[rv pr0] [(.int (0 : Int32))])) t → Go t := fun t kt => pre3 t (by
        refine Jvm.RoadKit.acmp (g := (mkF m 4 #[rv pr0] [(.ref w_SETTLED), (.ref pr0)])) X2 hx rfl rfl rfl (pc0 := 4) (pc' := 11) (same := false) rfl (hb hby d4_4) rfl (decide_eq_false fun q => hc4_4 (Value.ref.inj q)) (by decide) (by decide) ?_
        show Steps p.tables e below (T2.setTop (mkF m 11 #[rv pr0] [])) _
        refine y_iconst X2.here hx (hb hby d4_11) (v := (0 : Int32)) rfl (pc' := 12) rfl ?_
        exact kt)
    obtain ⟨fs, hr, hrun, hended, hW, hsame⟩ := X2.leave (v := some (.int (0 : Int32))) (fun h => by rw [Bd.returns] at h; cases h)
    refine ⟨_, _, (hGo _).mp (pre6 _ ?_), hrun, hended, _, _, rfl, ?_, ⟨_, rfl⟩, hW, hsame.mono (by decide) (by decide)⟩
    · exact retN X2 hx (t := .boolean) Bd.returns (by simp) (hb hby d4_12) hr
    · show Q4 Z pr0 w_SETTLED h0 n0 _ T2.heap _
      rw [e2]
      exact ⟨(by first | (simp only [if_neg hc4_4]; done) | (simp only [if_neg hc4_4]; exact rfl) | exact rfl), N0, rfl⟩
theorem d5_0 : decode prog_4_method_6_code 0 = .ok (.aload_n 0, 1) := by decide +kernel
theorem d5_1 : decode prog_4_method_6_code 1 = .ok (.getstatic 3, 3) := by decide +kernel
theorem d5_4 : decode prog_4_method_6_code 4 = .ok (.if_acmp .eq 5, 3) := by decide +kernel
theorem d5_7 : decode prog_4_method_6_code 7 = .ok (.aload_n 0, 1) := by decide +kernel
theorem d5_8 : decode prog_4_method_6_code 8 = .ok (.areturn, 1) := by decide +kernel
theorem d5_9 : decode prog_4_method_6_code 9 = .ok (.iload_n 1, 1) := by decide +kernel
theorem d5_10 : decode prog_4_method_6_code 10 = .ok (.ifCond .eq 9, 3) := by decide +kernel
theorem d5_13 : decode prog_4_method_6_code 13 = .ok (.getstatic 7, 3) := by decide +kernel
theorem d5_16 : decode prog_4_method_6_code 16 = .ok (.goto 6, 3) := by decide +kernel
theorem d5_19 : decode prog_4_method_6_code 19 = .ok (.getstatic 13, 3) := by decide +kernel
theorem d5_22 : decode prog_4_method_6_code 22 = .ok (.areturn, 1) := by decide +kernel
theorem ef_5 (m : MethodId) (x0 : Addr) (x1 : Int32) : entryFrame m #[(.ref x0), (.int x1)] 2 = mkF m 0 #[rv x0, iv x1] [] := by first | (simp [entryFrame, mkF, argsToLocals, Value.category]; done) | rfl
def Q5 (Z : State) (pr0 : Addr) (pi1 : Int32) (w_UNRATED : Addr) (w_DUE : Addr) (w_NONE : Addr) (h0 : Heap) (n0 : Nat) (v : Option Value) (h : Heap) (L : List Loc) : Prop := v = some (.ref (if pr0 = w_UNRATED then (if pi1 = (0 : Int32) then w_NONE else w_DUE) else pr0)) ∧ Fr n0 L ∧ h = h0
set_option maxRecDepth 65536 in
set_option maxHeartbeats 40000000 in
theorem rm5 (l : Launch) (Z : State) (a0 : Array Value) (hw : ∀ d ∈ tables_1, d.before a0 Z = true) (ws : List Jvm.Cond) (pr0 : Addr) (pi1 : Int32) (w_UNRATED : Addr) (w_DUE : Addr) (w_NONE : Addr) (h0 : Heap) (n0 : Nat) (O0 : Old Z n0 h0) (S_UNRATED : Sta Z Z.heap "com/example/brace/brace/account/Session$FixedRate" "UNRATED" "Lcom/example/brace/brace/account/Session$FixedRate;" (.ref w_UNRATED)) (S_DUE : Sta Z Z.heap "com/example/brace/brace/account/Session$FixedRate" "DUE" "Lcom/example/brace/brace/account/Session$FixedRate;" (.ref w_DUE)) (S_NONE : Sta Z Z.heap "com/example/brace/brace/account/Session$FixedRate" "NONE" "Lcom/example/brace/brace/account/Session$FixedRate;" (.ref w_NONE)) :
    MetFree l (⟨"com/example/brace/brace/account/Session$FixedRate", "afterReservation", "(Z)Lcom/example/brace/brace/account/Session$FixedRate;"⟩ : MethodName) (head1 (Jvm.Cond.code (⟨"com/example/brace/brace/account/Session$FixedRate", "afterReservation", "(Z)Lcom/example/brace/brace/account/Session$FixedRate;"⟩ : MethodName) prog_4_method_6_code 2 (some (.object "com/example/brace/brace/account/Session$FixedRate")) :: ws) ({ frames := 0, cells := 0, slots := 0, locals := 0 } : Room)) (fun a U => a = #[(.ref pr0), (.int pi1)] ∧ Z.Warmed39 U.vm ∧ U.heap = h0) (fun _ _ _ _ _ => True) (fun _ U o U' => ∃ v L, o = .returned v ∧ Q5 Z pr0 pi1 w_UNRATED w_DUE w_NONE h0 n0 v U'.heap L ∧ FrameEnd U o U' L ({ frames := 0, cells := 0, slots := 0, locals := 0 } : Room).cells ({ frames := 0, cells := 0, slots := 0, locals := 0 } : Room).slots) := by
  refine MetFree.of_bodySF (plainFor_of_name pn_com_example_brace_brace_account_Session_FixedRate) hisR ?_
  intro p e s m args below meth c s₁ Bd hml0 hP hK
  obtain ⟨rfl, hZ, hh⟩ := hP
  have hx := Bd.exec
  have hby := Bd.bytes
  have hml : c.maxLocals = 2 := hml0
  have hown : s.vm.findClass "com/example/brace/brace/account/Session$FixedRate" = some m.cls := findClass_of_methodNamed Bd.named
  have hnm := (name_of_methodNamed Bd.named Bd.method).1
  have X0 : Stand p l e ({ frames := 0, cells := 0, slots := 0, locals := 0 } : Room) s m #[(.ref pr0), (.int pi1)] below meth c s₁ [] 0 0 := Stand.of_body Bd
  have e0 : s₁.heap = h0 := by rw [← hh, Bd.state]; rfl
  have N0 := Fr.nil n0
  obtain ⟨Go, hGo⟩ : ∃ P : State → Prop, ∀ t, P t ↔ Steps p.tables e below (s₁.setTop (entryFrame m #[(.ref pr0), (.int pi1)] 2)) t := ⟨_, fun _ => Iff.rfl⟩
  have pre0 : ∀ t, Steps p.tables e below (s₁.setTop (mkF m 0 #[rv pr0, iv pi1] [])) t → Go t := fun t k => (hGo t).mpr (castTop (ef_5 m pr0 pi1) k)
  have pre1 : ∀ t, Steps p.tables e below (s₁.setTop (mkF m 1 #[rv pr0, iv pi1] [(.ref pr0)])) t → Go t := fun t kt => pre0 t (by
      refine y_aloadN X0.here hx (hb hby d5_0) rfl rfl (pc' := 1) rfl ?_
      exact kt)
  obtain ⟨T2, X2, e2, st2⟩ := getS2 X0 hx hZ hown (host := "") (Or.inl (hw _ (List.mem_of_getElem? (i := 32) rfl))) Via.refl e0 (S_UNRATED.ext O0.2) (g := (mkF m 1 #[rv pr0, iv pi1] [(.ref pr0)])) rfl (hb hby d5_1)
  have pre3 : ∀ t, Steps p.tables e below (T2.setTop (mkF m 4 #[rv pr0, iv pi1] [(.ref w_UNRATED), (.ref pr0)])) t → Go t := fun t kt => pre1 t (st2 t kt)
  by_cases hc4_4 : pr0 = w_UNRATED
  · have pre5 : ∀ t, Steps p.tables e below (T2.setTop (mkF m 10 #[rv pr0, iv pi1] [(.int pi1)])) t → Go t := fun t kt => pre3 t (by
        refine Jvm.RoadKit.acmp (g := (mkF m 4 #[rv pr0, iv pi1] [(.ref w_UNRATED), (.ref pr0)])) X2 hx rfl rfl rfl (pc0 := 4) (pc' := 9) (same := true) rfl (hb hby d5_4) rfl (decide_eq_true (congrArg Value.ref hc4_4)) (by decide) (by decide) ?_
        show Steps p.tables e below (T2.setTop (mkF m 9 #[rv pr0, iv pi1] [])) _
        refine y_iloadN X2.here hx (hb hby d5_9) rfl (pc' := 10) rfl ?_
        exact kt)
    by_cases hc10_6 : pi1 = (0 : Int32)
    · have pre7 : ∀ t, Steps p.tables e below (T2.setTop (mkF m 19 #[rv pr0, iv pi1] [])) t → Go t := fun t kt => pre5 t (by
          refine y_ifYes X2.here hx (hb hby d5_10) ((if0 _ _).trans (teq hc10_6).1) (pc' := 19) (by decide) rfl ?_
          exact kt)
      obtain ⟨T8, X8, e8, st8⟩ := getS2 X2 hx hZ hown (host := "") (Or.inl (hw _ (List.mem_of_getElem? (i := 12) rfl))) Via.refl e2 (S_NONE.ext O0.2) (g := (mkF m 19 #[rv pr0, iv pi1] [])) rfl (hb hby d5_19)
      have pre9 : ∀ t, Steps p.tables e below (T8.setTop (mkF m 22 #[rv pr0, iv pi1] [(.ref w_NONE)])) t → Go t := fun t kt => pre7 t (st8 t kt)
      obtain ⟨fs, hr, hrun, hended, hW, hsame⟩ := X8.leave (v := some (.ref w_NONE)) (fun h => by rw [Bd.returns] at h; cases h)
      refine ⟨_, _, (hGo _).mp (pre9 _ ?_), hrun, hended, _, _, rfl, ?_, ⟨_, rfl⟩, hW, hsame.mono (by decide) (by decide)⟩
      · exact retOut X8 hx Bd.returns rfl (Or.inr (Or.inr (Or.inr (Or.inr ⟨rfl, rfl, rfl⟩)))) (hb hby d5_22) hr
      · show Q5 Z pr0 pi1 w_UNRATED w_DUE w_NONE h0 n0 _ T8.heap _
        rw [e8]
        exact ⟨(by first | (simp only [if_pos hc4_4, if_pos hc10_6]; done) | (simp only [if_pos hc4_4, if_pos hc10_6]; exact rfl) | exact rfl), N0, rfl⟩
    · have pre10 : ∀ t, Steps p.tables e below (T2.setTop (mkF m 13 #[rv pr0, iv pi1] [])) t → Go t := fun t kt => pre5 t (by
          refine y_ifNo X2.here hx (hb hby d5_10) ((if0 _ _).trans (feq hc10_6).1) (pc' := 13) rfl ?_
          exact kt)
      obtain ⟨T11, X11, e11, st11⟩ := getS2 X2 hx hZ hown (host := "") (Or.inl (hw _ (List.mem_of_getElem? (i := 33) rfl))) Via.refl e2 (S_DUE.ext O0.2) (g := (mkF m 13 #[rv pr0, iv pi1] [])) rfl (hb hby d5_13)
      have pre12 : ∀ t, Steps p.tables e below (T11.setTop (mkF m 16 #[rv pr0, iv pi1] [(.ref w_DUE)])) t → Go t := fun t kt => pre10 t (st11 t kt)
      have pre13 : ∀ t, Steps p.tables e below (T11.setTop (mkF m 22 #[rv pr0, iv pi1] [(.ref w_DUE)])) t → Go t := fun t kt => pre12 t (by
          refine y_goto X11.here hx (hb hby d5_16) (pc' := 22) (by decide) rfl ?_
          exact kt)
      obtain ⟨fs, hr, hrun, hended, hW, hsame⟩ := X11.leave (v := some (.ref w_DUE)) (fun h => by rw [Bd.returns] at h; cases h)
      refine ⟨_, _, (hGo _).mp (pre13 _ ?_), hrun, hended, _, _, rfl, ?_, ⟨_, rfl⟩, hW, hsame.mono (by decide) (by decide)⟩
      · exact retOut X11 hx Bd.returns rfl (Or.inr (Or.inr (Or.inr (Or.inr ⟨rfl, rfl, rfl⟩)))) (hb hby d5_22) hr
      · show Q5 Z pr0 pi1 w_UNRATED w_DUE w_NONE h0 n0 _ T11.heap _
        rw [e11]
        exact ⟨(by first | (simp only [if_pos hc4_4, if_neg hc10_6]; done) | (simp only [if_pos hc4_4, if_neg hc10_6]; exact rfl) | exact rfl), N0, rfl⟩
  · have pre14 : ∀ t, Steps p.tables e below (T2.setTop (mkF m 8 #[rv pr0, iv pi1] [(.ref pr0)])) t → Go t := fun t kt => pre3 t (by
        refine Jvm.RoadKit.acmp (g := (mkF m 4 #[rv pr0, iv pi1] [(.ref w_UNRATED), (.ref pr0)])) X2 hx rfl rfl rfl (pc0 := 4) (pc' := 7) (same := false) rfl (hb hby d5_4) rfl (decide_eq_false fun q => hc4_4 (Value.ref.inj q)) (by decide) (by decide) ?_
        show Steps p.tables e below (T2.setTop (mkF m 7 #[rv pr0, iv pi1] [])) _
        refine y_aloadN X2.here hx (hb hby d5_7) rfl rfl (pc' := 8) rfl ?_
        exact kt)
    obtain ⟨fs, hr, hrun, hended, hW, hsame⟩ := X2.leave (v := some (.ref pr0)) (fun h => by rw [Bd.returns] at h; cases h)
    refine ⟨_, _, (hGo _).mp (pre14 _ ?_), hrun, hended, _, _, rfl, ?_, ⟨_, rfl⟩, hW, hsame.mono (by decide) (by decide)⟩
    · exact retOut X2 hx Bd.returns rfl (Or.inr (Or.inr (Or.inr (Or.inr ⟨rfl, rfl, rfl⟩)))) (hb hby d5_8) hr
    · show Q5 Z pr0 pi1 w_UNRATED w_DUE w_NONE h0 n0 _ T2.heap _
      rw [e2]
      exact ⟨(by first | (simp only [if_neg hc4_4]; done) | (simp only [if_neg hc4_4]; exact rfl) | exact rfl), N0, rfl⟩
theorem pd__I_Lcom_example_brace_brace_account_Session_FixedRate_ : parseMethodDescriptor "(I)Lcom/example/brace/brace/account/Session$FixedRate;" = some ⟨[.int], some (.object "com/example/brace/brace/account/Session$FixedRate")⟩ := by decide +kernel
theorem pd___Z : parseMethodDescriptor "()Z" = some ⟨[], some .boolean⟩ := by decide +kernel
theorem pd___Lcom_example_brace_brace_account_Session_FixedRate_ : parseMethodDescriptor "()Lcom/example/brace/brace/account/Session$FixedRate;" = some ⟨[], some (.object "com/example/brace/brace/account/Session$FixedRate")⟩ := by decide +kernel
theorem pd__Z_Lcom_example_brace_brace_account_Session_FixedRate_ : parseMethodDescriptor "(Z)Lcom/example/brace/brace/account/Session$FixedRate;" = some ⟨[.boolean], some (.object "com/example/brace/brace/account/Session$FixedRate")⟩ := by decide +kernel
theorem ef_0 (m : MethodId) (x0 : Int32) (x1 : Int32) : entryFrame m #[(.int x0), (.int x1)] maxLocals = mkF m 0 #[iv x0, iv x1, .unset, .unset, .unset, .unset, .unset, .unset] [] := by first | (simp [entryFrame, mkF, argsToLocals, Value.category, maxLocals]; done) | rfl
def Q0 (Z : State) (pi0 : Int32) (pi1 : Int32) (w_UNRATED : Addr) (w_DUE : Addr) (w_SETTLED : Addr) (w_NONE : Addr) (h0 : Heap) (n0 : Nat) (v : Option Value) (h : Heap) (L : List Loc) : Prop := v = some (.int (1 : Int32)) ∧ Fr n0 L
set_option maxRecDepth 65536 in
set_option maxHeartbeats 40000000 in
theorem rm0 (l : Launch) (Z : State) (a0 : Array Value) (hw : ∀ d ∈ tables_1, d.before a0 Z = true) (ws : List Jvm.Cond) (pi0 : Int32) (pi1 : Int32) (w_UNRATED : Addr) (w_DUE : Addr) (w_SETTLED : Addr) (w_NONE : Addr) (h0 : Heap) (n0 : Nat) (O0 : Old Z n0 h0) (S_UNRATED : Sta Z Z.heap "com/example/brace/brace/account/Session$FixedRate" "UNRATED" "Lcom/example/brace/brace/account/Session$FixedRate;" (.ref w_UNRATED)) (S_DUE : Sta Z Z.heap "com/example/brace/brace/account/Session$FixedRate" "DUE" "Lcom/example/brace/brace/account/Session$FixedRate;" (.ref w_DUE)) (S_SETTLED : Sta Z Z.heap "com/example/brace/brace/account/Session$FixedRate" "SETTLED" "Lcom/example/brace/brace/account/Session$FixedRate;" (.ref w_SETTLED)) (S_NONE : Sta Z Z.heap "com/example/brace/brace/account/Session$FixedRate" "NONE" "Lcom/example/brace/brace/account/Session$FixedRate;" (.ref w_NONE)) (E_w_UNRATED : Exa Z Z.heap w_UNRATED "com/example/brace/brace/account/Session$FixedRate") (E_w_DUE : Exa Z Z.heap w_DUE "com/example/brace/brace/account/Session$FixedRate") (E_w_SETTLED : Exa Z Z.heap w_SETTLED "com/example/brace/brace/account/Session$FixedRate") (E_w_NONE : Exa Z Z.heap w_NONE "com/example/brace/brace/account/Session$FixedRate") (ne_UNRATED_DUE : w_UNRATED ≠ w_DUE) (ne_UNRATED_SETTLED : w_UNRATED ≠ w_SETTLED) (ne_UNRATED_NONE : w_UNRATED ≠ w_NONE) (ne_DUE_SETTLED : w_DUE ≠ w_SETTLED) (ne_DUE_NONE : w_DUE ≠ w_NONE) (ne_SETTLED_NONE : w_SETTLED ≠ w_NONE) :
    MetFree l x (head1 (Jvm.Cond.code x code maxLocals ret :: ws) room_1) (fun a U => a = #[(.int pi0), (.int pi1)] ∧ Z.Warmed39 U.vm ∧ U.heap = h0) (fun _ _ _ _ _ => True) (fun _ U o U' => ∃ v L, o = .returned v ∧ Q0 Z pi0 pi1 w_UNRATED w_DUE w_SETTLED w_NONE h0 n0 v U'.heap L ∧ FrameEnd U o U' L room_1.cells room_1.slots) := by
  refine MetFree.of_bodySF (plainFor_of_name pn_com_example_brace_brace_account_FixedRatePricedPinLaw) hisR ?_
  intro p e s m args below meth c s₁ Bd hml0 hP hK
  obtain ⟨rfl, hZ, hh⟩ := hP
  have hx := Bd.exec
  have hby := Bd.bytes
  have hml : c.maxLocals = 8 := hml0
  have hown : s.vm.findClass "com/example/brace/brace/account/FixedRatePricedPinLaw" = some m.cls := findClass_of_methodNamed Bd.named
  have hnm := (name_of_methodNamed Bd.named Bd.method).1
  have X0 : Stand p l e room_1 s m #[(.int pi0), (.int pi1)] below meth c s₁ [] 0 0 := Stand.of_body Bd
  have e0 : s₁.heap = h0 := by rw [← hh, Bd.state]; rfl
  have N0 := Fr.nil n0
  obtain ⟨Go, hGo⟩ : ∃ P : State → Prop, ∀ t, P t ↔ Steps p.tables e below (s₁.setTop (entryFrame m #[(.int pi0), (.int pi1)] maxLocals)) t := ⟨_, fun _ => Iff.rfl⟩
  have pre0 : ∀ t, Steps p.tables e below (s₁.setTop (mkF m 0 #[iv pi0, iv pi1, .unset, .unset, .unset, .unset, .unset, .unset] [])) t → Go t := fun t k => (hGo t).mpr (castTop (ef_0 m pi0 pi1) k)
  obtain ⟨x1, hx1⟩ : ∃ z : Int32, z = (pi0 &&& (3 : Int32)) := ⟨_, rfl⟩
  have pre2 : ∀ t, Steps p.tables e below (s₁.setTop (mkF m 4 #[iv pi0, iv pi1, iv x1, .unset, .unset, .unset, .unset, .unset] [])) t → Go t := fun t kt => pre0 t (by
      subst hx1
      refine y_iloadN X0.here hx (hb hby at_0) rfl (pc' := 1) rfl ?_
      refine y_iconst X0.here hx (hb hby at_1) (v := (3 : Int32)) rfl (pc' := 2) rfl ?_
      refine y_iand X0.here hx (hb hby at_2) rfl (pc' := 3) rfl ?_
      refine y_istoreN X0.here hx (hb hby at_3) (l' := #[iv pi0, iv pi1, iv (pi0 &&& (3 : Int32)), .unset, .unset, .unset, .unset, .unset]) rfl (pc' := 4) rfl ?_
      exact kt)
  have pre3 : ∀ t, Steps p.tables e below (s₁.setTop (mkF m 7 #[iv pi0, iv pi1, iv x1, .unset, .unset, .unset, .unset, .unset] [(.int (pi1 &&& (1 : Int32)))])) t → Go t := fun t kt => pre2 t (by
      refine y_iloadN X0.here hx (hb hby at_4) rfl (pc' := 5) rfl ?_
      refine y_iconst X0.here hx (hb hby at_5) (v := (1 : Int32)) rfl (pc' := 6) rfl ?_
      refine y_iand X0.here hx (hb hby at_6) rfl (pc' := 7) rfl ?_
      exact kt)
  by_cases hc7_4 : (pi1 &&& (1 : Int32)) = (0 : Int32)
  · have pre5 : ∀ t, Steps p.tables e below (s₁.setTop (mkF m 16 #[iv pi0, iv pi1, iv x1, iv (0 : Int32), .unset, .unset, .unset, .unset] [])) t → Go t := fun t kt => pre3 t (by
        refine y_ifYes X0.here hx (hb hby at_7) ((if0 _ _).trans (teq hc7_4).1) (pc' := 14) (by decide) rfl ?_
        refine y_iconst X0.here hx (hb hby at_14) (v := (0 : Int32)) rfl (pc' := 15) rfl ?_
        refine y_istoreN X0.here hx (hb hby at_15) (l' := #[iv pi0, iv pi1, iv x1, iv (0 : Int32), .unset, .unset, .unset, .unset]) rfl (pc' := 16) rfl ?_
        exact kt)
    have hs16_6 : x1 = (0 : Int32) ∨ x1 = (1 : Int32) ∨ x1 = (2 : Int32) ∨ x1 = (3 : Int32) := by
        rw [hx1]; exact own_and3 _
    rcases hs16_6 with rfl | rfl | rfl | rfl
    · skip
      have pre7 : ∀ t, Steps p.tables e below (s₁.setTop (mkF m 17 #[iv pi0, iv pi1, iv (0 : Int32), iv (0 : Int32), .unset, .unset, .unset, .unset] [(.int (0 : Int32))])) t → Go t := fun t kt => pre5 t (by
          refine y_iloadN X0.here hx (hb hby at_16) rfl (pc' := 17) rfl ?_
          exact kt)
      obtain ⟨v8, _, ⟨T8, L8, k8, n8⟩, -, X8, ⟨Lc8, hQ8, l8, y8, z8⟩, st8⟩ := Jvm.LawKit.callS X0 hx (y := (⟨"com/example/brace/brace/account/FixedRatePricedPinLaw", "pick", "(I)Lcom/example/brace/brace/account/Session$FixedRate;"⟩ : MethodName)) hown (mvT hZ (hw _ (List.mem_of_getElem? (i := 0) rfl))) (mvT hZ (hw _ (List.mem_of_getElem? (i := 1) rfl))) (mvT hZ (hw _ (List.mem_of_getElem? (i := 2) rfl))) (mvT hZ (hw _ (List.mem_of_getElem? (i := 3) rfl))) (by decide) (backOf (W := 0) (rm1 l Z a0 hw [] (0 : Int32) w_UNRATED w_DUE w_SETTLED w_NONE h0 n0 O0 S_UNRATED S_DUE S_SETTLED S_NONE) hZ (hw _ (List.mem_of_getElem? (i := 3) rfl)) (hw _ (List.mem_of_getElem? (i := 2) rfl)) (by decide) (by decide)) (g := (mkF m 17 #[iv pi0, iv pi1, iv (0 : Int32), iv (0 : Int32), .unset, .unset, .unset, .unset] [(.int (0 : Int32))])) rfl (by rw [hml]; rfl) (argsL := [(.int (0 : Int32))]) (rest := []) (lenOf pd__I_Lcom_example_brace_brace_account_Session_FixedRate_ rfl) rfl (by show 2 * 0 + _ ≤ _; exact Nat.le_of_eq rfl) (hb hby at_17) (fun _ _ => ⟨rfl, e0, (by decide : 0 + 0 ≤ _), (by decide : 0 + 0 ≤ _)⟩)
      dsimp only [Pt.U, Pt.locs, Pt.cells, Pt.slots] at X8 l8 y8 z8 st8 hQ8
      subst l8 y8 z8
      obtain ⟨hv8, N8q, e8q⟩ := hQ8
      have N9 := Fr.app N0 N8q
      have hw8 : v8 = some (.ref w_UNRATED) := by rw [hv8, if_pos (rfl : (0 : Int32) = (0 : Int32))]
      subst hw8
      have pre10 : ∀ t, Steps p.tables e below (T8.setTop (mkF m 20 #[iv pi0, iv pi1, iv (0 : Int32), iv (0 : Int32), .unset, .unset, .unset, .unset] [(.ref w_UNRATED)])) t → Go t := fun t kt => pre7 t (st8 t kt)
      have pre11 : ∀ t, Steps p.tables e below (T8.setTop (mkF m 24 #[iv pi0, iv pi1, iv (0 : Int32), iv (0 : Int32), rv w_UNRATED, .unset, .unset, .unset] [(.ref w_UNRATED)])) t → Go t := fun t kt => pre10 t (by
          refine y_astore X8.here hx (hb hby at_20) rfl (l' := #[iv pi0, iv pi1, iv (0 : Int32), iv (0 : Int32), rv w_UNRATED, .unset, .unset, .unset]) rfl (pc' := 22) rfl ?_
          refine y_aload X8.here hx (hb hby at_22) rfl rfl (pc' := 24) rfl ?_
          exact kt)
      obtain ⟨cq12, kq12, q12a, q12b, q12c⟩ := isOf hZ e8q (E_w_UNRATED.ext O0.2)
      obtain ⟨v12, _, ⟨T12, L12, k12, n12⟩, -, X12, ⟨Lc12, hQ12, l12, y12, z12⟩, st12⟩ := X8.virtualBack hx (y := (⟨"com/example/brace/brace/account/Session$FixedRate", "priced", "()Z"⟩ : MethodName)) (z := (⟨"com/example/brace/brace/account/Session$FixedRate", "priced", "()Z"⟩ : MethodName)) hown (mvT hZ (hw _ (List.mem_of_getElem? (i := 7) rfl))) (mvT hZ (hw _ (List.mem_of_getElem? (i := 8) rfl))) (notFace_of_selects (args := #[]) (mvT hZ (hw _ (List.mem_of_getElem? (i := 10) rfl)))) (mvT hZ (hw _ (List.mem_of_getElem? (i := 10) rfl))) (mvT hZ (hw _ (List.mem_of_getElem? (i := 9) rfl))) (by decide) (backOf (W := 0) (rm2 l Z a0 hw [] w_UNRATED w_NONE h0 n0 O0 S_NONE) hZ (hw _ (List.mem_of_getElem? (i := 11) rfl)) (hw _ (List.mem_of_getElem? (i := 5) rfl)) (by decide) (by decide)) q12a q12c (g := (mkF m 24 #[iv pi0, iv pi1, iv (0 : Int32), iv (0 : Int32), rv w_UNRATED, .unset, .unset, .unset] [(.ref w_UNRATED)])) rfl (by rw [hml]; rfl) (Steps.refl _) (argsL := []) (rest := []) (lenOf pd___Z rfl) rfl (by show 2 * 0 + _ ≤ _; exact Nat.le_of_eq rfl) (hb hby at_24) (fun _ _ => ⟨rfl, e8q, (by decide : 0 + 0 ≤ _), (by decide : 0 + 0 ≤ _)⟩)
      dsimp only [Pt.U, Pt.locs, Pt.cells, Pt.slots] at X12 l12 y12 z12 st12 hQ12
      subst l12 y12 z12
      obtain ⟨hv12, N12q, e12q⟩ := hQ12
      have N13 := Fr.app N9 N12q
      have hw12 : v12 = some (.int (1 : Int32)) := by rw [hv12, if_neg ne_UNRATED_NONE]
      subst hw12
      have pre14 : ∀ t, Steps p.tables e below (T12.setTop (mkF m 27 #[iv pi0, iv pi1, iv (0 : Int32), iv (0 : Int32), rv w_UNRATED, .unset, .unset, .unset] [(.int (1 : Int32))])) t → Go t := fun t kt => pre11 t (st12.trans kt)
      have pre15 : ∀ t, Steps p.tables e below (T12.setTop (mkF m 54 #[iv pi0, iv pi1, iv (0 : Int32), iv (0 : Int32), rv w_UNRATED, iv (1 : Int32), iv (1 : Int32), .unset] [(.ref w_UNRATED), (.int (1 : Int32))])) t → Go t := fun t kt => pre14 t (by
          refine y_istore X12.here hx (hb hby at_27) (l' := #[iv pi0, iv pi1, iv (0 : Int32), iv (0 : Int32), rv w_UNRATED, iv (1 : Int32), .unset, .unset]) rfl (pc' := 29) rfl ?_
          refine y_iloadN X12.here hx (hb hby at_29) rfl (pc' := 30) rfl ?_
          refine y_iconst X12.here hx (hb hby at_30) (v := (3 : Int32)) rfl (pc' := 31) rfl ?_
          refine y_icmpNo X12.here hx (hb hby at_31) (feq (by decide : ¬ ((0 : Int32) = (3 : Int32)))).1 (pc' := 34) rfl ?_
          refine y_iconst X12.here hx (hb hby at_34) (v := (1 : Int32)) rfl (pc' := 35) rfl ?_
          refine y_goto X12.here hx (hb hby at_35) (pc' := 39) (by decide) rfl ?_
          refine y_istore X12.here hx (hb hby at_39) (l' := #[iv pi0, iv pi1, iv (0 : Int32), iv (0 : Int32), rv w_UNRATED, iv (1 : Int32), iv (1 : Int32), .unset]) rfl (pc' := 41) rfl ?_
          refine y_iload X12.here hx (hb hby at_41) rfl (pc' := 43) rfl ?_
          refine y_iload X12.here hx (hb hby at_43) rfl (pc' := 45) rfl ?_
          refine y_icmpYes X12.here hx (hb hby at_45) (teq (rfl : (1 : Int32) = (1 : Int32))).1 (pc' := 50) (by decide) rfl ?_
          refine y_iload X12.here hx (hb hby at_50) rfl (pc' := 52) rfl ?_
          refine y_aload X12.here hx (hb hby at_52) rfl rfl (pc' := 54) rfl ?_
          exact kt)
      obtain ⟨cq16, kq16, q16a, q16b, q16c⟩ := isOf hZ e12q (E_w_UNRATED.ext O0.2)
      obtain ⟨v16, _, ⟨T16, L16, k16, n16⟩, -, X16, ⟨Lc16, hQ16, l16, y16, z16⟩, st16⟩ := X12.virtualBack hx (y := (⟨"com/example/brace/brace/account/Session$FixedRate", "afterCharge", "()Lcom/example/brace/brace/account/Session$FixedRate;"⟩ : MethodName)) (z := (⟨"com/example/brace/brace/account/Session$FixedRate", "afterCharge", "()Lcom/example/brace/brace/account/Session$FixedRate;"⟩ : MethodName)) hown (mvT hZ (hw _ (List.mem_of_getElem? (i := 14) rfl))) (mvT hZ (hw _ (List.mem_of_getElem? (i := 15) rfl))) (notFace_of_selects (args := #[]) (mvT hZ (hw _ (List.mem_of_getElem? (i := 17) rfl)))) (mvT hZ (hw _ (List.mem_of_getElem? (i := 17) rfl))) (mvT hZ (hw _ (List.mem_of_getElem? (i := 16) rfl))) (by decide) (backOf (W := 1) (rm3 l Z a0 hw [] w_UNRATED w_SETTLED w_NONE h0 n0 O0 S_SETTLED S_NONE) hZ (hw _ (List.mem_of_getElem? (i := 18) rfl)) (hw _ (List.mem_of_getElem? (i := 5) rfl)) (by decide) (by decide)) q16a q16c (g := (mkF m 54 #[iv pi0, iv pi1, iv (0 : Int32), iv (0 : Int32), rv w_UNRATED, iv (1 : Int32), iv (1 : Int32), .unset] [(.ref w_UNRATED), (.int (1 : Int32))])) rfl (by rw [hml]; rfl) (Steps.refl _) (argsL := []) (rest := [(.int (1 : Int32))]) (lenOf pd___Lcom_example_brace_brace_account_Session_FixedRate_ rfl) rfl (by show 2 * 0 + _ ≤ _; exact Nat.le_of_eq rfl) (hb hby at_54) (fun _ _ => ⟨rfl, e12q, (by decide : 0 + 0 ≤ _), (by decide : 0 + 0 ≤ _)⟩)
      dsimp only [Pt.U, Pt.locs, Pt.cells, Pt.slots] at X16 l16 y16 z16 st16 hQ16
      subst l16 y16 z16
      obtain ⟨hv16, N16q, e16q⟩ := hQ16
      have N17 := Fr.app N13 N16q
      have hw16 : v16 = some (.ref w_SETTLED) := by rw [hv16, if_neg ne_UNRATED_NONE]
      subst hw16
      have pre18 : ∀ t, Steps p.tables e below (T16.setTop (mkF m 57 #[iv pi0, iv pi1, iv (0 : Int32), iv (0 : Int32), rv w_UNRATED, iv (1 : Int32), iv (1 : Int32), .unset] [(.ref w_SETTLED), (.int (1 : Int32))])) t → Go t := fun t kt => pre15 t (st16.trans kt)
      obtain ⟨T19, X19, e19, st19⟩ := getS2 X16 hx hZ hown (host := "") (Or.inl (hw _ (List.mem_of_getElem? (i := 21) rfl))) Via.refl e16q (S_NONE.ext O0.2) (g := (mkF m 57 #[iv pi0, iv pi1, iv (0 : Int32), iv (0 : Int32), rv w_UNRATED, iv (1 : Int32), iv (1 : Int32), .unset] [(.ref w_SETTLED), (.int (1 : Int32))])) rfl (hb hby at_57)
      have pre20 : ∀ t, Steps p.tables e below (T19.setTop (mkF m 60 #[iv pi0, iv pi1, iv (0 : Int32), iv (0 : Int32), rv w_UNRATED, iv (1 : Int32), iv (1 : Int32), .unset] [(.ref w_NONE), (.ref w_SETTLED), (.int (1 : Int32))])) t → Go t := fun t kt => pre18 t (st19 t kt)
      have pre21 : ∀ t, Steps p.tables e below (T19.setTop (mkF m 75 #[iv pi0, iv pi1, iv (0 : Int32), iv (0 : Int32), rv w_UNRATED, iv (1 : Int32), iv (1 : Int32), .unset] [(.ref w_UNRATED)])) t → Go t := fun t kt => pre20 t (by
          refine Jvm.RoadKit.acmp (g := (mkF m 60 #[iv pi0, iv pi1, iv (0 : Int32), iv (0 : Int32), rv w_UNRATED, iv (1 : Int32), iv (1 : Int32), .unset] [(.ref w_NONE), (.ref w_SETTLED), (.int (1 : Int32))])) X19 hx rfl rfl rfl (pc0 := 60) (pc' := 63) (same := false) rfl (hb hby at_60) rfl (decide_eq_false fun q => ne_SETTLED_NONE (Value.ref.inj q)) (by decide) (by decide) ?_
          show Steps p.tables e below (T19.setTop (mkF m 63 #[iv pi0, iv pi1, iv (0 : Int32), iv (0 : Int32), rv w_UNRATED, iv (1 : Int32), iv (1 : Int32), .unset] [(.int (1 : Int32))])) _
          refine y_iconst X19.here hx (hb hby at_63) (v := (1 : Int32)) rfl (pc' := 64) rfl ?_
          refine y_goto X19.here hx (hb hby at_64) (pc' := 68) (by decide) rfl ?_
          refine y_icmpYes X19.here hx (hb hby at_68) (teq (rfl : (1 : Int32) = (1 : Int32))).1 (pc' := 73) (by decide) rfl ?_
          refine y_aload X19.here hx (hb hby at_73) rfl rfl (pc' := 75) rfl ?_
          exact kt)
      obtain ⟨cq22, kq22, q22a, q22b, q22c⟩ := isOf hZ e19 (E_w_UNRATED.ext O0.2)
      obtain ⟨v22, _, ⟨T22, L22, k22, n22⟩, -, X22, ⟨Lc22, hQ22, l22, y22, z22⟩, st22⟩ := X19.virtualBack hx (y := (⟨"com/example/brace/brace/account/Session$FixedRate", "settled", "()Z"⟩ : MethodName)) (z := (⟨"com/example/brace/brace/account/Session$FixedRate", "settled", "()Z"⟩ : MethodName)) hown (mvT hZ (hw _ (List.mem_of_getElem? (i := 22) rfl))) (mvT hZ (hw _ (List.mem_of_getElem? (i := 23) rfl))) (notFace_of_selects (args := #[]) (mvT hZ (hw _ (List.mem_of_getElem? (i := 25) rfl)))) (mvT hZ (hw _ (List.mem_of_getElem? (i := 25) rfl))) (mvT hZ (hw _ (List.mem_of_getElem? (i := 24) rfl))) (by decide) (backOf (W := 0) (rm4 l Z a0 hw [] w_UNRATED w_SETTLED h0 n0 O0 S_SETTLED) hZ (hw _ (List.mem_of_getElem? (i := 26) rfl)) (hw _ (List.mem_of_getElem? (i := 5) rfl)) (by decide) (by decide)) q22a q22c (g := (mkF m 75 #[iv pi0, iv pi1, iv (0 : Int32), iv (0 : Int32), rv w_UNRATED, iv (1 : Int32), iv (1 : Int32), .unset] [(.ref w_UNRATED)])) rfl (by rw [hml]; rfl) (Steps.refl _) (argsL := []) (rest := []) (lenOf pd___Z rfl) rfl (by show 2 * 0 + _ ≤ _; exact Nat.le_of_eq rfl) (hb hby at_75) (fun _ _ => ⟨rfl, e19, (by decide : 0 + 0 ≤ _), (by decide : 0 + 0 ≤ _)⟩)
      dsimp only [Pt.U, Pt.locs, Pt.cells, Pt.slots] at X22 l22 y22 z22 st22 hQ22
      subst l22 y22 z22
      obtain ⟨hv22, N22q, e22q⟩ := hQ22
      have N23 := Fr.app N17 N22q
      have hw22 : v22 = some (.int (0 : Int32)) := by rw [hv22, if_neg ne_UNRATED_SETTLED]
      subst hw22
      have pre24 : ∀ t, Steps p.tables e below (T22.setTop (mkF m 78 #[iv pi0, iv pi1, iv (0 : Int32), iv (0 : Int32), rv w_UNRATED, iv (1 : Int32), iv (1 : Int32), .unset] [(.int (0 : Int32))])) t → Go t := fun t kt => pre21 t (st22.trans kt)
      have pre25 : ∀ t, Steps p.tables e below (T22.setTop (mkF m 88 #[iv pi0, iv pi1, iv (0 : Int32), iv (0 : Int32), rv w_UNRATED, iv (1 : Int32), iv (1 : Int32), .unset] [])) t → Go t := fun t kt => pre24 t (by
          refine y_ifYes X22.here hx (hb hby at_78) ((if0 _ _).trans (teq (rfl : (0 : Int32) = (0 : Int32))).1) (pc' := 88) (by decide) rfl ?_
          exact kt)
      obtain ⟨T26, X26, e26, st26⟩ := getS2 X22 hx hZ hown (host := "") (Or.inl (hw _ (List.mem_of_getElem? (i := 4) rfl))) Via.refl e22q (S_UNRATED.ext O0.2) (g := (mkF m 88 #[iv pi0, iv pi1, iv (0 : Int32), iv (0 : Int32), rv w_UNRATED, iv (1 : Int32), iv (1 : Int32), .unset] [])) rfl (hb hby at_88)
      have pre27 : ∀ t, Steps p.tables e below (T26.setTop (mkF m 91 #[iv pi0, iv pi1, iv (0 : Int32), iv (0 : Int32), rv w_UNRATED, iv (1 : Int32), iv (1 : Int32), .unset] [(.ref w_UNRATED)])) t → Go t := fun t kt => pre25 t (st26 t kt)
      have pre28 : ∀ t, Steps p.tables e below (T26.setTop (mkF m 92 #[iv pi0, iv pi1, iv (0 : Int32), iv (0 : Int32), rv w_UNRATED, iv (1 : Int32), iv (1 : Int32), .unset] [(.int (0 : Int32)), (.ref w_UNRATED)])) t → Go t := fun t kt => pre27 t (by
          refine y_iloadN X26.here hx (hb hby at_91) rfl (pc' := 92) rfl ?_
          exact kt)
      obtain ⟨cq29, kq29, q29a, q29b, q29c⟩ := isOf hZ e26 (E_w_UNRATED.ext O0.2)
      obtain ⟨v29, _, ⟨T29, L29, k29, n29⟩, -, X29, ⟨Lc29, hQ29, l29, y29, z29⟩, st29⟩ := X26.virtualBack hx (y := (⟨"com/example/brace/brace/account/Session$FixedRate", "afterReservation", "(Z)Lcom/example/brace/brace/account/Session$FixedRate;"⟩ : MethodName)) (z := (⟨"com/example/brace/brace/account/Session$FixedRate", "afterReservation", "(Z)Lcom/example/brace/brace/account/Session$FixedRate;"⟩ : MethodName)) hown (mvT hZ (hw _ (List.mem_of_getElem? (i := 27) rfl))) (mvT hZ (hw _ (List.mem_of_getElem? (i := 28) rfl))) (notFace_of_selects (args := #[]) (mvT hZ (hw _ (List.mem_of_getElem? (i := 30) rfl)))) (mvT hZ (hw _ (List.mem_of_getElem? (i := 30) rfl))) (mvT hZ (hw _ (List.mem_of_getElem? (i := 29) rfl))) (by decide) (backOf (W := 0) (rm5 l Z a0 hw [] w_UNRATED (0 : Int32) w_UNRATED w_DUE w_NONE h0 n0 O0 S_UNRATED S_DUE S_NONE) hZ (hw _ (List.mem_of_getElem? (i := 31) rfl)) (hw _ (List.mem_of_getElem? (i := 5) rfl)) (by decide) (by decide)) q29a q29c (g := (mkF m 92 #[iv pi0, iv pi1, iv (0 : Int32), iv (0 : Int32), rv w_UNRATED, iv (1 : Int32), iv (1 : Int32), .unset] [(.int (0 : Int32)), (.ref w_UNRATED)])) rfl (by rw [hml]; rfl) (Steps.refl _) (argsL := [(.int (0 : Int32))]) (rest := []) (lenOf pd__Z_Lcom_example_brace_brace_account_Session_FixedRate_ rfl) rfl (by show 2 * 0 + _ ≤ _; exact Nat.le_of_eq rfl) (hb hby at_92) (fun _ _ => ⟨rfl, e26, (by decide : 0 + 0 ≤ _), (by decide : 0 + 0 ≤ _)⟩)
      dsimp only [Pt.U, Pt.locs, Pt.cells, Pt.slots] at X29 l29 y29 z29 st29 hQ29
      subst l29 y29 z29
      obtain ⟨hv29, N29q, e29q⟩ := hQ29
      have N30 := Fr.app N23 N29q
      have hw29 : v29 = some (.ref w_NONE) := by rw [hv29, if_pos (rfl : w_UNRATED = w_UNRATED), if_pos (rfl : (0 : Int32) = (0 : Int32))]
      subst hw29
      have pre31 : ∀ t, Steps p.tables e below (T29.setTop (mkF m 95 #[iv pi0, iv pi1, iv (0 : Int32), iv (0 : Int32), rv w_UNRATED, iv (1 : Int32), iv (1 : Int32), .unset] [(.ref w_NONE)])) t → Go t := fun t kt => pre28 t (st29.trans kt)
      obtain ⟨cq32, kq32, q32a, q32b, q32c⟩ := isOf hZ e29q (E_w_NONE.ext O0.2)
      obtain ⟨v32, _, ⟨T32, L32, k32, n32⟩, -, X32, ⟨Lc32, hQ32, l32, y32, z32⟩, st32⟩ := X29.virtualBack hx (y := (⟨"com/example/brace/brace/account/Session$FixedRate", "priced", "()Z"⟩ : MethodName)) (z := (⟨"com/example/brace/brace/account/Session$FixedRate", "priced", "()Z"⟩ : MethodName)) hown (mvT hZ (hw _ (List.mem_of_getElem? (i := 7) rfl))) (mvT hZ (hw _ (List.mem_of_getElem? (i := 8) rfl))) (notFace_of_selects (args := #[]) (mvT hZ (hw _ (List.mem_of_getElem? (i := 10) rfl)))) (mvT hZ (hw _ (List.mem_of_getElem? (i := 10) rfl))) (mvT hZ (hw _ (List.mem_of_getElem? (i := 9) rfl))) (by decide) (backOf (W := 0) (rm2 l Z a0 hw [] w_NONE w_NONE h0 n0 O0 S_NONE) hZ (hw _ (List.mem_of_getElem? (i := 11) rfl)) (hw _ (List.mem_of_getElem? (i := 5) rfl)) (by decide) (by decide)) q32a q32c (g := (mkF m 95 #[iv pi0, iv pi1, iv (0 : Int32), iv (0 : Int32), rv w_UNRATED, iv (1 : Int32), iv (1 : Int32), .unset] [(.ref w_NONE)])) rfl (by rw [hml]; rfl) (Steps.refl _) (argsL := []) (rest := []) (lenOf pd___Z rfl) rfl (by show 2 * 0 + _ ≤ _; exact Nat.le_of_eq rfl) (hb hby at_95) (fun _ _ => ⟨rfl, e29q, (by decide : 0 + 0 ≤ _), (by decide : 0 + 0 ≤ _)⟩)
      dsimp only [Pt.U, Pt.locs, Pt.cells, Pt.slots] at X32 l32 y32 z32 st32 hQ32
      subst l32 y32 z32
      obtain ⟨hv32, N32q, e32q⟩ := hQ32
      have N33 := Fr.app N30 N32q
      have hw32 : v32 = some (.int (0 : Int32)) := by rw [hv32, if_pos (rfl : w_NONE = w_NONE)]
      subst hw32
      have pre34 : ∀ t, Steps p.tables e below (T32.setTop (mkF m 98 #[iv pi0, iv pi1, iv (0 : Int32), iv (0 : Int32), rv w_UNRATED, iv (1 : Int32), iv (1 : Int32), .unset] [(.int (0 : Int32))])) t → Go t := fun t kt => pre31 t (st32.trans kt)
      have pre35 : ∀ t, Steps p.tables e below (T32.setTop (mkF m 111 #[iv pi0, iv pi1, iv (0 : Int32), iv (0 : Int32), rv w_UNRATED, iv (1 : Int32), iv (1 : Int32), iv (0 : Int32)] [(.int (1 : Int32))])) t → Go t := fun t kt => pre34 t (by
          refine y_istore X32.here hx (hb hby at_98) (l' := #[iv pi0, iv pi1, iv (0 : Int32), iv (0 : Int32), rv w_UNRATED, iv (1 : Int32), iv (1 : Int32), iv (0 : Int32)]) rfl (pc' := 100) rfl ?_
          refine y_iload X32.here hx (hb hby at_100) rfl (pc' := 102) rfl ?_
          refine y_iloadN X32.here hx (hb hby at_102) rfl (pc' := 103) rfl ?_
          refine y_icmpNo X32.here hx (hb hby at_103) (teq (rfl : (0 : Int32) = (0 : Int32))).2 (pc' := 106) rfl ?_
          refine y_iconst X32.here hx (hb hby at_106) (v := (1 : Int32)) rfl (pc' := 107) rfl ?_
          refine y_goto X32.here hx (hb hby at_107) (pc' := 111) (by decide) rfl ?_
          exact kt)
      obtain ⟨fs, hr, hrun, hended, hW, hsame⟩ := X32.leave (v := some (.int (1 : Int32))) (fun h => by rw [Bd.returns] at h; cases h)
      refine ⟨_, _, (hGo _).mp (pre35 _ ?_), hrun, hended, _, _, rfl, ?_, ⟨_, rfl⟩, hW, hsame.mono (by decide) (by decide)⟩
      · exact retN X32 hx (t := .boolean) Bd.returns (by simp) (hb hby at_111) hr
      · show Q0 Z pi0 pi1 w_UNRATED w_DUE w_SETTLED w_NONE h0 n0 _ T32.heap _
        rw [e32q]
        exact ⟨rfl, N33⟩
    · skip
      have pre36 : ∀ t, Steps p.tables e below (s₁.setTop (mkF m 17 #[iv pi0, iv pi1, iv (1 : Int32), iv (0 : Int32), .unset, .unset, .unset, .unset] [(.int (1 : Int32))])) t → Go t := fun t kt => pre5 t (by
          refine y_iloadN X0.here hx (hb hby at_16) rfl (pc' := 17) rfl ?_
          exact kt)
      obtain ⟨v37, _, ⟨T37, L37, k37, n37⟩, -, X37, ⟨Lc37, hQ37, l37, y37, z37⟩, st37⟩ := Jvm.LawKit.callS X0 hx (y := (⟨"com/example/brace/brace/account/FixedRatePricedPinLaw", "pick", "(I)Lcom/example/brace/brace/account/Session$FixedRate;"⟩ : MethodName)) hown (mvT hZ (hw _ (List.mem_of_getElem? (i := 0) rfl))) (mvT hZ (hw _ (List.mem_of_getElem? (i := 1) rfl))) (mvT hZ (hw _ (List.mem_of_getElem? (i := 2) rfl))) (mvT hZ (hw _ (List.mem_of_getElem? (i := 3) rfl))) (by decide) (backOf (W := 0) (rm1 l Z a0 hw [] (1 : Int32) w_UNRATED w_DUE w_SETTLED w_NONE h0 n0 O0 S_UNRATED S_DUE S_SETTLED S_NONE) hZ (hw _ (List.mem_of_getElem? (i := 3) rfl)) (hw _ (List.mem_of_getElem? (i := 2) rfl)) (by decide) (by decide)) (g := (mkF m 17 #[iv pi0, iv pi1, iv (1 : Int32), iv (0 : Int32), .unset, .unset, .unset, .unset] [(.int (1 : Int32))])) rfl (by rw [hml]; rfl) (argsL := [(.int (1 : Int32))]) (rest := []) (lenOf pd__I_Lcom_example_brace_brace_account_Session_FixedRate_ rfl) rfl (by show 2 * 0 + _ ≤ _; exact Nat.le_of_eq rfl) (hb hby at_17) (fun _ _ => ⟨rfl, e0, (by decide : 0 + 0 ≤ _), (by decide : 0 + 0 ≤ _)⟩)
      dsimp only [Pt.U, Pt.locs, Pt.cells, Pt.slots] at X37 l37 y37 z37 st37 hQ37
      subst l37 y37 z37
      obtain ⟨hv37, N37q, e37q⟩ := hQ37
      have N38 := Fr.app N0 N37q
      have hw37 : v37 = some (.ref w_DUE) := by rw [hv37, if_neg (by decide : ¬ ((1 : Int32) = (0 : Int32))), if_pos (rfl : (1 : Int32) = (1 : Int32))]
      subst hw37
      have pre39 : ∀ t, Steps p.tables e below (T37.setTop (mkF m 20 #[iv pi0, iv pi1, iv (1 : Int32), iv (0 : Int32), .unset, .unset, .unset, .unset] [(.ref w_DUE)])) t → Go t := fun t kt => pre36 t (st37 t kt)
      have pre40 : ∀ t, Steps p.tables e below (T37.setTop (mkF m 24 #[iv pi0, iv pi1, iv (1 : Int32), iv (0 : Int32), rv w_DUE, .unset, .unset, .unset] [(.ref w_DUE)])) t → Go t := fun t kt => pre39 t (by
          refine y_astore X37.here hx (hb hby at_20) rfl (l' := #[iv pi0, iv pi1, iv (1 : Int32), iv (0 : Int32), rv w_DUE, .unset, .unset, .unset]) rfl (pc' := 22) rfl ?_
          refine y_aload X37.here hx (hb hby at_22) rfl rfl (pc' := 24) rfl ?_
          exact kt)
      obtain ⟨cq41, kq41, q41a, q41b, q41c⟩ := isOf hZ e37q (E_w_DUE.ext O0.2)
      obtain ⟨v41, _, ⟨T41, L41, k41, n41⟩, -, X41, ⟨Lc41, hQ41, l41, y41, z41⟩, st41⟩ := X37.virtualBack hx (y := (⟨"com/example/brace/brace/account/Session$FixedRate", "priced", "()Z"⟩ : MethodName)) (z := (⟨"com/example/brace/brace/account/Session$FixedRate", "priced", "()Z"⟩ : MethodName)) hown (mvT hZ (hw _ (List.mem_of_getElem? (i := 7) rfl))) (mvT hZ (hw _ (List.mem_of_getElem? (i := 8) rfl))) (notFace_of_selects (args := #[]) (mvT hZ (hw _ (List.mem_of_getElem? (i := 10) rfl)))) (mvT hZ (hw _ (List.mem_of_getElem? (i := 10) rfl))) (mvT hZ (hw _ (List.mem_of_getElem? (i := 9) rfl))) (by decide) (backOf (W := 0) (rm2 l Z a0 hw [] w_DUE w_NONE h0 n0 O0 S_NONE) hZ (hw _ (List.mem_of_getElem? (i := 11) rfl)) (hw _ (List.mem_of_getElem? (i := 5) rfl)) (by decide) (by decide)) q41a q41c (g := (mkF m 24 #[iv pi0, iv pi1, iv (1 : Int32), iv (0 : Int32), rv w_DUE, .unset, .unset, .unset] [(.ref w_DUE)])) rfl (by rw [hml]; rfl) (Steps.refl _) (argsL := []) (rest := []) (lenOf pd___Z rfl) rfl (by show 2 * 0 + _ ≤ _; exact Nat.le_of_eq rfl) (hb hby at_24) (fun _ _ => ⟨rfl, e37q, (by decide : 0 + 0 ≤ _), (by decide : 0 + 0 ≤ _)⟩)
      dsimp only [Pt.U, Pt.locs, Pt.cells, Pt.slots] at X41 l41 y41 z41 st41 hQ41
      subst l41 y41 z41
      obtain ⟨hv41, N41q, e41q⟩ := hQ41
      have N42 := Fr.app N38 N41q
      have hw41 : v41 = some (.int (1 : Int32)) := by rw [hv41, if_neg ne_DUE_NONE]
      subst hw41
      have pre43 : ∀ t, Steps p.tables e below (T41.setTop (mkF m 27 #[iv pi0, iv pi1, iv (1 : Int32), iv (0 : Int32), rv w_DUE, .unset, .unset, .unset] [(.int (1 : Int32))])) t → Go t := fun t kt => pre40 t (st41.trans kt)
      have pre44 : ∀ t, Steps p.tables e below (T41.setTop (mkF m 54 #[iv pi0, iv pi1, iv (1 : Int32), iv (0 : Int32), rv w_DUE, iv (1 : Int32), iv (1 : Int32), .unset] [(.ref w_DUE), (.int (1 : Int32))])) t → Go t := fun t kt => pre43 t (by
          refine y_istore X41.here hx (hb hby at_27) (l' := #[iv pi0, iv pi1, iv (1 : Int32), iv (0 : Int32), rv w_DUE, iv (1 : Int32), .unset, .unset]) rfl (pc' := 29) rfl ?_
          refine y_iloadN X41.here hx (hb hby at_29) rfl (pc' := 30) rfl ?_
          refine y_iconst X41.here hx (hb hby at_30) (v := (3 : Int32)) rfl (pc' := 31) rfl ?_
          refine y_icmpNo X41.here hx (hb hby at_31) (feq (by decide : ¬ ((1 : Int32) = (3 : Int32)))).1 (pc' := 34) rfl ?_
          refine y_iconst X41.here hx (hb hby at_34) (v := (1 : Int32)) rfl (pc' := 35) rfl ?_
          refine y_goto X41.here hx (hb hby at_35) (pc' := 39) (by decide) rfl ?_
          refine y_istore X41.here hx (hb hby at_39) (l' := #[iv pi0, iv pi1, iv (1 : Int32), iv (0 : Int32), rv w_DUE, iv (1 : Int32), iv (1 : Int32), .unset]) rfl (pc' := 41) rfl ?_
          refine y_iload X41.here hx (hb hby at_41) rfl (pc' := 43) rfl ?_
          refine y_iload X41.here hx (hb hby at_43) rfl (pc' := 45) rfl ?_
          refine y_icmpYes X41.here hx (hb hby at_45) (teq (rfl : (1 : Int32) = (1 : Int32))).1 (pc' := 50) (by decide) rfl ?_
          refine y_iload X41.here hx (hb hby at_50) rfl (pc' := 52) rfl ?_
          refine y_aload X41.here hx (hb hby at_52) rfl rfl (pc' := 54) rfl ?_
          exact kt)
      obtain ⟨cq45, kq45, q45a, q45b, q45c⟩ := isOf hZ e41q (E_w_DUE.ext O0.2)
      obtain ⟨v45, _, ⟨T45, L45, k45, n45⟩, -, X45, ⟨Lc45, hQ45, l45, y45, z45⟩, st45⟩ := X41.virtualBack hx (y := (⟨"com/example/brace/brace/account/Session$FixedRate", "afterCharge", "()Lcom/example/brace/brace/account/Session$FixedRate;"⟩ : MethodName)) (z := (⟨"com/example/brace/brace/account/Session$FixedRate", "afterCharge", "()Lcom/example/brace/brace/account/Session$FixedRate;"⟩ : MethodName)) hown (mvT hZ (hw _ (List.mem_of_getElem? (i := 14) rfl))) (mvT hZ (hw _ (List.mem_of_getElem? (i := 15) rfl))) (notFace_of_selects (args := #[]) (mvT hZ (hw _ (List.mem_of_getElem? (i := 17) rfl)))) (mvT hZ (hw _ (List.mem_of_getElem? (i := 17) rfl))) (mvT hZ (hw _ (List.mem_of_getElem? (i := 16) rfl))) (by decide) (backOf (W := 1) (rm3 l Z a0 hw [] w_DUE w_SETTLED w_NONE h0 n0 O0 S_SETTLED S_NONE) hZ (hw _ (List.mem_of_getElem? (i := 18) rfl)) (hw _ (List.mem_of_getElem? (i := 5) rfl)) (by decide) (by decide)) q45a q45c (g := (mkF m 54 #[iv pi0, iv pi1, iv (1 : Int32), iv (0 : Int32), rv w_DUE, iv (1 : Int32), iv (1 : Int32), .unset] [(.ref w_DUE), (.int (1 : Int32))])) rfl (by rw [hml]; rfl) (Steps.refl _) (argsL := []) (rest := [(.int (1 : Int32))]) (lenOf pd___Lcom_example_brace_brace_account_Session_FixedRate_ rfl) rfl (by show 2 * 0 + _ ≤ _; exact Nat.le_of_eq rfl) (hb hby at_54) (fun _ _ => ⟨rfl, e41q, (by decide : 0 + 0 ≤ _), (by decide : 0 + 0 ≤ _)⟩)
      dsimp only [Pt.U, Pt.locs, Pt.cells, Pt.slots] at X45 l45 y45 z45 st45 hQ45
      subst l45 y45 z45
      obtain ⟨hv45, N45q, e45q⟩ := hQ45
      have N46 := Fr.app N42 N45q
      have hw45 : v45 = some (.ref w_SETTLED) := by rw [hv45, if_neg ne_DUE_NONE]
      subst hw45
      have pre47 : ∀ t, Steps p.tables e below (T45.setTop (mkF m 57 #[iv pi0, iv pi1, iv (1 : Int32), iv (0 : Int32), rv w_DUE, iv (1 : Int32), iv (1 : Int32), .unset] [(.ref w_SETTLED), (.int (1 : Int32))])) t → Go t := fun t kt => pre44 t (st45.trans kt)
      obtain ⟨T48, X48, e48, st48⟩ := getS2 X45 hx hZ hown (host := "") (Or.inl (hw _ (List.mem_of_getElem? (i := 21) rfl))) Via.refl e45q (S_NONE.ext O0.2) (g := (mkF m 57 #[iv pi0, iv pi1, iv (1 : Int32), iv (0 : Int32), rv w_DUE, iv (1 : Int32), iv (1 : Int32), .unset] [(.ref w_SETTLED), (.int (1 : Int32))])) rfl (hb hby at_57)
      have pre49 : ∀ t, Steps p.tables e below (T48.setTop (mkF m 60 #[iv pi0, iv pi1, iv (1 : Int32), iv (0 : Int32), rv w_DUE, iv (1 : Int32), iv (1 : Int32), .unset] [(.ref w_NONE), (.ref w_SETTLED), (.int (1 : Int32))])) t → Go t := fun t kt => pre47 t (st48 t kt)
      have pre50 : ∀ t, Steps p.tables e below (T48.setTop (mkF m 75 #[iv pi0, iv pi1, iv (1 : Int32), iv (0 : Int32), rv w_DUE, iv (1 : Int32), iv (1 : Int32), .unset] [(.ref w_DUE)])) t → Go t := fun t kt => pre49 t (by
          refine Jvm.RoadKit.acmp (g := (mkF m 60 #[iv pi0, iv pi1, iv (1 : Int32), iv (0 : Int32), rv w_DUE, iv (1 : Int32), iv (1 : Int32), .unset] [(.ref w_NONE), (.ref w_SETTLED), (.int (1 : Int32))])) X48 hx rfl rfl rfl (pc0 := 60) (pc' := 63) (same := false) rfl (hb hby at_60) rfl (decide_eq_false fun q => ne_SETTLED_NONE (Value.ref.inj q)) (by decide) (by decide) ?_
          show Steps p.tables e below (T48.setTop (mkF m 63 #[iv pi0, iv pi1, iv (1 : Int32), iv (0 : Int32), rv w_DUE, iv (1 : Int32), iv (1 : Int32), .unset] [(.int (1 : Int32))])) _
          refine y_iconst X48.here hx (hb hby at_63) (v := (1 : Int32)) rfl (pc' := 64) rfl ?_
          refine y_goto X48.here hx (hb hby at_64) (pc' := 68) (by decide) rfl ?_
          refine y_icmpYes X48.here hx (hb hby at_68) (teq (rfl : (1 : Int32) = (1 : Int32))).1 (pc' := 73) (by decide) rfl ?_
          refine y_aload X48.here hx (hb hby at_73) rfl rfl (pc' := 75) rfl ?_
          exact kt)
      obtain ⟨cq51, kq51, q51a, q51b, q51c⟩ := isOf hZ e48 (E_w_DUE.ext O0.2)
      obtain ⟨v51, _, ⟨T51, L51, k51, n51⟩, -, X51, ⟨Lc51, hQ51, l51, y51, z51⟩, st51⟩ := X48.virtualBack hx (y := (⟨"com/example/brace/brace/account/Session$FixedRate", "settled", "()Z"⟩ : MethodName)) (z := (⟨"com/example/brace/brace/account/Session$FixedRate", "settled", "()Z"⟩ : MethodName)) hown (mvT hZ (hw _ (List.mem_of_getElem? (i := 22) rfl))) (mvT hZ (hw _ (List.mem_of_getElem? (i := 23) rfl))) (notFace_of_selects (args := #[]) (mvT hZ (hw _ (List.mem_of_getElem? (i := 25) rfl)))) (mvT hZ (hw _ (List.mem_of_getElem? (i := 25) rfl))) (mvT hZ (hw _ (List.mem_of_getElem? (i := 24) rfl))) (by decide) (backOf (W := 0) (rm4 l Z a0 hw [] w_DUE w_SETTLED h0 n0 O0 S_SETTLED) hZ (hw _ (List.mem_of_getElem? (i := 26) rfl)) (hw _ (List.mem_of_getElem? (i := 5) rfl)) (by decide) (by decide)) q51a q51c (g := (mkF m 75 #[iv pi0, iv pi1, iv (1 : Int32), iv (0 : Int32), rv w_DUE, iv (1 : Int32), iv (1 : Int32), .unset] [(.ref w_DUE)])) rfl (by rw [hml]; rfl) (Steps.refl _) (argsL := []) (rest := []) (lenOf pd___Z rfl) rfl (by show 2 * 0 + _ ≤ _; exact Nat.le_of_eq rfl) (hb hby at_75) (fun _ _ => ⟨rfl, e48, (by decide : 0 + 0 ≤ _), (by decide : 0 + 0 ≤ _)⟩)
      dsimp only [Pt.U, Pt.locs, Pt.cells, Pt.slots] at X51 l51 y51 z51 st51 hQ51
      subst l51 y51 z51
      obtain ⟨hv51, N51q, e51q⟩ := hQ51
      have N52 := Fr.app N46 N51q
      have hw51 : v51 = some (.int (0 : Int32)) := by rw [hv51, if_neg ne_DUE_SETTLED]
      subst hw51
      have pre53 : ∀ t, Steps p.tables e below (T51.setTop (mkF m 78 #[iv pi0, iv pi1, iv (1 : Int32), iv (0 : Int32), rv w_DUE, iv (1 : Int32), iv (1 : Int32), .unset] [(.int (0 : Int32))])) t → Go t := fun t kt => pre50 t (st51.trans kt)
      have pre54 : ∀ t, Steps p.tables e below (T51.setTop (mkF m 88 #[iv pi0, iv pi1, iv (1 : Int32), iv (0 : Int32), rv w_DUE, iv (1 : Int32), iv (1 : Int32), .unset] [])) t → Go t := fun t kt => pre53 t (by
          refine y_ifYes X51.here hx (hb hby at_78) ((if0 _ _).trans (teq (rfl : (0 : Int32) = (0 : Int32))).1) (pc' := 88) (by decide) rfl ?_
          exact kt)
      obtain ⟨T55, X55, e55, st55⟩ := getS2 X51 hx hZ hown (host := "") (Or.inl (hw _ (List.mem_of_getElem? (i := 4) rfl))) Via.refl e51q (S_UNRATED.ext O0.2) (g := (mkF m 88 #[iv pi0, iv pi1, iv (1 : Int32), iv (0 : Int32), rv w_DUE, iv (1 : Int32), iv (1 : Int32), .unset] [])) rfl (hb hby at_88)
      have pre56 : ∀ t, Steps p.tables e below (T55.setTop (mkF m 91 #[iv pi0, iv pi1, iv (1 : Int32), iv (0 : Int32), rv w_DUE, iv (1 : Int32), iv (1 : Int32), .unset] [(.ref w_UNRATED)])) t → Go t := fun t kt => pre54 t (st55 t kt)
      have pre57 : ∀ t, Steps p.tables e below (T55.setTop (mkF m 92 #[iv pi0, iv pi1, iv (1 : Int32), iv (0 : Int32), rv w_DUE, iv (1 : Int32), iv (1 : Int32), .unset] [(.int (0 : Int32)), (.ref w_UNRATED)])) t → Go t := fun t kt => pre56 t (by
          refine y_iloadN X55.here hx (hb hby at_91) rfl (pc' := 92) rfl ?_
          exact kt)
      obtain ⟨cq58, kq58, q58a, q58b, q58c⟩ := isOf hZ e55 (E_w_UNRATED.ext O0.2)
      obtain ⟨v58, _, ⟨T58, L58, k58, n58⟩, -, X58, ⟨Lc58, hQ58, l58, y58, z58⟩, st58⟩ := X55.virtualBack hx (y := (⟨"com/example/brace/brace/account/Session$FixedRate", "afterReservation", "(Z)Lcom/example/brace/brace/account/Session$FixedRate;"⟩ : MethodName)) (z := (⟨"com/example/brace/brace/account/Session$FixedRate", "afterReservation", "(Z)Lcom/example/brace/brace/account/Session$FixedRate;"⟩ : MethodName)) hown (mvT hZ (hw _ (List.mem_of_getElem? (i := 27) rfl))) (mvT hZ (hw _ (List.mem_of_getElem? (i := 28) rfl))) (notFace_of_selects (args := #[]) (mvT hZ (hw _ (List.mem_of_getElem? (i := 30) rfl)))) (mvT hZ (hw _ (List.mem_of_getElem? (i := 30) rfl))) (mvT hZ (hw _ (List.mem_of_getElem? (i := 29) rfl))) (by decide) (backOf (W := 0) (rm5 l Z a0 hw [] w_UNRATED (0 : Int32) w_UNRATED w_DUE w_NONE h0 n0 O0 S_UNRATED S_DUE S_NONE) hZ (hw _ (List.mem_of_getElem? (i := 31) rfl)) (hw _ (List.mem_of_getElem? (i := 5) rfl)) (by decide) (by decide)) q58a q58c (g := (mkF m 92 #[iv pi0, iv pi1, iv (1 : Int32), iv (0 : Int32), rv w_DUE, iv (1 : Int32), iv (1 : Int32), .unset] [(.int (0 : Int32)), (.ref w_UNRATED)])) rfl (by rw [hml]; rfl) (Steps.refl _) (argsL := [(.int (0 : Int32))]) (rest := []) (lenOf pd__Z_Lcom_example_brace_brace_account_Session_FixedRate_ rfl) rfl (by show 2 * 0 + _ ≤ _; exact Nat.le_of_eq rfl) (hb hby at_92) (fun _ _ => ⟨rfl, e55, (by decide : 0 + 0 ≤ _), (by decide : 0 + 0 ≤ _)⟩)
      dsimp only [Pt.U, Pt.locs, Pt.cells, Pt.slots] at X58 l58 y58 z58 st58 hQ58
      subst l58 y58 z58
      obtain ⟨hv58, N58q, e58q⟩ := hQ58
      have N59 := Fr.app N52 N58q
      have hw58 : v58 = some (.ref w_NONE) := by rw [hv58, if_pos (rfl : w_UNRATED = w_UNRATED), if_pos (rfl : (0 : Int32) = (0 : Int32))]
      subst hw58
      have pre60 : ∀ t, Steps p.tables e below (T58.setTop (mkF m 95 #[iv pi0, iv pi1, iv (1 : Int32), iv (0 : Int32), rv w_DUE, iv (1 : Int32), iv (1 : Int32), .unset] [(.ref w_NONE)])) t → Go t := fun t kt => pre57 t (st58.trans kt)
      obtain ⟨cq61, kq61, q61a, q61b, q61c⟩ := isOf hZ e58q (E_w_NONE.ext O0.2)
      obtain ⟨v61, _, ⟨T61, L61, k61, n61⟩, -, X61, ⟨Lc61, hQ61, l61, y61, z61⟩, st61⟩ := X58.virtualBack hx (y := (⟨"com/example/brace/brace/account/Session$FixedRate", "priced", "()Z"⟩ : MethodName)) (z := (⟨"com/example/brace/brace/account/Session$FixedRate", "priced", "()Z"⟩ : MethodName)) hown (mvT hZ (hw _ (List.mem_of_getElem? (i := 7) rfl))) (mvT hZ (hw _ (List.mem_of_getElem? (i := 8) rfl))) (notFace_of_selects (args := #[]) (mvT hZ (hw _ (List.mem_of_getElem? (i := 10) rfl)))) (mvT hZ (hw _ (List.mem_of_getElem? (i := 10) rfl))) (mvT hZ (hw _ (List.mem_of_getElem? (i := 9) rfl))) (by decide) (backOf (W := 0) (rm2 l Z a0 hw [] w_NONE w_NONE h0 n0 O0 S_NONE) hZ (hw _ (List.mem_of_getElem? (i := 11) rfl)) (hw _ (List.mem_of_getElem? (i := 5) rfl)) (by decide) (by decide)) q61a q61c (g := (mkF m 95 #[iv pi0, iv pi1, iv (1 : Int32), iv (0 : Int32), rv w_DUE, iv (1 : Int32), iv (1 : Int32), .unset] [(.ref w_NONE)])) rfl (by rw [hml]; rfl) (Steps.refl _) (argsL := []) (rest := []) (lenOf pd___Z rfl) rfl (by show 2 * 0 + _ ≤ _; exact Nat.le_of_eq rfl) (hb hby at_95) (fun _ _ => ⟨rfl, e58q, (by decide : 0 + 0 ≤ _), (by decide : 0 + 0 ≤ _)⟩)
      dsimp only [Pt.U, Pt.locs, Pt.cells, Pt.slots] at X61 l61 y61 z61 st61 hQ61
      subst l61 y61 z61
      obtain ⟨hv61, N61q, e61q⟩ := hQ61
      have N62 := Fr.app N59 N61q
      have hw61 : v61 = some (.int (0 : Int32)) := by rw [hv61, if_pos (rfl : w_NONE = w_NONE)]
      subst hw61
      have pre63 : ∀ t, Steps p.tables e below (T61.setTop (mkF m 98 #[iv pi0, iv pi1, iv (1 : Int32), iv (0 : Int32), rv w_DUE, iv (1 : Int32), iv (1 : Int32), .unset] [(.int (0 : Int32))])) t → Go t := fun t kt => pre60 t (st61.trans kt)
      have pre64 : ∀ t, Steps p.tables e below (T61.setTop (mkF m 111 #[iv pi0, iv pi1, iv (1 : Int32), iv (0 : Int32), rv w_DUE, iv (1 : Int32), iv (1 : Int32), iv (0 : Int32)] [(.int (1 : Int32))])) t → Go t := fun t kt => pre63 t (by
          refine y_istore X61.here hx (hb hby at_98) (l' := #[iv pi0, iv pi1, iv (1 : Int32), iv (0 : Int32), rv w_DUE, iv (1 : Int32), iv (1 : Int32), iv (0 : Int32)]) rfl (pc' := 100) rfl ?_
          refine y_iload X61.here hx (hb hby at_100) rfl (pc' := 102) rfl ?_
          refine y_iloadN X61.here hx (hb hby at_102) rfl (pc' := 103) rfl ?_
          refine y_icmpNo X61.here hx (hb hby at_103) (teq (rfl : (0 : Int32) = (0 : Int32))).2 (pc' := 106) rfl ?_
          refine y_iconst X61.here hx (hb hby at_106) (v := (1 : Int32)) rfl (pc' := 107) rfl ?_
          refine y_goto X61.here hx (hb hby at_107) (pc' := 111) (by decide) rfl ?_
          exact kt)
      obtain ⟨fs, hr, hrun, hended, hW, hsame⟩ := X61.leave (v := some (.int (1 : Int32))) (fun h => by rw [Bd.returns] at h; cases h)
      refine ⟨_, _, (hGo _).mp (pre64 _ ?_), hrun, hended, _, _, rfl, ?_, ⟨_, rfl⟩, hW, hsame.mono (by decide) (by decide)⟩
      · exact retN X61 hx (t := .boolean) Bd.returns (by simp) (hb hby at_111) hr
      · show Q0 Z pi0 pi1 w_UNRATED w_DUE w_SETTLED w_NONE h0 n0 _ T61.heap _
        rw [e61q]
        exact ⟨rfl, N62⟩
    · skip
      have pre65 : ∀ t, Steps p.tables e below (s₁.setTop (mkF m 17 #[iv pi0, iv pi1, iv (2 : Int32), iv (0 : Int32), .unset, .unset, .unset, .unset] [(.int (2 : Int32))])) t → Go t := fun t kt => pre5 t (by
          refine y_iloadN X0.here hx (hb hby at_16) rfl (pc' := 17) rfl ?_
          exact kt)
      obtain ⟨v66, _, ⟨T66, L66, k66, n66⟩, -, X66, ⟨Lc66, hQ66, l66, y66, z66⟩, st66⟩ := Jvm.LawKit.callS X0 hx (y := (⟨"com/example/brace/brace/account/FixedRatePricedPinLaw", "pick", "(I)Lcom/example/brace/brace/account/Session$FixedRate;"⟩ : MethodName)) hown (mvT hZ (hw _ (List.mem_of_getElem? (i := 0) rfl))) (mvT hZ (hw _ (List.mem_of_getElem? (i := 1) rfl))) (mvT hZ (hw _ (List.mem_of_getElem? (i := 2) rfl))) (mvT hZ (hw _ (List.mem_of_getElem? (i := 3) rfl))) (by decide) (backOf (W := 0) (rm1 l Z a0 hw [] (2 : Int32) w_UNRATED w_DUE w_SETTLED w_NONE h0 n0 O0 S_UNRATED S_DUE S_SETTLED S_NONE) hZ (hw _ (List.mem_of_getElem? (i := 3) rfl)) (hw _ (List.mem_of_getElem? (i := 2) rfl)) (by decide) (by decide)) (g := (mkF m 17 #[iv pi0, iv pi1, iv (2 : Int32), iv (0 : Int32), .unset, .unset, .unset, .unset] [(.int (2 : Int32))])) rfl (by rw [hml]; rfl) (argsL := [(.int (2 : Int32))]) (rest := []) (lenOf pd__I_Lcom_example_brace_brace_account_Session_FixedRate_ rfl) rfl (by show 2 * 0 + _ ≤ _; exact Nat.le_of_eq rfl) (hb hby at_17) (fun _ _ => ⟨rfl, e0, (by decide : 0 + 0 ≤ _), (by decide : 0 + 0 ≤ _)⟩)
      dsimp only [Pt.U, Pt.locs, Pt.cells, Pt.slots] at X66 l66 y66 z66 st66 hQ66
      subst l66 y66 z66
      obtain ⟨hv66, N66q, e66q⟩ := hQ66
      have N67 := Fr.app N0 N66q
      have hw66 : v66 = some (.ref w_SETTLED) := by rw [hv66, if_neg (by decide : ¬ ((2 : Int32) = (0 : Int32))), if_neg (by decide : ¬ ((2 : Int32) = (1 : Int32))), if_pos (rfl : (2 : Int32) = (2 : Int32))]
      subst hw66
      have pre68 : ∀ t, Steps p.tables e below (T66.setTop (mkF m 20 #[iv pi0, iv pi1, iv (2 : Int32), iv (0 : Int32), .unset, .unset, .unset, .unset] [(.ref w_SETTLED)])) t → Go t := fun t kt => pre65 t (st66 t kt)
      have pre69 : ∀ t, Steps p.tables e below (T66.setTop (mkF m 24 #[iv pi0, iv pi1, iv (2 : Int32), iv (0 : Int32), rv w_SETTLED, .unset, .unset, .unset] [(.ref w_SETTLED)])) t → Go t := fun t kt => pre68 t (by
          refine y_astore X66.here hx (hb hby at_20) rfl (l' := #[iv pi0, iv pi1, iv (2 : Int32), iv (0 : Int32), rv w_SETTLED, .unset, .unset, .unset]) rfl (pc' := 22) rfl ?_
          refine y_aload X66.here hx (hb hby at_22) rfl rfl (pc' := 24) rfl ?_
          exact kt)
      obtain ⟨cq70, kq70, q70a, q70b, q70c⟩ := isOf hZ e66q (E_w_SETTLED.ext O0.2)
      obtain ⟨v70, _, ⟨T70, L70, k70, n70⟩, -, X70, ⟨Lc70, hQ70, l70, y70, z70⟩, st70⟩ := X66.virtualBack hx (y := (⟨"com/example/brace/brace/account/Session$FixedRate", "priced", "()Z"⟩ : MethodName)) (z := (⟨"com/example/brace/brace/account/Session$FixedRate", "priced", "()Z"⟩ : MethodName)) hown (mvT hZ (hw _ (List.mem_of_getElem? (i := 7) rfl))) (mvT hZ (hw _ (List.mem_of_getElem? (i := 8) rfl))) (notFace_of_selects (args := #[]) (mvT hZ (hw _ (List.mem_of_getElem? (i := 10) rfl)))) (mvT hZ (hw _ (List.mem_of_getElem? (i := 10) rfl))) (mvT hZ (hw _ (List.mem_of_getElem? (i := 9) rfl))) (by decide) (backOf (W := 0) (rm2 l Z a0 hw [] w_SETTLED w_NONE h0 n0 O0 S_NONE) hZ (hw _ (List.mem_of_getElem? (i := 11) rfl)) (hw _ (List.mem_of_getElem? (i := 5) rfl)) (by decide) (by decide)) q70a q70c (g := (mkF m 24 #[iv pi0, iv pi1, iv (2 : Int32), iv (0 : Int32), rv w_SETTLED, .unset, .unset, .unset] [(.ref w_SETTLED)])) rfl (by rw [hml]; rfl) (Steps.refl _) (argsL := []) (rest := []) (lenOf pd___Z rfl) rfl (by show 2 * 0 + _ ≤ _; exact Nat.le_of_eq rfl) (hb hby at_24) (fun _ _ => ⟨rfl, e66q, (by decide : 0 + 0 ≤ _), (by decide : 0 + 0 ≤ _)⟩)
      dsimp only [Pt.U, Pt.locs, Pt.cells, Pt.slots] at X70 l70 y70 z70 st70 hQ70
      subst l70 y70 z70
      obtain ⟨hv70, N70q, e70q⟩ := hQ70
      have N71 := Fr.app N67 N70q
      have hw70 : v70 = some (.int (1 : Int32)) := by rw [hv70, if_neg ne_SETTLED_NONE]
      subst hw70
      have pre72 : ∀ t, Steps p.tables e below (T70.setTop (mkF m 27 #[iv pi0, iv pi1, iv (2 : Int32), iv (0 : Int32), rv w_SETTLED, .unset, .unset, .unset] [(.int (1 : Int32))])) t → Go t := fun t kt => pre69 t (st70.trans kt)
      have pre73 : ∀ t, Steps p.tables e below (T70.setTop (mkF m 54 #[iv pi0, iv pi1, iv (2 : Int32), iv (0 : Int32), rv w_SETTLED, iv (1 : Int32), iv (1 : Int32), .unset] [(.ref w_SETTLED), (.int (1 : Int32))])) t → Go t := fun t kt => pre72 t (by
          refine y_istore X70.here hx (hb hby at_27) (l' := #[iv pi0, iv pi1, iv (2 : Int32), iv (0 : Int32), rv w_SETTLED, iv (1 : Int32), .unset, .unset]) rfl (pc' := 29) rfl ?_
          refine y_iloadN X70.here hx (hb hby at_29) rfl (pc' := 30) rfl ?_
          refine y_iconst X70.here hx (hb hby at_30) (v := (3 : Int32)) rfl (pc' := 31) rfl ?_
          refine y_icmpNo X70.here hx (hb hby at_31) (feq (by decide : ¬ ((2 : Int32) = (3 : Int32)))).1 (pc' := 34) rfl ?_
          refine y_iconst X70.here hx (hb hby at_34) (v := (1 : Int32)) rfl (pc' := 35) rfl ?_
          refine y_goto X70.here hx (hb hby at_35) (pc' := 39) (by decide) rfl ?_
          refine y_istore X70.here hx (hb hby at_39) (l' := #[iv pi0, iv pi1, iv (2 : Int32), iv (0 : Int32), rv w_SETTLED, iv (1 : Int32), iv (1 : Int32), .unset]) rfl (pc' := 41) rfl ?_
          refine y_iload X70.here hx (hb hby at_41) rfl (pc' := 43) rfl ?_
          refine y_iload X70.here hx (hb hby at_43) rfl (pc' := 45) rfl ?_
          refine y_icmpYes X70.here hx (hb hby at_45) (teq (rfl : (1 : Int32) = (1 : Int32))).1 (pc' := 50) (by decide) rfl ?_
          refine y_iload X70.here hx (hb hby at_50) rfl (pc' := 52) rfl ?_
          refine y_aload X70.here hx (hb hby at_52) rfl rfl (pc' := 54) rfl ?_
          exact kt)
      obtain ⟨cq74, kq74, q74a, q74b, q74c⟩ := isOf hZ e70q (E_w_SETTLED.ext O0.2)
      obtain ⟨v74, _, ⟨T74, L74, k74, n74⟩, -, X74, ⟨Lc74, hQ74, l74, y74, z74⟩, st74⟩ := X70.virtualBack hx (y := (⟨"com/example/brace/brace/account/Session$FixedRate", "afterCharge", "()Lcom/example/brace/brace/account/Session$FixedRate;"⟩ : MethodName)) (z := (⟨"com/example/brace/brace/account/Session$FixedRate", "afterCharge", "()Lcom/example/brace/brace/account/Session$FixedRate;"⟩ : MethodName)) hown (mvT hZ (hw _ (List.mem_of_getElem? (i := 14) rfl))) (mvT hZ (hw _ (List.mem_of_getElem? (i := 15) rfl))) (notFace_of_selects (args := #[]) (mvT hZ (hw _ (List.mem_of_getElem? (i := 17) rfl)))) (mvT hZ (hw _ (List.mem_of_getElem? (i := 17) rfl))) (mvT hZ (hw _ (List.mem_of_getElem? (i := 16) rfl))) (by decide) (backOf (W := 1) (rm3 l Z a0 hw [] w_SETTLED w_SETTLED w_NONE h0 n0 O0 S_SETTLED S_NONE) hZ (hw _ (List.mem_of_getElem? (i := 18) rfl)) (hw _ (List.mem_of_getElem? (i := 5) rfl)) (by decide) (by decide)) q74a q74c (g := (mkF m 54 #[iv pi0, iv pi1, iv (2 : Int32), iv (0 : Int32), rv w_SETTLED, iv (1 : Int32), iv (1 : Int32), .unset] [(.ref w_SETTLED), (.int (1 : Int32))])) rfl (by rw [hml]; rfl) (Steps.refl _) (argsL := []) (rest := [(.int (1 : Int32))]) (lenOf pd___Lcom_example_brace_brace_account_Session_FixedRate_ rfl) rfl (by show 2 * 0 + _ ≤ _; exact Nat.le_of_eq rfl) (hb hby at_54) (fun _ _ => ⟨rfl, e70q, (by decide : 0 + 0 ≤ _), (by decide : 0 + 0 ≤ _)⟩)
      dsimp only [Pt.U, Pt.locs, Pt.cells, Pt.slots] at X74 l74 y74 z74 st74 hQ74
      subst l74 y74 z74
      obtain ⟨hv74, N74q, e74q⟩ := hQ74
      have N75 := Fr.app N71 N74q
      have hw74 : v74 = some (.ref w_SETTLED) := by rw [hv74, if_neg ne_SETTLED_NONE]
      subst hw74
      have pre76 : ∀ t, Steps p.tables e below (T74.setTop (mkF m 57 #[iv pi0, iv pi1, iv (2 : Int32), iv (0 : Int32), rv w_SETTLED, iv (1 : Int32), iv (1 : Int32), .unset] [(.ref w_SETTLED), (.int (1 : Int32))])) t → Go t := fun t kt => pre73 t (st74.trans kt)
      obtain ⟨T77, X77, e77, st77⟩ := getS2 X74 hx hZ hown (host := "") (Or.inl (hw _ (List.mem_of_getElem? (i := 21) rfl))) Via.refl e74q (S_NONE.ext O0.2) (g := (mkF m 57 #[iv pi0, iv pi1, iv (2 : Int32), iv (0 : Int32), rv w_SETTLED, iv (1 : Int32), iv (1 : Int32), .unset] [(.ref w_SETTLED), (.int (1 : Int32))])) rfl (hb hby at_57)
      have pre78 : ∀ t, Steps p.tables e below (T77.setTop (mkF m 60 #[iv pi0, iv pi1, iv (2 : Int32), iv (0 : Int32), rv w_SETTLED, iv (1 : Int32), iv (1 : Int32), .unset] [(.ref w_NONE), (.ref w_SETTLED), (.int (1 : Int32))])) t → Go t := fun t kt => pre76 t (st77 t kt)
      have pre79 : ∀ t, Steps p.tables e below (T77.setTop (mkF m 75 #[iv pi0, iv pi1, iv (2 : Int32), iv (0 : Int32), rv w_SETTLED, iv (1 : Int32), iv (1 : Int32), .unset] [(.ref w_SETTLED)])) t → Go t := fun t kt => pre78 t (by
          refine Jvm.RoadKit.acmp (g := (mkF m 60 #[iv pi0, iv pi1, iv (2 : Int32), iv (0 : Int32), rv w_SETTLED, iv (1 : Int32), iv (1 : Int32), .unset] [(.ref w_NONE), (.ref w_SETTLED), (.int (1 : Int32))])) X77 hx rfl rfl rfl (pc0 := 60) (pc' := 63) (same := false) rfl (hb hby at_60) rfl (decide_eq_false fun q => ne_SETTLED_NONE (Value.ref.inj q)) (by decide) (by decide) ?_
          show Steps p.tables e below (T77.setTop (mkF m 63 #[iv pi0, iv pi1, iv (2 : Int32), iv (0 : Int32), rv w_SETTLED, iv (1 : Int32), iv (1 : Int32), .unset] [(.int (1 : Int32))])) _
          refine y_iconst X77.here hx (hb hby at_63) (v := (1 : Int32)) rfl (pc' := 64) rfl ?_
          refine y_goto X77.here hx (hb hby at_64) (pc' := 68) (by decide) rfl ?_
          refine y_icmpYes X77.here hx (hb hby at_68) (teq (rfl : (1 : Int32) = (1 : Int32))).1 (pc' := 73) (by decide) rfl ?_
          refine y_aload X77.here hx (hb hby at_73) rfl rfl (pc' := 75) rfl ?_
          exact kt)
      obtain ⟨cq80, kq80, q80a, q80b, q80c⟩ := isOf hZ e77 (E_w_SETTLED.ext O0.2)
      obtain ⟨v80, _, ⟨T80, L80, k80, n80⟩, -, X80, ⟨Lc80, hQ80, l80, y80, z80⟩, st80⟩ := X77.virtualBack hx (y := (⟨"com/example/brace/brace/account/Session$FixedRate", "settled", "()Z"⟩ : MethodName)) (z := (⟨"com/example/brace/brace/account/Session$FixedRate", "settled", "()Z"⟩ : MethodName)) hown (mvT hZ (hw _ (List.mem_of_getElem? (i := 22) rfl))) (mvT hZ (hw _ (List.mem_of_getElem? (i := 23) rfl))) (notFace_of_selects (args := #[]) (mvT hZ (hw _ (List.mem_of_getElem? (i := 25) rfl)))) (mvT hZ (hw _ (List.mem_of_getElem? (i := 25) rfl))) (mvT hZ (hw _ (List.mem_of_getElem? (i := 24) rfl))) (by decide) (backOf (W := 0) (rm4 l Z a0 hw [] w_SETTLED w_SETTLED h0 n0 O0 S_SETTLED) hZ (hw _ (List.mem_of_getElem? (i := 26) rfl)) (hw _ (List.mem_of_getElem? (i := 5) rfl)) (by decide) (by decide)) q80a q80c (g := (mkF m 75 #[iv pi0, iv pi1, iv (2 : Int32), iv (0 : Int32), rv w_SETTLED, iv (1 : Int32), iv (1 : Int32), .unset] [(.ref w_SETTLED)])) rfl (by rw [hml]; rfl) (Steps.refl _) (argsL := []) (rest := []) (lenOf pd___Z rfl) rfl (by show 2 * 0 + _ ≤ _; exact Nat.le_of_eq rfl) (hb hby at_75) (fun _ _ => ⟨rfl, e77, (by decide : 0 + 0 ≤ _), (by decide : 0 + 0 ≤ _)⟩)
      dsimp only [Pt.U, Pt.locs, Pt.cells, Pt.slots] at X80 l80 y80 z80 st80 hQ80
      subst l80 y80 z80
      obtain ⟨hv80, N80q, e80q⟩ := hQ80
      have N81 := Fr.app N75 N80q
      have hw80 : v80 = some (.int (1 : Int32)) := by rw [hv80, if_pos (rfl : w_SETTLED = w_SETTLED)]
      subst hw80
      have pre82 : ∀ t, Steps p.tables e below (T80.setTop (mkF m 78 #[iv pi0, iv pi1, iv (2 : Int32), iv (0 : Int32), rv w_SETTLED, iv (1 : Int32), iv (1 : Int32), .unset] [(.int (1 : Int32))])) t → Go t := fun t kt => pre79 t (st80.trans kt)
      have pre83 : ∀ t, Steps p.tables e below (T80.setTop (mkF m 88 #[iv pi0, iv pi1, iv (2 : Int32), iv (0 : Int32), rv w_SETTLED, iv (1 : Int32), iv (1 : Int32), .unset] [])) t → Go t := fun t kt => pre82 t (by
          refine y_ifNo X80.here hx (hb hby at_78) ((if0 _ _).trans (feq (by decide : ¬ ((1 : Int32) = (0 : Int32)))).1) (pc' := 81) rfl ?_
          refine y_iload X80.here hx (hb hby at_81) rfl (pc' := 83) rfl ?_
          refine y_ifYes X80.here hx (hb hby at_83) ((if0 _ _).trans (feq (by decide : ¬ ((1 : Int32) = (0 : Int32)))).2) (pc' := 88) (by decide) rfl ?_
          exact kt)
      obtain ⟨T84, X84, e84, st84⟩ := getS2 X80 hx hZ hown (host := "") (Or.inl (hw _ (List.mem_of_getElem? (i := 4) rfl))) Via.refl e80q (S_UNRATED.ext O0.2) (g := (mkF m 88 #[iv pi0, iv pi1, iv (2 : Int32), iv (0 : Int32), rv w_SETTLED, iv (1 : Int32), iv (1 : Int32), .unset] [])) rfl (hb hby at_88)
      have pre85 : ∀ t, Steps p.tables e below (T84.setTop (mkF m 91 #[iv pi0, iv pi1, iv (2 : Int32), iv (0 : Int32), rv w_SETTLED, iv (1 : Int32), iv (1 : Int32), .unset] [(.ref w_UNRATED)])) t → Go t := fun t kt => pre83 t (st84 t kt)
      have pre86 : ∀ t, Steps p.tables e below (T84.setTop (mkF m 92 #[iv pi0, iv pi1, iv (2 : Int32), iv (0 : Int32), rv w_SETTLED, iv (1 : Int32), iv (1 : Int32), .unset] [(.int (0 : Int32)), (.ref w_UNRATED)])) t → Go t := fun t kt => pre85 t (by
          refine y_iloadN X84.here hx (hb hby at_91) rfl (pc' := 92) rfl ?_
          exact kt)
      obtain ⟨cq87, kq87, q87a, q87b, q87c⟩ := isOf hZ e84 (E_w_UNRATED.ext O0.2)
      obtain ⟨v87, _, ⟨T87, L87, k87, n87⟩, -, X87, ⟨Lc87, hQ87, l87, y87, z87⟩, st87⟩ := X84.virtualBack hx (y := (⟨"com/example/brace/brace/account/Session$FixedRate", "afterReservation", "(Z)Lcom/example/brace/brace/account/Session$FixedRate;"⟩ : MethodName)) (z := (⟨"com/example/brace/brace/account/Session$FixedRate", "afterReservation", "(Z)Lcom/example/brace/brace/account/Session$FixedRate;"⟩ : MethodName)) hown (mvT hZ (hw _ (List.mem_of_getElem? (i := 27) rfl))) (mvT hZ (hw _ (List.mem_of_getElem? (i := 28) rfl))) (notFace_of_selects (args := #[]) (mvT hZ (hw _ (List.mem_of_getElem? (i := 30) rfl)))) (mvT hZ (hw _ (List.mem_of_getElem? (i := 30) rfl))) (mvT hZ (hw _ (List.mem_of_getElem? (i := 29) rfl))) (by decide) (backOf (W := 0) (rm5 l Z a0 hw [] w_UNRATED (0 : Int32) w_UNRATED w_DUE w_NONE h0 n0 O0 S_UNRATED S_DUE S_NONE) hZ (hw _ (List.mem_of_getElem? (i := 31) rfl)) (hw _ (List.mem_of_getElem? (i := 5) rfl)) (by decide) (by decide)) q87a q87c (g := (mkF m 92 #[iv pi0, iv pi1, iv (2 : Int32), iv (0 : Int32), rv w_SETTLED, iv (1 : Int32), iv (1 : Int32), .unset] [(.int (0 : Int32)), (.ref w_UNRATED)])) rfl (by rw [hml]; rfl) (Steps.refl _) (argsL := [(.int (0 : Int32))]) (rest := []) (lenOf pd__Z_Lcom_example_brace_brace_account_Session_FixedRate_ rfl) rfl (by show 2 * 0 + _ ≤ _; exact Nat.le_of_eq rfl) (hb hby at_92) (fun _ _ => ⟨rfl, e84, (by decide : 0 + 0 ≤ _), (by decide : 0 + 0 ≤ _)⟩)
      dsimp only [Pt.U, Pt.locs, Pt.cells, Pt.slots] at X87 l87 y87 z87 st87 hQ87
      subst l87 y87 z87
      obtain ⟨hv87, N87q, e87q⟩ := hQ87
      have N88 := Fr.app N81 N87q
      have hw87 : v87 = some (.ref w_NONE) := by rw [hv87, if_pos (rfl : w_UNRATED = w_UNRATED), if_pos (rfl : (0 : Int32) = (0 : Int32))]
      subst hw87
      have pre89 : ∀ t, Steps p.tables e below (T87.setTop (mkF m 95 #[iv pi0, iv pi1, iv (2 : Int32), iv (0 : Int32), rv w_SETTLED, iv (1 : Int32), iv (1 : Int32), .unset] [(.ref w_NONE)])) t → Go t := fun t kt => pre86 t (st87.trans kt)
      obtain ⟨cq90, kq90, q90a, q90b, q90c⟩ := isOf hZ e87q (E_w_NONE.ext O0.2)
      obtain ⟨v90, _, ⟨T90, L90, k90, n90⟩, -, X90, ⟨Lc90, hQ90, l90, y90, z90⟩, st90⟩ := X87.virtualBack hx (y := (⟨"com/example/brace/brace/account/Session$FixedRate", "priced", "()Z"⟩ : MethodName)) (z := (⟨"com/example/brace/brace/account/Session$FixedRate", "priced", "()Z"⟩ : MethodName)) hown (mvT hZ (hw _ (List.mem_of_getElem? (i := 7) rfl))) (mvT hZ (hw _ (List.mem_of_getElem? (i := 8) rfl))) (notFace_of_selects (args := #[]) (mvT hZ (hw _ (List.mem_of_getElem? (i := 10) rfl)))) (mvT hZ (hw _ (List.mem_of_getElem? (i := 10) rfl))) (mvT hZ (hw _ (List.mem_of_getElem? (i := 9) rfl))) (by decide) (backOf (W := 0) (rm2 l Z a0 hw [] w_NONE w_NONE h0 n0 O0 S_NONE) hZ (hw _ (List.mem_of_getElem? (i := 11) rfl)) (hw _ (List.mem_of_getElem? (i := 5) rfl)) (by decide) (by decide)) q90a q90c (g := (mkF m 95 #[iv pi0, iv pi1, iv (2 : Int32), iv (0 : Int32), rv w_SETTLED, iv (1 : Int32), iv (1 : Int32), .unset] [(.ref w_NONE)])) rfl (by rw [hml]; rfl) (Steps.refl _) (argsL := []) (rest := []) (lenOf pd___Z rfl) rfl (by show 2 * 0 + _ ≤ _; exact Nat.le_of_eq rfl) (hb hby at_95) (fun _ _ => ⟨rfl, e87q, (by decide : 0 + 0 ≤ _), (by decide : 0 + 0 ≤ _)⟩)
      dsimp only [Pt.U, Pt.locs, Pt.cells, Pt.slots] at X90 l90 y90 z90 st90 hQ90
      subst l90 y90 z90
      obtain ⟨hv90, N90q, e90q⟩ := hQ90
      have N91 := Fr.app N88 N90q
      have hw90 : v90 = some (.int (0 : Int32)) := by rw [hv90, if_pos (rfl : w_NONE = w_NONE)]
      subst hw90
      have pre92 : ∀ t, Steps p.tables e below (T90.setTop (mkF m 98 #[iv pi0, iv pi1, iv (2 : Int32), iv (0 : Int32), rv w_SETTLED, iv (1 : Int32), iv (1 : Int32), .unset] [(.int (0 : Int32))])) t → Go t := fun t kt => pre89 t (st90.trans kt)
      have pre93 : ∀ t, Steps p.tables e below (T90.setTop (mkF m 111 #[iv pi0, iv pi1, iv (2 : Int32), iv (0 : Int32), rv w_SETTLED, iv (1 : Int32), iv (1 : Int32), iv (0 : Int32)] [(.int (1 : Int32))])) t → Go t := fun t kt => pre92 t (by
          refine y_istore X90.here hx (hb hby at_98) (l' := #[iv pi0, iv pi1, iv (2 : Int32), iv (0 : Int32), rv w_SETTLED, iv (1 : Int32), iv (1 : Int32), iv (0 : Int32)]) rfl (pc' := 100) rfl ?_
          refine y_iload X90.here hx (hb hby at_100) rfl (pc' := 102) rfl ?_
          refine y_iloadN X90.here hx (hb hby at_102) rfl (pc' := 103) rfl ?_
          refine y_icmpNo X90.here hx (hb hby at_103) (teq (rfl : (0 : Int32) = (0 : Int32))).2 (pc' := 106) rfl ?_
          refine y_iconst X90.here hx (hb hby at_106) (v := (1 : Int32)) rfl (pc' := 107) rfl ?_
          refine y_goto X90.here hx (hb hby at_107) (pc' := 111) (by decide) rfl ?_
          exact kt)
      obtain ⟨fs, hr, hrun, hended, hW, hsame⟩ := X90.leave (v := some (.int (1 : Int32))) (fun h => by rw [Bd.returns] at h; cases h)
      refine ⟨_, _, (hGo _).mp (pre93 _ ?_), hrun, hended, _, _, rfl, ?_, ⟨_, rfl⟩, hW, hsame.mono (by decide) (by decide)⟩
      · exact retN X90 hx (t := .boolean) Bd.returns (by simp) (hb hby at_111) hr
      · show Q0 Z pi0 pi1 w_UNRATED w_DUE w_SETTLED w_NONE h0 n0 _ T90.heap _
        rw [e90q]
        exact ⟨rfl, N91⟩
    · skip
      have pre94 : ∀ t, Steps p.tables e below (s₁.setTop (mkF m 17 #[iv pi0, iv pi1, iv (3 : Int32), iv (0 : Int32), .unset, .unset, .unset, .unset] [(.int (3 : Int32))])) t → Go t := fun t kt => pre5 t (by
          refine y_iloadN X0.here hx (hb hby at_16) rfl (pc' := 17) rfl ?_
          exact kt)
      obtain ⟨v95, _, ⟨T95, L95, k95, n95⟩, -, X95, ⟨Lc95, hQ95, l95, y95, z95⟩, st95⟩ := Jvm.LawKit.callS X0 hx (y := (⟨"com/example/brace/brace/account/FixedRatePricedPinLaw", "pick", "(I)Lcom/example/brace/brace/account/Session$FixedRate;"⟩ : MethodName)) hown (mvT hZ (hw _ (List.mem_of_getElem? (i := 0) rfl))) (mvT hZ (hw _ (List.mem_of_getElem? (i := 1) rfl))) (mvT hZ (hw _ (List.mem_of_getElem? (i := 2) rfl))) (mvT hZ (hw _ (List.mem_of_getElem? (i := 3) rfl))) (by decide) (backOf (W := 0) (rm1 l Z a0 hw [] (3 : Int32) w_UNRATED w_DUE w_SETTLED w_NONE h0 n0 O0 S_UNRATED S_DUE S_SETTLED S_NONE) hZ (hw _ (List.mem_of_getElem? (i := 3) rfl)) (hw _ (List.mem_of_getElem? (i := 2) rfl)) (by decide) (by decide)) (g := (mkF m 17 #[iv pi0, iv pi1, iv (3 : Int32), iv (0 : Int32), .unset, .unset, .unset, .unset] [(.int (3 : Int32))])) rfl (by rw [hml]; rfl) (argsL := [(.int (3 : Int32))]) (rest := []) (lenOf pd__I_Lcom_example_brace_brace_account_Session_FixedRate_ rfl) rfl (by show 2 * 0 + _ ≤ _; exact Nat.le_of_eq rfl) (hb hby at_17) (fun _ _ => ⟨rfl, e0, (by decide : 0 + 0 ≤ _), (by decide : 0 + 0 ≤ _)⟩)
      dsimp only [Pt.U, Pt.locs, Pt.cells, Pt.slots] at X95 l95 y95 z95 st95 hQ95
      subst l95 y95 z95
      obtain ⟨hv95, N95q, e95q⟩ := hQ95
      have N96 := Fr.app N0 N95q
      have hw95 : v95 = some (.ref w_NONE) := by rw [hv95, if_neg (by decide : ¬ ((3 : Int32) = (0 : Int32))), if_neg (by decide : ¬ ((3 : Int32) = (1 : Int32))), if_neg (by decide : ¬ ((3 : Int32) = (2 : Int32)))]
      subst hw95
      have pre97 : ∀ t, Steps p.tables e below (T95.setTop (mkF m 20 #[iv pi0, iv pi1, iv (3 : Int32), iv (0 : Int32), .unset, .unset, .unset, .unset] [(.ref w_NONE)])) t → Go t := fun t kt => pre94 t (st95 t kt)
      have pre98 : ∀ t, Steps p.tables e below (T95.setTop (mkF m 24 #[iv pi0, iv pi1, iv (3 : Int32), iv (0 : Int32), rv w_NONE, .unset, .unset, .unset] [(.ref w_NONE)])) t → Go t := fun t kt => pre97 t (by
          refine y_astore X95.here hx (hb hby at_20) rfl (l' := #[iv pi0, iv pi1, iv (3 : Int32), iv (0 : Int32), rv w_NONE, .unset, .unset, .unset]) rfl (pc' := 22) rfl ?_
          refine y_aload X95.here hx (hb hby at_22) rfl rfl (pc' := 24) rfl ?_
          exact kt)
      obtain ⟨cq99, kq99, q99a, q99b, q99c⟩ := isOf hZ e95q (E_w_NONE.ext O0.2)
      obtain ⟨v99, _, ⟨T99, L99, k99, n99⟩, -, X99, ⟨Lc99, hQ99, l99, y99, z99⟩, st99⟩ := X95.virtualBack hx (y := (⟨"com/example/brace/brace/account/Session$FixedRate", "priced", "()Z"⟩ : MethodName)) (z := (⟨"com/example/brace/brace/account/Session$FixedRate", "priced", "()Z"⟩ : MethodName)) hown (mvT hZ (hw _ (List.mem_of_getElem? (i := 7) rfl))) (mvT hZ (hw _ (List.mem_of_getElem? (i := 8) rfl))) (notFace_of_selects (args := #[]) (mvT hZ (hw _ (List.mem_of_getElem? (i := 10) rfl)))) (mvT hZ (hw _ (List.mem_of_getElem? (i := 10) rfl))) (mvT hZ (hw _ (List.mem_of_getElem? (i := 9) rfl))) (by decide) (backOf (W := 0) (rm2 l Z a0 hw [] w_NONE w_NONE h0 n0 O0 S_NONE) hZ (hw _ (List.mem_of_getElem? (i := 11) rfl)) (hw _ (List.mem_of_getElem? (i := 5) rfl)) (by decide) (by decide)) q99a q99c (g := (mkF m 24 #[iv pi0, iv pi1, iv (3 : Int32), iv (0 : Int32), rv w_NONE, .unset, .unset, .unset] [(.ref w_NONE)])) rfl (by rw [hml]; rfl) (Steps.refl _) (argsL := []) (rest := []) (lenOf pd___Z rfl) rfl (by show 2 * 0 + _ ≤ _; exact Nat.le_of_eq rfl) (hb hby at_24) (fun _ _ => ⟨rfl, e95q, (by decide : 0 + 0 ≤ _), (by decide : 0 + 0 ≤ _)⟩)
      dsimp only [Pt.U, Pt.locs, Pt.cells, Pt.slots] at X99 l99 y99 z99 st99 hQ99
      subst l99 y99 z99
      obtain ⟨hv99, N99q, e99q⟩ := hQ99
      have N100 := Fr.app N96 N99q
      have hw99 : v99 = some (.int (0 : Int32)) := by rw [hv99, if_pos (rfl : w_NONE = w_NONE)]
      subst hw99
      have pre101 : ∀ t, Steps p.tables e below (T99.setTop (mkF m 27 #[iv pi0, iv pi1, iv (3 : Int32), iv (0 : Int32), rv w_NONE, .unset, .unset, .unset] [(.int (0 : Int32))])) t → Go t := fun t kt => pre98 t (st99.trans kt)
      have pre102 : ∀ t, Steps p.tables e below (T99.setTop (mkF m 54 #[iv pi0, iv pi1, iv (3 : Int32), iv (0 : Int32), rv w_NONE, iv (0 : Int32), iv (0 : Int32), .unset] [(.ref w_NONE), (.int (0 : Int32))])) t → Go t := fun t kt => pre101 t (by
          refine y_istore X99.here hx (hb hby at_27) (l' := #[iv pi0, iv pi1, iv (3 : Int32), iv (0 : Int32), rv w_NONE, iv (0 : Int32), .unset, .unset]) rfl (pc' := 29) rfl ?_
          refine y_iloadN X99.here hx (hb hby at_29) rfl (pc' := 30) rfl ?_
          refine y_iconst X99.here hx (hb hby at_30) (v := (3 : Int32)) rfl (pc' := 31) rfl ?_
          refine y_icmpYes X99.here hx (hb hby at_31) (teq (rfl : (3 : Int32) = (3 : Int32))).1 (pc' := 38) (by decide) rfl ?_
          refine y_iconst X99.here hx (hb hby at_38) (v := (0 : Int32)) rfl (pc' := 39) rfl ?_
          refine y_istore X99.here hx (hb hby at_39) (l' := #[iv pi0, iv pi1, iv (3 : Int32), iv (0 : Int32), rv w_NONE, iv (0 : Int32), iv (0 : Int32), .unset]) rfl (pc' := 41) rfl ?_
          refine y_iload X99.here hx (hb hby at_41) rfl (pc' := 43) rfl ?_
          refine y_iload X99.here hx (hb hby at_43) rfl (pc' := 45) rfl ?_
          refine y_icmpYes X99.here hx (hb hby at_45) (teq (rfl : (0 : Int32) = (0 : Int32))).1 (pc' := 50) (by decide) rfl ?_
          refine y_iload X99.here hx (hb hby at_50) rfl (pc' := 52) rfl ?_
          refine y_aload X99.here hx (hb hby at_52) rfl rfl (pc' := 54) rfl ?_
          exact kt)
      obtain ⟨cq103, kq103, q103a, q103b, q103c⟩ := isOf hZ e99q (E_w_NONE.ext O0.2)
      obtain ⟨v103, _, ⟨T103, L103, k103, n103⟩, -, X103, ⟨Lc103, hQ103, l103, y103, z103⟩, st103⟩ := X99.virtualBack hx (y := (⟨"com/example/brace/brace/account/Session$FixedRate", "afterCharge", "()Lcom/example/brace/brace/account/Session$FixedRate;"⟩ : MethodName)) (z := (⟨"com/example/brace/brace/account/Session$FixedRate", "afterCharge", "()Lcom/example/brace/brace/account/Session$FixedRate;"⟩ : MethodName)) hown (mvT hZ (hw _ (List.mem_of_getElem? (i := 14) rfl))) (mvT hZ (hw _ (List.mem_of_getElem? (i := 15) rfl))) (notFace_of_selects (args := #[]) (mvT hZ (hw _ (List.mem_of_getElem? (i := 17) rfl)))) (mvT hZ (hw _ (List.mem_of_getElem? (i := 17) rfl))) (mvT hZ (hw _ (List.mem_of_getElem? (i := 16) rfl))) (by decide) (backOf (W := 1) (rm3 l Z a0 hw [] w_NONE w_SETTLED w_NONE h0 n0 O0 S_SETTLED S_NONE) hZ (hw _ (List.mem_of_getElem? (i := 18) rfl)) (hw _ (List.mem_of_getElem? (i := 5) rfl)) (by decide) (by decide)) q103a q103c (g := (mkF m 54 #[iv pi0, iv pi1, iv (3 : Int32), iv (0 : Int32), rv w_NONE, iv (0 : Int32), iv (0 : Int32), .unset] [(.ref w_NONE), (.int (0 : Int32))])) rfl (by rw [hml]; rfl) (Steps.refl _) (argsL := []) (rest := [(.int (0 : Int32))]) (lenOf pd___Lcom_example_brace_brace_account_Session_FixedRate_ rfl) rfl (by show 2 * 0 + _ ≤ _; exact Nat.le_of_eq rfl) (hb hby at_54) (fun _ _ => ⟨rfl, e99q, (by decide : 0 + 0 ≤ _), (by decide : 0 + 0 ≤ _)⟩)
      dsimp only [Pt.U, Pt.locs, Pt.cells, Pt.slots] at X103 l103 y103 z103 st103 hQ103
      subst l103 y103 z103
      obtain ⟨hv103, N103q, e103q⟩ := hQ103
      have N104 := Fr.app N100 N103q
      have hw103 : v103 = some (.ref w_NONE) := by rw [hv103, if_pos (rfl : w_NONE = w_NONE)]
      subst hw103
      have pre105 : ∀ t, Steps p.tables e below (T103.setTop (mkF m 57 #[iv pi0, iv pi1, iv (3 : Int32), iv (0 : Int32), rv w_NONE, iv (0 : Int32), iv (0 : Int32), .unset] [(.ref w_NONE), (.int (0 : Int32))])) t → Go t := fun t kt => pre102 t (st103.trans kt)
      obtain ⟨T106, X106, e106, st106⟩ := getS2 X103 hx hZ hown (host := "") (Or.inl (hw _ (List.mem_of_getElem? (i := 21) rfl))) Via.refl e103q (S_NONE.ext O0.2) (g := (mkF m 57 #[iv pi0, iv pi1, iv (3 : Int32), iv (0 : Int32), rv w_NONE, iv (0 : Int32), iv (0 : Int32), .unset] [(.ref w_NONE), (.int (0 : Int32))])) rfl (hb hby at_57)
      have pre107 : ∀ t, Steps p.tables e below (T106.setTop (mkF m 60 #[iv pi0, iv pi1, iv (3 : Int32), iv (0 : Int32), rv w_NONE, iv (0 : Int32), iv (0 : Int32), .unset] [(.ref w_NONE), (.ref w_NONE), (.int (0 : Int32))])) t → Go t := fun t kt => pre105 t (st106 t kt)
      have pre108 : ∀ t, Steps p.tables e below (T106.setTop (mkF m 75 #[iv pi0, iv pi1, iv (3 : Int32), iv (0 : Int32), rv w_NONE, iv (0 : Int32), iv (0 : Int32), .unset] [(.ref w_NONE)])) t → Go t := fun t kt => pre107 t (by
          refine Jvm.RoadKit.acmp (g := (mkF m 60 #[iv pi0, iv pi1, iv (3 : Int32), iv (0 : Int32), rv w_NONE, iv (0 : Int32), iv (0 : Int32), .unset] [(.ref w_NONE), (.ref w_NONE), (.int (0 : Int32))])) X106 hx rfl rfl rfl (pc0 := 60) (pc' := 67) (same := true) rfl (hb hby at_60) rfl (decide_eq_true (congrArg Value.ref (rfl : w_NONE = w_NONE))) (by decide) (by decide) ?_
          show Steps p.tables e below (T106.setTop (mkF m 67 #[iv pi0, iv pi1, iv (3 : Int32), iv (0 : Int32), rv w_NONE, iv (0 : Int32), iv (0 : Int32), .unset] [(.int (0 : Int32))])) _
          refine y_iconst X106.here hx (hb hby at_67) (v := (0 : Int32)) rfl (pc' := 68) rfl ?_
          refine y_icmpYes X106.here hx (hb hby at_68) (teq (rfl : (0 : Int32) = (0 : Int32))).1 (pc' := 73) (by decide) rfl ?_
          refine y_aload X106.here hx (hb hby at_73) rfl rfl (pc' := 75) rfl ?_
          exact kt)
      obtain ⟨cq109, kq109, q109a, q109b, q109c⟩ := isOf hZ e106 (E_w_NONE.ext O0.2)
      obtain ⟨v109, _, ⟨T109, L109, k109, n109⟩, -, X109, ⟨Lc109, hQ109, l109, y109, z109⟩, st109⟩ := X106.virtualBack hx (y := (⟨"com/example/brace/brace/account/Session$FixedRate", "settled", "()Z"⟩ : MethodName)) (z := (⟨"com/example/brace/brace/account/Session$FixedRate", "settled", "()Z"⟩ : MethodName)) hown (mvT hZ (hw _ (List.mem_of_getElem? (i := 22) rfl))) (mvT hZ (hw _ (List.mem_of_getElem? (i := 23) rfl))) (notFace_of_selects (args := #[]) (mvT hZ (hw _ (List.mem_of_getElem? (i := 25) rfl)))) (mvT hZ (hw _ (List.mem_of_getElem? (i := 25) rfl))) (mvT hZ (hw _ (List.mem_of_getElem? (i := 24) rfl))) (by decide) (backOf (W := 0) (rm4 l Z a0 hw [] w_NONE w_SETTLED h0 n0 O0 S_SETTLED) hZ (hw _ (List.mem_of_getElem? (i := 26) rfl)) (hw _ (List.mem_of_getElem? (i := 5) rfl)) (by decide) (by decide)) q109a q109c (g := (mkF m 75 #[iv pi0, iv pi1, iv (3 : Int32), iv (0 : Int32), rv w_NONE, iv (0 : Int32), iv (0 : Int32), .unset] [(.ref w_NONE)])) rfl (by rw [hml]; rfl) (Steps.refl _) (argsL := []) (rest := []) (lenOf pd___Z rfl) rfl (by show 2 * 0 + _ ≤ _; exact Nat.le_of_eq rfl) (hb hby at_75) (fun _ _ => ⟨rfl, e106, (by decide : 0 + 0 ≤ _), (by decide : 0 + 0 ≤ _)⟩)
      dsimp only [Pt.U, Pt.locs, Pt.cells, Pt.slots] at X109 l109 y109 z109 st109 hQ109
      subst l109 y109 z109
      obtain ⟨hv109, N109q, e109q⟩ := hQ109
      have N110 := Fr.app N104 N109q
      have hw109 : v109 = some (.int (0 : Int32)) := by rw [hv109, if_neg (Ne.symm ne_SETTLED_NONE)]
      subst hw109
      have pre111 : ∀ t, Steps p.tables e below (T109.setTop (mkF m 78 #[iv pi0, iv pi1, iv (3 : Int32), iv (0 : Int32), rv w_NONE, iv (0 : Int32), iv (0 : Int32), .unset] [(.int (0 : Int32))])) t → Go t := fun t kt => pre108 t (st109.trans kt)
      have pre112 : ∀ t, Steps p.tables e below (T109.setTop (mkF m 88 #[iv pi0, iv pi1, iv (3 : Int32), iv (0 : Int32), rv w_NONE, iv (0 : Int32), iv (0 : Int32), .unset] [])) t → Go t := fun t kt => pre111 t (by
          refine y_ifYes X109.here hx (hb hby at_78) ((if0 _ _).trans (teq (rfl : (0 : Int32) = (0 : Int32))).1) (pc' := 88) (by decide) rfl ?_
          exact kt)
      obtain ⟨T113, X113, e113, st113⟩ := getS2 X109 hx hZ hown (host := "") (Or.inl (hw _ (List.mem_of_getElem? (i := 4) rfl))) Via.refl e109q (S_UNRATED.ext O0.2) (g := (mkF m 88 #[iv pi0, iv pi1, iv (3 : Int32), iv (0 : Int32), rv w_NONE, iv (0 : Int32), iv (0 : Int32), .unset] [])) rfl (hb hby at_88)
      have pre114 : ∀ t, Steps p.tables e below (T113.setTop (mkF m 91 #[iv pi0, iv pi1, iv (3 : Int32), iv (0 : Int32), rv w_NONE, iv (0 : Int32), iv (0 : Int32), .unset] [(.ref w_UNRATED)])) t → Go t := fun t kt => pre112 t (st113 t kt)
      have pre115 : ∀ t, Steps p.tables e below (T113.setTop (mkF m 92 #[iv pi0, iv pi1, iv (3 : Int32), iv (0 : Int32), rv w_NONE, iv (0 : Int32), iv (0 : Int32), .unset] [(.int (0 : Int32)), (.ref w_UNRATED)])) t → Go t := fun t kt => pre114 t (by
          refine y_iloadN X113.here hx (hb hby at_91) rfl (pc' := 92) rfl ?_
          exact kt)
      obtain ⟨cq116, kq116, q116a, q116b, q116c⟩ := isOf hZ e113 (E_w_UNRATED.ext O0.2)
      obtain ⟨v116, _, ⟨T116, L116, k116, n116⟩, -, X116, ⟨Lc116, hQ116, l116, y116, z116⟩, st116⟩ := X113.virtualBack hx (y := (⟨"com/example/brace/brace/account/Session$FixedRate", "afterReservation", "(Z)Lcom/example/brace/brace/account/Session$FixedRate;"⟩ : MethodName)) (z := (⟨"com/example/brace/brace/account/Session$FixedRate", "afterReservation", "(Z)Lcom/example/brace/brace/account/Session$FixedRate;"⟩ : MethodName)) hown (mvT hZ (hw _ (List.mem_of_getElem? (i := 27) rfl))) (mvT hZ (hw _ (List.mem_of_getElem? (i := 28) rfl))) (notFace_of_selects (args := #[]) (mvT hZ (hw _ (List.mem_of_getElem? (i := 30) rfl)))) (mvT hZ (hw _ (List.mem_of_getElem? (i := 30) rfl))) (mvT hZ (hw _ (List.mem_of_getElem? (i := 29) rfl))) (by decide) (backOf (W := 0) (rm5 l Z a0 hw [] w_UNRATED (0 : Int32) w_UNRATED w_DUE w_NONE h0 n0 O0 S_UNRATED S_DUE S_NONE) hZ (hw _ (List.mem_of_getElem? (i := 31) rfl)) (hw _ (List.mem_of_getElem? (i := 5) rfl)) (by decide) (by decide)) q116a q116c (g := (mkF m 92 #[iv pi0, iv pi1, iv (3 : Int32), iv (0 : Int32), rv w_NONE, iv (0 : Int32), iv (0 : Int32), .unset] [(.int (0 : Int32)), (.ref w_UNRATED)])) rfl (by rw [hml]; rfl) (Steps.refl _) (argsL := [(.int (0 : Int32))]) (rest := []) (lenOf pd__Z_Lcom_example_brace_brace_account_Session_FixedRate_ rfl) rfl (by show 2 * 0 + _ ≤ _; exact Nat.le_of_eq rfl) (hb hby at_92) (fun _ _ => ⟨rfl, e113, (by decide : 0 + 0 ≤ _), (by decide : 0 + 0 ≤ _)⟩)
      dsimp only [Pt.U, Pt.locs, Pt.cells, Pt.slots] at X116 l116 y116 z116 st116 hQ116
      subst l116 y116 z116
      obtain ⟨hv116, N116q, e116q⟩ := hQ116
      have N117 := Fr.app N110 N116q
      have hw116 : v116 = some (.ref w_NONE) := by rw [hv116, if_pos (rfl : w_UNRATED = w_UNRATED), if_pos (rfl : (0 : Int32) = (0 : Int32))]
      subst hw116
      have pre118 : ∀ t, Steps p.tables e below (T116.setTop (mkF m 95 #[iv pi0, iv pi1, iv (3 : Int32), iv (0 : Int32), rv w_NONE, iv (0 : Int32), iv (0 : Int32), .unset] [(.ref w_NONE)])) t → Go t := fun t kt => pre115 t (st116.trans kt)
      obtain ⟨cq119, kq119, q119a, q119b, q119c⟩ := isOf hZ e116q (E_w_NONE.ext O0.2)
      obtain ⟨v119, _, ⟨T119, L119, k119, n119⟩, -, X119, ⟨Lc119, hQ119, l119, y119, z119⟩, st119⟩ := X116.virtualBack hx (y := (⟨"com/example/brace/brace/account/Session$FixedRate", "priced", "()Z"⟩ : MethodName)) (z := (⟨"com/example/brace/brace/account/Session$FixedRate", "priced", "()Z"⟩ : MethodName)) hown (mvT hZ (hw _ (List.mem_of_getElem? (i := 7) rfl))) (mvT hZ (hw _ (List.mem_of_getElem? (i := 8) rfl))) (notFace_of_selects (args := #[]) (mvT hZ (hw _ (List.mem_of_getElem? (i := 10) rfl)))) (mvT hZ (hw _ (List.mem_of_getElem? (i := 10) rfl))) (mvT hZ (hw _ (List.mem_of_getElem? (i := 9) rfl))) (by decide) (backOf (W := 0) (rm2 l Z a0 hw [] w_NONE w_NONE h0 n0 O0 S_NONE) hZ (hw _ (List.mem_of_getElem? (i := 11) rfl)) (hw _ (List.mem_of_getElem? (i := 5) rfl)) (by decide) (by decide)) q119a q119c (g := (mkF m 95 #[iv pi0, iv pi1, iv (3 : Int32), iv (0 : Int32), rv w_NONE, iv (0 : Int32), iv (0 : Int32), .unset] [(.ref w_NONE)])) rfl (by rw [hml]; rfl) (Steps.refl _) (argsL := []) (rest := []) (lenOf pd___Z rfl) rfl (by show 2 * 0 + _ ≤ _; exact Nat.le_of_eq rfl) (hb hby at_95) (fun _ _ => ⟨rfl, e116q, (by decide : 0 + 0 ≤ _), (by decide : 0 + 0 ≤ _)⟩)
      dsimp only [Pt.U, Pt.locs, Pt.cells, Pt.slots] at X119 l119 y119 z119 st119 hQ119
      subst l119 y119 z119
      obtain ⟨hv119, N119q, e119q⟩ := hQ119
      have N120 := Fr.app N117 N119q
      have hw119 : v119 = some (.int (0 : Int32)) := by rw [hv119, if_pos (rfl : w_NONE = w_NONE)]
      subst hw119
      have pre121 : ∀ t, Steps p.tables e below (T119.setTop (mkF m 98 #[iv pi0, iv pi1, iv (3 : Int32), iv (0 : Int32), rv w_NONE, iv (0 : Int32), iv (0 : Int32), .unset] [(.int (0 : Int32))])) t → Go t := fun t kt => pre118 t (st119.trans kt)
      have pre122 : ∀ t, Steps p.tables e below (T119.setTop (mkF m 111 #[iv pi0, iv pi1, iv (3 : Int32), iv (0 : Int32), rv w_NONE, iv (0 : Int32), iv (0 : Int32), iv (0 : Int32)] [(.int (1 : Int32))])) t → Go t := fun t kt => pre121 t (by
          refine y_istore X119.here hx (hb hby at_98) (l' := #[iv pi0, iv pi1, iv (3 : Int32), iv (0 : Int32), rv w_NONE, iv (0 : Int32), iv (0 : Int32), iv (0 : Int32)]) rfl (pc' := 100) rfl ?_
          refine y_iload X119.here hx (hb hby at_100) rfl (pc' := 102) rfl ?_
          refine y_iloadN X119.here hx (hb hby at_102) rfl (pc' := 103) rfl ?_
          refine y_icmpNo X119.here hx (hb hby at_103) (teq (rfl : (0 : Int32) = (0 : Int32))).2 (pc' := 106) rfl ?_
          refine y_iconst X119.here hx (hb hby at_106) (v := (1 : Int32)) rfl (pc' := 107) rfl ?_
          refine y_goto X119.here hx (hb hby at_107) (pc' := 111) (by decide) rfl ?_
          exact kt)
      obtain ⟨fs, hr, hrun, hended, hW, hsame⟩ := X119.leave (v := some (.int (1 : Int32))) (fun h => by rw [Bd.returns] at h; cases h)
      refine ⟨_, _, (hGo _).mp (pre122 _ ?_), hrun, hended, _, _, rfl, ?_, ⟨_, rfl⟩, hW, hsame.mono (by decide) (by decide)⟩
      · exact retN X119 hx (t := .boolean) Bd.returns (by simp) (hb hby at_111) hr
      · show Q0 Z pi0 pi1 w_UNRATED w_DUE w_SETTLED w_NONE h0 n0 _ T119.heap _
        rw [e119q]
        exact ⟨rfl, N120⟩
  · have pre123 : ∀ t, Steps p.tables e below (s₁.setTop (mkF m 16 #[iv pi0, iv pi1, iv x1, iv (1 : Int32), .unset, .unset, .unset, .unset] [])) t → Go t := fun t kt => pre3 t (by
        refine y_ifNo X0.here hx (hb hby at_7) ((if0 _ _).trans (feq hc7_4).1) (pc' := 10) rfl ?_
        refine y_iconst X0.here hx (hb hby at_10) (v := (1 : Int32)) rfl (pc' := 11) rfl ?_
        refine y_goto X0.here hx (hb hby at_11) (pc' := 15) (by decide) rfl ?_
        refine y_istoreN X0.here hx (hb hby at_15) (l' := #[iv pi0, iv pi1, iv x1, iv (1 : Int32), .unset, .unset, .unset, .unset]) rfl (pc' := 16) rfl ?_
        exact kt)
    have hs16_124 : x1 = (0 : Int32) ∨ x1 = (1 : Int32) ∨ x1 = (2 : Int32) ∨ x1 = (3 : Int32) := by
        rw [hx1]; exact own_and3 _
    rcases hs16_124 with rfl | rfl | rfl | rfl
    · skip
      have pre125 : ∀ t, Steps p.tables e below (s₁.setTop (mkF m 17 #[iv pi0, iv pi1, iv (0 : Int32), iv (1 : Int32), .unset, .unset, .unset, .unset] [(.int (0 : Int32))])) t → Go t := fun t kt => pre123 t (by
          refine y_iloadN X0.here hx (hb hby at_16) rfl (pc' := 17) rfl ?_
          exact kt)
      obtain ⟨v126, _, ⟨T126, L126, k126, n126⟩, -, X126, ⟨Lc126, hQ126, l126, y126, z126⟩, st126⟩ := Jvm.LawKit.callS X0 hx (y := (⟨"com/example/brace/brace/account/FixedRatePricedPinLaw", "pick", "(I)Lcom/example/brace/brace/account/Session$FixedRate;"⟩ : MethodName)) hown (mvT hZ (hw _ (List.mem_of_getElem? (i := 0) rfl))) (mvT hZ (hw _ (List.mem_of_getElem? (i := 1) rfl))) (mvT hZ (hw _ (List.mem_of_getElem? (i := 2) rfl))) (mvT hZ (hw _ (List.mem_of_getElem? (i := 3) rfl))) (by decide) (backOf (W := 0) (rm1 l Z a0 hw [] (0 : Int32) w_UNRATED w_DUE w_SETTLED w_NONE h0 n0 O0 S_UNRATED S_DUE S_SETTLED S_NONE) hZ (hw _ (List.mem_of_getElem? (i := 3) rfl)) (hw _ (List.mem_of_getElem? (i := 2) rfl)) (by decide) (by decide)) (g := (mkF m 17 #[iv pi0, iv pi1, iv (0 : Int32), iv (1 : Int32), .unset, .unset, .unset, .unset] [(.int (0 : Int32))])) rfl (by rw [hml]; rfl) (argsL := [(.int (0 : Int32))]) (rest := []) (lenOf pd__I_Lcom_example_brace_brace_account_Session_FixedRate_ rfl) rfl (by show 2 * 0 + _ ≤ _; exact Nat.le_of_eq rfl) (hb hby at_17) (fun _ _ => ⟨rfl, e0, (by decide : 0 + 0 ≤ _), (by decide : 0 + 0 ≤ _)⟩)
      dsimp only [Pt.U, Pt.locs, Pt.cells, Pt.slots] at X126 l126 y126 z126 st126 hQ126
      subst l126 y126 z126
      obtain ⟨hv126, N126q, e126q⟩ := hQ126
      have N127 := Fr.app N0 N126q
      have hw126 : v126 = some (.ref w_UNRATED) := by rw [hv126, if_pos (rfl : (0 : Int32) = (0 : Int32))]
      subst hw126
      have pre128 : ∀ t, Steps p.tables e below (T126.setTop (mkF m 20 #[iv pi0, iv pi1, iv (0 : Int32), iv (1 : Int32), .unset, .unset, .unset, .unset] [(.ref w_UNRATED)])) t → Go t := fun t kt => pre125 t (st126 t kt)
      have pre129 : ∀ t, Steps p.tables e below (T126.setTop (mkF m 24 #[iv pi0, iv pi1, iv (0 : Int32), iv (1 : Int32), rv w_UNRATED, .unset, .unset, .unset] [(.ref w_UNRATED)])) t → Go t := fun t kt => pre128 t (by
          refine y_astore X126.here hx (hb hby at_20) rfl (l' := #[iv pi0, iv pi1, iv (0 : Int32), iv (1 : Int32), rv w_UNRATED, .unset, .unset, .unset]) rfl (pc' := 22) rfl ?_
          refine y_aload X126.here hx (hb hby at_22) rfl rfl (pc' := 24) rfl ?_
          exact kt)
      obtain ⟨cq130, kq130, q130a, q130b, q130c⟩ := isOf hZ e126q (E_w_UNRATED.ext O0.2)
      obtain ⟨v130, _, ⟨T130, L130, k130, n130⟩, -, X130, ⟨Lc130, hQ130, l130, y130, z130⟩, st130⟩ := X126.virtualBack hx (y := (⟨"com/example/brace/brace/account/Session$FixedRate", "priced", "()Z"⟩ : MethodName)) (z := (⟨"com/example/brace/brace/account/Session$FixedRate", "priced", "()Z"⟩ : MethodName)) hown (mvT hZ (hw _ (List.mem_of_getElem? (i := 7) rfl))) (mvT hZ (hw _ (List.mem_of_getElem? (i := 8) rfl))) (notFace_of_selects (args := #[]) (mvT hZ (hw _ (List.mem_of_getElem? (i := 10) rfl)))) (mvT hZ (hw _ (List.mem_of_getElem? (i := 10) rfl))) (mvT hZ (hw _ (List.mem_of_getElem? (i := 9) rfl))) (by decide) (backOf (W := 0) (rm2 l Z a0 hw [] w_UNRATED w_NONE h0 n0 O0 S_NONE) hZ (hw _ (List.mem_of_getElem? (i := 11) rfl)) (hw _ (List.mem_of_getElem? (i := 5) rfl)) (by decide) (by decide)) q130a q130c (g := (mkF m 24 #[iv pi0, iv pi1, iv (0 : Int32), iv (1 : Int32), rv w_UNRATED, .unset, .unset, .unset] [(.ref w_UNRATED)])) rfl (by rw [hml]; rfl) (Steps.refl _) (argsL := []) (rest := []) (lenOf pd___Z rfl) rfl (by show 2 * 0 + _ ≤ _; exact Nat.le_of_eq rfl) (hb hby at_24) (fun _ _ => ⟨rfl, e126q, (by decide : 0 + 0 ≤ _), (by decide : 0 + 0 ≤ _)⟩)
      dsimp only [Pt.U, Pt.locs, Pt.cells, Pt.slots] at X130 l130 y130 z130 st130 hQ130
      subst l130 y130 z130
      obtain ⟨hv130, N130q, e130q⟩ := hQ130
      have N131 := Fr.app N127 N130q
      have hw130 : v130 = some (.int (1 : Int32)) := by rw [hv130, if_neg ne_UNRATED_NONE]
      subst hw130
      have pre132 : ∀ t, Steps p.tables e below (T130.setTop (mkF m 27 #[iv pi0, iv pi1, iv (0 : Int32), iv (1 : Int32), rv w_UNRATED, .unset, .unset, .unset] [(.int (1 : Int32))])) t → Go t := fun t kt => pre129 t (st130.trans kt)
      have pre133 : ∀ t, Steps p.tables e below (T130.setTop (mkF m 54 #[iv pi0, iv pi1, iv (0 : Int32), iv (1 : Int32), rv w_UNRATED, iv (1 : Int32), iv (1 : Int32), .unset] [(.ref w_UNRATED), (.int (1 : Int32))])) t → Go t := fun t kt => pre132 t (by
          refine y_istore X130.here hx (hb hby at_27) (l' := #[iv pi0, iv pi1, iv (0 : Int32), iv (1 : Int32), rv w_UNRATED, iv (1 : Int32), .unset, .unset]) rfl (pc' := 29) rfl ?_
          refine y_iloadN X130.here hx (hb hby at_29) rfl (pc' := 30) rfl ?_
          refine y_iconst X130.here hx (hb hby at_30) (v := (3 : Int32)) rfl (pc' := 31) rfl ?_
          refine y_icmpNo X130.here hx (hb hby at_31) (feq (by decide : ¬ ((0 : Int32) = (3 : Int32)))).1 (pc' := 34) rfl ?_
          refine y_iconst X130.here hx (hb hby at_34) (v := (1 : Int32)) rfl (pc' := 35) rfl ?_
          refine y_goto X130.here hx (hb hby at_35) (pc' := 39) (by decide) rfl ?_
          refine y_istore X130.here hx (hb hby at_39) (l' := #[iv pi0, iv pi1, iv (0 : Int32), iv (1 : Int32), rv w_UNRATED, iv (1 : Int32), iv (1 : Int32), .unset]) rfl (pc' := 41) rfl ?_
          refine y_iload X130.here hx (hb hby at_41) rfl (pc' := 43) rfl ?_
          refine y_iload X130.here hx (hb hby at_43) rfl (pc' := 45) rfl ?_
          refine y_icmpYes X130.here hx (hb hby at_45) (teq (rfl : (1 : Int32) = (1 : Int32))).1 (pc' := 50) (by decide) rfl ?_
          refine y_iload X130.here hx (hb hby at_50) rfl (pc' := 52) rfl ?_
          refine y_aload X130.here hx (hb hby at_52) rfl rfl (pc' := 54) rfl ?_
          exact kt)
      obtain ⟨cq134, kq134, q134a, q134b, q134c⟩ := isOf hZ e130q (E_w_UNRATED.ext O0.2)
      obtain ⟨v134, _, ⟨T134, L134, k134, n134⟩, -, X134, ⟨Lc134, hQ134, l134, y134, z134⟩, st134⟩ := X130.virtualBack hx (y := (⟨"com/example/brace/brace/account/Session$FixedRate", "afterCharge", "()Lcom/example/brace/brace/account/Session$FixedRate;"⟩ : MethodName)) (z := (⟨"com/example/brace/brace/account/Session$FixedRate", "afterCharge", "()Lcom/example/brace/brace/account/Session$FixedRate;"⟩ : MethodName)) hown (mvT hZ (hw _ (List.mem_of_getElem? (i := 14) rfl))) (mvT hZ (hw _ (List.mem_of_getElem? (i := 15) rfl))) (notFace_of_selects (args := #[]) (mvT hZ (hw _ (List.mem_of_getElem? (i := 17) rfl)))) (mvT hZ (hw _ (List.mem_of_getElem? (i := 17) rfl))) (mvT hZ (hw _ (List.mem_of_getElem? (i := 16) rfl))) (by decide) (backOf (W := 1) (rm3 l Z a0 hw [] w_UNRATED w_SETTLED w_NONE h0 n0 O0 S_SETTLED S_NONE) hZ (hw _ (List.mem_of_getElem? (i := 18) rfl)) (hw _ (List.mem_of_getElem? (i := 5) rfl)) (by decide) (by decide)) q134a q134c (g := (mkF m 54 #[iv pi0, iv pi1, iv (0 : Int32), iv (1 : Int32), rv w_UNRATED, iv (1 : Int32), iv (1 : Int32), .unset] [(.ref w_UNRATED), (.int (1 : Int32))])) rfl (by rw [hml]; rfl) (Steps.refl _) (argsL := []) (rest := [(.int (1 : Int32))]) (lenOf pd___Lcom_example_brace_brace_account_Session_FixedRate_ rfl) rfl (by show 2 * 0 + _ ≤ _; exact Nat.le_of_eq rfl) (hb hby at_54) (fun _ _ => ⟨rfl, e130q, (by decide : 0 + 0 ≤ _), (by decide : 0 + 0 ≤ _)⟩)
      dsimp only [Pt.U, Pt.locs, Pt.cells, Pt.slots] at X134 l134 y134 z134 st134 hQ134
      subst l134 y134 z134
      obtain ⟨hv134, N134q, e134q⟩ := hQ134
      have N135 := Fr.app N131 N134q
      have hw134 : v134 = some (.ref w_SETTLED) := by rw [hv134, if_neg ne_UNRATED_NONE]
      subst hw134
      have pre136 : ∀ t, Steps p.tables e below (T134.setTop (mkF m 57 #[iv pi0, iv pi1, iv (0 : Int32), iv (1 : Int32), rv w_UNRATED, iv (1 : Int32), iv (1 : Int32), .unset] [(.ref w_SETTLED), (.int (1 : Int32))])) t → Go t := fun t kt => pre133 t (st134.trans kt)
      obtain ⟨T137, X137, e137, st137⟩ := getS2 X134 hx hZ hown (host := "") (Or.inl (hw _ (List.mem_of_getElem? (i := 21) rfl))) Via.refl e134q (S_NONE.ext O0.2) (g := (mkF m 57 #[iv pi0, iv pi1, iv (0 : Int32), iv (1 : Int32), rv w_UNRATED, iv (1 : Int32), iv (1 : Int32), .unset] [(.ref w_SETTLED), (.int (1 : Int32))])) rfl (hb hby at_57)
      have pre138 : ∀ t, Steps p.tables e below (T137.setTop (mkF m 60 #[iv pi0, iv pi1, iv (0 : Int32), iv (1 : Int32), rv w_UNRATED, iv (1 : Int32), iv (1 : Int32), .unset] [(.ref w_NONE), (.ref w_SETTLED), (.int (1 : Int32))])) t → Go t := fun t kt => pre136 t (st137 t kt)
      have pre139 : ∀ t, Steps p.tables e below (T137.setTop (mkF m 75 #[iv pi0, iv pi1, iv (0 : Int32), iv (1 : Int32), rv w_UNRATED, iv (1 : Int32), iv (1 : Int32), .unset] [(.ref w_UNRATED)])) t → Go t := fun t kt => pre138 t (by
          refine Jvm.RoadKit.acmp (g := (mkF m 60 #[iv pi0, iv pi1, iv (0 : Int32), iv (1 : Int32), rv w_UNRATED, iv (1 : Int32), iv (1 : Int32), .unset] [(.ref w_NONE), (.ref w_SETTLED), (.int (1 : Int32))])) X137 hx rfl rfl rfl (pc0 := 60) (pc' := 63) (same := false) rfl (hb hby at_60) rfl (decide_eq_false fun q => ne_SETTLED_NONE (Value.ref.inj q)) (by decide) (by decide) ?_
          show Steps p.tables e below (T137.setTop (mkF m 63 #[iv pi0, iv pi1, iv (0 : Int32), iv (1 : Int32), rv w_UNRATED, iv (1 : Int32), iv (1 : Int32), .unset] [(.int (1 : Int32))])) _
          refine y_iconst X137.here hx (hb hby at_63) (v := (1 : Int32)) rfl (pc' := 64) rfl ?_
          refine y_goto X137.here hx (hb hby at_64) (pc' := 68) (by decide) rfl ?_
          refine y_icmpYes X137.here hx (hb hby at_68) (teq (rfl : (1 : Int32) = (1 : Int32))).1 (pc' := 73) (by decide) rfl ?_
          refine y_aload X137.here hx (hb hby at_73) rfl rfl (pc' := 75) rfl ?_
          exact kt)
      obtain ⟨cq140, kq140, q140a, q140b, q140c⟩ := isOf hZ e137 (E_w_UNRATED.ext O0.2)
      obtain ⟨v140, _, ⟨T140, L140, k140, n140⟩, -, X140, ⟨Lc140, hQ140, l140, y140, z140⟩, st140⟩ := X137.virtualBack hx (y := (⟨"com/example/brace/brace/account/Session$FixedRate", "settled", "()Z"⟩ : MethodName)) (z := (⟨"com/example/brace/brace/account/Session$FixedRate", "settled", "()Z"⟩ : MethodName)) hown (mvT hZ (hw _ (List.mem_of_getElem? (i := 22) rfl))) (mvT hZ (hw _ (List.mem_of_getElem? (i := 23) rfl))) (notFace_of_selects (args := #[]) (mvT hZ (hw _ (List.mem_of_getElem? (i := 25) rfl)))) (mvT hZ (hw _ (List.mem_of_getElem? (i := 25) rfl))) (mvT hZ (hw _ (List.mem_of_getElem? (i := 24) rfl))) (by decide) (backOf (W := 0) (rm4 l Z a0 hw [] w_UNRATED w_SETTLED h0 n0 O0 S_SETTLED) hZ (hw _ (List.mem_of_getElem? (i := 26) rfl)) (hw _ (List.mem_of_getElem? (i := 5) rfl)) (by decide) (by decide)) q140a q140c (g := (mkF m 75 #[iv pi0, iv pi1, iv (0 : Int32), iv (1 : Int32), rv w_UNRATED, iv (1 : Int32), iv (1 : Int32), .unset] [(.ref w_UNRATED)])) rfl (by rw [hml]; rfl) (Steps.refl _) (argsL := []) (rest := []) (lenOf pd___Z rfl) rfl (by show 2 * 0 + _ ≤ _; exact Nat.le_of_eq rfl) (hb hby at_75) (fun _ _ => ⟨rfl, e137, (by decide : 0 + 0 ≤ _), (by decide : 0 + 0 ≤ _)⟩)
      dsimp only [Pt.U, Pt.locs, Pt.cells, Pt.slots] at X140 l140 y140 z140 st140 hQ140
      subst l140 y140 z140
      obtain ⟨hv140, N140q, e140q⟩ := hQ140
      have N141 := Fr.app N135 N140q
      have hw140 : v140 = some (.int (0 : Int32)) := by rw [hv140, if_neg ne_UNRATED_SETTLED]
      subst hw140
      have pre142 : ∀ t, Steps p.tables e below (T140.setTop (mkF m 78 #[iv pi0, iv pi1, iv (0 : Int32), iv (1 : Int32), rv w_UNRATED, iv (1 : Int32), iv (1 : Int32), .unset] [(.int (0 : Int32))])) t → Go t := fun t kt => pre139 t (st140.trans kt)
      have pre143 : ∀ t, Steps p.tables e below (T140.setTop (mkF m 88 #[iv pi0, iv pi1, iv (0 : Int32), iv (1 : Int32), rv w_UNRATED, iv (1 : Int32), iv (1 : Int32), .unset] [])) t → Go t := fun t kt => pre142 t (by
          refine y_ifYes X140.here hx (hb hby at_78) ((if0 _ _).trans (teq (rfl : (0 : Int32) = (0 : Int32))).1) (pc' := 88) (by decide) rfl ?_
          exact kt)
      obtain ⟨T144, X144, e144, st144⟩ := getS2 X140 hx hZ hown (host := "") (Or.inl (hw _ (List.mem_of_getElem? (i := 4) rfl))) Via.refl e140q (S_UNRATED.ext O0.2) (g := (mkF m 88 #[iv pi0, iv pi1, iv (0 : Int32), iv (1 : Int32), rv w_UNRATED, iv (1 : Int32), iv (1 : Int32), .unset] [])) rfl (hb hby at_88)
      have pre145 : ∀ t, Steps p.tables e below (T144.setTop (mkF m 91 #[iv pi0, iv pi1, iv (0 : Int32), iv (1 : Int32), rv w_UNRATED, iv (1 : Int32), iv (1 : Int32), .unset] [(.ref w_UNRATED)])) t → Go t := fun t kt => pre143 t (st144 t kt)
      have pre146 : ∀ t, Steps p.tables e below (T144.setTop (mkF m 92 #[iv pi0, iv pi1, iv (0 : Int32), iv (1 : Int32), rv w_UNRATED, iv (1 : Int32), iv (1 : Int32), .unset] [(.int (1 : Int32)), (.ref w_UNRATED)])) t → Go t := fun t kt => pre145 t (by
          refine y_iloadN X144.here hx (hb hby at_91) rfl (pc' := 92) rfl ?_
          exact kt)
      obtain ⟨cq147, kq147, q147a, q147b, q147c⟩ := isOf hZ e144 (E_w_UNRATED.ext O0.2)
      obtain ⟨v147, _, ⟨T147, L147, k147, n147⟩, -, X147, ⟨Lc147, hQ147, l147, y147, z147⟩, st147⟩ := X144.virtualBack hx (y := (⟨"com/example/brace/brace/account/Session$FixedRate", "afterReservation", "(Z)Lcom/example/brace/brace/account/Session$FixedRate;"⟩ : MethodName)) (z := (⟨"com/example/brace/brace/account/Session$FixedRate", "afterReservation", "(Z)Lcom/example/brace/brace/account/Session$FixedRate;"⟩ : MethodName)) hown (mvT hZ (hw _ (List.mem_of_getElem? (i := 27) rfl))) (mvT hZ (hw _ (List.mem_of_getElem? (i := 28) rfl))) (notFace_of_selects (args := #[]) (mvT hZ (hw _ (List.mem_of_getElem? (i := 30) rfl)))) (mvT hZ (hw _ (List.mem_of_getElem? (i := 30) rfl))) (mvT hZ (hw _ (List.mem_of_getElem? (i := 29) rfl))) (by decide) (backOf (W := 0) (rm5 l Z a0 hw [] w_UNRATED (1 : Int32) w_UNRATED w_DUE w_NONE h0 n0 O0 S_UNRATED S_DUE S_NONE) hZ (hw _ (List.mem_of_getElem? (i := 31) rfl)) (hw _ (List.mem_of_getElem? (i := 5) rfl)) (by decide) (by decide)) q147a q147c (g := (mkF m 92 #[iv pi0, iv pi1, iv (0 : Int32), iv (1 : Int32), rv w_UNRATED, iv (1 : Int32), iv (1 : Int32), .unset] [(.int (1 : Int32)), (.ref w_UNRATED)])) rfl (by rw [hml]; rfl) (Steps.refl _) (argsL := [(.int (1 : Int32))]) (rest := []) (lenOf pd__Z_Lcom_example_brace_brace_account_Session_FixedRate_ rfl) rfl (by show 2 * 0 + _ ≤ _; exact Nat.le_of_eq rfl) (hb hby at_92) (fun _ _ => ⟨rfl, e144, (by decide : 0 + 0 ≤ _), (by decide : 0 + 0 ≤ _)⟩)
      dsimp only [Pt.U, Pt.locs, Pt.cells, Pt.slots] at X147 l147 y147 z147 st147 hQ147
      subst l147 y147 z147
      obtain ⟨hv147, N147q, e147q⟩ := hQ147
      have N148 := Fr.app N141 N147q
      have hw147 : v147 = some (.ref w_DUE) := by rw [hv147, if_pos (rfl : w_UNRATED = w_UNRATED), if_neg (by decide : ¬ ((1 : Int32) = (0 : Int32)))]
      subst hw147
      have pre149 : ∀ t, Steps p.tables e below (T147.setTop (mkF m 95 #[iv pi0, iv pi1, iv (0 : Int32), iv (1 : Int32), rv w_UNRATED, iv (1 : Int32), iv (1 : Int32), .unset] [(.ref w_DUE)])) t → Go t := fun t kt => pre146 t (st147.trans kt)
      obtain ⟨cq150, kq150, q150a, q150b, q150c⟩ := isOf hZ e147q (E_w_DUE.ext O0.2)
      obtain ⟨v150, _, ⟨T150, L150, k150, n150⟩, -, X150, ⟨Lc150, hQ150, l150, y150, z150⟩, st150⟩ := X147.virtualBack hx (y := (⟨"com/example/brace/brace/account/Session$FixedRate", "priced", "()Z"⟩ : MethodName)) (z := (⟨"com/example/brace/brace/account/Session$FixedRate", "priced", "()Z"⟩ : MethodName)) hown (mvT hZ (hw _ (List.mem_of_getElem? (i := 7) rfl))) (mvT hZ (hw _ (List.mem_of_getElem? (i := 8) rfl))) (notFace_of_selects (args := #[]) (mvT hZ (hw _ (List.mem_of_getElem? (i := 10) rfl)))) (mvT hZ (hw _ (List.mem_of_getElem? (i := 10) rfl))) (mvT hZ (hw _ (List.mem_of_getElem? (i := 9) rfl))) (by decide) (backOf (W := 0) (rm2 l Z a0 hw [] w_DUE w_NONE h0 n0 O0 S_NONE) hZ (hw _ (List.mem_of_getElem? (i := 11) rfl)) (hw _ (List.mem_of_getElem? (i := 5) rfl)) (by decide) (by decide)) q150a q150c (g := (mkF m 95 #[iv pi0, iv pi1, iv (0 : Int32), iv (1 : Int32), rv w_UNRATED, iv (1 : Int32), iv (1 : Int32), .unset] [(.ref w_DUE)])) rfl (by rw [hml]; rfl) (Steps.refl _) (argsL := []) (rest := []) (lenOf pd___Z rfl) rfl (by show 2 * 0 + _ ≤ _; exact Nat.le_of_eq rfl) (hb hby at_95) (fun _ _ => ⟨rfl, e147q, (by decide : 0 + 0 ≤ _), (by decide : 0 + 0 ≤ _)⟩)
      dsimp only [Pt.U, Pt.locs, Pt.cells, Pt.slots] at X150 l150 y150 z150 st150 hQ150
      subst l150 y150 z150
      obtain ⟨hv150, N150q, e150q⟩ := hQ150
      have N151 := Fr.app N148 N150q
      have hw150 : v150 = some (.int (1 : Int32)) := by rw [hv150, if_neg ne_DUE_NONE]
      subst hw150
      have pre152 : ∀ t, Steps p.tables e below (T150.setTop (mkF m 98 #[iv pi0, iv pi1, iv (0 : Int32), iv (1 : Int32), rv w_UNRATED, iv (1 : Int32), iv (1 : Int32), .unset] [(.int (1 : Int32))])) t → Go t := fun t kt => pre149 t (st150.trans kt)
      have pre153 : ∀ t, Steps p.tables e below (T150.setTop (mkF m 111 #[iv pi0, iv pi1, iv (0 : Int32), iv (1 : Int32), rv w_UNRATED, iv (1 : Int32), iv (1 : Int32), iv (1 : Int32)] [(.int (1 : Int32))])) t → Go t := fun t kt => pre152 t (by
          refine y_istore X150.here hx (hb hby at_98) (l' := #[iv pi0, iv pi1, iv (0 : Int32), iv (1 : Int32), rv w_UNRATED, iv (1 : Int32), iv (1 : Int32), iv (1 : Int32)]) rfl (pc' := 100) rfl ?_
          refine y_iload X150.here hx (hb hby at_100) rfl (pc' := 102) rfl ?_
          refine y_iloadN X150.here hx (hb hby at_102) rfl (pc' := 103) rfl ?_
          refine y_icmpNo X150.here hx (hb hby at_103) (teq (rfl : (1 : Int32) = (1 : Int32))).2 (pc' := 106) rfl ?_
          refine y_iconst X150.here hx (hb hby at_106) (v := (1 : Int32)) rfl (pc' := 107) rfl ?_
          refine y_goto X150.here hx (hb hby at_107) (pc' := 111) (by decide) rfl ?_
          exact kt)
      obtain ⟨fs, hr, hrun, hended, hW, hsame⟩ := X150.leave (v := some (.int (1 : Int32))) (fun h => by rw [Bd.returns] at h; cases h)
      refine ⟨_, _, (hGo _).mp (pre153 _ ?_), hrun, hended, _, _, rfl, ?_, ⟨_, rfl⟩, hW, hsame.mono (by decide) (by decide)⟩
      · exact retN X150 hx (t := .boolean) Bd.returns (by simp) (hb hby at_111) hr
      · show Q0 Z pi0 pi1 w_UNRATED w_DUE w_SETTLED w_NONE h0 n0 _ T150.heap _
        rw [e150q]
        exact ⟨rfl, N151⟩
    · skip
      have pre154 : ∀ t, Steps p.tables e below (s₁.setTop (mkF m 17 #[iv pi0, iv pi1, iv (1 : Int32), iv (1 : Int32), .unset, .unset, .unset, .unset] [(.int (1 : Int32))])) t → Go t := fun t kt => pre123 t (by
          refine y_iloadN X0.here hx (hb hby at_16) rfl (pc' := 17) rfl ?_
          exact kt)
      obtain ⟨v155, _, ⟨T155, L155, k155, n155⟩, -, X155, ⟨Lc155, hQ155, l155, y155, z155⟩, st155⟩ := Jvm.LawKit.callS X0 hx (y := (⟨"com/example/brace/brace/account/FixedRatePricedPinLaw", "pick", "(I)Lcom/example/brace/brace/account/Session$FixedRate;"⟩ : MethodName)) hown (mvT hZ (hw _ (List.mem_of_getElem? (i := 0) rfl))) (mvT hZ (hw _ (List.mem_of_getElem? (i := 1) rfl))) (mvT hZ (hw _ (List.mem_of_getElem? (i := 2) rfl))) (mvT hZ (hw _ (List.mem_of_getElem? (i := 3) rfl))) (by decide) (backOf (W := 0) (rm1 l Z a0 hw [] (1 : Int32) w_UNRATED w_DUE w_SETTLED w_NONE h0 n0 O0 S_UNRATED S_DUE S_SETTLED S_NONE) hZ (hw _ (List.mem_of_getElem? (i := 3) rfl)) (hw _ (List.mem_of_getElem? (i := 2) rfl)) (by decide) (by decide)) (g := (mkF m 17 #[iv pi0, iv pi1, iv (1 : Int32), iv (1 : Int32), .unset, .unset, .unset, .unset] [(.int (1 : Int32))])) rfl (by rw [hml]; rfl) (argsL := [(.int (1 : Int32))]) (rest := []) (lenOf pd__I_Lcom_example_brace_brace_account_Session_FixedRate_ rfl) rfl (by show 2 * 0 + _ ≤ _; exact Nat.le_of_eq rfl) (hb hby at_17) (fun _ _ => ⟨rfl, e0, (by decide : 0 + 0 ≤ _), (by decide : 0 + 0 ≤ _)⟩)
      dsimp only [Pt.U, Pt.locs, Pt.cells, Pt.slots] at X155 l155 y155 z155 st155 hQ155
      subst l155 y155 z155
      obtain ⟨hv155, N155q, e155q⟩ := hQ155
      have N156 := Fr.app N0 N155q
      have hw155 : v155 = some (.ref w_DUE) := by rw [hv155, if_neg (by decide : ¬ ((1 : Int32) = (0 : Int32))), if_pos (rfl : (1 : Int32) = (1 : Int32))]
      subst hw155
      have pre157 : ∀ t, Steps p.tables e below (T155.setTop (mkF m 20 #[iv pi0, iv pi1, iv (1 : Int32), iv (1 : Int32), .unset, .unset, .unset, .unset] [(.ref w_DUE)])) t → Go t := fun t kt => pre154 t (st155 t kt)
      have pre158 : ∀ t, Steps p.tables e below (T155.setTop (mkF m 24 #[iv pi0, iv pi1, iv (1 : Int32), iv (1 : Int32), rv w_DUE, .unset, .unset, .unset] [(.ref w_DUE)])) t → Go t := fun t kt => pre157 t (by
          refine y_astore X155.here hx (hb hby at_20) rfl (l' := #[iv pi0, iv pi1, iv (1 : Int32), iv (1 : Int32), rv w_DUE, .unset, .unset, .unset]) rfl (pc' := 22) rfl ?_
          refine y_aload X155.here hx (hb hby at_22) rfl rfl (pc' := 24) rfl ?_
          exact kt)
      obtain ⟨cq159, kq159, q159a, q159b, q159c⟩ := isOf hZ e155q (E_w_DUE.ext O0.2)
      obtain ⟨v159, _, ⟨T159, L159, k159, n159⟩, -, X159, ⟨Lc159, hQ159, l159, y159, z159⟩, st159⟩ := X155.virtualBack hx (y := (⟨"com/example/brace/brace/account/Session$FixedRate", "priced", "()Z"⟩ : MethodName)) (z := (⟨"com/example/brace/brace/account/Session$FixedRate", "priced", "()Z"⟩ : MethodName)) hown (mvT hZ (hw _ (List.mem_of_getElem? (i := 7) rfl))) (mvT hZ (hw _ (List.mem_of_getElem? (i := 8) rfl))) (notFace_of_selects (args := #[]) (mvT hZ (hw _ (List.mem_of_getElem? (i := 10) rfl)))) (mvT hZ (hw _ (List.mem_of_getElem? (i := 10) rfl))) (mvT hZ (hw _ (List.mem_of_getElem? (i := 9) rfl))) (by decide) (backOf (W := 0) (rm2 l Z a0 hw [] w_DUE w_NONE h0 n0 O0 S_NONE) hZ (hw _ (List.mem_of_getElem? (i := 11) rfl)) (hw _ (List.mem_of_getElem? (i := 5) rfl)) (by decide) (by decide)) q159a q159c (g := (mkF m 24 #[iv pi0, iv pi1, iv (1 : Int32), iv (1 : Int32), rv w_DUE, .unset, .unset, .unset] [(.ref w_DUE)])) rfl (by rw [hml]; rfl) (Steps.refl _) (argsL := []) (rest := []) (lenOf pd___Z rfl) rfl (by show 2 * 0 + _ ≤ _; exact Nat.le_of_eq rfl) (hb hby at_24) (fun _ _ => ⟨rfl, e155q, (by decide : 0 + 0 ≤ _), (by decide : 0 + 0 ≤ _)⟩)
      dsimp only [Pt.U, Pt.locs, Pt.cells, Pt.slots] at X159 l159 y159 z159 st159 hQ159
      subst l159 y159 z159
      obtain ⟨hv159, N159q, e159q⟩ := hQ159
      have N160 := Fr.app N156 N159q
      have hw159 : v159 = some (.int (1 : Int32)) := by rw [hv159, if_neg ne_DUE_NONE]
      subst hw159
      have pre161 : ∀ t, Steps p.tables e below (T159.setTop (mkF m 27 #[iv pi0, iv pi1, iv (1 : Int32), iv (1 : Int32), rv w_DUE, .unset, .unset, .unset] [(.int (1 : Int32))])) t → Go t := fun t kt => pre158 t (st159.trans kt)
      have pre162 : ∀ t, Steps p.tables e below (T159.setTop (mkF m 54 #[iv pi0, iv pi1, iv (1 : Int32), iv (1 : Int32), rv w_DUE, iv (1 : Int32), iv (1 : Int32), .unset] [(.ref w_DUE), (.int (1 : Int32))])) t → Go t := fun t kt => pre161 t (by
          refine y_istore X159.here hx (hb hby at_27) (l' := #[iv pi0, iv pi1, iv (1 : Int32), iv (1 : Int32), rv w_DUE, iv (1 : Int32), .unset, .unset]) rfl (pc' := 29) rfl ?_
          refine y_iloadN X159.here hx (hb hby at_29) rfl (pc' := 30) rfl ?_
          refine y_iconst X159.here hx (hb hby at_30) (v := (3 : Int32)) rfl (pc' := 31) rfl ?_
          refine y_icmpNo X159.here hx (hb hby at_31) (feq (by decide : ¬ ((1 : Int32) = (3 : Int32)))).1 (pc' := 34) rfl ?_
          refine y_iconst X159.here hx (hb hby at_34) (v := (1 : Int32)) rfl (pc' := 35) rfl ?_
          refine y_goto X159.here hx (hb hby at_35) (pc' := 39) (by decide) rfl ?_
          refine y_istore X159.here hx (hb hby at_39) (l' := #[iv pi0, iv pi1, iv (1 : Int32), iv (1 : Int32), rv w_DUE, iv (1 : Int32), iv (1 : Int32), .unset]) rfl (pc' := 41) rfl ?_
          refine y_iload X159.here hx (hb hby at_41) rfl (pc' := 43) rfl ?_
          refine y_iload X159.here hx (hb hby at_43) rfl (pc' := 45) rfl ?_
          refine y_icmpYes X159.here hx (hb hby at_45) (teq (rfl : (1 : Int32) = (1 : Int32))).1 (pc' := 50) (by decide) rfl ?_
          refine y_iload X159.here hx (hb hby at_50) rfl (pc' := 52) rfl ?_
          refine y_aload X159.here hx (hb hby at_52) rfl rfl (pc' := 54) rfl ?_
          exact kt)
      obtain ⟨cq163, kq163, q163a, q163b, q163c⟩ := isOf hZ e159q (E_w_DUE.ext O0.2)
      obtain ⟨v163, _, ⟨T163, L163, k163, n163⟩, -, X163, ⟨Lc163, hQ163, l163, y163, z163⟩, st163⟩ := X159.virtualBack hx (y := (⟨"com/example/brace/brace/account/Session$FixedRate", "afterCharge", "()Lcom/example/brace/brace/account/Session$FixedRate;"⟩ : MethodName)) (z := (⟨"com/example/brace/brace/account/Session$FixedRate", "afterCharge", "()Lcom/example/brace/brace/account/Session$FixedRate;"⟩ : MethodName)) hown (mvT hZ (hw _ (List.mem_of_getElem? (i := 14) rfl))) (mvT hZ (hw _ (List.mem_of_getElem? (i := 15) rfl))) (notFace_of_selects (args := #[]) (mvT hZ (hw _ (List.mem_of_getElem? (i := 17) rfl)))) (mvT hZ (hw _ (List.mem_of_getElem? (i := 17) rfl))) (mvT hZ (hw _ (List.mem_of_getElem? (i := 16) rfl))) (by decide) (backOf (W := 1) (rm3 l Z a0 hw [] w_DUE w_SETTLED w_NONE h0 n0 O0 S_SETTLED S_NONE) hZ (hw _ (List.mem_of_getElem? (i := 18) rfl)) (hw _ (List.mem_of_getElem? (i := 5) rfl)) (by decide) (by decide)) q163a q163c (g := (mkF m 54 #[iv pi0, iv pi1, iv (1 : Int32), iv (1 : Int32), rv w_DUE, iv (1 : Int32), iv (1 : Int32), .unset] [(.ref w_DUE), (.int (1 : Int32))])) rfl (by rw [hml]; rfl) (Steps.refl _) (argsL := []) (rest := [(.int (1 : Int32))]) (lenOf pd___Lcom_example_brace_brace_account_Session_FixedRate_ rfl) rfl (by show 2 * 0 + _ ≤ _; exact Nat.le_of_eq rfl) (hb hby at_54) (fun _ _ => ⟨rfl, e159q, (by decide : 0 + 0 ≤ _), (by decide : 0 + 0 ≤ _)⟩)
      dsimp only [Pt.U, Pt.locs, Pt.cells, Pt.slots] at X163 l163 y163 z163 st163 hQ163
      subst l163 y163 z163
      obtain ⟨hv163, N163q, e163q⟩ := hQ163
      have N164 := Fr.app N160 N163q
      have hw163 : v163 = some (.ref w_SETTLED) := by rw [hv163, if_neg ne_DUE_NONE]
      subst hw163
      have pre165 : ∀ t, Steps p.tables e below (T163.setTop (mkF m 57 #[iv pi0, iv pi1, iv (1 : Int32), iv (1 : Int32), rv w_DUE, iv (1 : Int32), iv (1 : Int32), .unset] [(.ref w_SETTLED), (.int (1 : Int32))])) t → Go t := fun t kt => pre162 t (st163.trans kt)
      obtain ⟨T166, X166, e166, st166⟩ := getS2 X163 hx hZ hown (host := "") (Or.inl (hw _ (List.mem_of_getElem? (i := 21) rfl))) Via.refl e163q (S_NONE.ext O0.2) (g := (mkF m 57 #[iv pi0, iv pi1, iv (1 : Int32), iv (1 : Int32), rv w_DUE, iv (1 : Int32), iv (1 : Int32), .unset] [(.ref w_SETTLED), (.int (1 : Int32))])) rfl (hb hby at_57)
      have pre167 : ∀ t, Steps p.tables e below (T166.setTop (mkF m 60 #[iv pi0, iv pi1, iv (1 : Int32), iv (1 : Int32), rv w_DUE, iv (1 : Int32), iv (1 : Int32), .unset] [(.ref w_NONE), (.ref w_SETTLED), (.int (1 : Int32))])) t → Go t := fun t kt => pre165 t (st166 t kt)
      have pre168 : ∀ t, Steps p.tables e below (T166.setTop (mkF m 75 #[iv pi0, iv pi1, iv (1 : Int32), iv (1 : Int32), rv w_DUE, iv (1 : Int32), iv (1 : Int32), .unset] [(.ref w_DUE)])) t → Go t := fun t kt => pre167 t (by
          refine Jvm.RoadKit.acmp (g := (mkF m 60 #[iv pi0, iv pi1, iv (1 : Int32), iv (1 : Int32), rv w_DUE, iv (1 : Int32), iv (1 : Int32), .unset] [(.ref w_NONE), (.ref w_SETTLED), (.int (1 : Int32))])) X166 hx rfl rfl rfl (pc0 := 60) (pc' := 63) (same := false) rfl (hb hby at_60) rfl (decide_eq_false fun q => ne_SETTLED_NONE (Value.ref.inj q)) (by decide) (by decide) ?_
          show Steps p.tables e below (T166.setTop (mkF m 63 #[iv pi0, iv pi1, iv (1 : Int32), iv (1 : Int32), rv w_DUE, iv (1 : Int32), iv (1 : Int32), .unset] [(.int (1 : Int32))])) _
          refine y_iconst X166.here hx (hb hby at_63) (v := (1 : Int32)) rfl (pc' := 64) rfl ?_
          refine y_goto X166.here hx (hb hby at_64) (pc' := 68) (by decide) rfl ?_
          refine y_icmpYes X166.here hx (hb hby at_68) (teq (rfl : (1 : Int32) = (1 : Int32))).1 (pc' := 73) (by decide) rfl ?_
          refine y_aload X166.here hx (hb hby at_73) rfl rfl (pc' := 75) rfl ?_
          exact kt)
      obtain ⟨cq169, kq169, q169a, q169b, q169c⟩ := isOf hZ e166 (E_w_DUE.ext O0.2)
      obtain ⟨v169, _, ⟨T169, L169, k169, n169⟩, -, X169, ⟨Lc169, hQ169, l169, y169, z169⟩, st169⟩ := X166.virtualBack hx (y := (⟨"com/example/brace/brace/account/Session$FixedRate", "settled", "()Z"⟩ : MethodName)) (z := (⟨"com/example/brace/brace/account/Session$FixedRate", "settled", "()Z"⟩ : MethodName)) hown (mvT hZ (hw _ (List.mem_of_getElem? (i := 22) rfl))) (mvT hZ (hw _ (List.mem_of_getElem? (i := 23) rfl))) (notFace_of_selects (args := #[]) (mvT hZ (hw _ (List.mem_of_getElem? (i := 25) rfl)))) (mvT hZ (hw _ (List.mem_of_getElem? (i := 25) rfl))) (mvT hZ (hw _ (List.mem_of_getElem? (i := 24) rfl))) (by decide) (backOf (W := 0) (rm4 l Z a0 hw [] w_DUE w_SETTLED h0 n0 O0 S_SETTLED) hZ (hw _ (List.mem_of_getElem? (i := 26) rfl)) (hw _ (List.mem_of_getElem? (i := 5) rfl)) (by decide) (by decide)) q169a q169c (g := (mkF m 75 #[iv pi0, iv pi1, iv (1 : Int32), iv (1 : Int32), rv w_DUE, iv (1 : Int32), iv (1 : Int32), .unset] [(.ref w_DUE)])) rfl (by rw [hml]; rfl) (Steps.refl _) (argsL := []) (rest := []) (lenOf pd___Z rfl) rfl (by show 2 * 0 + _ ≤ _; exact Nat.le_of_eq rfl) (hb hby at_75) (fun _ _ => ⟨rfl, e166, (by decide : 0 + 0 ≤ _), (by decide : 0 + 0 ≤ _)⟩)
      dsimp only [Pt.U, Pt.locs, Pt.cells, Pt.slots] at X169 l169 y169 z169 st169 hQ169
      subst l169 y169 z169
      obtain ⟨hv169, N169q, e169q⟩ := hQ169
      have N170 := Fr.app N164 N169q
      have hw169 : v169 = some (.int (0 : Int32)) := by rw [hv169, if_neg ne_DUE_SETTLED]
      subst hw169
      have pre171 : ∀ t, Steps p.tables e below (T169.setTop (mkF m 78 #[iv pi0, iv pi1, iv (1 : Int32), iv (1 : Int32), rv w_DUE, iv (1 : Int32), iv (1 : Int32), .unset] [(.int (0 : Int32))])) t → Go t := fun t kt => pre168 t (st169.trans kt)
      have pre172 : ∀ t, Steps p.tables e below (T169.setTop (mkF m 88 #[iv pi0, iv pi1, iv (1 : Int32), iv (1 : Int32), rv w_DUE, iv (1 : Int32), iv (1 : Int32), .unset] [])) t → Go t := fun t kt => pre171 t (by
          refine y_ifYes X169.here hx (hb hby at_78) ((if0 _ _).trans (teq (rfl : (0 : Int32) = (0 : Int32))).1) (pc' := 88) (by decide) rfl ?_
          exact kt)
      obtain ⟨T173, X173, e173, st173⟩ := getS2 X169 hx hZ hown (host := "") (Or.inl (hw _ (List.mem_of_getElem? (i := 4) rfl))) Via.refl e169q (S_UNRATED.ext O0.2) (g := (mkF m 88 #[iv pi0, iv pi1, iv (1 : Int32), iv (1 : Int32), rv w_DUE, iv (1 : Int32), iv (1 : Int32), .unset] [])) rfl (hb hby at_88)
      have pre174 : ∀ t, Steps p.tables e below (T173.setTop (mkF m 91 #[iv pi0, iv pi1, iv (1 : Int32), iv (1 : Int32), rv w_DUE, iv (1 : Int32), iv (1 : Int32), .unset] [(.ref w_UNRATED)])) t → Go t := fun t kt => pre172 t (st173 t kt)
      have pre175 : ∀ t, Steps p.tables e below (T173.setTop (mkF m 92 #[iv pi0, iv pi1, iv (1 : Int32), iv (1 : Int32), rv w_DUE, iv (1 : Int32), iv (1 : Int32), .unset] [(.int (1 : Int32)), (.ref w_UNRATED)])) t → Go t := fun t kt => pre174 t (by
          refine y_iloadN X173.here hx (hb hby at_91) rfl (pc' := 92) rfl ?_
          exact kt)
      obtain ⟨cq176, kq176, q176a, q176b, q176c⟩ := isOf hZ e173 (E_w_UNRATED.ext O0.2)
      obtain ⟨v176, _, ⟨T176, L176, k176, n176⟩, -, X176, ⟨Lc176, hQ176, l176, y176, z176⟩, st176⟩ := X173.virtualBack hx (y := (⟨"com/example/brace/brace/account/Session$FixedRate", "afterReservation", "(Z)Lcom/example/brace/brace/account/Session$FixedRate;"⟩ : MethodName)) (z := (⟨"com/example/brace/brace/account/Session$FixedRate", "afterReservation", "(Z)Lcom/example/brace/brace/account/Session$FixedRate;"⟩ : MethodName)) hown (mvT hZ (hw _ (List.mem_of_getElem? (i := 27) rfl))) (mvT hZ (hw _ (List.mem_of_getElem? (i := 28) rfl))) (notFace_of_selects (args := #[]) (mvT hZ (hw _ (List.mem_of_getElem? (i := 30) rfl)))) (mvT hZ (hw _ (List.mem_of_getElem? (i := 30) rfl))) (mvT hZ (hw _ (List.mem_of_getElem? (i := 29) rfl))) (by decide) (backOf (W := 0) (rm5 l Z a0 hw [] w_UNRATED (1 : Int32) w_UNRATED w_DUE w_NONE h0 n0 O0 S_UNRATED S_DUE S_NONE) hZ (hw _ (List.mem_of_getElem? (i := 31) rfl)) (hw _ (List.mem_of_getElem? (i := 5) rfl)) (by decide) (by decide)) q176a q176c (g := (mkF m 92 #[iv pi0, iv pi1, iv (1 : Int32), iv (1 : Int32), rv w_DUE, iv (1 : Int32), iv (1 : Int32), .unset] [(.int (1 : Int32)), (.ref w_UNRATED)])) rfl (by rw [hml]; rfl) (Steps.refl _) (argsL := [(.int (1 : Int32))]) (rest := []) (lenOf pd__Z_Lcom_example_brace_brace_account_Session_FixedRate_ rfl) rfl (by show 2 * 0 + _ ≤ _; exact Nat.le_of_eq rfl) (hb hby at_92) (fun _ _ => ⟨rfl, e173, (by decide : 0 + 0 ≤ _), (by decide : 0 + 0 ≤ _)⟩)
      dsimp only [Pt.U, Pt.locs, Pt.cells, Pt.slots] at X176 l176 y176 z176 st176 hQ176
      subst l176 y176 z176
      obtain ⟨hv176, N176q, e176q⟩ := hQ176
      have N177 := Fr.app N170 N176q
      have hw176 : v176 = some (.ref w_DUE) := by rw [hv176, if_pos (rfl : w_UNRATED = w_UNRATED), if_neg (by decide : ¬ ((1 : Int32) = (0 : Int32)))]
      subst hw176
      have pre178 : ∀ t, Steps p.tables e below (T176.setTop (mkF m 95 #[iv pi0, iv pi1, iv (1 : Int32), iv (1 : Int32), rv w_DUE, iv (1 : Int32), iv (1 : Int32), .unset] [(.ref w_DUE)])) t → Go t := fun t kt => pre175 t (st176.trans kt)
      obtain ⟨cq179, kq179, q179a, q179b, q179c⟩ := isOf hZ e176q (E_w_DUE.ext O0.2)
      obtain ⟨v179, _, ⟨T179, L179, k179, n179⟩, -, X179, ⟨Lc179, hQ179, l179, y179, z179⟩, st179⟩ := X176.virtualBack hx (y := (⟨"com/example/brace/brace/account/Session$FixedRate", "priced", "()Z"⟩ : MethodName)) (z := (⟨"com/example/brace/brace/account/Session$FixedRate", "priced", "()Z"⟩ : MethodName)) hown (mvT hZ (hw _ (List.mem_of_getElem? (i := 7) rfl))) (mvT hZ (hw _ (List.mem_of_getElem? (i := 8) rfl))) (notFace_of_selects (args := #[]) (mvT hZ (hw _ (List.mem_of_getElem? (i := 10) rfl)))) (mvT hZ (hw _ (List.mem_of_getElem? (i := 10) rfl))) (mvT hZ (hw _ (List.mem_of_getElem? (i := 9) rfl))) (by decide) (backOf (W := 0) (rm2 l Z a0 hw [] w_DUE w_NONE h0 n0 O0 S_NONE) hZ (hw _ (List.mem_of_getElem? (i := 11) rfl)) (hw _ (List.mem_of_getElem? (i := 5) rfl)) (by decide) (by decide)) q179a q179c (g := (mkF m 95 #[iv pi0, iv pi1, iv (1 : Int32), iv (1 : Int32), rv w_DUE, iv (1 : Int32), iv (1 : Int32), .unset] [(.ref w_DUE)])) rfl (by rw [hml]; rfl) (Steps.refl _) (argsL := []) (rest := []) (lenOf pd___Z rfl) rfl (by show 2 * 0 + _ ≤ _; exact Nat.le_of_eq rfl) (hb hby at_95) (fun _ _ => ⟨rfl, e176q, (by decide : 0 + 0 ≤ _), (by decide : 0 + 0 ≤ _)⟩)
      dsimp only [Pt.U, Pt.locs, Pt.cells, Pt.slots] at X179 l179 y179 z179 st179 hQ179
      subst l179 y179 z179
      obtain ⟨hv179, N179q, e179q⟩ := hQ179
      have N180 := Fr.app N177 N179q
      have hw179 : v179 = some (.int (1 : Int32)) := by rw [hv179, if_neg ne_DUE_NONE]
      subst hw179
      have pre181 : ∀ t, Steps p.tables e below (T179.setTop (mkF m 98 #[iv pi0, iv pi1, iv (1 : Int32), iv (1 : Int32), rv w_DUE, iv (1 : Int32), iv (1 : Int32), .unset] [(.int (1 : Int32))])) t → Go t := fun t kt => pre178 t (st179.trans kt)
      have pre182 : ∀ t, Steps p.tables e below (T179.setTop (mkF m 111 #[iv pi0, iv pi1, iv (1 : Int32), iv (1 : Int32), rv w_DUE, iv (1 : Int32), iv (1 : Int32), iv (1 : Int32)] [(.int (1 : Int32))])) t → Go t := fun t kt => pre181 t (by
          refine y_istore X179.here hx (hb hby at_98) (l' := #[iv pi0, iv pi1, iv (1 : Int32), iv (1 : Int32), rv w_DUE, iv (1 : Int32), iv (1 : Int32), iv (1 : Int32)]) rfl (pc' := 100) rfl ?_
          refine y_iload X179.here hx (hb hby at_100) rfl (pc' := 102) rfl ?_
          refine y_iloadN X179.here hx (hb hby at_102) rfl (pc' := 103) rfl ?_
          refine y_icmpNo X179.here hx (hb hby at_103) (teq (rfl : (1 : Int32) = (1 : Int32))).2 (pc' := 106) rfl ?_
          refine y_iconst X179.here hx (hb hby at_106) (v := (1 : Int32)) rfl (pc' := 107) rfl ?_
          refine y_goto X179.here hx (hb hby at_107) (pc' := 111) (by decide) rfl ?_
          exact kt)
      obtain ⟨fs, hr, hrun, hended, hW, hsame⟩ := X179.leave (v := some (.int (1 : Int32))) (fun h => by rw [Bd.returns] at h; cases h)
      refine ⟨_, _, (hGo _).mp (pre182 _ ?_), hrun, hended, _, _, rfl, ?_, ⟨_, rfl⟩, hW, hsame.mono (by decide) (by decide)⟩
      · exact retN X179 hx (t := .boolean) Bd.returns (by simp) (hb hby at_111) hr
      · show Q0 Z pi0 pi1 w_UNRATED w_DUE w_SETTLED w_NONE h0 n0 _ T179.heap _
        rw [e179q]
        exact ⟨rfl, N180⟩
    · skip
      have pre183 : ∀ t, Steps p.tables e below (s₁.setTop (mkF m 17 #[iv pi0, iv pi1, iv (2 : Int32), iv (1 : Int32), .unset, .unset, .unset, .unset] [(.int (2 : Int32))])) t → Go t := fun t kt => pre123 t (by
          refine y_iloadN X0.here hx (hb hby at_16) rfl (pc' := 17) rfl ?_
          exact kt)
      obtain ⟨v184, _, ⟨T184, L184, k184, n184⟩, -, X184, ⟨Lc184, hQ184, l184, y184, z184⟩, st184⟩ := Jvm.LawKit.callS X0 hx (y := (⟨"com/example/brace/brace/account/FixedRatePricedPinLaw", "pick", "(I)Lcom/example/brace/brace/account/Session$FixedRate;"⟩ : MethodName)) hown (mvT hZ (hw _ (List.mem_of_getElem? (i := 0) rfl))) (mvT hZ (hw _ (List.mem_of_getElem? (i := 1) rfl))) (mvT hZ (hw _ (List.mem_of_getElem? (i := 2) rfl))) (mvT hZ (hw _ (List.mem_of_getElem? (i := 3) rfl))) (by decide) (backOf (W := 0) (rm1 l Z a0 hw [] (2 : Int32) w_UNRATED w_DUE w_SETTLED w_NONE h0 n0 O0 S_UNRATED S_DUE S_SETTLED S_NONE) hZ (hw _ (List.mem_of_getElem? (i := 3) rfl)) (hw _ (List.mem_of_getElem? (i := 2) rfl)) (by decide) (by decide)) (g := (mkF m 17 #[iv pi0, iv pi1, iv (2 : Int32), iv (1 : Int32), .unset, .unset, .unset, .unset] [(.int (2 : Int32))])) rfl (by rw [hml]; rfl) (argsL := [(.int (2 : Int32))]) (rest := []) (lenOf pd__I_Lcom_example_brace_brace_account_Session_FixedRate_ rfl) rfl (by show 2 * 0 + _ ≤ _; exact Nat.le_of_eq rfl) (hb hby at_17) (fun _ _ => ⟨rfl, e0, (by decide : 0 + 0 ≤ _), (by decide : 0 + 0 ≤ _)⟩)
      dsimp only [Pt.U, Pt.locs, Pt.cells, Pt.slots] at X184 l184 y184 z184 st184 hQ184
      subst l184 y184 z184
      obtain ⟨hv184, N184q, e184q⟩ := hQ184
      have N185 := Fr.app N0 N184q
      have hw184 : v184 = some (.ref w_SETTLED) := by rw [hv184, if_neg (by decide : ¬ ((2 : Int32) = (0 : Int32))), if_neg (by decide : ¬ ((2 : Int32) = (1 : Int32))), if_pos (rfl : (2 : Int32) = (2 : Int32))]
      subst hw184
      have pre186 : ∀ t, Steps p.tables e below (T184.setTop (mkF m 20 #[iv pi0, iv pi1, iv (2 : Int32), iv (1 : Int32), .unset, .unset, .unset, .unset] [(.ref w_SETTLED)])) t → Go t := fun t kt => pre183 t (st184 t kt)
      have pre187 : ∀ t, Steps p.tables e below (T184.setTop (mkF m 24 #[iv pi0, iv pi1, iv (2 : Int32), iv (1 : Int32), rv w_SETTLED, .unset, .unset, .unset] [(.ref w_SETTLED)])) t → Go t := fun t kt => pre186 t (by
          refine y_astore X184.here hx (hb hby at_20) rfl (l' := #[iv pi0, iv pi1, iv (2 : Int32), iv (1 : Int32), rv w_SETTLED, .unset, .unset, .unset]) rfl (pc' := 22) rfl ?_
          refine y_aload X184.here hx (hb hby at_22) rfl rfl (pc' := 24) rfl ?_
          exact kt)
      obtain ⟨cq188, kq188, q188a, q188b, q188c⟩ := isOf hZ e184q (E_w_SETTLED.ext O0.2)
      obtain ⟨v188, _, ⟨T188, L188, k188, n188⟩, -, X188, ⟨Lc188, hQ188, l188, y188, z188⟩, st188⟩ := X184.virtualBack hx (y := (⟨"com/example/brace/brace/account/Session$FixedRate", "priced", "()Z"⟩ : MethodName)) (z := (⟨"com/example/brace/brace/account/Session$FixedRate", "priced", "()Z"⟩ : MethodName)) hown (mvT hZ (hw _ (List.mem_of_getElem? (i := 7) rfl))) (mvT hZ (hw _ (List.mem_of_getElem? (i := 8) rfl))) (notFace_of_selects (args := #[]) (mvT hZ (hw _ (List.mem_of_getElem? (i := 10) rfl)))) (mvT hZ (hw _ (List.mem_of_getElem? (i := 10) rfl))) (mvT hZ (hw _ (List.mem_of_getElem? (i := 9) rfl))) (by decide) (backOf (W := 0) (rm2 l Z a0 hw [] w_SETTLED w_NONE h0 n0 O0 S_NONE) hZ (hw _ (List.mem_of_getElem? (i := 11) rfl)) (hw _ (List.mem_of_getElem? (i := 5) rfl)) (by decide) (by decide)) q188a q188c (g := (mkF m 24 #[iv pi0, iv pi1, iv (2 : Int32), iv (1 : Int32), rv w_SETTLED, .unset, .unset, .unset] [(.ref w_SETTLED)])) rfl (by rw [hml]; rfl) (Steps.refl _) (argsL := []) (rest := []) (lenOf pd___Z rfl) rfl (by show 2 * 0 + _ ≤ _; exact Nat.le_of_eq rfl) (hb hby at_24) (fun _ _ => ⟨rfl, e184q, (by decide : 0 + 0 ≤ _), (by decide : 0 + 0 ≤ _)⟩)
      dsimp only [Pt.U, Pt.locs, Pt.cells, Pt.slots] at X188 l188 y188 z188 st188 hQ188
      subst l188 y188 z188
      obtain ⟨hv188, N188q, e188q⟩ := hQ188
      have N189 := Fr.app N185 N188q
      have hw188 : v188 = some (.int (1 : Int32)) := by rw [hv188, if_neg ne_SETTLED_NONE]
      subst hw188
      have pre190 : ∀ t, Steps p.tables e below (T188.setTop (mkF m 27 #[iv pi0, iv pi1, iv (2 : Int32), iv (1 : Int32), rv w_SETTLED, .unset, .unset, .unset] [(.int (1 : Int32))])) t → Go t := fun t kt => pre187 t (st188.trans kt)
      have pre191 : ∀ t, Steps p.tables e below (T188.setTop (mkF m 54 #[iv pi0, iv pi1, iv (2 : Int32), iv (1 : Int32), rv w_SETTLED, iv (1 : Int32), iv (1 : Int32), .unset] [(.ref w_SETTLED), (.int (1 : Int32))])) t → Go t := fun t kt => pre190 t (by
          refine y_istore X188.here hx (hb hby at_27) (l' := #[iv pi0, iv pi1, iv (2 : Int32), iv (1 : Int32), rv w_SETTLED, iv (1 : Int32), .unset, .unset]) rfl (pc' := 29) rfl ?_
          refine y_iloadN X188.here hx (hb hby at_29) rfl (pc' := 30) rfl ?_
          refine y_iconst X188.here hx (hb hby at_30) (v := (3 : Int32)) rfl (pc' := 31) rfl ?_
          refine y_icmpNo X188.here hx (hb hby at_31) (feq (by decide : ¬ ((2 : Int32) = (3 : Int32)))).1 (pc' := 34) rfl ?_
          refine y_iconst X188.here hx (hb hby at_34) (v := (1 : Int32)) rfl (pc' := 35) rfl ?_
          refine y_goto X188.here hx (hb hby at_35) (pc' := 39) (by decide) rfl ?_
          refine y_istore X188.here hx (hb hby at_39) (l' := #[iv pi0, iv pi1, iv (2 : Int32), iv (1 : Int32), rv w_SETTLED, iv (1 : Int32), iv (1 : Int32), .unset]) rfl (pc' := 41) rfl ?_
          refine y_iload X188.here hx (hb hby at_41) rfl (pc' := 43) rfl ?_
          refine y_iload X188.here hx (hb hby at_43) rfl (pc' := 45) rfl ?_
          refine y_icmpYes X188.here hx (hb hby at_45) (teq (rfl : (1 : Int32) = (1 : Int32))).1 (pc' := 50) (by decide) rfl ?_
          refine y_iload X188.here hx (hb hby at_50) rfl (pc' := 52) rfl ?_
          refine y_aload X188.here hx (hb hby at_52) rfl rfl (pc' := 54) rfl ?_
          exact kt)
      obtain ⟨cq192, kq192, q192a, q192b, q192c⟩ := isOf hZ e188q (E_w_SETTLED.ext O0.2)
      obtain ⟨v192, _, ⟨T192, L192, k192, n192⟩, -, X192, ⟨Lc192, hQ192, l192, y192, z192⟩, st192⟩ := X188.virtualBack hx (y := (⟨"com/example/brace/brace/account/Session$FixedRate", "afterCharge", "()Lcom/example/brace/brace/account/Session$FixedRate;"⟩ : MethodName)) (z := (⟨"com/example/brace/brace/account/Session$FixedRate", "afterCharge", "()Lcom/example/brace/brace/account/Session$FixedRate;"⟩ : MethodName)) hown (mvT hZ (hw _ (List.mem_of_getElem? (i := 14) rfl))) (mvT hZ (hw _ (List.mem_of_getElem? (i := 15) rfl))) (notFace_of_selects (args := #[]) (mvT hZ (hw _ (List.mem_of_getElem? (i := 17) rfl)))) (mvT hZ (hw _ (List.mem_of_getElem? (i := 17) rfl))) (mvT hZ (hw _ (List.mem_of_getElem? (i := 16) rfl))) (by decide) (backOf (W := 1) (rm3 l Z a0 hw [] w_SETTLED w_SETTLED w_NONE h0 n0 O0 S_SETTLED S_NONE) hZ (hw _ (List.mem_of_getElem? (i := 18) rfl)) (hw _ (List.mem_of_getElem? (i := 5) rfl)) (by decide) (by decide)) q192a q192c (g := (mkF m 54 #[iv pi0, iv pi1, iv (2 : Int32), iv (1 : Int32), rv w_SETTLED, iv (1 : Int32), iv (1 : Int32), .unset] [(.ref w_SETTLED), (.int (1 : Int32))])) rfl (by rw [hml]; rfl) (Steps.refl _) (argsL := []) (rest := [(.int (1 : Int32))]) (lenOf pd___Lcom_example_brace_brace_account_Session_FixedRate_ rfl) rfl (by show 2 * 0 + _ ≤ _; exact Nat.le_of_eq rfl) (hb hby at_54) (fun _ _ => ⟨rfl, e188q, (by decide : 0 + 0 ≤ _), (by decide : 0 + 0 ≤ _)⟩)
      dsimp only [Pt.U, Pt.locs, Pt.cells, Pt.slots] at X192 l192 y192 z192 st192 hQ192
      subst l192 y192 z192
      obtain ⟨hv192, N192q, e192q⟩ := hQ192
      have N193 := Fr.app N189 N192q
      have hw192 : v192 = some (.ref w_SETTLED) := by rw [hv192, if_neg ne_SETTLED_NONE]
      subst hw192
      have pre194 : ∀ t, Steps p.tables e below (T192.setTop (mkF m 57 #[iv pi0, iv pi1, iv (2 : Int32), iv (1 : Int32), rv w_SETTLED, iv (1 : Int32), iv (1 : Int32), .unset] [(.ref w_SETTLED), (.int (1 : Int32))])) t → Go t := fun t kt => pre191 t (st192.trans kt)
      obtain ⟨T195, X195, e195, st195⟩ := getS2 X192 hx hZ hown (host := "") (Or.inl (hw _ (List.mem_of_getElem? (i := 21) rfl))) Via.refl e192q (S_NONE.ext O0.2) (g := (mkF m 57 #[iv pi0, iv pi1, iv (2 : Int32), iv (1 : Int32), rv w_SETTLED, iv (1 : Int32), iv (1 : Int32), .unset] [(.ref w_SETTLED), (.int (1 : Int32))])) rfl (hb hby at_57)
      have pre196 : ∀ t, Steps p.tables e below (T195.setTop (mkF m 60 #[iv pi0, iv pi1, iv (2 : Int32), iv (1 : Int32), rv w_SETTLED, iv (1 : Int32), iv (1 : Int32), .unset] [(.ref w_NONE), (.ref w_SETTLED), (.int (1 : Int32))])) t → Go t := fun t kt => pre194 t (st195 t kt)
      have pre197 : ∀ t, Steps p.tables e below (T195.setTop (mkF m 75 #[iv pi0, iv pi1, iv (2 : Int32), iv (1 : Int32), rv w_SETTLED, iv (1 : Int32), iv (1 : Int32), .unset] [(.ref w_SETTLED)])) t → Go t := fun t kt => pre196 t (by
          refine Jvm.RoadKit.acmp (g := (mkF m 60 #[iv pi0, iv pi1, iv (2 : Int32), iv (1 : Int32), rv w_SETTLED, iv (1 : Int32), iv (1 : Int32), .unset] [(.ref w_NONE), (.ref w_SETTLED), (.int (1 : Int32))])) X195 hx rfl rfl rfl (pc0 := 60) (pc' := 63) (same := false) rfl (hb hby at_60) rfl (decide_eq_false fun q => ne_SETTLED_NONE (Value.ref.inj q)) (by decide) (by decide) ?_
          show Steps p.tables e below (T195.setTop (mkF m 63 #[iv pi0, iv pi1, iv (2 : Int32), iv (1 : Int32), rv w_SETTLED, iv (1 : Int32), iv (1 : Int32), .unset] [(.int (1 : Int32))])) _
          refine y_iconst X195.here hx (hb hby at_63) (v := (1 : Int32)) rfl (pc' := 64) rfl ?_
          refine y_goto X195.here hx (hb hby at_64) (pc' := 68) (by decide) rfl ?_
          refine y_icmpYes X195.here hx (hb hby at_68) (teq (rfl : (1 : Int32) = (1 : Int32))).1 (pc' := 73) (by decide) rfl ?_
          refine y_aload X195.here hx (hb hby at_73) rfl rfl (pc' := 75) rfl ?_
          exact kt)
      obtain ⟨cq198, kq198, q198a, q198b, q198c⟩ := isOf hZ e195 (E_w_SETTLED.ext O0.2)
      obtain ⟨v198, _, ⟨T198, L198, k198, n198⟩, -, X198, ⟨Lc198, hQ198, l198, y198, z198⟩, st198⟩ := X195.virtualBack hx (y := (⟨"com/example/brace/brace/account/Session$FixedRate", "settled", "()Z"⟩ : MethodName)) (z := (⟨"com/example/brace/brace/account/Session$FixedRate", "settled", "()Z"⟩ : MethodName)) hown (mvT hZ (hw _ (List.mem_of_getElem? (i := 22) rfl))) (mvT hZ (hw _ (List.mem_of_getElem? (i := 23) rfl))) (notFace_of_selects (args := #[]) (mvT hZ (hw _ (List.mem_of_getElem? (i := 25) rfl)))) (mvT hZ (hw _ (List.mem_of_getElem? (i := 25) rfl))) (mvT hZ (hw _ (List.mem_of_getElem? (i := 24) rfl))) (by decide) (backOf (W := 0) (rm4 l Z a0 hw [] w_SETTLED w_SETTLED h0 n0 O0 S_SETTLED) hZ (hw _ (List.mem_of_getElem? (i := 26) rfl)) (hw _ (List.mem_of_getElem? (i := 5) rfl)) (by decide) (by decide)) q198a q198c (g := (mkF m 75 #[iv pi0, iv pi1, iv (2 : Int32), iv (1 : Int32), rv w_SETTLED, iv (1 : Int32), iv (1 : Int32), .unset] [(.ref w_SETTLED)])) rfl (by rw [hml]; rfl) (Steps.refl _) (argsL := []) (rest := []) (lenOf pd___Z rfl) rfl (by show 2 * 0 + _ ≤ _; exact Nat.le_of_eq rfl) (hb hby at_75) (fun _ _ => ⟨rfl, e195, (by decide : 0 + 0 ≤ _), (by decide : 0 + 0 ≤ _)⟩)
      dsimp only [Pt.U, Pt.locs, Pt.cells, Pt.slots] at X198 l198 y198 z198 st198 hQ198
      subst l198 y198 z198
      obtain ⟨hv198, N198q, e198q⟩ := hQ198
      have N199 := Fr.app N193 N198q
      have hw198 : v198 = some (.int (1 : Int32)) := by rw [hv198, if_pos (rfl : w_SETTLED = w_SETTLED)]
      subst hw198
      have pre200 : ∀ t, Steps p.tables e below (T198.setTop (mkF m 78 #[iv pi0, iv pi1, iv (2 : Int32), iv (1 : Int32), rv w_SETTLED, iv (1 : Int32), iv (1 : Int32), .unset] [(.int (1 : Int32))])) t → Go t := fun t kt => pre197 t (st198.trans kt)
      have pre201 : ∀ t, Steps p.tables e below (T198.setTop (mkF m 88 #[iv pi0, iv pi1, iv (2 : Int32), iv (1 : Int32), rv w_SETTLED, iv (1 : Int32), iv (1 : Int32), .unset] [])) t → Go t := fun t kt => pre200 t (by
          refine y_ifNo X198.here hx (hb hby at_78) ((if0 _ _).trans (feq (by decide : ¬ ((1 : Int32) = (0 : Int32)))).1) (pc' := 81) rfl ?_
          refine y_iload X198.here hx (hb hby at_81) rfl (pc' := 83) rfl ?_
          refine y_ifYes X198.here hx (hb hby at_83) ((if0 _ _).trans (feq (by decide : ¬ ((1 : Int32) = (0 : Int32)))).2) (pc' := 88) (by decide) rfl ?_
          exact kt)
      obtain ⟨T202, X202, e202, st202⟩ := getS2 X198 hx hZ hown (host := "") (Or.inl (hw _ (List.mem_of_getElem? (i := 4) rfl))) Via.refl e198q (S_UNRATED.ext O0.2) (g := (mkF m 88 #[iv pi0, iv pi1, iv (2 : Int32), iv (1 : Int32), rv w_SETTLED, iv (1 : Int32), iv (1 : Int32), .unset] [])) rfl (hb hby at_88)
      have pre203 : ∀ t, Steps p.tables e below (T202.setTop (mkF m 91 #[iv pi0, iv pi1, iv (2 : Int32), iv (1 : Int32), rv w_SETTLED, iv (1 : Int32), iv (1 : Int32), .unset] [(.ref w_UNRATED)])) t → Go t := fun t kt => pre201 t (st202 t kt)
      have pre204 : ∀ t, Steps p.tables e below (T202.setTop (mkF m 92 #[iv pi0, iv pi1, iv (2 : Int32), iv (1 : Int32), rv w_SETTLED, iv (1 : Int32), iv (1 : Int32), .unset] [(.int (1 : Int32)), (.ref w_UNRATED)])) t → Go t := fun t kt => pre203 t (by
          refine y_iloadN X202.here hx (hb hby at_91) rfl (pc' := 92) rfl ?_
          exact kt)
      obtain ⟨cq205, kq205, q205a, q205b, q205c⟩ := isOf hZ e202 (E_w_UNRATED.ext O0.2)
      obtain ⟨v205, _, ⟨T205, L205, k205, n205⟩, -, X205, ⟨Lc205, hQ205, l205, y205, z205⟩, st205⟩ := X202.virtualBack hx (y := (⟨"com/example/brace/brace/account/Session$FixedRate", "afterReservation", "(Z)Lcom/example/brace/brace/account/Session$FixedRate;"⟩ : MethodName)) (z := (⟨"com/example/brace/brace/account/Session$FixedRate", "afterReservation", "(Z)Lcom/example/brace/brace/account/Session$FixedRate;"⟩ : MethodName)) hown (mvT hZ (hw _ (List.mem_of_getElem? (i := 27) rfl))) (mvT hZ (hw _ (List.mem_of_getElem? (i := 28) rfl))) (notFace_of_selects (args := #[]) (mvT hZ (hw _ (List.mem_of_getElem? (i := 30) rfl)))) (mvT hZ (hw _ (List.mem_of_getElem? (i := 30) rfl))) (mvT hZ (hw _ (List.mem_of_getElem? (i := 29) rfl))) (by decide) (backOf (W := 0) (rm5 l Z a0 hw [] w_UNRATED (1 : Int32) w_UNRATED w_DUE w_NONE h0 n0 O0 S_UNRATED S_DUE S_NONE) hZ (hw _ (List.mem_of_getElem? (i := 31) rfl)) (hw _ (List.mem_of_getElem? (i := 5) rfl)) (by decide) (by decide)) q205a q205c (g := (mkF m 92 #[iv pi0, iv pi1, iv (2 : Int32), iv (1 : Int32), rv w_SETTLED, iv (1 : Int32), iv (1 : Int32), .unset] [(.int (1 : Int32)), (.ref w_UNRATED)])) rfl (by rw [hml]; rfl) (Steps.refl _) (argsL := [(.int (1 : Int32))]) (rest := []) (lenOf pd__Z_Lcom_example_brace_brace_account_Session_FixedRate_ rfl) rfl (by show 2 * 0 + _ ≤ _; exact Nat.le_of_eq rfl) (hb hby at_92) (fun _ _ => ⟨rfl, e202, (by decide : 0 + 0 ≤ _), (by decide : 0 + 0 ≤ _)⟩)
      dsimp only [Pt.U, Pt.locs, Pt.cells, Pt.slots] at X205 l205 y205 z205 st205 hQ205
      subst l205 y205 z205
      obtain ⟨hv205, N205q, e205q⟩ := hQ205
      have N206 := Fr.app N199 N205q
      have hw205 : v205 = some (.ref w_DUE) := by rw [hv205, if_pos (rfl : w_UNRATED = w_UNRATED), if_neg (by decide : ¬ ((1 : Int32) = (0 : Int32)))]
      subst hw205
      have pre207 : ∀ t, Steps p.tables e below (T205.setTop (mkF m 95 #[iv pi0, iv pi1, iv (2 : Int32), iv (1 : Int32), rv w_SETTLED, iv (1 : Int32), iv (1 : Int32), .unset] [(.ref w_DUE)])) t → Go t := fun t kt => pre204 t (st205.trans kt)
      obtain ⟨cq208, kq208, q208a, q208b, q208c⟩ := isOf hZ e205q (E_w_DUE.ext O0.2)
      obtain ⟨v208, _, ⟨T208, L208, k208, n208⟩, -, X208, ⟨Lc208, hQ208, l208, y208, z208⟩, st208⟩ := X205.virtualBack hx (y := (⟨"com/example/brace/brace/account/Session$FixedRate", "priced", "()Z"⟩ : MethodName)) (z := (⟨"com/example/brace/brace/account/Session$FixedRate", "priced", "()Z"⟩ : MethodName)) hown (mvT hZ (hw _ (List.mem_of_getElem? (i := 7) rfl))) (mvT hZ (hw _ (List.mem_of_getElem? (i := 8) rfl))) (notFace_of_selects (args := #[]) (mvT hZ (hw _ (List.mem_of_getElem? (i := 10) rfl)))) (mvT hZ (hw _ (List.mem_of_getElem? (i := 10) rfl))) (mvT hZ (hw _ (List.mem_of_getElem? (i := 9) rfl))) (by decide) (backOf (W := 0) (rm2 l Z a0 hw [] w_DUE w_NONE h0 n0 O0 S_NONE) hZ (hw _ (List.mem_of_getElem? (i := 11) rfl)) (hw _ (List.mem_of_getElem? (i := 5) rfl)) (by decide) (by decide)) q208a q208c (g := (mkF m 95 #[iv pi0, iv pi1, iv (2 : Int32), iv (1 : Int32), rv w_SETTLED, iv (1 : Int32), iv (1 : Int32), .unset] [(.ref w_DUE)])) rfl (by rw [hml]; rfl) (Steps.refl _) (argsL := []) (rest := []) (lenOf pd___Z rfl) rfl (by show 2 * 0 + _ ≤ _; exact Nat.le_of_eq rfl) (hb hby at_95) (fun _ _ => ⟨rfl, e205q, (by decide : 0 + 0 ≤ _), (by decide : 0 + 0 ≤ _)⟩)
      dsimp only [Pt.U, Pt.locs, Pt.cells, Pt.slots] at X208 l208 y208 z208 st208 hQ208
      subst l208 y208 z208
      obtain ⟨hv208, N208q, e208q⟩ := hQ208
      have N209 := Fr.app N206 N208q
      have hw208 : v208 = some (.int (1 : Int32)) := by rw [hv208, if_neg ne_DUE_NONE]
      subst hw208
      have pre210 : ∀ t, Steps p.tables e below (T208.setTop (mkF m 98 #[iv pi0, iv pi1, iv (2 : Int32), iv (1 : Int32), rv w_SETTLED, iv (1 : Int32), iv (1 : Int32), .unset] [(.int (1 : Int32))])) t → Go t := fun t kt => pre207 t (st208.trans kt)
      have pre211 : ∀ t, Steps p.tables e below (T208.setTop (mkF m 111 #[iv pi0, iv pi1, iv (2 : Int32), iv (1 : Int32), rv w_SETTLED, iv (1 : Int32), iv (1 : Int32), iv (1 : Int32)] [(.int (1 : Int32))])) t → Go t := fun t kt => pre210 t (by
          refine y_istore X208.here hx (hb hby at_98) (l' := #[iv pi0, iv pi1, iv (2 : Int32), iv (1 : Int32), rv w_SETTLED, iv (1 : Int32), iv (1 : Int32), iv (1 : Int32)]) rfl (pc' := 100) rfl ?_
          refine y_iload X208.here hx (hb hby at_100) rfl (pc' := 102) rfl ?_
          refine y_iloadN X208.here hx (hb hby at_102) rfl (pc' := 103) rfl ?_
          refine y_icmpNo X208.here hx (hb hby at_103) (teq (rfl : (1 : Int32) = (1 : Int32))).2 (pc' := 106) rfl ?_
          refine y_iconst X208.here hx (hb hby at_106) (v := (1 : Int32)) rfl (pc' := 107) rfl ?_
          refine y_goto X208.here hx (hb hby at_107) (pc' := 111) (by decide) rfl ?_
          exact kt)
      obtain ⟨fs, hr, hrun, hended, hW, hsame⟩ := X208.leave (v := some (.int (1 : Int32))) (fun h => by rw [Bd.returns] at h; cases h)
      refine ⟨_, _, (hGo _).mp (pre211 _ ?_), hrun, hended, _, _, rfl, ?_, ⟨_, rfl⟩, hW, hsame.mono (by decide) (by decide)⟩
      · exact retN X208 hx (t := .boolean) Bd.returns (by simp) (hb hby at_111) hr
      · show Q0 Z pi0 pi1 w_UNRATED w_DUE w_SETTLED w_NONE h0 n0 _ T208.heap _
        rw [e208q]
        exact ⟨rfl, N209⟩
    · skip
      have pre212 : ∀ t, Steps p.tables e below (s₁.setTop (mkF m 17 #[iv pi0, iv pi1, iv (3 : Int32), iv (1 : Int32), .unset, .unset, .unset, .unset] [(.int (3 : Int32))])) t → Go t := fun t kt => pre123 t (by
          refine y_iloadN X0.here hx (hb hby at_16) rfl (pc' := 17) rfl ?_
          exact kt)
      obtain ⟨v213, _, ⟨T213, L213, k213, n213⟩, -, X213, ⟨Lc213, hQ213, l213, y213, z213⟩, st213⟩ := Jvm.LawKit.callS X0 hx (y := (⟨"com/example/brace/brace/account/FixedRatePricedPinLaw", "pick", "(I)Lcom/example/brace/brace/account/Session$FixedRate;"⟩ : MethodName)) hown (mvT hZ (hw _ (List.mem_of_getElem? (i := 0) rfl))) (mvT hZ (hw _ (List.mem_of_getElem? (i := 1) rfl))) (mvT hZ (hw _ (List.mem_of_getElem? (i := 2) rfl))) (mvT hZ (hw _ (List.mem_of_getElem? (i := 3) rfl))) (by decide) (backOf (W := 0) (rm1 l Z a0 hw [] (3 : Int32) w_UNRATED w_DUE w_SETTLED w_NONE h0 n0 O0 S_UNRATED S_DUE S_SETTLED S_NONE) hZ (hw _ (List.mem_of_getElem? (i := 3) rfl)) (hw _ (List.mem_of_getElem? (i := 2) rfl)) (by decide) (by decide)) (g := (mkF m 17 #[iv pi0, iv pi1, iv (3 : Int32), iv (1 : Int32), .unset, .unset, .unset, .unset] [(.int (3 : Int32))])) rfl (by rw [hml]; rfl) (argsL := [(.int (3 : Int32))]) (rest := []) (lenOf pd__I_Lcom_example_brace_brace_account_Session_FixedRate_ rfl) rfl (by show 2 * 0 + _ ≤ _; exact Nat.le_of_eq rfl) (hb hby at_17) (fun _ _ => ⟨rfl, e0, (by decide : 0 + 0 ≤ _), (by decide : 0 + 0 ≤ _)⟩)
      dsimp only [Pt.U, Pt.locs, Pt.cells, Pt.slots] at X213 l213 y213 z213 st213 hQ213
      subst l213 y213 z213
      obtain ⟨hv213, N213q, e213q⟩ := hQ213
      have N214 := Fr.app N0 N213q
      have hw213 : v213 = some (.ref w_NONE) := by rw [hv213, if_neg (by decide : ¬ ((3 : Int32) = (0 : Int32))), if_neg (by decide : ¬ ((3 : Int32) = (1 : Int32))), if_neg (by decide : ¬ ((3 : Int32) = (2 : Int32)))]
      subst hw213
      have pre215 : ∀ t, Steps p.tables e below (T213.setTop (mkF m 20 #[iv pi0, iv pi1, iv (3 : Int32), iv (1 : Int32), .unset, .unset, .unset, .unset] [(.ref w_NONE)])) t → Go t := fun t kt => pre212 t (st213 t kt)
      have pre216 : ∀ t, Steps p.tables e below (T213.setTop (mkF m 24 #[iv pi0, iv pi1, iv (3 : Int32), iv (1 : Int32), rv w_NONE, .unset, .unset, .unset] [(.ref w_NONE)])) t → Go t := fun t kt => pre215 t (by
          refine y_astore X213.here hx (hb hby at_20) rfl (l' := #[iv pi0, iv pi1, iv (3 : Int32), iv (1 : Int32), rv w_NONE, .unset, .unset, .unset]) rfl (pc' := 22) rfl ?_
          refine y_aload X213.here hx (hb hby at_22) rfl rfl (pc' := 24) rfl ?_
          exact kt)
      obtain ⟨cq217, kq217, q217a, q217b, q217c⟩ := isOf hZ e213q (E_w_NONE.ext O0.2)
      obtain ⟨v217, _, ⟨T217, L217, k217, n217⟩, -, X217, ⟨Lc217, hQ217, l217, y217, z217⟩, st217⟩ := X213.virtualBack hx (y := (⟨"com/example/brace/brace/account/Session$FixedRate", "priced", "()Z"⟩ : MethodName)) (z := (⟨"com/example/brace/brace/account/Session$FixedRate", "priced", "()Z"⟩ : MethodName)) hown (mvT hZ (hw _ (List.mem_of_getElem? (i := 7) rfl))) (mvT hZ (hw _ (List.mem_of_getElem? (i := 8) rfl))) (notFace_of_selects (args := #[]) (mvT hZ (hw _ (List.mem_of_getElem? (i := 10) rfl)))) (mvT hZ (hw _ (List.mem_of_getElem? (i := 10) rfl))) (mvT hZ (hw _ (List.mem_of_getElem? (i := 9) rfl))) (by decide) (backOf (W := 0) (rm2 l Z a0 hw [] w_NONE w_NONE h0 n0 O0 S_NONE) hZ (hw _ (List.mem_of_getElem? (i := 11) rfl)) (hw _ (List.mem_of_getElem? (i := 5) rfl)) (by decide) (by decide)) q217a q217c (g := (mkF m 24 #[iv pi0, iv pi1, iv (3 : Int32), iv (1 : Int32), rv w_NONE, .unset, .unset, .unset] [(.ref w_NONE)])) rfl (by rw [hml]; rfl) (Steps.refl _) (argsL := []) (rest := []) (lenOf pd___Z rfl) rfl (by show 2 * 0 + _ ≤ _; exact Nat.le_of_eq rfl) (hb hby at_24) (fun _ _ => ⟨rfl, e213q, (by decide : 0 + 0 ≤ _), (by decide : 0 + 0 ≤ _)⟩)
      dsimp only [Pt.U, Pt.locs, Pt.cells, Pt.slots] at X217 l217 y217 z217 st217 hQ217
      subst l217 y217 z217
      obtain ⟨hv217, N217q, e217q⟩ := hQ217
      have N218 := Fr.app N214 N217q
      have hw217 : v217 = some (.int (0 : Int32)) := by rw [hv217, if_pos (rfl : w_NONE = w_NONE)]
      subst hw217
      have pre219 : ∀ t, Steps p.tables e below (T217.setTop (mkF m 27 #[iv pi0, iv pi1, iv (3 : Int32), iv (1 : Int32), rv w_NONE, .unset, .unset, .unset] [(.int (0 : Int32))])) t → Go t := fun t kt => pre216 t (st217.trans kt)
      have pre220 : ∀ t, Steps p.tables e below (T217.setTop (mkF m 54 #[iv pi0, iv pi1, iv (3 : Int32), iv (1 : Int32), rv w_NONE, iv (0 : Int32), iv (0 : Int32), .unset] [(.ref w_NONE), (.int (0 : Int32))])) t → Go t := fun t kt => pre219 t (by
          refine y_istore X217.here hx (hb hby at_27) (l' := #[iv pi0, iv pi1, iv (3 : Int32), iv (1 : Int32), rv w_NONE, iv (0 : Int32), .unset, .unset]) rfl (pc' := 29) rfl ?_
          refine y_iloadN X217.here hx (hb hby at_29) rfl (pc' := 30) rfl ?_
          refine y_iconst X217.here hx (hb hby at_30) (v := (3 : Int32)) rfl (pc' := 31) rfl ?_
          refine y_icmpYes X217.here hx (hb hby at_31) (teq (rfl : (3 : Int32) = (3 : Int32))).1 (pc' := 38) (by decide) rfl ?_
          refine y_iconst X217.here hx (hb hby at_38) (v := (0 : Int32)) rfl (pc' := 39) rfl ?_
          refine y_istore X217.here hx (hb hby at_39) (l' := #[iv pi0, iv pi1, iv (3 : Int32), iv (1 : Int32), rv w_NONE, iv (0 : Int32), iv (0 : Int32), .unset]) rfl (pc' := 41) rfl ?_
          refine y_iload X217.here hx (hb hby at_41) rfl (pc' := 43) rfl ?_
          refine y_iload X217.here hx (hb hby at_43) rfl (pc' := 45) rfl ?_
          refine y_icmpYes X217.here hx (hb hby at_45) (teq (rfl : (0 : Int32) = (0 : Int32))).1 (pc' := 50) (by decide) rfl ?_
          refine y_iload X217.here hx (hb hby at_50) rfl (pc' := 52) rfl ?_
          refine y_aload X217.here hx (hb hby at_52) rfl rfl (pc' := 54) rfl ?_
          exact kt)
      obtain ⟨cq221, kq221, q221a, q221b, q221c⟩ := isOf hZ e217q (E_w_NONE.ext O0.2)
      obtain ⟨v221, _, ⟨T221, L221, k221, n221⟩, -, X221, ⟨Lc221, hQ221, l221, y221, z221⟩, st221⟩ := X217.virtualBack hx (y := (⟨"com/example/brace/brace/account/Session$FixedRate", "afterCharge", "()Lcom/example/brace/brace/account/Session$FixedRate;"⟩ : MethodName)) (z := (⟨"com/example/brace/brace/account/Session$FixedRate", "afterCharge", "()Lcom/example/brace/brace/account/Session$FixedRate;"⟩ : MethodName)) hown (mvT hZ (hw _ (List.mem_of_getElem? (i := 14) rfl))) (mvT hZ (hw _ (List.mem_of_getElem? (i := 15) rfl))) (notFace_of_selects (args := #[]) (mvT hZ (hw _ (List.mem_of_getElem? (i := 17) rfl)))) (mvT hZ (hw _ (List.mem_of_getElem? (i := 17) rfl))) (mvT hZ (hw _ (List.mem_of_getElem? (i := 16) rfl))) (by decide) (backOf (W := 1) (rm3 l Z a0 hw [] w_NONE w_SETTLED w_NONE h0 n0 O0 S_SETTLED S_NONE) hZ (hw _ (List.mem_of_getElem? (i := 18) rfl)) (hw _ (List.mem_of_getElem? (i := 5) rfl)) (by decide) (by decide)) q221a q221c (g := (mkF m 54 #[iv pi0, iv pi1, iv (3 : Int32), iv (1 : Int32), rv w_NONE, iv (0 : Int32), iv (0 : Int32), .unset] [(.ref w_NONE), (.int (0 : Int32))])) rfl (by rw [hml]; rfl) (Steps.refl _) (argsL := []) (rest := [(.int (0 : Int32))]) (lenOf pd___Lcom_example_brace_brace_account_Session_FixedRate_ rfl) rfl (by show 2 * 0 + _ ≤ _; exact Nat.le_of_eq rfl) (hb hby at_54) (fun _ _ => ⟨rfl, e217q, (by decide : 0 + 0 ≤ _), (by decide : 0 + 0 ≤ _)⟩)
      dsimp only [Pt.U, Pt.locs, Pt.cells, Pt.slots] at X221 l221 y221 z221 st221 hQ221
      subst l221 y221 z221
      obtain ⟨hv221, N221q, e221q⟩ := hQ221
      have N222 := Fr.app N218 N221q
      have hw221 : v221 = some (.ref w_NONE) := by rw [hv221, if_pos (rfl : w_NONE = w_NONE)]
      subst hw221
      have pre223 : ∀ t, Steps p.tables e below (T221.setTop (mkF m 57 #[iv pi0, iv pi1, iv (3 : Int32), iv (1 : Int32), rv w_NONE, iv (0 : Int32), iv (0 : Int32), .unset] [(.ref w_NONE), (.int (0 : Int32))])) t → Go t := fun t kt => pre220 t (st221.trans kt)
      obtain ⟨T224, X224, e224, st224⟩ := getS2 X221 hx hZ hown (host := "") (Or.inl (hw _ (List.mem_of_getElem? (i := 21) rfl))) Via.refl e221q (S_NONE.ext O0.2) (g := (mkF m 57 #[iv pi0, iv pi1, iv (3 : Int32), iv (1 : Int32), rv w_NONE, iv (0 : Int32), iv (0 : Int32), .unset] [(.ref w_NONE), (.int (0 : Int32))])) rfl (hb hby at_57)
      have pre225 : ∀ t, Steps p.tables e below (T224.setTop (mkF m 60 #[iv pi0, iv pi1, iv (3 : Int32), iv (1 : Int32), rv w_NONE, iv (0 : Int32), iv (0 : Int32), .unset] [(.ref w_NONE), (.ref w_NONE), (.int (0 : Int32))])) t → Go t := fun t kt => pre223 t (st224 t kt)
      have pre226 : ∀ t, Steps p.tables e below (T224.setTop (mkF m 75 #[iv pi0, iv pi1, iv (3 : Int32), iv (1 : Int32), rv w_NONE, iv (0 : Int32), iv (0 : Int32), .unset] [(.ref w_NONE)])) t → Go t := fun t kt => pre225 t (by
          refine Jvm.RoadKit.acmp (g := (mkF m 60 #[iv pi0, iv pi1, iv (3 : Int32), iv (1 : Int32), rv w_NONE, iv (0 : Int32), iv (0 : Int32), .unset] [(.ref w_NONE), (.ref w_NONE), (.int (0 : Int32))])) X224 hx rfl rfl rfl (pc0 := 60) (pc' := 67) (same := true) rfl (hb hby at_60) rfl (decide_eq_true (congrArg Value.ref (rfl : w_NONE = w_NONE))) (by decide) (by decide) ?_
          show Steps p.tables e below (T224.setTop (mkF m 67 #[iv pi0, iv pi1, iv (3 : Int32), iv (1 : Int32), rv w_NONE, iv (0 : Int32), iv (0 : Int32), .unset] [(.int (0 : Int32))])) _
          refine y_iconst X224.here hx (hb hby at_67) (v := (0 : Int32)) rfl (pc' := 68) rfl ?_
          refine y_icmpYes X224.here hx (hb hby at_68) (teq (rfl : (0 : Int32) = (0 : Int32))).1 (pc' := 73) (by decide) rfl ?_
          refine y_aload X224.here hx (hb hby at_73) rfl rfl (pc' := 75) rfl ?_
          exact kt)
      obtain ⟨cq227, kq227, q227a, q227b, q227c⟩ := isOf hZ e224 (E_w_NONE.ext O0.2)
      obtain ⟨v227, _, ⟨T227, L227, k227, n227⟩, -, X227, ⟨Lc227, hQ227, l227, y227, z227⟩, st227⟩ := X224.virtualBack hx (y := (⟨"com/example/brace/brace/account/Session$FixedRate", "settled", "()Z"⟩ : MethodName)) (z := (⟨"com/example/brace/brace/account/Session$FixedRate", "settled", "()Z"⟩ : MethodName)) hown (mvT hZ (hw _ (List.mem_of_getElem? (i := 22) rfl))) (mvT hZ (hw _ (List.mem_of_getElem? (i := 23) rfl))) (notFace_of_selects (args := #[]) (mvT hZ (hw _ (List.mem_of_getElem? (i := 25) rfl)))) (mvT hZ (hw _ (List.mem_of_getElem? (i := 25) rfl))) (mvT hZ (hw _ (List.mem_of_getElem? (i := 24) rfl))) (by decide) (backOf (W := 0) (rm4 l Z a0 hw [] w_NONE w_SETTLED h0 n0 O0 S_SETTLED) hZ (hw _ (List.mem_of_getElem? (i := 26) rfl)) (hw _ (List.mem_of_getElem? (i := 5) rfl)) (by decide) (by decide)) q227a q227c (g := (mkF m 75 #[iv pi0, iv pi1, iv (3 : Int32), iv (1 : Int32), rv w_NONE, iv (0 : Int32), iv (0 : Int32), .unset] [(.ref w_NONE)])) rfl (by rw [hml]; rfl) (Steps.refl _) (argsL := []) (rest := []) (lenOf pd___Z rfl) rfl (by show 2 * 0 + _ ≤ _; exact Nat.le_of_eq rfl) (hb hby at_75) (fun _ _ => ⟨rfl, e224, (by decide : 0 + 0 ≤ _), (by decide : 0 + 0 ≤ _)⟩)
      dsimp only [Pt.U, Pt.locs, Pt.cells, Pt.slots] at X227 l227 y227 z227 st227 hQ227
      subst l227 y227 z227
      obtain ⟨hv227, N227q, e227q⟩ := hQ227
      have N228 := Fr.app N222 N227q
      have hw227 : v227 = some (.int (0 : Int32)) := by rw [hv227, if_neg (Ne.symm ne_SETTLED_NONE)]
      subst hw227
      have pre229 : ∀ t, Steps p.tables e below (T227.setTop (mkF m 78 #[iv pi0, iv pi1, iv (3 : Int32), iv (1 : Int32), rv w_NONE, iv (0 : Int32), iv (0 : Int32), .unset] [(.int (0 : Int32))])) t → Go t := fun t kt => pre226 t (st227.trans kt)
      have pre230 : ∀ t, Steps p.tables e below (T227.setTop (mkF m 88 #[iv pi0, iv pi1, iv (3 : Int32), iv (1 : Int32), rv w_NONE, iv (0 : Int32), iv (0 : Int32), .unset] [])) t → Go t := fun t kt => pre229 t (by
          refine y_ifYes X227.here hx (hb hby at_78) ((if0 _ _).trans (teq (rfl : (0 : Int32) = (0 : Int32))).1) (pc' := 88) (by decide) rfl ?_
          exact kt)
      obtain ⟨T231, X231, e231, st231⟩ := getS2 X227 hx hZ hown (host := "") (Or.inl (hw _ (List.mem_of_getElem? (i := 4) rfl))) Via.refl e227q (S_UNRATED.ext O0.2) (g := (mkF m 88 #[iv pi0, iv pi1, iv (3 : Int32), iv (1 : Int32), rv w_NONE, iv (0 : Int32), iv (0 : Int32), .unset] [])) rfl (hb hby at_88)
      have pre232 : ∀ t, Steps p.tables e below (T231.setTop (mkF m 91 #[iv pi0, iv pi1, iv (3 : Int32), iv (1 : Int32), rv w_NONE, iv (0 : Int32), iv (0 : Int32), .unset] [(.ref w_UNRATED)])) t → Go t := fun t kt => pre230 t (st231 t kt)
      have pre233 : ∀ t, Steps p.tables e below (T231.setTop (mkF m 92 #[iv pi0, iv pi1, iv (3 : Int32), iv (1 : Int32), rv w_NONE, iv (0 : Int32), iv (0 : Int32), .unset] [(.int (1 : Int32)), (.ref w_UNRATED)])) t → Go t := fun t kt => pre232 t (by
          refine y_iloadN X231.here hx (hb hby at_91) rfl (pc' := 92) rfl ?_
          exact kt)
      obtain ⟨cq234, kq234, q234a, q234b, q234c⟩ := isOf hZ e231 (E_w_UNRATED.ext O0.2)
      obtain ⟨v234, _, ⟨T234, L234, k234, n234⟩, -, X234, ⟨Lc234, hQ234, l234, y234, z234⟩, st234⟩ := X231.virtualBack hx (y := (⟨"com/example/brace/brace/account/Session$FixedRate", "afterReservation", "(Z)Lcom/example/brace/brace/account/Session$FixedRate;"⟩ : MethodName)) (z := (⟨"com/example/brace/brace/account/Session$FixedRate", "afterReservation", "(Z)Lcom/example/brace/brace/account/Session$FixedRate;"⟩ : MethodName)) hown (mvT hZ (hw _ (List.mem_of_getElem? (i := 27) rfl))) (mvT hZ (hw _ (List.mem_of_getElem? (i := 28) rfl))) (notFace_of_selects (args := #[]) (mvT hZ (hw _ (List.mem_of_getElem? (i := 30) rfl)))) (mvT hZ (hw _ (List.mem_of_getElem? (i := 30) rfl))) (mvT hZ (hw _ (List.mem_of_getElem? (i := 29) rfl))) (by decide) (backOf (W := 0) (rm5 l Z a0 hw [] w_UNRATED (1 : Int32) w_UNRATED w_DUE w_NONE h0 n0 O0 S_UNRATED S_DUE S_NONE) hZ (hw _ (List.mem_of_getElem? (i := 31) rfl)) (hw _ (List.mem_of_getElem? (i := 5) rfl)) (by decide) (by decide)) q234a q234c (g := (mkF m 92 #[iv pi0, iv pi1, iv (3 : Int32), iv (1 : Int32), rv w_NONE, iv (0 : Int32), iv (0 : Int32), .unset] [(.int (1 : Int32)), (.ref w_UNRATED)])) rfl (by rw [hml]; rfl) (Steps.refl _) (argsL := [(.int (1 : Int32))]) (rest := []) (lenOf pd__Z_Lcom_example_brace_brace_account_Session_FixedRate_ rfl) rfl (by show 2 * 0 + _ ≤ _; exact Nat.le_of_eq rfl) (hb hby at_92) (fun _ _ => ⟨rfl, e231, (by decide : 0 + 0 ≤ _), (by decide : 0 + 0 ≤ _)⟩)
      dsimp only [Pt.U, Pt.locs, Pt.cells, Pt.slots] at X234 l234 y234 z234 st234 hQ234
      subst l234 y234 z234
      obtain ⟨hv234, N234q, e234q⟩ := hQ234
      have N235 := Fr.app N228 N234q
      have hw234 : v234 = some (.ref w_DUE) := by rw [hv234, if_pos (rfl : w_UNRATED = w_UNRATED), if_neg (by decide : ¬ ((1 : Int32) = (0 : Int32)))]
      subst hw234
      have pre236 : ∀ t, Steps p.tables e below (T234.setTop (mkF m 95 #[iv pi0, iv pi1, iv (3 : Int32), iv (1 : Int32), rv w_NONE, iv (0 : Int32), iv (0 : Int32), .unset] [(.ref w_DUE)])) t → Go t := fun t kt => pre233 t (st234.trans kt)
      obtain ⟨cq237, kq237, q237a, q237b, q237c⟩ := isOf hZ e234q (E_w_DUE.ext O0.2)
      obtain ⟨v237, _, ⟨T237, L237, k237, n237⟩, -, X237, ⟨Lc237, hQ237, l237, y237, z237⟩, st237⟩ := X234.virtualBack hx (y := (⟨"com/example/brace/brace/account/Session$FixedRate", "priced", "()Z"⟩ : MethodName)) (z := (⟨"com/example/brace/brace/account/Session$FixedRate", "priced", "()Z"⟩ : MethodName)) hown (mvT hZ (hw _ (List.mem_of_getElem? (i := 7) rfl))) (mvT hZ (hw _ (List.mem_of_getElem? (i := 8) rfl))) (notFace_of_selects (args := #[]) (mvT hZ (hw _ (List.mem_of_getElem? (i := 10) rfl)))) (mvT hZ (hw _ (List.mem_of_getElem? (i := 10) rfl))) (mvT hZ (hw _ (List.mem_of_getElem? (i := 9) rfl))) (by decide) (backOf (W := 0) (rm2 l Z a0 hw [] w_DUE w_NONE h0 n0 O0 S_NONE) hZ (hw _ (List.mem_of_getElem? (i := 11) rfl)) (hw _ (List.mem_of_getElem? (i := 5) rfl)) (by decide) (by decide)) q237a q237c (g := (mkF m 95 #[iv pi0, iv pi1, iv (3 : Int32), iv (1 : Int32), rv w_NONE, iv (0 : Int32), iv (0 : Int32), .unset] [(.ref w_DUE)])) rfl (by rw [hml]; rfl) (Steps.refl _) (argsL := []) (rest := []) (lenOf pd___Z rfl) rfl (by show 2 * 0 + _ ≤ _; exact Nat.le_of_eq rfl) (hb hby at_95) (fun _ _ => ⟨rfl, e234q, (by decide : 0 + 0 ≤ _), (by decide : 0 + 0 ≤ _)⟩)
      dsimp only [Pt.U, Pt.locs, Pt.cells, Pt.slots] at X237 l237 y237 z237 st237 hQ237
      subst l237 y237 z237
      obtain ⟨hv237, N237q, e237q⟩ := hQ237
      have N238 := Fr.app N235 N237q
      have hw237 : v237 = some (.int (1 : Int32)) := by rw [hv237, if_neg ne_DUE_NONE]
      subst hw237
      have pre239 : ∀ t, Steps p.tables e below (T237.setTop (mkF m 98 #[iv pi0, iv pi1, iv (3 : Int32), iv (1 : Int32), rv w_NONE, iv (0 : Int32), iv (0 : Int32), .unset] [(.int (1 : Int32))])) t → Go t := fun t kt => pre236 t (st237.trans kt)
      have pre240 : ∀ t, Steps p.tables e below (T237.setTop (mkF m 111 #[iv pi0, iv pi1, iv (3 : Int32), iv (1 : Int32), rv w_NONE, iv (0 : Int32), iv (0 : Int32), iv (1 : Int32)] [(.int (1 : Int32))])) t → Go t := fun t kt => pre239 t (by
          refine y_istore X237.here hx (hb hby at_98) (l' := #[iv pi0, iv pi1, iv (3 : Int32), iv (1 : Int32), rv w_NONE, iv (0 : Int32), iv (0 : Int32), iv (1 : Int32)]) rfl (pc' := 100) rfl ?_
          refine y_iload X237.here hx (hb hby at_100) rfl (pc' := 102) rfl ?_
          refine y_iloadN X237.here hx (hb hby at_102) rfl (pc' := 103) rfl ?_
          refine y_icmpNo X237.here hx (hb hby at_103) (teq (rfl : (1 : Int32) = (1 : Int32))).2 (pc' := 106) rfl ?_
          refine y_iconst X237.here hx (hb hby at_106) (v := (1 : Int32)) rfl (pc' := 107) rfl ?_
          refine y_goto X237.here hx (hb hby at_107) (pc' := 111) (by decide) rfl ?_
          exact kt)
      obtain ⟨fs, hr, hrun, hended, hW, hsame⟩ := X237.leave (v := some (.int (1 : Int32))) (fun h => by rw [Bd.returns] at h; cases h)
      refine ⟨_, _, (hGo _).mp (pre240 _ ?_), hrun, hended, _, _, rfl, ?_, ⟨_, rfl⟩, hW, hsame.mono (by decide) (by decide)⟩
      · exact retN X237 hx (t := .boolean) Bd.returns (by simp) (hb hby at_111) hr
      · show Q0 Z pi0 pi1 w_UNRATED w_DUE w_SETTLED w_NONE h0 n0 _ T237.heap _
        rw [e237q]
        exact ⟨rfl, N238⟩
set_option maxRecDepth 65536 in
set_option maxHeartbeats 40000000 in
theorem comes_1 {Post : Tables → Env → Array Value → State → Outcome → State → Prop} (hpost : ∀ tb e args s v u, (limb_1_1.after args s (.returned v) u = true ∧ limb_1_2.after args s (.returned v) u = true ∧ True) → FrameEnd s (.returned v) u (Jvm.fieldLocs frame_1_writes args s ++ Jvm.arrayLocs frame_1_arrays args s ++ Jvm.staticLocs frame_1_statics s) 0 0 → Post tb e args s (.returned v) u) :
    ArmFor flags0 classFile x code maxLocals ret World_1 tables_1 room_1 Calls_1 rest_1 Pre_1 Post := by
  intro l hfl _ _ p e ha hc hk s m args below hf hA hF happ hP
  obtain ⟨hcalls, hrest, hpre⟩ := hP
  obtain ⟨-, -, -, hnamed, -, -, -, hat⟩ := (Spec.applies_iff hf).mp happ
  obtain ⟨hg, hn⟩ := and_e (Cond.before_iff.mp (show (Jvm.Cond.and given_1 narrow_1).before args s = true from hpre))
  obtain ⟨g0, gr0⟩ := and_e hg
  obtain ⟨g1, gr1⟩ := and_e gr0
  obtain ⟨w0, w1, rfl⟩ : ∃ w0 w1 : Value, args = #[w0, w1] := by
    have hs : args.size = 2 := by simpa [Cond.value, given_1] using g0
    obtain ⟨L⟩ := args
    match L, hs with
    | [w0, w1], _ => exact ⟨w0, w1, rfl⟩
  have hw := fun d (hd : d ∈ tables_1) => atoms_spec (ws := Jvm.Cond.code x code maxLocals ret :: tables_1) hat d (List.mem_cons_of_mem _ hd)
  have hfit : Fit s := fun {y c} hc i hi => by
    obtain ⟨ha, rfl⟩ := Array.getElem?_eq_some_iff.mp hc
    have q := List.all_eq_true.mp ((Array.all_eq_true_iff_forall_mem.mp hF) _ (Array.getElem_mem ha)) i (List.mem_range.mpr hi)
    simpa [Array.getElem?_eq_getElem hi] using q
  obtain ⟨i0, ei0⟩ := is_v g1
  obtain rfl : w0 = (.int i0) := Option.some.inj ei0
  obtain ⟨i1, ei1⟩ := is_v gr1
  obtain rfl : w1 = (.int i1) := Option.some.inj ei1
  obtain ⟨n0, nr0⟩ := and_e hn
  obtain ⟨n1, nr1⟩ := and_e nr0
  obtain ⟨n2, nr2⟩ := and_e nr1
  obtain ⟨n3, nr3⟩ := and_e nr2
  obtain ⟨n4, nr4⟩ := and_e nr3
  obtain ⟨n5, nr5⟩ := and_e nr4
  obtain ⟨n6, nr6⟩ := and_e nr5
  obtain ⟨w_UNRATED, ev_UNRATED⟩ := exa_v n0
  have S_UNRATED := Sta.start ev_UNRATED (Or.inr ⟨(hw _ (List.mem_of_getElem? (i := 5) rfl)), (hw _ (List.mem_of_getElem? (i := 6) rfl))⟩)
  have E_w_UNRATED := Exa.start ev_UNRATED n0
  obtain ⟨w_NONE, ev_NONE⟩ := exa_v n1
  have S_NONE := Sta.start ev_NONE (Or.inr ⟨(hw _ (List.mem_of_getElem? (i := 5) rfl)), (hw _ (List.mem_of_getElem? (i := 13) rfl))⟩)
  have E_w_NONE := Exa.start ev_NONE n1
  have F_ordinal_w_UNRATED := Fld.start ((fld_at ev_UNRATED).symm.trans (own_eqI n2))
  have F_ordinal_w_NONE := Fld.start ((fld_at ev_NONE).symm.trans (own_eqI n3))
  obtain ⟨w_SETTLED, ev_SETTLED⟩ := exa_v n4
  have S_SETTLED := Sta.start ev_SETTLED (Or.inr ⟨(hw _ (List.mem_of_getElem? (i := 5) rfl)), (hw _ (List.mem_of_getElem? (i := 20) rfl))⟩)
  have E_w_SETTLED := Exa.start ev_SETTLED n4
  have F_ordinal_w_SETTLED := Fld.start ((fld_at ev_SETTLED).symm.trans (own_eqI n5))
  obtain ⟨w_DUE, ev_DUE⟩ := exa_v n6
  have S_DUE := Sta.start ev_DUE (Or.inr ⟨(hw _ (List.mem_of_getElem? (i := 5) rfl)), (hw _ (List.mem_of_getElem? (i := 34) rfl))⟩)
  have E_w_DUE := Exa.start ev_DUE n6
  have F_ordinal_w_DUE := Fld.start ((fld_at ev_DUE).symm.trans (own_eqI nr6))
  have ne_UNRATED_DUE : w_UNRATED ≠ w_DUE := Fld.ne F_ordinal_w_UNRATED F_ordinal_w_DUE (fun q => absurd (Value.int.inj q) (by decide))
  have ne_UNRATED_SETTLED : w_UNRATED ≠ w_SETTLED := Fld.ne F_ordinal_w_UNRATED F_ordinal_w_SETTLED (fun q => absurd (Value.int.inj q) (by decide))
  have ne_UNRATED_NONE : w_UNRATED ≠ w_NONE := Fld.ne F_ordinal_w_UNRATED F_ordinal_w_NONE (fun q => absurd (Value.int.inj q) (by decide))
  have ne_DUE_SETTLED : w_DUE ≠ w_SETTLED := Fld.ne F_ordinal_w_DUE F_ordinal_w_SETTLED (fun q => absurd (Value.int.inj q) (by decide))
  have ne_DUE_NONE : w_DUE ≠ w_NONE := Fld.ne F_ordinal_w_DUE F_ordinal_w_NONE (fun q => absurd (Value.int.inj q) (by decide))
  have ne_SETTLED_NONE : w_SETTLED ≠ w_NONE := Fld.ne F_ordinal_w_SETTLED F_ordinal_w_NONE (fun q => absurd (Value.int.inj q) (by decide))
  obtain ⟨n, o, h1, h2, h3, _, L, rfl, ⟨rfl, N⟩, hq⟩ := rm0 l s _ hw tables_1 i0 i1 w_UNRATED w_DUE w_SETTLED w_NONE s.heap s.heap.size (Old.start s) S_UNRATED S_DUE S_SETTLED S_NONE E_w_UNRATED E_w_DUE E_w_SETTLED E_w_NONE ne_UNRATED_DUE ne_UNRATED_SETTLED ne_UNRATED_NONE ne_DUE_SETTLED ne_DUE_NONE ne_SETTLED_NONE p e ha hc hk s m _ below hf ((Spec.applies_iff_loose hf).mp happ).1 ⟨rfl, State.Warmed39.refl s, rfl⟩ trivial
  refine ⟨n, _, h1, h2, h3, hpost _ _ _ _ _ _ ⟨Cond.after_iff.mpr rfl, Cond.after_iff.mpr (eq_i res_at (Term.int_eval (1)) rfl), trivial⟩ ⟨hq.1, hq.2.1, (hq.2.2.sift fun y hy => Or.inr (N y hy)).mono (by decide) (by decide)⟩⟩
theorem main_1_1 : Claimed_1_1 := comes_1 fun _ _ _ _ _ _ h hF => ⟨h.1, hF⟩
theorem main_1_2 : Claimed_1_2 := comes_1 fun _ _ _ _ _ _ h hF => ⟨h.2.1, hF⟩
end Jvm.Pilot.@@N@@
namespace Jvm.Pilot.@@N@@
open Jvm Jvm.ClassFile Sem Op Lib Jvm.Free Jvm.Stand Jvm.Pilot.@@N@@.Jvm.D
/-! MADE BY PROGRAM (witnessworld.py) out of the Statement's table words and the real class files: 12 classes; the members and pool entries that the words name. The judged class is class 1, her method 2. -/
namespace start1
open Jvm.ClassFile
def u (s : String) : CpInfo := .utf8 (stringToUtf16 s)
/-- a pool by its gaps: so many unusable entries, then the entry; so many at the end -/
def gap : Nat → List CpInfo → List CpInfo
  | 0, r => r
  | n + 1, r => .unusable :: gap n r
def poolList (es : List (Nat × CpInfo)) (last : Nat) : List CpInfo := es.foldr (fun e r => gap e.1 (e.2 :: r)) (gap last [])
def pool (es : List (Nat × CpInfo)) (last : Nat) : Array CpInfo := ⟨poolList es last⟩
def fileOf (pool : Array CpInfo) (this : Nat) (attrs : Array Attribute := #[]) (ms : Array MethodInfo := #[]) (fl : Nat := 33) (sup : Nat := 0) (ifs : Array Nat := #[]) (fds : Array FieldInfo := #[]) : ClassFile where
  minorVersion := 0
  majorVersion := 65
  constantPool := pool
  accessFlags := fl
  thisClass := this
  superClass := sup
  interfaces := ifs
  fields := fds
  methods := ms
  attributes := attrs
def plain (name : String) (sup : Option ClassId) : Class where
  name := name
  kind := .ordinary
  loader := none
  accessFlags := 33
  super := sup
  interfaces := #[]
  cf := none
  fields := #[]
  methods := #[]
  instanceTypes := #[]
  staticTypes := #[]
  resolved := #[]
  callSites := []
  init := .initialized
  statics := none
  mirror := none

def pool0 : Array CpInfo := pool [(5, u "<init>"), (0, u "()V"), (1, .class_ 10), (1, u "java/lang/Object")] 113

def k0m0 : Method := { name := "<init>", desc := "()V", sig := { parameters := [], returnType := none }, accessFlags := 1, code := none }
/-- java/lang/Object -/
def k0 : Class := { plain "java/lang/Object" none with
  accessFlags := 33
  interfaces := #[]
  cf := some (fileOf pool0 8 #[] #[{ accessFlags := 1, nameIndex := 5, descriptorIndex := 6, attributes := #[] }] 33 0 #[] #[])
  fields := #[]
  methods := #[k0m0]
  instanceTypes := #[]
  staticTypes := #[]
  resolved := Array.replicate 124 none
  statics := none }

def pool1 : Array CpInfo := pool [(2, .class_ 4), (1, u "java/lang/Object"), (0, u "<init>"), (0, u "()V"), (0, .fieldref 8 9), (0, .class_ 10), (0, .nameAndType 11 12), (0, u "com/example/brace/brace/account/Session$FixedRate"), (0, u "UNRATED"), (0, u "Lcom/example/brace/brace/account/Session$FixedRate;"), (0, .fieldref 8 14), (0, .nameAndType 15 12), (0, u "DUE"), (0, .fieldref 8 17), (0, .nameAndType 18 12), (0, u "SETTLED"), (0, .fieldref 8 20), (0, .nameAndType 21 12), (0, u "NONE"), (0, .methodref 23 24), (0, .class_ 25), (0, .nameAndType 26 27), (0, u "com/example/brace/brace/account/FixedRatePricedPinLaw"), (0, u "pick"), (0, u "(I)Lcom/example/brace/brace/account/Session$FixedRate;"), (0, .methodref 8 29), (0, .nameAndType 30 31), (0, u "priced"), (0, u "()Z"), (0, .methodref 8 33), (0, .nameAndType 34 35), (0, u "afterCharge"), (0, u "()Lcom/example/brace/brace/account/Session$FixedRate;"), (0, .methodref 8 37), (0, .nameAndType 38 31), (0, u "settled"), (0, .methodref 8 40), (0, .nameAndType 41 42), (0, u "afterReservation"), (0, u "(Z)Lcom/example/brace/brace/account/Session$FixedRate;"), (3, u "law"), (0, u "(II)Z")] 6

def k1m0 : Method := { name := "<init>", desc := "()V", sig := { parameters := [], returnType := none }, accessFlags := 1, code := none }
def k1c1 : Code := { maxStack := 2, maxLocals := 1, code := method_2_code, exceptionTable := #[], attributes := #[] }
def k1m1 : Method := { name := "pick", desc := "(I)Lcom/example/brace/brace/account/Session$FixedRate;", sig := { parameters := [.int], returnType := some (.object "com/example/brace/brace/account/Session$FixedRate") }, accessFlags := 10, code := some k1c1 }
def k1c2 : Code := { maxStack := 3, maxLocals := 8, code := code, exceptionTable := #[], attributes := #[] }
def k1m2 : Method := { name := "law", desc := "(II)Z", sig := { parameters := [.int, .int], returnType := some .boolean }, accessFlags := 9, code := some k1c2 }
/-- com/example/brace/brace/account/FixedRatePricedPinLaw -/
def k1 : Class := { plain "com/example/brace/brace/account/FixedRatePricedPinLaw" (some 0) with
  accessFlags := 49
  interfaces := #[]
  cf := some (fileOf pool1 23 #[] #[{ accessFlags := 1, nameIndex := 5, descriptorIndex := 6, attributes := #[] }, { accessFlags := 10, nameIndex := 26, descriptorIndex := 27, attributes := #[] }, { accessFlags := 9, nameIndex := 46, descriptorIndex := 47, attributes := #[] }] 49 2 #[] #[])
  fields := #[]
  methods := #[k1m0, k1m1, k1m2]
  instanceTypes := #[]
  staticTypes := #[]
  resolved := Array.replicate 54 none
  statics := none }

def pool2 : Array CpInfo := pool [(1, .class_ 2), (0, u "java/lang/constant/Constable"), (0, .class_ 4), (0, u "java/lang/Object")] 6

/-- java/lang/constant/Constable -/
def k2 : Class := { plain "java/lang/constant/Constable" (some 0) with
  accessFlags := 1537
  interfaces := #[]
  cf := some (fileOf pool2 1 #[] #[] 1537 3 #[] #[])
  fields := #[]
  methods := #[]
  instanceTypes := #[]
  staticTypes := #[]
  resolved := Array.replicate 11 none
  statics := none }

def pool3 : Array CpInfo := pool [(1, .class_ 2), (0, u "java/lang/Comparable"), (0, .class_ 4), (0, u "java/lang/Object")] 7

/-- java/lang/Comparable -/
def k3 : Class := { plain "java/lang/Comparable" (some 0) with
  accessFlags := 1537
  interfaces := #[]
  cf := some (fileOf pool3 1 #[] #[] 1537 3 #[] #[])
  fields := #[]
  methods := #[]
  instanceTypes := #[]
  staticTypes := #[]
  resolved := Array.replicate 12 none
  statics := none }

def pool4 : Array CpInfo := pool [(1, .class_ 2), (0, u "java/io/Serializable"), (0, .class_ 4), (0, u "java/lang/Object")] 2

/-- java/io/Serializable -/
def k4 : Class := { plain "java/io/Serializable" (some 0) with
  accessFlags := 1537
  interfaces := #[]
  cf := some (fileOf pool4 1 #[] #[] 1537 3 #[] #[])
  fields := #[]
  methods := #[]
  instanceTypes := #[]
  staticTypes := #[]
  resolved := Array.replicate 7 none
  statics := none }

def pool5 : Array CpInfo := pool [(2, .class_ 4), (1, u "java/lang/Enum"), (0, u "name"), (0, u "Ljava/lang/String;"), (2, u "ordinal"), (0, u "I"), (1, .class_ 14), (1, u "java/lang/Object"), (4, u "hash"), (86, .class_ 108), (1, u "java/lang/Enum$EnumDesc"), (2, .class_ 112), (0, u "java/lang/constant/Constable"), (0, .class_ 114), (0, u "java/lang/Comparable"), (0, .class_ 116), (0, u "java/io/Serializable")] 87

/-- java/lang/Enum -/
def k5 : Class := { plain "java/lang/Enum" (some 0) with
  accessFlags := 1057
  interfaces := #[2, 3, 4]
  cf := some (fileOf pool5 2 #[.nestMembers #[106]] #[] 1057 12 #[111, 113, 115] #[{ accessFlags := 18, nameIndex := 5, descriptorIndex := 6, attributes := #[] }, { accessFlags := 18, nameIndex := 9, descriptorIndex := 10, attributes := #[] }, { accessFlags := 2, nameIndex := 19, descriptorIndex := 10, attributes := #[] }])
  fields := #[{ name := "name", type := (.object "java/lang/String"), accessFlags := 18, slot := 0, constantValue := 0 }, { name := "ordinal", type := .int, accessFlags := 18, slot := 1, constantValue := 0 }, { name := "hash", type := .int, accessFlags := 2, slot := 2, constantValue := 0 }]
  methods := #[]
  instanceTypes := #[(.object "java/lang/String"), .int, .int]
  staticTypes := #[]
  resolved := Array.replicate 204 none
  statics := none }

def pool6 : Array CpInfo := pool [(1, .class_ 2), (0, u "com/example/brace/brace/account/Session$FixedRate"), (0, .fieldref 1 4), (0, .nameAndType 5 6), (0, u "UNRATED"), (0, u "Lcom/example/brace/brace/account/Session$FixedRate;"), (0, .fieldref 1 8), (0, .nameAndType 9 6), (0, u "DUE"), (0, .fieldref 1 11), (0, .nameAndType 12 6), (0, u "SETTLED"), (0, .fieldref 1 14), (0, .nameAndType 15 6), (0, u "NONE"), (2, u "$VALUES"), (0, u "[Lcom/example/brace/brace/account/Session$FixedRate;"), (6, .class_ 28), (1, u "java/lang/Enum"), (22, u "priced"), (0, u "()Z"), (1, u "settled"), (0, u "afterReservation"), (0, u "(Z)Lcom/example/brace/brace/account/Session$FixedRate;"), (0, u "afterCharge"), (0, u "()Lcom/example/brace/brace/account/Session$FixedRate;"), (5, .class_ 65), (0, u "com/example/brace/brace/account/Session")] 2

def k6c0 : Code := { maxStack := 2, maxLocals := 1, code := prog_4_method_4_code, exceptionTable := #[], attributes := #[] }
def k6m0 : Method := { name := "priced", desc := "()Z", sig := { parameters := [], returnType := some .boolean }, accessFlags := 1, code := some k6c0 }
def k6c1 : Code := { maxStack := 2, maxLocals := 1, code := prog_4_method_5_code, exceptionTable := #[], attributes := #[] }
def k6m1 : Method := { name := "settled", desc := "()Z", sig := { parameters := [], returnType := some .boolean }, accessFlags := 1, code := some k6c1 }
def k6c2 : Code := { maxStack := 2, maxLocals := 2, code := prog_4_method_6_code, exceptionTable := #[], attributes := #[] }
def k6m2 : Method := { name := "afterReservation", desc := "(Z)Lcom/example/brace/brace/account/Session$FixedRate;", sig := { parameters := [.boolean], returnType := some (.object "com/example/brace/brace/account/Session$FixedRate") }, accessFlags := 1, code := some k6c2 }
def k6c3 : Code := { maxStack := 2, maxLocals := 1, code := prog_4_method_7_code, exceptionTable := #[], attributes := #[] }
def k6m3 : Method := { name := "afterCharge", desc := "()Lcom/example/brace/brace/account/Session$FixedRate;", sig := { parameters := [], returnType := some (.object "com/example/brace/brace/account/Session$FixedRate") }, accessFlags := 1, code := some k6c3 }
/-- com/example/brace/brace/account/Session$FixedRate -/
def k6 : Class := { plain "com/example/brace/brace/account/Session$FixedRate" (some 5) with
  accessFlags := 16433
  interfaces := #[]
  cf := some (fileOf pool6 1 #[.nestHost 64] #[{ accessFlags := 1, nameIndex := 51, descriptorIndex := 52, attributes := #[] }, { accessFlags := 1, nameIndex := 54, descriptorIndex := 52, attributes := #[] }, { accessFlags := 1, nameIndex := 55, descriptorIndex := 56, attributes := #[] }, { accessFlags := 1, nameIndex := 57, descriptorIndex := 58, attributes := #[] }] 16433 26 #[] #[{ accessFlags := 16409, nameIndex := 5, descriptorIndex := 6, attributes := #[] }, { accessFlags := 16409, nameIndex := 9, descriptorIndex := 6, attributes := #[] }, { accessFlags := 16409, nameIndex := 12, descriptorIndex := 6, attributes := #[] }, { accessFlags := 16409, nameIndex := 15, descriptorIndex := 6, attributes := #[] }, { accessFlags := 4122, nameIndex := 18, descriptorIndex := 19, attributes := #[] }])
  fields := #[{ name := "UNRATED", type := (.object "com/example/brace/brace/account/Session$FixedRate"), accessFlags := 16409, slot := 0, constantValue := 0 }, { name := "DUE", type := (.object "com/example/brace/brace/account/Session$FixedRate"), accessFlags := 16409, slot := 1, constantValue := 0 }, { name := "SETTLED", type := (.object "com/example/brace/brace/account/Session$FixedRate"), accessFlags := 16409, slot := 2, constantValue := 0 }, { name := "NONE", type := (.object "com/example/brace/brace/account/Session$FixedRate"), accessFlags := 16409, slot := 3, constantValue := 0 }, { name := "$VALUES", type := (.array (.object "com/example/brace/brace/account/Session$FixedRate")), accessFlags := 4122, slot := 4, constantValue := 0 }]
  methods := #[k6m0, k6m1, k6m2, k6m3]
  instanceTypes := #[(.object "java/lang/String"), .int, .int]
  staticTypes := #[(.object "com/example/brace/brace/account/Session$FixedRate"), (.object "com/example/brace/brace/account/Session$FixedRate"), (.object "com/example/brace/brace/account/Session$FixedRate"), (.object "com/example/brace/brace/account/Session$FixedRate"), (.array (.object "com/example/brace/brace/account/Session$FixedRate"))]
  resolved := Array.replicate 68 none
  statics := some 0 }

def pool7 : Array CpInfo := pool [(1, u "java/lang/Cloneable"), (0, .class_ 1), (0, u "java/lang/Object"), (0, .class_ 3)] 3

/-- java/lang/Cloneable -/
def k7 : Class := { plain "java/lang/Cloneable" (some 0) with
  accessFlags := 1537
  interfaces := #[]
  cf := some (fileOf pool7 2 #[] #[] 1537 4 #[] #[])
  fields := #[]
  methods := #[]
  instanceTypes := #[]
  staticTypes := #[]
  resolved := Array.replicate 8 none
  statics := none }

/-- the primitive byte -/
def k8 : Class := { plain "byte" none with kind := .primitive 'B', accessFlags := 0x411 }
/-- [B -/
def k9 : Class := { plain "[B" (some 0) with kind := .array 8 .byte, interfaces := #[7, 4], accessFlags := 1041 }

/-- the primitive int -/
def k10 : Class := { plain "int" none with kind := .primitive 'I', accessFlags := 0x411 }
/-- [I -/
def k11 : Class := { plain "[I" (some 0) with kind := .array 10 .int, interfaces := #[7, 4], accessFlags := 1041 }

def heap : Heap := #[{ cls := 6, slots := #[.ref 1, .ref 2, .ref 3, .ref 4, .null], vm := .statics 6 },
  { cls := 6, slots := #[.null, .int 0, .int 0], vm := .none },
  { cls := 6, slots := #[.null, .int 1, .int 0], vm := .none },
  { cls := 6, slots := #[.null, .int 2, .int 0], vm := .none },
  { cls := 6, slots := #[.null, .int 3, .int 0], vm := .none }]
def classes : Array Class := #[k0, k1, k2, k3, k4, k5, k6, k7, k8, k9, k10, k11]
def interned : List (Array UInt16 × Addr) := []
def slotsUsed : Nat := 17
def theMethod : MethodId := ⟨1, 2⟩
def args0 : Array Value := #[.int 5, .int 1]
def aboutOver (below : List Frame) : State where
  vm := { classes := classes, interned := interned.toArray }
  heap := heap
  slotsUsed := slotsUsed
  threads := #[{ frames := .invoking theMethod args0 :: below }]
def below0 : List Frame := [.native { method := ⟨0, 0⟩, args := #[] }]
def about1 : State := aboutOver below0
def p0 : Program := .bare "" "" ""
def e0 : Env := launch0.env 0 0 0
theorem w_frames : about1.frames = Frame.invoking theMethod args0 :: below0 := rfl
set_option maxRecDepth 65536 in
theorem w_args : argsFit about1.vm theMethod args0 = true := by decide +kernel
set_option maxRecDepth 65536 in
theorem w_heap : heapFits about1 = true := by decide +kernel
set_option maxRecDepth 65536 in
theorem w_runnable : about1.curStatus? = some .runnable := by decide +kernel
set_option maxRecDepth 65536 in
theorem w_alone : about1.alone = true := by decide +kernel
set_option maxRecDepth 65536 in
theorem w_named : about1.methodNamed? x = some theMethod := by decide +kernel
set_option maxRecDepth 65536 in
theorem w_hears : about1.hears theMethod below0 = true := by decide +kernel
set_option maxRecDepth 65536 in
theorem w_ripe : about1.ripe theMethod args0 below0 = true := by decide +kernel
theorem w_running : about1.status = .running := rfl
set_option maxRecDepth 65536 in
theorem w_room : about1.hasRoom e0.platform room_1 = true :=
  launch0.hasRoom_least _ room_1 (by decide +kernel) (by decide +kernel) (by decide +kernel) (by decide +kernel) (by decide +kernel) (by decide +kernel)
theorem allAtoms_all (ts : List Jvm.Cond) (a : Array Jvm.Value) (st : Jvm.State) : (allAtoms ts).before a st = ts.all (fun c => c.before a st) := by
  induction ts with
  | nil => rfl
  | cons c t ih =>
    show (Jvm.Cond.and c (allAtoms t)).before a st = _
    rw [Jvm.Cond.before_and, ih, List.all_cons]
def words1 : List Jvm.Cond := Jvm.Cond.code x code maxLocals ret :: tables_1
/-- a 'code' word, met by the world's own term for the bytes: nothing is compared byte by byte -/
theorem code_word {y : MethodName} {bytes : ByteArray} {mx : Nat} {rt : Option FieldType} {a : Array Value} {s : State} {m : MethodId} {meth : Method} {c : Code} (h1 : s.methodNamed? y = some m) (h2 : s.vm.method? m = some meth) (h3 : meth.code = some c) (h4 : c.code = bytes)
    (h5 : (c.maxLocals == mx && c.exceptionTable.isEmpty && decide (c.maxStack ≤ mostOperands) && decide (meth.sig.returnType = rt) && !meth.locks && decide (parseMethodDescriptor y.desc = some meth.sig)) = true) : (Jvm.Cond.code y bytes mx rt).before a s = true := by
  simp only [Bool.and_eq_true, beq_iff_eq, Bool.not_eq_true', decide_eq_true_eq] at h5
  obtain ⟨⟨⟨⟨⟨g1, g2⟩, g3⟩, g4⟩, g5⟩, g6⟩ := h5
  simp [Cond.before, Cond.holds, Cond.value, h1, h2, h3, h4, g1, g2, g3, g4, g5, g6]
def isCode : Jvm.Cond → Bool
  | .code _ _ _ _ => true
  | _ => false
theorem all_split {L : List Jvm.Cond} {P : Jvm.Cond → Bool} (h1 : L.all (fun c => isCode c || P c) = true) (h2 : ∀ c ∈ L.filter isCode, P c = true) : L.all P = true := by
  refine List.all_eq_true.mpr fun c hc => ?_
  have h := List.all_eq_true.mp h1 c hc
  rcases Bool.eq_false_or_eq_true (isCode c) with hi | hi
  · exact h2 c (List.mem_filter.mpr ⟨hc, hi⟩)
  · simpa [hi] using h
set_option maxRecDepth 65536 in
theorem w_c0 : (Jvm.Cond.code x code maxLocals ret).before args0 about1 = true := code_word (m := ⟨1, 2⟩) (meth := k1m2) (c := k1c2) (by decide +kernel) rfl rfl rfl (by decide +kernel)
set_option maxRecDepth 65536 in
theorem w_c1 : (Jvm.Cond.code ({ cls := "com/example/brace/brace/account/FixedRatePricedPinLaw", name := "pick", desc := "(I)Lcom/example/brace/brace/account/Session$FixedRate;" } : Jvm.MethodName) method_2_code (1 : Nat) (Option.some (Jvm.ClassFile.FieldType.object "com/example/brace/brace/account/Session$FixedRate"))).before args0 about1 = true := code_word (m := ⟨1, 1⟩) (meth := k1m1) (c := k1c1) (by decide +kernel) rfl rfl rfl (by decide +kernel)
set_option maxRecDepth 65536 in
theorem w_c2 : (Jvm.Cond.code ({ cls := "com/example/brace/brace/account/Session$FixedRate", name := "priced", desc := "()Z" } : Jvm.MethodName) prog_4_method_4_code (1 : Nat) (Option.some Jvm.ClassFile.FieldType.boolean)).before args0 about1 = true := code_word (m := ⟨6, 0⟩) (meth := k6m0) (c := k6c0) (by decide +kernel) rfl rfl rfl (by decide +kernel)
set_option maxRecDepth 65536 in
theorem w_c3 : (Jvm.Cond.code ({ cls := "com/example/brace/brace/account/Session$FixedRate", name := "afterCharge", desc := "()Lcom/example/brace/brace/account/Session$FixedRate;" } : Jvm.MethodName) prog_4_method_7_code (1 : Nat) (Option.some (Jvm.ClassFile.FieldType.object "com/example/brace/brace/account/Session$FixedRate"))).before args0 about1 = true := code_word (m := ⟨6, 3⟩) (meth := k6m3) (c := k6c3) (by decide +kernel) rfl rfl rfl (by decide +kernel)
set_option maxRecDepth 65536 in
theorem w_c4 : (Jvm.Cond.code ({ cls := "com/example/brace/brace/account/Session$FixedRate", name := "settled", desc := "()Z" } : Jvm.MethodName) prog_4_method_5_code (1 : Nat) (Option.some Jvm.ClassFile.FieldType.boolean)).before args0 about1 = true := code_word (m := ⟨6, 1⟩) (meth := k6m1) (c := k6c1) (by decide +kernel) rfl rfl rfl (by decide +kernel)
set_option maxRecDepth 65536 in
theorem w_c5 : (Jvm.Cond.code ({ cls := "com/example/brace/brace/account/Session$FixedRate", name := "afterReservation", desc := "(Z)Lcom/example/brace/brace/account/Session$FixedRate;" } : Jvm.MethodName) prog_4_method_6_code (2 : Nat) (Option.some (Jvm.ClassFile.FieldType.object "com/example/brace/brace/account/Session$FixedRate"))).before args0 about1 = true := code_word (m := ⟨6, 2⟩) (meth := k6m2) (c := k6c2) (by decide +kernel) rfl rfl rfl (by decide +kernel)
def codes1 : List Jvm.Cond := [Jvm.Cond.code x code maxLocals ret, Jvm.Cond.code ({ cls := "com/example/brace/brace/account/FixedRatePricedPinLaw", name := "pick", desc := "(I)Lcom/example/brace/brace/account/Session$FixedRate;" } : Jvm.MethodName) method_2_code (1 : Nat) (Option.some (Jvm.ClassFile.FieldType.object "com/example/brace/brace/account/Session$FixedRate")), Jvm.Cond.code ({ cls := "com/example/brace/brace/account/Session$FixedRate", name := "priced", desc := "()Z" } : Jvm.MethodName) prog_4_method_4_code (1 : Nat) (Option.some Jvm.ClassFile.FieldType.boolean), Jvm.Cond.code ({ cls := "com/example/brace/brace/account/Session$FixedRate", name := "afterCharge", desc := "()Lcom/example/brace/brace/account/Session$FixedRate;" } : Jvm.MethodName) prog_4_method_7_code (1 : Nat) (Option.some (Jvm.ClassFile.FieldType.object "com/example/brace/brace/account/Session$FixedRate")), Jvm.Cond.code ({ cls := "com/example/brace/brace/account/Session$FixedRate", name := "settled", desc := "()Z" } : Jvm.MethodName) prog_4_method_5_code (1 : Nat) (Option.some Jvm.ClassFile.FieldType.boolean), Jvm.Cond.code ({ cls := "com/example/brace/brace/account/Session$FixedRate", name := "afterReservation", desc := "(Z)Lcom/example/brace/brace/account/Session$FixedRate;" } : Jvm.MethodName) prog_4_method_6_code (2 : Nat) (Option.some (Jvm.ClassFile.FieldType.object "com/example/brace/brace/account/Session$FixedRate"))]
set_option maxRecDepth 65536 in
theorem codes_eq : words1.filter isCode = codes1 := rfl
theorem w_codes : ∀ c ∈ words1.filter isCode, c.before args0 about1 = true := by
  rw [codes_eq]
  intro c hc
  simp only [codes1, List.mem_cons, List.not_mem_nil, or_false] at hc
  rcases hc with rfl | rfl | rfl | rfl | rfl | rfl
  · exact w_c0
  · exact w_c1
  · exact w_c2
  · exact w_c3
  · exact w_c4
  · exact w_c5
set_option maxRecDepth 65536 in
theorem w_t1 : (words1.take 24).all (fun c => isCode c || c.before args0 about1) = true := by decide +kernel
set_option maxRecDepth 65536 in
theorem w_t2 : (words1.drop 24).all (fun c => isCode c || c.before args0 about1) = true := by decide +kernel
theorem w_tables : (allAtoms (Jvm.Cond.code x code maxLocals ret :: tables_1)).before args0 about1 = true := by
  rw [allAtoms_all]
  show words1.all (fun c => c.before args0 about1) = true
  refine all_split ?_ w_codes
  rw [← List.take_append_drop 24 words1, List.all_append, w_t1, w_t2]
  rfl
set_option maxRecDepth 65536 in
theorem w_case : (Jvm.Cond.and given_1 narrow_1).before args0 about1 = true := by decide +kernel
theorem w_applies : (headSpec (Jvm.Cond.code x code maxLocals ret :: tables_1) room_1).applies x e0.platform about1 = true :=
  (Spec.applies_iff w_frames).mpr ⟨w_running, w_runnable, w_alone, w_named, w_hears, w_ripe, w_room, w_tables⟩
theorem atStart : AtStart classFile x code maxLocals ret World_1 tables_1 room_1 Calls_1 rest_1 Pre_1 launch0 p0 e0 about1 theMethod args0 below0 :=
  ⟨lists_1, trivial, launch0.admits_env _ _ _, launch0.least_env, fairChoices_fair.cas, fairChoices_fair.clock, w_frames, w_args, w_heap, w_applies, trivial, trivial, w_case⟩
end start1
theorem witness_1 : WitnessClaimed_1 := ⟨start1.p0, start1.e0, start1.about1, start1.theMethod, start1.args0, start1.below0, start1.atStart⟩
end Jvm.Pilot.@@N@@
