import JvmDerived
import JvmDerived.Pilot.@@N@@Statement
import JvmDerived.Pilot.@@N@@Code
set_option linter.unusedVariables false
set_option linter.unusedSimpArgs false
namespace Jvm.Pilot.@@N@@
open Jvm Jvm.ClassFile Sem Op Lib Jvm.Free Jvm.Stand Jvm.LawKit Jvm.RoadKit Bundle Jvm.Pilot.@@N@@.Jvm.D
/-! 0. one goal for a walk: from T with the frame g on top the run comes back with what Q says -/
def own_W (p : Program) (e : Env) (En : Outcome → State → List Loc → Nat → Nat → Prop) (below : List Frame) (kc ks : Nat) (Q : Option Value → Heap → List Loc → Prop) (T : State) (g : JFrame) : Prop :=
  ∃ s₂ o, Steps p.tables e below (T.setTop g) s₂ ∧ s₂.status = .running ∧ Ended s₂ below o ∧ ∃ v L, o = .returned v ∧ Q v s₂.heap L ∧ En o s₂ L kc ks
section OwnW
variable {En : Outcome → State → List Loc → Nat → Nat → Prop} {p : Program} {l : Launch} {e : Env} {R : Room} {s : State} {m : MethodId} {args : Array Value} {below : List Frame} {meth : Method} {c : Code} {T T' : State} {locs : List Loc} {cells slots kc ks : Nat} {Q : Option Value → Heap → List Loc → Prop} {g g' : JFrame} {pc pc' : Nat} {Ls : Array Slot} {st rest : List Value} {Z : State} {h h' : Heap} {a b : Addr} {sl : Nat}
theorem own_W.step (k : ∀ t, Steps p.tables e below (T'.setTop g') t → Steps p.tables e below (T.setTop g) t) (w : own_W p e En below kc ks Q T' g') : own_W p e En below kc ks Q T g := by
  obtain ⟨s2, o, h1, h2⟩ := w
  exact ⟨s2, o, k _ h1, h2⟩
theorem own_W.steps (k : Steps p.tables e below (T.setTop g) (T'.setTop g')) (w : own_W p e En below kc ks Q T' g') : own_W p e En below kc ks Q T g := by
  obtain ⟨s2, o, h1, h2⟩ := w
  exact ⟨s2, o, k.trans h1, h2⟩
theorem own_leave (X : Stand p l e R s m args below meth c T locs cells slots) (hlk : meth.locks = false) {v : Option Value} (hv : meth.sig.returnType = none → v = none) (hc : cells ≤ kc) (hs : slots ≤ ks)
    (k : ∀ fs, (∀ (f : JFrame) (acts : List Action), f.method = m → f.locked = none → f.entered = [] → (doReturn e (T.setTop f) acts v).1 = T.setFrames fs) → Steps p.tables e below (T.setTop g) (T.setFrames fs)) (hQ : Q v T.heap locs) : own_W p e (FrameEnd s) below kc ks Q T g := by
  obtain ⟨fs, hr, hrun, hended, hW, hsame⟩ := X.leave (v := v) hv hlk
  exact ⟨_, _, k fs hr, hrun, hended, v, locs, rfl, hQ, ⟨_, rfl⟩, hW, hsame.mono hc hs⟩
theorem own_retV (X : Stand p l e R s m args below meth c T locs cells slots) (hx : p.tables.exec = Jvm.exec) (hlk : meth.locks = false) (hret : meth.sig.returnType = none) (hd : decode c.code pc = .ok (.return_, 1)) (hc : cells ≤ kc) (hs : slots ≤ ks) (hQ : Q none T.heap locs) : own_W p e (FrameEnd s) below kc ks Q T (mkF m pc Ls []) :=
  own_leave X hlk (fun _ => rfl) hc hs (fun fs hr => X.returnOut hx hret hd hr) hQ
theorem own_retN {t : FieldType} (X : Stand p l e R s m args below meth c T locs cells slots) (hx : p.tables.exec = Jvm.exec) (hlk : meth.locks = false) (hret : meth.sig.returnType = some t) (ht : t = .boolean ∨ t = .byte ∨ t = .char ∨ t = .short) (hd : decode c.code pc = .ok (.ireturn, 1)) {z z' : Int32} (hz : nar t z = z') (hc : cells ≤ kc) (hs : slots ≤ ks) (hQ : Q (some (.int z')) T.heap locs) : own_W p e (FrameEnd s) below kc ks Q T (mkF m pc Ls (.int z :: rest)) := by
  subst hz
  exact own_leave X hlk (fun q => by rw [hret] at q; cases q) hc hs (fun fs hr => retN X hx hret ht hd hr) hQ
theorem own_retI (X : Stand p l e R s m args below meth c T locs cells slots) (hx : p.tables.exec = Jvm.exec) (hlk : meth.locks = false) (hret : meth.sig.returnType = some .int) (hd : decode c.code pc = .ok (.ireturn, 1)) {z : Int32} (hc : cells ≤ kc) (hs : slots ≤ ks) (hQ : Q (some (.int z)) T.heap locs) : own_W p e (FrameEnd s) below kc ks Q T (mkF m pc Ls (.int z :: rest)) :=
  own_leave X hlk (fun q => by rw [hret] at q; cases q) hc hs (fun fs hr => retOut X hx (t := .int) (w := .int z) (i := .ireturn) hret rfl (Or.inl ⟨rfl, Or.inl rfl, z, rfl⟩) hd hr) hQ
theorem own_retJ (X : Stand p l e R s m args below meth c T locs cells slots) (hx : p.tables.exec = Jvm.exec) (hlk : meth.locks = false) (hret : meth.sig.returnType = some .long) (hd : decode c.code pc = .ok (.lreturn, 1)) {z : Int64} (hc : cells ≤ kc) (hs : slots ≤ ks) (hQ : Q (some (.long z)) T.heap locs) : own_W p e (FrameEnd s) below kc ks Q T (mkF m pc Ls (.long z :: rest)) :=
  own_leave X hlk (fun q => by rw [hret] at q; cases q) hc hs (fun fs hr => retOut X hx (t := .long) (w := .long z) (i := .lreturn) hret rfl (Or.inr (Or.inl ⟨rfl, rfl, z, rfl⟩)) hd hr) hQ
theorem own_retA {t : FieldType} (X : Stand p l e R s m args below meth c T locs cells slots) (hx : p.tables.exec = Jvm.exec) (hlk : meth.locks = false) (hret : meth.sig.returnType = some t) (hn : narrow t (.ref a) = .ref a) (ht : t.isReference = true) (hd : decode c.code pc = .ok (.areturn, 1)) (hc : cells ≤ kc) (hs : slots ≤ ks) (hQ : Q (some (.ref a)) T.heap locs) : own_W p e (FrameEnd s) below kc ks Q T (mkF m pc Ls (.ref a :: rest)) :=
  own_leave X hlk (fun q => by rw [hret] at q; cases q) hc hs (fun fs hr => retOut X hx (t := t) (w := .ref a) (i := .areturn) hret hn (Or.inr (Or.inr (Or.inr (Or.inr ⟨rfl, ht, rfl⟩)))) hd hr) hQ
theorem own_iload (X : Stand p l e R s m args below meth c T locs cells slots) (hx : p.tables.exec = Jvm.exec) {k : Nat} {v : Int32} (hd : decode c.code pc = .ok (.iload k, 2)) (hl : Ls[k]? = some (.val (.int v))) (hp : pc + 2 = pc') (w : own_W p e En below kc ks Q T (mkF m pc' Ls (.int v :: st))) : own_W p e En below kc ks Q T (mkF m pc Ls (st)) := by
  subst hp; exact own_W.step (fun _ q => XS.iload X.here hx rfl hd hl q) w
theorem own_iloadN (X : Stand p l e R s m args below meth c T locs cells slots) (hx : p.tables.exec = Jvm.exec) {k : Fin 4} {v : Int32} (hd : decode c.code pc = .ok (.iload_n k, 1)) (hl : Ls[k.val]? = some (.val (.int v))) (hp : pc + 1 = pc') (w : own_W p e En below kc ks Q T (mkF m pc' Ls (.int v :: st))) : own_W p e En below kc ks Q T (mkF m pc Ls (st)) := by
  subst hp; exact own_W.step (fun _ q => XS.iloadN X.here hx rfl hd hl q) w
theorem own_lload (X : Stand p l e R s m args below meth c T locs cells slots) (hx : p.tables.exec = Jvm.exec) {k : Nat} {v : Int64} (hd : decode c.code pc = .ok (.lload k, 2)) (hl : Ls[k]? = some (.val (.long v))) (hp : pc + 2 = pc') (w : own_W p e En below kc ks Q T (mkF m pc' Ls (.long v :: st))) : own_W p e En below kc ks Q T (mkF m pc Ls (st)) := by
  subst hp; exact own_W.step (fun _ q => XS.lload X.here hx rfl hd hl q) w
theorem own_lloadN (X : Stand p l e R s m args below meth c T locs cells slots) (hx : p.tables.exec = Jvm.exec) {k : Fin 4} {v : Int64} (hd : decode c.code pc = .ok (.lload_n k, 1)) (hl : Ls[k.val]? = some (.val (.long v))) (hp : pc + 1 = pc') (w : own_W p e En below kc ks Q T (mkF m pc' Ls (.long v :: st))) : own_W p e En below kc ks Q T (mkF m pc Ls (st)) := by
  subst hp; exact own_W.step (fun _ q => XS.lloadN X.here hx rfl hd hl q) w
theorem own_aload (X : Stand p l e R s m args below meth c T locs cells slots) (hx : p.tables.exec = Jvm.exec) {k : Nat} {v : Value} (hd : decode c.code pc = .ok (.aload k, 2)) (hl : Ls[k]? = some (.val v)) (hv : v.isRef = true) (hp : pc + 2 = pc') (w : own_W p e En below kc ks Q T (mkF m pc' Ls (v :: st))) : own_W p e En below kc ks Q T (mkF m pc Ls (st)) := by
  subst hp; exact own_W.step (fun _ q => XS.aload X.here hx rfl hd hl hv q) w
theorem own_aloadN (X : Stand p l e R s m args below meth c T locs cells slots) (hx : p.tables.exec = Jvm.exec) {k : Fin 4} {v : Value} (hd : decode c.code pc = .ok (.aload_n k, 1)) (hl : Ls[k.val]? = some (.val v)) (hv : v.isRef = true) (hp : pc + 1 = pc') (w : own_W p e En below kc ks Q T (mkF m pc' Ls (v :: st))) : own_W p e En below kc ks Q T (mkF m pc Ls (st)) := by
  subst hp; exact own_W.step (fun _ q => XS.aloadN X.here hx rfl hd hl hv q) w
theorem own_istore (X : Stand p l e R s m args below meth c T locs cells slots) (hx : p.tables.exec = Jvm.exec) {k : Nat} {v : Int32} {l' : Array Slot} (hd : decode c.code pc = .ok (.istore k, 2)) (hl : storeLocals Ls k (.int v) = some l') (hp : pc + 2 = pc') (w : own_W p e En below kc ks Q T (mkF m pc' l' (st))) : own_W p e En below kc ks Q T (mkF m pc Ls (.int v :: st)) := by
  subst hp; exact own_W.step (fun _ q => XS.istore X.here hx rfl hd rfl hl q) w
theorem own_istoreN (X : Stand p l e R s m args below meth c T locs cells slots) (hx : p.tables.exec = Jvm.exec) {k : Fin 4} {v : Int32} {l' : Array Slot} (hd : decode c.code pc = .ok (.istore_n k, 1)) (hl : storeLocals Ls k.val (.int v) = some l') (hp : pc + 1 = pc') (w : own_W p e En below kc ks Q T (mkF m pc' l' (st))) : own_W p e En below kc ks Q T (mkF m pc Ls (.int v :: st)) := by
  subst hp; exact own_W.step (fun _ q => XS.istoreN X.here hx rfl hd rfl hl q) w
theorem own_lstore (X : Stand p l e R s m args below meth c T locs cells slots) (hx : p.tables.exec = Jvm.exec) {k : Nat} {v : Int64} {l' : Array Slot} (hd : decode c.code pc = .ok (.lstore k, 2)) (hl : storeLocals Ls k (.long v) = some l') (hp : pc + 2 = pc') (w : own_W p e En below kc ks Q T (mkF m pc' l' (st))) : own_W p e En below kc ks Q T (mkF m pc Ls (.long v :: st)) := by
  subst hp; exact own_W.step (fun _ q => XS.lstore X.here hx rfl hd rfl hl q) w
theorem own_lstoreN (X : Stand p l e R s m args below meth c T locs cells slots) (hx : p.tables.exec = Jvm.exec) {k : Fin 4} {v : Int64} {l' : Array Slot} (hd : decode c.code pc = .ok (.lstore_n k, 1)) (hl : storeLocals Ls k.val (.long v) = some l') (hp : pc + 1 = pc') (w : own_W p e En below kc ks Q T (mkF m pc' l' (st))) : own_W p e En below kc ks Q T (mkF m pc Ls (.long v :: st)) := by
  subst hp; exact own_W.step (fun _ q => XS.lstoreN X.here hx rfl hd rfl hl q) w
theorem own_astore (X : Stand p l e R s m args below meth c T locs cells slots) (hx : p.tables.exec = Jvm.exec) {k : Nat} {v : Value} {l' : Array Slot} (hd : decode c.code pc = .ok (.astore k, 2)) (hv : v.isRef = true) (hl : storeLocals Ls k v = some l') (hp : pc + 2 = pc') (w : own_W p e En below kc ks Q T (mkF m pc' l' (st))) : own_W p e En below kc ks Q T (mkF m pc Ls (v :: st)) := by
  subst hp; exact own_W.step (fun _ q => XS.astore X.here hx rfl hd rfl hv hl q) w
theorem own_astoreN (X : Stand p l e R s m args below meth c T locs cells slots) (hx : p.tables.exec = Jvm.exec) {k : Fin 4} {v : Value} {l' : Array Slot} (hd : decode c.code pc = .ok (.astore_n k, 1)) (hv : v.isRef = true) (hl : storeLocals Ls k.val v = some l') (hp : pc + 1 = pc') (w : own_W p e En below kc ks Q T (mkF m pc' l' (st))) : own_W p e En below kc ks Q T (mkF m pc Ls (v :: st)) := by
  subst hp; exact own_W.step (fun _ q => XS.astoreN X.here hx rfl hd rfl hv hl q) w
theorem own_iconst (X : Stand p l e R s m args below meth c T locs cells slots) (hx : p.tables.exec = Jvm.exec) {i : Int} (hd : decode c.code pc = .ok (.iconst i, 1)) (v : Int32) (hv : Int32.ofInt i = v) (hp : pc + 1 = pc') (w : own_W p e En below kc ks Q T (mkF m pc' Ls (.int v :: st))) : own_W p e En below kc ks Q T (mkF m pc Ls (st)) := by
  subst hp; exact own_W.step (fun _ q => XT.iconstV X.here hx rfl v hd hv q) w
theorem own_bipush (X : Stand p l e R s m args below meth c T locs cells slots) (hx : p.tables.exec = Jvm.exec) {i : Int} (hd : decode c.code pc = .ok (.bipush i, 2)) (v : Int32) (hv : (Int8.ofInt i).toInt32 = v) (hp : pc + 2 = pc') (w : own_W p e En below kc ks Q T (mkF m pc' Ls (.int v :: st))) : own_W p e En below kc ks Q T (mkF m pc Ls (st)) := by
  subst hp; exact own_W.step (fun _ q => XT.bipushV X.here hx rfl v hd hv q) w
theorem own_sipush (X : Stand p l e R s m args below meth c T locs cells slots) (hx : p.tables.exec = Jvm.exec) {i : Int} (hd : decode c.code pc = .ok (.sipush i, 3)) (v : Int32) (hv : (Int16.ofInt i).toInt32 = v) (hp : pc + 3 = pc') (w : own_W p e En below kc ks Q T (mkF m pc' Ls (.int v :: st))) : own_W p e En below kc ks Q T (mkF m pc Ls (st)) := by
  subst hp; exact own_W.step (fun _ q => XT.sipushV X.here hx rfl v hd hv q) w
theorem own_lconst (X : Stand p l e R s m args below meth c T locs cells slots) (hx : p.tables.exec = Jvm.exec) {k : Fin 2} (hd : decode c.code pc = .ok (.lconst k, 1)) (v : Int64) (hv : Int64.ofNat k = v) (hp : pc + 1 = pc') (w : own_W p e En below kc ks Q T (mkF m pc' Ls (.long v :: st))) : own_W p e En below kc ks Q T (mkF m pc Ls (st)) := by
  subst hp; exact own_W.step (fun _ q => XT.lconstV X.here hx rfl v hd hv q) w
theorem own_aconstNull (X : Stand p l e R s m args below meth c T locs cells slots) (hx : p.tables.exec = Jvm.exec)  (hd : decode c.code pc = .ok (.aconst_null, 1))  (hp : pc + 1 = pc') (w : own_W p e En below kc ks Q T (mkF m pc' Ls (.null :: st))) : own_W p e En below kc ks Q T (mkF m pc Ls (st)) := by
  subst hp; exact own_W.step (fun _ q => XS.aconstNull X.here hx rfl hd q) w
theorem own_ldcInt (X : Stand p l e R s m args below meth c T locs cells slots) (hx : p.tables.exec = Jvm.exec) {own : String} {index : Nat} {v : Int32} (hown : s.vm.findClass own = some m.cls) (hk : (Jvm.Cond.constant own index v).before args s = true) (hd : decode c.code pc = .ok (.ldc index, 2)) (hp : pc + 2 = pc') (w : own_W p e En below kc ks Q T (mkF m pc' Ls (.int v :: st))) : own_W p e En below kc ks Q T (mkF m pc Ls st) := by
  subst hp; exact own_W.step (X.ldcInt hx hown hk (g := mkF m pc Ls st) rfl hd) w
theorem own_ldcwInt (X : Stand p l e R s m args below meth c T locs cells slots) (hx : p.tables.exec = Jvm.exec) {own : String} {index : Nat} {v : Int32} (hown : s.vm.findClass own = some m.cls) (hk : (Jvm.Cond.constant own index v).before args s = true) (hd : decode c.code pc = .ok (.ldc_w index, 3)) (hp : pc + 3 = pc') (w : own_W p e En below kc ks Q T (mkF m pc' Ls (.int v :: st))) : own_W p e En below kc ks Q T (mkF m pc Ls st) := by
  subst hp; exact own_W.step (X.ldcwInt hx hown hk (g := mkF m pc Ls st) rfl hd) w
theorem own_ldc2Long (X : Stand p l e R s m args below meth c T locs cells slots) (hx : p.tables.exec = Jvm.exec) {own : String} {index : Nat} {v : Int64} (hown : s.vm.findClass own = some m.cls) (hk : (Jvm.Cond.constantLong own index v).before args s = true) (hd : decode c.code pc = .ok (.ldc2_w index, 3)) (hp : pc + 3 = pc') (w : own_W p e En below kc ks Q T (mkF m pc' Ls (.long v :: st))) : own_W p e En below kc ks Q T (mkF m pc Ls st) := by
  subst hp; exact own_W.step (X.ldc2Long hx hown hk (g := mkF m pc Ls st) rfl hd) w
theorem own_iadd (X : Stand p l e R s m args below meth c T locs cells slots) (hx : p.tables.exec = Jvm.exec) {x y : Int32} (hd : decode c.code pc = .ok (.iadd, 1))  (hp : pc + 1 = pc') (w : own_W p e En below kc ks Q T (mkF m pc' Ls (.int (x + y) :: st))) : own_W p e En below kc ks Q T (mkF m pc Ls (.int y :: .int x :: st)) := by
  subst hp; exact own_W.step (fun _ q => XS.iadd X.here hx rfl hd rfl q) w
theorem own_ladd (X : Stand p l e R s m args below meth c T locs cells slots) (hx : p.tables.exec = Jvm.exec) {x y : Int64} (hd : decode c.code pc = .ok (.ladd, 1))  (hp : pc + 1 = pc') (w : own_W p e En below kc ks Q T (mkF m pc' Ls (.long (x + y) :: st))) : own_W p e En below kc ks Q T (mkF m pc Ls (.long y :: .long x :: st)) := by
  subst hp; exact own_W.step (fun _ q => XS.ladd X.here hx rfl hd rfl q) w
theorem own_isub (X : Stand p l e R s m args below meth c T locs cells slots) (hx : p.tables.exec = Jvm.exec) {x y : Int32} (hd : decode c.code pc = .ok (.isub, 1))  (hp : pc + 1 = pc') (w : own_W p e En below kc ks Q T (mkF m pc' Ls (.int (x - y) :: st))) : own_W p e En below kc ks Q T (mkF m pc Ls (.int y :: .int x :: st)) := by
  subst hp; exact own_W.step (fun _ q => XS.isub X.here hx rfl hd rfl q) w
theorem own_lsub (X : Stand p l e R s m args below meth c T locs cells slots) (hx : p.tables.exec = Jvm.exec) {x y : Int64} (hd : decode c.code pc = .ok (.lsub, 1))  (hp : pc + 1 = pc') (w : own_W p e En below kc ks Q T (mkF m pc' Ls (.long (x - y) :: st))) : own_W p e En below kc ks Q T (mkF m pc Ls (.long y :: .long x :: st)) := by
  subst hp; exact own_W.step (fun _ q => XS.lsub X.here hx rfl hd rfl q) w
theorem own_imul (X : Stand p l e R s m args below meth c T locs cells slots) (hx : p.tables.exec = Jvm.exec) {x y : Int32} (hd : decode c.code pc = .ok (.imul, 1))  (hp : pc + 1 = pc') (w : own_W p e En below kc ks Q T (mkF m pc' Ls (.int (x * y) :: st))) : own_W p e En below kc ks Q T (mkF m pc Ls (.int y :: .int x :: st)) := by
  subst hp; exact own_W.step (fun _ q => XS.imul X.here hx rfl hd rfl q) w
theorem own_lmul (X : Stand p l e R s m args below meth c T locs cells slots) (hx : p.tables.exec = Jvm.exec) {x y : Int64} (hd : decode c.code pc = .ok (.lmul, 1))  (hp : pc + 1 = pc') (w : own_W p e En below kc ks Q T (mkF m pc' Ls (.long (x * y) :: st))) : own_W p e En below kc ks Q T (mkF m pc Ls (.long y :: .long x :: st)) := by
  subst hp; exact own_W.step (fun _ q => XS.lmul X.here hx rfl hd rfl q) w
theorem own_iand (X : Stand p l e R s m args below meth c T locs cells slots) (hx : p.tables.exec = Jvm.exec) {x y : Int32} (hd : decode c.code pc = .ok (.iand, 1))  (hp : pc + 1 = pc') (w : own_W p e En below kc ks Q T (mkF m pc' Ls (.int (x &&& y) :: st))) : own_W p e En below kc ks Q T (mkF m pc Ls (.int y :: .int x :: st)) := by
  subst hp; exact own_W.step (fun _ q => XS.iand X.here hx rfl hd rfl q) w
theorem own_land (X : Stand p l e R s m args below meth c T locs cells slots) (hx : p.tables.exec = Jvm.exec) {x y : Int64} (hd : decode c.code pc = .ok (.land, 1))  (hp : pc + 1 = pc') (w : own_W p e En below kc ks Q T (mkF m pc' Ls (.long (x &&& y) :: st))) : own_W p e En below kc ks Q T (mkF m pc Ls (.long y :: .long x :: st)) := by
  subst hp; exact own_W.step (fun _ q => XS.land X.here hx rfl hd rfl q) w
theorem own_ior (X : Stand p l e R s m args below meth c T locs cells slots) (hx : p.tables.exec = Jvm.exec) {x y : Int32} (hd : decode c.code pc = .ok (.ior, 1))  (hp : pc + 1 = pc') (w : own_W p e En below kc ks Q T (mkF m pc' Ls (.int (x ||| y) :: st))) : own_W p e En below kc ks Q T (mkF m pc Ls (.int y :: .int x :: st)) := by
  subst hp; exact own_W.step (fun _ q => XS.ior X.here hx rfl hd rfl q) w
theorem own_lor (X : Stand p l e R s m args below meth c T locs cells slots) (hx : p.tables.exec = Jvm.exec) {x y : Int64} (hd : decode c.code pc = .ok (.lor, 1))  (hp : pc + 1 = pc') (w : own_W p e En below kc ks Q T (mkF m pc' Ls (.long (x ||| y) :: st))) : own_W p e En below kc ks Q T (mkF m pc Ls (.long y :: .long x :: st)) := by
  subst hp; exact own_W.step (fun _ q => XS.lor X.here hx rfl hd rfl q) w
theorem own_ixor (X : Stand p l e R s m args below meth c T locs cells slots) (hx : p.tables.exec = Jvm.exec) {x y : Int32} (hd : decode c.code pc = .ok (.ixor, 1))  (hp : pc + 1 = pc') (w : own_W p e En below kc ks Q T (mkF m pc' Ls (.int (x ^^^ y) :: st))) : own_W p e En below kc ks Q T (mkF m pc Ls (.int y :: .int x :: st)) := by
  subst hp; exact own_W.step (fun _ q => XS.ixor X.here hx rfl hd rfl q) w
theorem own_lxor (X : Stand p l e R s m args below meth c T locs cells slots) (hx : p.tables.exec = Jvm.exec) {x y : Int64} (hd : decode c.code pc = .ok (.lxor, 1))  (hp : pc + 1 = pc') (w : own_W p e En below kc ks Q T (mkF m pc' Ls (.long (x ^^^ y) :: st))) : own_W p e En below kc ks Q T (mkF m pc Ls (.long y :: .long x :: st)) := by
  subst hp; exact own_W.step (fun _ q => XS.lxor X.here hx rfl hd rfl q) w
theorem own_idiv (X : Stand p l e R s m args below meth c T locs cells slots) (hx : p.tables.exec = Jvm.exec) {x y : Int32} (hd : decode c.code pc = .ok (.idiv, 1)) (hy : y ≠ 0) (hp : pc + 1 = pc') (w : own_W p e En below kc ks Q T (mkF m pc' Ls (.int (x / y) :: st))) : own_W p e En below kc ks Q T (mkF m pc Ls (.int y :: .int x :: st)) := by
  subst hp; exact own_W.step (fun _ q => XS.idiv X.here hx rfl hd rfl hy q) w
theorem own_ldiv (X : Stand p l e R s m args below meth c T locs cells slots) (hx : p.tables.exec = Jvm.exec) {x y : Int64} (hd : decode c.code pc = .ok (.ldiv, 1)) (hy : y ≠ 0) (hp : pc + 1 = pc') (w : own_W p e En below kc ks Q T (mkF m pc' Ls (.long (x / y) :: st))) : own_W p e En below kc ks Q T (mkF m pc Ls (.long y :: .long x :: st)) := by
  subst hp; exact own_W.step (fun _ q => XS.ldiv X.here hx rfl hd rfl hy q) w
theorem own_irem (X : Stand p l e R s m args below meth c T locs cells slots) (hx : p.tables.exec = Jvm.exec) {x y : Int32} (hd : decode c.code pc = .ok (.irem, 1)) (hy : y ≠ 0) (hp : pc + 1 = pc') (w : own_W p e En below kc ks Q T (mkF m pc' Ls (.int (x % y) :: st))) : own_W p e En below kc ks Q T (mkF m pc Ls (.int y :: .int x :: st)) := by
  subst hp; exact own_W.step (fun _ q => iremM X hx rfl hd rfl hy q) w
theorem own_lrem (X : Stand p l e R s m args below meth c T locs cells slots) (hx : p.tables.exec = Jvm.exec) {x y : Int64} (hd : decode c.code pc = .ok (.lrem, 1)) (hy : y ≠ 0) (hp : pc + 1 = pc') (w : own_W p e En below kc ks Q T (mkF m pc' Ls (.long (x % y) :: st))) : own_W p e En below kc ks Q T (mkF m pc Ls (.long y :: .long x :: st)) := by
  subst hp; exact own_W.step (fun _ q => XS.lrem X.here hx rfl hd rfl hy (by rw [lrem_mod]; exact q)) w
theorem own_ineg (X : Stand p l e R s m args below meth c T locs cells slots) (hx : p.tables.exec = Jvm.exec) {x : Int32} (hd : decode c.code pc = .ok (.ineg, 1))  (hp : pc + 1 = pc') (w : own_W p e En below kc ks Q T (mkF m pc' Ls (.int (-x) :: st))) : own_W p e En below kc ks Q T (mkF m pc Ls (.int x :: st)) := by
  subst hp; exact own_W.step (fun _ q => XS.ineg X.here hx rfl hd rfl q) w
theorem own_lneg (X : Stand p l e R s m args below meth c T locs cells slots) (hx : p.tables.exec = Jvm.exec) {x : Int64} (hd : decode c.code pc = .ok (.lneg, 1))  (hp : pc + 1 = pc') (w : own_W p e En below kc ks Q T (mkF m pc' Ls (.long (-x) :: st))) : own_W p e En below kc ks Q T (mkF m pc Ls (.long x :: st)) := by
  subst hp; exact own_W.step (fun _ q => XS.lneg X.here hx rfl hd rfl q) w
theorem own_i2l (X : Stand p l e R s m args below meth c T locs cells slots) (hx : p.tables.exec = Jvm.exec) {x : Int32} (hd : decode c.code pc = .ok (.i2l, 1))  (hp : pc + 1 = pc') (w : own_W p e En below kc ks Q T (mkF m pc' Ls (.long (x.toInt64) :: st))) : own_W p e En below kc ks Q T (mkF m pc Ls (.int x :: st)) := by
  subst hp; exact own_W.step (fun _ q => XS.i2l X.here hx rfl hd rfl q) w
theorem own_l2i (X : Stand p l e R s m args below meth c T locs cells slots) (hx : p.tables.exec = Jvm.exec) {x : Int64} (hd : decode c.code pc = .ok (.l2i, 1))  (hp : pc + 1 = pc') (w : own_W p e En below kc ks Q T (mkF m pc' Ls (.int (x.toInt32) :: st))) : own_W p e En below kc ks Q T (mkF m pc Ls (.long x :: st)) := by
  subst hp; exact own_W.step (fun _ q => XS.l2i X.here hx rfl hd rfl q) w
theorem own_i2b (X : Stand p l e R s m args below meth c T locs cells slots) (hx : p.tables.exec = Jvm.exec) {x : Int32} (hd : decode c.code pc = .ok (.i2b, 1))  (hp : pc + 1 = pc') (w : own_W p e En below kc ks Q T (mkF m pc' Ls (.int (x.toInt8.toInt32) :: st))) : own_W p e En below kc ks Q T (mkF m pc Ls (.int x :: st)) := by
  subst hp; exact own_W.step (fun _ q => XS.i2b X.here hx rfl hd rfl q) w
theorem own_i2s (X : Stand p l e R s m args below meth c T locs cells slots) (hx : p.tables.exec = Jvm.exec) {x : Int32} (hd : decode c.code pc = .ok (.i2s, 1))  (hp : pc + 1 = pc') (w : own_W p e En below kc ks Q T (mkF m pc' Ls (.int (x.toInt16.toInt32) :: st))) : own_W p e En below kc ks Q T (mkF m pc Ls (.int x :: st)) := by
  subst hp; exact own_W.step (fun _ q => XS.i2s X.here hx rfl hd rfl q) w
theorem own_i2c (X : Stand p l e R s m args below meth c T locs cells slots) (hx : p.tables.exec = Jvm.exec) {x : Int32} (hd : decode c.code pc = .ok (.i2c, 1))  (hp : pc + 1 = pc') (w : own_W p e En below kc ks Q T (mkF m pc' Ls (.int (x.toUInt32.toUInt16.toUInt32.toInt32) :: st))) : own_W p e En below kc ks Q T (mkF m pc Ls (.int x :: st)) := by
  subst hp; exact own_W.step (fun _ q => XS.i2c X.here hx rfl hd rfl q) w
theorem own_ishl (X : Stand p l e R s m args below meth c T locs cells slots) (hx : p.tables.exec = Jvm.exec) {x y : Int32} (hd : decode c.code pc = .ok (.ishl, 1))  (hp : pc + 1 = pc') (w : own_W p e En below kc ks Q T (mkF m pc' Ls (.int (x <<< (y &&& 31)) :: st))) : own_W p e En below kc ks Q T (mkF m pc Ls (.int y :: .int x :: st)) := by
  subst hp; exact own_W.step (fun _ q => XS.ishl X.here hx rfl hd rfl q) w
theorem own_ishr (X : Stand p l e R s m args below meth c T locs cells slots) (hx : p.tables.exec = Jvm.exec) {x y : Int32} (hd : decode c.code pc = .ok (.ishr, 1))  (hp : pc + 1 = pc') (w : own_W p e En below kc ks Q T (mkF m pc' Ls (.int (x >>> (y &&& 31)) :: st))) : own_W p e En below kc ks Q T (mkF m pc Ls (.int y :: .int x :: st)) := by
  subst hp; exact own_W.step (fun _ q => XS.ishr X.here hx rfl hd rfl q) w
theorem own_iushr (X : Stand p l e R s m args below meth c T locs cells slots) (hx : p.tables.exec = Jvm.exec) {x y : Int32} (hd : decode c.code pc = .ok (.iushr, 1))  (hp : pc + 1 = pc') (w : own_W p e En below kc ks Q T (mkF m pc' Ls (.int ((x.toUInt32 >>> (y &&& 31).toUInt32).toInt32) :: st))) : own_W p e En below kc ks Q T (mkF m pc Ls (.int y :: .int x :: st)) := by
  subst hp; exact own_W.step (fun _ q => XS.iushr X.here hx rfl hd rfl q) w
theorem own_lshl (X : Stand p l e R s m args below meth c T locs cells slots) (hx : p.tables.exec = Jvm.exec) {x : Int64} {y : Int32} (hd : decode c.code pc = .ok (.lshl, 1))  (hp : pc + 1 = pc') (w : own_W p e En below kc ks Q T (mkF m pc' Ls (.long (x <<< (y &&& 0x3f).toInt64) :: st))) : own_W p e En below kc ks Q T (mkF m pc Ls (.int y :: .long x :: st)) := by
  subst hp; exact own_W.step (fun _ q => XS.lshl X.here hx rfl hd rfl q) w
theorem own_lshr (X : Stand p l e R s m args below meth c T locs cells slots) (hx : p.tables.exec = Jvm.exec) {x : Int64} {y : Int32} (hd : decode c.code pc = .ok (.lshr, 1))  (hp : pc + 1 = pc') (w : own_W p e En below kc ks Q T (mkF m pc' Ls (.long (x >>> (y &&& 0x3f).toInt64) :: st))) : own_W p e En below kc ks Q T (mkF m pc Ls (.int y :: .long x :: st)) := by
  subst hp; exact own_W.step (fun _ q => XS.lshr X.here hx rfl hd rfl q) w
theorem own_lushr (X : Stand p l e R s m args below meth c T locs cells slots) (hx : p.tables.exec = Jvm.exec) {x : Int64} {y : Int32} (hd : decode c.code pc = .ok (.lushr, 1))  (hp : pc + 1 = pc') (w : own_W p e En below kc ks Q T (mkF m pc' Ls (.long ((x.toUInt64 >>> (y &&& 0x3f).toInt64.toUInt64).toInt64) :: st))) : own_W p e En below kc ks Q T (mkF m pc Ls (.int y :: .long x :: st)) := by
  subst hp; exact own_W.step (fun _ q => XS.lushr X.here hx rfl hd rfl q) w
theorem own_lcmp (X : Stand p l e R s m args below meth c T locs cells slots) (hx : p.tables.exec = Jvm.exec) {x y : Int64} (hd : decode c.code pc = .ok (.lcmp, 1))  (hp : pc + 1 = pc') (w : own_W p e En below kc ks Q T (mkF m pc' Ls (.int (XT.cmpL x y) :: st))) : own_W p e En below kc ks Q T (mkF m pc Ls (.long y :: .long x :: st)) := by
  subst hp; exact own_W.step (fun _ q => XT.lcmp X.here hx rfl hd rfl q) w
theorem own_iinc (X : Stand p l e R s m args below meth c T locs cells slots) (hx : p.tables.exec = Jvm.exec) {k : Nat} {cst : Int} (hd : decode c.code pc = .ok (.iinc k cst, 3)) (v : Int32) (hv : Int32.ofInt cst = v) {x : Int32} {l' : Array Slot} (hl : Ls[k]? = some (.val (.int x))) (hl' : storeLocals Ls k (.int (x + v)) = some l') (hp : pc + 3 = pc') (w : own_W p e En below kc ks Q T (mkF m pc' l' (st))) : own_W p e En below kc ks Q T (mkF m pc Ls (st)) := by
  subst hp; exact own_W.step (fun _ q => XT.iincV X.here hx rfl v hd hv hl hl' q) w
theorem own_dup (X : Stand p l e R s m args below meth c T locs cells slots) (hx : p.tables.exec = Jvm.exec) {x : Value} (hd : decode c.code pc = .ok (.dup, 1)) (hc : x.category = 1) (hp : pc + 1 = pc') (w : own_W p e En below kc ks Q T (mkF m pc' Ls (x :: x :: st))) : own_W p e En below kc ks Q T (mkF m pc Ls (x :: st)) := by
  subst hp; exact own_W.step (fun _ q => XS.dup X.here hx rfl hd rfl hc q) w
theorem own_pop (X : Stand p l e R s m args below meth c T locs cells slots) (hx : p.tables.exec = Jvm.exec) {x : Value} (hd : decode c.code pc = .ok (.pop, 1)) (hc : x.category = 1) (hp : pc + 1 = pc') (w : own_W p e En below kc ks Q T (mkF m pc' Ls (st))) : own_W p e En below kc ks Q T (mkF m pc Ls (x :: st)) := by
  subst hp; exact own_W.step (fun _ q => XS.pop X.here hx rfl hd rfl hc q) w
theorem own_dupX1 (X : Stand p l e R s m args below meth c T locs cells slots) (hx : p.tables.exec = Jvm.exec) {x y : Value} (hd : decode c.code pc = .ok (.dup_x1, 1)) (hc : x.category = 1) (hc2 : y.category = 1) (hp : pc + 1 = pc') (w : own_W p e En below kc ks Q T (mkF m pc' Ls (x :: y :: x :: st))) : own_W p e En below kc ks Q T (mkF m pc Ls (x :: y :: st)) := by
  subst hp; exact own_W.step (fun _ q => XS.dupX1 X.here hx rfl hd rfl hc hc2 q) w
theorem own_dup2 (X : Stand p l e R s m args below meth c T locs cells slots) (hx : p.tables.exec = Jvm.exec) {x y : Value} (hd : decode c.code pc = .ok (.dup2, 1)) (hc : x.category = 1) (hc2 : y.category = 1) (hp : pc + 1 = pc') (w : own_W p e En below kc ks Q T (mkF m pc' Ls (x :: y :: x :: y :: st))) : own_W p e En below kc ks Q T (mkF m pc Ls (x :: y :: st)) := by
  subst hp; exact own_W.step (fun _ q => XT.dup2 X.here hx rfl hd rfl hc hc2 q) w
theorem own_dup2L (X : Stand p l e R s m args below meth c T locs cells slots) (hx : p.tables.exec = Jvm.exec) {x : Int64} (hd : decode c.code pc = .ok (.dup2, 1))  (hp : pc + 1 = pc') (w : own_W p e En below kc ks Q T (mkF m pc' Ls (.long x :: .long x :: st))) : own_W p e En below kc ks Q T (mkF m pc Ls (.long x :: st)) := by
  subst hp; exact own_W.step (fun _ q => XT.dup2L X.here hx rfl hd rfl q) w
theorem own_goto (X : Stand p l e R s m args below meth c T locs cells slots) (hx : p.tables.exec = Jvm.exec) {o : Int} (hd : decode c.code pc = .ok (.goto o, 3)) {pc' : Nat} (ho : 0 ≤ (pc : Int) + o) (hp : ((pc : Int) + o).toNat = pc') (w : own_W p e En below kc ks Q T (mkF m pc' Ls st)) : own_W p e En below kc ks Q T (mkF m pc Ls st) :=
  own_W.step (fun _ q => XS.goto X.here hx rfl rfl hd ho hp q) w
theorem own_ifYes (X : Stand p l e R s m args below meth c T locs cells slots) (hx : p.tables.exec = Jvm.exec) {cd : Jvm.ClassFile.Cond} {x : Int32} {o : Int} (hd : decode c.code pc = .ok (.ifCond cd o, 3)) (hc : ifCond.holds cd x = true) {pc' : Nat} (ho : 0 ≤ (pc : Int) + o) (hp : ((pc : Int) + o).toNat = pc') (w : own_W p e En below kc ks Q T (mkF m pc' Ls st)) : own_W p e En below kc ks Q T (mkF m pc Ls (.int x :: st)) :=
  own_W.step (fun _ q => XS.ifYes X.here hx rfl rfl hd rfl hc ho hp q) w
theorem own_ifNo (X : Stand p l e R s m args below meth c T locs cells slots) (hx : p.tables.exec = Jvm.exec) {cd : Jvm.ClassFile.Cond} {x : Int32} {o : Int} (hd : decode c.code pc = .ok (.ifCond cd o, 3)) (hc : ifCond.holds cd x = false) (hp : pc + 3 = pc') (w : own_W p e En below kc ks Q T (mkF m pc' Ls st)) : own_W p e En below kc ks Q T (mkF m pc Ls (.int x :: st)) := by
  subst hp; exact own_W.step (fun _ q => XS.ifNo X.here hx rfl hd rfl hc q) w
theorem own_icmpYes (X : Stand p l e R s m args below meth c T locs cells slots) (hx : p.tables.exec = Jvm.exec) {cd : Jvm.ClassFile.Cond} {x y : Int32} {o : Int} (hd : decode c.code pc = .ok (.if_icmp cd o, 3)) (hc : if_icmp.holds cd x y = true) {pc' : Nat} (ho : 0 ≤ (pc : Int) + o) (hp : ((pc : Int) + o).toNat = pc') (w : own_W p e En below kc ks Q T (mkF m pc' Ls st)) : own_W p e En below kc ks Q T (mkF m pc Ls (.int y :: .int x :: st)) :=
  own_W.step (fun _ q => XS.icmpYes X.here hx rfl rfl hd rfl hc ho hp q) w
theorem own_icmpNo (X : Stand p l e R s m args below meth c T locs cells slots) (hx : p.tables.exec = Jvm.exec) {cd : Jvm.ClassFile.Cond} {x y : Int32} {o : Int} (hd : decode c.code pc = .ok (.if_icmp cd o, 3)) (hc : if_icmp.holds cd x y = false) (hp : pc + 3 = pc') (w : own_W p e En below kc ks Q T (mkF m pc' Ls st)) : own_W p e En below kc ks Q T (mkF m pc Ls (.int y :: .int x :: st)) := by
  subst hp; exact own_W.step (fun _ q => XS.icmpNo X.here hx rfl hd rfl hc q) w
theorem own_ifnullYes (X : Stand p l e R s m args below meth c T locs cells slots) (hx : p.tables.exec = Jvm.exec) {o : Int} (hd : decode c.code pc = .ok (.ifnull o, 3)) {pc' : Nat} (ho : 0 ≤ (pc : Int) + o) (hp : ((pc : Int) + o).toNat = pc') (w : own_W p e En below kc ks Q T (mkF m pc' Ls st)) : own_W p e En below kc ks Q T (mkF m pc Ls (.null :: st)) :=
  own_W.step (fun _ q => XS.ifnullYes X.here hx rfl rfl hd rfl ho hp q) w
theorem own_ifnullNo (X : Stand p l e R s m args below meth c T locs cells slots) (hx : p.tables.exec = Jvm.exec) {o : Int} (hd : decode c.code pc = .ok (.ifnull o, 3)) (hp : pc + 3 = pc') (w : own_W p e En below kc ks Q T (mkF m pc' Ls st)) : own_W p e En below kc ks Q T (mkF m pc Ls (.ref b :: st)) := by
  subst hp; exact own_W.step (fun _ q => XS.ifnullNo X.here hx rfl hd rfl q) w
theorem own_ifnonnullYes (X : Stand p l e R s m args below meth c T locs cells slots) (hx : p.tables.exec = Jvm.exec) {o : Int} (hd : decode c.code pc = .ok (.ifnonnull o, 3)) {pc' : Nat} (ho : 0 ≤ (pc : Int) + o) (hp : ((pc : Int) + o).toNat = pc') (w : own_W p e En below kc ks Q T (mkF m pc' Ls st)) : own_W p e En below kc ks Q T (mkF m pc Ls (.ref b :: st)) :=
  own_W.step (fun _ q => XS.ifnonnullYes X.here hx rfl rfl hd rfl ho hp q) w
theorem own_ifnonnullNo (X : Stand p l e R s m args below meth c T locs cells slots) (hx : p.tables.exec = Jvm.exec) {o : Int} (hd : decode c.code pc = .ok (.ifnonnull o, 3)) (hp : pc + 3 = pc') (w : own_W p e En below kc ks Q T (mkF m pc' Ls st)) : own_W p e En below kc ks Q T (mkF m pc Ls (.null :: st)) := by
  subst hp; exact own_W.step (fun _ q => XS.ifnonnullNo X.here hx rfl hd rfl q) w
/-- an array: its kind, its length, what each place holds -/
def own_A (Z : State) (h : Heap) (a : Addr) (ty : FieldType) (n : Nat) (f : Nat → Value) : Prop := ∃ c : Cell, Arr Z h a c ty ∧ c.slots.size = n ∧ n < 2 ^ 31 ∧ (∀ i, i < n → c.slots[i]? = some (f i)) ∧ ∀ i, i < n → fits ty (f i) = true
/-- the int j names the place i, which lies in an array of n places -/
def own_In (j : Int32) (i n : Nat) : Prop := j.toInt = (i : Int) ∧ i < n
variable {ty : FieldType} {n i : Nat} {f f' : Nat → Value} {j : Int32}
def own_k0 (_ : Nat) : Int32 := 0
def own_k0L (_ : Nat) : Int64 := 0
def own_up {α : Type} (f : Nat → α) (k : Nat) (x : α) (z : Nat) : α := if z = k then x else f z
theorem own_up_same {α : Type} (f : Nat → α) (k : Nat) (x : α) : own_up f k x k = x := if_pos rfl
theorem own_up_other {α : Type} (f : Nat → α) (k : Nat) (x : α) (z : Nat) (q : z ≠ k) : own_up f k x z = f z := if_neg q
theorem own_In.nat (q : own_In j i n) : j.toNatClampNeg = i := by
  show j.toInt.toNat = i
  rw [q.1]; rfl
theorem own_In.inb {cl : Cell} (q : own_In j i n) (S : cl.slots.size = n) : ¬ (j < 0 ∨ cl.slots.size ≤ j.toNatClampNeg) := by
  rw [q.nat, S]
  have q1 := q.1
  have q2 := q.2
  rintro (r | r)
  · rw [Int32.lt_iff_toInt_lt] at r
    have z : (0 : Int32).toInt = 0 := rfl
    omega
  · omega
theorem own_A.lt (F : own_A Z h a ty n f) : a < h.size := by obtain ⟨c, A, -⟩ := F; exact A.lt
theorem own_A.len (F : own_A Z h a ty n f) : n < 2 ^ 31 := by obtain ⟨c, -, -, q, -, -⟩ := F; exact q
theorem own_A.ext (F : own_A Z h a ty n f) (E : Ext h h') : own_A Z h' a ty n f := by obtain ⟨c, A, r⟩ := F; exact ⟨c, A.ext E, r⟩
theorem own_A.other {v : Value} (F : own_A Z h b ty n f) (W : Wr h h' a sl v) (q : b ≠ a) : own_A Z h' b ty n f := by obtain ⟨c, A, r⟩ := F; exact ⟨c, A.other W q, r⟩
theorem own_A.keep {ws : List Addr} (F : own_A Z h a ty n f) (K : Keep h h' ws) (q : a ∉ ws) : own_A Z h' a ty n f := by obtain ⟨c, A, r⟩ := F; exact ⟨c, ⟨K.2.1 a c A.1 q, A.2⟩, r⟩
theorem own_A.congr (F : own_A Z h a ty n f) (q : ∀ i, i < n → f i = f' i) : own_A Z h a ty n f' := by
  obtain ⟨c, A, r1, r2, r3, r4⟩ := F
  exact ⟨c, A, r1, r2, fun i hi => by rw [r3 i hi, q i hi], fun i hi => by rw [← q i hi]; exact r4 i hi⟩
theorem own_A.fit (F : own_A Z h a ty n f) {i : Nat} (hi : i < n) : fits ty (f i) = true := by obtain ⟨c, A, r1, r2, r3, r4⟩ := F; exact r4 i hi
theorem own_A.new {k : ClassId} {z : Int32} (A : Arr Z h a (newA k ty z) ty) (q : ¬ z < 0) (hn : z.toNatClampNeg = n) : own_A Z h a ty n (fun _ => defaultValue ty) := by
  subst hn
  refine ⟨_, A, sz_new _ _ _, (back32 q).2, fun i hi => ?_, fun i _ => by cases ty <;> rfl⟩
  show (Array.replicate z.toNatClampNeg (defaultValue ty))[i]? = _
  rw [Array.getElem?_replicate, if_pos hi]
theorem own_A.put {cl : Cell} {v : Value} (A : Arr Z h a cl ty) (S : cl.slots.size = n) (hn : n < 2 ^ 31) (H : ∀ i, i < n → cl.slots[i]? = some (f i)) (G : ∀ i, i < n → fits ty (f i) = true) (hv : fits ty v = true) (q : own_In j i n) (W : Wr h h' a j.toNatClampNeg v) : own_A Z h' a ty n (fun z => if z = i then v else f z) := by
  refine ⟨_, A.same W, by rw [sz_set]; exact S, hn, fun k hk => ?_, fun k hk => ?_⟩
  rotate_left
  · show fits ty (if k = i then v else f k) = true
    by_cases e : k = i
    · rw [if_pos e]; exact hv
    · rw [if_neg e]; exact G k hk
  show (cl.slots.setIfInBounds j.toNatClampNeg v)[k]? = some (if k = i then v else f k)
  rw [q.nat, Array.getElem?_setIfInBounds]
  by_cases e : i = k
  · subst e
    rw [if_pos rfl, if_pos (by rw [S]; exact hk), if_pos rfl]
  · rw [if_neg e, if_neg (fun z => e z.symm), H k hk]
theorem own_stI (X : Stand p l e R s m args below meth c T locs cells slots) (hx : p.tables.exec = Jvm.exec) (hZ : Z.Warmed39 s.vm) (eT : T.heap = h) (F : own_A Z h a .int n f) {x : Int32} (hi : own_In j i n) {g : JFrame} (hg : g.method = m) {rest : List Value} (hs : g.stack = .int x :: .int j :: .ref a :: rest) (hd : decode c.code g.pc = .ok (.iastore, 1)) :
    ∃ T' h', Stand p l e R s m args below meth c T' (locs ++ [⟨a, j.toNatClampNeg⟩]) cells slots ∧ T'.heap = h' ∧ Wr h h' a j.toNatClampNeg (.int (x)) ∧ own_A Z h' a .int n (fun z => if z = i then .int (x) else f z) ∧ ∀ target, Steps p.tables e below (T'.setTop { g with pc := g.pc + 1, stack := rest }) target → Steps p.tables e below (T.setTop g) target := by
  obtain ⟨cl, A, S, hn, H, G⟩ := F
  obtain ⟨T', h', X', e', W', st'⟩ := stI X hx hZ eT A (hi.inb S) hg hs hd
  exact ⟨T', h', X', e', W', own_A.put A S hn H G rfl hi W', st'⟩
theorem own_stJ (X : Stand p l e R s m args below meth c T locs cells slots) (hx : p.tables.exec = Jvm.exec) (hZ : Z.Warmed39 s.vm) (eT : T.heap = h) (F : own_A Z h a .long n f) {x : Int64} (hi : own_In j i n) {g : JFrame} (hg : g.method = m) {rest : List Value} (hs : g.stack = .long x :: .int j :: .ref a :: rest) (hd : decode c.code g.pc = .ok (.lastore, 1)) :
    ∃ T' h', Stand p l e R s m args below meth c T' (locs ++ [⟨a, j.toNatClampNeg⟩]) cells slots ∧ T'.heap = h' ∧ Wr h h' a j.toNatClampNeg (.long (x)) ∧ own_A Z h' a .long n (fun z => if z = i then .long (x) else f z) ∧ ∀ target, Steps p.tables e below (T'.setTop { g with pc := g.pc + 1, stack := rest }) target → Steps p.tables e below (T.setTop g) target := by
  obtain ⟨cl, A, S, hn, H, G⟩ := F
  obtain ⟨T', h', X', e', W', st'⟩ := stJ X hx hZ eT A (hi.inb S) hg hs hd
  exact ⟨T', h', X', e', W', own_A.put A S hn H G rfl hi W', st'⟩
theorem own_stB (X : Stand p l e R s m args below meth c T locs cells slots) (hx : p.tables.exec = Jvm.exec) (hZ : Z.Warmed39 s.vm) (eT : T.heap = h) (F : own_A Z h a .byte n f) {x : Int32} (hi : own_In j i n) {g : JFrame} (hg : g.method = m) {rest : List Value} (hs : g.stack = .int x :: .int j :: .ref a :: rest) (hd : decode c.code g.pc = .ok (.bastore, 1)) :
    ∃ T' h', Stand p l e R s m args below meth c T' (locs ++ [⟨a, j.toNatClampNeg⟩]) cells slots ∧ T'.heap = h' ∧ Wr h h' a j.toNatClampNeg (.int (x.toInt8.toInt32)) ∧ own_A Z h' a .byte n (fun z => if z = i then .int (x.toInt8.toInt32) else f z) ∧ ∀ target, Steps p.tables e below (T'.setTop { g with pc := g.pc + 1, stack := rest }) target → Steps p.tables e below (T.setTop g) target := by
  obtain ⟨cl, A, S, hn, H, G⟩ := F
  obtain ⟨T', h', X', e', W', st'⟩ := stB X hx hZ eT A (hi.inb S) hg hs hd
  exact ⟨T', h', X', e', W', own_A.put A S hn H G (fits_nar_byte _) hi W', st'⟩
theorem own_iaload (X : Stand p l e R s m args below meth c T locs cells slots) (hx : p.tables.exec = Jvm.exec) (hZ : Z.Warmed39 s.vm) (eT : T.heap = h) (F : own_A Z h a .int n f) (hi : own_In j i n) {v : Int32} (hv : f i = .int v) {g : JFrame} (hg : g.method = m) {rest : List Value} (hs : g.stack = .int j :: .ref a :: rest) (hd : decode c.code g.pc = .ok (.iaload, 1)) (w : own_W p e En below kc ks Q T { g with pc := g.pc + 1, stack := .int v :: rest }) : own_W p e En below kc ks Q T g := by
  obtain ⟨cl, A, S, hn, H, -⟩ := F
  exact own_W.step (X.iaload hx (j := j) (v := .int v) (by rw [eT]; exact A.1) (State.isArrayOf_alike hZ.alike A.2.1) A.2.2 (hi.inb S) (by rw [hi.nat, H i hi.2, hv]) (g := g) hg hs hd) w
theorem own_laload (X : Stand p l e R s m args below meth c T locs cells slots) (hx : p.tables.exec = Jvm.exec) (hZ : Z.Warmed39 s.vm) (eT : T.heap = h) (F : own_A Z h a .long n f) (hi : own_In j i n) {v : Int64} (hv : f i = .long v) {g : JFrame} (hg : g.method = m) {rest : List Value} (hs : g.stack = .int j :: .ref a :: rest) (hd : decode c.code g.pc = .ok (.laload, 1)) (w : own_W p e En below kc ks Q T { g with pc := g.pc + 1, stack := .long v :: rest }) : own_W p e En below kc ks Q T g := by
  obtain ⟨cl, A, S, hn, H, -⟩ := F
  exact own_W.step (X.laload hx (j := j) (v := .long v) (by rw [eT]; exact A.1) (State.isArrayOf_alike hZ.alike A.2.1) A.2.2 (hi.inb S) (by rw [hi.nat, H i hi.2, hv]) (g := g) hg hs hd) w
theorem own_baload (X : Stand p l e R s m args below meth c T locs cells slots) (hx : p.tables.exec = Jvm.exec) (hZ : Z.Warmed39 s.vm) (eT : T.heap = h) (F : own_A Z h a .byte n f) (hi : own_In j i n) {v : Int32} (hv : f i = .int v) {g : JFrame} (hg : g.method = m) {rest : List Value} (hs : g.stack = .int j :: .ref a :: rest) (hd : decode c.code g.pc = .ok (.baload, 1)) (w : own_W p e En below kc ks Q T { g with pc := g.pc + 1, stack := .int v :: rest }) : own_W p e En below kc ks Q T g := by
  obtain ⟨cl, A, S, hn, H, -⟩ := F
  exact own_W.step (X.baloadBytes hx (j := j) (v := .int v) (by rw [eT]; exact A.1) (State.isArrayOf_alike hZ.alike A.2.1) A.2.2 (hi.inb S) (by rw [hi.nat, H i hi.2, hv]) (g := g) hg hs hd) w
theorem own_alen (X : Stand p l e R s m args below meth c T locs cells slots) (hx : p.tables.exec = Jvm.exec) (hZ : Z.Warmed39 s.vm) (eT : T.heap = h) (F : own_A Z h a ty n f) {z : Int32} (hz : n.toInt32 = z) {g : JFrame} (hg : g.method = m) {rest : List Value} (hs : g.stack = .ref a :: rest) (hd : decode c.code g.pc = .ok (.arraylength, 1)) (w : own_W p e En below kc ks Q T { g with pc := g.pc + 1, stack := .int z :: rest }) : own_W p e En below kc ks Q T g := by
  obtain ⟨cl, A, S, hn, H, -⟩ := F
  subst hz S
  exact own_W.step (X.arraylength hx (by rw [eT]; exact A.1) (State.isArrayOf_alike hZ.alike A.2.1) (g := g) hg hs hd) w

/-- a constructor whose entry is resolved already (a nest mate's private one) -/
theorem own_ready {a0 : Array Value} {own : String} {index : Nat} {y : MethodName} (hZ : Z.Warmed39 s.vm) (hown : s.vm.findClass own = some m.cls) (hy : y.cls ≠ "java/lang/invoke/MethodHandle" ∧ y.cls ≠ "java/lang/invoke/VarHandle") (w : (Jvm.Cond.methodRef own index y).before a0 Z = true) (wi : (Jvm.Cond.instanceMethod y).before a0 Z = true) (ev : Env) :
    ∀ (U : State) (r : MethodId), s.WarmedH U.vm → s.methodNamed? y = some r → namesResolved U.vm m.cls index r.cls ∧ U.vm.methodReady m.cls index r := by
  intro U r hW hn
  obtain ⟨mk, methM, hnZ, -⟩ := Cond.instanceMethod_spec wi
  have hZU : Z.Warmed39 U.vm := wtrans hZ hW
  have h1 := Cond.methodRef_warmed39 hZU hnZ hy w
  have e0 : (Z.setVm s.vm).methodNamed? y = Z.methodNamed? y := State.methodNamed?_setVm hZ.alike y
  have e1 : s.methodNamed? y = (Z.setVm s.vm).methodNamed? y := rfl
  have e2 : mk = r := by rw [e1, e0, hnZ] at hn; exact Option.some.inj hn
  subst e2
  have e3 : (Z.setVm U.vm).methodNamed? y = some mk := by rw [State.methodNamed?_setVm hZU.alike y]; exact hnZ
  have hcur : (Z.setVm U.vm).vm.findClass own = some m.cls := by
    show U.vm.findClass own = _
    rw [hW.alike.findClass]; exact hown
  obtain ⟨m', c', hm, hready, hfind, hnr⟩ := Cond.methodRef_named ev hcur h1
  cases hm.symm.trans (State.methodFound?_of_named e3 hy)
  cases hfind.symm.trans (findClass_of_methodNamed e3)
  exact ⟨hnr, hready⟩
theorem own_specialRef (X : Stand p l e R s m args below meth c T locs cells slots) (hexec : p.tables.exec = Jvm.exec) (hZ : Z.Warmed39 s.vm) {a0 : Array Value} {own : String} {index : Nat} {y : MethodName} (hy1 : y.name = "<init>") (hown : s.vm.findClass own = some m.cls) (w : (Jvm.Cond.methodRef own index y).before a0 Z = true) (wi : (Jvm.Cond.instanceMethod y).before a0 Z = true)
    {bytes : ByteArray} {maxL : Nat} (wc : (Jvm.Cond.code y bytes maxL none).before a0 Z = true) (hy : y.cls ≠ "java/lang/invoke/MethodHandle" ∧ y.cls ≠ "java/lang/invoke/VarHandle")
    {W : Nat} {Pre : Pt → Array Value → Prop} {Post : Pt → Array Value → Option Value → Pt → Prop} (hK : Back l R p e below s args y 3 W Pre Post)
    {g : JFrame} (hg : g.method = m) (hsize : g.locals.size = c.maxLocals) {s₀ : State} (hcome : Steps p.tables e below s₀ (T.setTop g)) {a : Addr} {argsL rest : List Value}
    (hlen : ∀ sig, parseMethodDescriptor y.desc = some sig → argsL.length = sig.parameters.length) (hstack : g.stack = argsL.reverse ++ .ref a :: rest) (hW : 2 * g.monitorRoom + (rest.map fun v => v.category).sum ≤ W)
    (hdg : decode c.code g.pc = .ok (.invokespecial index, 3)) (hpre : ∀ vm₁, s.WarmedH vm₁ → Pre ⟨T.setVm vm₁, locs, cells, slots⟩ (.ref a :: argsL).toArray) :
    ∃ (v : Option Value) (vm₁ : Vm) (B : Pt), s.WarmedH vm₁ ∧ Stand p l e R s m args below meth c B.U B.locs B.cells B.slots ∧ Post ⟨T.setVm vm₁, locs, cells, slots⟩ (.ref a :: argsL).toArray v B ∧
      Steps p.tables e below s₀ (B.U.setTop { g with pc := g.pc + 3, stack := v.toList ++ rest }) :=
  (SCall.of_ready hexec hy1 (mvT hZ wi) (mvT hZ wc) (own_ready hZ hown hy w wi e)) X hK hg hsize hcome hlen hstack hW hdg hpre
theorem own_selP {a0 : Array Value} {y : MethodName} {n : Nat} (wp : (Jvm.Cond.privateMethod y).before a0 Z = true) (wi : (Jvm.Cond.instanceMethod y).before a0 Z = true) (wn : (Jvm.Cond.instantiable y.cls n).before a0 Z = true) (hy : y.cls ≠ "java/lang/invoke/MethodHandle" ∧ y.cls ≠ "java/lang/invoke/VarHandle") : (Jvm.Cond.selects y.cls y y).before a0 Z = true := by
  obtain ⟨mk, methM, hn, hm, hst, hab⟩ := Cond.instanceMethod_spec wi
  obtain ⟨c, k, hc, hk, -, hi, -⟩ := Cond.instantiable_spec wn
  have hcls : Z.vm.findClass y.cls = some mk.cls := findClass_of_methodNamed hn
  cases hc.symm.trans hcls
  have hf := State.methodFound?_of_named hn hy
  have hs : selectMethod {} Z.vm mk.cls mk = .method mk := selectMethod_private hm (Cond.privateMethod_at wp mk methM hn hm)
  have hki : k.isInterface = false := (Bool.or_eq_false_iff.mp hi).1
  simp [Cond.before, Cond.holds, Cond.value, hcls, hf, hn, hs, hk, hki]
end OwnW

/-! 1. plain law -/
def own_lmax (x y : Int64) : Int64 := if x < y then y else x
def own_lmin (x y : Int64) : Int64 := if y < x then y else x
def own_u (p : Int32) : Nat := (p.toInt % 4294967296).toNat
def own_nl (p : Int32) : Int32 := Int32.ofNat (31 - Nat.log2 (own_u p))
def own_nL (x : Int64) : Int32 := Int32.ofNat (63 - Nat.log2 x.toInt.toNat)
def own_bN (n : Nat) : Nat := if n < 1024 then n else 1024 + (Nat.log2 n - 10) * 512 + n / 2 ^ (Nat.log2 n - 9) - 512
def own_long (i : Int32) : Int64 := if i < (1024 : Int32) then i.toInt64 else (((((512 : Int32) + ((i - (1024 : Int32)) % (512 : Int32))).toInt64) <<< ((((10 : Int32) + ((i - (1024 : Int32)) / (512 : Int32))) - (9 : Int32)) &&& 0x3f).toInt64) + (((1 : Int64) <<< ((((10 : Int32) + ((i - (1024 : Int32)) / (512 : Int32))) - (9 : Int32)) &&& 0x3f).toInt64) - (1 : Int64)))
def own_rank (cn n k : Int64) : Int64 := ((cn / n) * k) + (((((cn % n) * k) + n) - (1 : Int64)) / n)
def own_sum (f : Nat → Int64) : Nat → Int64
  | 0 => 0
  | n + 1 => own_sum f n + f n
def own_pct (f : Nat → Int64) (rk mx : Int64) : Nat → Nat → Int64 → Int64
  | 0, _, _ => 0
  | n + 1, i, t => if t + f i < rk then own_pct f rk mx n (i + 1) (t + f i) else own_lmin (own_long (Int32.ofNat i)) mx
def own_rec (f : Nat → Int64) (x : Int64) (z : Nat) : Int64 := own_up f (own_bN (own_lmax x (0 : Int64)).toInt.toNat) ((f (own_bN (own_lmax x (0 : Int64)).toInt.toNat)) + (1 : Int64)) z
def own_rm (m x : Int64) : Int64 := if m < (own_lmax x (0 : Int64)) then (own_lmax x (0 : Int64)) else m
def own_af (f g : Nat → Int64) (i z : Nat) : Int64 := if z < i then f z + g z else f z
def own_st (p x n : Int32) (b : Nat) : Prop := ∃ sh : Nat, n.toInt = 31 - (sh : Int) ∧ x.toInt = ((own_u p / 2 ^ sh : Nat) : Int) ∧ 1 ≤ x.toInt ∧ x.toInt < (b : Int)
theorem own_kbv (k : Int32) (h : 0 ≤ k.toInt) : (k.toBitVec.toNat : Int) = k.toInt := by
  have e : k.toInt = k.toBitVec.toInt := rfl
  rw [e] at h ⊢
  rw [BitVec.toInt_eq_toNat_cond] at h ⊢
  have := k.toBitVec.isLt
  split at h
  · rw [if_pos (by assumption)]
  · omega
theorem own_log {u k : Nat} (h1 : 2 ^ k ≤ u) (h2 : u < 2 ^ (k + 1)) : Nat.log2 u = k := by
  have h0 : u ≠ 0 := by have := Nat.two_pow_pos k; omega
  apply Nat.le_antisymm
  · exact Nat.le_of_lt_succ ((Nat.log2_lt h0).2 h2)
  · exact (Nat.le_log2 h0).2 h1
theorem own_logb {u : Nat} (h0 : u ≠ 0) : 2 ^ Nat.log2 u ≤ u ∧ u < 2 ^ (Nat.log2 u + 1) := ⟨(Nat.le_log2 h0).1 (Nat.le_refl _), (Nat.log2_lt h0).1 (Nat.lt_succ_self _)⟩
theorem own_u32 (p : Int32) : own_u p < 4294967296 := by
  unfold own_u
  omega
theorem own_st0 {p : Int32} (h : (0 : Int32) < p) : own_st p p (31 : Int32) 2147483648 := by
  rw [Int32.lt_iff_toInt_lt, show (0 : Int32).toInt = 0 from rfl] at h
  have r := rng32 p
  refine ⟨0, by decide, ?_, by omega, by omega⟩
  rw [Nat.pow_zero, Nat.div_one]
  unfold own_u
  omega
theorem own_stN {p x n : Int32} {b b' : Nat} (h : own_st p x n b) (c : Int32) (hc : c.toInt = (b' : Int)) (hx : x < c) : own_st p x n b' := by
  rw [Int32.lt_iff_toInt_lt, hc] at hx
  obtain ⟨sh, h1, h2, h3, h4⟩ := h
  exact ⟨sh, h1, h2, h3, hx⟩
theorem own_stS {p x n : Int32} {b : Nat} (h : own_st p x n b) (k : Int32) (kn : Nat) (hk : k.toBitVec.toNat % 32 = kn) (h0 : 0 < kn) (d : Int32) (hd : d.toInt = -(kn : Int)) (c : Int32) (hc : c.toInt = ((2 ^ kn : Nat) : Int)) (b' : Nat) (hb : b ≤ b' * 2 ^ kn) (hx : ¬ x < c) :
    own_st p ((x.toUInt32 >>> (k &&& 31).toUInt32).toInt32) (n + d) b' := by
  rw [Int32.lt_iff_toInt_lt, hc] at hx
  obtain ⟨sh, h1, h2, h3, h4⟩ := h
  have e := c_iushr x k kn hk h0
  have r := rng32 x
  have pw : own_u p / 2 ^ sh / 2 ^ kn = own_u p / 2 ^ (sh + kn) := by rw [Nat.div_div_eq_div_mul, Nat.pow_add]
  have e0 : x.toInt % 4294967296 = ((own_u p / 2 ^ sh : Nat) : Int) := by omega
  rw [e0] at e
  have e1 : ((own_u p / 2 ^ sh : Nat) : Int) / ((2 ^ kn : Nat) : Int) = ((own_u p / 2 ^ (sh + kn) : Nat) : Int) := by rw [← pw]; rfl
  rw [e1] at e
  have hp : 0 < 2 ^ kn := Nat.two_pow_pos kn
  have l1 : 1 ≤ own_u p / 2 ^ (sh + kn) := by rw [← pw]; exact Nat.div_pos (by omega) hp
  have l2 : own_u p / 2 ^ (sh + kn) < b' := by rw [← pw]; exact (Nat.div_lt_iff_lt_mul hp).2 (by omega)
  have l3 : sh + kn ≤ 31 := by
    apply Nat.le_of_not_lt
    intro q
    have := Nat.pow_le_pow_right (show 0 < 2 by decide) (show 32 ≤ sh + kn from q)
    rw [Nat.div_eq_of_lt (Nat.lt_of_lt_of_le (own_u32 p) this)] at l1
    omega
  have a := c_iadd n d
  have ra := rng32 (n + d)
  refine ⟨sh + kn, ?_, e, by omega, by omega⟩
  omega
theorem own_stE {p x n : Int32} (h : own_st p x n 4) : n - ((x.toUInt32 >>> ((1 : Int32) &&& 31).toUInt32).toInt32) = own_nl p := by
  obtain ⟨sh, h1, h2, h3, h4⟩ := h
  have e := c_iushr x (1 : Int32) 1 (by decide) (by decide)
  have e2 : ((x.toUInt32 >>> ((1 : Int32) &&& 31).toUInt32).toInt32).toInt = x.toInt / 2 := by rw [e]; have := rng32 x; omega
  have hp : 0 < 2 ^ sh := Nat.two_pow_pos sh
  have l3 : sh ≤ 31 := by
    apply Nat.le_of_not_lt
    intro q
    have := Nat.pow_le_pow_right (show 0 < 2 by decide) (show 32 ≤ sh from q)
    rw [Nat.div_eq_of_lt (Nat.lt_of_lt_of_le (own_u32 p) this)] at h2
    omega
  have a := c_isub n ((x.toUInt32 >>> ((1 : Int32) &&& 31).toUInt32).toInt32)
  have ra := rng32 (n - ((x.toUInt32 >>> ((1 : Int32) &&& 31).toUInt32).toInt32))
  apply Int32.toInt_inj.mp
  unfold own_nl
  have d1 : own_u p / 2 ^ sh * 2 ^ sh ≤ own_u p := Nat.div_mul_le_self _ _
  have d2 : own_u p < (own_u p / 2 ^ sh + 1) * 2 ^ sh := by rw [← Nat.div_lt_iff_lt_mul hp]; omega
  by_cases q : x.toInt = 1
  · have u1 : own_u p / 2 ^ sh = 1 := by omega
    rw [u1] at d1 d2
    rw [own_log (u := own_u p) (k := sh) (by omega) (by rw [Nat.pow_succ]; omega), Int32.toInt_ofNat_of_lt (by omega)]
    omega
  · have u2 : 2 ≤ own_u p / 2 ^ sh ∧ own_u p / 2 ^ sh ≤ 3 := by omega
    have d3 : 2 * 2 ^ sh ≤ own_u p / 2 ^ sh * 2 ^ sh := Nat.mul_le_mul_right _ u2.1
    have d4 : (own_u p / 2 ^ sh + 1) * 2 ^ sh ≤ 4 * 2 ^ sh := Nat.mul_le_mul_right _ (by omega)
    have l4 : sh + 1 ≤ 31 := by
      apply Nat.le_of_not_lt
      intro q'
      have := Nat.pow_le_pow_right (show 0 < 2 by decide) (show 31 ≤ sh by omega)
      have := own_u32 p
      omega
    rw [own_log (u := own_u p) (k := sh + 1) (by rw [Nat.pow_succ]; omega) (by rw [Nat.pow_succ, Nat.pow_succ]; omega), Int32.toInt_ofNat_of_lt (by omega)]
    omega
theorem own_nlneg {p : Int32} (h : ¬ (0 : Int32) < p) (h0 : p ≠ 0) : (0 : Int32) = own_nl p := by
  rw [Int32.lt_iff_toInt_lt, show (0 : Int32).toInt = 0 from rfl] at h
  have r := rng32 p
  have n0 : p.toInt ≠ 0 := fun q => h0 (Int32.toInt_inj.mp q)
  have u : 2147483648 ≤ own_u p := by unfold own_u; omega
  unfold own_nl
  rw [own_log (u := own_u p) (k := 31) u (own_u32 p)]
  rfl
theorem own_nLlo {x : Int64} (hx : 0 < x.toInt) (h : (((x.toUInt64 >>> ((32 : Int32) &&& 0x3f).toInt64.toUInt64).toInt64).toInt32) = (0 : Int32)) : x.toInt32 ≠ 0 ∧ (32 : Int32) + own_nl x.toInt32 = own_nL x := by
  have e1 := c_lushr x (32 : Int32) 32 (by decide) (by decide)
  have e2 := c_l2i ((x.toUInt64 >>> ((32 : Int32) &&& 0x3f).toInt64.toUInt64).toInt64)
  rw [h, show (0 : Int32).toInt = 0 from rfl] at e2
  have r := rng64 x
  have e3 := c_l2i x
  have r3 := rng32 x.toInt32
  have u : own_u x.toInt32 = x.toInt.toNat := by unfold own_u; omega
  have n0 : x.toInt.toNat ≠ 0 := by omega
  have lb := own_logb n0
  have l32 : Nat.log2 x.toInt.toNat < 32 := (Nat.log2_lt n0).2 (by omega)
  refine ⟨fun q => ?_, ?_⟩
  · rw [q, show (0 : Int32).toInt = 0 from rfl] at e3
    omega
  · apply Int32.toInt_inj.mp
    have a := c_iadd (32 : Int32) (own_nl x.toInt32)
    have ra := rng32 ((32 : Int32) + own_nl x.toInt32)
    have t : (32 : Int32).toInt = 32 := by decide
    have v1 : (own_nl x.toInt32).toInt = ((31 - Nat.log2 x.toInt.toNat : Nat) : Int) := by unfold own_nl; rw [u]; exact Int32.toInt_ofNat_of_lt (by omega)
    have v2 : (own_nL x).toInt = ((63 - Nat.log2 x.toInt.toNat : Nat) : Int) := by unfold own_nL; exact Int32.toInt_ofNat_of_lt (by omega)
    omega
theorem own_nLhi {x : Int64} (hx : 0 < x.toInt) (h : ¬ (((x.toUInt64 >>> ((32 : Int32) &&& 0x3f).toInt64.toUInt64).toInt64).toInt32) = (0 : Int32)) : own_nl (((x.toUInt64 >>> ((32 : Int32) &&& 0x3f).toInt64.toUInt64).toInt64).toInt32) = own_nL x := by
  have e1 := c_lushr x (32 : Int32) 32 (by decide) (by decide)
  have e2 := c_l2i ((x.toUInt64 >>> ((32 : Int32) &&& 0x3f).toInt64.toUInt64).toInt64)
  have r := rng64 x
  have n0 : (((x.toUInt64 >>> ((32 : Int32) &&& 0x3f).toInt64.toUInt64).toInt64).toInt32).toInt ≠ 0 := fun q => h (Int32.toInt_inj.mp q)
  have r2 := rng32 (((x.toUInt64 >>> ((32 : Int32) &&& 0x3f).toInt64.toUInt64).toInt64).toInt32)
  have u : own_u (((x.toUInt64 >>> ((32 : Int32) &&& 0x3f).toInt64.toUInt64).toInt64).toInt32) = x.toInt.toNat / 4294967296 := by unfold own_u; omega
  have z0 : x.toInt.toNat / 4294967296 ≠ 0 := by omega
  have lb := own_logb z0
  have l31 : Nat.log2 (x.toInt.toNat / 4294967296) < 31 := (Nat.log2_lt z0).2 (by omega)
  have lg : Nat.log2 x.toInt.toNat = Nat.log2 (x.toInt.toNat / 4294967296) + 32 := by
    apply own_log
    · rw [Nat.pow_add]
      have := Nat.mul_le_mul_right 4294967296 lb.1
      omega
    · rw [show Nat.log2 (x.toInt.toNat / 4294967296) + 32 + 1 = Nat.log2 (x.toInt.toNat / 4294967296) + 1 + 32 from by omega, Nat.pow_add]
      exact (Nat.div_lt_iff_lt_mul (by decide)).1 lb.2
  apply Int32.toInt_inj.mp
  unfold own_nl own_nL
  rw [u, lg, Int32.toInt_ofNat_of_lt (by omega), Int32.toInt_ofNat_of_lt (by omega)]
  omega
theorem own_bX {n : Nat} (h : ¬ n < 1024) (h2 : n < 9223372036854775808) : 10 ≤ Nat.log2 n ∧ Nat.log2 n ≤ 62 ∧ 512 ≤ n / 2 ^ (Nat.log2 n - 9) ∧ n / 2 ^ (Nat.log2 n - 9) < 1024 := by
  have n0 : n ≠ 0 := by omega
  have lb := own_logb n0
  have a1 : 10 ≤ Nat.log2 n := (Nat.le_log2 n0).2 (by omega)
  have a2 : Nat.log2 n < 63 := (Nat.log2_lt n0).2 (by omega)
  have hp : 0 < 2 ^ (Nat.log2 n - 9) := Nat.two_pow_pos _
  have s1 : 2 ^ Nat.log2 n = 2 ^ (Nat.log2 n - 9) * 512 := by
    rw [show (512 : Nat) = 2 ^ 9 from rfl, ← Nat.pow_add]
    congr 1
    omega
  have s2 : 2 ^ (Nat.log2 n + 1) = 2 ^ (Nat.log2 n - 9) * 1024 := by
    rw [show (1024 : Nat) = 2 ^ 10 from rfl, ← Nat.pow_add]
    congr 1
    omega
  refine ⟨a1, by omega, ?_, ?_⟩
  · exact (Nat.le_div_iff_mul_le hp).2 (by omega)
  · exact (Nat.div_lt_iff_lt_mul hp).2 (by omega)
theorem own_bL (x : Int64) : own_bN x.toInt.toNat < 28160 := by
  have r := rng64 x
  unfold own_bN
  split
  · omega
  · rename_i h
    obtain ⟨a1, a2, a3, a4⟩ := own_bX h (by omega)
    omega
theorem own_bT (x : Int64) : (Int32.ofNat (own_bN x.toInt.toNat)).toInt = (own_bN x.toInt.toNat : Int) := Int32.toInt_ofNat_of_lt (by have := own_bL x; omega)
theorem own_bk1 {x : Int64} (h0 : 0 ≤ x.toInt) (h : x < (1024 : Int64)) : x.toInt32 = Int32.ofNat (own_bN x.toInt.toNat) := by
  rw [Int64.lt_iff_toInt_lt, show (1024 : Int64).toInt = 1024 from by decide] at h
  have e := c_l2i x
  have r := rng32 x.toInt32
  apply Int32.toInt_inj.mp
  rw [own_bT]
  unfold own_bN
  rw [if_pos (by omega)]
  omega
theorem own_bk2 {x : Int64} {ex sh : Int32} (h0 : 0 ≤ x.toInt) (h : ¬ x < (1024 : Int64)) (hex : ex = (63 : Int32) - own_nL x) (hsh : sh = ex - (9 : Int32)) :
    (((1024 : Int32) + ((ex - (10 : Int32)) * (512 : Int32))) + (((x.toUInt64 >>> (sh &&& 0x3f).toInt64.toUInt64).toInt64).toInt32)) - (512 : Int32) = Int32.ofNat (own_bN x.toInt.toNat) := by
  rw [Int64.lt_iff_toInt_lt, show (1024 : Int64).toInt = 1024 from by decide] at h
  have r := rng64 x
  obtain ⟨a1, a2, a3, a4⟩ := own_bX (n := x.toInt.toNat) (by omega) (by omega)
  have v2 : (own_nL x).toInt = ((63 - Nat.log2 x.toInt.toNat : Nat) : Int) := by unfold own_nL; exact Int32.toInt_ofNat_of_lt (by omega)
  have t63 : (63 : Int32).toInt = 63 := by decide
  have t9 : (9 : Int32).toInt = 9 := by decide
  have t10 : (10 : Int32).toInt = 10 := by decide
  have t512 : (512 : Int32).toInt = 512 := by decide
  have t1024 : (1024 : Int32).toInt = 1024 := by decide
  have b1 := c_isub (63 : Int32) (own_nL x)
  rw [← hex] at b1
  have rb1 := rng32 ex
  have vex : ex.toInt = (Nat.log2 x.toInt.toNat : Int) := by omega
  have b2 := c_isub ex (9 : Int32)
  rw [← hsh] at b2
  have rb2 := rng32 sh
  have vsh : sh.toInt = ((Nat.log2 x.toInt.toNat - 9 : Nat) : Int) := by omega
  have kb := own_kbv sh (by omega)
  have e := c_lushr x sh (Nat.log2 x.toInt.toNat - 9) (by omega) (by omega)
  have e' : ((x.toUInt64 >>> (sh &&& 0x3f).toInt64.toUInt64).toInt64).toInt = ((x.toInt.toNat / 2 ^ (Nat.log2 x.toInt.toNat - 9) : Nat) : Int) := by
    rw [e, show x.toInt % 18446744073709551616 = ((x.toInt.toNat : Nat) : Int) from by omega]
    rfl
  have e2 := c_l2i ((x.toUInt64 >>> (sh &&& 0x3f).toInt64.toUInt64).toInt64)
  have r2 := rng32 (((x.toUInt64 >>> (sh &&& 0x3f).toInt64.toUInt64).toInt64).toInt32)
  have b3 := c_isub ex (10 : Int32)
  have rb3 := rng32 (ex - (10 : Int32))
  have v3 : (ex - (10 : Int32)).toInt = (Nat.log2 x.toInt.toNat : Int) - 10 := by omega
  have b4 := c_imul (ex - (10 : Int32)) (512 : Int32)
  have rb4 := rng32 ((ex - (10 : Int32)) * (512 : Int32))
  rw [v3, t512] at b4
  have b5 := c_iadd (1024 : Int32) ((ex - (10 : Int32)) * (512 : Int32))
  have rb5 := rng32 ((1024 : Int32) + ((ex - (10 : Int32)) * (512 : Int32)))
  have b6 := c_iadd ((1024 : Int32) + ((ex - (10 : Int32)) * (512 : Int32))) (((x.toUInt64 >>> (sh &&& 0x3f).toInt64.toUInt64).toInt64).toInt32)
  have rb6 := rng32 (((1024 : Int32) + ((ex - (10 : Int32)) * (512 : Int32))) + (((x.toUInt64 >>> (sh &&& 0x3f).toInt64.toUInt64).toInt64).toInt32))
  have b7 := c_isub (((1024 : Int32) + ((ex - (10 : Int32)) * (512 : Int32))) + (((x.toUInt64 >>> (sh &&& 0x3f).toInt64.toUInt64).toInt64).toInt32)) (512 : Int32)
  have rb7 := rng32 ((((1024 : Int32) + ((ex - (10 : Int32)) * (512 : Int32))) + (((x.toUInt64 >>> (sh &&& 0x3f).toInt64.toUInt64).toInt64).toInt32)) - (512 : Int32))
  apply Int32.toInt_inj.mp
  rw [own_bT]
  unfold own_bN
  rw [if_neg (by omega)]
  omega
theorem own_mx0 (x : Int64) : 0 ≤ (own_lmax x (0 : Int64)).toInt := by
  unfold own_lmax
  split
  · decide
  · rename_i h
    rw [Int64.lt_iff_toInt_lt, show (0 : Int64).toInt = 0 from rfl] at h
    omega
theorem own_rm0 (x : Int64) : own_rm (0 : Int64) x = own_lmax x (0 : Int64) := by
  have h := own_mx0 x
  unfold own_rm
  split
  · rfl
  · rename_i q
    rw [Int64.lt_iff_toInt_lt, show (0 : Int64).toInt = 0 from rfl] at q
    apply Int64.toInt_inj.mp
    rw [show (0 : Int64).toInt = 0 from rfl]
    omega
theorem own_rme (m y : Int64) : own_lmax m (own_rm (0 : Int64) y) = own_rm m y := by
  rw [own_rm0]
  rfl
theorem own_rmz (x : Int64) : own_lmax (own_rm (0 : Int64) x) (0 : Int64) = own_rm (0 : Int64) x := by
  have h := own_mx0 x
  rw [own_rm0]
  show (if own_lmax x (0 : Int64) < (0 : Int64) then (0 : Int64) else own_lmax x (0 : Int64)) = _
  rw [if_neg]
  rw [Int64.lt_iff_toInt_lt, show (0 : Int64).toInt = 0 from rfl]
  omega
theorem own_mz (x : Int64) : own_lmax (own_lmax x (0 : Int64)) (0 : Int64) = own_lmax (own_rm (0 : Int64) x) (0 : Int64) := by rw [own_rm0]
theorem own_pctT (f : Nat → Int64) (rk mx : Int64) (i : Nat) (t : Int64) (hi : i < 28160) (h : t + f i < rk) : own_pct f rk mx (28160 - i) i t = own_pct f rk mx (28160 - (i + 1)) (i + 1) (t + f i) := by
  obtain ⟨n, hn⟩ : ∃ n, n = 28160 - (i + 1) := ⟨_, rfl⟩
  rw [show 28160 - i = n + 1 from by omega, ← hn]
  exact if_pos h
theorem own_pctF (f : Nat → Int64) (rk mx : Int64) (i : Nat) (t : Int64) (hi : i < 28160) (h : ¬ t + f i < rk) : own_pct f rk mx (28160 - i) i t = own_lmin (own_long (Int32.ofNat i)) mx := by
  obtain ⟨n, hn⟩ : ∃ n, n = 28160 - (i + 1) := ⟨_, rfl⟩
  rw [show 28160 - i = n + 1 from by omega]
  exact if_neg h
theorem own_ofN {j : Int32} {i : Nat} (h : j.toInt = (i : Int)) (hi : i < 30000) : Int32.ofNat i = j := by
  apply Int32.toInt_inj.mp
  rw [h]
  exact Int32.toInt_ofNat_of_lt (by omega)
theorem own_inc {j : Int32} {i : Nat} (h : j.toInt = (i : Int)) (hi : i < 30000) : (j + (1 : Int32)).toInt = ((i + 1 : Nat) : Int) := by
  have e := c_iadd j (1 : Int32)
  have r := rng32 (j + (1 : Int32))
  have t : (1 : Int32).toInt = 1 := by decide
  omega
theorem own_lt28 {j : Int32} {i : Nat} (h : j.toInt = (i : Int)) : j < (28160 : Int32) ↔ i < 28160 := by
  rw [Int32.lt_iff_toInt_lt, h, show (28160 : Int32).toInt = 28160 from by decide]
  omega
theorem own_inb {f : Nat → Int64} {rk : Int64} {i : Nat} (hf : ∃ N : Nat, N < 28160 ∧ ¬ (own_sum f (N + 1) < rk)) (hl : ∀ j, j < i → own_sum f (j + 1) < rk) : i < 28160 := by
  obtain ⟨N, h1, h2⟩ := hf
  apply Nat.lt_of_not_le
  intro q
  exact h2 (hl N (by omega))
theorem own_hl {f : Nat → Int64} {rk : Int64} {i : Nat} (hl : ∀ j, j < i → own_sum f (j + 1) < rk) (h : own_sum f i + f i < rk) : ∀ j, j < i + 1 → own_sum f (j + 1) < rk := by
  intro j hj
  by_cases q : j = i
  · rw [q]
    exact h
  · exact hl j (by omega)
theorem own_qn0 {q : Int64} (h : ¬ q < (1 : Int64)) : q ≠ 0 := by
  intro z
  apply h
  rw [z]
  decide
theorem own_af0 (f g : Nat → Int64) (z : Nat) : f z = own_af f g 0 z := (if_neg (by omega)).symm
theorem own_afs (f g : Nat → Int64) (i z : Nat) : (if z = i then Value.long ((own_af f g i i) + (g i)) else .long (own_af f g i z)) = .long (own_af f g (i + 1) z) := by
  unfold own_af
  by_cases q : z = i
  · rw [if_pos q, q, if_neg (by omega), if_pos (by omega)]
  · rw [if_neg q]
    by_cases r : z < i
    · rw [if_pos r, if_pos (by omega)]
    · rw [if_neg r, if_neg (by omega)]
theorem own_afe (f : Nat → Int64) (y : Int64) (z : Nat) (hz : z < 28160) : own_af f (own_rec own_k0L y) 28160 z = own_rec f y z := by
  unfold own_af
  rw [if_pos hz]
  unfold own_rec own_up own_k0L
  split
  · rename_i q
    rw [q, Int64.zero_add]
  · exact Int64.add_zero _
theorem own_afk (f : Nat → Int64) (z : Nat) (hz : z < 28160) : own_af f own_k0L 28160 z = f z := by
  unfold own_af
  rw [if_pos hz]
  exact Int64.add_zero _
theorem own_sumk (n : Nat) : own_sum own_k0L n = 0 := by
  induction n with
  | zero => rfl
  | succ n ih =>
    show own_sum own_k0L n + own_k0L n = 0
    rw [ih]
    rfl
theorem own_sumr (f : Nat → Int64) (y : Int64) (n : Nat) : own_sum (own_rec f y) n = own_sum f n + (if own_bN (own_lmax y (0 : Int64)).toInt.toNat < n then 1 else 0) := by
  induction n with
  | zero => rfl
  | succ n ih =>
    show own_sum (own_rec f y) n + own_rec f y n = own_sum f n + f n + _
    rw [ih]
    unfold own_rec own_up
    by_cases q : n = own_bN (own_lmax y (0 : Int64)).toInt.toNat
    · rw [if_pos q, if_neg (by omega), if_pos (by omega), ← q, Int64.add_zero, Int64.add_assoc]
    · rw [if_neg q]
      by_cases r : own_bN (own_lmax y (0 : Int64)).toInt.toNat < n
      · rw [if_pos r, if_pos (by omega), Int64.add_assoc, Int64.add_assoc, Int64.add_comm 1]
      · rw [if_neg r, if_neg (by omega), Int64.add_zero, Int64.add_zero]
theorem own_fin1 (y : Int64) {kv cn : Int64} (hk : kv = 1) (hc : cn = 1) : ∃ N : Nat, N < 28160 ∧ ¬ (own_sum (own_rec own_k0L y) (N + 1) < own_rank cn (1 : Int64) kv) := by
  refine ⟨28159, by decide, ?_⟩
  rw [own_sumr, own_sumk, if_pos (own_bL _), hk, hc]
  decide
theorem own_fin2 (x y : Int64) {kv cn : Int64} (hk : kv = 1 ∨ kv = 2) (hc : cn = 2) : ∃ N : Nat, N < 28160 ∧ ¬ (own_sum (own_rec (own_rec own_k0L x) y) (N + 1) < own_rank cn (2 : Int64) kv) := by
  refine ⟨28159, by decide, ?_⟩
  rw [own_sumr, own_sumr, own_sumk, if_pos (own_bL _), if_pos (own_bL _), hc]
  rcases hk with rfl | rfl <;> decide
theorem own_kv1 (p : Int32) {kv : Int64} (h : kv = (1 : Int64) + ((((p.toUInt32 >>> ((2 : Int32) &&& 31).toUInt32).toInt32).toInt64) % (1 : Int64))) : kv = 1 := by
  have e1 := c_iushr p (2 : Int32) 2 (by decide) (by decide)
  have e2 := c_i2l ((p.toUInt32 >>> ((2 : Int32) &&& 31).toUInt32).toInt32)
  have e3 : ((((p.toUInt32 >>> ((2 : Int32) &&& 31).toUInt32).toInt32).toInt64) % (1 : Int64)).toInt = 0 := by
    rw [Int64.toInt_mod, Int.tmod_eq_emod_of_nonneg (by rw [e2, e1]; omega), show (1 : Int64).toInt = 1 from by decide]
    omega
  have a := c_ladd (1 : Int64) ((((p.toUInt32 >>> ((2 : Int32) &&& 31).toUInt32).toInt32).toInt64) % (1 : Int64))
  rw [← h, show (1 : Int64).toInt = 1 from by decide] at a
  have r := rng64 kv
  apply Int64.toInt_inj.mp
  rw [show (1 : Int64).toInt = 1 from by decide]
  omega
theorem own_kv2 (p : Int32) {kv : Int64} (h : kv = (1 : Int64) + ((((p.toUInt32 >>> ((2 : Int32) &&& 31).toUInt32).toInt32).toInt64) % (2 : Int64))) : kv = 1 ∨ kv = 2 := by
  have e1 := c_iushr p (2 : Int32) 2 (by decide) (by decide)
  have e2 := c_i2l ((p.toUInt32 >>> ((2 : Int32) &&& 31).toUInt32).toInt32)
  have e3 : 0 ≤ ((((p.toUInt32 >>> ((2 : Int32) &&& 31).toUInt32).toInt32).toInt64) % (2 : Int64)).toInt ∧ ((((p.toUInt32 >>> ((2 : Int32) &&& 31).toUInt32).toInt32).toInt64) % (2 : Int64)).toInt ≤ 1 := by
    rw [Int64.toInt_mod, Int.tmod_eq_emod_of_nonneg (by rw [e2, e1]; omega), show (2 : Int64).toInt = 2 from by decide]
    omega
  have a := c_ladd (1 : Int64) ((((p.toUInt32 >>> ((2 : Int32) &&& 31).toUInt32).toInt32).toInt64) % (2 : Int64))
  rw [← h, show (1 : Int64).toInt = 1 from by decide] at a
  have r := rng64 kv
  by_cases q : kv.toInt = 1
  · exact Or.inl (Int64.toInt_inj.mp q)
  · exact Or.inr (Int64.toInt_inj.mp (by rw [show (2 : Int64).toInt = 2 from by decide]; omega))
theorem d12_0 : decode jdk_29_method_70_code 0 = .ok (.lload_n 0, 1) := by decide +kernel
theorem d12_1 : decode jdk_29_method_70_code 1 = .ok (.lload_n 2, 1) := by decide +kernel
theorem d12_2 : decode jdk_29_method_70_code 2 = .ok (.lcmp, 1) := by decide +kernel
theorem d12_3 : decode jdk_29_method_70_code 3 = .ok (.ifCond .gt 7, 3) := by decide +kernel
theorem d12_6 : decode jdk_29_method_70_code 6 = .ok (.lload_n 0, 1) := by decide +kernel
theorem d12_7 : decode jdk_29_method_70_code 7 = .ok (.goto 4, 3) := by decide +kernel
theorem d12_10 : decode jdk_29_method_70_code 10 = .ok (.lload_n 2, 1) := by decide +kernel
theorem d12_11 : decode jdk_29_method_70_code 11 = .ok (.lreturn, 1) := by decide +kernel
theorem ef_12 (m : MethodId) (xa : Int64) (xb : Int64) : entryFrame m #[(.long xa), (.long xb)] 4 = mkF m 0 #[.val (.long xa), .second, .val (.long xb), .second] [] := by first | (simp [entryFrame, mkF, argsToLocals, Value.category]; done) | rfl
def Q12 (Z : State) (xa : Int64) (xb : Int64)  (h0 : Heap) (n0 : Nat) (v : Option Value) (h : Heap) (L : List Loc) : Prop := v = some (.long (own_lmin xa xb)) ∧ Fr n0 L ∧ h = h0
set_option maxRecDepth 65536 in
set_option maxHeartbeats 40000000 in
theorem rm12 (l : Launch) (Z : State) (a0 : Array Value) (hw : ∀ d ∈ tables_1, d.before a0 Z = true) (ws : List Jvm.Cond) (xa : Int64) (xb : Int64)  (h0 : Heap) (n0 : Nat) (Z0 : n0 ≤ h0.size)  :
    MetFree l (⟨"java/lang/Math", "min", "(JJ)J"⟩ : MethodName) (head1 (Jvm.Cond.code (⟨"java/lang/Math", "min", "(JJ)J"⟩ : MethodName) jdk_29_method_70_code 4 (some .long) :: ws) ({ frames := 0, cells := 0, slots := 0, locals := 0 } : Room)) (fun avs U => avs = #[(.long xa), (.long xb)] ∧ Z.Warmed39 U.vm ∧ U.heap = h0) (fun _ _ _ _ _ => True) (fun _ U o U' => ∃ v L, o = .returned v ∧ Q12 Z xa xb h0 n0 v U'.heap L ∧ FrameEnd U o U' L ({ frames := 0, cells := 0, slots := 0, locals := 0 } : Room).cells ({ frames := 0, cells := 0, slots := 0, locals := 0 } : Room).slots) := by
  refine MetFree.of_bodySF (Jvm.Free.JP.mathPlain rfl (by decide +kernel)) hisR ?_
  intro p e s m args below meth c s₁ Bd hml0 hP hK
  obtain ⟨rfl, hZ, hh⟩ := hP
  have hx := Bd.exec
  have hby := Bd.bytes
  have hml : c.maxLocals = 4 := hml0
  have hown : s.vm.findClass "java/lang/Math" = some m.cls := findClass_of_methodNamed Bd.named
  have hnm := (name_of_methodNamed Bd.named Bd.method).1
  have hlk := Bd.notSynchronized
  have hret := Bd.returns
  have X0 : Stand p l e ({ frames := 0, cells := 0, slots := 0, locals := 0 } : Room) s m #[(.long xa), (.long xb)] below meth c s₁ [] 0 0 := Stand.of_body Bd
  have e0 : s₁.heap = h0 := by rw [← hh, Bd.state]; rfl
  have N0 := Fr.nil n0
  show own_W p e (FrameEnd s) below ({ frames := 0, cells := 0, slots := 0, locals := 0 } : Room).cells ({ frames := 0, cells := 0, slots := 0, locals := 0 } : Room).slots (Q12 Z xa xb h0 n0) s₁ (entryFrame m #[(.long xa), (.long xb)] 4)
  rw [ef_12]
  refine own_lloadN X0 hx (hb hby d12_0) (v := xa) rfl (rfl : 0 + 1 = 1) ?_
  refine own_lloadN X0 hx (hb hby d12_1) (v := xb) rfl (rfl : 1 + 1 = 2) ?_
  refine own_lcmp X0 hx (hb hby d12_2) (rfl : 2 + 1 = 3) ?_
  by_cases hc3 : xb < xa
  · skip
    refine own_ifYes X0 hx (hb hby d12_3) (XT.ll_gt_t hc3) (pc' := 10) (by decide) (by decide) ?_
    refine own_lloadN X0 hx (hb hby d12_10) (v := xb) rfl (rfl : 10 + 1 = 11) ?_
    refine own_retJ X0 hx hlk hret (hb hby d12_11) (by decide) (by decide) ?_
    show Q12 Z xa xb h0 n0 (some (.long xb)) s₁.heap _
    rw [e0]
    exact ⟨by simp only [own_lmin, if_pos hc3], N0, rfl⟩
  · skip
    refine own_ifNo X0 hx (hb hby d12_3) (XT.ll_gt_f hc3) (rfl : 3 + 3 = 6) ?_
    refine own_lloadN X0 hx (hb hby d12_6) (v := xa) rfl (rfl : 6 + 1 = 7) ?_
    refine own_goto X0 hx (hb hby d12_7) (pc' := 11) (by decide) (by decide) ?_
    refine own_retJ X0 hx hlk hret (hb hby d12_11) (by decide) (by decide) ?_
    show Q12 Z xa xb h0 n0 (some (.long xa)) s₁.heap _
    rw [e0]
    exact ⟨by simp only [own_lmin, if_neg hc3], N0, rfl⟩
theorem d4_0 : decode jdk_29_method_66_code 0 = .ok (.lload_n 0, 1) := by decide +kernel
theorem d4_1 : decode jdk_29_method_66_code 1 = .ok (.lload_n 2, 1) := by decide +kernel
theorem d4_2 : decode jdk_29_method_66_code 2 = .ok (.lcmp, 1) := by decide +kernel
theorem d4_3 : decode jdk_29_method_66_code 3 = .ok (.ifCond .lt 7, 3) := by decide +kernel
theorem d4_6 : decode jdk_29_method_66_code 6 = .ok (.lload_n 0, 1) := by decide +kernel
theorem d4_7 : decode jdk_29_method_66_code 7 = .ok (.goto 4, 3) := by decide +kernel
theorem d4_10 : decode jdk_29_method_66_code 10 = .ok (.lload_n 2, 1) := by decide +kernel
theorem d4_11 : decode jdk_29_method_66_code 11 = .ok (.lreturn, 1) := by decide +kernel
theorem ef_4 (m : MethodId) (xa : Int64) (xb : Int64) : entryFrame m #[(.long xa), (.long xb)] 4 = mkF m 0 #[.val (.long xa), .second, .val (.long xb), .second] [] := by first | (simp [entryFrame, mkF, argsToLocals, Value.category]; done) | rfl
def Q4 (Z : State) (xa : Int64) (xb : Int64)  (h0 : Heap) (n0 : Nat) (v : Option Value) (h : Heap) (L : List Loc) : Prop := v = some (.long (own_lmax xa xb)) ∧ Fr n0 L ∧ h = h0
set_option maxRecDepth 65536 in
set_option maxHeartbeats 40000000 in
theorem rm4 (l : Launch) (Z : State) (a0 : Array Value) (hw : ∀ d ∈ tables_1, d.before a0 Z = true) (ws : List Jvm.Cond) (xa : Int64) (xb : Int64)  (h0 : Heap) (n0 : Nat) (Z0 : n0 ≤ h0.size)  :
    MetFree l (⟨"java/lang/Math", "max", "(JJ)J"⟩ : MethodName) (head1 (Jvm.Cond.code (⟨"java/lang/Math", "max", "(JJ)J"⟩ : MethodName) jdk_29_method_66_code 4 (some .long) :: ws) ({ frames := 0, cells := 0, slots := 0, locals := 0 } : Room)) (fun avs U => avs = #[(.long xa), (.long xb)] ∧ Z.Warmed39 U.vm ∧ U.heap = h0) (fun _ _ _ _ _ => True) (fun _ U o U' => ∃ v L, o = .returned v ∧ Q4 Z xa xb h0 n0 v U'.heap L ∧ FrameEnd U o U' L ({ frames := 0, cells := 0, slots := 0, locals := 0 } : Room).cells ({ frames := 0, cells := 0, slots := 0, locals := 0 } : Room).slots) := by
  refine MetFree.of_bodySF (Jvm.Free.JP.mathPlain rfl (by decide +kernel)) hisR ?_
  intro p e s m args below meth c s₁ Bd hml0 hP hK
  obtain ⟨rfl, hZ, hh⟩ := hP
  have hx := Bd.exec
  have hby := Bd.bytes
  have hml : c.maxLocals = 4 := hml0
  have hown : s.vm.findClass "java/lang/Math" = some m.cls := findClass_of_methodNamed Bd.named
  have hnm := (name_of_methodNamed Bd.named Bd.method).1
  have hlk := Bd.notSynchronized
  have hret := Bd.returns
  have X0 : Stand p l e ({ frames := 0, cells := 0, slots := 0, locals := 0 } : Room) s m #[(.long xa), (.long xb)] below meth c s₁ [] 0 0 := Stand.of_body Bd
  have e0 : s₁.heap = h0 := by rw [← hh, Bd.state]; rfl
  have N0 := Fr.nil n0
  show own_W p e (FrameEnd s) below ({ frames := 0, cells := 0, slots := 0, locals := 0 } : Room).cells ({ frames := 0, cells := 0, slots := 0, locals := 0 } : Room).slots (Q4 Z xa xb h0 n0) s₁ (entryFrame m #[(.long xa), (.long xb)] 4)
  rw [ef_4]
  refine own_lloadN X0 hx (hb hby d4_0) (v := xa) rfl (rfl : 0 + 1 = 1) ?_
  refine own_lloadN X0 hx (hb hby d4_1) (v := xb) rfl (rfl : 1 + 1 = 2) ?_
  refine own_lcmp X0 hx (hb hby d4_2) (rfl : 2 + 1 = 3) ?_
  by_cases hc3 : xa < xb
  · skip
    refine own_ifYes X0 hx (hb hby d4_3) (XT.ll_lt_t hc3) (pc' := 10) (by decide) (by decide) ?_
    refine own_lloadN X0 hx (hb hby d4_10) (v := xb) rfl (rfl : 10 + 1 = 11) ?_
    refine own_retJ X0 hx hlk hret (hb hby d4_11) (by decide) (by decide) ?_
    show Q4 Z xa xb h0 n0 (some (.long xb)) s₁.heap _
    rw [e0]
    exact ⟨by simp only [own_lmax, if_pos hc3], N0, rfl⟩
  · skip
    refine own_ifNo X0 hx (hb hby d4_3) (XT.ll_lt_f hc3) (rfl : 3 + 3 = 6) ?_
    refine own_lloadN X0 hx (hb hby d4_6) (v := xa) rfl (rfl : 6 + 1 = 7) ?_
    refine own_goto X0 hx (hb hby d4_7) (pc' := 11) (by decide) (by decide) ?_
    refine own_retJ X0 hx hlk hret (hb hby d4_11) (by decide) (by decide) ?_
    show Q4 Z xa xb h0 n0 (some (.long xa)) s₁.heap _
    rw [e0]
    exact ⟨by simp only [own_lmax, if_neg hc3], N0, rfl⟩
theorem d14_0 : decode jdk_33_method_47_code 0 = .ok (.iload_n 0, 1) := by decide +kernel
theorem d14_1 : decode jdk_33_method_47_code 1 = .ok (.ifCond .gt 14, 3) := by decide +kernel
theorem d14_4 : decode jdk_33_method_47_code 4 = .ok (.iload_n 0, 1) := by decide +kernel
theorem d14_5 : decode jdk_33_method_47_code 5 = .ok (.ifCond .ne 8, 3) := by decide +kernel
theorem d14_13 : decode jdk_33_method_47_code 13 = .ok (.iconst 0, 1) := by decide +kernel
theorem d14_14 : decode jdk_33_method_47_code 14 = .ok (.ireturn, 1) := by decide +kernel
theorem d14_15 : decode jdk_33_method_47_code 15 = .ok (.bipush 31, 2) := by decide +kernel
theorem d14_17 : decode jdk_33_method_47_code 17 = .ok (.istore_n 1, 1) := by decide +kernel
theorem d14_18 : decode jdk_33_method_47_code 18 = .ok (.iload_n 0, 1) := by decide +kernel
theorem d14_19 : decode jdk_33_method_47_code 19 = .ok (.ldc_w 264, 3) := by decide +kernel
theorem d14_22 : decode jdk_33_method_47_code 22 = .ok (.if_icmp .lt 11, 3) := by decide +kernel
theorem d14_25 : decode jdk_33_method_47_code 25 = .ok (.iinc 1 (-16), 3) := by decide +kernel
theorem d14_28 : decode jdk_33_method_47_code 28 = .ok (.iload_n 0, 1) := by decide +kernel
theorem d14_29 : decode jdk_33_method_47_code 29 = .ok (.bipush 16, 2) := by decide +kernel
theorem d14_31 : decode jdk_33_method_47_code 31 = .ok (.iushr, 1) := by decide +kernel
theorem d14_32 : decode jdk_33_method_47_code 32 = .ok (.istore_n 0, 1) := by decide +kernel
theorem d14_33 : decode jdk_33_method_47_code 33 = .ok (.iload_n 0, 1) := by decide +kernel
theorem d14_34 : decode jdk_33_method_47_code 34 = .ok (.sipush 256, 3) := by decide +kernel
theorem d14_37 : decode jdk_33_method_47_code 37 = .ok (.if_icmp .lt 11, 3) := by decide +kernel
theorem d14_40 : decode jdk_33_method_47_code 40 = .ok (.iinc 1 (-8), 3) := by decide +kernel
theorem d14_43 : decode jdk_33_method_47_code 43 = .ok (.iload_n 0, 1) := by decide +kernel
theorem d14_44 : decode jdk_33_method_47_code 44 = .ok (.bipush 8, 2) := by decide +kernel
theorem d14_46 : decode jdk_33_method_47_code 46 = .ok (.iushr, 1) := by decide +kernel
theorem d14_47 : decode jdk_33_method_47_code 47 = .ok (.istore_n 0, 1) := by decide +kernel
theorem d14_48 : decode jdk_33_method_47_code 48 = .ok (.iload_n 0, 1) := by decide +kernel
theorem d14_49 : decode jdk_33_method_47_code 49 = .ok (.bipush 16, 2) := by decide +kernel
theorem d14_51 : decode jdk_33_method_47_code 51 = .ok (.if_icmp .lt 10, 3) := by decide +kernel
theorem d14_54 : decode jdk_33_method_47_code 54 = .ok (.iinc 1 (-4), 3) := by decide +kernel
theorem d14_57 : decode jdk_33_method_47_code 57 = .ok (.iload_n 0, 1) := by decide +kernel
theorem d14_58 : decode jdk_33_method_47_code 58 = .ok (.iconst 4, 1) := by decide +kernel
theorem d14_59 : decode jdk_33_method_47_code 59 = .ok (.iushr, 1) := by decide +kernel
theorem d14_60 : decode jdk_33_method_47_code 60 = .ok (.istore_n 0, 1) := by decide +kernel
theorem d14_61 : decode jdk_33_method_47_code 61 = .ok (.iload_n 0, 1) := by decide +kernel
theorem d14_62 : decode jdk_33_method_47_code 62 = .ok (.iconst 4, 1) := by decide +kernel
theorem d14_63 : decode jdk_33_method_47_code 63 = .ok (.if_icmp .lt 10, 3) := by decide +kernel
theorem d14_66 : decode jdk_33_method_47_code 66 = .ok (.iinc 1 (-2), 3) := by decide +kernel
theorem d14_69 : decode jdk_33_method_47_code 69 = .ok (.iload_n 0, 1) := by decide +kernel
theorem d14_70 : decode jdk_33_method_47_code 70 = .ok (.iconst 2, 1) := by decide +kernel
theorem d14_71 : decode jdk_33_method_47_code 71 = .ok (.iushr, 1) := by decide +kernel
theorem d14_72 : decode jdk_33_method_47_code 72 = .ok (.istore_n 0, 1) := by decide +kernel
theorem d14_73 : decode jdk_33_method_47_code 73 = .ok (.iload_n 1, 1) := by decide +kernel
theorem d14_74 : decode jdk_33_method_47_code 74 = .ok (.iload_n 0, 1) := by decide +kernel
theorem d14_75 : decode jdk_33_method_47_code 75 = .ok (.iconst 1, 1) := by decide +kernel
theorem d14_76 : decode jdk_33_method_47_code 76 = .ok (.iushr, 1) := by decide +kernel
theorem d14_77 : decode jdk_33_method_47_code 77 = .ok (.isub, 1) := by decide +kernel
theorem d14_78 : decode jdk_33_method_47_code 78 = .ok (.ireturn, 1) := by decide +kernel
theorem own_pn_java_lang_Integer : plainName "java/lang/Integer" = true := by first | (simp [plainName, overriddenIn]; done) | decide +kernel
theorem ef_14 (m : MethodId) (px : Int32) : entryFrame m #[(.int px)] 2 = mkF m 0 #[.val (.int px), .unset] [] := by first | (simp [entryFrame, mkF, argsToLocals, Value.category]; done) | rfl
def Q14 (Z : State) (px : Int32)  (h0 : Heap) (n0 : Nat) (v : Option Value) (h : Heap) (L : List Loc) : Prop := v = some (.int (own_nl px)) ∧ Fr n0 L ∧ h = h0
set_option maxRecDepth 65536 in
set_option maxHeartbeats 40000000 in
theorem rm14 (l : Launch) (Z : State) (a0 : Array Value) (hw : ∀ d ∈ tables_1, d.before a0 Z = true) (ws : List Jvm.Cond) (px : Int32)  (h0 : Heap) (n0 : Nat) (Z0 : n0 ≤ h0.size) (hp : px ≠ 0) :
    MetFree l (⟨"java/lang/Integer", "numberOfLeadingZeros", "(I)I"⟩ : MethodName) (head1 (Jvm.Cond.code (⟨"java/lang/Integer", "numberOfLeadingZeros", "(I)I"⟩ : MethodName) jdk_33_method_47_code 2 (some .int) :: ws) ({ frames := 0, cells := 0, slots := 0, locals := 0 } : Room)) (fun avs U => avs = #[(.int px)] ∧ Z.Warmed39 U.vm ∧ U.heap = h0) (fun _ _ _ _ _ => True) (fun _ U o U' => ∃ v L, o = .returned v ∧ Q14 Z px h0 n0 v U'.heap L ∧ FrameEnd U o U' L ({ frames := 0, cells := 0, slots := 0, locals := 0 } : Room).cells ({ frames := 0, cells := 0, slots := 0, locals := 0 } : Room).slots) := by
  refine MetFree.of_bodySF (plainFor_of_name own_pn_java_lang_Integer) hisR ?_
  intro p e s m args below meth c s₁ Bd hml0 hP hK
  obtain ⟨rfl, hZ, hh⟩ := hP
  have hx := Bd.exec
  have hby := Bd.bytes
  have hml : c.maxLocals = 2 := hml0
  have hown : s.vm.findClass "java/lang/Integer" = some m.cls := findClass_of_methodNamed Bd.named
  have hnm := (name_of_methodNamed Bd.named Bd.method).1
  have hlk := Bd.notSynchronized
  have hret := Bd.returns
  have X0 : Stand p l e ({ frames := 0, cells := 0, slots := 0, locals := 0 } : Room) s m #[(.int px)] below meth c s₁ [] 0 0 := Stand.of_body Bd
  have e0 : s₁.heap = h0 := by rw [← hh, Bd.state]; rfl
  have N0 := Fr.nil n0
  show own_W p e (FrameEnd s) below ({ frames := 0, cells := 0, slots := 0, locals := 0 } : Room).cells ({ frames := 0, cells := 0, slots := 0, locals := 0 } : Room).slots (Q14 Z px h0 n0) s₁ (entryFrame m #[(.int px)] 2)
  rw [ef_14]
  refine own_iloadN X0 hx (hb hby d14_0) (v := px) rfl (rfl : 0 + 1 = 1) ?_
  by_cases hc1 : (0 : Int32) < px
  · skip
    refine own_ifYes X0 hx (hb hby d14_1) ((if0 _ _).trans (tlt hc1).2.2.1) (pc' := 15) (by decide) (by decide) ?_
    refine own_bipush X0 hx (hb hby d14_15) (31 : Int32) (by first | rfl | decide) (rfl : 15 + 2 = 17) ?_
    refine own_istoreN X0 hx (hb hby d14_17) (l' := #[.val (.int px), .val (.int (31 : Int32))]) rfl (rfl : 17 + 1 = 18) ?_
    have hst0 := own_st0 hc1
    refine own_iloadN X0 hx (hb hby d14_18) (v := px) rfl (rfl : 18 + 1 = 19) ?_
    refine own_ldcwInt X0 hx hown (mvT hZ (hw _ (List.mem_of_getElem? (i := 68) rfl))) (hb hby d14_19) (rfl : 19 + 3 = 22) ?_
    have J33 : ∀ (x1 : Int32) (n1 : Int32), ∀ (hst1 : own_st px x1 n1 65536), own_W p e (FrameEnd s) below ({ frames := 0, cells := 0, slots := 0, locals := 0 } : Room).cells ({ frames := 0, cells := 0, slots := 0, locals := 0 } : Room).slots (Q14 Z px h0 n0) s₁ (mkF m 33 #[.val (.int x1), .val (.int n1)] []) := by
      intro x1 n1 hst1
      refine own_iloadN X0 hx (hb hby d14_33) (v := x1) rfl (rfl : 33 + 1 = 34) ?_
      refine own_sipush X0 hx (hb hby d14_34) (256 : Int32) (by first | rfl | decide) (rfl : 34 + 3 = 37) ?_
      have J48 : ∀ (x2 : Int32) (n2 : Int32), ∀ (hst2 : own_st px x2 n2 256), own_W p e (FrameEnd s) below ({ frames := 0, cells := 0, slots := 0, locals := 0 } : Room).cells ({ frames := 0, cells := 0, slots := 0, locals := 0 } : Room).slots (Q14 Z px h0 n0) s₁ (mkF m 48 #[.val (.int x2), .val (.int n2)] []) := by
        intro x2 n2 hst2
        refine own_iloadN X0 hx (hb hby d14_48) (v := x2) rfl (rfl : 48 + 1 = 49) ?_
        refine own_bipush X0 hx (hb hby d14_49) (16 : Int32) (by first | rfl | decide) (rfl : 49 + 2 = 51) ?_
        have J61 : ∀ (x3 : Int32) (n3 : Int32), ∀ (hst3 : own_st px x3 n3 16), own_W p e (FrameEnd s) below ({ frames := 0, cells := 0, slots := 0, locals := 0 } : Room).cells ({ frames := 0, cells := 0, slots := 0, locals := 0 } : Room).slots (Q14 Z px h0 n0) s₁ (mkF m 61 #[.val (.int x3), .val (.int n3)] []) := by
          intro x3 n3 hst3
          refine own_iloadN X0 hx (hb hby d14_61) (v := x3) rfl (rfl : 61 + 1 = 62) ?_
          refine own_iconst X0 hx (hb hby d14_62) (4 : Int32) (by first | rfl | decide) (rfl : 62 + 1 = 63) ?_
          have J73 : ∀ (x4 : Int32) (n4 : Int32), ∀ (hst4 : own_st px x4 n4 4), own_W p e (FrameEnd s) below ({ frames := 0, cells := 0, slots := 0, locals := 0 } : Room).cells ({ frames := 0, cells := 0, slots := 0, locals := 0 } : Room).slots (Q14 Z px h0 n0) s₁ (mkF m 73 #[.val (.int x4), .val (.int n4)] []) := by
            intro x4 n4 hst4
            refine own_iloadN X0 hx (hb hby d14_73) (v := n4) rfl (rfl : 73 + 1 = 74) ?_
            refine own_iloadN X0 hx (hb hby d14_74) (v := x4) rfl (rfl : 74 + 1 = 75) ?_
            refine own_iconst X0 hx (hb hby d14_75) (1 : Int32) (by first | rfl | decide) (rfl : 75 + 1 = 76) ?_
            refine own_iushr X0 hx (hb hby d14_76) (rfl : 76 + 1 = 77) ?_
            refine own_isub X0 hx (hb hby d14_77) (rfl : 77 + 1 = 78) ?_
            refine own_retI X0 hx hlk hret (hb hby d14_78) (by decide) (by decide) ?_
            show Q14 Z px h0 n0 (some (.int (n4 - ((x4.toUInt32 >>> ((1 : Int32) &&& 31).toUInt32).toInt32)))) s₁.heap _
            rw [e0]
            exact ⟨congrArg (fun z => some (Value.int z)) (own_stE hst4), N0, rfl⟩
          by_cases hc63 : x3 < (4 : Int32)
          · skip
            refine own_icmpYes X0 hx (hb hby d14_63) (tlt hc63).1 (pc' := 73) (by decide) (by decide) ?_
            exact J73 (x3) (n3)   (own_stN hst3 (4 : Int32) (by decide) hc63)
          · skip
            refine own_icmpNo X0 hx (hb hby d14_63) (flt hc63).1 (rfl : 63 + 3 = 66) ?_
            refine own_iinc X0 hx (hb hby d14_66) (-2 : Int32) rfl (x := n3) rfl (l' := #[.val (.int x3), .val (.int (n3 + (-2 : Int32)))]) rfl (rfl : 66 + 3 = 69) ?_
            refine own_iloadN X0 hx (hb hby d14_69) (v := x3) rfl (rfl : 69 + 1 = 70) ?_
            refine own_iconst X0 hx (hb hby d14_70) (2 : Int32) (by first | rfl | decide) (rfl : 70 + 1 = 71) ?_
            refine own_iushr X0 hx (hb hby d14_71) (rfl : 71 + 1 = 72) ?_
            refine own_istoreN X0 hx (hb hby d14_72) (l' := #[.val (.int ((x3.toUInt32 >>> ((2 : Int32) &&& 31).toUInt32).toInt32)), .val (.int (n3 + (-2 : Int32)))]) rfl (rfl : 72 + 1 = 73) ?_
            exact J73 (((x3.toUInt32 >>> ((2 : Int32) &&& 31).toUInt32).toInt32)) ((n3 + (-2 : Int32)))   (own_stS hst3 (2 : Int32) 2 (by decide) (by decide) (-2 : Int32) (by decide) (4 : Int32) (by decide) 4 (by decide) hc63)
        by_cases hc51 : x2 < (16 : Int32)
        · skip
          refine own_icmpYes X0 hx (hb hby d14_51) (tlt hc51).1 (pc' := 61) (by decide) (by decide) ?_
          exact J61 (x2) (n2)   (own_stN hst2 (16 : Int32) (by decide) hc51)
        · skip
          refine own_icmpNo X0 hx (hb hby d14_51) (flt hc51).1 (rfl : 51 + 3 = 54) ?_
          refine own_iinc X0 hx (hb hby d14_54) (-4 : Int32) rfl (x := n2) rfl (l' := #[.val (.int x2), .val (.int (n2 + (-4 : Int32)))]) rfl (rfl : 54 + 3 = 57) ?_
          refine own_iloadN X0 hx (hb hby d14_57) (v := x2) rfl (rfl : 57 + 1 = 58) ?_
          refine own_iconst X0 hx (hb hby d14_58) (4 : Int32) (by first | rfl | decide) (rfl : 58 + 1 = 59) ?_
          refine own_iushr X0 hx (hb hby d14_59) (rfl : 59 + 1 = 60) ?_
          refine own_istoreN X0 hx (hb hby d14_60) (l' := #[.val (.int ((x2.toUInt32 >>> ((4 : Int32) &&& 31).toUInt32).toInt32)), .val (.int (n2 + (-4 : Int32)))]) rfl (rfl : 60 + 1 = 61) ?_
          exact J61 (((x2.toUInt32 >>> ((4 : Int32) &&& 31).toUInt32).toInt32)) ((n2 + (-4 : Int32)))   (own_stS hst2 (4 : Int32) 4 (by decide) (by decide) (-4 : Int32) (by decide) (16 : Int32) (by decide) 16 (by decide) hc51)
      by_cases hc37 : x1 < (256 : Int32)
      · skip
        refine own_icmpYes X0 hx (hb hby d14_37) (tlt hc37).1 (pc' := 48) (by decide) (by decide) ?_
        exact J48 (x1) (n1)   (own_stN hst1 (256 : Int32) (by decide) hc37)
      · skip
        refine own_icmpNo X0 hx (hb hby d14_37) (flt hc37).1 (rfl : 37 + 3 = 40) ?_
        refine own_iinc X0 hx (hb hby d14_40) (-8 : Int32) rfl (x := n1) rfl (l' := #[.val (.int x1), .val (.int (n1 + (-8 : Int32)))]) rfl (rfl : 40 + 3 = 43) ?_
        refine own_iloadN X0 hx (hb hby d14_43) (v := x1) rfl (rfl : 43 + 1 = 44) ?_
        refine own_bipush X0 hx (hb hby d14_44) (8 : Int32) (by first | rfl | decide) (rfl : 44 + 2 = 46) ?_
        refine own_iushr X0 hx (hb hby d14_46) (rfl : 46 + 1 = 47) ?_
        refine own_istoreN X0 hx (hb hby d14_47) (l' := #[.val (.int ((x1.toUInt32 >>> ((8 : Int32) &&& 31).toUInt32).toInt32)), .val (.int (n1 + (-8 : Int32)))]) rfl (rfl : 47 + 1 = 48) ?_
        exact J48 (((x1.toUInt32 >>> ((8 : Int32) &&& 31).toUInt32).toInt32)) ((n1 + (-8 : Int32)))   (own_stS hst1 (8 : Int32) 8 (by decide) (by decide) (-8 : Int32) (by decide) (256 : Int32) (by decide) 256 (by decide) hc37)
    by_cases hc22 : px < (65536 : Int32)
    · skip
      refine own_icmpYes X0 hx (hb hby d14_22) (tlt hc22).1 (pc' := 33) (by decide) (by decide) ?_
      exact J33 (px) ((31 : Int32))   (own_stN hst0 (65536 : Int32) (by decide) hc22)
    · skip
      refine own_icmpNo X0 hx (hb hby d14_22) (flt hc22).1 (rfl : 22 + 3 = 25) ?_
      refine own_iinc X0 hx (hb hby d14_25) (-16 : Int32) rfl (x := (31 : Int32)) rfl (l' := #[.val (.int px), .val (.int ((31 : Int32) + (-16 : Int32)))]) rfl (rfl : 25 + 3 = 28) ?_
      refine own_iloadN X0 hx (hb hby d14_28) (v := px) rfl (rfl : 28 + 1 = 29) ?_
      refine own_bipush X0 hx (hb hby d14_29) (16 : Int32) (by first | rfl | decide) (rfl : 29 + 2 = 31) ?_
      refine own_iushr X0 hx (hb hby d14_31) (rfl : 31 + 1 = 32) ?_
      refine own_istoreN X0 hx (hb hby d14_32) (l' := #[.val (.int ((px.toUInt32 >>> ((16 : Int32) &&& 31).toUInt32).toInt32)), .val (.int ((31 : Int32) + (-16 : Int32)))]) rfl (rfl : 32 + 1 = 33) ?_
      exact J33 (((px.toUInt32 >>> ((16 : Int32) &&& 31).toUInt32).toInt32)) (((31 : Int32) + (-16 : Int32)))   (own_stS hst0 (16 : Int32) 16 (by decide) (by decide) (-16 : Int32) (by decide) (65536 : Int32) (by decide) 65536 (by decide) hc22)
  · skip
    refine own_ifNo X0 hx (hb hby d14_1) ((if0 _ _).trans (flt hc1).2.2.1) (rfl : 1 + 3 = 4) ?_
    refine own_iloadN X0 hx (hb hby d14_4) (v := px) rfl (rfl : 4 + 1 = 5) ?_
    have hc5 : ¬ (px = (0 : Int32)) := hp
    refine own_ifYes X0 hx (hb hby d14_5) ((if0 _ _).trans (feq hc5).2) (pc' := 13) (by decide) (by decide) ?_
    refine own_iconst X0 hx (hb hby d14_13) (0 : Int32) (by first | rfl | decide) (rfl : 13 + 1 = 14) ?_
    refine own_retI X0 hx hlk hret (hb hby d14_14) (by decide) (by decide) ?_
    show Q14 Z px h0 n0 (some (.int (0 : Int32))) s₁.heap _
    rw [e0]
    exact ⟨congrArg (fun z => some (Value.int z)) (own_nlneg hc1 hp), N0, rfl⟩
theorem own_pd__I_I : parseMethodDescriptor "(I)I" = some ⟨[.int], some .int⟩ := by decide +kernel
theorem d13_0 : decode jdk_35_method_48_code 0 = .ok (.lload_n 0, 1) := by decide +kernel
theorem d13_1 : decode jdk_35_method_48_code 1 = .ok (.bipush 32, 2) := by decide +kernel
theorem d13_3 : decode jdk_35_method_48_code 3 = .ok (.lushr, 1) := by decide +kernel
theorem d13_4 : decode jdk_35_method_48_code 4 = .ok (.l2i, 1) := by decide +kernel
theorem d13_5 : decode jdk_35_method_48_code 5 = .ok (.istore_n 2, 1) := by decide +kernel
theorem d13_6 : decode jdk_35_method_48_code 6 = .ok (.iload_n 2, 1) := by decide +kernel
theorem d13_7 : decode jdk_35_method_48_code 7 = .ok (.ifCond .ne 14, 3) := by decide +kernel
theorem d13_10 : decode jdk_35_method_48_code 10 = .ok (.bipush 32, 2) := by decide +kernel
theorem d13_12 : decode jdk_35_method_48_code 12 = .ok (.lload_n 0, 1) := by decide +kernel
theorem d13_13 : decode jdk_35_method_48_code 13 = .ok (.l2i, 1) := by decide +kernel
theorem d13_14 : decode jdk_35_method_48_code 14 = .ok (.invokestatic 308, 3) := by decide +kernel
theorem d13_17 : decode jdk_35_method_48_code 17 = .ok (.iadd, 1) := by decide +kernel
theorem d13_18 : decode jdk_35_method_48_code 18 = .ok (.goto 7, 3) := by decide +kernel
theorem d13_21 : decode jdk_35_method_48_code 21 = .ok (.iload_n 2, 1) := by decide +kernel
theorem d13_22 : decode jdk_35_method_48_code 22 = .ok (.invokestatic 308, 3) := by decide +kernel
theorem d13_25 : decode jdk_35_method_48_code 25 = .ok (.ireturn, 1) := by decide +kernel
theorem own_pn_java_lang_Long : plainName "java/lang/Long" = true := by first | (simp [plainName, overriddenIn]; done) | decide +kernel
theorem ef_13 (m : MethodId) (qx : Int64) : entryFrame m #[(.long qx)] 3 = mkF m 0 #[.val (.long qx), .second, .unset] [] := by first | (simp [entryFrame, mkF, argsToLocals, Value.category]; done) | rfl
def Q13 (Z : State) (qx : Int64)  (h0 : Heap) (n0 : Nat) (v : Option Value) (h : Heap) (L : List Loc) : Prop := v = some (.int (own_nL qx)) ∧ Fr n0 L ∧ h = h0
set_option maxRecDepth 65536 in
set_option maxHeartbeats 40000000 in
theorem rm13 (l : Launch) (Z : State) (a0 : Array Value) (hw : ∀ d ∈ tables_1, d.before a0 Z = true) (ws : List Jvm.Cond) (qx : Int64)  (h0 : Heap) (n0 : Nat) (Z0 : n0 ≤ h0.size) (hq : 0 < qx.toInt) :
    MetFree l (⟨"java/lang/Long", "numberOfLeadingZeros", "(J)I"⟩ : MethodName) (head1 (Jvm.Cond.code (⟨"java/lang/Long", "numberOfLeadingZeros", "(J)I"⟩ : MethodName) jdk_35_method_48_code 3 (some .int) :: ws) ({ frames := 1, cells := 0, slots := 0, locals := 14 } : Room)) (fun avs U => avs = #[(.long qx)] ∧ Z.Warmed39 U.vm ∧ U.heap = h0) (fun _ _ _ _ _ => True) (fun _ U o U' => ∃ v L, o = .returned v ∧ Q13 Z qx h0 n0 v U'.heap L ∧ FrameEnd U o U' L ({ frames := 1, cells := 0, slots := 0, locals := 14 } : Room).cells ({ frames := 1, cells := 0, slots := 0, locals := 14 } : Room).slots) := by
  refine MetFree.of_bodySF (plainFor_of_name own_pn_java_lang_Long) hisR ?_
  intro p e s m args below meth c s₁ Bd hml0 hP hK
  obtain ⟨rfl, hZ, hh⟩ := hP
  have hx := Bd.exec
  have hby := Bd.bytes
  have hml : c.maxLocals = 3 := hml0
  have hown : s.vm.findClass "java/lang/Long" = some m.cls := findClass_of_methodNamed Bd.named
  have hnm := (name_of_methodNamed Bd.named Bd.method).1
  have hlk := Bd.notSynchronized
  have hret := Bd.returns
  have X0 : Stand p l e ({ frames := 1, cells := 0, slots := 0, locals := 14 } : Room) s m #[(.long qx)] below meth c s₁ [] 0 0 := Stand.of_body Bd
  have e0 : s₁.heap = h0 := by rw [← hh, Bd.state]; rfl
  have N0 := Fr.nil n0
  show own_W p e (FrameEnd s) below ({ frames := 1, cells := 0, slots := 0, locals := 14 } : Room).cells ({ frames := 1, cells := 0, slots := 0, locals := 14 } : Room).slots (Q13 Z qx h0 n0) s₁ (entryFrame m #[(.long qx)] 3)
  rw [ef_13]
  refine own_lloadN X0 hx (hb hby d13_0) (v := qx) rfl (rfl : 0 + 1 = 1) ?_
  refine own_bipush X0 hx (hb hby d13_1) (32 : Int32) (by first | rfl | decide) (rfl : 1 + 2 = 3) ?_
  refine own_lushr X0 hx (hb hby d13_3) (rfl : 3 + 1 = 4) ?_
  refine own_l2i X0 hx (hb hby d13_4) (rfl : 4 + 1 = 5) ?_
  refine own_istoreN X0 hx (hb hby d13_5) (l' := #[.val (.long qx), .second, .val (.int (((qx.toUInt64 >>> ((32 : Int32) &&& 0x3f).toInt64.toUInt64).toInt64).toInt32))]) rfl (rfl : 5 + 1 = 6) ?_
  refine own_iloadN X0 hx (hb hby d13_6) (v := (((qx.toUInt64 >>> ((32 : Int32) &&& 0x3f).toInt64.toUInt64).toInt64).toInt32)) rfl (rfl : 6 + 1 = 7) ?_
  by_cases hc7 : (((qx.toUInt64 >>> ((32 : Int32) &&& 0x3f).toInt64.toUInt64).toInt64).toInt32) = (0 : Int32)
  · skip
    refine own_ifNo X0 hx (hb hby d13_7) ((if0 _ _).trans (teq hc7).2) (rfl : 7 + 3 = 10) ?_
    refine own_bipush X0 hx (hb hby d13_10) (32 : Int32) (by first | rfl | decide) (rfl : 10 + 2 = 12) ?_
    refine own_lloadN X0 hx (hb hby d13_12) (v := qx) rfl (rfl : 12 + 1 = 13) ?_
    refine own_l2i X0 hx (hb hby d13_13) (rfl : 13 + 1 = 14) ?_
    obtain ⟨_, _, ⟨T1, L1, k1, n1⟩, -, X1, ⟨Lc1, hQ1, l1, y1, z1⟩, st1⟩ := Jvm.LawKit.callS X0 hx (y := (⟨"java/lang/Integer", "numberOfLeadingZeros", "(I)I"⟩ : MethodName)) hown (mvT hZ (hw _ (List.mem_of_getElem? (i := 64) rfl))) (mvT hZ (hw _ (List.mem_of_getElem? (i := 65) rfl))) (mvT hZ (hw _ (List.mem_of_getElem? (i := 66) rfl))) (mvT hZ (hw _ (List.mem_of_getElem? (i := 67) rfl))) (by decide) (backOf (W := 1) (rm14 l Z a0 hw [] (qx.toInt32)  h0 n0 Z0 ((own_nLlo hq hc7).1)) hZ (hw _ (List.mem_of_getElem? (i := 67) rfl)) (hw _ (List.mem_of_getElem? (i := 66) rfl)) (by decide) (by decide)) (g := (mkF m 14 #[.val (.long qx), .second, .val (.int (((qx.toUInt64 >>> ((32 : Int32) &&& 0x3f).toInt64.toUInt64).toInt64).toInt32))] [(.int (qx.toInt32)), (.int (32 : Int32))])) rfl (by rw [hml]; rfl) (argsL := [(.int (qx.toInt32))]) (rest := [(.int (32 : Int32))]) (lenOf own_pd__I_I rfl) rfl (by show 2 * 0 + _ ≤ _; exact Nat.le_of_eq rfl) (hb hby d13_14) (fun _ _ => ⟨rfl, e0, (by decide : 0 + 0 ≤ _), (by decide : 0 + 0 ≤ _)⟩)
    dsimp only [Pt.U, Pt.locs, Pt.cells, Pt.slots] at X1 l1 y1 z1 st1 hQ1
    subst l1 y1 z1
    obtain ⟨rfl, N1q, e1⟩ := hQ1
    have N1 := Fr.app N0 N1q
    refine own_W.step st1 ?_
    show own_W p e (FrameEnd s) below ({ frames := 1, cells := 0, slots := 0, locals := 14 } : Room).cells ({ frames := 1, cells := 0, slots := 0, locals := 14 } : Room).slots (Q13 Z qx h0 n0) T1 (mkF m 17 #[.val (.long qx), .second, .val (.int (((qx.toUInt64 >>> ((32 : Int32) &&& 0x3f).toInt64.toUInt64).toInt64).toInt32))] [(.int (own_nl (qx.toInt32))), (.int (32 : Int32))])
    refine own_iadd X1 hx (hb hby d13_17) (rfl : 17 + 1 = 18) ?_
    refine own_goto X1 hx (hb hby d13_18) (pc' := 25) (by decide) (by decide) ?_
    refine own_retI X1 hx hlk hret (hb hby d13_25) (by decide) (by decide) ?_
    show Q13 Z qx h0 n0 (some (.int ((32 : Int32) + (own_nl (qx.toInt32))))) T1.heap _
    rw [e1]
    exact ⟨congrArg (fun z => some (Value.int z)) (own_nLlo hq hc7).2, N1, rfl⟩
  · skip
    refine own_ifYes X0 hx (hb hby d13_7) ((if0 _ _).trans (feq hc7).2) (pc' := 21) (by decide) (by decide) ?_
    refine own_iloadN X0 hx (hb hby d13_21) (v := (((qx.toUInt64 >>> ((32 : Int32) &&& 0x3f).toInt64.toUInt64).toInt64).toInt32)) rfl (rfl : 21 + 1 = 22) ?_
    obtain ⟨_, _, ⟨T2, L2, k2, n2⟩, -, X2, ⟨Lc2, hQ2, l2, y2, z2⟩, st2⟩ := Jvm.LawKit.callS X0 hx (y := (⟨"java/lang/Integer", "numberOfLeadingZeros", "(I)I"⟩ : MethodName)) hown (mvT hZ (hw _ (List.mem_of_getElem? (i := 64) rfl))) (mvT hZ (hw _ (List.mem_of_getElem? (i := 65) rfl))) (mvT hZ (hw _ (List.mem_of_getElem? (i := 66) rfl))) (mvT hZ (hw _ (List.mem_of_getElem? (i := 67) rfl))) (by decide) (backOf (W := 0) (rm14 l Z a0 hw [] (((qx.toUInt64 >>> ((32 : Int32) &&& 0x3f).toInt64.toUInt64).toInt64).toInt32)  h0 n0 Z0 (hc7)) hZ (hw _ (List.mem_of_getElem? (i := 67) rfl)) (hw _ (List.mem_of_getElem? (i := 66) rfl)) (by decide) (by decide)) (g := (mkF m 22 #[.val (.long qx), .second, .val (.int (((qx.toUInt64 >>> ((32 : Int32) &&& 0x3f).toInt64.toUInt64).toInt64).toInt32))] [(.int (((qx.toUInt64 >>> ((32 : Int32) &&& 0x3f).toInt64.toUInt64).toInt64).toInt32))])) rfl (by rw [hml]; rfl) (argsL := [(.int (((qx.toUInt64 >>> ((32 : Int32) &&& 0x3f).toInt64.toUInt64).toInt64).toInt32))]) (rest := []) (lenOf own_pd__I_I rfl) rfl (by show 2 * 0 + _ ≤ _; exact Nat.le_of_eq rfl) (hb hby d13_22) (fun _ _ => ⟨rfl, e0, (by decide : 0 + 0 ≤ _), (by decide : 0 + 0 ≤ _)⟩)
    dsimp only [Pt.U, Pt.locs, Pt.cells, Pt.slots] at X2 l2 y2 z2 st2 hQ2
    subst l2 y2 z2
    obtain ⟨rfl, N2q, e2⟩ := hQ2
    have N2 := Fr.app N0 N2q
    refine own_W.step st2 ?_
    show own_W p e (FrameEnd s) below ({ frames := 1, cells := 0, slots := 0, locals := 14 } : Room).cells ({ frames := 1, cells := 0, slots := 0, locals := 14 } : Room).slots (Q13 Z qx h0 n0) T2 (mkF m 25 #[.val (.long qx), .second, .val (.int (((qx.toUInt64 >>> ((32 : Int32) &&& 0x3f).toInt64.toUInt64).toInt64).toInt32))] [(.int (own_nl (((qx.toUInt64 >>> ((32 : Int32) &&& 0x3f).toInt64.toUInt64).toInt64).toInt32)))])
    refine own_retI X2 hx hlk hret (hb hby d13_25) (by decide) (by decide) ?_
    show Q13 Z qx h0 n0 (some (.int (own_nl (((qx.toUInt64 >>> ((32 : Int32) &&& 0x3f).toInt64.toUInt64).toInt64).toInt32)))) T2.heap _
    rw [e2]
    exact ⟨congrArg (fun z => some (Value.int z)) (own_nLhi hq hc7), N2, rfl⟩
theorem own_pd__J_I : parseMethodDescriptor "(J)I" = some ⟨[.long], some .int⟩ := by decide +kernel
theorem d8_0 : decode prog_21_method_7_code 0 = .ok (.lload_n 0, 1) := by decide +kernel
theorem d8_1 : decode prog_21_method_7_code 1 = .ok (.ldc2_w 64, 3) := by decide +kernel
theorem d8_4 : decode prog_21_method_7_code 4 = .ok (.lcmp, 1) := by decide +kernel
theorem d8_5 : decode prog_21_method_7_code 5 = .ok (.ifCond .ge 6, 3) := by decide +kernel
theorem d8_8 : decode prog_21_method_7_code 8 = .ok (.lload_n 0, 1) := by decide +kernel
theorem d8_9 : decode prog_21_method_7_code 9 = .ok (.l2i, 1) := by decide +kernel
theorem d8_10 : decode prog_21_method_7_code 10 = .ok (.ireturn, 1) := by decide +kernel
theorem d8_11 : decode prog_21_method_7_code 11 = .ok (.bipush 63, 2) := by decide +kernel
theorem d8_13 : decode prog_21_method_7_code 13 = .ok (.lload_n 0, 1) := by decide +kernel
theorem d8_14 : decode prog_21_method_7_code 14 = .ok (.invokestatic 66, 3) := by decide +kernel
theorem d8_17 : decode prog_21_method_7_code 17 = .ok (.isub, 1) := by decide +kernel
theorem d8_18 : decode prog_21_method_7_code 18 = .ok (.istore_n 2, 1) := by decide +kernel
theorem d8_19 : decode prog_21_method_7_code 19 = .ok (.iload_n 2, 1) := by decide +kernel
theorem d8_20 : decode prog_21_method_7_code 20 = .ok (.bipush 9, 2) := by decide +kernel
theorem d8_22 : decode prog_21_method_7_code 22 = .ok (.isub, 1) := by decide +kernel
theorem d8_23 : decode prog_21_method_7_code 23 = .ok (.istore_n 3, 1) := by decide +kernel
theorem d8_24 : decode prog_21_method_7_code 24 = .ok (.sipush 1024, 3) := by decide +kernel
theorem d8_27 : decode prog_21_method_7_code 27 = .ok (.iload_n 2, 1) := by decide +kernel
theorem d8_28 : decode prog_21_method_7_code 28 = .ok (.bipush 10, 2) := by decide +kernel
theorem d8_30 : decode prog_21_method_7_code 30 = .ok (.isub, 1) := by decide +kernel
theorem d8_31 : decode prog_21_method_7_code 31 = .ok (.sipush 512, 3) := by decide +kernel
theorem d8_34 : decode prog_21_method_7_code 34 = .ok (.imul, 1) := by decide +kernel
theorem d8_35 : decode prog_21_method_7_code 35 = .ok (.iadd, 1) := by decide +kernel
theorem d8_36 : decode prog_21_method_7_code 36 = .ok (.lload_n 0, 1) := by decide +kernel
theorem d8_37 : decode prog_21_method_7_code 37 = .ok (.iload_n 3, 1) := by decide +kernel
theorem d8_38 : decode prog_21_method_7_code 38 = .ok (.lushr, 1) := by decide +kernel
theorem d8_39 : decode prog_21_method_7_code 39 = .ok (.l2i, 1) := by decide +kernel
theorem d8_40 : decode prog_21_method_7_code 40 = .ok (.iadd, 1) := by decide +kernel
theorem d8_41 : decode prog_21_method_7_code 41 = .ok (.sipush 512, 3) := by decide +kernel
theorem d8_44 : decode prog_21_method_7_code 44 = .ok (.isub, 1) := by decide +kernel
theorem d8_45 : decode prog_21_method_7_code 45 = .ok (.ireturn, 1) := by decide +kernel
theorem own_pn_com_example_flipside_flipside_tool_LatencyHistogram : plainName "com/example/flipside/flipside/tool/LatencyHistogram" = true := by first | (simp [plainName, overriddenIn]; done) | decide +kernel
theorem ef_8 (m : MethodId) (qx : Int64) : entryFrame m #[(.long qx)] 4 = mkF m 0 #[.val (.long qx), .second, .unset, .unset] [] := by first | (simp [entryFrame, mkF, argsToLocals, Value.category]; done) | rfl
def Q8 (Z : State) (qx : Int64)  (h0 : Heap) (n0 : Nat) (v : Option Value) (h : Heap) (L : List Loc) : Prop := v = some (.int (Int32.ofNat (own_bN qx.toInt.toNat))) ∧ Fr n0 L ∧ h = h0
set_option maxRecDepth 65536 in
set_option maxHeartbeats 40000000 in
theorem rm8 (l : Launch) (Z : State) (a0 : Array Value) (hw : ∀ d ∈ tables_1, d.before a0 Z = true) (ws : List Jvm.Cond) (qx : Int64)  (h0 : Heap) (n0 : Nat) (Z0 : n0 ≤ h0.size) (hq : 0 ≤ qx.toInt) :
    MetFree l (⟨"com/example/flipside/flipside/tool/LatencyHistogram", "bucket", "(J)I"⟩ : MethodName) (head1 (Jvm.Cond.code (⟨"com/example/flipside/flipside/tool/LatencyHistogram", "bucket", "(J)I"⟩ : MethodName) prog_21_method_7_code 4 (some .int) :: ws) ({ frames := 2, cells := 0, slots := 0, locals := 29 } : Room)) (fun avs U => avs = #[(.long qx)] ∧ Z.Warmed39 U.vm ∧ U.heap = h0) (fun _ _ _ _ _ => True) (fun _ U o U' => ∃ v L, o = .returned v ∧ Q8 Z qx h0 n0 v U'.heap L ∧ FrameEnd U o U' L ({ frames := 2, cells := 0, slots := 0, locals := 29 } : Room).cells ({ frames := 2, cells := 0, slots := 0, locals := 29 } : Room).slots) := by
  refine MetFree.of_bodySF (plainFor_of_name own_pn_com_example_flipside_flipside_tool_LatencyHistogram) hisR ?_
  intro p e s m args below meth c s₁ Bd hml0 hP hK
  obtain ⟨rfl, hZ, hh⟩ := hP
  have hx := Bd.exec
  have hby := Bd.bytes
  have hml : c.maxLocals = 4 := hml0
  have hown : s.vm.findClass "com/example/flipside/flipside/tool/LatencyHistogram" = some m.cls := findClass_of_methodNamed Bd.named
  have hnm := (name_of_methodNamed Bd.named Bd.method).1
  have hlk := Bd.notSynchronized
  have hret := Bd.returns
  have X0 : Stand p l e ({ frames := 2, cells := 0, slots := 0, locals := 29 } : Room) s m #[(.long qx)] below meth c s₁ [] 0 0 := Stand.of_body Bd
  have e0 : s₁.heap = h0 := by rw [← hh, Bd.state]; rfl
  have N0 := Fr.nil n0
  show own_W p e (FrameEnd s) below ({ frames := 2, cells := 0, slots := 0, locals := 29 } : Room).cells ({ frames := 2, cells := 0, slots := 0, locals := 29 } : Room).slots (Q8 Z qx h0 n0) s₁ (entryFrame m #[(.long qx)] 4)
  rw [ef_8]
  refine own_lloadN X0 hx (hb hby d8_0) (v := qx) rfl (rfl : 0 + 1 = 1) ?_
  refine own_ldc2Long X0 hx hown (mvT hZ (hw _ (List.mem_of_getElem? (i := 44) rfl))) (hb hby d8_1) (rfl : 1 + 3 = 4) ?_
  refine own_lcmp X0 hx (hb hby d8_4) (rfl : 4 + 1 = 5) ?_
  by_cases hc5 : qx < (1024 : Int64)
  · skip
    refine own_ifNo X0 hx (hb hby d8_5) (XT.ll_ge_f hc5) (rfl : 5 + 3 = 8) ?_
    refine own_lloadN X0 hx (hb hby d8_8) (v := qx) rfl (rfl : 8 + 1 = 9) ?_
    refine own_l2i X0 hx (hb hby d8_9) (rfl : 9 + 1 = 10) ?_
    refine own_retI X0 hx hlk hret (hb hby d8_10) (by decide) (by decide) ?_
    show Q8 Z qx h0 n0 (some (.int (qx.toInt32))) s₁.heap _
    rw [e0]
    exact ⟨congrArg (fun z => some (Value.int z)) (own_bk1 hq hc5), N0, rfl⟩
  · skip
    refine own_ifYes X0 hx (hb hby d8_5) (XT.ll_ge_t hc5) (pc' := 11) (by decide) (by decide) ?_
    refine own_bipush X0 hx (hb hby d8_11) (63 : Int32) (by first | rfl | decide) (rfl : 11 + 2 = 13) ?_
    refine own_lloadN X0 hx (hb hby d8_13) (v := qx) rfl (rfl : 13 + 1 = 14) ?_
    obtain ⟨_, _, ⟨T1, L1, k1, n1⟩, -, X1, ⟨Lc1, hQ1, l1, y1, z1⟩, st1⟩ := Jvm.LawKit.callS X0 hx (y := (⟨"java/lang/Long", "numberOfLeadingZeros", "(J)I"⟩ : MethodName)) hown (mvT hZ (hw _ (List.mem_of_getElem? (i := 60) rfl))) (mvT hZ (hw _ (List.mem_of_getElem? (i := 61) rfl))) (mvT hZ (hw _ (List.mem_of_getElem? (i := 62) rfl))) (mvT hZ (hw _ (List.mem_of_getElem? (i := 63) rfl))) (by decide) (backOf (W := 1) (rm13 l Z a0 hw [] qx  h0 n0 Z0 (by have z := hc5; rw [Int64.lt_iff_toInt_lt, show (1024 : Int64).toInt = 1024 from by decide] at z; omega)) hZ (hw _ (List.mem_of_getElem? (i := 63) rfl)) (hw _ (List.mem_of_getElem? (i := 62) rfl)) (by decide) (by decide)) (g := (mkF m 14 #[.val (.long qx), .second, .unset, .unset] [(.long qx), (.int (63 : Int32))])) rfl (by rw [hml]; rfl) (argsL := [(.long qx)]) (rest := [(.int (63 : Int32))]) (lenOf own_pd__J_I rfl) rfl (by show 2 * 0 + _ ≤ _; exact Nat.le_of_eq rfl) (hb hby d8_14) (fun _ _ => ⟨rfl, e0, (by decide : 0 + 0 ≤ _), (by decide : 0 + 0 ≤ _)⟩)
    dsimp only [Pt.U, Pt.locs, Pt.cells, Pt.slots] at X1 l1 y1 z1 st1 hQ1
    subst l1 y1 z1
    obtain ⟨rfl, N1q, e1⟩ := hQ1
    have N1 := Fr.app N0 N1q
    refine own_W.step st1 ?_
    show own_W p e (FrameEnd s) below ({ frames := 2, cells := 0, slots := 0, locals := 29 } : Room).cells ({ frames := 2, cells := 0, slots := 0, locals := 29 } : Room).slots (Q8 Z qx h0 n0) T1 (mkF m 17 #[.val (.long qx), .second, .unset, .unset] [(.int (own_nL qx)), (.int (63 : Int32))])
    refine own_isub X1 hx (hb hby d8_17) (rfl : 17 + 1 = 18) ?_
    refine own_istoreN X1 hx (hb hby d8_18) (l' := #[.val (.long qx), .second, .val (.int ((63 : Int32) - (own_nL qx))), .unset]) rfl (rfl : 18 + 1 = 19) ?_
    obtain ⟨ex, hex⟩ : ∃ z : Int32, z = ((63 : Int32) - (own_nL qx)) := ⟨_, rfl⟩
    rw [← hex]
    show own_W p e (FrameEnd s) below ({ frames := 2, cells := 0, slots := 0, locals := 29 } : Room).cells ({ frames := 2, cells := 0, slots := 0, locals := 29 } : Room).slots (Q8 Z qx h0 n0) T1 (mkF m 19 #[.val (.long qx), .second, .val (.int ex), .unset] [])
    refine own_iloadN X1 hx (hb hby d8_19) (v := ex) rfl (rfl : 19 + 1 = 20) ?_
    refine own_bipush X1 hx (hb hby d8_20) (9 : Int32) (by first | rfl | decide) (rfl : 20 + 2 = 22) ?_
    refine own_isub X1 hx (hb hby d8_22) (rfl : 22 + 1 = 23) ?_
    refine own_istoreN X1 hx (hb hby d8_23) (l' := #[.val (.long qx), .second, .val (.int ex), .val (.int (ex - (9 : Int32)))]) rfl (rfl : 23 + 1 = 24) ?_
    obtain ⟨sh, hsh⟩ : ∃ z : Int32, z = (ex - (9 : Int32)) := ⟨_, rfl⟩
    rw [← hsh]
    show own_W p e (FrameEnd s) below ({ frames := 2, cells := 0, slots := 0, locals := 29 } : Room).cells ({ frames := 2, cells := 0, slots := 0, locals := 29 } : Room).slots (Q8 Z qx h0 n0) T1 (mkF m 24 #[.val (.long qx), .second, .val (.int ex), .val (.int sh)] [])
    refine own_sipush X1 hx (hb hby d8_24) (1024 : Int32) (by first | rfl | decide) (rfl : 24 + 3 = 27) ?_
    refine own_iloadN X1 hx (hb hby d8_27) (v := ex) rfl (rfl : 27 + 1 = 28) ?_
    refine own_bipush X1 hx (hb hby d8_28) (10 : Int32) (by first | rfl | decide) (rfl : 28 + 2 = 30) ?_
    refine own_isub X1 hx (hb hby d8_30) (rfl : 30 + 1 = 31) ?_
    refine own_sipush X1 hx (hb hby d8_31) (512 : Int32) (by first | rfl | decide) (rfl : 31 + 3 = 34) ?_
    refine own_imul X1 hx (hb hby d8_34) (rfl : 34 + 1 = 35) ?_
    refine own_iadd X1 hx (hb hby d8_35) (rfl : 35 + 1 = 36) ?_
    refine own_lloadN X1 hx (hb hby d8_36) (v := qx) rfl (rfl : 36 + 1 = 37) ?_
    refine own_iloadN X1 hx (hb hby d8_37) (v := sh) rfl (rfl : 37 + 1 = 38) ?_
    refine own_lushr X1 hx (hb hby d8_38) (rfl : 38 + 1 = 39) ?_
    refine own_l2i X1 hx (hb hby d8_39) (rfl : 39 + 1 = 40) ?_
    refine own_iadd X1 hx (hb hby d8_40) (rfl : 40 + 1 = 41) ?_
    refine own_sipush X1 hx (hb hby d8_41) (512 : Int32) (by first | rfl | decide) (rfl : 41 + 3 = 44) ?_
    refine own_isub X1 hx (hb hby d8_44) (rfl : 44 + 1 = 45) ?_
    refine own_retI X1 hx hlk hret (hb hby d8_45) (by decide) (by decide) ?_
    show Q8 Z qx h0 n0 (some (.int ((((1024 : Int32) + ((ex - (10 : Int32)) * (512 : Int32))) + (((qx.toUInt64 >>> (sh &&& 0x3f).toInt64.toUInt64).toInt64).toInt32)) - (512 : Int32)))) T1.heap _
    rw [e1]
    exact ⟨congrArg (fun z => some (Value.int z)) (own_bk2 hq hc5 hex hsh), N1, rfl⟩
theorem d1_0 : decode prog_21_method_1_code 0 = .ok (.aload_n 0, 1) := by decide +kernel
theorem d1_1 : decode prog_21_method_1_code 1 = .ok (.invokespecial 5, 3) := by decide +kernel
theorem d1_4 : decode prog_21_method_1_code 4 = .ok (.aload_n 0, 1) := by decide +kernel
theorem d1_5 : decode prog_21_method_1_code 5 = .ok (.sipush 28160, 3) := by decide +kernel
theorem d1_8 : decode prog_21_method_1_code 8 = .ok (.newarray .long, 2) := by decide +kernel
theorem d1_10 : decode prog_21_method_1_code 10 = .ok (.putfield 11, 3) := by decide +kernel
theorem d1_13 : decode prog_21_method_1_code 13 = .ok (.return_, 1) := by decide +kernel
theorem ef_1 (m : MethodId) (ob : Addr) : entryFrame m #[(.ref ob)] 1 = mkF m 0 #[.val (.ref ob)] [] := by first | (simp [entryFrame, mkF, argsToLocals, Value.category]; done) | rfl
def Q1 (Z : State) (ob : Addr)  (h0 : Heap) (n0 : Nat) (v : Option Value) (h : Heap) (L : List Loc) : Prop := ∃ (ab : Addr), v = none ∧ Fr n0 L ∧ Keep h0 h [ob] ∧ h0.size ≤ ab ∧ Exa Z h ob "com/example/flipside/flipside/tool/LatencyHistogram" ∧ Fld Z h ob "com/example/flipside/flipside/tool/LatencyHistogram" "counts" "[J" (.ref ab) ∧ Fld Z h ob "com/example/flipside/flipside/tool/LatencyHistogram" "count" "J" (.long (0 : Int64)) ∧ Fld Z h ob "com/example/flipside/flipside/tool/LatencyHistogram" "max" "J" (.long (0 : Int64)) ∧ own_A Z h ab .long (28160) (fun z => .long (own_k0L z))
set_option maxRecDepth 65536 in
set_option maxHeartbeats 40000000 in
theorem rm1 (l : Launch) (Z : State) (a0 : Array Value) (hw : ∀ d ∈ tables_1, d.before a0 Z = true) (ws : List Jvm.Cond) (ob : Addr)  (h0 : Heap) (n0 : Nat) (Z0 : n0 ≤ h0.size) (f_E_ob : Exa Z h0 ob "com/example/flipside/flipside/tool/LatencyHistogram") (f_F_ob_counts : Fld Z h0 ob "com/example/flipside/flipside/tool/LatencyHistogram" "counts" "[J" .null) (f_F_ob_count : Fld Z h0 ob "com/example/flipside/flipside/tool/LatencyHistogram" "count" "J" (.long (0 : Int64))) (f_F_ob_max : Fld Z h0 ob "com/example/flipside/flipside/tool/LatencyHistogram" "max" "J" (.long (0 : Int64))) (g_ob : n0 ≤ ob) :
    MetFree l (⟨"com/example/flipside/flipside/tool/LatencyHistogram", "<init>", "()V"⟩ : MethodName) (head1 (Jvm.Cond.code (⟨"com/example/flipside/flipside/tool/LatencyHistogram", "<init>", "()V"⟩ : MethodName) prog_21_method_1_code 1 none :: ws) ({ frames := 1, cells := 1, slots := 28160, locals := 12 } : Room)) (fun avs U => avs = #[(.ref ob)] ∧ Z.Warmed39 U.vm ∧ U.heap = h0) (fun _ _ _ _ _ => True) (fun _ U o U' => ∃ v L, o = .returned v ∧ Q1 Z ob h0 n0 v U'.heap L ∧ FrameEnd U o U' L ({ frames := 1, cells := 1, slots := 28160, locals := 12 } : Room).cells ({ frames := 1, cells := 1, slots := 28160, locals := 12 } : Room).slots) := by
  refine MetFree.of_bodySF (plainFor_of_name own_pn_com_example_flipside_flipside_tool_LatencyHistogram) hisR ?_
  intro p e s m args below meth c s₁ Bd hml0 hP hK
  obtain ⟨rfl, hZ, hh⟩ := hP
  have hx := Bd.exec
  have hby := Bd.bytes
  have hml : c.maxLocals = 1 := hml0
  have hown : s.vm.findClass "com/example/flipside/flipside/tool/LatencyHistogram" = some m.cls := findClass_of_methodNamed Bd.named
  have hnm := (name_of_methodNamed Bd.named Bd.method).1
  have hlk := Bd.notSynchronized
  have hret := Bd.returns
  have X0 : Stand p l e ({ frames := 1, cells := 1, slots := 28160, locals := 12 } : Room) s m #[(.ref ob)] below meth c s₁ [] 0 0 := Stand.of_body Bd
  have e0 : s₁.heap = h0 := by rw [← hh, Bd.state]; rfl
  have N0 := Fr.nil n0
  show own_W p e (FrameEnd s) below ({ frames := 1, cells := 1, slots := 28160, locals := 12 } : Room).cells ({ frames := 1, cells := 1, slots := 28160, locals := 12 } : Room).slots (Q1 Z ob h0 n0) s₁ (entryFrame m #[(.ref ob)] 1)
  rw [ef_1]
  have K0 : Keep h0 h0 [ob] := Keep.refl h0 _
  refine own_aloadN X0 hx (hb hby d1_0) (v := (.ref ob)) rfl rfl (rfl : 0 + 1 = 1) ?_
  obtain ⟨T1, X1, e1, st1⟩ := initO X0 hx hZ hown (hw _ (List.mem_of_getElem? (i := 6) rfl)) (hw _ (List.mem_of_getElem? (i := 7) rfl)) (hw _ (List.mem_of_getElem? (i := 8) rfl)) e0 (g := (mkF m 1 #[.val (.ref ob)] [(.ref ob)])) rfl (by rw [hml]; rfl) rfl (hb hby d1_1) (by decide) (W := 0) (by show 2 * 0 + _ ≤ _; exact Nat.le_of_eq rfl) (by decide)
  refine own_W.step st1 ?_
  show own_W p e (FrameEnd s) below ({ frames := 1, cells := 1, slots := 28160, locals := 12 } : Room).cells ({ frames := 1, cells := 1, slots := 28160, locals := 12 } : Room).slots (Q1 Z ob h0 n0) T1 (mkF m 4 #[.val (.ref ob)] [])
  refine own_aloadN X1 hx (hb hby d1_4) (v := (.ref ob)) rfl rfl (rfl : 4 + 1 = 5) ?_
  refine own_sipush X1 hx (hb hby d1_5) (28160 : Int32) (by first | rfl | decide) (rfl : 5 + 3 = 8) ?_
  obtain ⟨T2, h2, k2, X2, e2, E2, A2, st2⟩ := newP X1 hx hZ (hw _ (List.mem_of_getElem? (i := 9) rfl)) e1 (g := (mkF m 8 #[.val (.ref ob)] [(.int (28160 : Int32)), (.ref ob)])) rfl (hb hby d1_8) rfl (by decide) (cap := 28160) (by decide) (by decide) (by decide) (by decide)
  obtain ⟨bb, g2⟩ : ∃ z, z = h0.size := ⟨_, rfl⟩
  rw [← g2] at A2 st2
  refine own_W.step st2 ?_
  have ne_ob_bb : ob ≠ bb := Nat.ne_of_lt (Nat.lt_of_lt_of_le f_E_ob.lt (Nat.le_of_eq g2.symm))
  have sz_bb : h0.size ≤ bb := Nat.le_trans K0.1 (Nat.le_of_eq g2.symm)
  have g_bb : n0 ≤ bb := Nat.le_trans Z0 (Nat.le_of_eq g2.symm)
  have f2_E_ob : Exa Z h2 ob "com/example/flipside/flipside/tool/LatencyHistogram" := f_E_ob.ext E2
  have f2_F_ob_counts : Fld Z h2 ob "com/example/flipside/flipside/tool/LatencyHistogram" "counts" "[J" .null := f_F_ob_counts.ext E2
  have f2_F_ob_count : Fld Z h2 ob "com/example/flipside/flipside/tool/LatencyHistogram" "count" "J" (.long (0 : Int64)) := f_F_ob_count.ext E2
  have f2_F_ob_max : Fld Z h2 ob "com/example/flipside/flipside/tool/LatencyHistogram" "max" "J" (.long (0 : Int64)) := f_F_ob_max.ext E2
  have f2_K : Keep h0 h2 [ob] := K0.ext E2
  have z2 : n0 ≤ h2.size := Nat.le_trans Z0 E2.1
  have V2 : own_A Z h2 bb .long (28160) (fun z => .long (own_k0L z)) := own_A.new A2 (by decide) (by decide)
  show own_W p e (FrameEnd s) below ({ frames := 1, cells := 1, slots := 28160, locals := 12 } : Room).cells ({ frames := 1, cells := 1, slots := 28160, locals := 12 } : Room).slots (Q1 Z ob h0 n0) T2 (mkF m 10 #[.val (.ref ob)] [(.ref bb), (.ref ob)])
  obtain ⟨T3, h3, X3, e3, W3, st3⟩ := putF X2 hx hZ hown (host := "") (Or.inl (hw _ (List.mem_of_getElem? (i := 10) rfl))) Via.refl e2 f2_F_ob_counts f2_E_ob (Or.inr ⟨(hw _ (List.mem_of_getElem? (i := 11) rfl)), rfl, hnm⟩) (hw _ (List.mem_of_getElem? (i := 1) rfl)) (ty := (.array .long)) (by decide) rfl rfl (g := (mkF m 10 #[.val (.ref ob)] [(.ref bb), (.ref ob)])) rfl rfl (hb hby d1_10)
  refine own_W.step st3 ?_
  have N3 := Fr.snoc X3 N0 g_ob
  have f3_E_ob : Exa Z h3 ob "com/example/flipside/flipside/tool/LatencyHistogram" := f2_E_ob.wr W3
  have f3_F_ob_count : Fld Z h3 ob "com/example/flipside/flipside/tool/LatencyHistogram" "count" "J" (.long (0 : Int64)) := f2_F_ob_count.other W3 (Or.inr (slot_ne (Or.inl (hw _ (List.mem_of_getElem? (i := 18) rfl))) (Or.inr (hw _ (List.mem_of_getElem? (i := 11) rfl))) (by decide) (t := .long) (t' := (.array .long)) (by decide) (by decide)))
  have f3_F_ob_max : Fld Z h3 ob "com/example/flipside/flipside/tool/LatencyHistogram" "max" "J" (.long (0 : Int64)) := f2_F_ob_max.other W3 (Or.inr (slot_ne (Or.inl (hw _ (List.mem_of_getElem? (i := 20) rfl))) (Or.inr (hw _ (List.mem_of_getElem? (i := 11) rfl))) (by decide) (t := .long) (t' := (.array .long)) (by decide) (by decide)))
  have f3_K : Keep h0 h3 [ob] := f2_K.wr W3 (Or.inl (by simp))
  have f3_A_bb : own_A Z h3 bb .long (28160) (fun z => .long (own_k0L z)) := V2.other W3 (Ne.symm ne_ob_bb)
  have fw3 : Fld Z h3 ob "com/example/flipside/flipside/tool/LatencyHistogram" "counts" "[J" (.ref bb) := f2_F_ob_counts.same W3
  have z3 : n0 ≤ h3.size := by rw [W3.size]; exact z2
  show own_W p e (FrameEnd s) below ({ frames := 1, cells := 1, slots := 28160, locals := 12 } : Room).cells ({ frames := 1, cells := 1, slots := 28160, locals := 12 } : Room).slots (Q1 Z ob h0 n0) T3 (mkF m 13 #[.val (.ref ob)] [])
  refine own_retV X3 hx hlk hret (hb hby d1_13) (by decide) (by decide) ?_
  show Q1 Z ob h0 n0 none T3.heap _
  rw [e3]
  exact ⟨bb, rfl, N3, f3_K, sz_bb, f3_E_ob, fw3, f3_F_ob_count, f3_F_ob_max, f3_A_bb⟩
theorem d5_0 : decode prog_21_method_4_code 0 = .ok (.aload_n 0, 1) := by decide +kernel
theorem d5_1 : decode prog_21_method_4_code 1 = .ok (.getfield 25, 3) := by decide +kernel
theorem d5_4 : decode prog_21_method_4_code 4 = .ok (.lreturn, 1) := by decide +kernel
theorem ef_5 (m : MethodId) (ob : Addr) : entryFrame m #[(.ref ob)] 1 = mkF m 0 #[.val (.ref ob)] [] := by first | (simp [entryFrame, mkF, argsToLocals, Value.category]; done) | rfl
def Q5 (Z : State) (ob : Addr) (uf : Int64) (h0 : Heap) (n0 : Nat) (v : Option Value) (h : Heap) (L : List Loc) : Prop := v = some (.long uf) ∧ Fr n0 L ∧ h = h0
set_option maxRecDepth 65536 in
set_option maxHeartbeats 40000000 in
theorem rm5 (l : Launch) (Z : State) (a0 : Array Value) (hw : ∀ d ∈ tables_1, d.before a0 Z = true) (ws : List Jvm.Cond) (ob : Addr) (uf : Int64) (h0 : Heap) (n0 : Nat) (Z0 : n0 ≤ h0.size) (f_F_ob_count : Fld Z h0 ob "com/example/flipside/flipside/tool/LatencyHistogram" "count" "J" (.long uf)) :
    MetFree l (⟨"com/example/flipside/flipside/tool/LatencyHistogram", "count", "()J"⟩ : MethodName) (head1 (Jvm.Cond.code (⟨"com/example/flipside/flipside/tool/LatencyHistogram", "count", "()J"⟩ : MethodName) prog_21_method_4_code 1 (some .long) :: ws) ({ frames := 0, cells := 0, slots := 0, locals := 0 } : Room)) (fun avs U => avs = #[(.ref ob)] ∧ Z.Warmed39 U.vm ∧ U.heap = h0) (fun _ _ _ _ _ => True) (fun _ U o U' => ∃ v L, o = .returned v ∧ Q5 Z ob uf h0 n0 v U'.heap L ∧ FrameEnd U o U' L ({ frames := 0, cells := 0, slots := 0, locals := 0 } : Room).cells ({ frames := 0, cells := 0, slots := 0, locals := 0 } : Room).slots) := by
  refine MetFree.of_bodySF (plainFor_of_name own_pn_com_example_flipside_flipside_tool_LatencyHistogram) hisR ?_
  intro p e s m args below meth c s₁ Bd hml0 hP hK
  obtain ⟨rfl, hZ, hh⟩ := hP
  have hx := Bd.exec
  have hby := Bd.bytes
  have hml : c.maxLocals = 1 := hml0
  have hown : s.vm.findClass "com/example/flipside/flipside/tool/LatencyHistogram" = some m.cls := findClass_of_methodNamed Bd.named
  have hnm := (name_of_methodNamed Bd.named Bd.method).1
  have hlk := Bd.notSynchronized
  have hret := Bd.returns
  have X0 : Stand p l e ({ frames := 0, cells := 0, slots := 0, locals := 0 } : Room) s m #[(.ref ob)] below meth c s₁ [] 0 0 := Stand.of_body Bd
  have e0 : s₁.heap = h0 := by rw [← hh, Bd.state]; rfl
  have N0 := Fr.nil n0
  show own_W p e (FrameEnd s) below ({ frames := 0, cells := 0, slots := 0, locals := 0 } : Room).cells ({ frames := 0, cells := 0, slots := 0, locals := 0 } : Room).slots (Q5 Z ob uf h0 n0) s₁ (entryFrame m #[(.ref ob)] 1)
  rw [ef_5]
  refine own_aloadN X0 hx (hb hby d5_0) (v := (.ref ob)) rfl rfl (rfl : 0 + 1 = 1) ?_
  obtain ⟨T1, X1, e1, st1⟩ := getF X0 hx hZ hown (host := "") (Or.inl (hw _ (List.mem_of_getElem? (i := 17) rfl))) Via.refl e0 f_F_ob_count (g := (mkF m 1 #[.val (.ref ob)] [(.ref ob)])) rfl rfl (hb hby d5_1)
  refine own_W.step st1 ?_
  show own_W p e (FrameEnd s) below ({ frames := 0, cells := 0, slots := 0, locals := 0 } : Room).cells ({ frames := 0, cells := 0, slots := 0, locals := 0 } : Room).slots (Q5 Z ob uf h0 n0) T1 (mkF m 4 #[.val (.ref ob)] [(.long uf)])
  refine own_retJ X1 hx hlk hret (hb hby d5_4) (by decide) (by decide) ?_
  show Q5 Z ob uf h0 n0 (some (.long uf)) T1.heap _
  rw [e1]
  exact ⟨rfl, N0, rfl⟩
theorem d6_0 : decode prog_21_method_5_code 0 = .ok (.aload_n 0, 1) := by decide +kernel
theorem d6_1 : decode prog_21_method_5_code 1 = .ok (.getfield 29, 3) := by decide +kernel
theorem d6_4 : decode prog_21_method_5_code 4 = .ok (.lreturn, 1) := by decide +kernel
theorem ef_6 (m : MethodId) (ob : Addr) : entryFrame m #[(.ref ob)] 1 = mkF m 0 #[.val (.ref ob)] [] := by first | (simp [entryFrame, mkF, argsToLocals, Value.category]; done) | rfl
def Q6 (Z : State) (ob : Addr) (uf : Int64) (h0 : Heap) (n0 : Nat) (v : Option Value) (h : Heap) (L : List Loc) : Prop := v = some (.long uf) ∧ Fr n0 L ∧ h = h0
set_option maxRecDepth 65536 in
set_option maxHeartbeats 40000000 in
theorem rm6 (l : Launch) (Z : State) (a0 : Array Value) (hw : ∀ d ∈ tables_1, d.before a0 Z = true) (ws : List Jvm.Cond) (ob : Addr) (uf : Int64) (h0 : Heap) (n0 : Nat) (Z0 : n0 ≤ h0.size) (f_F_ob_max : Fld Z h0 ob "com/example/flipside/flipside/tool/LatencyHistogram" "max" "J" (.long uf)) :
    MetFree l (⟨"com/example/flipside/flipside/tool/LatencyHistogram", "max", "()J"⟩ : MethodName) (head1 (Jvm.Cond.code (⟨"com/example/flipside/flipside/tool/LatencyHistogram", "max", "()J"⟩ : MethodName) prog_21_method_5_code 1 (some .long) :: ws) ({ frames := 0, cells := 0, slots := 0, locals := 0 } : Room)) (fun avs U => avs = #[(.ref ob)] ∧ Z.Warmed39 U.vm ∧ U.heap = h0) (fun _ _ _ _ _ => True) (fun _ U o U' => ∃ v L, o = .returned v ∧ Q6 Z ob uf h0 n0 v U'.heap L ∧ FrameEnd U o U' L ({ frames := 0, cells := 0, slots := 0, locals := 0 } : Room).cells ({ frames := 0, cells := 0, slots := 0, locals := 0 } : Room).slots) := by
  refine MetFree.of_bodySF (plainFor_of_name own_pn_com_example_flipside_flipside_tool_LatencyHistogram) hisR ?_
  intro p e s m args below meth c s₁ Bd hml0 hP hK
  obtain ⟨rfl, hZ, hh⟩ := hP
  have hx := Bd.exec
  have hby := Bd.bytes
  have hml : c.maxLocals = 1 := hml0
  have hown : s.vm.findClass "com/example/flipside/flipside/tool/LatencyHistogram" = some m.cls := findClass_of_methodNamed Bd.named
  have hnm := (name_of_methodNamed Bd.named Bd.method).1
  have hlk := Bd.notSynchronized
  have hret := Bd.returns
  have X0 : Stand p l e ({ frames := 0, cells := 0, slots := 0, locals := 0 } : Room) s m #[(.ref ob)] below meth c s₁ [] 0 0 := Stand.of_body Bd
  have e0 : s₁.heap = h0 := by rw [← hh, Bd.state]; rfl
  have N0 := Fr.nil n0
  show own_W p e (FrameEnd s) below ({ frames := 0, cells := 0, slots := 0, locals := 0 } : Room).cells ({ frames := 0, cells := 0, slots := 0, locals := 0 } : Room).slots (Q6 Z ob uf h0 n0) s₁ (entryFrame m #[(.ref ob)] 1)
  rw [ef_6]
  refine own_aloadN X0 hx (hb hby d6_0) (v := (.ref ob)) rfl rfl (rfl : 0 + 1 = 1) ?_
  obtain ⟨T1, X1, e1, st1⟩ := getF X0 hx hZ hown (host := "") (Or.inl (hw _ (List.mem_of_getElem? (i := 19) rfl))) Via.refl e0 f_F_ob_max (g := (mkF m 1 #[.val (.ref ob)] [(.ref ob)])) rfl rfl (hb hby d6_1)
  refine own_W.step st1 ?_
  show own_W p e (FrameEnd s) below ({ frames := 0, cells := 0, slots := 0, locals := 0 } : Room).cells ({ frames := 0, cells := 0, slots := 0, locals := 0 } : Room).slots (Q6 Z ob uf h0 n0) T1 (mkF m 4 #[.val (.ref ob)] [(.long uf)])
  refine own_retJ X1 hx hlk hret (hb hby d6_4) (by decide) (by decide) ?_
  show Q6 Z ob uf h0 n0 (some (.long uf)) T1.heap _
  rw [e1]
  exact ⟨rfl, N0, rfl⟩
theorem own_pd__JJ_J : parseMethodDescriptor "(JJ)J" = some ⟨[.long, .long], some .long⟩ := by decide +kernel
theorem d7_0 : decode prog_21_method_2_code 0 = .ok (.lload_n 1, 1) := by decide +kernel
theorem d7_1 : decode prog_21_method_2_code 1 = .ok (.lconst 0, 1) := by decide +kernel
theorem d7_2 : decode prog_21_method_2_code 2 = .ok (.invokestatic 15, 3) := by decide +kernel
theorem d7_5 : decode prog_21_method_2_code 5 = .ok (.lstore_n 3, 1) := by decide +kernel
theorem d7_6 : decode prog_21_method_2_code 6 = .ok (.aload_n 0, 1) := by decide +kernel
theorem d7_7 : decode prog_21_method_2_code 7 = .ok (.getfield 11, 3) := by decide +kernel
theorem d7_10 : decode prog_21_method_2_code 10 = .ok (.lload_n 3, 1) := by decide +kernel
theorem d7_11 : decode prog_21_method_2_code 11 = .ok (.invokestatic 21, 3) := by decide +kernel
theorem d7_14 : decode prog_21_method_2_code 14 = .ok (.dup2, 1) := by decide +kernel
theorem d7_15 : decode prog_21_method_2_code 15 = .ok (.laload, 1) := by decide +kernel
theorem d7_16 : decode prog_21_method_2_code 16 = .ok (.lconst 1, 1) := by decide +kernel
theorem d7_17 : decode prog_21_method_2_code 17 = .ok (.ladd, 1) := by decide +kernel
theorem d7_18 : decode prog_21_method_2_code 18 = .ok (.lastore, 1) := by decide +kernel
theorem d7_19 : decode prog_21_method_2_code 19 = .ok (.aload_n 0, 1) := by decide +kernel
theorem d7_20 : decode prog_21_method_2_code 20 = .ok (.dup, 1) := by decide +kernel
theorem d7_21 : decode prog_21_method_2_code 21 = .ok (.getfield 25, 3) := by decide +kernel
theorem d7_24 : decode prog_21_method_2_code 24 = .ok (.lconst 1, 1) := by decide +kernel
theorem d7_25 : decode prog_21_method_2_code 25 = .ok (.ladd, 1) := by decide +kernel
theorem d7_26 : decode prog_21_method_2_code 26 = .ok (.putfield 25, 3) := by decide +kernel
theorem d7_29 : decode prog_21_method_2_code 29 = .ok (.lload_n 3, 1) := by decide +kernel
theorem d7_30 : decode prog_21_method_2_code 30 = .ok (.aload_n 0, 1) := by decide +kernel
theorem d7_31 : decode prog_21_method_2_code 31 = .ok (.getfield 29, 3) := by decide +kernel
theorem d7_34 : decode prog_21_method_2_code 34 = .ok (.lcmp, 1) := by decide +kernel
theorem d7_35 : decode prog_21_method_2_code 35 = .ok (.ifCond .le 8, 3) := by decide +kernel
theorem d7_38 : decode prog_21_method_2_code 38 = .ok (.aload_n 0, 1) := by decide +kernel
theorem d7_39 : decode prog_21_method_2_code 39 = .ok (.lload_n 3, 1) := by decide +kernel
theorem d7_40 : decode prog_21_method_2_code 40 = .ok (.putfield 29, 3) := by decide +kernel
theorem d7_43 : decode prog_21_method_2_code 43 = .ok (.return_, 1) := by decide +kernel
theorem ef_7 (m : MethodId) (ob : Addr) (qx : Int64) : entryFrame m #[(.ref ob), (.long qx)] 5 = mkF m 0 #[.val (.ref ob), .val (.long qx), .second, .unset, .unset] [] := by first | (simp [entryFrame, mkF, argsToLocals, Value.category]; done) | rfl
def Q7 (Z : State) (ob : Addr) (qx : Int64) (ab : Addr) (cn : Int64) (mx : Int64) (fa : Nat → Int64) (h0 : Heap) (n0 : Nat) (v : Option Value) (h : Heap) (L : List Loc) : Prop := v = none ∧ Fr n0 L ∧ Keep h0 h [ob, ab] ∧ Exa Z h ob "com/example/flipside/flipside/tool/LatencyHistogram" ∧ Fld Z h ob "com/example/flipside/flipside/tool/LatencyHistogram" "counts" "[J" (.ref ab) ∧ Fld Z h ob "com/example/flipside/flipside/tool/LatencyHistogram" "count" "J" (.long (cn + (1 : Int64))) ∧ Fld Z h ob "com/example/flipside/flipside/tool/LatencyHistogram" "max" "J" (.long (own_rm mx qx)) ∧ own_A Z h ab .long (28160) (fun z => .long (own_rec fa qx z))
set_option maxRecDepth 65536 in
set_option maxHeartbeats 40000000 in
theorem rm7 (l : Launch) (Z : State) (a0 : Array Value) (hw : ∀ d ∈ tables_1, d.before a0 Z = true) (ws : List Jvm.Cond) (ob : Addr) (qx : Int64) (ab : Addr) (cn : Int64) (mx : Int64) (fa : Nat → Int64) (h0 : Heap) (n0 : Nat) (Z0 : n0 ≤ h0.size) (f_E_ob : Exa Z h0 ob "com/example/flipside/flipside/tool/LatencyHistogram") (f_F_ob_counts : Fld Z h0 ob "com/example/flipside/flipside/tool/LatencyHistogram" "counts" "[J" (.ref ab)) (f_F_ob_count : Fld Z h0 ob "com/example/flipside/flipside/tool/LatencyHistogram" "count" "J" (.long cn)) (f_F_ob_max : Fld Z h0 ob "com/example/flipside/flipside/tool/LatencyHistogram" "max" "J" (.long mx)) (f_A_ab : own_A Z h0 ab .long (28160) (fun z => .long (fa z))) (g_ob : n0 ≤ ob) (g_ab : n0 ≤ ab) (hne : ob ≠ ab) :
    MetFree l (⟨"com/example/flipside/flipside/tool/LatencyHistogram", "record", "(J)V"⟩ : MethodName) (head1 (Jvm.Cond.code (⟨"com/example/flipside/flipside/tool/LatencyHistogram", "record", "(J)V"⟩ : MethodName) prog_21_method_2_code 5 none :: ws) ({ frames := 3, cells := 0, slots := 0, locals := 45 } : Room)) (fun avs U => avs = #[(.ref ob), (.long qx)] ∧ Z.Warmed39 U.vm ∧ U.heap = h0) (fun _ _ _ _ _ => True) (fun _ U o U' => ∃ v L, o = .returned v ∧ Q7 Z ob qx ab cn mx fa h0 n0 v U'.heap L ∧ FrameEnd U o U' L ({ frames := 3, cells := 0, slots := 0, locals := 45 } : Room).cells ({ frames := 3, cells := 0, slots := 0, locals := 45 } : Room).slots) := by
  refine MetFree.of_bodySF (plainFor_of_name own_pn_com_example_flipside_flipside_tool_LatencyHistogram) hisR ?_
  intro p e s m args below meth c s₁ Bd hml0 hP hK
  obtain ⟨rfl, hZ, hh⟩ := hP
  have hx := Bd.exec
  have hby := Bd.bytes
  have hml : c.maxLocals = 5 := hml0
  have hown : s.vm.findClass "com/example/flipside/flipside/tool/LatencyHistogram" = some m.cls := findClass_of_methodNamed Bd.named
  have hnm := (name_of_methodNamed Bd.named Bd.method).1
  have hlk := Bd.notSynchronized
  have hret := Bd.returns
  have X0 : Stand p l e ({ frames := 3, cells := 0, slots := 0, locals := 45 } : Room) s m #[(.ref ob), (.long qx)] below meth c s₁ [] 0 0 := Stand.of_body Bd
  have e0 : s₁.heap = h0 := by rw [← hh, Bd.state]; rfl
  have N0 := Fr.nil n0
  show own_W p e (FrameEnd s) below ({ frames := 3, cells := 0, slots := 0, locals := 45 } : Room).cells ({ frames := 3, cells := 0, slots := 0, locals := 45 } : Room).slots (Q7 Z ob qx ab cn mx fa h0 n0) s₁ (entryFrame m #[(.ref ob), (.long qx)] 5)
  rw [ef_7]
  have K0 : Keep h0 h0 [ob, ab] := Keep.refl h0 _
  refine own_lloadN X0 hx (hb hby d7_0) (v := qx) rfl (rfl : 0 + 1 = 1) ?_
  refine own_lconst X0 hx (hb hby d7_1) (0 : Int64) (by first | rfl | decide) (rfl : 1 + 1 = 2) ?_
  obtain ⟨_, _, ⟨T1, L1, k1, n1⟩, -, X1, ⟨Lc1, hQ1, l1, y1, z1⟩, st1⟩ := Jvm.LawKit.callS X0 hx (y := (⟨"java/lang/Math", "max", "(JJ)J"⟩ : MethodName)) hown (mvT hZ (hw _ (List.mem_of_getElem? (i := 21) rfl))) (mvT hZ (hw _ (List.mem_of_getElem? (i := 22) rfl))) (mvT hZ (hw _ (List.mem_of_getElem? (i := 23) rfl))) (mvT hZ (hw _ (List.mem_of_getElem? (i := 24) rfl))) (by decide) (backOf (W := 0) (rm4 l Z a0 hw [] qx (0 : Int64)  h0 n0 Z0 ) hZ (hw _ (List.mem_of_getElem? (i := 24) rfl)) (hw _ (List.mem_of_getElem? (i := 23) rfl)) (by decide) (by decide)) (g := (mkF m 2 #[.val (.ref ob), .val (.long qx), .second, .unset, .unset] [(.long (0 : Int64)), (.long qx)])) rfl (by rw [hml]; rfl) (argsL := [(.long qx), (.long (0 : Int64))]) (rest := []) (lenOf own_pd__JJ_J rfl) rfl (by show 2 * 0 + _ ≤ _; exact Nat.le_of_eq rfl) (hb hby d7_2) (fun _ _ => ⟨rfl, e0, (by decide : 0 + 0 ≤ _), (by decide : 0 + 0 ≤ _)⟩)
  dsimp only [Pt.U, Pt.locs, Pt.cells, Pt.slots] at X1 l1 y1 z1 st1 hQ1
  subst l1 y1 z1
  obtain ⟨rfl, N1q, e1⟩ := hQ1
  have N1 := Fr.app N0 N1q
  refine own_W.step st1 ?_
  show own_W p e (FrameEnd s) below ({ frames := 3, cells := 0, slots := 0, locals := 45 } : Room).cells ({ frames := 3, cells := 0, slots := 0, locals := 45 } : Room).slots (Q7 Z ob qx ab cn mx fa h0 n0) T1 (mkF m 5 #[.val (.ref ob), .val (.long qx), .second, .unset, .unset] [(.long (own_lmax qx (0 : Int64)))])
  refine own_lstoreN X1 hx (hb hby d7_5) (l' := #[.val (.ref ob), .val (.long qx), .second, .val (.long (own_lmax qx (0 : Int64))), .second]) rfl (rfl : 5 + 1 = 6) ?_
  refine own_aloadN X1 hx (hb hby d7_6) (v := (.ref ob)) rfl rfl (rfl : 6 + 1 = 7) ?_
  obtain ⟨T2, X2, e2, st2⟩ := getF X1 hx hZ hown (host := "") (Or.inl (hw _ (List.mem_of_getElem? (i := 10) rfl))) Via.refl e1 f_F_ob_counts (g := (mkF m 7 #[.val (.ref ob), .val (.long qx), .second, .val (.long (own_lmax qx (0 : Int64))), .second] [(.ref ob)])) rfl rfl (hb hby d7_7)
  refine own_W.step st2 ?_
  show own_W p e (FrameEnd s) below ({ frames := 3, cells := 0, slots := 0, locals := 45 } : Room).cells ({ frames := 3, cells := 0, slots := 0, locals := 45 } : Room).slots (Q7 Z ob qx ab cn mx fa h0 n0) T2 (mkF m 10 #[.val (.ref ob), .val (.long qx), .second, .val (.long (own_lmax qx (0 : Int64))), .second] [(.ref ab)])
  refine own_lloadN X2 hx (hb hby d7_10) (v := (own_lmax qx (0 : Int64))) rfl (rfl : 10 + 1 = 11) ?_
  obtain ⟨_, _, ⟨T3, L3, k3, n3⟩, -, X3, ⟨Lc3, hQ3, l3, y3, z3⟩, st3⟩ := Jvm.LawKit.callS X2 hx (y := (⟨"com/example/flipside/flipside/tool/LatencyHistogram", "bucket", "(J)I"⟩ : MethodName)) hown (mvT hZ (hw _ (List.mem_of_getElem? (i := 41) rfl))) (mvT hZ (hw _ (List.mem_of_getElem? (i := 42) rfl))) (mvT hZ (hw _ (List.mem_of_getElem? (i := 2) rfl))) (mvT hZ (hw _ (List.mem_of_getElem? (i := 43) rfl))) (by decide) (backOf (W := 1) (rm8 l Z a0 hw [] (own_lmax qx (0 : Int64))  h0 n0 Z0 (own_mx0 qx)) hZ (hw _ (List.mem_of_getElem? (i := 43) rfl)) (hw _ (List.mem_of_getElem? (i := 2) rfl)) (by decide) (by decide)) (g := (mkF m 11 #[.val (.ref ob), .val (.long qx), .second, .val (.long (own_lmax qx (0 : Int64))), .second] [(.long (own_lmax qx (0 : Int64))), (.ref ab)])) rfl (by rw [hml]; rfl) (argsL := [(.long (own_lmax qx (0 : Int64)))]) (rest := [(.ref ab)]) (lenOf own_pd__J_I rfl) rfl (by show 2 * 0 + _ ≤ _; exact Nat.le_of_eq rfl) (hb hby d7_11) (fun _ _ => ⟨rfl, e2, (by decide : 0 + 0 ≤ _), (by decide : 0 + 0 ≤ _)⟩)
  dsimp only [Pt.U, Pt.locs, Pt.cells, Pt.slots] at X3 l3 y3 z3 st3 hQ3
  subst l3 y3 z3
  obtain ⟨rfl, N3q, e3⟩ := hQ3
  have N3 := Fr.app N1 N3q
  refine own_W.step st3 ?_
  show own_W p e (FrameEnd s) below ({ frames := 3, cells := 0, slots := 0, locals := 45 } : Room).cells ({ frames := 3, cells := 0, slots := 0, locals := 45 } : Room).slots (Q7 Z ob qx ab cn mx fa h0 n0) T3 (mkF m 14 #[.val (.ref ob), .val (.long qx), .second, .val (.long (own_lmax qx (0 : Int64))), .second] [(.int (Int32.ofNat (own_bN (own_lmax qx (0 : Int64)).toInt.toNat))), (.ref ab)])
  refine own_dup2 X3 hx (hb hby d7_14) rfl rfl (rfl : 14 + 1 = 15) ?_
  have hi4 : own_In (Int32.ofNat (own_bN (own_lmax qx (0 : Int64)).toInt.toNat)) (own_bN (own_lmax qx (0 : Int64)).toInt.toNat) (28160) := ⟨own_bT _, own_bL _⟩
  refine own_laload X3 hx hZ e3 f_A_ab hi4 (v := (fa (own_bN (own_lmax qx (0 : Int64)).toInt.toNat))) rfl (g := (mkF m 15 #[.val (.ref ob), .val (.long qx), .second, .val (.long (own_lmax qx (0 : Int64))), .second] [(.int (Int32.ofNat (own_bN (own_lmax qx (0 : Int64)).toInt.toNat))), (.ref ab), (.int (Int32.ofNat (own_bN (own_lmax qx (0 : Int64)).toInt.toNat))), (.ref ab)])) rfl rfl (hb hby d7_15) ?_
  show own_W p e (FrameEnd s) below ({ frames := 3, cells := 0, slots := 0, locals := 45 } : Room).cells ({ frames := 3, cells := 0, slots := 0, locals := 45 } : Room).slots (Q7 Z ob qx ab cn mx fa h0 n0) T3 (mkF m 16 #[.val (.ref ob), .val (.long qx), .second, .val (.long (own_lmax qx (0 : Int64))), .second] [(.long (fa (own_bN (own_lmax qx (0 : Int64)).toInt.toNat))), (.int (Int32.ofNat (own_bN (own_lmax qx (0 : Int64)).toInt.toNat))), (.ref ab)])
  refine own_lconst X3 hx (hb hby d7_16) (1 : Int64) (by first | rfl | decide) (rfl : 16 + 1 = 17) ?_
  refine own_ladd X3 hx (hb hby d7_17) (rfl : 17 + 1 = 18) ?_
  have hi5 : own_In (Int32.ofNat (own_bN (own_lmax qx (0 : Int64)).toInt.toNat)) (own_bN (own_lmax qx (0 : Int64)).toInt.toNat) (28160) := ⟨own_bT _, own_bL _⟩
  obtain ⟨T5, h5, X5, e5, W5, V5, st5⟩ := own_stJ X3 hx hZ e3 f_A_ab hi5 (g := (mkF m 18 #[.val (.ref ob), .val (.long qx), .second, .val (.long (own_lmax qx (0 : Int64))), .second] [(.long ((fa (own_bN (own_lmax qx (0 : Int64)).toInt.toNat)) + (1 : Int64))), (.int (Int32.ofNat (own_bN (own_lmax qx (0 : Int64)).toInt.toNat))), (.ref ab)])) rfl rfl (hb hby d7_18)
  refine own_W.step st5 ?_
  have N5 := Fr.snoc X5 N3 g_ab
  have f5_E_ob : Exa Z h5 ob "com/example/flipside/flipside/tool/LatencyHistogram" := f_E_ob.wr W5
  have f5_F_ob_counts : Fld Z h5 ob "com/example/flipside/flipside/tool/LatencyHistogram" "counts" "[J" (.ref ab) := f_F_ob_counts.other W5 (Or.inl hne)
  have f5_F_ob_count : Fld Z h5 ob "com/example/flipside/flipside/tool/LatencyHistogram" "count" "J" (.long cn) := f_F_ob_count.other W5 (Or.inl hne)
  have f5_F_ob_max : Fld Z h5 ob "com/example/flipside/flipside/tool/LatencyHistogram" "max" "J" (.long mx) := f_F_ob_max.other W5 (Or.inl hne)
  have f5_K : Keep h0 h5 [ob, ab] := K0.wr W5 (Or.inl (by simp))
  have U5 : own_A Z h5 ab .long (28160) (fun z => .long (own_up fa (own_bN (own_lmax qx (0 : Int64)).toInt.toNat) ((fa (own_bN (own_lmax qx (0 : Int64)).toInt.toNat)) + (1 : Int64)) z)) := V5.congr (fun z _ => by unfold own_up; split <;> rfl)
  have z5 : n0 ≤ h5.size := by rw [W5.size]; exact Z0
  show own_W p e (FrameEnd s) below ({ frames := 3, cells := 0, slots := 0, locals := 45 } : Room).cells ({ frames := 3, cells := 0, slots := 0, locals := 45 } : Room).slots (Q7 Z ob qx ab cn mx fa h0 n0) T5 (mkF m 19 #[.val (.ref ob), .val (.long qx), .second, .val (.long (own_lmax qx (0 : Int64))), .second] [])
  refine own_aloadN X5 hx (hb hby d7_19) (v := (.ref ob)) rfl rfl (rfl : 19 + 1 = 20) ?_
  refine own_dup X5 hx (hb hby d7_20) rfl (rfl : 20 + 1 = 21) ?_
  obtain ⟨T6, X6, e6, st6⟩ := getF X5 hx hZ hown (host := "") (Or.inl (hw _ (List.mem_of_getElem? (i := 17) rfl))) Via.refl e5 f5_F_ob_count (g := (mkF m 21 #[.val (.ref ob), .val (.long qx), .second, .val (.long (own_lmax qx (0 : Int64))), .second] [(.ref ob), (.ref ob)])) rfl rfl (hb hby d7_21)
  refine own_W.step st6 ?_
  show own_W p e (FrameEnd s) below ({ frames := 3, cells := 0, slots := 0, locals := 45 } : Room).cells ({ frames := 3, cells := 0, slots := 0, locals := 45 } : Room).slots (Q7 Z ob qx ab cn mx fa h0 n0) T6 (mkF m 24 #[.val (.ref ob), .val (.long qx), .second, .val (.long (own_lmax qx (0 : Int64))), .second] [(.long cn), (.ref ob)])
  refine own_lconst X6 hx (hb hby d7_24) (1 : Int64) (by first | rfl | decide) (rfl : 24 + 1 = 25) ?_
  refine own_ladd X6 hx (hb hby d7_25) (rfl : 25 + 1 = 26) ?_
  obtain ⟨T7, h7, X7, e7, W7, st7⟩ := putF X6 hx hZ hown (host := "") (Or.inl (hw _ (List.mem_of_getElem? (i := 17) rfl))) Via.refl e6 f5_F_ob_count f5_E_ob (Or.inl (hw _ (List.mem_of_getElem? (i := 18) rfl))) (hw _ (List.mem_of_getElem? (i := 1) rfl)) (ty := .long) (by decide) rfl rfl (g := (mkF m 26 #[.val (.ref ob), .val (.long qx), .second, .val (.long (own_lmax qx (0 : Int64))), .second] [(.long (cn + (1 : Int64))), (.ref ob)])) rfl rfl (hb hby d7_26)
  refine own_W.step st7 ?_
  have N7 := Fr.snoc X7 N5 g_ob
  have f7_E_ob : Exa Z h7 ob "com/example/flipside/flipside/tool/LatencyHistogram" := f5_E_ob.wr W7
  have f7_F_ob_counts : Fld Z h7 ob "com/example/flipside/flipside/tool/LatencyHistogram" "counts" "[J" (.ref ab) := f5_F_ob_counts.other W7 (Or.inr (slot_ne (Or.inr (hw _ (List.mem_of_getElem? (i := 11) rfl))) (Or.inl (hw _ (List.mem_of_getElem? (i := 18) rfl))) (by decide) (t := (.array .long)) (t' := .long) (by decide) (by decide)))
  have f7_F_ob_max : Fld Z h7 ob "com/example/flipside/flipside/tool/LatencyHistogram" "max" "J" (.long mx) := f5_F_ob_max.other W7 (Or.inr (slot_ne (Or.inl (hw _ (List.mem_of_getElem? (i := 20) rfl))) (Or.inl (hw _ (List.mem_of_getElem? (i := 18) rfl))) (by decide) (t := .long) (t' := .long) (by decide) (by decide)))
  have f7_A_ab : own_A Z h7 ab .long (28160) (fun z => .long (own_up fa (own_bN (own_lmax qx (0 : Int64)).toInt.toNat) ((fa (own_bN (own_lmax qx (0 : Int64)).toInt.toNat)) + (1 : Int64)) z)) := U5.other W7 (Ne.symm hne)
  have f7_K : Keep h0 h7 [ob, ab] := f5_K.wr W7 (Or.inl (by simp))
  have fw7 : Fld Z h7 ob "com/example/flipside/flipside/tool/LatencyHistogram" "count" "J" (.long (cn + (1 : Int64))) := f5_F_ob_count.same W7
  have z7 : n0 ≤ h7.size := by rw [W7.size]; exact z5
  show own_W p e (FrameEnd s) below ({ frames := 3, cells := 0, slots := 0, locals := 45 } : Room).cells ({ frames := 3, cells := 0, slots := 0, locals := 45 } : Room).slots (Q7 Z ob qx ab cn mx fa h0 n0) T7 (mkF m 29 #[.val (.ref ob), .val (.long qx), .second, .val (.long (own_lmax qx (0 : Int64))), .second] [])
  refine own_lloadN X7 hx (hb hby d7_29) (v := (own_lmax qx (0 : Int64))) rfl (rfl : 29 + 1 = 30) ?_
  refine own_aloadN X7 hx (hb hby d7_30) (v := (.ref ob)) rfl rfl (rfl : 30 + 1 = 31) ?_
  obtain ⟨T8, X8, e8, st8⟩ := getF X7 hx hZ hown (host := "") (Or.inl (hw _ (List.mem_of_getElem? (i := 19) rfl))) Via.refl e7 f7_F_ob_max (g := (mkF m 31 #[.val (.ref ob), .val (.long qx), .second, .val (.long (own_lmax qx (0 : Int64))), .second] [(.ref ob), (.long (own_lmax qx (0 : Int64)))])) rfl rfl (hb hby d7_31)
  refine own_W.step st8 ?_
  show own_W p e (FrameEnd s) below ({ frames := 3, cells := 0, slots := 0, locals := 45 } : Room).cells ({ frames := 3, cells := 0, slots := 0, locals := 45 } : Room).slots (Q7 Z ob qx ab cn mx fa h0 n0) T8 (mkF m 34 #[.val (.ref ob), .val (.long qx), .second, .val (.long (own_lmax qx (0 : Int64))), .second] [(.long mx), (.long (own_lmax qx (0 : Int64)))])
  refine own_lcmp X8 hx (hb hby d7_34) (rfl : 34 + 1 = 35) ?_
  by_cases hc35 : mx < (own_lmax qx (0 : Int64))
  · skip
    refine own_ifNo X8 hx (hb hby d7_35) (XT.ll_le_f hc35) (rfl : 35 + 3 = 38) ?_
    refine own_aloadN X8 hx (hb hby d7_38) (v := (.ref ob)) rfl rfl (rfl : 38 + 1 = 39) ?_
    refine own_lloadN X8 hx (hb hby d7_39) (v := (own_lmax qx (0 : Int64))) rfl (rfl : 39 + 1 = 40) ?_
    obtain ⟨T9, h9, X9, e9, W9, st9⟩ := putF X8 hx hZ hown (host := "") (Or.inl (hw _ (List.mem_of_getElem? (i := 19) rfl))) Via.refl e8 f7_F_ob_max f7_E_ob (Or.inl (hw _ (List.mem_of_getElem? (i := 20) rfl))) (hw _ (List.mem_of_getElem? (i := 1) rfl)) (ty := .long) (by decide) rfl rfl (g := (mkF m 40 #[.val (.ref ob), .val (.long qx), .second, .val (.long (own_lmax qx (0 : Int64))), .second] [(.long (own_lmax qx (0 : Int64))), (.ref ob)])) rfl rfl (hb hby d7_40)
    refine own_W.step st9 ?_
    have N9 := Fr.snoc X9 N7 g_ob
    have f9_E_ob : Exa Z h9 ob "com/example/flipside/flipside/tool/LatencyHistogram" := f7_E_ob.wr W9
    have f9_F_ob_counts : Fld Z h9 ob "com/example/flipside/flipside/tool/LatencyHistogram" "counts" "[J" (.ref ab) := f7_F_ob_counts.other W9 (Or.inr (slot_ne (Or.inr (hw _ (List.mem_of_getElem? (i := 11) rfl))) (Or.inl (hw _ (List.mem_of_getElem? (i := 20) rfl))) (by decide) (t := (.array .long)) (t' := .long) (by decide) (by decide)))
    have f9_F_ob_count : Fld Z h9 ob "com/example/flipside/flipside/tool/LatencyHistogram" "count" "J" (.long (cn + (1 : Int64))) := fw7.other W9 (Or.inr (slot_ne (Or.inl (hw _ (List.mem_of_getElem? (i := 18) rfl))) (Or.inl (hw _ (List.mem_of_getElem? (i := 20) rfl))) (by decide) (t := .long) (t' := .long) (by decide) (by decide)))
    have f9_A_ab : own_A Z h9 ab .long (28160) (fun z => .long (own_up fa (own_bN (own_lmax qx (0 : Int64)).toInt.toNat) ((fa (own_bN (own_lmax qx (0 : Int64)).toInt.toNat)) + (1 : Int64)) z)) := f7_A_ab.other W9 (Ne.symm hne)
    have f9_K : Keep h0 h9 [ob, ab] := f7_K.wr W9 (Or.inl (by simp))
    have fw9 : Fld Z h9 ob "com/example/flipside/flipside/tool/LatencyHistogram" "max" "J" (.long (own_lmax qx (0 : Int64))) := f7_F_ob_max.same W9
    have z9 : n0 ≤ h9.size := by rw [W9.size]; exact z7
    show own_W p e (FrameEnd s) below ({ frames := 3, cells := 0, slots := 0, locals := 45 } : Room).cells ({ frames := 3, cells := 0, slots := 0, locals := 45 } : Room).slots (Q7 Z ob qx ab cn mx fa h0 n0) T9 (mkF m 43 #[.val (.ref ob), .val (.long qx), .second, .val (.long (own_lmax qx (0 : Int64))), .second] [])
    refine own_retV X9 hx hlk hret (hb hby d7_43) (by decide) (by decide) ?_
    show Q7 Z ob qx ab cn mx fa h0 n0 none T9.heap _
    rw [e9]
    exact ⟨rfl, N9, f9_K, f9_E_ob, f9_F_ob_counts, f9_F_ob_count, (by rw [show own_rm mx qx = own_lmax qx (0 : Int64) from if_pos hc35]; exact fw9), (f9_A_ab.congr (fun z _ => rfl))⟩
  · skip
    refine own_ifYes X8 hx (hb hby d7_35) (XT.ll_le_t hc35) (pc' := 43) (by decide) (by decide) ?_
    refine own_retV X8 hx hlk hret (hb hby d7_43) (by decide) (by decide) ?_
    show Q7 Z ob qx ab cn mx fa h0 n0 none T8.heap _
    rw [e8]
    exact ⟨rfl, N7, f7_K, f7_E_ob, f7_F_ob_counts, fw7, (by rw [show own_rm mx qx = mx from if_neg hc35]; exact f7_F_ob_max), (f7_A_ab.congr (fun z _ => rfl))⟩
theorem d3_0 : decode prog_21_method_3_code 0 = .ok (.iconst 0, 1) := by decide +kernel
theorem d3_1 : decode prog_21_method_3_code 1 = .ok (.istore_n 2, 1) := by decide +kernel
theorem d3_2 : decode prog_21_method_3_code 2 = .ok (.iload_n 2, 1) := by decide +kernel
theorem d3_3 : decode prog_21_method_3_code 3 = .ok (.sipush 28160, 3) := by decide +kernel
theorem d3_6 : decode prog_21_method_3_code 6 = .ok (.if_icmp .ge 24, 3) := by decide +kernel
theorem d3_9 : decode prog_21_method_3_code 9 = .ok (.aload_n 0, 1) := by decide +kernel
theorem d3_10 : decode prog_21_method_3_code 10 = .ok (.getfield 11, 3) := by decide +kernel
theorem d3_13 : decode prog_21_method_3_code 13 = .ok (.iload_n 2, 1) := by decide +kernel
theorem d3_14 : decode prog_21_method_3_code 14 = .ok (.dup2, 1) := by decide +kernel
theorem d3_15 : decode prog_21_method_3_code 15 = .ok (.laload, 1) := by decide +kernel
theorem d3_16 : decode prog_21_method_3_code 16 = .ok (.aload_n 1, 1) := by decide +kernel
theorem d3_17 : decode prog_21_method_3_code 17 = .ok (.getfield 11, 3) := by decide +kernel
theorem d3_20 : decode prog_21_method_3_code 20 = .ok (.iload_n 2, 1) := by decide +kernel
theorem d3_21 : decode prog_21_method_3_code 21 = .ok (.laload, 1) := by decide +kernel
theorem d3_22 : decode prog_21_method_3_code 22 = .ok (.ladd, 1) := by decide +kernel
theorem d3_23 : decode prog_21_method_3_code 23 = .ok (.lastore, 1) := by decide +kernel
theorem d3_24 : decode prog_21_method_3_code 24 = .ok (.iinc 2 1, 3) := by decide +kernel
theorem d3_27 : decode prog_21_method_3_code 27 = .ok (.goto (-25), 3) := by decide +kernel
theorem d3_30 : decode prog_21_method_3_code 30 = .ok (.aload_n 0, 1) := by decide +kernel
theorem d3_31 : decode prog_21_method_3_code 31 = .ok (.dup, 1) := by decide +kernel
theorem d3_32 : decode prog_21_method_3_code 32 = .ok (.getfield 25, 3) := by decide +kernel
theorem d3_35 : decode prog_21_method_3_code 35 = .ok (.aload_n 1, 1) := by decide +kernel
theorem d3_36 : decode prog_21_method_3_code 36 = .ok (.getfield 25, 3) := by decide +kernel
theorem d3_39 : decode prog_21_method_3_code 39 = .ok (.ladd, 1) := by decide +kernel
theorem d3_40 : decode prog_21_method_3_code 40 = .ok (.putfield 25, 3) := by decide +kernel
theorem d3_43 : decode prog_21_method_3_code 43 = .ok (.aload_n 0, 1) := by decide +kernel
theorem d3_44 : decode prog_21_method_3_code 44 = .ok (.aload_n 0, 1) := by decide +kernel
theorem d3_45 : decode prog_21_method_3_code 45 = .ok (.getfield 29, 3) := by decide +kernel
theorem d3_48 : decode prog_21_method_3_code 48 = .ok (.aload_n 1, 1) := by decide +kernel
theorem d3_49 : decode prog_21_method_3_code 49 = .ok (.getfield 29, 3) := by decide +kernel
theorem d3_52 : decode prog_21_method_3_code 52 = .ok (.invokestatic 15, 3) := by decide +kernel
theorem d3_55 : decode prog_21_method_3_code 55 = .ok (.putfield 29, 3) := by decide +kernel
theorem d3_58 : decode prog_21_method_3_code 58 = .ok (.return_, 1) := by decide +kernel
theorem ef_3 (m : MethodId) (ob : Addr) (oc : Addr) : entryFrame m #[(.ref ob), (.ref oc)] 3 = mkF m 0 #[.val (.ref ob), .val (.ref oc), .unset] [] := by first | (simp [entryFrame, mkF, argsToLocals, Value.category]; done) | rfl
def Q3 (Z : State) (ob : Addr) (oc : Addr) (ab : Addr) (ac : Addr) (cn : Int64) (cm : Int64) (mx : Int64) (my : Int64) (fa : Nat → Int64) (fb : Nat → Int64) (h0 : Heap) (n0 : Nat) (v : Option Value) (h : Heap) (L : List Loc) : Prop := v = none ∧ Fr n0 L ∧ Keep h0 h [ob, ab] ∧ Exa Z h ob "com/example/flipside/flipside/tool/LatencyHistogram" ∧ Fld Z h ob "com/example/flipside/flipside/tool/LatencyHistogram" "counts" "[J" (.ref ab) ∧ Fld Z h ob "com/example/flipside/flipside/tool/LatencyHistogram" "count" "J" (.long (cn + cm)) ∧ Fld Z h ob "com/example/flipside/flipside/tool/LatencyHistogram" "max" "J" (.long (own_lmax mx my)) ∧ own_A Z h ab .long (28160) (fun z => .long (own_af fa fb 28160 z))
set_option maxRecDepth 65536 in
set_option maxHeartbeats 40000000 in
theorem rm3 (l : Launch) (Z : State) (a0 : Array Value) (hw : ∀ d ∈ tables_1, d.before a0 Z = true) (ws : List Jvm.Cond) (ob : Addr) (oc : Addr) (ab : Addr) (ac : Addr) (cn : Int64) (cm : Int64) (mx : Int64) (my : Int64) (fa : Nat → Int64) (fb : Nat → Int64) (h0 : Heap) (n0 : Nat) (Z0 : n0 ≤ h0.size) (f_E_ob : Exa Z h0 ob "com/example/flipside/flipside/tool/LatencyHistogram") (f_F_ob_counts : Fld Z h0 ob "com/example/flipside/flipside/tool/LatencyHistogram" "counts" "[J" (.ref ab)) (f_F_ob_count : Fld Z h0 ob "com/example/flipside/flipside/tool/LatencyHistogram" "count" "J" (.long cn)) (f_F_ob_max : Fld Z h0 ob "com/example/flipside/flipside/tool/LatencyHistogram" "max" "J" (.long mx)) (f_F_oc_counts : Fld Z h0 oc "com/example/flipside/flipside/tool/LatencyHistogram" "counts" "[J" (.ref ac)) (f_F_oc_count : Fld Z h0 oc "com/example/flipside/flipside/tool/LatencyHistogram" "count" "J" (.long cm)) (f_F_oc_max : Fld Z h0 oc "com/example/flipside/flipside/tool/LatencyHistogram" "max" "J" (.long my)) (f_A_ab : own_A Z h0 ab .long (28160) (fun z => .long (fa z))) (f_A_ac : own_A Z h0 ac .long (28160) (fun z => .long (fb z))) (g_ob : n0 ≤ ob) (g_ab : n0 ≤ ab) (n1 : ob ≠ ab) (n2 : ob ≠ oc) (n3 : ob ≠ ac) (n4 : oc ≠ ab) (n5 : ab ≠ ac) :
    MetFree l (⟨"com/example/flipside/flipside/tool/LatencyHistogram", "add", "(Lcom/example/flipside/flipside/tool/LatencyHistogram;)V"⟩ : MethodName) (head1 (Jvm.Cond.code (⟨"com/example/flipside/flipside/tool/LatencyHistogram", "add", "(Lcom/example/flipside/flipside/tool/LatencyHistogram;)V"⟩ : MethodName) prog_21_method_3_code 3 none :: ws) ({ frames := 1, cells := 0, slots := 0, locals := 16 } : Room)) (fun avs U => avs = #[(.ref ob), (.ref oc)] ∧ Z.Warmed39 U.vm ∧ U.heap = h0) (fun _ _ _ _ _ => True) (fun _ U o U' => ∃ v L, o = .returned v ∧ Q3 Z ob oc ab ac cn cm mx my fa fb h0 n0 v U'.heap L ∧ FrameEnd U o U' L ({ frames := 1, cells := 0, slots := 0, locals := 16 } : Room).cells ({ frames := 1, cells := 0, slots := 0, locals := 16 } : Room).slots) := by
  refine MetFree.of_bodySF (plainFor_of_name own_pn_com_example_flipside_flipside_tool_LatencyHistogram) hisR ?_
  intro p e s m args below meth c s₁ Bd hml0 hP hK
  obtain ⟨rfl, hZ, hh⟩ := hP
  have hx := Bd.exec
  have hby := Bd.bytes
  have hml : c.maxLocals = 3 := hml0
  have hown : s.vm.findClass "com/example/flipside/flipside/tool/LatencyHistogram" = some m.cls := findClass_of_methodNamed Bd.named
  have hnm := (name_of_methodNamed Bd.named Bd.method).1
  have hlk := Bd.notSynchronized
  have hret := Bd.returns
  have X0 : Stand p l e ({ frames := 1, cells := 0, slots := 0, locals := 16 } : Room) s m #[(.ref ob), (.ref oc)] below meth c s₁ [] 0 0 := Stand.of_body Bd
  have e0 : s₁.heap = h0 := by rw [← hh, Bd.state]; rfl
  have N0 := Fr.nil n0
  show own_W p e (FrameEnd s) below ({ frames := 1, cells := 0, slots := 0, locals := 16 } : Room).cells ({ frames := 1, cells := 0, slots := 0, locals := 16 } : Room).slots (Q3 Z ob oc ab ac cn cm mx my fa fb h0 n0) s₁ (entryFrame m #[(.ref ob), (.ref oc)] 3)
  rw [ef_3]
  have K0 : Keep h0 h0 [ob, ab] := Keep.refl h0 _
  refine own_iconst X0 hx (hb hby d3_0) (0 : Int32) (by first | rfl | decide) (rfl : 0 + 1 = 1) ?_
  refine own_istoreN X0 hx (hb hby d3_1) (l' := #[.val (.ref ob), .val (.ref oc), .val (.int (0 : Int32))]) rfl (rfl : 1 + 1 = 2) ?_
  have A0 : own_A Z h0 ab .long (28160) (fun z => .long (own_af fa fb 0 z)) := f_A_ab.congr (fun z _ => congrArg Value.long (own_af0 fa fb z))
  have J2 : ∀ (fuel : Nat) (ix : Int32) (it : Nat) (TJ2 : State) (hJ2 : Heap) (LJ2 : List Loc), (28160 - it < fuel) → ∀ (XJ2 : Stand p l e ({ frames := 1, cells := 0, slots := 0, locals := 16 } : Room) s m #[(.ref ob), (.ref oc)] below meth c TJ2 LJ2 0 0), ∀ (eJ2 : TJ2.heap = hJ2), ∀ (NJ2 : Fr n0 LJ2), ∀ (zJ2 : n0 ≤ hJ2.size), ∀ (fJ2_0 : Exa Z hJ2 ob "com/example/flipside/flipside/tool/LatencyHistogram"), ∀ (fJ2_1 : Fld Z hJ2 ob "com/example/flipside/flipside/tool/LatencyHistogram" "counts" "[J" (.ref ab)), ∀ (fJ2_2 : Fld Z hJ2 ob "com/example/flipside/flipside/tool/LatencyHistogram" "count" "J" (.long cn)), ∀ (fJ2_3 : Fld Z hJ2 ob "com/example/flipside/flipside/tool/LatencyHistogram" "max" "J" (.long mx)), ∀ (fJ2_4 : Fld Z hJ2 oc "com/example/flipside/flipside/tool/LatencyHistogram" "counts" "[J" (.ref ac)), ∀ (fJ2_5 : Fld Z hJ2 oc "com/example/flipside/flipside/tool/LatencyHistogram" "count" "J" (.long cm)), ∀ (fJ2_6 : Fld Z hJ2 oc "com/example/flipside/flipside/tool/LatencyHistogram" "max" "J" (.long my)), ∀ (fJ2_7 : own_A Z hJ2 ab .long (28160) (fun z => .long (own_af fa fb it z))), ∀ (fJ2_8 : own_A Z hJ2 ac .long (28160) (fun z => .long (fb z))), ∀ (fJ2_9 : Keep h0 hJ2 [ob, ab]), ∀ (hix : ix.toInt = (it : Int)), ∀ (hit : it ≤ 28160), own_W p e (FrameEnd s) below ({ frames := 1, cells := 0, slots := 0, locals := 16 } : Room).cells ({ frames := 1, cells := 0, slots := 0, locals := 16 } : Room).slots (Q3 Z ob oc ab ac cn cm mx my fa fb h0 n0) TJ2 (mkF m 2 #[.val (.ref ob), .val (.ref oc), .val (.int ix)] []) := by
    intro fuel
    induction fuel with
    | zero => intro ix it TJ2 hJ2 LJ2 hfuel; exact absurd hfuel (Nat.not_lt_zero _)
    | succ fuel ih =>
      intro ix it TJ2 hJ2 LJ2 hfuel XJ2 eJ2 NJ2 zJ2 fJ2_0 fJ2_1 fJ2_2 fJ2_3 fJ2_4 fJ2_5 fJ2_6 fJ2_7 fJ2_8 fJ2_9 hix hit
      refine own_iloadN XJ2 hx (hb hby d3_2) (v := ix) rfl (rfl : 2 + 1 = 3) ?_
      refine own_sipush XJ2 hx (hb hby d3_3) (28160 : Int32) (by first | rfl | decide) (rfl : 3 + 3 = 6) ?_
      by_cases hc6 : ix < (28160 : Int32)
      · skip
        refine own_icmpNo XJ2 hx (hb hby d3_6) (tlt hc6).2.1 (rfl : 6 + 3 = 9) ?_
        refine own_aloadN XJ2 hx (hb hby d3_9) (v := (.ref ob)) rfl rfl (rfl : 9 + 1 = 10) ?_
        obtain ⟨T1, X1, e1, st1⟩ := getF XJ2 hx hZ hown (host := "") (Or.inl (hw _ (List.mem_of_getElem? (i := 10) rfl))) Via.refl eJ2 fJ2_1 (g := (mkF m 10 #[.val (.ref ob), .val (.ref oc), .val (.int ix)] [(.ref ob)])) rfl rfl (hb hby d3_10)
        refine own_W.step st1 ?_
        show own_W p e (FrameEnd s) below ({ frames := 1, cells := 0, slots := 0, locals := 16 } : Room).cells ({ frames := 1, cells := 0, slots := 0, locals := 16 } : Room).slots (Q3 Z ob oc ab ac cn cm mx my fa fb h0 n0) T1 (mkF m 13 #[.val (.ref ob), .val (.ref oc), .val (.int ix)] [(.ref ab)])
        refine own_iloadN X1 hx (hb hby d3_13) (v := ix) rfl (rfl : 13 + 1 = 14) ?_
        refine own_dup2 X1 hx (hb hby d3_14) rfl rfl (rfl : 14 + 1 = 15) ?_
        have hi2 : own_In ix (it) (28160) := ⟨hix, (own_lt28 hix).1 hc6⟩
        refine own_laload X1 hx hZ e1 fJ2_7 hi2 (v := (own_af fa fb it (it))) rfl (g := (mkF m 15 #[.val (.ref ob), .val (.ref oc), .val (.int ix)] [(.int ix), (.ref ab), (.int ix), (.ref ab)])) rfl rfl (hb hby d3_15) ?_
        show own_W p e (FrameEnd s) below ({ frames := 1, cells := 0, slots := 0, locals := 16 } : Room).cells ({ frames := 1, cells := 0, slots := 0, locals := 16 } : Room).slots (Q3 Z ob oc ab ac cn cm mx my fa fb h0 n0) T1 (mkF m 16 #[.val (.ref ob), .val (.ref oc), .val (.int ix)] [(.long (own_af fa fb it (it))), (.int ix), (.ref ab)])
        refine own_aloadN X1 hx (hb hby d3_16) (v := (.ref oc)) rfl rfl (rfl : 16 + 1 = 17) ?_
        obtain ⟨T3, X3, e3, st3⟩ := getF X1 hx hZ hown (host := "") (Or.inl (hw _ (List.mem_of_getElem? (i := 10) rfl))) Via.refl e1 fJ2_4 (g := (mkF m 17 #[.val (.ref ob), .val (.ref oc), .val (.int ix)] [(.ref oc), (.long (own_af fa fb it (it))), (.int ix), (.ref ab)])) rfl rfl (hb hby d3_17)
        refine own_W.step st3 ?_
        show own_W p e (FrameEnd s) below ({ frames := 1, cells := 0, slots := 0, locals := 16 } : Room).cells ({ frames := 1, cells := 0, slots := 0, locals := 16 } : Room).slots (Q3 Z ob oc ab ac cn cm mx my fa fb h0 n0) T3 (mkF m 20 #[.val (.ref ob), .val (.ref oc), .val (.int ix)] [(.ref ac), (.long (own_af fa fb it (it))), (.int ix), (.ref ab)])
        refine own_iloadN X3 hx (hb hby d3_20) (v := ix) rfl (rfl : 20 + 1 = 21) ?_
        have hi4 : own_In ix (it) (28160) := ⟨hix, (own_lt28 hix).1 hc6⟩
        refine own_laload X3 hx hZ e3 fJ2_8 hi4 (v := (fb (it))) rfl (g := (mkF m 21 #[.val (.ref ob), .val (.ref oc), .val (.int ix)] [(.int ix), (.ref ac), (.long (own_af fa fb it (it))), (.int ix), (.ref ab)])) rfl rfl (hb hby d3_21) ?_
        show own_W p e (FrameEnd s) below ({ frames := 1, cells := 0, slots := 0, locals := 16 } : Room).cells ({ frames := 1, cells := 0, slots := 0, locals := 16 } : Room).slots (Q3 Z ob oc ab ac cn cm mx my fa fb h0 n0) T3 (mkF m 22 #[.val (.ref ob), .val (.ref oc), .val (.int ix)] [(.long (fb (it))), (.long (own_af fa fb it (it))), (.int ix), (.ref ab)])
        refine own_ladd X3 hx (hb hby d3_22) (rfl : 22 + 1 = 23) ?_
        have hi5 : own_In ix (it) (28160) := ⟨hix, (own_lt28 hix).1 hc6⟩
        obtain ⟨T5, h5, X5, e5, W5, V5, st5⟩ := own_stJ X3 hx hZ e3 fJ2_7 hi5 (g := (mkF m 23 #[.val (.ref ob), .val (.ref oc), .val (.int ix)] [(.long ((own_af fa fb it (it)) + (fb (it)))), (.int ix), (.ref ab)])) rfl rfl (hb hby d3_23)
        refine own_W.step st5 ?_
        have N5 := Fr.snoc X5 NJ2 g_ab
        have f5_E_ob : Exa Z h5 ob "com/example/flipside/flipside/tool/LatencyHistogram" := fJ2_0.wr W5
        have f5_F_ob_counts : Fld Z h5 ob "com/example/flipside/flipside/tool/LatencyHistogram" "counts" "[J" (.ref ab) := fJ2_1.other W5 (Or.inl n1)
        have f5_F_ob_count : Fld Z h5 ob "com/example/flipside/flipside/tool/LatencyHistogram" "count" "J" (.long cn) := fJ2_2.other W5 (Or.inl n1)
        have f5_F_ob_max : Fld Z h5 ob "com/example/flipside/flipside/tool/LatencyHistogram" "max" "J" (.long mx) := fJ2_3.other W5 (Or.inl n1)
        have f5_F_oc_counts : Fld Z h5 oc "com/example/flipside/flipside/tool/LatencyHistogram" "counts" "[J" (.ref ac) := fJ2_4.other W5 (Or.inl n4)
        have f5_F_oc_count : Fld Z h5 oc "com/example/flipside/flipside/tool/LatencyHistogram" "count" "J" (.long cm) := fJ2_5.other W5 (Or.inl n4)
        have f5_F_oc_max : Fld Z h5 oc "com/example/flipside/flipside/tool/LatencyHistogram" "max" "J" (.long my) := fJ2_6.other W5 (Or.inl n4)
        have f5_A_ac : own_A Z h5 ac .long (28160) (fun z => .long (fb z)) := fJ2_8.other W5 (Ne.symm n5)
        have f5_K : Keep h0 h5 [ob, ab] := fJ2_9.wr W5 (Or.inl (by simp))
        have U5 : own_A Z h5 ab .long (28160) (fun z => .long (own_af fa fb (it + 1) z)) := V5.congr (fun z _ => own_afs fa fb it z)
        have z5 : n0 ≤ h5.size := by rw [W5.size]; exact zJ2
        show own_W p e (FrameEnd s) below ({ frames := 1, cells := 0, slots := 0, locals := 16 } : Room).cells ({ frames := 1, cells := 0, slots := 0, locals := 16 } : Room).slots (Q3 Z ob oc ab ac cn cm mx my fa fb h0 n0) T5 (mkF m 24 #[.val (.ref ob), .val (.ref oc), .val (.int ix)] [])
        refine own_iinc X5 hx (hb hby d3_24) (1 : Int32) rfl (x := ix) rfl (l' := #[.val (.ref ob), .val (.ref oc), .val (.int (ix + (1 : Int32)))]) rfl (rfl : 24 + 3 = 27) ?_
        refine own_goto X5 hx (hb hby d3_27) (pc' := 2) (by decide) (by decide) ?_
        exact ih  ((ix + (1 : Int32))) (it + 1) _ _ _ (by have q := (own_lt28 hix).1 hc6; omega) X5 e5 N5 z5 f5_E_ob f5_F_ob_counts f5_F_ob_count f5_F_ob_max f5_F_oc_counts f5_F_oc_count f5_F_oc_max U5 f5_A_ac f5_K (own_inc hix (by omega)) ((own_lt28 hix).1 hc6)
      · skip
        refine own_icmpYes XJ2 hx (hb hby d3_6) (flt hc6).2.1 (pc' := 30) (by decide) (by decide) ?_
        refine own_aloadN XJ2 hx (hb hby d3_30) (v := (.ref ob)) rfl rfl (rfl : 30 + 1 = 31) ?_
        refine own_dup XJ2 hx (hb hby d3_31) rfl (rfl : 31 + 1 = 32) ?_
        obtain ⟨T6, X6, e6, st6⟩ := getF XJ2 hx hZ hown (host := "") (Or.inl (hw _ (List.mem_of_getElem? (i := 17) rfl))) Via.refl eJ2 fJ2_2 (g := (mkF m 32 #[.val (.ref ob), .val (.ref oc), .val (.int ix)] [(.ref ob), (.ref ob)])) rfl rfl (hb hby d3_32)
        refine own_W.step st6 ?_
        show own_W p e (FrameEnd s) below ({ frames := 1, cells := 0, slots := 0, locals := 16 } : Room).cells ({ frames := 1, cells := 0, slots := 0, locals := 16 } : Room).slots (Q3 Z ob oc ab ac cn cm mx my fa fb h0 n0) T6 (mkF m 35 #[.val (.ref ob), .val (.ref oc), .val (.int ix)] [(.long cn), (.ref ob)])
        refine own_aloadN X6 hx (hb hby d3_35) (v := (.ref oc)) rfl rfl (rfl : 35 + 1 = 36) ?_
        obtain ⟨T7, X7, e7, st7⟩ := getF X6 hx hZ hown (host := "") (Or.inl (hw _ (List.mem_of_getElem? (i := 17) rfl))) Via.refl e6 fJ2_5 (g := (mkF m 36 #[.val (.ref ob), .val (.ref oc), .val (.int ix)] [(.ref oc), (.long cn), (.ref ob)])) rfl rfl (hb hby d3_36)
        refine own_W.step st7 ?_
        show own_W p e (FrameEnd s) below ({ frames := 1, cells := 0, slots := 0, locals := 16 } : Room).cells ({ frames := 1, cells := 0, slots := 0, locals := 16 } : Room).slots (Q3 Z ob oc ab ac cn cm mx my fa fb h0 n0) T7 (mkF m 39 #[.val (.ref ob), .val (.ref oc), .val (.int ix)] [(.long cm), (.long cn), (.ref ob)])
        refine own_ladd X7 hx (hb hby d3_39) (rfl : 39 + 1 = 40) ?_
        obtain ⟨T8, h8, X8, e8, W8, st8⟩ := putF X7 hx hZ hown (host := "") (Or.inl (hw _ (List.mem_of_getElem? (i := 17) rfl))) Via.refl e7 fJ2_2 fJ2_0 (Or.inl (hw _ (List.mem_of_getElem? (i := 18) rfl))) (hw _ (List.mem_of_getElem? (i := 1) rfl)) (ty := .long) (by decide) rfl rfl (g := (mkF m 40 #[.val (.ref ob), .val (.ref oc), .val (.int ix)] [(.long (cn + cm)), (.ref ob)])) rfl rfl (hb hby d3_40)
        refine own_W.step st8 ?_
        have N8 := Fr.snoc X8 NJ2 g_ob
        have f8_E_ob : Exa Z h8 ob "com/example/flipside/flipside/tool/LatencyHistogram" := fJ2_0.wr W8
        have f8_F_ob_counts : Fld Z h8 ob "com/example/flipside/flipside/tool/LatencyHistogram" "counts" "[J" (.ref ab) := fJ2_1.other W8 (Or.inr (slot_ne (Or.inr (hw _ (List.mem_of_getElem? (i := 11) rfl))) (Or.inl (hw _ (List.mem_of_getElem? (i := 18) rfl))) (by decide) (t := (.array .long)) (t' := .long) (by decide) (by decide)))
        have f8_F_ob_max : Fld Z h8 ob "com/example/flipside/flipside/tool/LatencyHistogram" "max" "J" (.long mx) := fJ2_3.other W8 (Or.inr (slot_ne (Or.inl (hw _ (List.mem_of_getElem? (i := 20) rfl))) (Or.inl (hw _ (List.mem_of_getElem? (i := 18) rfl))) (by decide) (t := .long) (t' := .long) (by decide) (by decide)))
        have f8_F_oc_counts : Fld Z h8 oc "com/example/flipside/flipside/tool/LatencyHistogram" "counts" "[J" (.ref ac) := fJ2_4.other W8 (Or.inl (Ne.symm n2))
        have f8_F_oc_count : Fld Z h8 oc "com/example/flipside/flipside/tool/LatencyHistogram" "count" "J" (.long cm) := fJ2_5.other W8 (Or.inl (Ne.symm n2))
        have f8_F_oc_max : Fld Z h8 oc "com/example/flipside/flipside/tool/LatencyHistogram" "max" "J" (.long my) := fJ2_6.other W8 (Or.inl (Ne.symm n2))
        have f8_A_ab : own_A Z h8 ab .long (28160) (fun z => .long (own_af fa fb it z)) := fJ2_7.other W8 (Ne.symm n1)
        have f8_A_ac : own_A Z h8 ac .long (28160) (fun z => .long (fb z)) := fJ2_8.other W8 (Ne.symm n3)
        have f8_K : Keep h0 h8 [ob, ab] := fJ2_9.wr W8 (Or.inl (by simp))
        have fw8 : Fld Z h8 ob "com/example/flipside/flipside/tool/LatencyHistogram" "count" "J" (.long (cn + cm)) := fJ2_2.same W8
        have z8 : n0 ≤ h8.size := by rw [W8.size]; exact zJ2
        show own_W p e (FrameEnd s) below ({ frames := 1, cells := 0, slots := 0, locals := 16 } : Room).cells ({ frames := 1, cells := 0, slots := 0, locals := 16 } : Room).slots (Q3 Z ob oc ab ac cn cm mx my fa fb h0 n0) T8 (mkF m 43 #[.val (.ref ob), .val (.ref oc), .val (.int ix)] [])
        refine own_aloadN X8 hx (hb hby d3_43) (v := (.ref ob)) rfl rfl (rfl : 43 + 1 = 44) ?_
        refine own_aloadN X8 hx (hb hby d3_44) (v := (.ref ob)) rfl rfl (rfl : 44 + 1 = 45) ?_
        obtain ⟨T9, X9, e9, st9⟩ := getF X8 hx hZ hown (host := "") (Or.inl (hw _ (List.mem_of_getElem? (i := 19) rfl))) Via.refl e8 f8_F_ob_max (g := (mkF m 45 #[.val (.ref ob), .val (.ref oc), .val (.int ix)] [(.ref ob), (.ref ob)])) rfl rfl (hb hby d3_45)
        refine own_W.step st9 ?_
        show own_W p e (FrameEnd s) below ({ frames := 1, cells := 0, slots := 0, locals := 16 } : Room).cells ({ frames := 1, cells := 0, slots := 0, locals := 16 } : Room).slots (Q3 Z ob oc ab ac cn cm mx my fa fb h0 n0) T9 (mkF m 48 #[.val (.ref ob), .val (.ref oc), .val (.int ix)] [(.long mx), (.ref ob)])
        refine own_aloadN X9 hx (hb hby d3_48) (v := (.ref oc)) rfl rfl (rfl : 48 + 1 = 49) ?_
        obtain ⟨T10, X10, e10, st10⟩ := getF X9 hx hZ hown (host := "") (Or.inl (hw _ (List.mem_of_getElem? (i := 19) rfl))) Via.refl e9 f8_F_oc_max (g := (mkF m 49 #[.val (.ref ob), .val (.ref oc), .val (.int ix)] [(.ref oc), (.long mx), (.ref ob)])) rfl rfl (hb hby d3_49)
        refine own_W.step st10 ?_
        show own_W p e (FrameEnd s) below ({ frames := 1, cells := 0, slots := 0, locals := 16 } : Room).cells ({ frames := 1, cells := 0, slots := 0, locals := 16 } : Room).slots (Q3 Z ob oc ab ac cn cm mx my fa fb h0 n0) T10 (mkF m 52 #[.val (.ref ob), .val (.ref oc), .val (.int ix)] [(.long my), (.long mx), (.ref ob)])
        obtain ⟨_, _, ⟨T11, L11, k11, n11⟩, -, X11, ⟨Lc11, hQ11, l11, y11, z11⟩, st11⟩ := Jvm.LawKit.callS X10 hx (y := (⟨"java/lang/Math", "max", "(JJ)J"⟩ : MethodName)) hown (mvT hZ (hw _ (List.mem_of_getElem? (i := 21) rfl))) (mvT hZ (hw _ (List.mem_of_getElem? (i := 22) rfl))) (mvT hZ (hw _ (List.mem_of_getElem? (i := 23) rfl))) (mvT hZ (hw _ (List.mem_of_getElem? (i := 24) rfl))) (by decide) (backOf (W := 1) (rm4 l Z a0 hw [] mx my  h8 n0 z8 ) hZ (hw _ (List.mem_of_getElem? (i := 24) rfl)) (hw _ (List.mem_of_getElem? (i := 23) rfl)) (by decide) (by decide)) (g := (mkF m 52 #[.val (.ref ob), .val (.ref oc), .val (.int ix)] [(.long my), (.long mx), (.ref ob)])) rfl (by rw [hml]; rfl) (argsL := [(.long mx), (.long my)]) (rest := [(.ref ob)]) (lenOf own_pd__JJ_J rfl) rfl (by show 2 * 0 + _ ≤ _; exact Nat.le_of_eq rfl) (hb hby d3_52) (fun _ _ => ⟨rfl, e10, (by decide : 0 + 0 ≤ _), (by decide : 0 + 0 ≤ _)⟩)
        dsimp only [Pt.U, Pt.locs, Pt.cells, Pt.slots] at X11 l11 y11 z11 st11 hQ11
        subst l11 y11 z11
        obtain ⟨rfl, N11q, e11⟩ := hQ11
        have N11 := Fr.app N8 N11q
        refine own_W.step st11 ?_
        show own_W p e (FrameEnd s) below ({ frames := 1, cells := 0, slots := 0, locals := 16 } : Room).cells ({ frames := 1, cells := 0, slots := 0, locals := 16 } : Room).slots (Q3 Z ob oc ab ac cn cm mx my fa fb h0 n0) T11 (mkF m 55 #[.val (.ref ob), .val (.ref oc), .val (.int ix)] [(.long (own_lmax mx my)), (.ref ob)])
        obtain ⟨T12, h12, X12, e12, W12, st12⟩ := putF X11 hx hZ hown (host := "") (Or.inl (hw _ (List.mem_of_getElem? (i := 19) rfl))) Via.refl e11 f8_F_ob_max f8_E_ob (Or.inl (hw _ (List.mem_of_getElem? (i := 20) rfl))) (hw _ (List.mem_of_getElem? (i := 1) rfl)) (ty := .long) (by decide) rfl rfl (g := (mkF m 55 #[.val (.ref ob), .val (.ref oc), .val (.int ix)] [(.long (own_lmax mx my)), (.ref ob)])) rfl rfl (hb hby d3_55)
        refine own_W.step st12 ?_
        have N12 := Fr.snoc X12 N11 g_ob
        have f12_E_ob : Exa Z h12 ob "com/example/flipside/flipside/tool/LatencyHistogram" := f8_E_ob.wr W12
        have f12_F_ob_counts : Fld Z h12 ob "com/example/flipside/flipside/tool/LatencyHistogram" "counts" "[J" (.ref ab) := f8_F_ob_counts.other W12 (Or.inr (slot_ne (Or.inr (hw _ (List.mem_of_getElem? (i := 11) rfl))) (Or.inl (hw _ (List.mem_of_getElem? (i := 20) rfl))) (by decide) (t := (.array .long)) (t' := .long) (by decide) (by decide)))
        have f12_F_ob_count : Fld Z h12 ob "com/example/flipside/flipside/tool/LatencyHistogram" "count" "J" (.long (cn + cm)) := fw8.other W12 (Or.inr (slot_ne (Or.inl (hw _ (List.mem_of_getElem? (i := 18) rfl))) (Or.inl (hw _ (List.mem_of_getElem? (i := 20) rfl))) (by decide) (t := .long) (t' := .long) (by decide) (by decide)))
        have f12_F_oc_counts : Fld Z h12 oc "com/example/flipside/flipside/tool/LatencyHistogram" "counts" "[J" (.ref ac) := f8_F_oc_counts.other W12 (Or.inl (Ne.symm n2))
        have f12_F_oc_count : Fld Z h12 oc "com/example/flipside/flipside/tool/LatencyHistogram" "count" "J" (.long cm) := f8_F_oc_count.other W12 (Or.inl (Ne.symm n2))
        have f12_F_oc_max : Fld Z h12 oc "com/example/flipside/flipside/tool/LatencyHistogram" "max" "J" (.long my) := f8_F_oc_max.other W12 (Or.inl (Ne.symm n2))
        have f12_A_ab : own_A Z h12 ab .long (28160) (fun z => .long (own_af fa fb it z)) := f8_A_ab.other W12 (Ne.symm n1)
        have f12_A_ac : own_A Z h12 ac .long (28160) (fun z => .long (fb z)) := f8_A_ac.other W12 (Ne.symm n3)
        have f12_K : Keep h0 h12 [ob, ab] := f8_K.wr W12 (Or.inl (by simp))
        have fw12 : Fld Z h12 ob "com/example/flipside/flipside/tool/LatencyHistogram" "max" "J" (.long (own_lmax mx my)) := f8_F_ob_max.same W12
        have z12 : n0 ≤ h12.size := by rw [W12.size]; exact z8
        show own_W p e (FrameEnd s) below ({ frames := 1, cells := 0, slots := 0, locals := 16 } : Room).cells ({ frames := 1, cells := 0, slots := 0, locals := 16 } : Room).slots (Q3 Z ob oc ab ac cn cm mx my fa fb h0 n0) T12 (mkF m 58 #[.val (.ref ob), .val (.ref oc), .val (.int ix)] [])
        refine own_retV X12 hx hlk hret (hb hby d3_58) (by decide) (by decide) ?_
        show Q3 Z ob oc ab ac cn cm mx my fa fb h0 n0 none T12.heap _
        rw [e12]
        exact ⟨rfl, N12, f12_K, f12_E_ob, f12_F_ob_counts, f12_F_ob_count, fw12, (f12_A_ab.congr (fun z _ => by rw [show it = 28160 from by have q := mt (own_lt28 hix).2 hc6; omega]))⟩
  exact J2 (28160 - (0) + 1) ((0 : Int32)) (0) _ _ _ (Nat.lt_succ_self _) X0 e0 N0 Z0 f_E_ob f_F_ob_counts f_F_ob_count f_F_ob_max f_F_oc_counts f_F_oc_count f_F_oc_max A0 f_A_ac K0 (rfl) (by decide)
theorem d10_0 : decode prog_21_method_9_code 0 = .ok (.lload_n 0, 1) := by decide +kernel
theorem d10_1 : decode prog_21_method_9_code 1 = .ok (.lload_n 2, 1) := by decide +kernel
theorem d10_2 : decode prog_21_method_9_code 2 = .ok (.ladd, 1) := by decide +kernel
theorem d10_3 : decode prog_21_method_9_code 3 = .ok (.lconst 1, 1) := by decide +kernel
theorem d10_4 : decode prog_21_method_9_code 4 = .ok (.lsub, 1) := by decide +kernel
theorem d10_5 : decode prog_21_method_9_code 5 = .ok (.lload_n 2, 1) := by decide +kernel
theorem d10_6 : decode prog_21_method_9_code 6 = .ok (.ldiv, 1) := by decide +kernel
theorem d10_7 : decode prog_21_method_9_code 7 = .ok (.lreturn, 1) := by decide +kernel
theorem ef_10 (m : MethodId) (qa : Int64) (qb : Int64) : entryFrame m #[(.long qa), (.long qb)] 4 = mkF m 0 #[.val (.long qa), .second, .val (.long qb), .second] [] := by first | (simp [entryFrame, mkF, argsToLocals, Value.category]; done) | rfl
def Q10 (Z : State) (qa : Int64) (qb : Int64)  (h0 : Heap) (n0 : Nat) (v : Option Value) (h : Heap) (L : List Loc) : Prop := v = some (.long (((qa + qb) - (1 : Int64)) / qb)) ∧ Fr n0 L ∧ h = h0
set_option maxRecDepth 65536 in
set_option maxHeartbeats 40000000 in
theorem rm10 (l : Launch) (Z : State) (a0 : Array Value) (hw : ∀ d ∈ tables_1, d.before a0 Z = true) (ws : List Jvm.Cond) (qa : Int64) (qb : Int64)  (h0 : Heap) (n0 : Nat) (Z0 : n0 ≤ h0.size) (hb0 : qb ≠ 0) :
    MetFree l (⟨"com/example/flipside/flipside/tool/LatencyHistogram", "ceilDivide", "(JJ)J"⟩ : MethodName) (head1 (Jvm.Cond.code (⟨"com/example/flipside/flipside/tool/LatencyHistogram", "ceilDivide", "(JJ)J"⟩ : MethodName) prog_21_method_9_code 4 (some .long) :: ws) ({ frames := 0, cells := 0, slots := 0, locals := 0 } : Room)) (fun avs U => avs = #[(.long qa), (.long qb)] ∧ Z.Warmed39 U.vm ∧ U.heap = h0) (fun _ _ _ _ _ => True) (fun _ U o U' => ∃ v L, o = .returned v ∧ Q10 Z qa qb h0 n0 v U'.heap L ∧ FrameEnd U o U' L ({ frames := 0, cells := 0, slots := 0, locals := 0 } : Room).cells ({ frames := 0, cells := 0, slots := 0, locals := 0 } : Room).slots) := by
  refine MetFree.of_bodySF (plainFor_of_name own_pn_com_example_flipside_flipside_tool_LatencyHistogram) hisR ?_
  intro p e s m args below meth c s₁ Bd hml0 hP hK
  obtain ⟨rfl, hZ, hh⟩ := hP
  have hx := Bd.exec
  have hby := Bd.bytes
  have hml : c.maxLocals = 4 := hml0
  have hown : s.vm.findClass "com/example/flipside/flipside/tool/LatencyHistogram" = some m.cls := findClass_of_methodNamed Bd.named
  have hnm := (name_of_methodNamed Bd.named Bd.method).1
  have hlk := Bd.notSynchronized
  have hret := Bd.returns
  have X0 : Stand p l e ({ frames := 0, cells := 0, slots := 0, locals := 0 } : Room) s m #[(.long qa), (.long qb)] below meth c s₁ [] 0 0 := Stand.of_body Bd
  have e0 : s₁.heap = h0 := by rw [← hh, Bd.state]; rfl
  have N0 := Fr.nil n0
  show own_W p e (FrameEnd s) below ({ frames := 0, cells := 0, slots := 0, locals := 0 } : Room).cells ({ frames := 0, cells := 0, slots := 0, locals := 0 } : Room).slots (Q10 Z qa qb h0 n0) s₁ (entryFrame m #[(.long qa), (.long qb)] 4)
  rw [ef_10]
  refine own_lloadN X0 hx (hb hby d10_0) (v := qa) rfl (rfl : 0 + 1 = 1) ?_
  refine own_lloadN X0 hx (hb hby d10_1) (v := qb) rfl (rfl : 1 + 1 = 2) ?_
  refine own_ladd X0 hx (hb hby d10_2) (rfl : 2 + 1 = 3) ?_
  refine own_lconst X0 hx (hb hby d10_3) (1 : Int64) (by first | rfl | decide) (rfl : 3 + 1 = 4) ?_
  refine own_lsub X0 hx (hb hby d10_4) (rfl : 4 + 1 = 5) ?_
  refine own_lloadN X0 hx (hb hby d10_5) (v := qb) rfl (rfl : 5 + 1 = 6) ?_
  refine own_ldiv X0 hx (hb hby d10_6) hb0 (rfl : 6 + 1 = 7) ?_
  refine own_retJ X0 hx hlk hret (hb hby d10_7) (by decide) (by decide) ?_
  show Q10 Z qa qb h0 n0 (some (.long (((qa + qb) - (1 : Int64)) / qb))) s₁.heap _
  rw [e0]
  exact ⟨rfl, N0, rfl⟩
theorem d11_0 : decode prog_21_method_8_code 0 = .ok (.iload_n 0, 1) := by decide +kernel
theorem d11_1 : decode prog_21_method_8_code 1 = .ok (.sipush 1024, 3) := by decide +kernel
theorem d11_4 : decode prog_21_method_8_code 4 = .ok (.if_icmp .ge 6, 3) := by decide +kernel
theorem d11_7 : decode prog_21_method_8_code 7 = .ok (.iload_n 0, 1) := by decide +kernel
theorem d11_8 : decode prog_21_method_8_code 8 = .ok (.i2l, 1) := by decide +kernel
theorem d11_9 : decode prog_21_method_8_code 9 = .ok (.lreturn, 1) := by decide +kernel
theorem d11_10 : decode prog_21_method_8_code 10 = .ok (.bipush 10, 2) := by decide +kernel
theorem d11_12 : decode prog_21_method_8_code 12 = .ok (.iload_n 0, 1) := by decide +kernel
theorem d11_13 : decode prog_21_method_8_code 13 = .ok (.sipush 1024, 3) := by decide +kernel
theorem d11_16 : decode prog_21_method_8_code 16 = .ok (.isub, 1) := by decide +kernel
theorem d11_17 : decode prog_21_method_8_code 17 = .ok (.sipush 512, 3) := by decide +kernel
theorem d11_20 : decode prog_21_method_8_code 20 = .ok (.idiv, 1) := by decide +kernel
theorem d11_21 : decode prog_21_method_8_code 21 = .ok (.iadd, 1) := by decide +kernel
theorem d11_22 : decode prog_21_method_8_code 22 = .ok (.istore_n 1, 1) := by decide +kernel
theorem d11_23 : decode prog_21_method_8_code 23 = .ok (.iload_n 1, 1) := by decide +kernel
theorem d11_24 : decode prog_21_method_8_code 24 = .ok (.bipush 9, 2) := by decide +kernel
theorem d11_26 : decode prog_21_method_8_code 26 = .ok (.isub, 1) := by decide +kernel
theorem d11_27 : decode prog_21_method_8_code 27 = .ok (.istore_n 2, 1) := by decide +kernel
theorem d11_28 : decode prog_21_method_8_code 28 = .ok (.sipush 512, 3) := by decide +kernel
theorem d11_31 : decode prog_21_method_8_code 31 = .ok (.iload_n 0, 1) := by decide +kernel
theorem d11_32 : decode prog_21_method_8_code 32 = .ok (.sipush 1024, 3) := by decide +kernel
theorem d11_35 : decode prog_21_method_8_code 35 = .ok (.isub, 1) := by decide +kernel
theorem d11_36 : decode prog_21_method_8_code 36 = .ok (.sipush 512, 3) := by decide +kernel
theorem d11_39 : decode prog_21_method_8_code 39 = .ok (.irem, 1) := by decide +kernel
theorem d11_40 : decode prog_21_method_8_code 40 = .ok (.iadd, 1) := by decide +kernel
theorem d11_41 : decode prog_21_method_8_code 41 = .ok (.i2l, 1) := by decide +kernel
theorem d11_42 : decode prog_21_method_8_code 42 = .ok (.iload_n 2, 1) := by decide +kernel
theorem d11_43 : decode prog_21_method_8_code 43 = .ok (.lshl, 1) := by decide +kernel
theorem d11_44 : decode prog_21_method_8_code 44 = .ok (.lstore_n 3, 1) := by decide +kernel
theorem d11_45 : decode prog_21_method_8_code 45 = .ok (.lload_n 3, 1) := by decide +kernel
theorem d11_46 : decode prog_21_method_8_code 46 = .ok (.lconst 1, 1) := by decide +kernel
theorem d11_47 : decode prog_21_method_8_code 47 = .ok (.iload_n 2, 1) := by decide +kernel
theorem d11_48 : decode prog_21_method_8_code 48 = .ok (.lshl, 1) := by decide +kernel
theorem d11_49 : decode prog_21_method_8_code 49 = .ok (.lconst 1, 1) := by decide +kernel
theorem d11_50 : decode prog_21_method_8_code 50 = .ok (.lsub, 1) := by decide +kernel
theorem d11_51 : decode prog_21_method_8_code 51 = .ok (.ladd, 1) := by decide +kernel
theorem d11_52 : decode prog_21_method_8_code 52 = .ok (.lreturn, 1) := by decide +kernel
theorem ef_11 (m : MethodId) (pi : Int32) : entryFrame m #[(.int pi)] 5 = mkF m 0 #[.val (.int pi), .unset, .unset, .unset, .unset] [] := by first | (simp [entryFrame, mkF, argsToLocals, Value.category]; done) | rfl
def Q11 (Z : State) (pi : Int32)  (h0 : Heap) (n0 : Nat) (v : Option Value) (h : Heap) (L : List Loc) : Prop := v = some (.long (own_long pi)) ∧ Fr n0 L ∧ h = h0
set_option maxRecDepth 65536 in
set_option maxHeartbeats 40000000 in
theorem rm11 (l : Launch) (Z : State) (a0 : Array Value) (hw : ∀ d ∈ tables_1, d.before a0 Z = true) (ws : List Jvm.Cond) (pi : Int32)  (h0 : Heap) (n0 : Nat) (Z0 : n0 ≤ h0.size)  :
    MetFree l (⟨"com/example/flipside/flipside/tool/LatencyHistogram", "longestIn", "(I)J"⟩ : MethodName) (head1 (Jvm.Cond.code (⟨"com/example/flipside/flipside/tool/LatencyHistogram", "longestIn", "(I)J"⟩ : MethodName) prog_21_method_8_code 5 (some .long) :: ws) ({ frames := 0, cells := 0, slots := 0, locals := 0 } : Room)) (fun avs U => avs = #[(.int pi)] ∧ Z.Warmed39 U.vm ∧ U.heap = h0) (fun _ _ _ _ _ => True) (fun _ U o U' => ∃ v L, o = .returned v ∧ Q11 Z pi h0 n0 v U'.heap L ∧ FrameEnd U o U' L ({ frames := 0, cells := 0, slots := 0, locals := 0 } : Room).cells ({ frames := 0, cells := 0, slots := 0, locals := 0 } : Room).slots) := by
  refine MetFree.of_bodySF (plainFor_of_name own_pn_com_example_flipside_flipside_tool_LatencyHistogram) hisR ?_
  intro p e s m args below meth c s₁ Bd hml0 hP hK
  obtain ⟨rfl, hZ, hh⟩ := hP
  have hx := Bd.exec
  have hby := Bd.bytes
  have hml : c.maxLocals = 5 := hml0
  have hown : s.vm.findClass "com/example/flipside/flipside/tool/LatencyHistogram" = some m.cls := findClass_of_methodNamed Bd.named
  have hnm := (name_of_methodNamed Bd.named Bd.method).1
  have hlk := Bd.notSynchronized
  have hret := Bd.returns
  have X0 : Stand p l e ({ frames := 0, cells := 0, slots := 0, locals := 0 } : Room) s m #[(.int pi)] below meth c s₁ [] 0 0 := Stand.of_body Bd
  have e0 : s₁.heap = h0 := by rw [← hh, Bd.state]; rfl
  have N0 := Fr.nil n0
  show own_W p e (FrameEnd s) below ({ frames := 0, cells := 0, slots := 0, locals := 0 } : Room).cells ({ frames := 0, cells := 0, slots := 0, locals := 0 } : Room).slots (Q11 Z pi h0 n0) s₁ (entryFrame m #[(.int pi)] 5)
  rw [ef_11]
  refine own_iloadN X0 hx (hb hby d11_0) (v := pi) rfl (rfl : 0 + 1 = 1) ?_
  refine own_sipush X0 hx (hb hby d11_1) (1024 : Int32) (by first | rfl | decide) (rfl : 1 + 3 = 4) ?_
  by_cases hc4 : pi < (1024 : Int32)
  · skip
    refine own_icmpNo X0 hx (hb hby d11_4) (tlt hc4).2.1 (rfl : 4 + 3 = 7) ?_
    refine own_iloadN X0 hx (hb hby d11_7) (v := pi) rfl (rfl : 7 + 1 = 8) ?_
    refine own_i2l X0 hx (hb hby d11_8) (rfl : 8 + 1 = 9) ?_
    refine own_retJ X0 hx hlk hret (hb hby d11_9) (by decide) (by decide) ?_
    show Q11 Z pi h0 n0 (some (.long (pi.toInt64))) s₁.heap _
    rw [e0]
    exact ⟨by simp only [own_long, if_pos hc4], N0, rfl⟩
  · skip
    refine own_icmpYes X0 hx (hb hby d11_4) (flt hc4).2.1 (pc' := 10) (by decide) (by decide) ?_
    refine own_bipush X0 hx (hb hby d11_10) (10 : Int32) (by first | rfl | decide) (rfl : 10 + 2 = 12) ?_
    refine own_iloadN X0 hx (hb hby d11_12) (v := pi) rfl (rfl : 12 + 1 = 13) ?_
    refine own_sipush X0 hx (hb hby d11_13) (1024 : Int32) (by first | rfl | decide) (rfl : 13 + 3 = 16) ?_
    refine own_isub X0 hx (hb hby d11_16) (rfl : 16 + 1 = 17) ?_
    refine own_sipush X0 hx (hb hby d11_17) (512 : Int32) (by first | rfl | decide) (rfl : 17 + 3 = 20) ?_
    refine own_idiv X0 hx (hb hby d11_20) (by decide) (rfl : 20 + 1 = 21) ?_
    refine own_iadd X0 hx (hb hby d11_21) (rfl : 21 + 1 = 22) ?_
    refine own_istoreN X0 hx (hb hby d11_22) (l' := #[.val (.int pi), .val (.int ((10 : Int32) + ((pi - (1024 : Int32)) / (512 : Int32)))), .unset, .unset, .unset]) rfl (rfl : 22 + 1 = 23) ?_
    refine own_iloadN X0 hx (hb hby d11_23) (v := ((10 : Int32) + ((pi - (1024 : Int32)) / (512 : Int32)))) rfl (rfl : 23 + 1 = 24) ?_
    refine own_bipush X0 hx (hb hby d11_24) (9 : Int32) (by first | rfl | decide) (rfl : 24 + 2 = 26) ?_
    refine own_isub X0 hx (hb hby d11_26) (rfl : 26 + 1 = 27) ?_
    refine own_istoreN X0 hx (hb hby d11_27) (l' := #[.val (.int pi), .val (.int ((10 : Int32) + ((pi - (1024 : Int32)) / (512 : Int32)))), .val (.int (((10 : Int32) + ((pi - (1024 : Int32)) / (512 : Int32))) - (9 : Int32))), .unset, .unset]) rfl (rfl : 27 + 1 = 28) ?_
    refine own_sipush X0 hx (hb hby d11_28) (512 : Int32) (by first | rfl | decide) (rfl : 28 + 3 = 31) ?_
    refine own_iloadN X0 hx (hb hby d11_31) (v := pi) rfl (rfl : 31 + 1 = 32) ?_
    refine own_sipush X0 hx (hb hby d11_32) (1024 : Int32) (by first | rfl | decide) (rfl : 32 + 3 = 35) ?_
    refine own_isub X0 hx (hb hby d11_35) (rfl : 35 + 1 = 36) ?_
    refine own_sipush X0 hx (hb hby d11_36) (512 : Int32) (by first | rfl | decide) (rfl : 36 + 3 = 39) ?_
    refine own_irem X0 hx (hb hby d11_39) (by decide) (rfl : 39 + 1 = 40) ?_
    refine own_iadd X0 hx (hb hby d11_40) (rfl : 40 + 1 = 41) ?_
    refine own_i2l X0 hx (hb hby d11_41) (rfl : 41 + 1 = 42) ?_
    refine own_iloadN X0 hx (hb hby d11_42) (v := (((10 : Int32) + ((pi - (1024 : Int32)) / (512 : Int32))) - (9 : Int32))) rfl (rfl : 42 + 1 = 43) ?_
    refine own_lshl X0 hx (hb hby d11_43) (rfl : 43 + 1 = 44) ?_
    refine own_lstoreN X0 hx (hb hby d11_44) (l' := #[.val (.int pi), .val (.int ((10 : Int32) + ((pi - (1024 : Int32)) / (512 : Int32)))), .val (.int (((10 : Int32) + ((pi - (1024 : Int32)) / (512 : Int32))) - (9 : Int32))), .val (.long ((((512 : Int32) + ((pi - (1024 : Int32)) % (512 : Int32))).toInt64) <<< ((((10 : Int32) + ((pi - (1024 : Int32)) / (512 : Int32))) - (9 : Int32)) &&& 0x3f).toInt64)), .second]) rfl (rfl : 44 + 1 = 45) ?_
    refine own_lloadN X0 hx (hb hby d11_45) (v := ((((512 : Int32) + ((pi - (1024 : Int32)) % (512 : Int32))).toInt64) <<< ((((10 : Int32) + ((pi - (1024 : Int32)) / (512 : Int32))) - (9 : Int32)) &&& 0x3f).toInt64)) rfl (rfl : 45 + 1 = 46) ?_
    refine own_lconst X0 hx (hb hby d11_46) (1 : Int64) (by first | rfl | decide) (rfl : 46 + 1 = 47) ?_
    refine own_iloadN X0 hx (hb hby d11_47) (v := (((10 : Int32) + ((pi - (1024 : Int32)) / (512 : Int32))) - (9 : Int32))) rfl (rfl : 47 + 1 = 48) ?_
    refine own_lshl X0 hx (hb hby d11_48) (rfl : 48 + 1 = 49) ?_
    refine own_lconst X0 hx (hb hby d11_49) (1 : Int64) (by first | rfl | decide) (rfl : 49 + 1 = 50) ?_
    refine own_lsub X0 hx (hb hby d11_50) (rfl : 50 + 1 = 51) ?_
    refine own_ladd X0 hx (hb hby d11_51) (rfl : 51 + 1 = 52) ?_
    refine own_retJ X0 hx hlk hret (hb hby d11_52) (by decide) (by decide) ?_
    show Q11 Z pi h0 n0 (some (.long (((((512 : Int32) + ((pi - (1024 : Int32)) % (512 : Int32))).toInt64) <<< ((((10 : Int32) + ((pi - (1024 : Int32)) / (512 : Int32))) - (9 : Int32)) &&& 0x3f).toInt64) + (((1 : Int64) <<< ((((10 : Int32) + ((pi - (1024 : Int32)) / (512 : Int32))) - (9 : Int32)) &&& 0x3f).toInt64) - (1 : Int64))))) s₁.heap _
    rw [e0]
    exact ⟨by simp only [own_long, if_neg hc4], N0, rfl⟩
theorem own_pd__I_J : parseMethodDescriptor "(I)J" = some ⟨[.int], some .long⟩ := by decide +kernel
theorem d9_0 : decode prog_21_method_6_code 0 = .ok (.lload_n 3, 1) := by decide +kernel
theorem d9_1 : decode prog_21_method_6_code 1 = .ok (.lconst 1, 1) := by decide +kernel
theorem d9_2 : decode prog_21_method_6_code 2 = .ok (.lcmp, 1) := by decide +kernel
theorem d9_3 : decode prog_21_method_6_code 3 = .ok (.ifCond .lt 23, 3) := by decide +kernel
theorem d9_6 : decode prog_21_method_6_code 6 = .ok (.lload_n 3, 1) := by decide +kernel
theorem d9_7 : decode prog_21_method_6_code 7 = .ok (.ldc2_w 31, 3) := by decide +kernel
theorem d9_10 : decode prog_21_method_6_code 10 = .ok (.lcmp, 1) := by decide +kernel
theorem d9_11 : decode prog_21_method_6_code 11 = .ok (.ifCond .gt 15, 3) := by decide +kernel
theorem d9_14 : decode prog_21_method_6_code 14 = .ok (.lload_n 1, 1) := by decide +kernel
theorem d9_15 : decode prog_21_method_6_code 15 = .ok (.lconst 1, 1) := by decide +kernel
theorem d9_16 : decode prog_21_method_6_code 16 = .ok (.lcmp, 1) := by decide +kernel
theorem d9_17 : decode prog_21_method_6_code 17 = .ok (.ifCond .lt 9, 3) := by decide +kernel
theorem d9_20 : decode prog_21_method_6_code 20 = .ok (.lload_n 1, 1) := by decide +kernel
theorem d9_21 : decode prog_21_method_6_code 21 = .ok (.lload_n 3, 1) := by decide +kernel
theorem d9_22 : decode prog_21_method_6_code 22 = .ok (.lcmp, 1) := by decide +kernel
theorem d9_23 : decode prog_21_method_6_code 23 = .ok (.ifCond .le 18, 3) := by decide +kernel
theorem d9_41 : decode prog_21_method_6_code 41 = .ok (.aload_n 0, 1) := by decide +kernel
theorem d9_42 : decode prog_21_method_6_code 42 = .ok (.getfield 25, 3) := by decide +kernel
theorem d9_45 : decode prog_21_method_6_code 45 = .ok (.lconst 0, 1) := by decide +kernel
theorem d9_46 : decode prog_21_method_6_code 46 = .ok (.lcmp, 1) := by decide +kernel
theorem d9_47 : decode prog_21_method_6_code 47 = .ok (.ifCond .ne 13, 3) := by decide +kernel
theorem d9_60 : decode prog_21_method_6_code 60 = .ok (.aload_n 0, 1) := by decide +kernel
theorem d9_61 : decode prog_21_method_6_code 61 = .ok (.getfield 25, 3) := by decide +kernel
theorem d9_64 : decode prog_21_method_6_code 64 = .ok (.lload_n 3, 1) := by decide +kernel
theorem d9_65 : decode prog_21_method_6_code 65 = .ok (.ldiv, 1) := by decide +kernel
theorem d9_66 : decode prog_21_method_6_code 66 = .ok (.lload_n 1, 1) := by decide +kernel
theorem d9_67 : decode prog_21_method_6_code 67 = .ok (.lmul, 1) := by decide +kernel
theorem d9_68 : decode prog_21_method_6_code 68 = .ok (.aload_n 0, 1) := by decide +kernel
theorem d9_69 : decode prog_21_method_6_code 69 = .ok (.getfield 25, 3) := by decide +kernel
theorem d9_72 : decode prog_21_method_6_code 72 = .ok (.lload_n 3, 1) := by decide +kernel
theorem d9_73 : decode prog_21_method_6_code 73 = .ok (.lrem, 1) := by decide +kernel
theorem d9_74 : decode prog_21_method_6_code 74 = .ok (.lload_n 1, 1) := by decide +kernel
theorem d9_75 : decode prog_21_method_6_code 75 = .ok (.lmul, 1) := by decide +kernel
theorem d9_76 : decode prog_21_method_6_code 76 = .ok (.lload_n 3, 1) := by decide +kernel
theorem d9_77 : decode prog_21_method_6_code 77 = .ok (.invokestatic 47, 3) := by decide +kernel
theorem d9_80 : decode prog_21_method_6_code 80 = .ok (.ladd, 1) := by decide +kernel
theorem d9_81 : decode prog_21_method_6_code 81 = .ok (.lstore 5, 2) := by decide +kernel
theorem d9_83 : decode prog_21_method_6_code 83 = .ok (.lconst 0, 1) := by decide +kernel
theorem d9_84 : decode prog_21_method_6_code 84 = .ok (.lstore 7, 2) := by decide +kernel
theorem d9_86 : decode prog_21_method_6_code 86 = .ok (.iconst 0, 1) := by decide +kernel
theorem d9_87 : decode prog_21_method_6_code 87 = .ok (.istore 9, 2) := by decide +kernel
theorem d9_89 : decode prog_21_method_6_code 89 = .ok (.iload 9, 2) := by decide +kernel
theorem d9_91 : decode prog_21_method_6_code 91 = .ok (.sipush 28160, 3) := by decide +kernel
theorem d9_94 : decode prog_21_method_6_code 94 = .ok (.if_icmp .ge 42, 3) := by decide +kernel
theorem d9_97 : decode prog_21_method_6_code 97 = .ok (.lload 7, 2) := by decide +kernel
theorem d9_99 : decode prog_21_method_6_code 99 = .ok (.aload_n 0, 1) := by decide +kernel
theorem d9_100 : decode prog_21_method_6_code 100 = .ok (.getfield 11, 3) := by decide +kernel
theorem d9_103 : decode prog_21_method_6_code 103 = .ok (.iload 9, 2) := by decide +kernel
theorem d9_105 : decode prog_21_method_6_code 105 = .ok (.laload, 1) := by decide +kernel
theorem d9_106 : decode prog_21_method_6_code 106 = .ok (.ladd, 1) := by decide +kernel
theorem d9_107 : decode prog_21_method_6_code 107 = .ok (.lstore 7, 2) := by decide +kernel
theorem d9_109 : decode prog_21_method_6_code 109 = .ok (.lload 7, 2) := by decide +kernel
theorem d9_111 : decode prog_21_method_6_code 111 = .ok (.lload 5, 2) := by decide +kernel
theorem d9_113 : decode prog_21_method_6_code 113 = .ok (.lcmp, 1) := by decide +kernel
theorem d9_114 : decode prog_21_method_6_code 114 = .ok (.ifCond .lt 16, 3) := by decide +kernel
theorem d9_117 : decode prog_21_method_6_code 117 = .ok (.iload 9, 2) := by decide +kernel
theorem d9_119 : decode prog_21_method_6_code 119 = .ok (.invokestatic 50, 3) := by decide +kernel
theorem d9_122 : decode prog_21_method_6_code 122 = .ok (.aload_n 0, 1) := by decide +kernel
theorem d9_123 : decode prog_21_method_6_code 123 = .ok (.getfield 29, 3) := by decide +kernel
theorem d9_126 : decode prog_21_method_6_code 126 = .ok (.invokestatic 54, 3) := by decide +kernel
theorem d9_129 : decode prog_21_method_6_code 129 = .ok (.lreturn, 1) := by decide +kernel
theorem d9_130 : decode prog_21_method_6_code 130 = .ok (.iinc 9 1, 3) := by decide +kernel
theorem d9_133 : decode prog_21_method_6_code 133 = .ok (.goto (-44), 3) := by decide +kernel
theorem ef_9 (m : MethodId) (ob : Addr) (qk : Int64) (qn : Int64) : entryFrame m #[(.ref ob), (.long qk), (.long qn)] 10 = mkF m 0 #[.val (.ref ob), .val (.long qk), .second, .val (.long qn), .second, .unset, .unset, .unset, .unset, .unset] [] := by first | (simp [entryFrame, mkF, argsToLocals, Value.category]; done) | rfl
def Q9 (Z : State) (ob : Addr) (qk : Int64) (qn : Int64) (ab : Addr) (cn : Int64) (mx : Int64) (fa : Nat → Int64) (h0 : Heap) (n0 : Nat) (v : Option Value) (h : Heap) (L : List Loc) : Prop := v = some (.long (own_pct fa (own_rank cn qn qk) mx 28160 0 (0 : Int64))) ∧ Fr n0 L ∧ Keep h0 h []
set_option maxRecDepth 65536 in
set_option maxHeartbeats 40000000 in
theorem rm9 (l : Launch) (Z : State) (a0 : Array Value) (hw : ∀ d ∈ tables_1, d.before a0 Z = true) (ws : List Jvm.Cond) (ob : Addr) (qk : Int64) (qn : Int64) (ab : Addr) (cn : Int64) (mx : Int64) (fa : Nat → Int64) (h0 : Heap) (n0 : Nat) (Z0 : n0 ≤ h0.size) (f_F_ob_counts : Fld Z h0 ob "com/example/flipside/flipside/tool/LatencyHistogram" "counts" "[J" (.ref ab)) (f_F_ob_count : Fld Z h0 ob "com/example/flipside/flipside/tool/LatencyHistogram" "count" "J" (.long cn)) (f_F_ob_max : Fld Z h0 ob "com/example/flipside/flipside/tool/LatencyHistogram" "max" "J" (.long mx)) (f_A_ab : own_A Z h0 ab .long (28160) (fun z => .long (fa z))) (h1 : ¬ (qn < (1 : Int64))) (h2 : ¬ ((1000000000 : Int64) < qn)) (h3 : ¬ (qk < (1 : Int64))) (h4 : ¬ (qn < qk)) (h5 : cn ≠ 0) (hfin : ∃ N : Nat, N < 28160 ∧ ¬ (own_sum fa (N + 1) < own_rank cn qn qk)) :
    MetFree l (⟨"com/example/flipside/flipside/tool/LatencyHistogram", "percentile", "(JJ)J"⟩ : MethodName) (head1 (Jvm.Cond.code (⟨"com/example/flipside/flipside/tool/LatencyHistogram", "percentile", "(JJ)J"⟩ : MethodName) prog_21_method_6_code 10 (some .long) :: ws) ({ frames := 1, cells := 0, slots := 0, locals := 17 } : Room)) (fun avs U => avs = #[(.ref ob), (.long qk), (.long qn)] ∧ Z.Warmed39 U.vm ∧ U.heap = h0) (fun _ _ _ _ _ => True) (fun _ U o U' => ∃ v L, o = .returned v ∧ Q9 Z ob qk qn ab cn mx fa h0 n0 v U'.heap L ∧ FrameEnd U o U' L ({ frames := 1, cells := 0, slots := 0, locals := 17 } : Room).cells ({ frames := 1, cells := 0, slots := 0, locals := 17 } : Room).slots) := by
  refine MetFree.of_bodySF (plainFor_of_name own_pn_com_example_flipside_flipside_tool_LatencyHistogram) hisR ?_
  intro p e s m args below meth c s₁ Bd hml0 hP hK
  obtain ⟨rfl, hZ, hh⟩ := hP
  have hx := Bd.exec
  have hby := Bd.bytes
  have hml : c.maxLocals = 10 := hml0
  have hown : s.vm.findClass "com/example/flipside/flipside/tool/LatencyHistogram" = some m.cls := findClass_of_methodNamed Bd.named
  have hnm := (name_of_methodNamed Bd.named Bd.method).1
  have hlk := Bd.notSynchronized
  have hret := Bd.returns
  have X0 : Stand p l e ({ frames := 1, cells := 0, slots := 0, locals := 17 } : Room) s m #[(.ref ob), (.long qk), (.long qn)] below meth c s₁ [] 0 0 := Stand.of_body Bd
  have e0 : s₁.heap = h0 := by rw [← hh, Bd.state]; rfl
  have N0 := Fr.nil n0
  show own_W p e (FrameEnd s) below ({ frames := 1, cells := 0, slots := 0, locals := 17 } : Room).cells ({ frames := 1, cells := 0, slots := 0, locals := 17 } : Room).slots (Q9 Z ob qk qn ab cn mx fa h0 n0) s₁ (entryFrame m #[(.ref ob), (.long qk), (.long qn)] 10)
  rw [ef_9]
  have K0 : Keep h0 h0 [] := Keep.refl h0 _
  refine own_lloadN X0 hx (hb hby d9_0) (v := qn) rfl (rfl : 0 + 1 = 1) ?_
  refine own_lconst X0 hx (hb hby d9_1) (1 : Int64) (by first | rfl | decide) (rfl : 1 + 1 = 2) ?_
  refine own_lcmp X0 hx (hb hby d9_2) (rfl : 2 + 1 = 3) ?_
  have hc3 : ¬ (qn < (1 : Int64)) := h1
  refine own_ifNo X0 hx (hb hby d9_3) (XT.ll_lt_f hc3) (rfl : 3 + 3 = 6) ?_
  refine own_lloadN X0 hx (hb hby d9_6) (v := qn) rfl (rfl : 6 + 1 = 7) ?_
  refine own_ldc2Long X0 hx hown (mvT hZ (hw _ (List.mem_of_getElem? (i := 50) rfl))) (hb hby d9_7) (rfl : 7 + 3 = 10) ?_
  refine own_lcmp X0 hx (hb hby d9_10) (rfl : 10 + 1 = 11) ?_
  have hc11 : ¬ ((1000000000 : Int64) < qn) := h2
  refine own_ifNo X0 hx (hb hby d9_11) (XT.ll_gt_f hc11) (rfl : 11 + 3 = 14) ?_
  refine own_lloadN X0 hx (hb hby d9_14) (v := qk) rfl (rfl : 14 + 1 = 15) ?_
  refine own_lconst X0 hx (hb hby d9_15) (1 : Int64) (by first | rfl | decide) (rfl : 15 + 1 = 16) ?_
  refine own_lcmp X0 hx (hb hby d9_16) (rfl : 16 + 1 = 17) ?_
  have hc17 : ¬ (qk < (1 : Int64)) := h3
  refine own_ifNo X0 hx (hb hby d9_17) (XT.ll_lt_f hc17) (rfl : 17 + 3 = 20) ?_
  refine own_lloadN X0 hx (hb hby d9_20) (v := qk) rfl (rfl : 20 + 1 = 21) ?_
  refine own_lloadN X0 hx (hb hby d9_21) (v := qn) rfl (rfl : 21 + 1 = 22) ?_
  refine own_lcmp X0 hx (hb hby d9_22) (rfl : 22 + 1 = 23) ?_
  have hc23 : ¬ (qn < qk) := h4
  refine own_ifYes X0 hx (hb hby d9_23) (XT.ll_le_t hc23) (pc' := 41) (by decide) (by decide) ?_
  refine own_aloadN X0 hx (hb hby d9_41) (v := (.ref ob)) rfl rfl (rfl : 41 + 1 = 42) ?_
  obtain ⟨T1, X1, e1, st1⟩ := getF X0 hx hZ hown (host := "") (Or.inl (hw _ (List.mem_of_getElem? (i := 17) rfl))) Via.refl e0 f_F_ob_count (g := (mkF m 42 #[.val (.ref ob), .val (.long qk), .second, .val (.long qn), .second, .unset, .unset, .unset, .unset, .unset] [(.ref ob)])) rfl rfl (hb hby d9_42)
  refine own_W.step st1 ?_
  show own_W p e (FrameEnd s) below ({ frames := 1, cells := 0, slots := 0, locals := 17 } : Room).cells ({ frames := 1, cells := 0, slots := 0, locals := 17 } : Room).slots (Q9 Z ob qk qn ab cn mx fa h0 n0) T1 (mkF m 45 #[.val (.ref ob), .val (.long qk), .second, .val (.long qn), .second, .unset, .unset, .unset, .unset, .unset] [(.long cn)])
  refine own_lconst X1 hx (hb hby d9_45) (0 : Int64) (by first | rfl | decide) (rfl : 45 + 1 = 46) ?_
  refine own_lcmp X1 hx (hb hby d9_46) (rfl : 46 + 1 = 47) ?_
  have hc47 : ¬ (cn = (0 : Int64)) := h5
  refine own_ifYes X1 hx (hb hby d9_47) (XT.ll_ne_t hc47) (pc' := 60) (by decide) (by decide) ?_
  refine own_aloadN X1 hx (hb hby d9_60) (v := (.ref ob)) rfl rfl (rfl : 60 + 1 = 61) ?_
  obtain ⟨T2, X2, e2, st2⟩ := getF X1 hx hZ hown (host := "") (Or.inl (hw _ (List.mem_of_getElem? (i := 17) rfl))) Via.refl e1 f_F_ob_count (g := (mkF m 61 #[.val (.ref ob), .val (.long qk), .second, .val (.long qn), .second, .unset, .unset, .unset, .unset, .unset] [(.ref ob)])) rfl rfl (hb hby d9_61)
  refine own_W.step st2 ?_
  show own_W p e (FrameEnd s) below ({ frames := 1, cells := 0, slots := 0, locals := 17 } : Room).cells ({ frames := 1, cells := 0, slots := 0, locals := 17 } : Room).slots (Q9 Z ob qk qn ab cn mx fa h0 n0) T2 (mkF m 64 #[.val (.ref ob), .val (.long qk), .second, .val (.long qn), .second, .unset, .unset, .unset, .unset, .unset] [(.long cn)])
  refine own_lloadN X2 hx (hb hby d9_64) (v := qn) rfl (rfl : 64 + 1 = 65) ?_
  refine own_ldiv X2 hx (hb hby d9_65) (own_qn0 h1) (rfl : 65 + 1 = 66) ?_
  refine own_lloadN X2 hx (hb hby d9_66) (v := qk) rfl (rfl : 66 + 1 = 67) ?_
  refine own_lmul X2 hx (hb hby d9_67) (rfl : 67 + 1 = 68) ?_
  refine own_aloadN X2 hx (hb hby d9_68) (v := (.ref ob)) rfl rfl (rfl : 68 + 1 = 69) ?_
  obtain ⟨T3, X3, e3, st3⟩ := getF X2 hx hZ hown (host := "") (Or.inl (hw _ (List.mem_of_getElem? (i := 17) rfl))) Via.refl e2 f_F_ob_count (g := (mkF m 69 #[.val (.ref ob), .val (.long qk), .second, .val (.long qn), .second, .unset, .unset, .unset, .unset, .unset] [(.ref ob), (.long ((cn / qn) * qk))])) rfl rfl (hb hby d9_69)
  refine own_W.step st3 ?_
  show own_W p e (FrameEnd s) below ({ frames := 1, cells := 0, slots := 0, locals := 17 } : Room).cells ({ frames := 1, cells := 0, slots := 0, locals := 17 } : Room).slots (Q9 Z ob qk qn ab cn mx fa h0 n0) T3 (mkF m 72 #[.val (.ref ob), .val (.long qk), .second, .val (.long qn), .second, .unset, .unset, .unset, .unset, .unset] [(.long cn), (.long ((cn / qn) * qk))])
  refine own_lloadN X3 hx (hb hby d9_72) (v := qn) rfl (rfl : 72 + 1 = 73) ?_
  refine own_lrem X3 hx (hb hby d9_73) (own_qn0 h1) (rfl : 73 + 1 = 74) ?_
  refine own_lloadN X3 hx (hb hby d9_74) (v := qk) rfl (rfl : 74 + 1 = 75) ?_
  refine own_lmul X3 hx (hb hby d9_75) (rfl : 75 + 1 = 76) ?_
  refine own_lloadN X3 hx (hb hby d9_76) (v := qn) rfl (rfl : 76 + 1 = 77) ?_
  obtain ⟨_, _, ⟨T4, L4, k4, n4⟩, -, X4, ⟨Lc4, hQ4, l4, y4, z4⟩, st4⟩ := Jvm.LawKit.callS X3 hx (y := (⟨"com/example/flipside/flipside/tool/LatencyHistogram", "ceilDivide", "(JJ)J"⟩ : MethodName)) hown (mvT hZ (hw _ (List.mem_of_getElem? (i := 51) rfl))) (mvT hZ (hw _ (List.mem_of_getElem? (i := 52) rfl))) (mvT hZ (hw _ (List.mem_of_getElem? (i := 2) rfl))) (mvT hZ (hw _ (List.mem_of_getElem? (i := 53) rfl))) (by decide) (backOf (W := 2) (rm10 l Z a0 hw [] ((cn % qn) * qk) qn  h0 n0 Z0 (own_qn0 h1)) hZ (hw _ (List.mem_of_getElem? (i := 53) rfl)) (hw _ (List.mem_of_getElem? (i := 2) rfl)) (by decide) (by decide)) (g := (mkF m 77 #[.val (.ref ob), .val (.long qk), .second, .val (.long qn), .second, .unset, .unset, .unset, .unset, .unset] [(.long qn), (.long ((cn % qn) * qk)), (.long ((cn / qn) * qk))])) rfl (by rw [hml]; rfl) (argsL := [(.long ((cn % qn) * qk)), (.long qn)]) (rest := [(.long ((cn / qn) * qk))]) (lenOf own_pd__JJ_J rfl) rfl (by show 2 * 0 + _ ≤ _; exact Nat.le_of_eq rfl) (hb hby d9_77) (fun _ _ => ⟨rfl, e3, (by decide : 0 + 0 ≤ _), (by decide : 0 + 0 ≤ _)⟩)
  dsimp only [Pt.U, Pt.locs, Pt.cells, Pt.slots] at X4 l4 y4 z4 st4 hQ4
  subst l4 y4 z4
  obtain ⟨rfl, N4q, e4⟩ := hQ4
  have N4 := Fr.app N0 N4q
  refine own_W.step st4 ?_
  show own_W p e (FrameEnd s) below ({ frames := 1, cells := 0, slots := 0, locals := 17 } : Room).cells ({ frames := 1, cells := 0, slots := 0, locals := 17 } : Room).slots (Q9 Z ob qk qn ab cn mx fa h0 n0) T4 (mkF m 80 #[.val (.ref ob), .val (.long qk), .second, .val (.long qn), .second, .unset, .unset, .unset, .unset, .unset] [(.long (((((cn % qn) * qk) + qn) - (1 : Int64)) / qn)), (.long ((cn / qn) * qk))])
  refine own_ladd X4 hx (hb hby d9_80) (rfl : 80 + 1 = 81) ?_
  refine own_lstore X4 hx (hb hby d9_81) (l' := #[.val (.ref ob), .val (.long qk), .second, .val (.long qn), .second, .val (.long (((cn / qn) * qk) + (((((cn % qn) * qk) + qn) - (1 : Int64)) / qn))), .second, .unset, .unset, .unset]) rfl (rfl : 81 + 2 = 83) ?_
  obtain ⟨rk, hrk⟩ : ∃ z : Int64, z = (((cn / qn) * qk) + (((((cn % qn) * qk) + qn) - (1 : Int64)) / qn)) := ⟨_, rfl⟩
  rw [← hrk]
  show own_W p e (FrameEnd s) below ({ frames := 1, cells := 0, slots := 0, locals := 17 } : Room).cells ({ frames := 1, cells := 0, slots := 0, locals := 17 } : Room).slots (Q9 Z ob qk qn ab cn mx fa h0 n0) T4 (mkF m 83 #[.val (.ref ob), .val (.long qk), .second, .val (.long qn), .second, .val (.long rk), .second, .unset, .unset, .unset] [])
  have hR : rk = own_rank cn qn qk := hrk
  refine own_lconst X4 hx (hb hby d9_83) (0 : Int64) (by first | rfl | decide) (rfl : 83 + 1 = 84) ?_
  refine own_lstore X4 hx (hb hby d9_84) (l' := #[.val (.ref ob), .val (.long qk), .second, .val (.long qn), .second, .val (.long rk), .second, .val (.long (0 : Int64)), .second, .unset]) rfl (rfl : 84 + 2 = 86) ?_
  refine own_iconst X4 hx (hb hby d9_86) (0 : Int32) (by first | rfl | decide) (rfl : 86 + 1 = 87) ?_
  refine own_istore X4 hx (hb hby d9_87) (l' := #[.val (.ref ob), .val (.long qk), .second, .val (.long qn), .second, .val (.long rk), .second, .val (.long (0 : Int64)), .second, .val (.int (0 : Int32))]) rfl (rfl : 87 + 2 = 89) ?_
  have J89 : ∀ (fuel : Nat) (sn : Int64) (ix : Int32) (it : Nat) (TJ89 : State) (hJ89 : Heap) (LJ89 : List Loc), (28160 - it < fuel) → ∀ (XJ89 : Stand p l e ({ frames := 1, cells := 0, slots := 0, locals := 17 } : Room) s m #[(.ref ob), (.long qk), (.long qn)] below meth c TJ89 LJ89 0 0), ∀ (eJ89 : TJ89.heap = hJ89), ∀ (NJ89 : Fr n0 LJ89), ∀ (zJ89 : n0 ≤ hJ89.size), ∀ (fJ89_0 : Fld Z hJ89 ob "com/example/flipside/flipside/tool/LatencyHistogram" "counts" "[J" (.ref ab)), ∀ (fJ89_1 : Fld Z hJ89 ob "com/example/flipside/flipside/tool/LatencyHistogram" "count" "J" (.long cn)), ∀ (fJ89_2 : Fld Z hJ89 ob "com/example/flipside/flipside/tool/LatencyHistogram" "max" "J" (.long mx)), ∀ (fJ89_3 : own_A Z hJ89 ab .long (28160) (fun z => .long (fa z))), ∀ (fJ89_4 : Keep h0 hJ89 []), ∀ (hsn : sn = own_sum fa it), ∀ (hix : ix.toInt = (it : Int)), ∀ (hit : it ≤ 28160), ∀ (hlt : ∀ j, j < it → own_sum fa (j + 1) < rk), ∀ (hpc : own_pct fa rk mx 28160 0 (0 : Int64) = own_pct fa rk mx (28160 - it) it sn), own_W p e (FrameEnd s) below ({ frames := 1, cells := 0, slots := 0, locals := 17 } : Room).cells ({ frames := 1, cells := 0, slots := 0, locals := 17 } : Room).slots (Q9 Z ob qk qn ab cn mx fa h0 n0) TJ89 (mkF m 89 #[.val (.ref ob), .val (.long qk), .second, .val (.long qn), .second, .val (.long rk), .second, .val (.long sn), .second, .val (.int ix)] []) := by
    intro fuel
    induction fuel with
    | zero => intro sn ix it TJ89 hJ89 LJ89 hfuel; exact absurd hfuel (Nat.not_lt_zero _)
    | succ fuel ih =>
      intro sn ix it TJ89 hJ89 LJ89 hfuel XJ89 eJ89 NJ89 zJ89 fJ89_0 fJ89_1 fJ89_2 fJ89_3 fJ89_4 hsn hix hit hlt hpc
      refine own_iload XJ89 hx (hb hby d9_89) (v := ix) rfl (rfl : 89 + 2 = 91) ?_
      refine own_sipush XJ89 hx (hb hby d9_91) (28160 : Int32) (by first | rfl | decide) (rfl : 91 + 3 = 94) ?_
      have hc94 : ix < (28160 : Int32) := (own_lt28 hix).2 (own_inb (by rw [hR]; exact hfin) hlt)
      refine own_icmpNo XJ89 hx (hb hby d9_94) (tlt hc94).2.1 (rfl : 94 + 3 = 97) ?_
      have hlt1 := (own_lt28 hix).1 hc94
      refine own_lload XJ89 hx (hb hby d9_97) (v := sn) rfl (rfl : 97 + 2 = 99) ?_
      refine own_aloadN XJ89 hx (hb hby d9_99) (v := (.ref ob)) rfl rfl (rfl : 99 + 1 = 100) ?_
      obtain ⟨T5, X5, e5, st5⟩ := getF XJ89 hx hZ hown (host := "") (Or.inl (hw _ (List.mem_of_getElem? (i := 10) rfl))) Via.refl eJ89 fJ89_0 (g := (mkF m 100 #[.val (.ref ob), .val (.long qk), .second, .val (.long qn), .second, .val (.long rk), .second, .val (.long sn), .second, .val (.int ix)] [(.ref ob), (.long sn)])) rfl rfl (hb hby d9_100)
      refine own_W.step st5 ?_
      show own_W p e (FrameEnd s) below ({ frames := 1, cells := 0, slots := 0, locals := 17 } : Room).cells ({ frames := 1, cells := 0, slots := 0, locals := 17 } : Room).slots (Q9 Z ob qk qn ab cn mx fa h0 n0) T5 (mkF m 103 #[.val (.ref ob), .val (.long qk), .second, .val (.long qn), .second, .val (.long rk), .second, .val (.long sn), .second, .val (.int ix)] [(.ref ab), (.long sn)])
      refine own_iload X5 hx (hb hby d9_103) (v := ix) rfl (rfl : 103 + 2 = 105) ?_
      have hi6 : own_In ix (it) (28160) := ⟨hix, hlt1⟩
      refine own_laload X5 hx hZ e5 fJ89_3 hi6 (v := (fa (it))) rfl (g := (mkF m 105 #[.val (.ref ob), .val (.long qk), .second, .val (.long qn), .second, .val (.long rk), .second, .val (.long sn), .second, .val (.int ix)] [(.int ix), (.ref ab), (.long sn)])) rfl rfl (hb hby d9_105) ?_
      show own_W p e (FrameEnd s) below ({ frames := 1, cells := 0, slots := 0, locals := 17 } : Room).cells ({ frames := 1, cells := 0, slots := 0, locals := 17 } : Room).slots (Q9 Z ob qk qn ab cn mx fa h0 n0) T5 (mkF m 106 #[.val (.ref ob), .val (.long qk), .second, .val (.long qn), .second, .val (.long rk), .second, .val (.long sn), .second, .val (.int ix)] [(.long (fa (it))), (.long sn)])
      refine own_ladd X5 hx (hb hby d9_106) (rfl : 106 + 1 = 107) ?_
      refine own_lstore X5 hx (hb hby d9_107) (l' := #[.val (.ref ob), .val (.long qk), .second, .val (.long qn), .second, .val (.long rk), .second, .val (.long (sn + (fa (it)))), .second, .val (.int ix)]) rfl (rfl : 107 + 2 = 109) ?_
      obtain ⟨sm, hsm⟩ : ∃ z : Int64, z = (sn + (fa (it))) := ⟨_, rfl⟩
      rw [← hsm]
      show own_W p e (FrameEnd s) below ({ frames := 1, cells := 0, slots := 0, locals := 17 } : Room).cells ({ frames := 1, cells := 0, slots := 0, locals := 17 } : Room).slots (Q9 Z ob qk qn ab cn mx fa h0 n0) T5 (mkF m 109 #[.val (.ref ob), .val (.long qk), .second, .val (.long qn), .second, .val (.long rk), .second, .val (.long sm), .second, .val (.int ix)] [])
      refine own_lload X5 hx (hb hby d9_109) (v := sm) rfl (rfl : 109 + 2 = 111) ?_
      refine own_lload X5 hx (hb hby d9_111) (v := rk) rfl (rfl : 111 + 2 = 113) ?_
      refine own_lcmp X5 hx (hb hby d9_113) (rfl : 113 + 1 = 114) ?_
      by_cases hc114 : sm < rk
      · skip
        refine own_ifYes X5 hx (hb hby d9_114) (XT.ll_lt_t hc114) (pc' := 130) (by decide) (by decide) ?_
        refine own_iinc X5 hx (hb hby d9_130) (1 : Int32) rfl (x := ix) rfl (l' := #[.val (.ref ob), .val (.long qk), .second, .val (.long qn), .second, .val (.long rk), .second, .val (.long sm), .second, .val (.int (ix + (1 : Int32)))]) rfl (rfl : 130 + 3 = 133) ?_
        refine own_goto X5 hx (hb hby d9_133) (pc' := 89) (by decide) (by decide) ?_
        exact ih  (sm) ((ix + (1 : Int32))) (it + 1) _ _ _ (by omega) X5 e5 NJ89 zJ89 fJ89_0 fJ89_1 fJ89_2 fJ89_3 fJ89_4 (by rw [hsm, hsn]; rfl) (own_inc hix (by omega)) (hlt1) (own_hl hlt (by rw [← hsn, ← hsm]; exact hc114)) (by rw [hpc, own_pctT _ _ _ _ _ hlt1 (by rw [← hsm]; exact hc114), ← hsm])
      · skip
        refine own_ifNo X5 hx (hb hby d9_114) (XT.ll_lt_f hc114) (rfl : 114 + 3 = 117) ?_
        refine own_iload X5 hx (hb hby d9_117) (v := ix) rfl (rfl : 117 + 2 = 119) ?_
        obtain ⟨_, _, ⟨T7, L7, k7, n7⟩, -, X7, ⟨Lc7, hQ7, l7, y7, z7⟩, st7⟩ := Jvm.LawKit.callS X5 hx (y := (⟨"com/example/flipside/flipside/tool/LatencyHistogram", "longestIn", "(I)J"⟩ : MethodName)) hown (mvT hZ (hw _ (List.mem_of_getElem? (i := 54) rfl))) (mvT hZ (hw _ (List.mem_of_getElem? (i := 55) rfl))) (mvT hZ (hw _ (List.mem_of_getElem? (i := 2) rfl))) (mvT hZ (hw _ (List.mem_of_getElem? (i := 56) rfl))) (by decide) (backOf (W := 0) (rm11 l Z a0 hw [] ix  hJ89 n0 zJ89 ) hZ (hw _ (List.mem_of_getElem? (i := 56) rfl)) (hw _ (List.mem_of_getElem? (i := 2) rfl)) (by decide) (by decide)) (g := (mkF m 119 #[.val (.ref ob), .val (.long qk), .second, .val (.long qn), .second, .val (.long rk), .second, .val (.long sm), .second, .val (.int ix)] [(.int ix)])) rfl (by rw [hml]; rfl) (argsL := [(.int ix)]) (rest := []) (lenOf own_pd__I_J rfl) rfl (by show 2 * 0 + _ ≤ _; exact Nat.le_of_eq rfl) (hb hby d9_119) (fun _ _ => ⟨rfl, e5, (by decide : 0 + 0 ≤ _), (by decide : 0 + 0 ≤ _)⟩)
        dsimp only [Pt.U, Pt.locs, Pt.cells, Pt.slots] at X7 l7 y7 z7 st7 hQ7
        subst l7 y7 z7
        obtain ⟨rfl, N7q, e7⟩ := hQ7
        have N7 := Fr.app NJ89 N7q
        refine own_W.step st7 ?_
        show own_W p e (FrameEnd s) below ({ frames := 1, cells := 0, slots := 0, locals := 17 } : Room).cells ({ frames := 1, cells := 0, slots := 0, locals := 17 } : Room).slots (Q9 Z ob qk qn ab cn mx fa h0 n0) T7 (mkF m 122 #[.val (.ref ob), .val (.long qk), .second, .val (.long qn), .second, .val (.long rk), .second, .val (.long sm), .second, .val (.int ix)] [(.long (own_long ix))])
        refine own_aloadN X7 hx (hb hby d9_122) (v := (.ref ob)) rfl rfl (rfl : 122 + 1 = 123) ?_
        obtain ⟨T8, X8, e8, st8⟩ := getF X7 hx hZ hown (host := "") (Or.inl (hw _ (List.mem_of_getElem? (i := 19) rfl))) Via.refl e7 fJ89_2 (g := (mkF m 123 #[.val (.ref ob), .val (.long qk), .second, .val (.long qn), .second, .val (.long rk), .second, .val (.long sm), .second, .val (.int ix)] [(.ref ob), (.long (own_long ix))])) rfl rfl (hb hby d9_123)
        refine own_W.step st8 ?_
        show own_W p e (FrameEnd s) below ({ frames := 1, cells := 0, slots := 0, locals := 17 } : Room).cells ({ frames := 1, cells := 0, slots := 0, locals := 17 } : Room).slots (Q9 Z ob qk qn ab cn mx fa h0 n0) T8 (mkF m 126 #[.val (.ref ob), .val (.long qk), .second, .val (.long qn), .second, .val (.long rk), .second, .val (.long sm), .second, .val (.int ix)] [(.long mx), (.long (own_long ix))])
        obtain ⟨_, _, ⟨T9, L9, k9, n9⟩, -, X9, ⟨Lc9, hQ9, l9, y9, z9⟩, st9⟩ := Jvm.LawKit.callS X8 hx (y := (⟨"java/lang/Math", "min", "(JJ)J"⟩ : MethodName)) hown (mvT hZ (hw _ (List.mem_of_getElem? (i := 57) rfl))) (mvT hZ (hw _ (List.mem_of_getElem? (i := 58) rfl))) (mvT hZ (hw _ (List.mem_of_getElem? (i := 23) rfl))) (mvT hZ (hw _ (List.mem_of_getElem? (i := 59) rfl))) (by decide) (backOf (W := 0) (rm12 l Z a0 hw [] (own_long ix) mx  hJ89 n0 zJ89 ) hZ (hw _ (List.mem_of_getElem? (i := 59) rfl)) (hw _ (List.mem_of_getElem? (i := 23) rfl)) (by decide) (by decide)) (g := (mkF m 126 #[.val (.ref ob), .val (.long qk), .second, .val (.long qn), .second, .val (.long rk), .second, .val (.long sm), .second, .val (.int ix)] [(.long mx), (.long (own_long ix))])) rfl (by rw [hml]; rfl) (argsL := [(.long (own_long ix)), (.long mx)]) (rest := []) (lenOf own_pd__JJ_J rfl) rfl (by show 2 * 0 + _ ≤ _; exact Nat.le_of_eq rfl) (hb hby d9_126) (fun _ _ => ⟨rfl, e8, (by decide : 0 + 0 ≤ _), (by decide : 0 + 0 ≤ _)⟩)
        dsimp only [Pt.U, Pt.locs, Pt.cells, Pt.slots] at X9 l9 y9 z9 st9 hQ9
        subst l9 y9 z9
        obtain ⟨rfl, N9q, e9⟩ := hQ9
        have N9 := Fr.app N7 N9q
        refine own_W.step st9 ?_
        show own_W p e (FrameEnd s) below ({ frames := 1, cells := 0, slots := 0, locals := 17 } : Room).cells ({ frames := 1, cells := 0, slots := 0, locals := 17 } : Room).slots (Q9 Z ob qk qn ab cn mx fa h0 n0) T9 (mkF m 129 #[.val (.ref ob), .val (.long qk), .second, .val (.long qn), .second, .val (.long rk), .second, .val (.long sm), .second, .val (.int ix)] [(.long (own_lmin (own_long ix) mx))])
        refine own_retJ X9 hx hlk hret (hb hby d9_129) (by decide) (by decide) ?_
        show Q9 Z ob qk qn ab cn mx fa h0 n0 (some (.long (own_lmin (own_long ix) mx))) T9.heap _
        rw [e9]
        exact ⟨congrArg (fun z => some (Value.long z)) (by rw [← hR, hpc, own_pctF _ _ _ _ _ hlt1 (by rw [← hsm]; exact hc114), own_ofN hix (by omega)]), N9, fJ89_4⟩
  exact J89 (28160 - (0) + 1) ((0 : Int64)) ((0 : Int32)) (0) _ _ _ (Nat.lt_succ_self _) X4 e4 N4 Z0 f_F_ob_counts f_F_ob_count f_F_ob_max f_A_ab K0 (rfl) (rfl) (by decide) (fun j hj => absurd hj (Nat.not_lt_zero _)) (rfl)
theorem own_pd___V : parseMethodDescriptor "()V" = some ⟨[], none⟩ := by decide +kernel
theorem own_pd__Lcom_example_flipside_flipside_tool_LatencyHistogram__V : parseMethodDescriptor "(Lcom/example/flipside/flipside/tool/LatencyHistogram;)V" = some ⟨[(.object "com/example/flipside/flipside/tool/LatencyHistogram")], none⟩ := by decide +kernel
theorem own_pd___J : parseMethodDescriptor "()J" = some ⟨[], some .long⟩ := by decide +kernel
theorem own_pd__J_V : parseMethodDescriptor "(J)V" = some ⟨[.long], none⟩ := by decide +kernel
theorem own_pn_com_example_flipside_flipside_tool_LatencyHistogramAddPinLaw : plainName "com/example/flipside/flipside/tool/LatencyHistogramAddPinLaw" = true := by first | (simp [plainName, overriddenIn]; done) | decide +kernel
theorem ef_0 (m : MethodId) (qx : Int64) (qy : Int64) (pf : Int32) : entryFrame m #[(.long qx), (.long qy), (.int pf)] maxLocals = mkF m 0 #[.val (.long qx), .second, .val (.long qy), .second, .val (.int pf), .unset, .unset, .unset, .unset, .unset, .unset, .unset, .unset, .unset, .unset, .unset, .unset, .unset] [] := by first | (simp [entryFrame, mkF, argsToLocals, Value.category, maxLocals]; done) | rfl
def Q0 (Z : State) (qx : Int64) (qy : Int64) (pf : Int32)  (h0 : Heap) (n0 : Nat) (v : Option Value) (h : Heap) (L : List Loc) : Prop := v = some (.int 1) ∧ Fr n0 L
set_option maxRecDepth 65536 in
set_option maxHeartbeats 40000000 in
theorem rm0 (l : Launch) (Z : State) (a0 : Array Value) (hw : ∀ d ∈ tables_1, d.before a0 Z = true) (ws : List Jvm.Cond) (qx : Int64) (qy : Int64) (pf : Int32)  (h0 : Heap) (n0 : Nat) (Z0 : n0 ≤ h0.size)  :
    MetFree l x (head1 (Jvm.Cond.code x code maxLocals ret :: ws) room_1) (fun avs U => avs = #[(.long qx), (.long qy), (.int pf)] ∧ Z.Warmed39 U.vm ∧ U.heap = h0) (fun _ _ _ _ _ => True) (fun _ U o U' => ∃ v L, o = .returned v ∧ Q0 Z qx qy pf h0 n0 v U'.heap L ∧ FrameEnd U o U' L room_1.cells room_1.slots) := by
  refine MetFree.of_bodySF (plainFor_of_name own_pn_com_example_flipside_flipside_tool_LatencyHistogramAddPinLaw) hisR ?_
  intro p e s m args below meth c s₁ Bd hml0 hP hK
  obtain ⟨rfl, hZ, hh⟩ := hP
  have hx := Bd.exec
  have hby := Bd.bytes
  have hml : c.maxLocals = 18 := hml0
  have hown : s.vm.findClass "com/example/flipside/flipside/tool/LatencyHistogramAddPinLaw" = some m.cls := findClass_of_methodNamed Bd.named
  have hnm := (name_of_methodNamed Bd.named Bd.method).1
  have hlk := Bd.notSynchronized
  have hret := Bd.returns
  have X0 : Stand p l e room_1 s m #[(.long qx), (.long qy), (.int pf)] below meth c s₁ [] 0 0 := Stand.of_body Bd
  have e0 : s₁.heap = h0 := by rw [← hh, Bd.state]; rfl
  have N0 := Fr.nil n0
  show own_W p e (FrameEnd s) below room_1.cells room_1.slots (Q0 Z qx qy pf h0 n0) s₁ (entryFrame m #[(.long qx), (.long qy), (.int pf)] maxLocals)
  rw [ef_0]
  refine own_iload X0 hx (hb hby at_0) (v := pf) rfl (rfl : 0 + 2 = 2) ?_
  refine own_iconst X0 hx (hb hby at_2) (1 : Int32) (by first | rfl | decide) (rfl : 2 + 1 = 3) ?_
  refine own_iand X0 hx (hb hby at_3) (rfl : 3 + 1 = 4) ?_
  by_cases hc4 : (pf &&& (1 : Int32)) = (0 : Int32)
  · skip
    refine own_ifYes X0 hx (hb hby at_4) ((if0 _ _).trans (teq hc4).1) (pc' := 11) (by decide) (by decide) ?_
    refine own_iconst X0 hx (hb hby at_11) (0 : Int32) (by first | rfl | decide) (rfl : 11 + 1 = 12) ?_
    refine own_istore X0 hx (hb hby at_12) (l' := #[.val (.long qx), .second, .val (.long qy), .second, .val (.int pf), .val (.int (0 : Int32)), .unset, .unset, .unset, .unset, .unset, .unset, .unset, .unset, .unset, .unset, .unset, .unset]) rfl (rfl : 12 + 2 = 14) ?_
    refine own_iload X0 hx (hb hby at_14) (v := pf) rfl (rfl : 14 + 2 = 16) ?_
    refine own_iconst X0 hx (hb hby at_16) (2 : Int32) (by first | rfl | decide) (rfl : 16 + 1 = 17) ?_
    refine own_iand X0 hx (hb hby at_17) (rfl : 17 + 1 = 18) ?_
    by_cases hc18 : (pf &&& (2 : Int32)) = (0 : Int32)
    · skip
      refine own_ifYes X0 hx (hb hby at_18) ((if0 _ _).trans (teq hc18).1) (pc' := 25) (by decide) (by decide) ?_
      refine own_iconst X0 hx (hb hby at_25) (0 : Int32) (by first | rfl | decide) (rfl : 25 + 1 = 26) ?_
      refine own_istore X0 hx (hb hby at_26) (l' := #[.val (.long qx), .second, .val (.long qy), .second, .val (.int pf), .val (.int (0 : Int32)), .val (.int (0 : Int32)), .unset, .unset, .unset, .unset, .unset, .unset, .unset, .unset, .unset, .unset, .unset]) rfl (rfl : 26 + 2 = 28) ?_
      obtain ⟨T1, h1, X1, e1, E1, A1, D1, -, st1⟩ := newO X0 hx hZ hown (hw _ (List.mem_of_getElem? (i := 0) rfl)) (hw _ (List.mem_of_getElem? (i := 1) rfl)) (hw _ (List.mem_of_getElem? (i := 2) rfl)) e0 (g := (mkF m 28 #[.val (.long qx), .second, .val (.long qy), .second, .val (.int pf), .val (.int (0 : Int32)), .val (.int (0 : Int32)), .unset, .unset, .unset, .unset, .unset, .unset, .unset, .unset, .unset, .unset, .unset] [])) rfl (hb hby at_28) (by decide) (by decide)
      obtain ⟨oa, g1⟩ : ∃ z, z = h0.size := ⟨_, rfl⟩
      rw [← g1] at A1 D1 st1
      refine own_W.step st1 ?_
      have g_oa : n0 ≤ oa := Nat.le_trans Z0 (Nat.le_of_eq g1.symm)
      have z1 : n0 ≤ h1.size := Nat.le_trans Z0 E1.1
      have F1_counts : Fld Z h1 oa "com/example/flipside/flipside/tool/LatencyHistogram" "counts" "[J" .null := D1 (Or.inr (hw _ (List.mem_of_getElem? (i := 11) rfl))) (ty := (.array .long)) (by decide)
      have F1_count : Fld Z h1 oa "com/example/flipside/flipside/tool/LatencyHistogram" "count" "J" (.long (0 : Int64)) := D1 (Or.inl (hw _ (List.mem_of_getElem? (i := 18) rfl))) (ty := .long) (by decide)
      have F1_max : Fld Z h1 oa "com/example/flipside/flipside/tool/LatencyHistogram" "max" "J" (.long (0 : Int64)) := D1 (Or.inl (hw _ (List.mem_of_getElem? (i := 20) rfl))) (ty := .long) (by decide)
      show own_W p e (FrameEnd s) below room_1.cells room_1.slots (Q0 Z qx qy pf h0 n0) T1 (mkF m 31 #[.val (.long qx), .second, .val (.long qy), .second, .val (.int pf), .val (.int (0 : Int32)), .val (.int (0 : Int32)), .unset, .unset, .unset, .unset, .unset, .unset, .unset, .unset, .unset, .unset, .unset] [(.ref oa)])
      refine own_dup X1 hx (hb hby at_31) rfl (rfl : 31 + 1 = 32) ?_
      obtain ⟨_, _, ⟨T2, L2, k2, n2⟩, -, X2, ⟨Lc2, hQ2, l2, y2, z2⟩, st2⟩ := X1.specialBack hx (y := (⟨"com/example/flipside/flipside/tool/LatencyHistogram", "<init>", "()V"⟩ : MethodName)) rfl hown (mvT hZ (hw _ (List.mem_of_getElem? (i := 3) rfl))) (mvT hZ (hw _ (List.mem_of_getElem? (i := 4) rfl))) (mvT hZ (hw _ (List.mem_of_getElem? (i := 5) rfl))) (by decide) (backOf (W := 1) (rm1 l Z a0 hw [] oa  h1 n0 z1 A1 F1_counts F1_count F1_max g_oa) hZ (hw _ (List.mem_of_getElem? (i := 5) rfl)) (hw _ (List.mem_of_getElem? (i := 2) rfl)) (by decide) (by decide)) (g := (mkF m 32 #[.val (.long qx), .second, .val (.long qy), .second, .val (.int pf), .val (.int (0 : Int32)), .val (.int (0 : Int32)), .unset, .unset, .unset, .unset, .unset, .unset, .unset, .unset, .unset, .unset, .unset] [(.ref oa), (.ref oa)])) rfl (by rw [hml]; rfl) (Steps.refl _) (a := oa) (argsL := []) (rest := [(.ref oa)]) (lenOf own_pd___V rfl) rfl (by show 2 * 0 + _ ≤ _; exact Nat.le_of_eq rfl) (hb hby at_32) (fun _ _ => ⟨rfl, e1, (by decide : 1 + 1 ≤ _), (by decide : 3 + 28160 ≤ _)⟩)
      dsimp only [Pt.U, Pt.locs, Pt.cells, Pt.slots] at X2 l2 y2 z2 st2 hQ2
      subst l2 y2 z2
      obtain ⟨ab2, rfl, N2q, K2, sz2_ab, fq2_0, fq2_1, fq2_2, fq2_3, fq2_4⟩ := hQ2
      have N2 := Fr.app N0 N2q
      have ne_oa_ab2 : oa ≠ ab2 := Nat.ne_of_lt (Nat.lt_of_lt_of_le A1.lt sz2_ab)
      have g_ab2 : n0 ≤ ab2 := Nat.le_trans z1 sz2_ab
      have f2_E_oa : Exa Z T2.heap oa "com/example/flipside/flipside/tool/LatencyHistogram" := A1.keep K2
      have z2c : n0 ≤ T2.heap.size := Nat.le_trans z1 K2.1
      refine own_W.steps st2 ?_
      show own_W p e (FrameEnd s) below room_1.cells room_1.slots (Q0 Z qx qy pf h0 n0) T2 (mkF m 35 #[.val (.long qx), .second, .val (.long qy), .second, .val (.int pf), .val (.int (0 : Int32)), .val (.int (0 : Int32)), .unset, .unset, .unset, .unset, .unset, .unset, .unset, .unset, .unset, .unset, .unset] [(.ref oa)])
      refine own_astore X2 hx (hb hby at_35) (l' := #[.val (.long qx), .second, .val (.long qy), .second, .val (.int pf), .val (.int (0 : Int32)), .val (.int (0 : Int32)), .val (.ref oa), .unset, .unset, .unset, .unset, .unset, .unset, .unset, .unset, .unset, .unset]) rfl rfl (rfl : 35 + 2 = 37) ?_
      obtain ⟨T3, h3, X3, e3, E3, A3, D3, -, st3⟩ := newO X2 hx hZ hown (hw _ (List.mem_of_getElem? (i := 0) rfl)) (hw _ (List.mem_of_getElem? (i := 1) rfl)) (hw _ (List.mem_of_getElem? (i := 2) rfl)) rfl (g := (mkF m 37 #[.val (.long qx), .second, .val (.long qy), .second, .val (.int pf), .val (.int (0 : Int32)), .val (.int (0 : Int32)), .val (.ref oa), .unset, .unset, .unset, .unset, .unset, .unset, .unset, .unset, .unset, .unset] [])) rfl (hb hby at_37) (by decide) (by decide)
      obtain ⟨ob, g3⟩ : ∃ z, z = T2.heap.size := ⟨_, rfl⟩
      rw [← g3] at A3 D3 st3
      refine own_W.step st3 ?_
      have ne_oa_ob : oa ≠ ob := Nat.ne_of_lt (Nat.lt_of_lt_of_le fq2_0.lt (Nat.le_of_eq g3.symm))
      have ne_ab2_ob : ab2 ≠ ob := Nat.ne_of_lt (Nat.lt_of_lt_of_le fq2_4.lt (Nat.le_of_eq g3.symm))
      have g_ob : n0 ≤ ob := Nat.le_trans z2c (Nat.le_of_eq g3.symm)
      have f3_E_oa : Exa Z h3 oa "com/example/flipside/flipside/tool/LatencyHistogram" := fq2_0.ext E3
      have f3_F_oa_counts : Fld Z h3 oa "com/example/flipside/flipside/tool/LatencyHistogram" "counts" "[J" (.ref ab2) := fq2_1.ext E3
      have f3_F_oa_count : Fld Z h3 oa "com/example/flipside/flipside/tool/LatencyHistogram" "count" "J" (.long (0 : Int64)) := fq2_2.ext E3
      have f3_F_oa_max : Fld Z h3 oa "com/example/flipside/flipside/tool/LatencyHistogram" "max" "J" (.long (0 : Int64)) := fq2_3.ext E3
      have f3_A_ab2 : own_A Z h3 ab2 .long (28160) (fun z => .long (own_k0L z)) := fq2_4.ext E3
      have z3 : n0 ≤ h3.size := Nat.le_trans z2c E3.1
      have F3_counts : Fld Z h3 ob "com/example/flipside/flipside/tool/LatencyHistogram" "counts" "[J" .null := D3 (Or.inr (hw _ (List.mem_of_getElem? (i := 11) rfl))) (ty := (.array .long)) (by decide)
      have F3_count : Fld Z h3 ob "com/example/flipside/flipside/tool/LatencyHistogram" "count" "J" (.long (0 : Int64)) := D3 (Or.inl (hw _ (List.mem_of_getElem? (i := 18) rfl))) (ty := .long) (by decide)
      have F3_max : Fld Z h3 ob "com/example/flipside/flipside/tool/LatencyHistogram" "max" "J" (.long (0 : Int64)) := D3 (Or.inl (hw _ (List.mem_of_getElem? (i := 20) rfl))) (ty := .long) (by decide)
      show own_W p e (FrameEnd s) below room_1.cells room_1.slots (Q0 Z qx qy pf h0 n0) T3 (mkF m 40 #[.val (.long qx), .second, .val (.long qy), .second, .val (.int pf), .val (.int (0 : Int32)), .val (.int (0 : Int32)), .val (.ref oa), .unset, .unset, .unset, .unset, .unset, .unset, .unset, .unset, .unset, .unset] [(.ref ob)])
      refine own_dup X3 hx (hb hby at_40) rfl (rfl : 40 + 1 = 41) ?_
      obtain ⟨_, _, ⟨T4, L4, k4, n4⟩, -, X4, ⟨Lc4, hQ4, l4, y4, z4⟩, st4⟩ := X3.specialBack hx (y := (⟨"com/example/flipside/flipside/tool/LatencyHistogram", "<init>", "()V"⟩ : MethodName)) rfl hown (mvT hZ (hw _ (List.mem_of_getElem? (i := 3) rfl))) (mvT hZ (hw _ (List.mem_of_getElem? (i := 4) rfl))) (mvT hZ (hw _ (List.mem_of_getElem? (i := 5) rfl))) (by decide) (backOf (W := 1) (rm1 l Z a0 hw [] ob  h3 n0 z3 A3 F3_counts F3_count F3_max g_ob) hZ (hw _ (List.mem_of_getElem? (i := 5) rfl)) (hw _ (List.mem_of_getElem? (i := 2) rfl)) (by decide) (by decide)) (g := (mkF m 41 #[.val (.long qx), .second, .val (.long qy), .second, .val (.int pf), .val (.int (0 : Int32)), .val (.int (0 : Int32)), .val (.ref oa), .unset, .unset, .unset, .unset, .unset, .unset, .unset, .unset, .unset, .unset] [(.ref ob), (.ref ob)])) rfl (by rw [hml]; rfl) (Steps.refl _) (a := ob) (argsL := []) (rest := [(.ref ob)]) (lenOf own_pd___V rfl) rfl (by show 2 * 0 + _ ≤ _; exact Nat.le_of_eq rfl) (hb hby at_41) (fun _ _ => ⟨rfl, e3, (by decide : 3 + 1 ≤ _), (by decide : 28166 + 28160 ≤ _)⟩)
      dsimp only [Pt.U, Pt.locs, Pt.cells, Pt.slots] at X4 l4 y4 z4 st4 hQ4
      subst l4 y4 z4
      obtain ⟨ab4, rfl, N4q, K4, sz4_ab, fq4_0, fq4_1, fq4_2, fq4_3, fq4_4⟩ := hQ4
      have N4 := Fr.app N2 N4q
      have ne_oa_ab4 : oa ≠ ab4 := Nat.ne_of_lt (Nat.lt_of_lt_of_le f3_E_oa.lt sz4_ab)
      have ne_ab2_ab4 : ab2 ≠ ab4 := Nat.ne_of_lt (Nat.lt_of_lt_of_le f3_A_ab2.lt sz4_ab)
      have ne_ob_ab4 : ob ≠ ab4 := Nat.ne_of_lt (Nat.lt_of_lt_of_le A3.lt sz4_ab)
      have g_ab4 : n0 ≤ ab4 := Nat.le_trans z3 sz4_ab
      have f4_E_oa : Exa Z T4.heap oa "com/example/flipside/flipside/tool/LatencyHistogram" := f3_E_oa.keep K4
      have f4_F_oa_counts : Fld Z T4.heap oa "com/example/flipside/flipside/tool/LatencyHistogram" "counts" "[J" (.ref ab2) := f3_F_oa_counts.keep K4 (ninS ne_oa_ob nin0)
      have f4_F_oa_count : Fld Z T4.heap oa "com/example/flipside/flipside/tool/LatencyHistogram" "count" "J" (.long (0 : Int64)) := f3_F_oa_count.keep K4 (ninS ne_oa_ob nin0)
      have f4_F_oa_max : Fld Z T4.heap oa "com/example/flipside/flipside/tool/LatencyHistogram" "max" "J" (.long (0 : Int64)) := f3_F_oa_max.keep K4 (ninS ne_oa_ob nin0)
      have f4_A_ab2 : own_A Z T4.heap ab2 .long (28160) (fun z => .long (own_k0L z)) := f3_A_ab2.keep K4 (ninS ne_ab2_ob nin0)
      have f4_E_ob : Exa Z T4.heap ob "com/example/flipside/flipside/tool/LatencyHistogram" := A3.keep K4
      have z4c : n0 ≤ T4.heap.size := Nat.le_trans z3 K4.1
      refine own_W.steps st4 ?_
      show own_W p e (FrameEnd s) below room_1.cells room_1.slots (Q0 Z qx qy pf h0 n0) T4 (mkF m 44 #[.val (.long qx), .second, .val (.long qy), .second, .val (.int pf), .val (.int (0 : Int32)), .val (.int (0 : Int32)), .val (.ref oa), .unset, .unset, .unset, .unset, .unset, .unset, .unset, .unset, .unset, .unset] [(.ref ob)])
      refine own_astore X4 hx (hb hby at_44) (l' := #[.val (.long qx), .second, .val (.long qy), .second, .val (.int pf), .val (.int (0 : Int32)), .val (.int (0 : Int32)), .val (.ref oa), .val (.ref ob), .unset, .unset, .unset, .unset, .unset, .unset, .unset, .unset, .unset]) rfl rfl (rfl : 44 + 2 = 46) ?_
      obtain ⟨T5, h5, X5, e5, E5, A5, D5, -, st5⟩ := newO X4 hx hZ hown (hw _ (List.mem_of_getElem? (i := 0) rfl)) (hw _ (List.mem_of_getElem? (i := 1) rfl)) (hw _ (List.mem_of_getElem? (i := 2) rfl)) rfl (g := (mkF m 46 #[.val (.long qx), .second, .val (.long qy), .second, .val (.int pf), .val (.int (0 : Int32)), .val (.int (0 : Int32)), .val (.ref oa), .val (.ref ob), .unset, .unset, .unset, .unset, .unset, .unset, .unset, .unset, .unset] [])) rfl (hb hby at_46) (by decide) (by decide)
      obtain ⟨oc, g5⟩ : ∃ z, z = T4.heap.size := ⟨_, rfl⟩
      rw [← g5] at A5 D5 st5
      refine own_W.step st5 ?_
      have ne_oa_oc : oa ≠ oc := Nat.ne_of_lt (Nat.lt_of_lt_of_le f4_E_oa.lt (Nat.le_of_eq g5.symm))
      have ne_ab2_oc : ab2 ≠ oc := Nat.ne_of_lt (Nat.lt_of_lt_of_le f4_A_ab2.lt (Nat.le_of_eq g5.symm))
      have ne_ob_oc : ob ≠ oc := Nat.ne_of_lt (Nat.lt_of_lt_of_le fq4_0.lt (Nat.le_of_eq g5.symm))
      have ne_ab4_oc : ab4 ≠ oc := Nat.ne_of_lt (Nat.lt_of_lt_of_le fq4_4.lt (Nat.le_of_eq g5.symm))
      have g_oc : n0 ≤ oc := Nat.le_trans z4c (Nat.le_of_eq g5.symm)
      have f5_E_oa : Exa Z h5 oa "com/example/flipside/flipside/tool/LatencyHistogram" := f4_E_oa.ext E5
      have f5_F_oa_counts : Fld Z h5 oa "com/example/flipside/flipside/tool/LatencyHistogram" "counts" "[J" (.ref ab2) := f4_F_oa_counts.ext E5
      have f5_F_oa_count : Fld Z h5 oa "com/example/flipside/flipside/tool/LatencyHistogram" "count" "J" (.long (0 : Int64)) := f4_F_oa_count.ext E5
      have f5_F_oa_max : Fld Z h5 oa "com/example/flipside/flipside/tool/LatencyHistogram" "max" "J" (.long (0 : Int64)) := f4_F_oa_max.ext E5
      have f5_A_ab2 : own_A Z h5 ab2 .long (28160) (fun z => .long (own_k0L z)) := f4_A_ab2.ext E5
      have f5_E_ob : Exa Z h5 ob "com/example/flipside/flipside/tool/LatencyHistogram" := fq4_0.ext E5
      have f5_F_ob_counts : Fld Z h5 ob "com/example/flipside/flipside/tool/LatencyHistogram" "counts" "[J" (.ref ab4) := fq4_1.ext E5
      have f5_F_ob_count : Fld Z h5 ob "com/example/flipside/flipside/tool/LatencyHistogram" "count" "J" (.long (0 : Int64)) := fq4_2.ext E5
      have f5_F_ob_max : Fld Z h5 ob "com/example/flipside/flipside/tool/LatencyHistogram" "max" "J" (.long (0 : Int64)) := fq4_3.ext E5
      have f5_A_ab4 : own_A Z h5 ab4 .long (28160) (fun z => .long (own_k0L z)) := fq4_4.ext E5
      have z5 : n0 ≤ h5.size := Nat.le_trans z4c E5.1
      have F5_counts : Fld Z h5 oc "com/example/flipside/flipside/tool/LatencyHistogram" "counts" "[J" .null := D5 (Or.inr (hw _ (List.mem_of_getElem? (i := 11) rfl))) (ty := (.array .long)) (by decide)
      have F5_count : Fld Z h5 oc "com/example/flipside/flipside/tool/LatencyHistogram" "count" "J" (.long (0 : Int64)) := D5 (Or.inl (hw _ (List.mem_of_getElem? (i := 18) rfl))) (ty := .long) (by decide)
      have F5_max : Fld Z h5 oc "com/example/flipside/flipside/tool/LatencyHistogram" "max" "J" (.long (0 : Int64)) := D5 (Or.inl (hw _ (List.mem_of_getElem? (i := 20) rfl))) (ty := .long) (by decide)
      show own_W p e (FrameEnd s) below room_1.cells room_1.slots (Q0 Z qx qy pf h0 n0) T5 (mkF m 49 #[.val (.long qx), .second, .val (.long qy), .second, .val (.int pf), .val (.int (0 : Int32)), .val (.int (0 : Int32)), .val (.ref oa), .val (.ref ob), .unset, .unset, .unset, .unset, .unset, .unset, .unset, .unset, .unset] [(.ref oc)])
      refine own_dup X5 hx (hb hby at_49) rfl (rfl : 49 + 1 = 50) ?_
      obtain ⟨_, _, ⟨T6, L6, k6, n6⟩, -, X6, ⟨Lc6, hQ6, l6, y6, z6⟩, st6⟩ := X5.specialBack hx (y := (⟨"com/example/flipside/flipside/tool/LatencyHistogram", "<init>", "()V"⟩ : MethodName)) rfl hown (mvT hZ (hw _ (List.mem_of_getElem? (i := 3) rfl))) (mvT hZ (hw _ (List.mem_of_getElem? (i := 4) rfl))) (mvT hZ (hw _ (List.mem_of_getElem? (i := 5) rfl))) (by decide) (backOf (W := 1) (rm1 l Z a0 hw [] oc  h5 n0 z5 A5 F5_counts F5_count F5_max g_oc) hZ (hw _ (List.mem_of_getElem? (i := 5) rfl)) (hw _ (List.mem_of_getElem? (i := 2) rfl)) (by decide) (by decide)) (g := (mkF m 50 #[.val (.long qx), .second, .val (.long qy), .second, .val (.int pf), .val (.int (0 : Int32)), .val (.int (0 : Int32)), .val (.ref oa), .val (.ref ob), .unset, .unset, .unset, .unset, .unset, .unset, .unset, .unset, .unset] [(.ref oc), (.ref oc)])) rfl (by rw [hml]; rfl) (Steps.refl _) (a := oc) (argsL := []) (rest := [(.ref oc)]) (lenOf own_pd___V rfl) rfl (by show 2 * 0 + _ ≤ _; exact Nat.le_of_eq rfl) (hb hby at_50) (fun _ _ => ⟨rfl, e5, (by decide : 5 + 1 ≤ _), (by decide : 56329 + 28160 ≤ _)⟩)
      dsimp only [Pt.U, Pt.locs, Pt.cells, Pt.slots] at X6 l6 y6 z6 st6 hQ6
      subst l6 y6 z6
      obtain ⟨ab6, rfl, N6q, K6, sz6_ab, fq6_0, fq6_1, fq6_2, fq6_3, fq6_4⟩ := hQ6
      have N6 := Fr.app N4 N6q
      have ne_oa_ab6 : oa ≠ ab6 := Nat.ne_of_lt (Nat.lt_of_lt_of_le f5_E_oa.lt sz6_ab)
      have ne_ab2_ab6 : ab2 ≠ ab6 := Nat.ne_of_lt (Nat.lt_of_lt_of_le f5_A_ab2.lt sz6_ab)
      have ne_ob_ab6 : ob ≠ ab6 := Nat.ne_of_lt (Nat.lt_of_lt_of_le f5_E_ob.lt sz6_ab)
      have ne_ab4_ab6 : ab4 ≠ ab6 := Nat.ne_of_lt (Nat.lt_of_lt_of_le f5_A_ab4.lt sz6_ab)
      have ne_oc_ab6 : oc ≠ ab6 := Nat.ne_of_lt (Nat.lt_of_lt_of_le A5.lt sz6_ab)
      have g_ab6 : n0 ≤ ab6 := Nat.le_trans z5 sz6_ab
      have f6_E_oa : Exa Z T6.heap oa "com/example/flipside/flipside/tool/LatencyHistogram" := f5_E_oa.keep K6
      have f6_F_oa_counts : Fld Z T6.heap oa "com/example/flipside/flipside/tool/LatencyHistogram" "counts" "[J" (.ref ab2) := f5_F_oa_counts.keep K6 (ninS ne_oa_oc nin0)
      have f6_F_oa_count : Fld Z T6.heap oa "com/example/flipside/flipside/tool/LatencyHistogram" "count" "J" (.long (0 : Int64)) := f5_F_oa_count.keep K6 (ninS ne_oa_oc nin0)
      have f6_F_oa_max : Fld Z T6.heap oa "com/example/flipside/flipside/tool/LatencyHistogram" "max" "J" (.long (0 : Int64)) := f5_F_oa_max.keep K6 (ninS ne_oa_oc nin0)
      have f6_A_ab2 : own_A Z T6.heap ab2 .long (28160) (fun z => .long (own_k0L z)) := f5_A_ab2.keep K6 (ninS ne_ab2_oc nin0)
      have f6_E_ob : Exa Z T6.heap ob "com/example/flipside/flipside/tool/LatencyHistogram" := f5_E_ob.keep K6
      have f6_F_ob_counts : Fld Z T6.heap ob "com/example/flipside/flipside/tool/LatencyHistogram" "counts" "[J" (.ref ab4) := f5_F_ob_counts.keep K6 (ninS ne_ob_oc nin0)
      have f6_F_ob_count : Fld Z T6.heap ob "com/example/flipside/flipside/tool/LatencyHistogram" "count" "J" (.long (0 : Int64)) := f5_F_ob_count.keep K6 (ninS ne_ob_oc nin0)
      have f6_F_ob_max : Fld Z T6.heap ob "com/example/flipside/flipside/tool/LatencyHistogram" "max" "J" (.long (0 : Int64)) := f5_F_ob_max.keep K6 (ninS ne_ob_oc nin0)
      have f6_A_ab4 : own_A Z T6.heap ab4 .long (28160) (fun z => .long (own_k0L z)) := f5_A_ab4.keep K6 (ninS ne_ab4_oc nin0)
      have f6_E_oc : Exa Z T6.heap oc "com/example/flipside/flipside/tool/LatencyHistogram" := A5.keep K6
      have z6c : n0 ≤ T6.heap.size := Nat.le_trans z5 K6.1
      refine own_W.steps st6 ?_
      show own_W p e (FrameEnd s) below room_1.cells room_1.slots (Q0 Z qx qy pf h0 n0) T6 (mkF m 53 #[.val (.long qx), .second, .val (.long qy), .second, .val (.int pf), .val (.int (0 : Int32)), .val (.int (0 : Int32)), .val (.ref oa), .val (.ref ob), .unset, .unset, .unset, .unset, .unset, .unset, .unset, .unset, .unset] [(.ref oc)])
      refine own_astore X6 hx (hb hby at_53) (l' := #[.val (.long qx), .second, .val (.long qy), .second, .val (.int pf), .val (.int (0 : Int32)), .val (.int (0 : Int32)), .val (.ref oa), .val (.ref ob), .val (.ref oc), .unset, .unset, .unset, .unset, .unset, .unset, .unset, .unset]) rfl rfl (rfl : 53 + 2 = 55) ?_
      refine own_iload X6 hx (hb hby at_55) (v := (0 : Int32)) rfl (rfl : 55 + 2 = 57) ?_
      have hc57 : (0 : Int32) = (0 : Int32) := by decide
      refine own_ifYes X6 hx (hb hby at_57) ((if0 _ _).trans (teq hc57).1) (pc' := 72) (by decide) (by decide) ?_
      refine own_iload X6 hx (hb hby at_72) (v := (0 : Int32)) rfl (rfl : 72 + 2 = 74) ?_
      have hc74 : (0 : Int32) = (0 : Int32) := by decide
      refine own_ifYes X6 hx (hb hby at_74) ((if0 _ _).trans (teq hc74).1) (pc' := 89) (by decide) (by decide) ?_
      refine own_aload X6 hx (hb hby at_89) (v := (.ref oa)) rfl rfl (rfl : 89 + 2 = 91) ?_
      refine own_aload X6 hx (hb hby at_91) (v := (.ref ob)) rfl rfl (rfl : 91 + 2 = 93) ?_
      obtain ⟨cq7, kq7, q7a, q7b, q7c⟩ := isOf hZ rfl f6_E_oa
      obtain ⟨_, _, ⟨T7, L7, k7, n7⟩, -, X7, ⟨Lc7, hQ7, l7, y7, z7⟩, st7⟩ := X6.virtualBack hx (y := (⟨"com/example/flipside/flipside/tool/LatencyHistogram", "add", "(Lcom/example/flipside/flipside/tool/LatencyHistogram;)V"⟩ : MethodName)) (z := (⟨"com/example/flipside/flipside/tool/LatencyHistogram", "add", "(Lcom/example/flipside/flipside/tool/LatencyHistogram;)V"⟩ : MethodName)) hown (mvT hZ (hw _ (List.mem_of_getElem? (i := 12) rfl))) (mvT hZ (hw _ (List.mem_of_getElem? (i := 13) rfl))) (notFace_of_selects (args := #[]) (mvT hZ (hw _ (List.mem_of_getElem? (i := 15) rfl)))) (mvT hZ (hw _ (List.mem_of_getElem? (i := 15) rfl))) (mvT hZ (hw _ (List.mem_of_getElem? (i := 14) rfl))) (by decide) (backOf (W := 0) (rm3 l Z a0 hw [] oa ob ab2 ab4 (0 : Int64) (0 : Int64) (0 : Int64) (0 : Int64) own_k0L own_k0L T6.heap n0 z6c f6_E_oa f6_F_oa_counts f6_F_oa_count f6_F_oa_max f6_F_ob_counts f6_F_ob_count f6_F_ob_max f6_A_ab2 f6_A_ab4 g_oa g_ab2 (ne_oa_ab2) (ne_oa_ob) (ne_oa_ab4) ((Ne.symm ne_ab2_ob)) (ne_ab2_ab4)) hZ (hw _ (List.mem_of_getElem? (i := 16) rfl)) (hw _ (List.mem_of_getElem? (i := 2) rfl)) (by decide) (by decide)) q7a q7c (g := (mkF m 93 #[.val (.long qx), .second, .val (.long qy), .second, .val (.int pf), .val (.int (0 : Int32)), .val (.int (0 : Int32)), .val (.ref oa), .val (.ref ob), .val (.ref oc), .unset, .unset, .unset, .unset, .unset, .unset, .unset, .unset] [(.ref ob), (.ref oa)])) rfl (by rw [hml]; rfl) (Steps.refl _) (argsL := [(.ref ob)]) (rest := []) (lenOf own_pd__Lcom_example_flipside_flipside_tool_LatencyHistogram__V rfl) rfl (by show 2 * 0 + _ ≤ _; exact Nat.le_of_eq rfl) (hb hby at_93) (fun _ _ => ⟨rfl, rfl, (by decide : 6 + 0 ≤ _), (by decide : 84489 + 0 ≤ _)⟩)
      dsimp only [Pt.U, Pt.locs, Pt.cells, Pt.slots] at X7 l7 y7 z7 st7 hQ7
      subst l7 y7 z7
      obtain ⟨rfl, N7q, K7, fq7_0, fq7_1, fq7_2, fq7_3, fq7_4⟩ := hQ7
      have N7 := Fr.app N6 N7q
      have f7_E_oa : Exa Z T7.heap oa "com/example/flipside/flipside/tool/LatencyHistogram" := f6_E_oa.keep K7
      have f7_E_ob : Exa Z T7.heap ob "com/example/flipside/flipside/tool/LatencyHistogram" := f6_E_ob.keep K7
      have f7_F_ob_counts : Fld Z T7.heap ob "com/example/flipside/flipside/tool/LatencyHistogram" "counts" "[J" (.ref ab4) := f6_F_ob_counts.keep K7 (ninS (Ne.symm ne_oa_ob) (ninS (Ne.symm ne_ab2_ob) nin0))
      have f7_F_ob_count : Fld Z T7.heap ob "com/example/flipside/flipside/tool/LatencyHistogram" "count" "J" (.long (0 : Int64)) := f6_F_ob_count.keep K7 (ninS (Ne.symm ne_oa_ob) (ninS (Ne.symm ne_ab2_ob) nin0))
      have f7_F_ob_max : Fld Z T7.heap ob "com/example/flipside/flipside/tool/LatencyHistogram" "max" "J" (.long (0 : Int64)) := f6_F_ob_max.keep K7 (ninS (Ne.symm ne_oa_ob) (ninS (Ne.symm ne_ab2_ob) nin0))
      have f7_A_ab4 : own_A Z T7.heap ab4 .long (28160) (fun z => .long (own_k0L z)) := f6_A_ab4.keep K7 (ninS (Ne.symm ne_oa_ab4) (ninS (Ne.symm ne_ab2_ab4) nin0))
      have f7_E_oc : Exa Z T7.heap oc "com/example/flipside/flipside/tool/LatencyHistogram" := fq6_0.keep K7
      have f7_F_oc_counts : Fld Z T7.heap oc "com/example/flipside/flipside/tool/LatencyHistogram" "counts" "[J" (.ref ab6) := fq6_1.keep K7 (ninS (Ne.symm ne_oa_oc) (ninS (Ne.symm ne_ab2_oc) nin0))
      have f7_F_oc_count : Fld Z T7.heap oc "com/example/flipside/flipside/tool/LatencyHistogram" "count" "J" (.long (0 : Int64)) := fq6_2.keep K7 (ninS (Ne.symm ne_oa_oc) (ninS (Ne.symm ne_ab2_oc) nin0))
      have f7_F_oc_max : Fld Z T7.heap oc "com/example/flipside/flipside/tool/LatencyHistogram" "max" "J" (.long (0 : Int64)) := fq6_3.keep K7 (ninS (Ne.symm ne_oa_oc) (ninS (Ne.symm ne_ab2_oc) nin0))
      have f7_A_ab6 : own_A Z T7.heap ab6 .long (28160) (fun z => .long (own_k0L z)) := fq6_4.keep K7 (ninS (Ne.symm ne_oa_ab6) (ninS (Ne.symm ne_ab2_ab6) nin0))
      have z7c : n0 ≤ T7.heap.size := Nat.le_trans z6c K7.1
      refine own_W.steps st7 ?_
      show own_W p e (FrameEnd s) below room_1.cells room_1.slots (Q0 Z qx qy pf h0 n0) T7 (mkF m 96 #[.val (.long qx), .second, .val (.long qy), .second, .val (.int pf), .val (.int (0 : Int32)), .val (.int (0 : Int32)), .val (.ref oa), .val (.ref ob), .val (.ref oc), .unset, .unset, .unset, .unset, .unset, .unset, .unset, .unset] [])
      have AO : own_A Z T7.heap ab2 .long (28160) (fun z => .long (own_k0L z)) := fq7_4.congr (fun z hz => congrArg Value.long (own_afk _ z hz))
      refine own_iload X7 hx (hb hby at_96) (v := (0 : Int32)) rfl (rfl : 96 + 2 = 98) ?_
      have hc98 : (0 : Int32) = (0 : Int32) := by decide
      refine own_ifYes X7 hx (hb hby at_98) ((if0 _ _).trans (teq hc98).1) (pc' := 105) (by decide) (by decide) ?_
      refine own_lconst X7 hx (hb hby at_105) (0 : Int64) (by first | rfl | decide) (rfl : 105 + 1 = 106) ?_
      refine own_iload X7 hx (hb hby at_106) (v := (0 : Int32)) rfl (rfl : 106 + 2 = 108) ?_
      have hc108 : (0 : Int32) = (0 : Int32) := by decide
      refine own_ifYes X7 hx (hb hby at_108) ((if0 _ _).trans (teq hc108).1) (pc' := 115) (by decide) (by decide) ?_
      refine own_lconst X7 hx (hb hby at_115) (0 : Int64) (by first | rfl | decide) (rfl : 115 + 1 = 116) ?_
      refine own_ladd X7 hx (hb hby at_116) (rfl : 116 + 1 = 117) ?_
      refine own_lstore X7 hx (hb hby at_117) (l' := #[.val (.long qx), .second, .val (.long qy), .second, .val (.int pf), .val (.int (0 : Int32)), .val (.int (0 : Int32)), .val (.ref oa), .val (.ref ob), .val (.ref oc), .val (.long ((0 : Int64) + (0 : Int64))), .second, .unset, .unset, .unset, .unset, .unset, .unset]) rfl (rfl : 117 + 2 = 119) ?_
      rw [show ((0 : Int64) + (0 : Int64)) = (0 : Int64) from by decide]
      show own_W p e (FrameEnd s) below room_1.cells room_1.slots (Q0 Z qx qy pf h0 n0) T7 (mkF m 119 #[.val (.long qx), .second, .val (.long qy), .second, .val (.int pf), .val (.int (0 : Int32)), .val (.int (0 : Int32)), .val (.ref oa), .val (.ref ob), .val (.ref oc), .val (.long (0 : Int64)), .second, .unset, .unset, .unset, .unset, .unset, .unset] [])
      refine own_iload X7 hx (hb hby at_119) (v := (0 : Int32)) rfl (rfl : 119 + 2 = 121) ?_
      have hc121 : (0 : Int32) = (0 : Int32) := by decide
      refine own_ifYes X7 hx (hb hby at_121) ((if0 _ _).trans (teq hc121).1) (pc' := 132) (by decide) (by decide) ?_
      refine own_lconst X7 hx (hb hby at_132) (0 : Int64) (by first | rfl | decide) (rfl : 132 + 1 = 133) ?_
      refine own_lstore X7 hx (hb hby at_133) (l' := #[.val (.long qx), .second, .val (.long qy), .second, .val (.int pf), .val (.int (0 : Int32)), .val (.int (0 : Int32)), .val (.ref oa), .val (.ref ob), .val (.ref oc), .val (.long (0 : Int64)), .second, .val (.long (0 : Int64)), .second, .unset, .unset, .unset, .unset]) rfl (rfl : 133 + 2 = 135) ?_
      refine own_iload X7 hx (hb hby at_135) (v := (0 : Int32)) rfl (rfl : 135 + 2 = 137) ?_
      have hc137 : (0 : Int32) = (0 : Int32) := by decide
      refine own_ifYes X7 hx (hb hby at_137) ((if0 _ _).trans (teq hc137).1) (pc' := 148) (by decide) (by decide) ?_
      refine own_lconst X7 hx (hb hby at_148) (0 : Int64) (by first | rfl | decide) (rfl : 148 + 1 = 149) ?_
      refine own_lstore X7 hx (hb hby at_149) (l' := #[.val (.long qx), .second, .val (.long qy), .second, .val (.int pf), .val (.int (0 : Int32)), .val (.int (0 : Int32)), .val (.ref oa), .val (.ref ob), .val (.ref oc), .val (.long (0 : Int64)), .second, .val (.long (0 : Int64)), .second, .val (.long (0 : Int64)), .second, .unset, .unset]) rfl (rfl : 149 + 2 = 151) ?_
      refine own_aload X7 hx (hb hby at_151) (v := (.ref oa)) rfl rfl (rfl : 151 + 2 = 153) ?_
      obtain ⟨cq8, kq8, q8a, q8b, q8c⟩ := isOf hZ rfl fq7_0
      obtain ⟨_, _, ⟨T8, L8, k8, n8⟩, -, X8, ⟨Lc8, hQ8, l8, y8, z8⟩, st8⟩ := X7.virtualBack hx (y := (⟨"com/example/flipside/flipside/tool/LatencyHistogram", "count", "()J"⟩ : MethodName)) (z := (⟨"com/example/flipside/flipside/tool/LatencyHistogram", "count", "()J"⟩ : MethodName)) hown (mvT hZ (hw _ (List.mem_of_getElem? (i := 25) rfl))) (mvT hZ (hw _ (List.mem_of_getElem? (i := 26) rfl))) (notFace_of_selects (args := #[]) (mvT hZ (hw _ (List.mem_of_getElem? (i := 28) rfl)))) (mvT hZ (hw _ (List.mem_of_getElem? (i := 28) rfl))) (mvT hZ (hw _ (List.mem_of_getElem? (i := 27) rfl))) (by decide) (backOf (W := 0) (rm5 l Z a0 hw [] oa ((0 : Int64) + (0 : Int64)) T7.heap n0 z7c fq7_2) hZ (hw _ (List.mem_of_getElem? (i := 29) rfl)) (hw _ (List.mem_of_getElem? (i := 2) rfl)) (by decide) (by decide)) q8a q8c (g := (mkF m 153 #[.val (.long qx), .second, .val (.long qy), .second, .val (.int pf), .val (.int (0 : Int32)), .val (.int (0 : Int32)), .val (.ref oa), .val (.ref ob), .val (.ref oc), .val (.long (0 : Int64)), .second, .val (.long (0 : Int64)), .second, .val (.long (0 : Int64)), .second, .unset, .unset] [(.ref oa)])) rfl (by rw [hml]; rfl) (Steps.refl _) (argsL := []) (rest := []) (lenOf own_pd___J rfl) rfl (by show 2 * 0 + _ ≤ _; exact Nat.le_of_eq rfl) (hb hby at_153) (fun _ _ => ⟨rfl, rfl, (by decide : 6 + 0 ≤ _), (by decide : 84489 + 0 ≤ _)⟩)
      dsimp only [Pt.U, Pt.locs, Pt.cells, Pt.slots] at X8 l8 y8 z8 st8 hQ8
      subst l8 y8 z8
      obtain ⟨rfl, N8q, e8⟩ := hQ8
      have N8 := Fr.app N7 N8q
      refine own_W.steps st8 ?_
      show own_W p e (FrameEnd s) below room_1.cells room_1.slots (Q0 Z qx qy pf h0 n0) T8 (mkF m 156 #[.val (.long qx), .second, .val (.long qy), .second, .val (.int pf), .val (.int (0 : Int32)), .val (.int (0 : Int32)), .val (.ref oa), .val (.ref ob), .val (.ref oc), .val (.long (0 : Int64)), .second, .val (.long (0 : Int64)), .second, .val (.long (0 : Int64)), .second, .unset, .unset] [(.long ((0 : Int64) + (0 : Int64)))])
      refine own_lload X8 hx (hb hby at_156) (v := (0 : Int64)) rfl (rfl : 156 + 2 = 158) ?_
      refine own_lcmp X8 hx (hb hby at_158) (rfl : 158 + 1 = 159) ?_
      have hc159 : ((0 : Int64) + (0 : Int64)) = (0 : Int64) := by decide
      refine own_ifYes X8 hx (hb hby at_159) (XT.ll_eq_t hc159) (pc' := 164) (by decide) (by decide) ?_
      refine own_aload X8 hx (hb hby at_164) (v := (.ref oa)) rfl rfl (rfl : 164 + 2 = 166) ?_
      obtain ⟨cq9, kq9, q9a, q9b, q9c⟩ := isOf hZ e8 fq7_0
      obtain ⟨_, _, ⟨T9, L9, k9, n9⟩, -, X9, ⟨Lc9, hQ9, l9, y9, z9⟩, st9⟩ := X8.virtualBack hx (y := (⟨"com/example/flipside/flipside/tool/LatencyHistogram", "max", "()J"⟩ : MethodName)) (z := (⟨"com/example/flipside/flipside/tool/LatencyHistogram", "max", "()J"⟩ : MethodName)) hown (mvT hZ (hw _ (List.mem_of_getElem? (i := 30) rfl))) (mvT hZ (hw _ (List.mem_of_getElem? (i := 31) rfl))) (notFace_of_selects (args := #[]) (mvT hZ (hw _ (List.mem_of_getElem? (i := 33) rfl)))) (mvT hZ (hw _ (List.mem_of_getElem? (i := 33) rfl))) (mvT hZ (hw _ (List.mem_of_getElem? (i := 32) rfl))) (by decide) (backOf (W := 0) (rm6 l Z a0 hw [] oa (own_lmax (0 : Int64) (0 : Int64)) T7.heap n0 z7c fq7_3) hZ (hw _ (List.mem_of_getElem? (i := 34) rfl)) (hw _ (List.mem_of_getElem? (i := 2) rfl)) (by decide) (by decide)) q9a q9c (g := (mkF m 166 #[.val (.long qx), .second, .val (.long qy), .second, .val (.int pf), .val (.int (0 : Int32)), .val (.int (0 : Int32)), .val (.ref oa), .val (.ref ob), .val (.ref oc), .val (.long (0 : Int64)), .second, .val (.long (0 : Int64)), .second, .val (.long (0 : Int64)), .second, .unset, .unset] [(.ref oa)])) rfl (by rw [hml]; rfl) (Steps.refl _) (argsL := []) (rest := []) (lenOf own_pd___J rfl) rfl (by show 2 * 0 + _ ≤ _; exact Nat.le_of_eq rfl) (hb hby at_166) (fun _ _ => ⟨rfl, e8, (by decide : 6 + 0 ≤ _), (by decide : 84489 + 0 ≤ _)⟩)
      dsimp only [Pt.U, Pt.locs, Pt.cells, Pt.slots] at X9 l9 y9 z9 st9 hQ9
      subst l9 y9 z9
      obtain ⟨rfl, N9q, e9⟩ := hQ9
      have N9 := Fr.app N8 N9q
      refine own_W.steps st9 ?_
      show own_W p e (FrameEnd s) below room_1.cells room_1.slots (Q0 Z qx qy pf h0 n0) T9 (mkF m 169 #[.val (.long qx), .second, .val (.long qy), .second, .val (.int pf), .val (.int (0 : Int32)), .val (.int (0 : Int32)), .val (.ref oa), .val (.ref ob), .val (.ref oc), .val (.long (0 : Int64)), .second, .val (.long (0 : Int64)), .second, .val (.long (0 : Int64)), .second, .unset, .unset] [(.long (own_lmax (0 : Int64) (0 : Int64)))])
      refine own_lload X9 hx (hb hby at_169) (v := (0 : Int64)) rfl (rfl : 169 + 2 = 171) ?_
      refine own_lload X9 hx (hb hby at_171) (v := (0 : Int64)) rfl (rfl : 171 + 2 = 173) ?_
      obtain ⟨_, _, ⟨T10, L10, k10, n10⟩, -, X10, ⟨Lc10, hQ10, l10, y10, z10⟩, st10⟩ := Jvm.LawKit.callS X9 hx (y := (⟨"java/lang/Math", "max", "(JJ)J"⟩ : MethodName)) hown (mvT hZ (hw _ (List.mem_of_getElem? (i := 35) rfl))) (mvT hZ (hw _ (List.mem_of_getElem? (i := 22) rfl))) (mvT hZ (hw _ (List.mem_of_getElem? (i := 23) rfl))) (mvT hZ (hw _ (List.mem_of_getElem? (i := 24) rfl))) (by decide) (backOf (W := 2) (rm4 l Z a0 hw [] (0 : Int64) (0 : Int64)  T7.heap n0 z7c ) hZ (hw _ (List.mem_of_getElem? (i := 24) rfl)) (hw _ (List.mem_of_getElem? (i := 23) rfl)) (by decide) (by decide)) (g := (mkF m 173 #[.val (.long qx), .second, .val (.long qy), .second, .val (.int pf), .val (.int (0 : Int32)), .val (.int (0 : Int32)), .val (.ref oa), .val (.ref ob), .val (.ref oc), .val (.long (0 : Int64)), .second, .val (.long (0 : Int64)), .second, .val (.long (0 : Int64)), .second, .unset, .unset] [(.long (0 : Int64)), (.long (0 : Int64)), (.long (own_lmax (0 : Int64) (0 : Int64)))])) rfl (by rw [hml]; rfl) (argsL := [(.long (0 : Int64)), (.long (0 : Int64))]) (rest := [(.long (own_lmax (0 : Int64) (0 : Int64)))]) (lenOf own_pd__JJ_J rfl) rfl (by show 2 * 0 + _ ≤ _; exact Nat.le_of_eq rfl) (hb hby at_173) (fun _ _ => ⟨rfl, e9, (by decide : 6 + 0 ≤ _), (by decide : 84489 + 0 ≤ _)⟩)
      dsimp only [Pt.U, Pt.locs, Pt.cells, Pt.slots] at X10 l10 y10 z10 st10 hQ10
      subst l10 y10 z10
      obtain ⟨rfl, N10q, e10⟩ := hQ10
      have N10 := Fr.app N9 N10q
      refine own_W.step st10 ?_
      show own_W p e (FrameEnd s) below room_1.cells room_1.slots (Q0 Z qx qy pf h0 n0) T10 (mkF m 176 #[.val (.long qx), .second, .val (.long qy), .second, .val (.int pf), .val (.int (0 : Int32)), .val (.int (0 : Int32)), .val (.ref oa), .val (.ref ob), .val (.ref oc), .val (.long (0 : Int64)), .second, .val (.long (0 : Int64)), .second, .val (.long (0 : Int64)), .second, .unset, .unset] [(.long (own_lmax (0 : Int64) (0 : Int64))), (.long (own_lmax (0 : Int64) (0 : Int64)))])
      refine own_lcmp X10 hx (hb hby at_176) (rfl : 176 + 1 = 177) ?_
      have hc177 : (own_lmax (0 : Int64) (0 : Int64)) = (own_lmax (0 : Int64) (0 : Int64)) := by first | simp only [own_rm0] | rfl
      refine own_ifYes X10 hx (hb hby at_177) (XT.ll_eq_t hc177) (pc' := 182) (by decide) (by decide) ?_
      refine own_aload X10 hx (hb hby at_182) (v := (.ref ob)) rfl rfl (rfl : 182 + 2 = 184) ?_
      obtain ⟨cq11, kq11, q11a, q11b, q11c⟩ := isOf hZ e10 f7_E_ob
      obtain ⟨_, _, ⟨T11, L11, k11, n11⟩, -, X11, ⟨Lc11, hQ11, l11, y11, z11⟩, st11⟩ := X10.virtualBack hx (y := (⟨"com/example/flipside/flipside/tool/LatencyHistogram", "count", "()J"⟩ : MethodName)) (z := (⟨"com/example/flipside/flipside/tool/LatencyHistogram", "count", "()J"⟩ : MethodName)) hown (mvT hZ (hw _ (List.mem_of_getElem? (i := 25) rfl))) (mvT hZ (hw _ (List.mem_of_getElem? (i := 26) rfl))) (notFace_of_selects (args := #[]) (mvT hZ (hw _ (List.mem_of_getElem? (i := 28) rfl)))) (mvT hZ (hw _ (List.mem_of_getElem? (i := 28) rfl))) (mvT hZ (hw _ (List.mem_of_getElem? (i := 27) rfl))) (by decide) (backOf (W := 0) (rm5 l Z a0 hw [] ob (0 : Int64) T7.heap n0 z7c f7_F_ob_count) hZ (hw _ (List.mem_of_getElem? (i := 29) rfl)) (hw _ (List.mem_of_getElem? (i := 2) rfl)) (by decide) (by decide)) q11a q11c (g := (mkF m 184 #[.val (.long qx), .second, .val (.long qy), .second, .val (.int pf), .val (.int (0 : Int32)), .val (.int (0 : Int32)), .val (.ref oa), .val (.ref ob), .val (.ref oc), .val (.long (0 : Int64)), .second, .val (.long (0 : Int64)), .second, .val (.long (0 : Int64)), .second, .unset, .unset] [(.ref ob)])) rfl (by rw [hml]; rfl) (Steps.refl _) (argsL := []) (rest := []) (lenOf own_pd___J rfl) rfl (by show 2 * 0 + _ ≤ _; exact Nat.le_of_eq rfl) (hb hby at_184) (fun _ _ => ⟨rfl, e10, (by decide : 6 + 0 ≤ _), (by decide : 84489 + 0 ≤ _)⟩)
      dsimp only [Pt.U, Pt.locs, Pt.cells, Pt.slots] at X11 l11 y11 z11 st11 hQ11
      subst l11 y11 z11
      obtain ⟨rfl, N11q, e11⟩ := hQ11
      have N11 := Fr.app N10 N11q
      refine own_W.steps st11 ?_
      show own_W p e (FrameEnd s) below room_1.cells room_1.slots (Q0 Z qx qy pf h0 n0) T11 (mkF m 187 #[.val (.long qx), .second, .val (.long qy), .second, .val (.int pf), .val (.int (0 : Int32)), .val (.int (0 : Int32)), .val (.ref oa), .val (.ref ob), .val (.ref oc), .val (.long (0 : Int64)), .second, .val (.long (0 : Int64)), .second, .val (.long (0 : Int64)), .second, .unset, .unset] [(.long (0 : Int64))])
      refine own_iload X11 hx (hb hby at_187) (v := (0 : Int32)) rfl (rfl : 187 + 2 = 189) ?_
      have hc189 : (0 : Int32) = (0 : Int32) := by decide
      refine own_ifYes X11 hx (hb hby at_189) ((if0 _ _).trans (teq hc189).1) (pc' := 196) (by decide) (by decide) ?_
      refine own_lconst X11 hx (hb hby at_196) (0 : Int64) (by first | rfl | decide) (rfl : 196 + 1 = 197) ?_
      refine own_lcmp X11 hx (hb hby at_197) (rfl : 197 + 1 = 198) ?_
      have hc198 : (0 : Int64) = (0 : Int64) := by decide
      refine own_ifYes X11 hx (hb hby at_198) (XT.ll_eq_t hc198) (pc' := 203) (by decide) (by decide) ?_
      refine own_lload X11 hx (hb hby at_203) (v := (0 : Int64)) rfl (rfl : 203 + 2 = 205) ?_
      refine own_lconst X11 hx (hb hby at_205) (0 : Int64) (by first | rfl | decide) (rfl : 205 + 1 = 206) ?_
      refine own_lcmp X11 hx (hb hby at_206) (rfl : 206 + 1 = 207) ?_
      have hc207 : (0 : Int64) = (0 : Int64) := by decide
      refine own_ifNo X11 hx (hb hby at_207) (XT.ll_ne_f hc207) (rfl : 207 + 3 = 210) ?_
      refine own_iconst X11 hx (hb hby at_210) (1 : Int32) (by first | rfl | decide) (rfl : 210 + 1 = 211) ?_
      refine own_retN (t := .boolean) X11 hx hlk hret (by simp) (hb hby at_211) (z' := (1 : Int32)) (by decide) (by decide) (by decide) ?_
      show Q0 Z qx qy pf h0 n0 (some (.int (1 : Int32))) T11.heap _
      rw [e11]
      exact ⟨rfl, N11⟩
    · skip
      refine own_ifNo X0 hx (hb hby at_18) ((if0 _ _).trans (feq hc18).1) (rfl : 18 + 3 = 21) ?_
      refine own_iconst X0 hx (hb hby at_21) (1 : Int32) (by first | rfl | decide) (rfl : 21 + 1 = 22) ?_
      refine own_goto X0 hx (hb hby at_22) (pc' := 26) (by decide) (by decide) ?_
      refine own_istore X0 hx (hb hby at_26) (l' := #[.val (.long qx), .second, .val (.long qy), .second, .val (.int pf), .val (.int (0 : Int32)), .val (.int (1 : Int32)), .unset, .unset, .unset, .unset, .unset, .unset, .unset, .unset, .unset, .unset, .unset]) rfl (rfl : 26 + 2 = 28) ?_
      obtain ⟨T12, h12, X12, e12, E12, A12, D12, -, st12⟩ := newO X0 hx hZ hown (hw _ (List.mem_of_getElem? (i := 0) rfl)) (hw _ (List.mem_of_getElem? (i := 1) rfl)) (hw _ (List.mem_of_getElem? (i := 2) rfl)) e0 (g := (mkF m 28 #[.val (.long qx), .second, .val (.long qy), .second, .val (.int pf), .val (.int (0 : Int32)), .val (.int (1 : Int32)), .unset, .unset, .unset, .unset, .unset, .unset, .unset, .unset, .unset, .unset, .unset] [])) rfl (hb hby at_28) (by decide) (by decide)
      obtain ⟨oa, g12⟩ : ∃ z, z = h0.size := ⟨_, rfl⟩
      rw [← g12] at A12 D12 st12
      refine own_W.step st12 ?_
      have g_oa : n0 ≤ oa := Nat.le_trans Z0 (Nat.le_of_eq g12.symm)
      have z12 : n0 ≤ h12.size := Nat.le_trans Z0 E12.1
      have F12_counts : Fld Z h12 oa "com/example/flipside/flipside/tool/LatencyHistogram" "counts" "[J" .null := D12 (Or.inr (hw _ (List.mem_of_getElem? (i := 11) rfl))) (ty := (.array .long)) (by decide)
      have F12_count : Fld Z h12 oa "com/example/flipside/flipside/tool/LatencyHistogram" "count" "J" (.long (0 : Int64)) := D12 (Or.inl (hw _ (List.mem_of_getElem? (i := 18) rfl))) (ty := .long) (by decide)
      have F12_max : Fld Z h12 oa "com/example/flipside/flipside/tool/LatencyHistogram" "max" "J" (.long (0 : Int64)) := D12 (Or.inl (hw _ (List.mem_of_getElem? (i := 20) rfl))) (ty := .long) (by decide)
      show own_W p e (FrameEnd s) below room_1.cells room_1.slots (Q0 Z qx qy pf h0 n0) T12 (mkF m 31 #[.val (.long qx), .second, .val (.long qy), .second, .val (.int pf), .val (.int (0 : Int32)), .val (.int (1 : Int32)), .unset, .unset, .unset, .unset, .unset, .unset, .unset, .unset, .unset, .unset, .unset] [(.ref oa)])
      refine own_dup X12 hx (hb hby at_31) rfl (rfl : 31 + 1 = 32) ?_
      obtain ⟨_, _, ⟨T13, L13, k13, n13⟩, -, X13, ⟨Lc13, hQ13, l13, y13, z13⟩, st13⟩ := X12.specialBack hx (y := (⟨"com/example/flipside/flipside/tool/LatencyHistogram", "<init>", "()V"⟩ : MethodName)) rfl hown (mvT hZ (hw _ (List.mem_of_getElem? (i := 3) rfl))) (mvT hZ (hw _ (List.mem_of_getElem? (i := 4) rfl))) (mvT hZ (hw _ (List.mem_of_getElem? (i := 5) rfl))) (by decide) (backOf (W := 1) (rm1 l Z a0 hw [] oa  h12 n0 z12 A12 F12_counts F12_count F12_max g_oa) hZ (hw _ (List.mem_of_getElem? (i := 5) rfl)) (hw _ (List.mem_of_getElem? (i := 2) rfl)) (by decide) (by decide)) (g := (mkF m 32 #[.val (.long qx), .second, .val (.long qy), .second, .val (.int pf), .val (.int (0 : Int32)), .val (.int (1 : Int32)), .unset, .unset, .unset, .unset, .unset, .unset, .unset, .unset, .unset, .unset, .unset] [(.ref oa), (.ref oa)])) rfl (by rw [hml]; rfl) (Steps.refl _) (a := oa) (argsL := []) (rest := [(.ref oa)]) (lenOf own_pd___V rfl) rfl (by show 2 * 0 + _ ≤ _; exact Nat.le_of_eq rfl) (hb hby at_32) (fun _ _ => ⟨rfl, e12, (by decide : 1 + 1 ≤ _), (by decide : 3 + 28160 ≤ _)⟩)
      dsimp only [Pt.U, Pt.locs, Pt.cells, Pt.slots] at X13 l13 y13 z13 st13 hQ13
      subst l13 y13 z13
      obtain ⟨ab13, rfl, N13q, K13, sz13_ab, fq13_0, fq13_1, fq13_2, fq13_3, fq13_4⟩ := hQ13
      have N13 := Fr.app N0 N13q
      have ne_oa_ab13 : oa ≠ ab13 := Nat.ne_of_lt (Nat.lt_of_lt_of_le A12.lt sz13_ab)
      have g_ab13 : n0 ≤ ab13 := Nat.le_trans z12 sz13_ab
      have f13_E_oa : Exa Z T13.heap oa "com/example/flipside/flipside/tool/LatencyHistogram" := A12.keep K13
      have z13c : n0 ≤ T13.heap.size := Nat.le_trans z12 K13.1
      refine own_W.steps st13 ?_
      show own_W p e (FrameEnd s) below room_1.cells room_1.slots (Q0 Z qx qy pf h0 n0) T13 (mkF m 35 #[.val (.long qx), .second, .val (.long qy), .second, .val (.int pf), .val (.int (0 : Int32)), .val (.int (1 : Int32)), .unset, .unset, .unset, .unset, .unset, .unset, .unset, .unset, .unset, .unset, .unset] [(.ref oa)])
      refine own_astore X13 hx (hb hby at_35) (l' := #[.val (.long qx), .second, .val (.long qy), .second, .val (.int pf), .val (.int (0 : Int32)), .val (.int (1 : Int32)), .val (.ref oa), .unset, .unset, .unset, .unset, .unset, .unset, .unset, .unset, .unset, .unset]) rfl rfl (rfl : 35 + 2 = 37) ?_
      obtain ⟨T14, h14, X14, e14, E14, A14, D14, -, st14⟩ := newO X13 hx hZ hown (hw _ (List.mem_of_getElem? (i := 0) rfl)) (hw _ (List.mem_of_getElem? (i := 1) rfl)) (hw _ (List.mem_of_getElem? (i := 2) rfl)) rfl (g := (mkF m 37 #[.val (.long qx), .second, .val (.long qy), .second, .val (.int pf), .val (.int (0 : Int32)), .val (.int (1 : Int32)), .val (.ref oa), .unset, .unset, .unset, .unset, .unset, .unset, .unset, .unset, .unset, .unset] [])) rfl (hb hby at_37) (by decide) (by decide)
      obtain ⟨ob, g14⟩ : ∃ z, z = T13.heap.size := ⟨_, rfl⟩
      rw [← g14] at A14 D14 st14
      refine own_W.step st14 ?_
      have ne_oa_ob : oa ≠ ob := Nat.ne_of_lt (Nat.lt_of_lt_of_le fq13_0.lt (Nat.le_of_eq g14.symm))
      have ne_ab13_ob : ab13 ≠ ob := Nat.ne_of_lt (Nat.lt_of_lt_of_le fq13_4.lt (Nat.le_of_eq g14.symm))
      have g_ob : n0 ≤ ob := Nat.le_trans z13c (Nat.le_of_eq g14.symm)
      have f14_E_oa : Exa Z h14 oa "com/example/flipside/flipside/tool/LatencyHistogram" := fq13_0.ext E14
      have f14_F_oa_counts : Fld Z h14 oa "com/example/flipside/flipside/tool/LatencyHistogram" "counts" "[J" (.ref ab13) := fq13_1.ext E14
      have f14_F_oa_count : Fld Z h14 oa "com/example/flipside/flipside/tool/LatencyHistogram" "count" "J" (.long (0 : Int64)) := fq13_2.ext E14
      have f14_F_oa_max : Fld Z h14 oa "com/example/flipside/flipside/tool/LatencyHistogram" "max" "J" (.long (0 : Int64)) := fq13_3.ext E14
      have f14_A_ab13 : own_A Z h14 ab13 .long (28160) (fun z => .long (own_k0L z)) := fq13_4.ext E14
      have z14 : n0 ≤ h14.size := Nat.le_trans z13c E14.1
      have F14_counts : Fld Z h14 ob "com/example/flipside/flipside/tool/LatencyHistogram" "counts" "[J" .null := D14 (Or.inr (hw _ (List.mem_of_getElem? (i := 11) rfl))) (ty := (.array .long)) (by decide)
      have F14_count : Fld Z h14 ob "com/example/flipside/flipside/tool/LatencyHistogram" "count" "J" (.long (0 : Int64)) := D14 (Or.inl (hw _ (List.mem_of_getElem? (i := 18) rfl))) (ty := .long) (by decide)
      have F14_max : Fld Z h14 ob "com/example/flipside/flipside/tool/LatencyHistogram" "max" "J" (.long (0 : Int64)) := D14 (Or.inl (hw _ (List.mem_of_getElem? (i := 20) rfl))) (ty := .long) (by decide)
      show own_W p e (FrameEnd s) below room_1.cells room_1.slots (Q0 Z qx qy pf h0 n0) T14 (mkF m 40 #[.val (.long qx), .second, .val (.long qy), .second, .val (.int pf), .val (.int (0 : Int32)), .val (.int (1 : Int32)), .val (.ref oa), .unset, .unset, .unset, .unset, .unset, .unset, .unset, .unset, .unset, .unset] [(.ref ob)])
      refine own_dup X14 hx (hb hby at_40) rfl (rfl : 40 + 1 = 41) ?_
      obtain ⟨_, _, ⟨T15, L15, k15, n15⟩, -, X15, ⟨Lc15, hQ15, l15, y15, z15⟩, st15⟩ := X14.specialBack hx (y := (⟨"com/example/flipside/flipside/tool/LatencyHistogram", "<init>", "()V"⟩ : MethodName)) rfl hown (mvT hZ (hw _ (List.mem_of_getElem? (i := 3) rfl))) (mvT hZ (hw _ (List.mem_of_getElem? (i := 4) rfl))) (mvT hZ (hw _ (List.mem_of_getElem? (i := 5) rfl))) (by decide) (backOf (W := 1) (rm1 l Z a0 hw [] ob  h14 n0 z14 A14 F14_counts F14_count F14_max g_ob) hZ (hw _ (List.mem_of_getElem? (i := 5) rfl)) (hw _ (List.mem_of_getElem? (i := 2) rfl)) (by decide) (by decide)) (g := (mkF m 41 #[.val (.long qx), .second, .val (.long qy), .second, .val (.int pf), .val (.int (0 : Int32)), .val (.int (1 : Int32)), .val (.ref oa), .unset, .unset, .unset, .unset, .unset, .unset, .unset, .unset, .unset, .unset] [(.ref ob), (.ref ob)])) rfl (by rw [hml]; rfl) (Steps.refl _) (a := ob) (argsL := []) (rest := [(.ref ob)]) (lenOf own_pd___V rfl) rfl (by show 2 * 0 + _ ≤ _; exact Nat.le_of_eq rfl) (hb hby at_41) (fun _ _ => ⟨rfl, e14, (by decide : 3 + 1 ≤ _), (by decide : 28166 + 28160 ≤ _)⟩)
      dsimp only [Pt.U, Pt.locs, Pt.cells, Pt.slots] at X15 l15 y15 z15 st15 hQ15
      subst l15 y15 z15
      obtain ⟨ab15, rfl, N15q, K15, sz15_ab, fq15_0, fq15_1, fq15_2, fq15_3, fq15_4⟩ := hQ15
      have N15 := Fr.app N13 N15q
      have ne_oa_ab15 : oa ≠ ab15 := Nat.ne_of_lt (Nat.lt_of_lt_of_le f14_E_oa.lt sz15_ab)
      have ne_ab13_ab15 : ab13 ≠ ab15 := Nat.ne_of_lt (Nat.lt_of_lt_of_le f14_A_ab13.lt sz15_ab)
      have ne_ob_ab15 : ob ≠ ab15 := Nat.ne_of_lt (Nat.lt_of_lt_of_le A14.lt sz15_ab)
      have g_ab15 : n0 ≤ ab15 := Nat.le_trans z14 sz15_ab
      have f15_E_oa : Exa Z T15.heap oa "com/example/flipside/flipside/tool/LatencyHistogram" := f14_E_oa.keep K15
      have f15_F_oa_counts : Fld Z T15.heap oa "com/example/flipside/flipside/tool/LatencyHistogram" "counts" "[J" (.ref ab13) := f14_F_oa_counts.keep K15 (ninS ne_oa_ob nin0)
      have f15_F_oa_count : Fld Z T15.heap oa "com/example/flipside/flipside/tool/LatencyHistogram" "count" "J" (.long (0 : Int64)) := f14_F_oa_count.keep K15 (ninS ne_oa_ob nin0)
      have f15_F_oa_max : Fld Z T15.heap oa "com/example/flipside/flipside/tool/LatencyHistogram" "max" "J" (.long (0 : Int64)) := f14_F_oa_max.keep K15 (ninS ne_oa_ob nin0)
      have f15_A_ab13 : own_A Z T15.heap ab13 .long (28160) (fun z => .long (own_k0L z)) := f14_A_ab13.keep K15 (ninS ne_ab13_ob nin0)
      have f15_E_ob : Exa Z T15.heap ob "com/example/flipside/flipside/tool/LatencyHistogram" := A14.keep K15
      have z15c : n0 ≤ T15.heap.size := Nat.le_trans z14 K15.1
      refine own_W.steps st15 ?_
      show own_W p e (FrameEnd s) below room_1.cells room_1.slots (Q0 Z qx qy pf h0 n0) T15 (mkF m 44 #[.val (.long qx), .second, .val (.long qy), .second, .val (.int pf), .val (.int (0 : Int32)), .val (.int (1 : Int32)), .val (.ref oa), .unset, .unset, .unset, .unset, .unset, .unset, .unset, .unset, .unset, .unset] [(.ref ob)])
      refine own_astore X15 hx (hb hby at_44) (l' := #[.val (.long qx), .second, .val (.long qy), .second, .val (.int pf), .val (.int (0 : Int32)), .val (.int (1 : Int32)), .val (.ref oa), .val (.ref ob), .unset, .unset, .unset, .unset, .unset, .unset, .unset, .unset, .unset]) rfl rfl (rfl : 44 + 2 = 46) ?_
      obtain ⟨T16, h16, X16, e16, E16, A16, D16, -, st16⟩ := newO X15 hx hZ hown (hw _ (List.mem_of_getElem? (i := 0) rfl)) (hw _ (List.mem_of_getElem? (i := 1) rfl)) (hw _ (List.mem_of_getElem? (i := 2) rfl)) rfl (g := (mkF m 46 #[.val (.long qx), .second, .val (.long qy), .second, .val (.int pf), .val (.int (0 : Int32)), .val (.int (1 : Int32)), .val (.ref oa), .val (.ref ob), .unset, .unset, .unset, .unset, .unset, .unset, .unset, .unset, .unset] [])) rfl (hb hby at_46) (by decide) (by decide)
      obtain ⟨oc, g16⟩ : ∃ z, z = T15.heap.size := ⟨_, rfl⟩
      rw [← g16] at A16 D16 st16
      refine own_W.step st16 ?_
      have ne_oa_oc : oa ≠ oc := Nat.ne_of_lt (Nat.lt_of_lt_of_le f15_E_oa.lt (Nat.le_of_eq g16.symm))
      have ne_ab13_oc : ab13 ≠ oc := Nat.ne_of_lt (Nat.lt_of_lt_of_le f15_A_ab13.lt (Nat.le_of_eq g16.symm))
      have ne_ob_oc : ob ≠ oc := Nat.ne_of_lt (Nat.lt_of_lt_of_le fq15_0.lt (Nat.le_of_eq g16.symm))
      have ne_ab15_oc : ab15 ≠ oc := Nat.ne_of_lt (Nat.lt_of_lt_of_le fq15_4.lt (Nat.le_of_eq g16.symm))
      have g_oc : n0 ≤ oc := Nat.le_trans z15c (Nat.le_of_eq g16.symm)
      have f16_E_oa : Exa Z h16 oa "com/example/flipside/flipside/tool/LatencyHistogram" := f15_E_oa.ext E16
      have f16_F_oa_counts : Fld Z h16 oa "com/example/flipside/flipside/tool/LatencyHistogram" "counts" "[J" (.ref ab13) := f15_F_oa_counts.ext E16
      have f16_F_oa_count : Fld Z h16 oa "com/example/flipside/flipside/tool/LatencyHistogram" "count" "J" (.long (0 : Int64)) := f15_F_oa_count.ext E16
      have f16_F_oa_max : Fld Z h16 oa "com/example/flipside/flipside/tool/LatencyHistogram" "max" "J" (.long (0 : Int64)) := f15_F_oa_max.ext E16
      have f16_A_ab13 : own_A Z h16 ab13 .long (28160) (fun z => .long (own_k0L z)) := f15_A_ab13.ext E16
      have f16_E_ob : Exa Z h16 ob "com/example/flipside/flipside/tool/LatencyHistogram" := fq15_0.ext E16
      have f16_F_ob_counts : Fld Z h16 ob "com/example/flipside/flipside/tool/LatencyHistogram" "counts" "[J" (.ref ab15) := fq15_1.ext E16
      have f16_F_ob_count : Fld Z h16 ob "com/example/flipside/flipside/tool/LatencyHistogram" "count" "J" (.long (0 : Int64)) := fq15_2.ext E16
      have f16_F_ob_max : Fld Z h16 ob "com/example/flipside/flipside/tool/LatencyHistogram" "max" "J" (.long (0 : Int64)) := fq15_3.ext E16
      have f16_A_ab15 : own_A Z h16 ab15 .long (28160) (fun z => .long (own_k0L z)) := fq15_4.ext E16
      have z16 : n0 ≤ h16.size := Nat.le_trans z15c E16.1
      have F16_counts : Fld Z h16 oc "com/example/flipside/flipside/tool/LatencyHistogram" "counts" "[J" .null := D16 (Or.inr (hw _ (List.mem_of_getElem? (i := 11) rfl))) (ty := (.array .long)) (by decide)
      have F16_count : Fld Z h16 oc "com/example/flipside/flipside/tool/LatencyHistogram" "count" "J" (.long (0 : Int64)) := D16 (Or.inl (hw _ (List.mem_of_getElem? (i := 18) rfl))) (ty := .long) (by decide)
      have F16_max : Fld Z h16 oc "com/example/flipside/flipside/tool/LatencyHistogram" "max" "J" (.long (0 : Int64)) := D16 (Or.inl (hw _ (List.mem_of_getElem? (i := 20) rfl))) (ty := .long) (by decide)
      show own_W p e (FrameEnd s) below room_1.cells room_1.slots (Q0 Z qx qy pf h0 n0) T16 (mkF m 49 #[.val (.long qx), .second, .val (.long qy), .second, .val (.int pf), .val (.int (0 : Int32)), .val (.int (1 : Int32)), .val (.ref oa), .val (.ref ob), .unset, .unset, .unset, .unset, .unset, .unset, .unset, .unset, .unset] [(.ref oc)])
      refine own_dup X16 hx (hb hby at_49) rfl (rfl : 49 + 1 = 50) ?_
      obtain ⟨_, _, ⟨T17, L17, k17, n17⟩, -, X17, ⟨Lc17, hQ17, l17, y17, z17⟩, st17⟩ := X16.specialBack hx (y := (⟨"com/example/flipside/flipside/tool/LatencyHistogram", "<init>", "()V"⟩ : MethodName)) rfl hown (mvT hZ (hw _ (List.mem_of_getElem? (i := 3) rfl))) (mvT hZ (hw _ (List.mem_of_getElem? (i := 4) rfl))) (mvT hZ (hw _ (List.mem_of_getElem? (i := 5) rfl))) (by decide) (backOf (W := 1) (rm1 l Z a0 hw [] oc  h16 n0 z16 A16 F16_counts F16_count F16_max g_oc) hZ (hw _ (List.mem_of_getElem? (i := 5) rfl)) (hw _ (List.mem_of_getElem? (i := 2) rfl)) (by decide) (by decide)) (g := (mkF m 50 #[.val (.long qx), .second, .val (.long qy), .second, .val (.int pf), .val (.int (0 : Int32)), .val (.int (1 : Int32)), .val (.ref oa), .val (.ref ob), .unset, .unset, .unset, .unset, .unset, .unset, .unset, .unset, .unset] [(.ref oc), (.ref oc)])) rfl (by rw [hml]; rfl) (Steps.refl _) (a := oc) (argsL := []) (rest := [(.ref oc)]) (lenOf own_pd___V rfl) rfl (by show 2 * 0 + _ ≤ _; exact Nat.le_of_eq rfl) (hb hby at_50) (fun _ _ => ⟨rfl, e16, (by decide : 5 + 1 ≤ _), (by decide : 56329 + 28160 ≤ _)⟩)
      dsimp only [Pt.U, Pt.locs, Pt.cells, Pt.slots] at X17 l17 y17 z17 st17 hQ17
      subst l17 y17 z17
      obtain ⟨ab17, rfl, N17q, K17, sz17_ab, fq17_0, fq17_1, fq17_2, fq17_3, fq17_4⟩ := hQ17
      have N17 := Fr.app N15 N17q
      have ne_oa_ab17 : oa ≠ ab17 := Nat.ne_of_lt (Nat.lt_of_lt_of_le f16_E_oa.lt sz17_ab)
      have ne_ab13_ab17 : ab13 ≠ ab17 := Nat.ne_of_lt (Nat.lt_of_lt_of_le f16_A_ab13.lt sz17_ab)
      have ne_ob_ab17 : ob ≠ ab17 := Nat.ne_of_lt (Nat.lt_of_lt_of_le f16_E_ob.lt sz17_ab)
      have ne_ab15_ab17 : ab15 ≠ ab17 := Nat.ne_of_lt (Nat.lt_of_lt_of_le f16_A_ab15.lt sz17_ab)
      have ne_oc_ab17 : oc ≠ ab17 := Nat.ne_of_lt (Nat.lt_of_lt_of_le A16.lt sz17_ab)
      have g_ab17 : n0 ≤ ab17 := Nat.le_trans z16 sz17_ab
      have f17_E_oa : Exa Z T17.heap oa "com/example/flipside/flipside/tool/LatencyHistogram" := f16_E_oa.keep K17
      have f17_F_oa_counts : Fld Z T17.heap oa "com/example/flipside/flipside/tool/LatencyHistogram" "counts" "[J" (.ref ab13) := f16_F_oa_counts.keep K17 (ninS ne_oa_oc nin0)
      have f17_F_oa_count : Fld Z T17.heap oa "com/example/flipside/flipside/tool/LatencyHistogram" "count" "J" (.long (0 : Int64)) := f16_F_oa_count.keep K17 (ninS ne_oa_oc nin0)
      have f17_F_oa_max : Fld Z T17.heap oa "com/example/flipside/flipside/tool/LatencyHistogram" "max" "J" (.long (0 : Int64)) := f16_F_oa_max.keep K17 (ninS ne_oa_oc nin0)
      have f17_A_ab13 : own_A Z T17.heap ab13 .long (28160) (fun z => .long (own_k0L z)) := f16_A_ab13.keep K17 (ninS ne_ab13_oc nin0)
      have f17_E_ob : Exa Z T17.heap ob "com/example/flipside/flipside/tool/LatencyHistogram" := f16_E_ob.keep K17
      have f17_F_ob_counts : Fld Z T17.heap ob "com/example/flipside/flipside/tool/LatencyHistogram" "counts" "[J" (.ref ab15) := f16_F_ob_counts.keep K17 (ninS ne_ob_oc nin0)
      have f17_F_ob_count : Fld Z T17.heap ob "com/example/flipside/flipside/tool/LatencyHistogram" "count" "J" (.long (0 : Int64)) := f16_F_ob_count.keep K17 (ninS ne_ob_oc nin0)
      have f17_F_ob_max : Fld Z T17.heap ob "com/example/flipside/flipside/tool/LatencyHistogram" "max" "J" (.long (0 : Int64)) := f16_F_ob_max.keep K17 (ninS ne_ob_oc nin0)
      have f17_A_ab15 : own_A Z T17.heap ab15 .long (28160) (fun z => .long (own_k0L z)) := f16_A_ab15.keep K17 (ninS ne_ab15_oc nin0)
      have f17_E_oc : Exa Z T17.heap oc "com/example/flipside/flipside/tool/LatencyHistogram" := A16.keep K17
      have z17c : n0 ≤ T17.heap.size := Nat.le_trans z16 K17.1
      refine own_W.steps st17 ?_
      show own_W p e (FrameEnd s) below room_1.cells room_1.slots (Q0 Z qx qy pf h0 n0) T17 (mkF m 53 #[.val (.long qx), .second, .val (.long qy), .second, .val (.int pf), .val (.int (0 : Int32)), .val (.int (1 : Int32)), .val (.ref oa), .val (.ref ob), .unset, .unset, .unset, .unset, .unset, .unset, .unset, .unset, .unset] [(.ref oc)])
      refine own_astore X17 hx (hb hby at_53) (l' := #[.val (.long qx), .second, .val (.long qy), .second, .val (.int pf), .val (.int (0 : Int32)), .val (.int (1 : Int32)), .val (.ref oa), .val (.ref ob), .val (.ref oc), .unset, .unset, .unset, .unset, .unset, .unset, .unset, .unset]) rfl rfl (rfl : 53 + 2 = 55) ?_
      refine own_iload X17 hx (hb hby at_55) (v := (0 : Int32)) rfl (rfl : 55 + 2 = 57) ?_
      have hc57 : (0 : Int32) = (0 : Int32) := by decide
      refine own_ifYes X17 hx (hb hby at_57) ((if0 _ _).trans (teq hc57).1) (pc' := 72) (by decide) (by decide) ?_
      refine own_iload X17 hx (hb hby at_72) (v := (1 : Int32)) rfl (rfl : 72 + 2 = 74) ?_
      have hc74 : ¬ ((1 : Int32) = (0 : Int32)) := by decide
      refine own_ifNo X17 hx (hb hby at_74) ((if0 _ _).trans (feq hc74).1) (rfl : 74 + 3 = 77) ?_
      refine own_aload X17 hx (hb hby at_77) (v := (.ref ob)) rfl rfl (rfl : 77 + 2 = 79) ?_
      refine own_lloadN X17 hx (hb hby at_79) (v := qy) rfl (rfl : 79 + 1 = 80) ?_
      obtain ⟨cq18, kq18, q18a, q18b, q18c⟩ := isOf hZ rfl f17_E_ob
      obtain ⟨_, _, ⟨T18, L18, k18, n18⟩, -, X18, ⟨Lc18, hQ18, l18, y18, z18⟩, st18⟩ := X17.virtualBack hx (y := (⟨"com/example/flipside/flipside/tool/LatencyHistogram", "record", "(J)V"⟩ : MethodName)) (z := (⟨"com/example/flipside/flipside/tool/LatencyHistogram", "record", "(J)V"⟩ : MethodName)) hown (mvT hZ (hw _ (List.mem_of_getElem? (i := 36) rfl))) (mvT hZ (hw _ (List.mem_of_getElem? (i := 37) rfl))) (notFace_of_selects (args := #[]) (mvT hZ (hw _ (List.mem_of_getElem? (i := 39) rfl)))) (mvT hZ (hw _ (List.mem_of_getElem? (i := 39) rfl))) (mvT hZ (hw _ (List.mem_of_getElem? (i := 38) rfl))) (by decide) (backOf (W := 0) (rm7 l Z a0 hw [] ob qy ab15 (0 : Int64) (0 : Int64) own_k0L T17.heap n0 z17c f17_E_ob f17_F_ob_counts f17_F_ob_count f17_F_ob_max f17_A_ab15 g_ob g_ab15 (ne_ob_ab15)) hZ (hw _ (List.mem_of_getElem? (i := 40) rfl)) (hw _ (List.mem_of_getElem? (i := 2) rfl)) (by decide) (by decide)) q18a q18c (g := (mkF m 80 #[.val (.long qx), .second, .val (.long qy), .second, .val (.int pf), .val (.int (0 : Int32)), .val (.int (1 : Int32)), .val (.ref oa), .val (.ref ob), .val (.ref oc), .unset, .unset, .unset, .unset, .unset, .unset, .unset, .unset] [(.long qy), (.ref ob)])) rfl (by rw [hml]; rfl) (Steps.refl _) (argsL := [(.long qy)]) (rest := []) (lenOf own_pd__J_V rfl) rfl (by show 2 * 0 + _ ≤ _; exact Nat.le_of_eq rfl) (hb hby at_80) (fun _ _ => ⟨rfl, rfl, (by decide : 6 + 0 ≤ _), (by decide : 84489 + 0 ≤ _)⟩)
      dsimp only [Pt.U, Pt.locs, Pt.cells, Pt.slots] at X18 l18 y18 z18 st18 hQ18
      subst l18 y18 z18
      obtain ⟨rfl, N18q, K18, fq18_0, fq18_1, fq18_2, fq18_3, fq18_4⟩ := hQ18
      have N18 := Fr.app N17 N18q
      have f18_E_oa : Exa Z T18.heap oa "com/example/flipside/flipside/tool/LatencyHistogram" := f17_E_oa.keep K18
      have f18_F_oa_counts : Fld Z T18.heap oa "com/example/flipside/flipside/tool/LatencyHistogram" "counts" "[J" (.ref ab13) := f17_F_oa_counts.keep K18 (ninS ne_oa_ob (ninS ne_oa_ab15 nin0))
      have f18_F_oa_count : Fld Z T18.heap oa "com/example/flipside/flipside/tool/LatencyHistogram" "count" "J" (.long (0 : Int64)) := f17_F_oa_count.keep K18 (ninS ne_oa_ob (ninS ne_oa_ab15 nin0))
      have f18_F_oa_max : Fld Z T18.heap oa "com/example/flipside/flipside/tool/LatencyHistogram" "max" "J" (.long (0 : Int64)) := f17_F_oa_max.keep K18 (ninS ne_oa_ob (ninS ne_oa_ab15 nin0))
      have f18_A_ab13 : own_A Z T18.heap ab13 .long (28160) (fun z => .long (own_k0L z)) := f17_A_ab13.keep K18 (ninS ne_ab13_ob (ninS ne_ab13_ab15 nin0))
      have f18_E_ob : Exa Z T18.heap ob "com/example/flipside/flipside/tool/LatencyHistogram" := f17_E_ob.keep K18
      have f18_E_oc : Exa Z T18.heap oc "com/example/flipside/flipside/tool/LatencyHistogram" := fq17_0.keep K18
      have f18_F_oc_counts : Fld Z T18.heap oc "com/example/flipside/flipside/tool/LatencyHistogram" "counts" "[J" (.ref ab17) := fq17_1.keep K18 (ninS (Ne.symm ne_ob_oc) (ninS (Ne.symm ne_ab15_oc) nin0))
      have f18_F_oc_count : Fld Z T18.heap oc "com/example/flipside/flipside/tool/LatencyHistogram" "count" "J" (.long (0 : Int64)) := fq17_2.keep K18 (ninS (Ne.symm ne_ob_oc) (ninS (Ne.symm ne_ab15_oc) nin0))
      have f18_F_oc_max : Fld Z T18.heap oc "com/example/flipside/flipside/tool/LatencyHistogram" "max" "J" (.long (0 : Int64)) := fq17_3.keep K18 (ninS (Ne.symm ne_ob_oc) (ninS (Ne.symm ne_ab15_oc) nin0))
      have f18_A_ab17 : own_A Z T18.heap ab17 .long (28160) (fun z => .long (own_k0L z)) := fq17_4.keep K18 (ninS (Ne.symm ne_ob_ab17) (ninS (Ne.symm ne_ab15_ab17) nin0))
      have z18c : n0 ≤ T18.heap.size := Nat.le_trans z17c K18.1
      refine own_W.steps st18 ?_
      show own_W p e (FrameEnd s) below room_1.cells room_1.slots (Q0 Z qx qy pf h0 n0) T18 (mkF m 83 #[.val (.long qx), .second, .val (.long qy), .second, .val (.int pf), .val (.int (0 : Int32)), .val (.int (1 : Int32)), .val (.ref oa), .val (.ref ob), .val (.ref oc), .unset, .unset, .unset, .unset, .unset, .unset, .unset, .unset] [])
      refine own_aload X18 hx (hb hby at_83) (v := (.ref oc)) rfl rfl (rfl : 83 + 2 = 85) ?_
      refine own_lloadN X18 hx (hb hby at_85) (v := qy) rfl (rfl : 85 + 1 = 86) ?_
      obtain ⟨cq19, kq19, q19a, q19b, q19c⟩ := isOf hZ rfl f18_E_oc
      obtain ⟨_, _, ⟨T19, L19, k19, n19⟩, -, X19, ⟨Lc19, hQ19, l19, y19, z19⟩, st19⟩ := X18.virtualBack hx (y := (⟨"com/example/flipside/flipside/tool/LatencyHistogram", "record", "(J)V"⟩ : MethodName)) (z := (⟨"com/example/flipside/flipside/tool/LatencyHistogram", "record", "(J)V"⟩ : MethodName)) hown (mvT hZ (hw _ (List.mem_of_getElem? (i := 36) rfl))) (mvT hZ (hw _ (List.mem_of_getElem? (i := 37) rfl))) (notFace_of_selects (args := #[]) (mvT hZ (hw _ (List.mem_of_getElem? (i := 39) rfl)))) (mvT hZ (hw _ (List.mem_of_getElem? (i := 39) rfl))) (mvT hZ (hw _ (List.mem_of_getElem? (i := 38) rfl))) (by decide) (backOf (W := 0) (rm7 l Z a0 hw [] oc qy ab17 (0 : Int64) (0 : Int64) own_k0L T18.heap n0 z18c f18_E_oc f18_F_oc_counts f18_F_oc_count f18_F_oc_max f18_A_ab17 g_oc g_ab17 (ne_oc_ab17)) hZ (hw _ (List.mem_of_getElem? (i := 40) rfl)) (hw _ (List.mem_of_getElem? (i := 2) rfl)) (by decide) (by decide)) q19a q19c (g := (mkF m 86 #[.val (.long qx), .second, .val (.long qy), .second, .val (.int pf), .val (.int (0 : Int32)), .val (.int (1 : Int32)), .val (.ref oa), .val (.ref ob), .val (.ref oc), .unset, .unset, .unset, .unset, .unset, .unset, .unset, .unset] [(.long qy), (.ref oc)])) rfl (by rw [hml]; rfl) (Steps.refl _) (argsL := [(.long qy)]) (rest := []) (lenOf own_pd__J_V rfl) rfl (by show 2 * 0 + _ ≤ _; exact Nat.le_of_eq rfl) (hb hby at_86) (fun _ _ => ⟨rfl, rfl, (by decide : 6 + 0 ≤ _), (by decide : 84489 + 0 ≤ _)⟩)
      dsimp only [Pt.U, Pt.locs, Pt.cells, Pt.slots] at X19 l19 y19 z19 st19 hQ19
      subst l19 y19 z19
      obtain ⟨rfl, N19q, K19, fq19_0, fq19_1, fq19_2, fq19_3, fq19_4⟩ := hQ19
      have N19 := Fr.app N18 N19q
      have f19_E_oa : Exa Z T19.heap oa "com/example/flipside/flipside/tool/LatencyHistogram" := f18_E_oa.keep K19
      have f19_F_oa_counts : Fld Z T19.heap oa "com/example/flipside/flipside/tool/LatencyHistogram" "counts" "[J" (.ref ab13) := f18_F_oa_counts.keep K19 (ninS ne_oa_oc (ninS ne_oa_ab17 nin0))
      have f19_F_oa_count : Fld Z T19.heap oa "com/example/flipside/flipside/tool/LatencyHistogram" "count" "J" (.long (0 : Int64)) := f18_F_oa_count.keep K19 (ninS ne_oa_oc (ninS ne_oa_ab17 nin0))
      have f19_F_oa_max : Fld Z T19.heap oa "com/example/flipside/flipside/tool/LatencyHistogram" "max" "J" (.long (0 : Int64)) := f18_F_oa_max.keep K19 (ninS ne_oa_oc (ninS ne_oa_ab17 nin0))
      have f19_A_ab13 : own_A Z T19.heap ab13 .long (28160) (fun z => .long (own_k0L z)) := f18_A_ab13.keep K19 (ninS ne_ab13_oc (ninS ne_ab13_ab17 nin0))
      have f19_E_ob : Exa Z T19.heap ob "com/example/flipside/flipside/tool/LatencyHistogram" := fq18_0.keep K19
      have f19_E_oc : Exa Z T19.heap oc "com/example/flipside/flipside/tool/LatencyHistogram" := f18_E_oc.keep K19
      have f19_F_ob_counts : Fld Z T19.heap ob "com/example/flipside/flipside/tool/LatencyHistogram" "counts" "[J" (.ref ab15) := fq18_1.keep K19 (ninS ne_ob_oc (ninS ne_ob_ab17 nin0))
      have f19_F_ob_count : Fld Z T19.heap ob "com/example/flipside/flipside/tool/LatencyHistogram" "count" "J" (.long ((0 : Int64) + (1 : Int64))) := fq18_2.keep K19 (ninS ne_ob_oc (ninS ne_ob_ab17 nin0))
      have f19_F_ob_max : Fld Z T19.heap ob "com/example/flipside/flipside/tool/LatencyHistogram" "max" "J" (.long (own_rm (0 : Int64) qy)) := fq18_3.keep K19 (ninS ne_ob_oc (ninS ne_ob_ab17 nin0))
      have f19_A_ab15 : own_A Z T19.heap ab15 .long (28160) (fun z => .long (own_rec own_k0L qy z)) := fq18_4.keep K19 (ninS ne_ab15_oc (ninS ne_ab15_ab17 nin0))
      have z19c : n0 ≤ T19.heap.size := Nat.le_trans z18c K19.1
      refine own_W.steps st19 ?_
      show own_W p e (FrameEnd s) below room_1.cells room_1.slots (Q0 Z qx qy pf h0 n0) T19 (mkF m 89 #[.val (.long qx), .second, .val (.long qy), .second, .val (.int pf), .val (.int (0 : Int32)), .val (.int (1 : Int32)), .val (.ref oa), .val (.ref ob), .val (.ref oc), .unset, .unset, .unset, .unset, .unset, .unset, .unset, .unset] [])
      refine own_aload X19 hx (hb hby at_89) (v := (.ref oa)) rfl rfl (rfl : 89 + 2 = 91) ?_
      refine own_aload X19 hx (hb hby at_91) (v := (.ref ob)) rfl rfl (rfl : 91 + 2 = 93) ?_
      obtain ⟨cq20, kq20, q20a, q20b, q20c⟩ := isOf hZ rfl f19_E_oa
      obtain ⟨_, _, ⟨T20, L20, k20, n20⟩, -, X20, ⟨Lc20, hQ20, l20, y20, z20⟩, st20⟩ := X19.virtualBack hx (y := (⟨"com/example/flipside/flipside/tool/LatencyHistogram", "add", "(Lcom/example/flipside/flipside/tool/LatencyHistogram;)V"⟩ : MethodName)) (z := (⟨"com/example/flipside/flipside/tool/LatencyHistogram", "add", "(Lcom/example/flipside/flipside/tool/LatencyHistogram;)V"⟩ : MethodName)) hown (mvT hZ (hw _ (List.mem_of_getElem? (i := 12) rfl))) (mvT hZ (hw _ (List.mem_of_getElem? (i := 13) rfl))) (notFace_of_selects (args := #[]) (mvT hZ (hw _ (List.mem_of_getElem? (i := 15) rfl)))) (mvT hZ (hw _ (List.mem_of_getElem? (i := 15) rfl))) (mvT hZ (hw _ (List.mem_of_getElem? (i := 14) rfl))) (by decide) (backOf (W := 0) (rm3 l Z a0 hw [] oa ob ab13 ab15 (0 : Int64) ((0 : Int64) + (1 : Int64)) (0 : Int64) (own_rm (0 : Int64) qy) own_k0L (own_rec own_k0L qy) T19.heap n0 z19c f19_E_oa f19_F_oa_counts f19_F_oa_count f19_F_oa_max f19_F_ob_counts f19_F_ob_count f19_F_ob_max f19_A_ab13 f19_A_ab15 g_oa g_ab13 (ne_oa_ab13) (ne_oa_ob) (ne_oa_ab15) ((Ne.symm ne_ab13_ob)) (ne_ab13_ab15)) hZ (hw _ (List.mem_of_getElem? (i := 16) rfl)) (hw _ (List.mem_of_getElem? (i := 2) rfl)) (by decide) (by decide)) q20a q20c (g := (mkF m 93 #[.val (.long qx), .second, .val (.long qy), .second, .val (.int pf), .val (.int (0 : Int32)), .val (.int (1 : Int32)), .val (.ref oa), .val (.ref ob), .val (.ref oc), .unset, .unset, .unset, .unset, .unset, .unset, .unset, .unset] [(.ref ob), (.ref oa)])) rfl (by rw [hml]; rfl) (Steps.refl _) (argsL := [(.ref ob)]) (rest := []) (lenOf own_pd__Lcom_example_flipside_flipside_tool_LatencyHistogram__V rfl) rfl (by show 2 * 0 + _ ≤ _; exact Nat.le_of_eq rfl) (hb hby at_93) (fun _ _ => ⟨rfl, rfl, (by decide : 6 + 0 ≤ _), (by decide : 84489 + 0 ≤ _)⟩)
      dsimp only [Pt.U, Pt.locs, Pt.cells, Pt.slots] at X20 l20 y20 z20 st20 hQ20
      subst l20 y20 z20
      obtain ⟨rfl, N20q, K20, fq20_0, fq20_1, fq20_2, fq20_3, fq20_4⟩ := hQ20
      have N20 := Fr.app N19 N20q
      have f20_E_oa : Exa Z T20.heap oa "com/example/flipside/flipside/tool/LatencyHistogram" := f19_E_oa.keep K20
      have f20_E_ob : Exa Z T20.heap ob "com/example/flipside/flipside/tool/LatencyHistogram" := f19_E_ob.keep K20
      have f20_E_oc : Exa Z T20.heap oc "com/example/flipside/flipside/tool/LatencyHistogram" := fq19_0.keep K20
      have f20_F_ob_counts : Fld Z T20.heap ob "com/example/flipside/flipside/tool/LatencyHistogram" "counts" "[J" (.ref ab15) := f19_F_ob_counts.keep K20 (ninS (Ne.symm ne_oa_ob) (ninS (Ne.symm ne_ab13_ob) nin0))
      have f20_F_ob_count : Fld Z T20.heap ob "com/example/flipside/flipside/tool/LatencyHistogram" "count" "J" (.long ((0 : Int64) + (1 : Int64))) := f19_F_ob_count.keep K20 (ninS (Ne.symm ne_oa_ob) (ninS (Ne.symm ne_ab13_ob) nin0))
      have f20_F_ob_max : Fld Z T20.heap ob "com/example/flipside/flipside/tool/LatencyHistogram" "max" "J" (.long (own_rm (0 : Int64) qy)) := f19_F_ob_max.keep K20 (ninS (Ne.symm ne_oa_ob) (ninS (Ne.symm ne_ab13_ob) nin0))
      have f20_A_ab15 : own_A Z T20.heap ab15 .long (28160) (fun z => .long (own_rec own_k0L qy z)) := f19_A_ab15.keep K20 (ninS (Ne.symm ne_oa_ab15) (ninS (Ne.symm ne_ab13_ab15) nin0))
      have f20_F_oc_counts : Fld Z T20.heap oc "com/example/flipside/flipside/tool/LatencyHistogram" "counts" "[J" (.ref ab17) := fq19_1.keep K20 (ninS (Ne.symm ne_oa_oc) (ninS (Ne.symm ne_ab13_oc) nin0))
      have f20_F_oc_count : Fld Z T20.heap oc "com/example/flipside/flipside/tool/LatencyHistogram" "count" "J" (.long ((0 : Int64) + (1 : Int64))) := fq19_2.keep K20 (ninS (Ne.symm ne_oa_oc) (ninS (Ne.symm ne_ab13_oc) nin0))
      have f20_F_oc_max : Fld Z T20.heap oc "com/example/flipside/flipside/tool/LatencyHistogram" "max" "J" (.long (own_rm (0 : Int64) qy)) := fq19_3.keep K20 (ninS (Ne.symm ne_oa_oc) (ninS (Ne.symm ne_ab13_oc) nin0))
      have f20_A_ab17 : own_A Z T20.heap ab17 .long (28160) (fun z => .long (own_rec own_k0L qy z)) := fq19_4.keep K20 (ninS (Ne.symm ne_oa_ab17) (ninS (Ne.symm ne_ab13_ab17) nin0))
      have z20c : n0 ≤ T20.heap.size := Nat.le_trans z19c K20.1
      refine own_W.steps st20 ?_
      show own_W p e (FrameEnd s) below room_1.cells room_1.slots (Q0 Z qx qy pf h0 n0) T20 (mkF m 96 #[.val (.long qx), .second, .val (.long qy), .second, .val (.int pf), .val (.int (0 : Int32)), .val (.int (1 : Int32)), .val (.ref oa), .val (.ref ob), .val (.ref oc), .unset, .unset, .unset, .unset, .unset, .unset, .unset, .unset] [])
      have AO : own_A Z T20.heap ab13 .long (28160) (fun z => .long (own_rec own_k0L qy z)) := fq20_4.congr (fun z hz => congrArg Value.long (own_afe _ _ z hz))
      refine own_iload X20 hx (hb hby at_96) (v := (0 : Int32)) rfl (rfl : 96 + 2 = 98) ?_
      have hc98 : (0 : Int32) = (0 : Int32) := by decide
      refine own_ifYes X20 hx (hb hby at_98) ((if0 _ _).trans (teq hc98).1) (pc' := 105) (by decide) (by decide) ?_
      refine own_lconst X20 hx (hb hby at_105) (0 : Int64) (by first | rfl | decide) (rfl : 105 + 1 = 106) ?_
      refine own_iload X20 hx (hb hby at_106) (v := (1 : Int32)) rfl (rfl : 106 + 2 = 108) ?_
      have hc108 : ¬ ((1 : Int32) = (0 : Int32)) := by decide
      refine own_ifNo X20 hx (hb hby at_108) ((if0 _ _).trans (feq hc108).1) (rfl : 108 + 3 = 111) ?_
      refine own_lconst X20 hx (hb hby at_111) (1 : Int64) (by first | rfl | decide) (rfl : 111 + 1 = 112) ?_
      refine own_goto X20 hx (hb hby at_112) (pc' := 116) (by decide) (by decide) ?_
      refine own_ladd X20 hx (hb hby at_116) (rfl : 116 + 1 = 117) ?_
      refine own_lstore X20 hx (hb hby at_117) (l' := #[.val (.long qx), .second, .val (.long qy), .second, .val (.int pf), .val (.int (0 : Int32)), .val (.int (1 : Int32)), .val (.ref oa), .val (.ref ob), .val (.ref oc), .val (.long ((0 : Int64) + (1 : Int64))), .second, .unset, .unset, .unset, .unset, .unset, .unset]) rfl (rfl : 117 + 2 = 119) ?_
      rw [show ((0 : Int64) + (1 : Int64)) = (1 : Int64) from by decide]
      show own_W p e (FrameEnd s) below room_1.cells room_1.slots (Q0 Z qx qy pf h0 n0) T20 (mkF m 119 #[.val (.long qx), .second, .val (.long qy), .second, .val (.int pf), .val (.int (0 : Int32)), .val (.int (1 : Int32)), .val (.ref oa), .val (.ref ob), .val (.ref oc), .val (.long (1 : Int64)), .second, .unset, .unset, .unset, .unset, .unset, .unset] [])
      refine own_iload X20 hx (hb hby at_119) (v := (0 : Int32)) rfl (rfl : 119 + 2 = 121) ?_
      have hc121 : (0 : Int32) = (0 : Int32) := by decide
      refine own_ifYes X20 hx (hb hby at_121) ((if0 _ _).trans (teq hc121).1) (pc' := 132) (by decide) (by decide) ?_
      refine own_lconst X20 hx (hb hby at_132) (0 : Int64) (by first | rfl | decide) (rfl : 132 + 1 = 133) ?_
      refine own_lstore X20 hx (hb hby at_133) (l' := #[.val (.long qx), .second, .val (.long qy), .second, .val (.int pf), .val (.int (0 : Int32)), .val (.int (1 : Int32)), .val (.ref oa), .val (.ref ob), .val (.ref oc), .val (.long (1 : Int64)), .second, .val (.long (0 : Int64)), .second, .unset, .unset, .unset, .unset]) rfl (rfl : 133 + 2 = 135) ?_
      refine own_iload X20 hx (hb hby at_135) (v := (1 : Int32)) rfl (rfl : 135 + 2 = 137) ?_
      have hc137 : ¬ ((1 : Int32) = (0 : Int32)) := by decide
      refine own_ifNo X20 hx (hb hby at_137) ((if0 _ _).trans (feq hc137).1) (rfl : 137 + 3 = 140) ?_
      refine own_lloadN X20 hx (hb hby at_140) (v := qy) rfl (rfl : 140 + 1 = 141) ?_
      refine own_lconst X20 hx (hb hby at_141) (0 : Int64) (by first | rfl | decide) (rfl : 141 + 1 = 142) ?_
      obtain ⟨_, _, ⟨T21, L21, k21, n21⟩, -, X21, ⟨Lc21, hQ21, l21, y21, z21⟩, st21⟩ := Jvm.LawKit.callS X20 hx (y := (⟨"java/lang/Math", "max", "(JJ)J"⟩ : MethodName)) hown (mvT hZ (hw _ (List.mem_of_getElem? (i := 35) rfl))) (mvT hZ (hw _ (List.mem_of_getElem? (i := 22) rfl))) (mvT hZ (hw _ (List.mem_of_getElem? (i := 23) rfl))) (mvT hZ (hw _ (List.mem_of_getElem? (i := 24) rfl))) (by decide) (backOf (W := 0) (rm4 l Z a0 hw [] qy (0 : Int64)  T20.heap n0 z20c ) hZ (hw _ (List.mem_of_getElem? (i := 24) rfl)) (hw _ (List.mem_of_getElem? (i := 23) rfl)) (by decide) (by decide)) (g := (mkF m 142 #[.val (.long qx), .second, .val (.long qy), .second, .val (.int pf), .val (.int (0 : Int32)), .val (.int (1 : Int32)), .val (.ref oa), .val (.ref ob), .val (.ref oc), .val (.long (1 : Int64)), .second, .val (.long (0 : Int64)), .second, .unset, .unset, .unset, .unset] [(.long (0 : Int64)), (.long qy)])) rfl (by rw [hml]; rfl) (argsL := [(.long qy), (.long (0 : Int64))]) (rest := []) (lenOf own_pd__JJ_J rfl) rfl (by show 2 * 0 + _ ≤ _; exact Nat.le_of_eq rfl) (hb hby at_142) (fun _ _ => ⟨rfl, rfl, (by decide : 6 + 0 ≤ _), (by decide : 84489 + 0 ≤ _)⟩)
      dsimp only [Pt.U, Pt.locs, Pt.cells, Pt.slots] at X21 l21 y21 z21 st21 hQ21
      subst l21 y21 z21
      obtain ⟨rfl, N21q, e21⟩ := hQ21
      have N21 := Fr.app N20 N21q
      refine own_W.step st21 ?_
      show own_W p e (FrameEnd s) below room_1.cells room_1.slots (Q0 Z qx qy pf h0 n0) T21 (mkF m 145 #[.val (.long qx), .second, .val (.long qy), .second, .val (.int pf), .val (.int (0 : Int32)), .val (.int (1 : Int32)), .val (.ref oa), .val (.ref ob), .val (.ref oc), .val (.long (1 : Int64)), .second, .val (.long (0 : Int64)), .second, .unset, .unset, .unset, .unset] [(.long (own_lmax qy (0 : Int64)))])
      refine own_goto X21 hx (hb hby at_145) (pc' := 149) (by decide) (by decide) ?_
      refine own_lstore X21 hx (hb hby at_149) (l' := #[.val (.long qx), .second, .val (.long qy), .second, .val (.int pf), .val (.int (0 : Int32)), .val (.int (1 : Int32)), .val (.ref oa), .val (.ref ob), .val (.ref oc), .val (.long (1 : Int64)), .second, .val (.long (0 : Int64)), .second, .val (.long (own_lmax qy (0 : Int64))), .second, .unset, .unset]) rfl (rfl : 149 + 2 = 151) ?_
      refine own_aload X21 hx (hb hby at_151) (v := (.ref oa)) rfl rfl (rfl : 151 + 2 = 153) ?_
      obtain ⟨cq22, kq22, q22a, q22b, q22c⟩ := isOf hZ e21 fq20_0
      obtain ⟨_, _, ⟨T22, L22, k22, n22⟩, -, X22, ⟨Lc22, hQ22, l22, y22, z22⟩, st22⟩ := X21.virtualBack hx (y := (⟨"com/example/flipside/flipside/tool/LatencyHistogram", "count", "()J"⟩ : MethodName)) (z := (⟨"com/example/flipside/flipside/tool/LatencyHistogram", "count", "()J"⟩ : MethodName)) hown (mvT hZ (hw _ (List.mem_of_getElem? (i := 25) rfl))) (mvT hZ (hw _ (List.mem_of_getElem? (i := 26) rfl))) (notFace_of_selects (args := #[]) (mvT hZ (hw _ (List.mem_of_getElem? (i := 28) rfl)))) (mvT hZ (hw _ (List.mem_of_getElem? (i := 28) rfl))) (mvT hZ (hw _ (List.mem_of_getElem? (i := 27) rfl))) (by decide) (backOf (W := 0) (rm5 l Z a0 hw [] oa ((0 : Int64) + ((0 : Int64) + (1 : Int64))) T20.heap n0 z20c fq20_2) hZ (hw _ (List.mem_of_getElem? (i := 29) rfl)) (hw _ (List.mem_of_getElem? (i := 2) rfl)) (by decide) (by decide)) q22a q22c (g := (mkF m 153 #[.val (.long qx), .second, .val (.long qy), .second, .val (.int pf), .val (.int (0 : Int32)), .val (.int (1 : Int32)), .val (.ref oa), .val (.ref ob), .val (.ref oc), .val (.long (1 : Int64)), .second, .val (.long (0 : Int64)), .second, .val (.long (own_lmax qy (0 : Int64))), .second, .unset, .unset] [(.ref oa)])) rfl (by rw [hml]; rfl) (Steps.refl _) (argsL := []) (rest := []) (lenOf own_pd___J rfl) rfl (by show 2 * 0 + _ ≤ _; exact Nat.le_of_eq rfl) (hb hby at_153) (fun _ _ => ⟨rfl, e21, (by decide : 6 + 0 ≤ _), (by decide : 84489 + 0 ≤ _)⟩)
      dsimp only [Pt.U, Pt.locs, Pt.cells, Pt.slots] at X22 l22 y22 z22 st22 hQ22
      subst l22 y22 z22
      obtain ⟨rfl, N22q, e22⟩ := hQ22
      have N22 := Fr.app N21 N22q
      refine own_W.steps st22 ?_
      show own_W p e (FrameEnd s) below room_1.cells room_1.slots (Q0 Z qx qy pf h0 n0) T22 (mkF m 156 #[.val (.long qx), .second, .val (.long qy), .second, .val (.int pf), .val (.int (0 : Int32)), .val (.int (1 : Int32)), .val (.ref oa), .val (.ref ob), .val (.ref oc), .val (.long (1 : Int64)), .second, .val (.long (0 : Int64)), .second, .val (.long (own_lmax qy (0 : Int64))), .second, .unset, .unset] [(.long ((0 : Int64) + ((0 : Int64) + (1 : Int64))))])
      refine own_lload X22 hx (hb hby at_156) (v := (1 : Int64)) rfl (rfl : 156 + 2 = 158) ?_
      refine own_lcmp X22 hx (hb hby at_158) (rfl : 158 + 1 = 159) ?_
      have hc159 : ((0 : Int64) + ((0 : Int64) + (1 : Int64))) = (1 : Int64) := by decide
      refine own_ifYes X22 hx (hb hby at_159) (XT.ll_eq_t hc159) (pc' := 164) (by decide) (by decide) ?_
      refine own_aload X22 hx (hb hby at_164) (v := (.ref oa)) rfl rfl (rfl : 164 + 2 = 166) ?_
      obtain ⟨cq23, kq23, q23a, q23b, q23c⟩ := isOf hZ e22 fq20_0
      obtain ⟨_, _, ⟨T23, L23, k23, n23⟩, -, X23, ⟨Lc23, hQ23, l23, y23, z23⟩, st23⟩ := X22.virtualBack hx (y := (⟨"com/example/flipside/flipside/tool/LatencyHistogram", "max", "()J"⟩ : MethodName)) (z := (⟨"com/example/flipside/flipside/tool/LatencyHistogram", "max", "()J"⟩ : MethodName)) hown (mvT hZ (hw _ (List.mem_of_getElem? (i := 30) rfl))) (mvT hZ (hw _ (List.mem_of_getElem? (i := 31) rfl))) (notFace_of_selects (args := #[]) (mvT hZ (hw _ (List.mem_of_getElem? (i := 33) rfl)))) (mvT hZ (hw _ (List.mem_of_getElem? (i := 33) rfl))) (mvT hZ (hw _ (List.mem_of_getElem? (i := 32) rfl))) (by decide) (backOf (W := 0) (rm6 l Z a0 hw [] oa (own_lmax (0 : Int64) (own_rm (0 : Int64) qy)) T20.heap n0 z20c fq20_3) hZ (hw _ (List.mem_of_getElem? (i := 34) rfl)) (hw _ (List.mem_of_getElem? (i := 2) rfl)) (by decide) (by decide)) q23a q23c (g := (mkF m 166 #[.val (.long qx), .second, .val (.long qy), .second, .val (.int pf), .val (.int (0 : Int32)), .val (.int (1 : Int32)), .val (.ref oa), .val (.ref ob), .val (.ref oc), .val (.long (1 : Int64)), .second, .val (.long (0 : Int64)), .second, .val (.long (own_lmax qy (0 : Int64))), .second, .unset, .unset] [(.ref oa)])) rfl (by rw [hml]; rfl) (Steps.refl _) (argsL := []) (rest := []) (lenOf own_pd___J rfl) rfl (by show 2 * 0 + _ ≤ _; exact Nat.le_of_eq rfl) (hb hby at_166) (fun _ _ => ⟨rfl, e22, (by decide : 6 + 0 ≤ _), (by decide : 84489 + 0 ≤ _)⟩)
      dsimp only [Pt.U, Pt.locs, Pt.cells, Pt.slots] at X23 l23 y23 z23 st23 hQ23
      subst l23 y23 z23
      obtain ⟨rfl, N23q, e23⟩ := hQ23
      have N23 := Fr.app N22 N23q
      refine own_W.steps st23 ?_
      show own_W p e (FrameEnd s) below room_1.cells room_1.slots (Q0 Z qx qy pf h0 n0) T23 (mkF m 169 #[.val (.long qx), .second, .val (.long qy), .second, .val (.int pf), .val (.int (0 : Int32)), .val (.int (1 : Int32)), .val (.ref oa), .val (.ref ob), .val (.ref oc), .val (.long (1 : Int64)), .second, .val (.long (0 : Int64)), .second, .val (.long (own_lmax qy (0 : Int64))), .second, .unset, .unset] [(.long (own_lmax (0 : Int64) (own_rm (0 : Int64) qy)))])
      refine own_lload X23 hx (hb hby at_169) (v := (0 : Int64)) rfl (rfl : 169 + 2 = 171) ?_
      refine own_lload X23 hx (hb hby at_171) (v := (own_lmax qy (0 : Int64))) rfl (rfl : 171 + 2 = 173) ?_
      obtain ⟨_, _, ⟨T24, L24, k24, n24⟩, -, X24, ⟨Lc24, hQ24, l24, y24, z24⟩, st24⟩ := Jvm.LawKit.callS X23 hx (y := (⟨"java/lang/Math", "max", "(JJ)J"⟩ : MethodName)) hown (mvT hZ (hw _ (List.mem_of_getElem? (i := 35) rfl))) (mvT hZ (hw _ (List.mem_of_getElem? (i := 22) rfl))) (mvT hZ (hw _ (List.mem_of_getElem? (i := 23) rfl))) (mvT hZ (hw _ (List.mem_of_getElem? (i := 24) rfl))) (by decide) (backOf (W := 2) (rm4 l Z a0 hw [] (0 : Int64) (own_lmax qy (0 : Int64))  T20.heap n0 z20c ) hZ (hw _ (List.mem_of_getElem? (i := 24) rfl)) (hw _ (List.mem_of_getElem? (i := 23) rfl)) (by decide) (by decide)) (g := (mkF m 173 #[.val (.long qx), .second, .val (.long qy), .second, .val (.int pf), .val (.int (0 : Int32)), .val (.int (1 : Int32)), .val (.ref oa), .val (.ref ob), .val (.ref oc), .val (.long (1 : Int64)), .second, .val (.long (0 : Int64)), .second, .val (.long (own_lmax qy (0 : Int64))), .second, .unset, .unset] [(.long (own_lmax qy (0 : Int64))), (.long (0 : Int64)), (.long (own_lmax (0 : Int64) (own_rm (0 : Int64) qy)))])) rfl (by rw [hml]; rfl) (argsL := [(.long (0 : Int64)), (.long (own_lmax qy (0 : Int64)))]) (rest := [(.long (own_lmax (0 : Int64) (own_rm (0 : Int64) qy)))]) (lenOf own_pd__JJ_J rfl) rfl (by show 2 * 0 + _ ≤ _; exact Nat.le_of_eq rfl) (hb hby at_173) (fun _ _ => ⟨rfl, e23, (by decide : 6 + 0 ≤ _), (by decide : 84489 + 0 ≤ _)⟩)
      dsimp only [Pt.U, Pt.locs, Pt.cells, Pt.slots] at X24 l24 y24 z24 st24 hQ24
      subst l24 y24 z24
      obtain ⟨rfl, N24q, e24⟩ := hQ24
      have N24 := Fr.app N23 N24q
      refine own_W.step st24 ?_
      show own_W p e (FrameEnd s) below room_1.cells room_1.slots (Q0 Z qx qy pf h0 n0) T24 (mkF m 176 #[.val (.long qx), .second, .val (.long qy), .second, .val (.int pf), .val (.int (0 : Int32)), .val (.int (1 : Int32)), .val (.ref oa), .val (.ref ob), .val (.ref oc), .val (.long (1 : Int64)), .second, .val (.long (0 : Int64)), .second, .val (.long (own_lmax qy (0 : Int64))), .second, .unset, .unset] [(.long (own_lmax (0 : Int64) (own_lmax qy (0 : Int64)))), (.long (own_lmax (0 : Int64) (own_rm (0 : Int64) qy)))])
      refine own_lcmp X24 hx (hb hby at_176) (rfl : 176 + 1 = 177) ?_
      have hc177 : (own_lmax (0 : Int64) (own_rm (0 : Int64) qy)) = (own_lmax (0 : Int64) (own_lmax qy (0 : Int64))) := by first | simp only [own_rm0] | rfl
      refine own_ifYes X24 hx (hb hby at_177) (XT.ll_eq_t hc177) (pc' := 182) (by decide) (by decide) ?_
      refine own_aload X24 hx (hb hby at_182) (v := (.ref ob)) rfl rfl (rfl : 182 + 2 = 184) ?_
      obtain ⟨cq25, kq25, q25a, q25b, q25c⟩ := isOf hZ e24 f20_E_ob
      obtain ⟨_, _, ⟨T25, L25, k25, n25⟩, -, X25, ⟨Lc25, hQ25, l25, y25, z25⟩, st25⟩ := X24.virtualBack hx (y := (⟨"com/example/flipside/flipside/tool/LatencyHistogram", "count", "()J"⟩ : MethodName)) (z := (⟨"com/example/flipside/flipside/tool/LatencyHistogram", "count", "()J"⟩ : MethodName)) hown (mvT hZ (hw _ (List.mem_of_getElem? (i := 25) rfl))) (mvT hZ (hw _ (List.mem_of_getElem? (i := 26) rfl))) (notFace_of_selects (args := #[]) (mvT hZ (hw _ (List.mem_of_getElem? (i := 28) rfl)))) (mvT hZ (hw _ (List.mem_of_getElem? (i := 28) rfl))) (mvT hZ (hw _ (List.mem_of_getElem? (i := 27) rfl))) (by decide) (backOf (W := 0) (rm5 l Z a0 hw [] ob ((0 : Int64) + (1 : Int64)) T20.heap n0 z20c f20_F_ob_count) hZ (hw _ (List.mem_of_getElem? (i := 29) rfl)) (hw _ (List.mem_of_getElem? (i := 2) rfl)) (by decide) (by decide)) q25a q25c (g := (mkF m 184 #[.val (.long qx), .second, .val (.long qy), .second, .val (.int pf), .val (.int (0 : Int32)), .val (.int (1 : Int32)), .val (.ref oa), .val (.ref ob), .val (.ref oc), .val (.long (1 : Int64)), .second, .val (.long (0 : Int64)), .second, .val (.long (own_lmax qy (0 : Int64))), .second, .unset, .unset] [(.ref ob)])) rfl (by rw [hml]; rfl) (Steps.refl _) (argsL := []) (rest := []) (lenOf own_pd___J rfl) rfl (by show 2 * 0 + _ ≤ _; exact Nat.le_of_eq rfl) (hb hby at_184) (fun _ _ => ⟨rfl, e24, (by decide : 6 + 0 ≤ _), (by decide : 84489 + 0 ≤ _)⟩)
      dsimp only [Pt.U, Pt.locs, Pt.cells, Pt.slots] at X25 l25 y25 z25 st25 hQ25
      subst l25 y25 z25
      obtain ⟨rfl, N25q, e25⟩ := hQ25
      have N25 := Fr.app N24 N25q
      refine own_W.steps st25 ?_
      show own_W p e (FrameEnd s) below room_1.cells room_1.slots (Q0 Z qx qy pf h0 n0) T25 (mkF m 187 #[.val (.long qx), .second, .val (.long qy), .second, .val (.int pf), .val (.int (0 : Int32)), .val (.int (1 : Int32)), .val (.ref oa), .val (.ref ob), .val (.ref oc), .val (.long (1 : Int64)), .second, .val (.long (0 : Int64)), .second, .val (.long (own_lmax qy (0 : Int64))), .second, .unset, .unset] [(.long ((0 : Int64) + (1 : Int64)))])
      refine own_iload X25 hx (hb hby at_187) (v := (1 : Int32)) rfl (rfl : 187 + 2 = 189) ?_
      have hc189 : ¬ ((1 : Int32) = (0 : Int32)) := by decide
      refine own_ifNo X25 hx (hb hby at_189) ((if0 _ _).trans (feq hc189).1) (rfl : 189 + 3 = 192) ?_
      refine own_lconst X25 hx (hb hby at_192) (1 : Int64) (by first | rfl | decide) (rfl : 192 + 1 = 193) ?_
      refine own_goto X25 hx (hb hby at_193) (pc' := 197) (by decide) (by decide) ?_
      refine own_lcmp X25 hx (hb hby at_197) (rfl : 197 + 1 = 198) ?_
      have hc198 : ((0 : Int64) + (1 : Int64)) = (1 : Int64) := by decide
      refine own_ifYes X25 hx (hb hby at_198) (XT.ll_eq_t hc198) (pc' := 203) (by decide) (by decide) ?_
      refine own_lload X25 hx (hb hby at_203) (v := (1 : Int64)) rfl (rfl : 203 + 2 = 205) ?_
      refine own_lconst X25 hx (hb hby at_205) (0 : Int64) (by first | rfl | decide) (rfl : 205 + 1 = 206) ?_
      refine own_lcmp X25 hx (hb hby at_206) (rfl : 206 + 1 = 207) ?_
      have hc207 : ¬ ((1 : Int64) = (0 : Int64)) := by decide
      refine own_ifYes X25 hx (hb hby at_207) (XT.ll_ne_t hc207) (pc' := 212) (by decide) (by decide) ?_
      refine own_lconst X25 hx (hb hby at_212) (1 : Int64) (by first | rfl | decide) (rfl : 212 + 1 = 213) ?_
      refine own_iload X25 hx (hb hby at_213) (v := pf) rfl (rfl : 213 + 2 = 215) ?_
      refine own_iconst X25 hx (hb hby at_215) (2 : Int32) (by first | rfl | decide) (rfl : 215 + 1 = 216) ?_
      refine own_iushr X25 hx (hb hby at_216) (rfl : 216 + 1 = 217) ?_
      refine own_i2l X25 hx (hb hby at_217) (rfl : 217 + 1 = 218) ?_
      refine own_lload X25 hx (hb hby at_218) (v := (1 : Int64)) rfl (rfl : 218 + 2 = 220) ?_
      refine own_lrem X25 hx (hb hby at_220) (by decide) (rfl : 220 + 1 = 221) ?_
      refine own_ladd X25 hx (hb hby at_221) (rfl : 221 + 1 = 222) ?_
      refine own_lstore X25 hx (hb hby at_222) (l' := #[.val (.long qx), .second, .val (.long qy), .second, .val (.int pf), .val (.int (0 : Int32)), .val (.int (1 : Int32)), .val (.ref oa), .val (.ref ob), .val (.ref oc), .val (.long (1 : Int64)), .second, .val (.long (0 : Int64)), .second, .val (.long (own_lmax qy (0 : Int64))), .second, .val (.long ((1 : Int64) + ((((pf.toUInt32 >>> ((2 : Int32) &&& 31).toUInt32).toInt32).toInt64) % (1 : Int64)))), .second]) rfl (rfl : 222 + 2 = 224) ?_
      obtain ⟨kv, hkv⟩ : ∃ z : Int64, z = ((1 : Int64) + ((((pf.toUInt32 >>> ((2 : Int32) &&& 31).toUInt32).toInt32).toInt64) % (1 : Int64))) := ⟨_, rfl⟩
      rw [← hkv]
      show own_W p e (FrameEnd s) below room_1.cells room_1.slots (Q0 Z qx qy pf h0 n0) T25 (mkF m 224 #[.val (.long qx), .second, .val (.long qy), .second, .val (.int pf), .val (.int (0 : Int32)), .val (.int (1 : Int32)), .val (.ref oa), .val (.ref ob), .val (.ref oc), .val (.long (1 : Int64)), .second, .val (.long (0 : Int64)), .second, .val (.long (own_lmax qy (0 : Int64))), .second, .val (.long kv), .second] [])
      have hk := own_kv1 pf hkv
      refine own_aload X25 hx (hb hby at_224) (v := (.ref oa)) rfl rfl (rfl : 224 + 2 = 226) ?_
      refine own_lload X25 hx (hb hby at_226) (v := kv) rfl (rfl : 226 + 2 = 228) ?_
      refine own_lload X25 hx (hb hby at_228) (v := (1 : Int64)) rfl (rfl : 228 + 2 = 230) ?_
      obtain ⟨cq26, kq26, q26a, q26b, q26c⟩ := isOf hZ e25 fq20_0
      obtain ⟨_, _, ⟨T26, L26, k26, n26⟩, -, X26, ⟨Lc26, hQ26, l26, y26, z26⟩, st26⟩ := X25.virtualBack hx (y := (⟨"com/example/flipside/flipside/tool/LatencyHistogram", "percentile", "(JJ)J"⟩ : MethodName)) (z := (⟨"com/example/flipside/flipside/tool/LatencyHistogram", "percentile", "(JJ)J"⟩ : MethodName)) hown (mvT hZ (hw _ (List.mem_of_getElem? (i := 45) rfl))) (mvT hZ (hw _ (List.mem_of_getElem? (i := 46) rfl))) (notFace_of_selects (args := #[]) (mvT hZ (hw _ (List.mem_of_getElem? (i := 48) rfl)))) (mvT hZ (hw _ (List.mem_of_getElem? (i := 48) rfl))) (mvT hZ (hw _ (List.mem_of_getElem? (i := 47) rfl))) (by decide) (backOf (W := 0) (rm9 l Z a0 hw [] oa kv (1 : Int64) ab13 ((0 : Int64) + ((0 : Int64) + (1 : Int64))) (own_lmax (0 : Int64) (own_rm (0 : Int64) qy)) (own_rec own_k0L qy) T20.heap n0 z20c fq20_1 fq20_2 fq20_3 AO (by decide) (by decide) (by rw [hk]; decide) (by rw [hk]; decide) (by decide) (own_fin1 _ hk (by decide))) hZ (hw _ (List.mem_of_getElem? (i := 49) rfl)) (hw _ (List.mem_of_getElem? (i := 2) rfl)) (by decide) (by decide)) q26a q26c (g := (mkF m 230 #[.val (.long qx), .second, .val (.long qy), .second, .val (.int pf), .val (.int (0 : Int32)), .val (.int (1 : Int32)), .val (.ref oa), .val (.ref ob), .val (.ref oc), .val (.long (1 : Int64)), .second, .val (.long (0 : Int64)), .second, .val (.long (own_lmax qy (0 : Int64))), .second, .val (.long kv), .second] [(.long (1 : Int64)), (.long kv), (.ref oa)])) rfl (by rw [hml]; rfl) (Steps.refl _) (argsL := [(.long kv), (.long (1 : Int64))]) (rest := []) (lenOf own_pd__JJ_J rfl) rfl (by show 2 * 0 + _ ≤ _; exact Nat.le_of_eq rfl) (hb hby at_230) (fun _ _ => ⟨rfl, e25, (by decide : 6 + 0 ≤ _), (by decide : 84489 + 0 ≤ _)⟩)
      dsimp only [Pt.U, Pt.locs, Pt.cells, Pt.slots] at X26 l26 y26 z26 st26 hQ26
      subst l26 y26 z26
      obtain ⟨rfl, N26q, K26⟩ := hQ26
      have N26 := Fr.app N25 N26q
      have f26_E_oa : Exa Z T26.heap oa "com/example/flipside/flipside/tool/LatencyHistogram" := fq20_0.keep K26
      have f26_E_ob : Exa Z T26.heap ob "com/example/flipside/flipside/tool/LatencyHistogram" := f20_E_ob.keep K26
      have f26_E_oc : Exa Z T26.heap oc "com/example/flipside/flipside/tool/LatencyHistogram" := f20_E_oc.keep K26
      have f26_F_ob_counts : Fld Z T26.heap ob "com/example/flipside/flipside/tool/LatencyHistogram" "counts" "[J" (.ref ab15) := f20_F_ob_counts.keep K26 nin0
      have f26_F_ob_count : Fld Z T26.heap ob "com/example/flipside/flipside/tool/LatencyHistogram" "count" "J" (.long ((0 : Int64) + (1 : Int64))) := f20_F_ob_count.keep K26 nin0
      have f26_F_ob_max : Fld Z T26.heap ob "com/example/flipside/flipside/tool/LatencyHistogram" "max" "J" (.long (own_rm (0 : Int64) qy)) := f20_F_ob_max.keep K26 nin0
      have f26_A_ab15 : own_A Z T26.heap ab15 .long (28160) (fun z => .long (own_rec own_k0L qy z)) := f20_A_ab15.keep K26 nin0
      have f26_F_oc_counts : Fld Z T26.heap oc "com/example/flipside/flipside/tool/LatencyHistogram" "counts" "[J" (.ref ab17) := f20_F_oc_counts.keep K26 nin0
      have f26_F_oc_count : Fld Z T26.heap oc "com/example/flipside/flipside/tool/LatencyHistogram" "count" "J" (.long ((0 : Int64) + (1 : Int64))) := f20_F_oc_count.keep K26 nin0
      have f26_F_oc_max : Fld Z T26.heap oc "com/example/flipside/flipside/tool/LatencyHistogram" "max" "J" (.long (own_rm (0 : Int64) qy)) := f20_F_oc_max.keep K26 nin0
      have f26_A_ab17 : own_A Z T26.heap ab17 .long (28160) (fun z => .long (own_rec own_k0L qy z)) := f20_A_ab17.keep K26 nin0
      have f26_F_oa_counts : Fld Z T26.heap oa "com/example/flipside/flipside/tool/LatencyHistogram" "counts" "[J" (.ref ab13) := fq20_1.keep K26 nin0
      have f26_F_oa_count : Fld Z T26.heap oa "com/example/flipside/flipside/tool/LatencyHistogram" "count" "J" (.long ((0 : Int64) + ((0 : Int64) + (1 : Int64)))) := fq20_2.keep K26 nin0
      have f26_F_oa_max : Fld Z T26.heap oa "com/example/flipside/flipside/tool/LatencyHistogram" "max" "J" (.long (own_lmax (0 : Int64) (own_rm (0 : Int64) qy))) := fq20_3.keep K26 nin0
      have f26_A_ab13 : own_A Z T26.heap ab13 .long (28160) (fun z => .long (own_rec own_k0L qy z)) := AO.keep K26 nin0
      have z26c : n0 ≤ T26.heap.size := Nat.le_trans z20c K26.1
      refine own_W.steps st26 ?_
      show own_W p e (FrameEnd s) below room_1.cells room_1.slots (Q0 Z qx qy pf h0 n0) T26 (mkF m 233 #[.val (.long qx), .second, .val (.long qy), .second, .val (.int pf), .val (.int (0 : Int32)), .val (.int (1 : Int32)), .val (.ref oa), .val (.ref ob), .val (.ref oc), .val (.long (1 : Int64)), .second, .val (.long (0 : Int64)), .second, .val (.long (own_lmax qy (0 : Int64))), .second, .val (.long kv), .second] [(.long (own_pct (own_rec own_k0L qy) (own_rank ((0 : Int64) + ((0 : Int64) + (1 : Int64))) (1 : Int64) kv) (own_lmax (0 : Int64) (own_rm (0 : Int64) qy)) 28160 0 (0 : Int64)))])
      refine own_aload X26 hx (hb hby at_233) (v := (.ref oc)) rfl rfl (rfl : 233 + 2 = 235) ?_
      refine own_lload X26 hx (hb hby at_235) (v := kv) rfl (rfl : 235 + 2 = 237) ?_
      refine own_lload X26 hx (hb hby at_237) (v := (1 : Int64)) rfl (rfl : 237 + 2 = 239) ?_
      obtain ⟨cq27, kq27, q27a, q27b, q27c⟩ := isOf hZ rfl f26_E_oc
      obtain ⟨_, _, ⟨T27, L27, k27, n27⟩, -, X27, ⟨Lc27, hQ27, l27, y27, z27⟩, st27⟩ := X26.virtualBack hx (y := (⟨"com/example/flipside/flipside/tool/LatencyHistogram", "percentile", "(JJ)J"⟩ : MethodName)) (z := (⟨"com/example/flipside/flipside/tool/LatencyHistogram", "percentile", "(JJ)J"⟩ : MethodName)) hown (mvT hZ (hw _ (List.mem_of_getElem? (i := 45) rfl))) (mvT hZ (hw _ (List.mem_of_getElem? (i := 46) rfl))) (notFace_of_selects (args := #[]) (mvT hZ (hw _ (List.mem_of_getElem? (i := 48) rfl)))) (mvT hZ (hw _ (List.mem_of_getElem? (i := 48) rfl))) (mvT hZ (hw _ (List.mem_of_getElem? (i := 47) rfl))) (by decide) (backOf (W := 2) (rm9 l Z a0 hw [] oc kv (1 : Int64) ab17 ((0 : Int64) + (1 : Int64)) (own_rm (0 : Int64) qy) (own_rec own_k0L qy) T26.heap n0 z26c f26_F_oc_counts f26_F_oc_count f26_F_oc_max f26_A_ab17 (by decide) (by decide) (by rw [hk]; decide) (by rw [hk]; decide) (by decide) (own_fin1 _ hk (by decide))) hZ (hw _ (List.mem_of_getElem? (i := 49) rfl)) (hw _ (List.mem_of_getElem? (i := 2) rfl)) (by decide) (by decide)) q27a q27c (g := (mkF m 239 #[.val (.long qx), .second, .val (.long qy), .second, .val (.int pf), .val (.int (0 : Int32)), .val (.int (1 : Int32)), .val (.ref oa), .val (.ref ob), .val (.ref oc), .val (.long (1 : Int64)), .second, .val (.long (0 : Int64)), .second, .val (.long (own_lmax qy (0 : Int64))), .second, .val (.long kv), .second] [(.long (1 : Int64)), (.long kv), (.ref oc), (.long (own_pct (own_rec own_k0L qy) (own_rank ((0 : Int64) + ((0 : Int64) + (1 : Int64))) (1 : Int64) kv) (own_lmax (0 : Int64) (own_rm (0 : Int64) qy)) 28160 0 (0 : Int64)))])) rfl (by rw [hml]; rfl) (Steps.refl _) (argsL := [(.long kv), (.long (1 : Int64))]) (rest := [(.long (own_pct (own_rec own_k0L qy) (own_rank ((0 : Int64) + ((0 : Int64) + (1 : Int64))) (1 : Int64) kv) (own_lmax (0 : Int64) (own_rm (0 : Int64) qy)) 28160 0 (0 : Int64)))]) (lenOf own_pd__JJ_J rfl) rfl (by show 2 * 0 + _ ≤ _; exact Nat.le_of_eq rfl) (hb hby at_239) (fun _ _ => ⟨rfl, rfl, (by decide : 6 + 0 ≤ _), (by decide : 84489 + 0 ≤ _)⟩)
      dsimp only [Pt.U, Pt.locs, Pt.cells, Pt.slots] at X27 l27 y27 z27 st27 hQ27
      subst l27 y27 z27
      obtain ⟨rfl, N27q, K27⟩ := hQ27
      have N27 := Fr.app N26 N27q
      have f27_E_oa : Exa Z T27.heap oa "com/example/flipside/flipside/tool/LatencyHistogram" := f26_E_oa.keep K27
      have f27_E_ob : Exa Z T27.heap ob "com/example/flipside/flipside/tool/LatencyHistogram" := f26_E_ob.keep K27
      have f27_E_oc : Exa Z T27.heap oc "com/example/flipside/flipside/tool/LatencyHistogram" := f26_E_oc.keep K27
      have f27_F_ob_counts : Fld Z T27.heap ob "com/example/flipside/flipside/tool/LatencyHistogram" "counts" "[J" (.ref ab15) := f26_F_ob_counts.keep K27 nin0
      have f27_F_ob_count : Fld Z T27.heap ob "com/example/flipside/flipside/tool/LatencyHistogram" "count" "J" (.long ((0 : Int64) + (1 : Int64))) := f26_F_ob_count.keep K27 nin0
      have f27_F_ob_max : Fld Z T27.heap ob "com/example/flipside/flipside/tool/LatencyHistogram" "max" "J" (.long (own_rm (0 : Int64) qy)) := f26_F_ob_max.keep K27 nin0
      have f27_A_ab15 : own_A Z T27.heap ab15 .long (28160) (fun z => .long (own_rec own_k0L qy z)) := f26_A_ab15.keep K27 nin0
      have f27_F_oc_counts : Fld Z T27.heap oc "com/example/flipside/flipside/tool/LatencyHistogram" "counts" "[J" (.ref ab17) := f26_F_oc_counts.keep K27 nin0
      have f27_F_oc_count : Fld Z T27.heap oc "com/example/flipside/flipside/tool/LatencyHistogram" "count" "J" (.long ((0 : Int64) + (1 : Int64))) := f26_F_oc_count.keep K27 nin0
      have f27_F_oc_max : Fld Z T27.heap oc "com/example/flipside/flipside/tool/LatencyHistogram" "max" "J" (.long (own_rm (0 : Int64) qy)) := f26_F_oc_max.keep K27 nin0
      have f27_A_ab17 : own_A Z T27.heap ab17 .long (28160) (fun z => .long (own_rec own_k0L qy z)) := f26_A_ab17.keep K27 nin0
      have f27_F_oa_counts : Fld Z T27.heap oa "com/example/flipside/flipside/tool/LatencyHistogram" "counts" "[J" (.ref ab13) := f26_F_oa_counts.keep K27 nin0
      have f27_F_oa_count : Fld Z T27.heap oa "com/example/flipside/flipside/tool/LatencyHistogram" "count" "J" (.long ((0 : Int64) + ((0 : Int64) + (1 : Int64)))) := f26_F_oa_count.keep K27 nin0
      have f27_F_oa_max : Fld Z T27.heap oa "com/example/flipside/flipside/tool/LatencyHistogram" "max" "J" (.long (own_lmax (0 : Int64) (own_rm (0 : Int64) qy))) := f26_F_oa_max.keep K27 nin0
      have f27_A_ab13 : own_A Z T27.heap ab13 .long (28160) (fun z => .long (own_rec own_k0L qy z)) := f26_A_ab13.keep K27 nin0
      have z27c : n0 ≤ T27.heap.size := Nat.le_trans z26c K27.1
      refine own_W.steps st27 ?_
      show own_W p e (FrameEnd s) below room_1.cells room_1.slots (Q0 Z qx qy pf h0 n0) T27 (mkF m 242 #[.val (.long qx), .second, .val (.long qy), .second, .val (.int pf), .val (.int (0 : Int32)), .val (.int (1 : Int32)), .val (.ref oa), .val (.ref ob), .val (.ref oc), .val (.long (1 : Int64)), .second, .val (.long (0 : Int64)), .second, .val (.long (own_lmax qy (0 : Int64))), .second, .val (.long kv), .second] [(.long (own_pct (own_rec own_k0L qy) (own_rank ((0 : Int64) + (1 : Int64)) (1 : Int64) kv) (own_rm (0 : Int64) qy) 28160 0 (0 : Int64))), (.long (own_pct (own_rec own_k0L qy) (own_rank ((0 : Int64) + ((0 : Int64) + (1 : Int64))) (1 : Int64) kv) (own_lmax (0 : Int64) (own_rm (0 : Int64) qy)) 28160 0 (0 : Int64)))])
      refine own_lcmp X27 hx (hb hby at_242) (rfl : 242 + 1 = 243) ?_
      have hc243 : (own_pct (own_rec own_k0L qy) (own_rank ((0 : Int64) + ((0 : Int64) + (1 : Int64))) (1 : Int64) kv) (own_lmax (0 : Int64) (own_rm (0 : Int64) qy)) 28160 0 (0 : Int64)) = (own_pct (own_rec own_k0L qy) (own_rank ((0 : Int64) + (1 : Int64)) (1 : Int64) kv) (own_rm (0 : Int64) qy) 28160 0 (0 : Int64)) := by rw [show ((0 : Int64) + ((0 : Int64) + (1 : Int64))) = ((0 : Int64) + (1 : Int64)) from by decide, own_rme]
      refine own_ifNo X27 hx (hb hby at_243) (XT.ll_ne_f hc243) (rfl : 243 + 3 = 246) ?_
      refine own_iconst X27 hx (hb hby at_246) (1 : Int32) (by first | rfl | decide) (rfl : 246 + 1 = 247) ?_
      refine own_goto X27 hx (hb hby at_247) (pc' := 251) (by decide) (by decide) ?_
      refine own_retN (t := .boolean) X27 hx hlk hret (by simp) (hb hby at_251) (z' := (1 : Int32)) (by decide) (by decide) (by decide) ?_
      show Q0 Z qx qy pf h0 n0 (some (.int (1 : Int32))) T27.heap _
      skip
      exact ⟨rfl, N27⟩
  · skip
    refine own_ifNo X0 hx (hb hby at_4) ((if0 _ _).trans (feq hc4).1) (rfl : 4 + 3 = 7) ?_
    refine own_iconst X0 hx (hb hby at_7) (1 : Int32) (by first | rfl | decide) (rfl : 7 + 1 = 8) ?_
    refine own_goto X0 hx (hb hby at_8) (pc' := 12) (by decide) (by decide) ?_
    refine own_istore X0 hx (hb hby at_12) (l' := #[.val (.long qx), .second, .val (.long qy), .second, .val (.int pf), .val (.int (1 : Int32)), .unset, .unset, .unset, .unset, .unset, .unset, .unset, .unset, .unset, .unset, .unset, .unset]) rfl (rfl : 12 + 2 = 14) ?_
    refine own_iload X0 hx (hb hby at_14) (v := pf) rfl (rfl : 14 + 2 = 16) ?_
    refine own_iconst X0 hx (hb hby at_16) (2 : Int32) (by first | rfl | decide) (rfl : 16 + 1 = 17) ?_
    refine own_iand X0 hx (hb hby at_17) (rfl : 17 + 1 = 18) ?_
    by_cases hc18 : (pf &&& (2 : Int32)) = (0 : Int32)
    · skip
      refine own_ifYes X0 hx (hb hby at_18) ((if0 _ _).trans (teq hc18).1) (pc' := 25) (by decide) (by decide) ?_
      refine own_iconst X0 hx (hb hby at_25) (0 : Int32) (by first | rfl | decide) (rfl : 25 + 1 = 26) ?_
      refine own_istore X0 hx (hb hby at_26) (l' := #[.val (.long qx), .second, .val (.long qy), .second, .val (.int pf), .val (.int (1 : Int32)), .val (.int (0 : Int32)), .unset, .unset, .unset, .unset, .unset, .unset, .unset, .unset, .unset, .unset, .unset]) rfl (rfl : 26 + 2 = 28) ?_
      obtain ⟨T28, h28, X28, e28, E28, A28, D28, -, st28⟩ := newO X0 hx hZ hown (hw _ (List.mem_of_getElem? (i := 0) rfl)) (hw _ (List.mem_of_getElem? (i := 1) rfl)) (hw _ (List.mem_of_getElem? (i := 2) rfl)) e0 (g := (mkF m 28 #[.val (.long qx), .second, .val (.long qy), .second, .val (.int pf), .val (.int (1 : Int32)), .val (.int (0 : Int32)), .unset, .unset, .unset, .unset, .unset, .unset, .unset, .unset, .unset, .unset, .unset] [])) rfl (hb hby at_28) (by decide) (by decide)
      obtain ⟨oa, g28⟩ : ∃ z, z = h0.size := ⟨_, rfl⟩
      rw [← g28] at A28 D28 st28
      refine own_W.step st28 ?_
      have g_oa : n0 ≤ oa := Nat.le_trans Z0 (Nat.le_of_eq g28.symm)
      have z28 : n0 ≤ h28.size := Nat.le_trans Z0 E28.1
      have F28_counts : Fld Z h28 oa "com/example/flipside/flipside/tool/LatencyHistogram" "counts" "[J" .null := D28 (Or.inr (hw _ (List.mem_of_getElem? (i := 11) rfl))) (ty := (.array .long)) (by decide)
      have F28_count : Fld Z h28 oa "com/example/flipside/flipside/tool/LatencyHistogram" "count" "J" (.long (0 : Int64)) := D28 (Or.inl (hw _ (List.mem_of_getElem? (i := 18) rfl))) (ty := .long) (by decide)
      have F28_max : Fld Z h28 oa "com/example/flipside/flipside/tool/LatencyHistogram" "max" "J" (.long (0 : Int64)) := D28 (Or.inl (hw _ (List.mem_of_getElem? (i := 20) rfl))) (ty := .long) (by decide)
      show own_W p e (FrameEnd s) below room_1.cells room_1.slots (Q0 Z qx qy pf h0 n0) T28 (mkF m 31 #[.val (.long qx), .second, .val (.long qy), .second, .val (.int pf), .val (.int (1 : Int32)), .val (.int (0 : Int32)), .unset, .unset, .unset, .unset, .unset, .unset, .unset, .unset, .unset, .unset, .unset] [(.ref oa)])
      refine own_dup X28 hx (hb hby at_31) rfl (rfl : 31 + 1 = 32) ?_
      obtain ⟨_, _, ⟨T29, L29, k29, n29⟩, -, X29, ⟨Lc29, hQ29, l29, y29, z29⟩, st29⟩ := X28.specialBack hx (y := (⟨"com/example/flipside/flipside/tool/LatencyHistogram", "<init>", "()V"⟩ : MethodName)) rfl hown (mvT hZ (hw _ (List.mem_of_getElem? (i := 3) rfl))) (mvT hZ (hw _ (List.mem_of_getElem? (i := 4) rfl))) (mvT hZ (hw _ (List.mem_of_getElem? (i := 5) rfl))) (by decide) (backOf (W := 1) (rm1 l Z a0 hw [] oa  h28 n0 z28 A28 F28_counts F28_count F28_max g_oa) hZ (hw _ (List.mem_of_getElem? (i := 5) rfl)) (hw _ (List.mem_of_getElem? (i := 2) rfl)) (by decide) (by decide)) (g := (mkF m 32 #[.val (.long qx), .second, .val (.long qy), .second, .val (.int pf), .val (.int (1 : Int32)), .val (.int (0 : Int32)), .unset, .unset, .unset, .unset, .unset, .unset, .unset, .unset, .unset, .unset, .unset] [(.ref oa), (.ref oa)])) rfl (by rw [hml]; rfl) (Steps.refl _) (a := oa) (argsL := []) (rest := [(.ref oa)]) (lenOf own_pd___V rfl) rfl (by show 2 * 0 + _ ≤ _; exact Nat.le_of_eq rfl) (hb hby at_32) (fun _ _ => ⟨rfl, e28, (by decide : 1 + 1 ≤ _), (by decide : 3 + 28160 ≤ _)⟩)
      dsimp only [Pt.U, Pt.locs, Pt.cells, Pt.slots] at X29 l29 y29 z29 st29 hQ29
      subst l29 y29 z29
      obtain ⟨ab29, rfl, N29q, K29, sz29_ab, fq29_0, fq29_1, fq29_2, fq29_3, fq29_4⟩ := hQ29
      have N29 := Fr.app N0 N29q
      have ne_oa_ab29 : oa ≠ ab29 := Nat.ne_of_lt (Nat.lt_of_lt_of_le A28.lt sz29_ab)
      have g_ab29 : n0 ≤ ab29 := Nat.le_trans z28 sz29_ab
      have f29_E_oa : Exa Z T29.heap oa "com/example/flipside/flipside/tool/LatencyHistogram" := A28.keep K29
      have z29c : n0 ≤ T29.heap.size := Nat.le_trans z28 K29.1
      refine own_W.steps st29 ?_
      show own_W p e (FrameEnd s) below room_1.cells room_1.slots (Q0 Z qx qy pf h0 n0) T29 (mkF m 35 #[.val (.long qx), .second, .val (.long qy), .second, .val (.int pf), .val (.int (1 : Int32)), .val (.int (0 : Int32)), .unset, .unset, .unset, .unset, .unset, .unset, .unset, .unset, .unset, .unset, .unset] [(.ref oa)])
      refine own_astore X29 hx (hb hby at_35) (l' := #[.val (.long qx), .second, .val (.long qy), .second, .val (.int pf), .val (.int (1 : Int32)), .val (.int (0 : Int32)), .val (.ref oa), .unset, .unset, .unset, .unset, .unset, .unset, .unset, .unset, .unset, .unset]) rfl rfl (rfl : 35 + 2 = 37) ?_
      obtain ⟨T30, h30, X30, e30, E30, A30, D30, -, st30⟩ := newO X29 hx hZ hown (hw _ (List.mem_of_getElem? (i := 0) rfl)) (hw _ (List.mem_of_getElem? (i := 1) rfl)) (hw _ (List.mem_of_getElem? (i := 2) rfl)) rfl (g := (mkF m 37 #[.val (.long qx), .second, .val (.long qy), .second, .val (.int pf), .val (.int (1 : Int32)), .val (.int (0 : Int32)), .val (.ref oa), .unset, .unset, .unset, .unset, .unset, .unset, .unset, .unset, .unset, .unset] [])) rfl (hb hby at_37) (by decide) (by decide)
      obtain ⟨ob, g30⟩ : ∃ z, z = T29.heap.size := ⟨_, rfl⟩
      rw [← g30] at A30 D30 st30
      refine own_W.step st30 ?_
      have ne_oa_ob : oa ≠ ob := Nat.ne_of_lt (Nat.lt_of_lt_of_le fq29_0.lt (Nat.le_of_eq g30.symm))
      have ne_ab29_ob : ab29 ≠ ob := Nat.ne_of_lt (Nat.lt_of_lt_of_le fq29_4.lt (Nat.le_of_eq g30.symm))
      have g_ob : n0 ≤ ob := Nat.le_trans z29c (Nat.le_of_eq g30.symm)
      have f30_E_oa : Exa Z h30 oa "com/example/flipside/flipside/tool/LatencyHistogram" := fq29_0.ext E30
      have f30_F_oa_counts : Fld Z h30 oa "com/example/flipside/flipside/tool/LatencyHistogram" "counts" "[J" (.ref ab29) := fq29_1.ext E30
      have f30_F_oa_count : Fld Z h30 oa "com/example/flipside/flipside/tool/LatencyHistogram" "count" "J" (.long (0 : Int64)) := fq29_2.ext E30
      have f30_F_oa_max : Fld Z h30 oa "com/example/flipside/flipside/tool/LatencyHistogram" "max" "J" (.long (0 : Int64)) := fq29_3.ext E30
      have f30_A_ab29 : own_A Z h30 ab29 .long (28160) (fun z => .long (own_k0L z)) := fq29_4.ext E30
      have z30 : n0 ≤ h30.size := Nat.le_trans z29c E30.1
      have F30_counts : Fld Z h30 ob "com/example/flipside/flipside/tool/LatencyHistogram" "counts" "[J" .null := D30 (Or.inr (hw _ (List.mem_of_getElem? (i := 11) rfl))) (ty := (.array .long)) (by decide)
      have F30_count : Fld Z h30 ob "com/example/flipside/flipside/tool/LatencyHistogram" "count" "J" (.long (0 : Int64)) := D30 (Or.inl (hw _ (List.mem_of_getElem? (i := 18) rfl))) (ty := .long) (by decide)
      have F30_max : Fld Z h30 ob "com/example/flipside/flipside/tool/LatencyHistogram" "max" "J" (.long (0 : Int64)) := D30 (Or.inl (hw _ (List.mem_of_getElem? (i := 20) rfl))) (ty := .long) (by decide)
      show own_W p e (FrameEnd s) below room_1.cells room_1.slots (Q0 Z qx qy pf h0 n0) T30 (mkF m 40 #[.val (.long qx), .second, .val (.long qy), .second, .val (.int pf), .val (.int (1 : Int32)), .val (.int (0 : Int32)), .val (.ref oa), .unset, .unset, .unset, .unset, .unset, .unset, .unset, .unset, .unset, .unset] [(.ref ob)])
      refine own_dup X30 hx (hb hby at_40) rfl (rfl : 40 + 1 = 41) ?_
      obtain ⟨_, _, ⟨T31, L31, k31, n31⟩, -, X31, ⟨Lc31, hQ31, l31, y31, z31⟩, st31⟩ := X30.specialBack hx (y := (⟨"com/example/flipside/flipside/tool/LatencyHistogram", "<init>", "()V"⟩ : MethodName)) rfl hown (mvT hZ (hw _ (List.mem_of_getElem? (i := 3) rfl))) (mvT hZ (hw _ (List.mem_of_getElem? (i := 4) rfl))) (mvT hZ (hw _ (List.mem_of_getElem? (i := 5) rfl))) (by decide) (backOf (W := 1) (rm1 l Z a0 hw [] ob  h30 n0 z30 A30 F30_counts F30_count F30_max g_ob) hZ (hw _ (List.mem_of_getElem? (i := 5) rfl)) (hw _ (List.mem_of_getElem? (i := 2) rfl)) (by decide) (by decide)) (g := (mkF m 41 #[.val (.long qx), .second, .val (.long qy), .second, .val (.int pf), .val (.int (1 : Int32)), .val (.int (0 : Int32)), .val (.ref oa), .unset, .unset, .unset, .unset, .unset, .unset, .unset, .unset, .unset, .unset] [(.ref ob), (.ref ob)])) rfl (by rw [hml]; rfl) (Steps.refl _) (a := ob) (argsL := []) (rest := [(.ref ob)]) (lenOf own_pd___V rfl) rfl (by show 2 * 0 + _ ≤ _; exact Nat.le_of_eq rfl) (hb hby at_41) (fun _ _ => ⟨rfl, e30, (by decide : 3 + 1 ≤ _), (by decide : 28166 + 28160 ≤ _)⟩)
      dsimp only [Pt.U, Pt.locs, Pt.cells, Pt.slots] at X31 l31 y31 z31 st31 hQ31
      subst l31 y31 z31
      obtain ⟨ab31, rfl, N31q, K31, sz31_ab, fq31_0, fq31_1, fq31_2, fq31_3, fq31_4⟩ := hQ31
      have N31 := Fr.app N29 N31q
      have ne_oa_ab31 : oa ≠ ab31 := Nat.ne_of_lt (Nat.lt_of_lt_of_le f30_E_oa.lt sz31_ab)
      have ne_ab29_ab31 : ab29 ≠ ab31 := Nat.ne_of_lt (Nat.lt_of_lt_of_le f30_A_ab29.lt sz31_ab)
      have ne_ob_ab31 : ob ≠ ab31 := Nat.ne_of_lt (Nat.lt_of_lt_of_le A30.lt sz31_ab)
      have g_ab31 : n0 ≤ ab31 := Nat.le_trans z30 sz31_ab
      have f31_E_oa : Exa Z T31.heap oa "com/example/flipside/flipside/tool/LatencyHistogram" := f30_E_oa.keep K31
      have f31_F_oa_counts : Fld Z T31.heap oa "com/example/flipside/flipside/tool/LatencyHistogram" "counts" "[J" (.ref ab29) := f30_F_oa_counts.keep K31 (ninS ne_oa_ob nin0)
      have f31_F_oa_count : Fld Z T31.heap oa "com/example/flipside/flipside/tool/LatencyHistogram" "count" "J" (.long (0 : Int64)) := f30_F_oa_count.keep K31 (ninS ne_oa_ob nin0)
      have f31_F_oa_max : Fld Z T31.heap oa "com/example/flipside/flipside/tool/LatencyHistogram" "max" "J" (.long (0 : Int64)) := f30_F_oa_max.keep K31 (ninS ne_oa_ob nin0)
      have f31_A_ab29 : own_A Z T31.heap ab29 .long (28160) (fun z => .long (own_k0L z)) := f30_A_ab29.keep K31 (ninS ne_ab29_ob nin0)
      have f31_E_ob : Exa Z T31.heap ob "com/example/flipside/flipside/tool/LatencyHistogram" := A30.keep K31
      have z31c : n0 ≤ T31.heap.size := Nat.le_trans z30 K31.1
      refine own_W.steps st31 ?_
      show own_W p e (FrameEnd s) below room_1.cells room_1.slots (Q0 Z qx qy pf h0 n0) T31 (mkF m 44 #[.val (.long qx), .second, .val (.long qy), .second, .val (.int pf), .val (.int (1 : Int32)), .val (.int (0 : Int32)), .val (.ref oa), .unset, .unset, .unset, .unset, .unset, .unset, .unset, .unset, .unset, .unset] [(.ref ob)])
      refine own_astore X31 hx (hb hby at_44) (l' := #[.val (.long qx), .second, .val (.long qy), .second, .val (.int pf), .val (.int (1 : Int32)), .val (.int (0 : Int32)), .val (.ref oa), .val (.ref ob), .unset, .unset, .unset, .unset, .unset, .unset, .unset, .unset, .unset]) rfl rfl (rfl : 44 + 2 = 46) ?_
      obtain ⟨T32, h32, X32, e32, E32, A32, D32, -, st32⟩ := newO X31 hx hZ hown (hw _ (List.mem_of_getElem? (i := 0) rfl)) (hw _ (List.mem_of_getElem? (i := 1) rfl)) (hw _ (List.mem_of_getElem? (i := 2) rfl)) rfl (g := (mkF m 46 #[.val (.long qx), .second, .val (.long qy), .second, .val (.int pf), .val (.int (1 : Int32)), .val (.int (0 : Int32)), .val (.ref oa), .val (.ref ob), .unset, .unset, .unset, .unset, .unset, .unset, .unset, .unset, .unset] [])) rfl (hb hby at_46) (by decide) (by decide)
      obtain ⟨oc, g32⟩ : ∃ z, z = T31.heap.size := ⟨_, rfl⟩
      rw [← g32] at A32 D32 st32
      refine own_W.step st32 ?_
      have ne_oa_oc : oa ≠ oc := Nat.ne_of_lt (Nat.lt_of_lt_of_le f31_E_oa.lt (Nat.le_of_eq g32.symm))
      have ne_ab29_oc : ab29 ≠ oc := Nat.ne_of_lt (Nat.lt_of_lt_of_le f31_A_ab29.lt (Nat.le_of_eq g32.symm))
      have ne_ob_oc : ob ≠ oc := Nat.ne_of_lt (Nat.lt_of_lt_of_le fq31_0.lt (Nat.le_of_eq g32.symm))
      have ne_ab31_oc : ab31 ≠ oc := Nat.ne_of_lt (Nat.lt_of_lt_of_le fq31_4.lt (Nat.le_of_eq g32.symm))
      have g_oc : n0 ≤ oc := Nat.le_trans z31c (Nat.le_of_eq g32.symm)
      have f32_E_oa : Exa Z h32 oa "com/example/flipside/flipside/tool/LatencyHistogram" := f31_E_oa.ext E32
      have f32_F_oa_counts : Fld Z h32 oa "com/example/flipside/flipside/tool/LatencyHistogram" "counts" "[J" (.ref ab29) := f31_F_oa_counts.ext E32
      have f32_F_oa_count : Fld Z h32 oa "com/example/flipside/flipside/tool/LatencyHistogram" "count" "J" (.long (0 : Int64)) := f31_F_oa_count.ext E32
      have f32_F_oa_max : Fld Z h32 oa "com/example/flipside/flipside/tool/LatencyHistogram" "max" "J" (.long (0 : Int64)) := f31_F_oa_max.ext E32
      have f32_A_ab29 : own_A Z h32 ab29 .long (28160) (fun z => .long (own_k0L z)) := f31_A_ab29.ext E32
      have f32_E_ob : Exa Z h32 ob "com/example/flipside/flipside/tool/LatencyHistogram" := fq31_0.ext E32
      have f32_F_ob_counts : Fld Z h32 ob "com/example/flipside/flipside/tool/LatencyHistogram" "counts" "[J" (.ref ab31) := fq31_1.ext E32
      have f32_F_ob_count : Fld Z h32 ob "com/example/flipside/flipside/tool/LatencyHistogram" "count" "J" (.long (0 : Int64)) := fq31_2.ext E32
      have f32_F_ob_max : Fld Z h32 ob "com/example/flipside/flipside/tool/LatencyHistogram" "max" "J" (.long (0 : Int64)) := fq31_3.ext E32
      have f32_A_ab31 : own_A Z h32 ab31 .long (28160) (fun z => .long (own_k0L z)) := fq31_4.ext E32
      have z32 : n0 ≤ h32.size := Nat.le_trans z31c E32.1
      have F32_counts : Fld Z h32 oc "com/example/flipside/flipside/tool/LatencyHistogram" "counts" "[J" .null := D32 (Or.inr (hw _ (List.mem_of_getElem? (i := 11) rfl))) (ty := (.array .long)) (by decide)
      have F32_count : Fld Z h32 oc "com/example/flipside/flipside/tool/LatencyHistogram" "count" "J" (.long (0 : Int64)) := D32 (Or.inl (hw _ (List.mem_of_getElem? (i := 18) rfl))) (ty := .long) (by decide)
      have F32_max : Fld Z h32 oc "com/example/flipside/flipside/tool/LatencyHistogram" "max" "J" (.long (0 : Int64)) := D32 (Or.inl (hw _ (List.mem_of_getElem? (i := 20) rfl))) (ty := .long) (by decide)
      show own_W p e (FrameEnd s) below room_1.cells room_1.slots (Q0 Z qx qy pf h0 n0) T32 (mkF m 49 #[.val (.long qx), .second, .val (.long qy), .second, .val (.int pf), .val (.int (1 : Int32)), .val (.int (0 : Int32)), .val (.ref oa), .val (.ref ob), .unset, .unset, .unset, .unset, .unset, .unset, .unset, .unset, .unset] [(.ref oc)])
      refine own_dup X32 hx (hb hby at_49) rfl (rfl : 49 + 1 = 50) ?_
      obtain ⟨_, _, ⟨T33, L33, k33, n33⟩, -, X33, ⟨Lc33, hQ33, l33, y33, z33⟩, st33⟩ := X32.specialBack hx (y := (⟨"com/example/flipside/flipside/tool/LatencyHistogram", "<init>", "()V"⟩ : MethodName)) rfl hown (mvT hZ (hw _ (List.mem_of_getElem? (i := 3) rfl))) (mvT hZ (hw _ (List.mem_of_getElem? (i := 4) rfl))) (mvT hZ (hw _ (List.mem_of_getElem? (i := 5) rfl))) (by decide) (backOf (W := 1) (rm1 l Z a0 hw [] oc  h32 n0 z32 A32 F32_counts F32_count F32_max g_oc) hZ (hw _ (List.mem_of_getElem? (i := 5) rfl)) (hw _ (List.mem_of_getElem? (i := 2) rfl)) (by decide) (by decide)) (g := (mkF m 50 #[.val (.long qx), .second, .val (.long qy), .second, .val (.int pf), .val (.int (1 : Int32)), .val (.int (0 : Int32)), .val (.ref oa), .val (.ref ob), .unset, .unset, .unset, .unset, .unset, .unset, .unset, .unset, .unset] [(.ref oc), (.ref oc)])) rfl (by rw [hml]; rfl) (Steps.refl _) (a := oc) (argsL := []) (rest := [(.ref oc)]) (lenOf own_pd___V rfl) rfl (by show 2 * 0 + _ ≤ _; exact Nat.le_of_eq rfl) (hb hby at_50) (fun _ _ => ⟨rfl, e32, (by decide : 5 + 1 ≤ _), (by decide : 56329 + 28160 ≤ _)⟩)
      dsimp only [Pt.U, Pt.locs, Pt.cells, Pt.slots] at X33 l33 y33 z33 st33 hQ33
      subst l33 y33 z33
      obtain ⟨ab33, rfl, N33q, K33, sz33_ab, fq33_0, fq33_1, fq33_2, fq33_3, fq33_4⟩ := hQ33
      have N33 := Fr.app N31 N33q
      have ne_oa_ab33 : oa ≠ ab33 := Nat.ne_of_lt (Nat.lt_of_lt_of_le f32_E_oa.lt sz33_ab)
      have ne_ab29_ab33 : ab29 ≠ ab33 := Nat.ne_of_lt (Nat.lt_of_lt_of_le f32_A_ab29.lt sz33_ab)
      have ne_ob_ab33 : ob ≠ ab33 := Nat.ne_of_lt (Nat.lt_of_lt_of_le f32_E_ob.lt sz33_ab)
      have ne_ab31_ab33 : ab31 ≠ ab33 := Nat.ne_of_lt (Nat.lt_of_lt_of_le f32_A_ab31.lt sz33_ab)
      have ne_oc_ab33 : oc ≠ ab33 := Nat.ne_of_lt (Nat.lt_of_lt_of_le A32.lt sz33_ab)
      have g_ab33 : n0 ≤ ab33 := Nat.le_trans z32 sz33_ab
      have f33_E_oa : Exa Z T33.heap oa "com/example/flipside/flipside/tool/LatencyHistogram" := f32_E_oa.keep K33
      have f33_F_oa_counts : Fld Z T33.heap oa "com/example/flipside/flipside/tool/LatencyHistogram" "counts" "[J" (.ref ab29) := f32_F_oa_counts.keep K33 (ninS ne_oa_oc nin0)
      have f33_F_oa_count : Fld Z T33.heap oa "com/example/flipside/flipside/tool/LatencyHistogram" "count" "J" (.long (0 : Int64)) := f32_F_oa_count.keep K33 (ninS ne_oa_oc nin0)
      have f33_F_oa_max : Fld Z T33.heap oa "com/example/flipside/flipside/tool/LatencyHistogram" "max" "J" (.long (0 : Int64)) := f32_F_oa_max.keep K33 (ninS ne_oa_oc nin0)
      have f33_A_ab29 : own_A Z T33.heap ab29 .long (28160) (fun z => .long (own_k0L z)) := f32_A_ab29.keep K33 (ninS ne_ab29_oc nin0)
      have f33_E_ob : Exa Z T33.heap ob "com/example/flipside/flipside/tool/LatencyHistogram" := f32_E_ob.keep K33
      have f33_F_ob_counts : Fld Z T33.heap ob "com/example/flipside/flipside/tool/LatencyHistogram" "counts" "[J" (.ref ab31) := f32_F_ob_counts.keep K33 (ninS ne_ob_oc nin0)
      have f33_F_ob_count : Fld Z T33.heap ob "com/example/flipside/flipside/tool/LatencyHistogram" "count" "J" (.long (0 : Int64)) := f32_F_ob_count.keep K33 (ninS ne_ob_oc nin0)
      have f33_F_ob_max : Fld Z T33.heap ob "com/example/flipside/flipside/tool/LatencyHistogram" "max" "J" (.long (0 : Int64)) := f32_F_ob_max.keep K33 (ninS ne_ob_oc nin0)
      have f33_A_ab31 : own_A Z T33.heap ab31 .long (28160) (fun z => .long (own_k0L z)) := f32_A_ab31.keep K33 (ninS ne_ab31_oc nin0)
      have f33_E_oc : Exa Z T33.heap oc "com/example/flipside/flipside/tool/LatencyHistogram" := A32.keep K33
      have z33c : n0 ≤ T33.heap.size := Nat.le_trans z32 K33.1
      refine own_W.steps st33 ?_
      show own_W p e (FrameEnd s) below room_1.cells room_1.slots (Q0 Z qx qy pf h0 n0) T33 (mkF m 53 #[.val (.long qx), .second, .val (.long qy), .second, .val (.int pf), .val (.int (1 : Int32)), .val (.int (0 : Int32)), .val (.ref oa), .val (.ref ob), .unset, .unset, .unset, .unset, .unset, .unset, .unset, .unset, .unset] [(.ref oc)])
      refine own_astore X33 hx (hb hby at_53) (l' := #[.val (.long qx), .second, .val (.long qy), .second, .val (.int pf), .val (.int (1 : Int32)), .val (.int (0 : Int32)), .val (.ref oa), .val (.ref ob), .val (.ref oc), .unset, .unset, .unset, .unset, .unset, .unset, .unset, .unset]) rfl rfl (rfl : 53 + 2 = 55) ?_
      refine own_iload X33 hx (hb hby at_55) (v := (1 : Int32)) rfl (rfl : 55 + 2 = 57) ?_
      have hc57 : ¬ ((1 : Int32) = (0 : Int32)) := by decide
      refine own_ifNo X33 hx (hb hby at_57) ((if0 _ _).trans (feq hc57).1) (rfl : 57 + 3 = 60) ?_
      refine own_aload X33 hx (hb hby at_60) (v := (.ref oa)) rfl rfl (rfl : 60 + 2 = 62) ?_
      refine own_lloadN X33 hx (hb hby at_62) (v := qx) rfl (rfl : 62 + 1 = 63) ?_
      obtain ⟨cq34, kq34, q34a, q34b, q34c⟩ := isOf hZ rfl f33_E_oa
      obtain ⟨_, _, ⟨T34, L34, k34, n34⟩, -, X34, ⟨Lc34, hQ34, l34, y34, z34⟩, st34⟩ := X33.virtualBack hx (y := (⟨"com/example/flipside/flipside/tool/LatencyHistogram", "record", "(J)V"⟩ : MethodName)) (z := (⟨"com/example/flipside/flipside/tool/LatencyHistogram", "record", "(J)V"⟩ : MethodName)) hown (mvT hZ (hw _ (List.mem_of_getElem? (i := 36) rfl))) (mvT hZ (hw _ (List.mem_of_getElem? (i := 37) rfl))) (notFace_of_selects (args := #[]) (mvT hZ (hw _ (List.mem_of_getElem? (i := 39) rfl)))) (mvT hZ (hw _ (List.mem_of_getElem? (i := 39) rfl))) (mvT hZ (hw _ (List.mem_of_getElem? (i := 38) rfl))) (by decide) (backOf (W := 0) (rm7 l Z a0 hw [] oa qx ab29 (0 : Int64) (0 : Int64) own_k0L T33.heap n0 z33c f33_E_oa f33_F_oa_counts f33_F_oa_count f33_F_oa_max f33_A_ab29 g_oa g_ab29 (ne_oa_ab29)) hZ (hw _ (List.mem_of_getElem? (i := 40) rfl)) (hw _ (List.mem_of_getElem? (i := 2) rfl)) (by decide) (by decide)) q34a q34c (g := (mkF m 63 #[.val (.long qx), .second, .val (.long qy), .second, .val (.int pf), .val (.int (1 : Int32)), .val (.int (0 : Int32)), .val (.ref oa), .val (.ref ob), .val (.ref oc), .unset, .unset, .unset, .unset, .unset, .unset, .unset, .unset] [(.long qx), (.ref oa)])) rfl (by rw [hml]; rfl) (Steps.refl _) (argsL := [(.long qx)]) (rest := []) (lenOf own_pd__J_V rfl) rfl (by show 2 * 0 + _ ≤ _; exact Nat.le_of_eq rfl) (hb hby at_63) (fun _ _ => ⟨rfl, rfl, (by decide : 6 + 0 ≤ _), (by decide : 84489 + 0 ≤ _)⟩)
      dsimp only [Pt.U, Pt.locs, Pt.cells, Pt.slots] at X34 l34 y34 z34 st34 hQ34
      subst l34 y34 z34
      obtain ⟨rfl, N34q, K34, fq34_0, fq34_1, fq34_2, fq34_3, fq34_4⟩ := hQ34
      have N34 := Fr.app N33 N34q
      have f34_E_oa : Exa Z T34.heap oa "com/example/flipside/flipside/tool/LatencyHistogram" := f33_E_oa.keep K34
      have f34_E_ob : Exa Z T34.heap ob "com/example/flipside/flipside/tool/LatencyHistogram" := f33_E_ob.keep K34
      have f34_F_ob_counts : Fld Z T34.heap ob "com/example/flipside/flipside/tool/LatencyHistogram" "counts" "[J" (.ref ab31) := f33_F_ob_counts.keep K34 (ninS (Ne.symm ne_oa_ob) (ninS (Ne.symm ne_ab29_ob) nin0))
      have f34_F_ob_count : Fld Z T34.heap ob "com/example/flipside/flipside/tool/LatencyHistogram" "count" "J" (.long (0 : Int64)) := f33_F_ob_count.keep K34 (ninS (Ne.symm ne_oa_ob) (ninS (Ne.symm ne_ab29_ob) nin0))
      have f34_F_ob_max : Fld Z T34.heap ob "com/example/flipside/flipside/tool/LatencyHistogram" "max" "J" (.long (0 : Int64)) := f33_F_ob_max.keep K34 (ninS (Ne.symm ne_oa_ob) (ninS (Ne.symm ne_ab29_ob) nin0))
      have f34_A_ab31 : own_A Z T34.heap ab31 .long (28160) (fun z => .long (own_k0L z)) := f33_A_ab31.keep K34 (ninS (Ne.symm ne_oa_ab31) (ninS (Ne.symm ne_ab29_ab31) nin0))
      have f34_E_oc : Exa Z T34.heap oc "com/example/flipside/flipside/tool/LatencyHistogram" := fq33_0.keep K34
      have f34_F_oc_counts : Fld Z T34.heap oc "com/example/flipside/flipside/tool/LatencyHistogram" "counts" "[J" (.ref ab33) := fq33_1.keep K34 (ninS (Ne.symm ne_oa_oc) (ninS (Ne.symm ne_ab29_oc) nin0))
      have f34_F_oc_count : Fld Z T34.heap oc "com/example/flipside/flipside/tool/LatencyHistogram" "count" "J" (.long (0 : Int64)) := fq33_2.keep K34 (ninS (Ne.symm ne_oa_oc) (ninS (Ne.symm ne_ab29_oc) nin0))
      have f34_F_oc_max : Fld Z T34.heap oc "com/example/flipside/flipside/tool/LatencyHistogram" "max" "J" (.long (0 : Int64)) := fq33_3.keep K34 (ninS (Ne.symm ne_oa_oc) (ninS (Ne.symm ne_ab29_oc) nin0))
      have f34_A_ab33 : own_A Z T34.heap ab33 .long (28160) (fun z => .long (own_k0L z)) := fq33_4.keep K34 (ninS (Ne.symm ne_oa_ab33) (ninS (Ne.symm ne_ab29_ab33) nin0))
      have z34c : n0 ≤ T34.heap.size := Nat.le_trans z33c K34.1
      refine own_W.steps st34 ?_
      show own_W p e (FrameEnd s) below room_1.cells room_1.slots (Q0 Z qx qy pf h0 n0) T34 (mkF m 66 #[.val (.long qx), .second, .val (.long qy), .second, .val (.int pf), .val (.int (1 : Int32)), .val (.int (0 : Int32)), .val (.ref oa), .val (.ref ob), .val (.ref oc), .unset, .unset, .unset, .unset, .unset, .unset, .unset, .unset] [])
      refine own_aload X34 hx (hb hby at_66) (v := (.ref oc)) rfl rfl (rfl : 66 + 2 = 68) ?_
      refine own_lloadN X34 hx (hb hby at_68) (v := qx) rfl (rfl : 68 + 1 = 69) ?_
      obtain ⟨cq35, kq35, q35a, q35b, q35c⟩ := isOf hZ rfl f34_E_oc
      obtain ⟨_, _, ⟨T35, L35, k35, n35⟩, -, X35, ⟨Lc35, hQ35, l35, y35, z35⟩, st35⟩ := X34.virtualBack hx (y := (⟨"com/example/flipside/flipside/tool/LatencyHistogram", "record", "(J)V"⟩ : MethodName)) (z := (⟨"com/example/flipside/flipside/tool/LatencyHistogram", "record", "(J)V"⟩ : MethodName)) hown (mvT hZ (hw _ (List.mem_of_getElem? (i := 36) rfl))) (mvT hZ (hw _ (List.mem_of_getElem? (i := 37) rfl))) (notFace_of_selects (args := #[]) (mvT hZ (hw _ (List.mem_of_getElem? (i := 39) rfl)))) (mvT hZ (hw _ (List.mem_of_getElem? (i := 39) rfl))) (mvT hZ (hw _ (List.mem_of_getElem? (i := 38) rfl))) (by decide) (backOf (W := 0) (rm7 l Z a0 hw [] oc qx ab33 (0 : Int64) (0 : Int64) own_k0L T34.heap n0 z34c f34_E_oc f34_F_oc_counts f34_F_oc_count f34_F_oc_max f34_A_ab33 g_oc g_ab33 (ne_oc_ab33)) hZ (hw _ (List.mem_of_getElem? (i := 40) rfl)) (hw _ (List.mem_of_getElem? (i := 2) rfl)) (by decide) (by decide)) q35a q35c (g := (mkF m 69 #[.val (.long qx), .second, .val (.long qy), .second, .val (.int pf), .val (.int (1 : Int32)), .val (.int (0 : Int32)), .val (.ref oa), .val (.ref ob), .val (.ref oc), .unset, .unset, .unset, .unset, .unset, .unset, .unset, .unset] [(.long qx), (.ref oc)])) rfl (by rw [hml]; rfl) (Steps.refl _) (argsL := [(.long qx)]) (rest := []) (lenOf own_pd__J_V rfl) rfl (by show 2 * 0 + _ ≤ _; exact Nat.le_of_eq rfl) (hb hby at_69) (fun _ _ => ⟨rfl, rfl, (by decide : 6 + 0 ≤ _), (by decide : 84489 + 0 ≤ _)⟩)
      dsimp only [Pt.U, Pt.locs, Pt.cells, Pt.slots] at X35 l35 y35 z35 st35 hQ35
      subst l35 y35 z35
      obtain ⟨rfl, N35q, K35, fq35_0, fq35_1, fq35_2, fq35_3, fq35_4⟩ := hQ35
      have N35 := Fr.app N34 N35q
      have f35_E_oa : Exa Z T35.heap oa "com/example/flipside/flipside/tool/LatencyHistogram" := fq34_0.keep K35
      have f35_E_ob : Exa Z T35.heap ob "com/example/flipside/flipside/tool/LatencyHistogram" := f34_E_ob.keep K35
      have f35_F_ob_counts : Fld Z T35.heap ob "com/example/flipside/flipside/tool/LatencyHistogram" "counts" "[J" (.ref ab31) := f34_F_ob_counts.keep K35 (ninS ne_ob_oc (ninS ne_ob_ab33 nin0))
      have f35_F_ob_count : Fld Z T35.heap ob "com/example/flipside/flipside/tool/LatencyHistogram" "count" "J" (.long (0 : Int64)) := f34_F_ob_count.keep K35 (ninS ne_ob_oc (ninS ne_ob_ab33 nin0))
      have f35_F_ob_max : Fld Z T35.heap ob "com/example/flipside/flipside/tool/LatencyHistogram" "max" "J" (.long (0 : Int64)) := f34_F_ob_max.keep K35 (ninS ne_ob_oc (ninS ne_ob_ab33 nin0))
      have f35_A_ab31 : own_A Z T35.heap ab31 .long (28160) (fun z => .long (own_k0L z)) := f34_A_ab31.keep K35 (ninS ne_ab31_oc (ninS ne_ab31_ab33 nin0))
      have f35_E_oc : Exa Z T35.heap oc "com/example/flipside/flipside/tool/LatencyHistogram" := f34_E_oc.keep K35
      have f35_F_oa_counts : Fld Z T35.heap oa "com/example/flipside/flipside/tool/LatencyHistogram" "counts" "[J" (.ref ab29) := fq34_1.keep K35 (ninS ne_oa_oc (ninS ne_oa_ab33 nin0))
      have f35_F_oa_count : Fld Z T35.heap oa "com/example/flipside/flipside/tool/LatencyHistogram" "count" "J" (.long ((0 : Int64) + (1 : Int64))) := fq34_2.keep K35 (ninS ne_oa_oc (ninS ne_oa_ab33 nin0))
      have f35_F_oa_max : Fld Z T35.heap oa "com/example/flipside/flipside/tool/LatencyHistogram" "max" "J" (.long (own_rm (0 : Int64) qx)) := fq34_3.keep K35 (ninS ne_oa_oc (ninS ne_oa_ab33 nin0))
      have f35_A_ab29 : own_A Z T35.heap ab29 .long (28160) (fun z => .long (own_rec own_k0L qx z)) := fq34_4.keep K35 (ninS ne_ab29_oc (ninS ne_ab29_ab33 nin0))
      have z35c : n0 ≤ T35.heap.size := Nat.le_trans z34c K35.1
      refine own_W.steps st35 ?_
      show own_W p e (FrameEnd s) below room_1.cells room_1.slots (Q0 Z qx qy pf h0 n0) T35 (mkF m 72 #[.val (.long qx), .second, .val (.long qy), .second, .val (.int pf), .val (.int (1 : Int32)), .val (.int (0 : Int32)), .val (.ref oa), .val (.ref ob), .val (.ref oc), .unset, .unset, .unset, .unset, .unset, .unset, .unset, .unset] [])
      refine own_iload X35 hx (hb hby at_72) (v := (0 : Int32)) rfl (rfl : 72 + 2 = 74) ?_
      have hc74 : (0 : Int32) = (0 : Int32) := by decide
      refine own_ifYes X35 hx (hb hby at_74) ((if0 _ _).trans (teq hc74).1) (pc' := 89) (by decide) (by decide) ?_
      refine own_aload X35 hx (hb hby at_89) (v := (.ref oa)) rfl rfl (rfl : 89 + 2 = 91) ?_
      refine own_aload X35 hx (hb hby at_91) (v := (.ref ob)) rfl rfl (rfl : 91 + 2 = 93) ?_
      obtain ⟨cq36, kq36, q36a, q36b, q36c⟩ := isOf hZ rfl f35_E_oa
      obtain ⟨_, _, ⟨T36, L36, k36, n36⟩, -, X36, ⟨Lc36, hQ36, l36, y36, z36⟩, st36⟩ := X35.virtualBack hx (y := (⟨"com/example/flipside/flipside/tool/LatencyHistogram", "add", "(Lcom/example/flipside/flipside/tool/LatencyHistogram;)V"⟩ : MethodName)) (z := (⟨"com/example/flipside/flipside/tool/LatencyHistogram", "add", "(Lcom/example/flipside/flipside/tool/LatencyHistogram;)V"⟩ : MethodName)) hown (mvT hZ (hw _ (List.mem_of_getElem? (i := 12) rfl))) (mvT hZ (hw _ (List.mem_of_getElem? (i := 13) rfl))) (notFace_of_selects (args := #[]) (mvT hZ (hw _ (List.mem_of_getElem? (i := 15) rfl)))) (mvT hZ (hw _ (List.mem_of_getElem? (i := 15) rfl))) (mvT hZ (hw _ (List.mem_of_getElem? (i := 14) rfl))) (by decide) (backOf (W := 0) (rm3 l Z a0 hw [] oa ob ab29 ab31 ((0 : Int64) + (1 : Int64)) (0 : Int64) (own_rm (0 : Int64) qx) (0 : Int64) (own_rec own_k0L qx) own_k0L T35.heap n0 z35c f35_E_oa f35_F_oa_counts f35_F_oa_count f35_F_oa_max f35_F_ob_counts f35_F_ob_count f35_F_ob_max f35_A_ab29 f35_A_ab31 g_oa g_ab29 (ne_oa_ab29) (ne_oa_ob) (ne_oa_ab31) ((Ne.symm ne_ab29_ob)) (ne_ab29_ab31)) hZ (hw _ (List.mem_of_getElem? (i := 16) rfl)) (hw _ (List.mem_of_getElem? (i := 2) rfl)) (by decide) (by decide)) q36a q36c (g := (mkF m 93 #[.val (.long qx), .second, .val (.long qy), .second, .val (.int pf), .val (.int (1 : Int32)), .val (.int (0 : Int32)), .val (.ref oa), .val (.ref ob), .val (.ref oc), .unset, .unset, .unset, .unset, .unset, .unset, .unset, .unset] [(.ref ob), (.ref oa)])) rfl (by rw [hml]; rfl) (Steps.refl _) (argsL := [(.ref ob)]) (rest := []) (lenOf own_pd__Lcom_example_flipside_flipside_tool_LatencyHistogram__V rfl) rfl (by show 2 * 0 + _ ≤ _; exact Nat.le_of_eq rfl) (hb hby at_93) (fun _ _ => ⟨rfl, rfl, (by decide : 6 + 0 ≤ _), (by decide : 84489 + 0 ≤ _)⟩)
      dsimp only [Pt.U, Pt.locs, Pt.cells, Pt.slots] at X36 l36 y36 z36 st36 hQ36
      subst l36 y36 z36
      obtain ⟨rfl, N36q, K36, fq36_0, fq36_1, fq36_2, fq36_3, fq36_4⟩ := hQ36
      have N36 := Fr.app N35 N36q
      have f36_E_oa : Exa Z T36.heap oa "com/example/flipside/flipside/tool/LatencyHistogram" := f35_E_oa.keep K36
      have f36_E_ob : Exa Z T36.heap ob "com/example/flipside/flipside/tool/LatencyHistogram" := f35_E_ob.keep K36
      have f36_F_ob_counts : Fld Z T36.heap ob "com/example/flipside/flipside/tool/LatencyHistogram" "counts" "[J" (.ref ab31) := f35_F_ob_counts.keep K36 (ninS (Ne.symm ne_oa_ob) (ninS (Ne.symm ne_ab29_ob) nin0))
      have f36_F_ob_count : Fld Z T36.heap ob "com/example/flipside/flipside/tool/LatencyHistogram" "count" "J" (.long (0 : Int64)) := f35_F_ob_count.keep K36 (ninS (Ne.symm ne_oa_ob) (ninS (Ne.symm ne_ab29_ob) nin0))
      have f36_F_ob_max : Fld Z T36.heap ob "com/example/flipside/flipside/tool/LatencyHistogram" "max" "J" (.long (0 : Int64)) := f35_F_ob_max.keep K36 (ninS (Ne.symm ne_oa_ob) (ninS (Ne.symm ne_ab29_ob) nin0))
      have f36_A_ab31 : own_A Z T36.heap ab31 .long (28160) (fun z => .long (own_k0L z)) := f35_A_ab31.keep K36 (ninS (Ne.symm ne_oa_ab31) (ninS (Ne.symm ne_ab29_ab31) nin0))
      have f36_E_oc : Exa Z T36.heap oc "com/example/flipside/flipside/tool/LatencyHistogram" := fq35_0.keep K36
      have f36_F_oc_counts : Fld Z T36.heap oc "com/example/flipside/flipside/tool/LatencyHistogram" "counts" "[J" (.ref ab33) := fq35_1.keep K36 (ninS (Ne.symm ne_oa_oc) (ninS (Ne.symm ne_ab29_oc) nin0))
      have f36_F_oc_count : Fld Z T36.heap oc "com/example/flipside/flipside/tool/LatencyHistogram" "count" "J" (.long ((0 : Int64) + (1 : Int64))) := fq35_2.keep K36 (ninS (Ne.symm ne_oa_oc) (ninS (Ne.symm ne_ab29_oc) nin0))
      have f36_F_oc_max : Fld Z T36.heap oc "com/example/flipside/flipside/tool/LatencyHistogram" "max" "J" (.long (own_rm (0 : Int64) qx)) := fq35_3.keep K36 (ninS (Ne.symm ne_oa_oc) (ninS (Ne.symm ne_ab29_oc) nin0))
      have f36_A_ab33 : own_A Z T36.heap ab33 .long (28160) (fun z => .long (own_rec own_k0L qx z)) := fq35_4.keep K36 (ninS (Ne.symm ne_oa_ab33) (ninS (Ne.symm ne_ab29_ab33) nin0))
      have z36c : n0 ≤ T36.heap.size := Nat.le_trans z35c K36.1
      refine own_W.steps st36 ?_
      show own_W p e (FrameEnd s) below room_1.cells room_1.slots (Q0 Z qx qy pf h0 n0) T36 (mkF m 96 #[.val (.long qx), .second, .val (.long qy), .second, .val (.int pf), .val (.int (1 : Int32)), .val (.int (0 : Int32)), .val (.ref oa), .val (.ref ob), .val (.ref oc), .unset, .unset, .unset, .unset, .unset, .unset, .unset, .unset] [])
      have AO : own_A Z T36.heap ab29 .long (28160) (fun z => .long (own_rec own_k0L qx z)) := fq36_4.congr (fun z hz => congrArg Value.long (own_afk _ z hz))
      refine own_iload X36 hx (hb hby at_96) (v := (1 : Int32)) rfl (rfl : 96 + 2 = 98) ?_
      have hc98 : ¬ ((1 : Int32) = (0 : Int32)) := by decide
      refine own_ifNo X36 hx (hb hby at_98) ((if0 _ _).trans (feq hc98).1) (rfl : 98 + 3 = 101) ?_
      refine own_lconst X36 hx (hb hby at_101) (1 : Int64) (by first | rfl | decide) (rfl : 101 + 1 = 102) ?_
      refine own_goto X36 hx (hb hby at_102) (pc' := 106) (by decide) (by decide) ?_
      refine own_iload X36 hx (hb hby at_106) (v := (0 : Int32)) rfl (rfl : 106 + 2 = 108) ?_
      have hc108 : (0 : Int32) = (0 : Int32) := by decide
      refine own_ifYes X36 hx (hb hby at_108) ((if0 _ _).trans (teq hc108).1) (pc' := 115) (by decide) (by decide) ?_
      refine own_lconst X36 hx (hb hby at_115) (0 : Int64) (by first | rfl | decide) (rfl : 115 + 1 = 116) ?_
      refine own_ladd X36 hx (hb hby at_116) (rfl : 116 + 1 = 117) ?_
      refine own_lstore X36 hx (hb hby at_117) (l' := #[.val (.long qx), .second, .val (.long qy), .second, .val (.int pf), .val (.int (1 : Int32)), .val (.int (0 : Int32)), .val (.ref oa), .val (.ref ob), .val (.ref oc), .val (.long ((1 : Int64) + (0 : Int64))), .second, .unset, .unset, .unset, .unset, .unset, .unset]) rfl (rfl : 117 + 2 = 119) ?_
      rw [show ((1 : Int64) + (0 : Int64)) = (1 : Int64) from by decide]
      show own_W p e (FrameEnd s) below room_1.cells room_1.slots (Q0 Z qx qy pf h0 n0) T36 (mkF m 119 #[.val (.long qx), .second, .val (.long qy), .second, .val (.int pf), .val (.int (1 : Int32)), .val (.int (0 : Int32)), .val (.ref oa), .val (.ref ob), .val (.ref oc), .val (.long (1 : Int64)), .second, .unset, .unset, .unset, .unset, .unset, .unset] [])
      refine own_iload X36 hx (hb hby at_119) (v := (1 : Int32)) rfl (rfl : 119 + 2 = 121) ?_
      have hc121 : ¬ ((1 : Int32) = (0 : Int32)) := by decide
      refine own_ifNo X36 hx (hb hby at_121) ((if0 _ _).trans (feq hc121).1) (rfl : 121 + 3 = 124) ?_
      refine own_lloadN X36 hx (hb hby at_124) (v := qx) rfl (rfl : 124 + 1 = 125) ?_
      refine own_lconst X36 hx (hb hby at_125) (0 : Int64) (by first | rfl | decide) (rfl : 125 + 1 = 126) ?_
      obtain ⟨_, _, ⟨T37, L37, k37, n37⟩, -, X37, ⟨Lc37, hQ37, l37, y37, z37⟩, st37⟩ := Jvm.LawKit.callS X36 hx (y := (⟨"java/lang/Math", "max", "(JJ)J"⟩ : MethodName)) hown (mvT hZ (hw _ (List.mem_of_getElem? (i := 35) rfl))) (mvT hZ (hw _ (List.mem_of_getElem? (i := 22) rfl))) (mvT hZ (hw _ (List.mem_of_getElem? (i := 23) rfl))) (mvT hZ (hw _ (List.mem_of_getElem? (i := 24) rfl))) (by decide) (backOf (W := 0) (rm4 l Z a0 hw [] qx (0 : Int64)  T36.heap n0 z36c ) hZ (hw _ (List.mem_of_getElem? (i := 24) rfl)) (hw _ (List.mem_of_getElem? (i := 23) rfl)) (by decide) (by decide)) (g := (mkF m 126 #[.val (.long qx), .second, .val (.long qy), .second, .val (.int pf), .val (.int (1 : Int32)), .val (.int (0 : Int32)), .val (.ref oa), .val (.ref ob), .val (.ref oc), .val (.long (1 : Int64)), .second, .unset, .unset, .unset, .unset, .unset, .unset] [(.long (0 : Int64)), (.long qx)])) rfl (by rw [hml]; rfl) (argsL := [(.long qx), (.long (0 : Int64))]) (rest := []) (lenOf own_pd__JJ_J rfl) rfl (by show 2 * 0 + _ ≤ _; exact Nat.le_of_eq rfl) (hb hby at_126) (fun _ _ => ⟨rfl, rfl, (by decide : 6 + 0 ≤ _), (by decide : 84489 + 0 ≤ _)⟩)
      dsimp only [Pt.U, Pt.locs, Pt.cells, Pt.slots] at X37 l37 y37 z37 st37 hQ37
      subst l37 y37 z37
      obtain ⟨rfl, N37q, e37⟩ := hQ37
      have N37 := Fr.app N36 N37q
      refine own_W.step st37 ?_
      show own_W p e (FrameEnd s) below room_1.cells room_1.slots (Q0 Z qx qy pf h0 n0) T37 (mkF m 129 #[.val (.long qx), .second, .val (.long qy), .second, .val (.int pf), .val (.int (1 : Int32)), .val (.int (0 : Int32)), .val (.ref oa), .val (.ref ob), .val (.ref oc), .val (.long (1 : Int64)), .second, .unset, .unset, .unset, .unset, .unset, .unset] [(.long (own_lmax qx (0 : Int64)))])
      refine own_goto X37 hx (hb hby at_129) (pc' := 133) (by decide) (by decide) ?_
      refine own_lstore X37 hx (hb hby at_133) (l' := #[.val (.long qx), .second, .val (.long qy), .second, .val (.int pf), .val (.int (1 : Int32)), .val (.int (0 : Int32)), .val (.ref oa), .val (.ref ob), .val (.ref oc), .val (.long (1 : Int64)), .second, .val (.long (own_lmax qx (0 : Int64))), .second, .unset, .unset, .unset, .unset]) rfl (rfl : 133 + 2 = 135) ?_
      refine own_iload X37 hx (hb hby at_135) (v := (0 : Int32)) rfl (rfl : 135 + 2 = 137) ?_
      have hc137 : (0 : Int32) = (0 : Int32) := by decide
      refine own_ifYes X37 hx (hb hby at_137) ((if0 _ _).trans (teq hc137).1) (pc' := 148) (by decide) (by decide) ?_
      refine own_lconst X37 hx (hb hby at_148) (0 : Int64) (by first | rfl | decide) (rfl : 148 + 1 = 149) ?_
      refine own_lstore X37 hx (hb hby at_149) (l' := #[.val (.long qx), .second, .val (.long qy), .second, .val (.int pf), .val (.int (1 : Int32)), .val (.int (0 : Int32)), .val (.ref oa), .val (.ref ob), .val (.ref oc), .val (.long (1 : Int64)), .second, .val (.long (own_lmax qx (0 : Int64))), .second, .val (.long (0 : Int64)), .second, .unset, .unset]) rfl (rfl : 149 + 2 = 151) ?_
      refine own_aload X37 hx (hb hby at_151) (v := (.ref oa)) rfl rfl (rfl : 151 + 2 = 153) ?_
      obtain ⟨cq38, kq38, q38a, q38b, q38c⟩ := isOf hZ e37 fq36_0
      obtain ⟨_, _, ⟨T38, L38, k38, n38⟩, -, X38, ⟨Lc38, hQ38, l38, y38, z38⟩, st38⟩ := X37.virtualBack hx (y := (⟨"com/example/flipside/flipside/tool/LatencyHistogram", "count", "()J"⟩ : MethodName)) (z := (⟨"com/example/flipside/flipside/tool/LatencyHistogram", "count", "()J"⟩ : MethodName)) hown (mvT hZ (hw _ (List.mem_of_getElem? (i := 25) rfl))) (mvT hZ (hw _ (List.mem_of_getElem? (i := 26) rfl))) (notFace_of_selects (args := #[]) (mvT hZ (hw _ (List.mem_of_getElem? (i := 28) rfl)))) (mvT hZ (hw _ (List.mem_of_getElem? (i := 28) rfl))) (mvT hZ (hw _ (List.mem_of_getElem? (i := 27) rfl))) (by decide) (backOf (W := 0) (rm5 l Z a0 hw [] oa (((0 : Int64) + (1 : Int64)) + (0 : Int64)) T36.heap n0 z36c fq36_2) hZ (hw _ (List.mem_of_getElem? (i := 29) rfl)) (hw _ (List.mem_of_getElem? (i := 2) rfl)) (by decide) (by decide)) q38a q38c (g := (mkF m 153 #[.val (.long qx), .second, .val (.long qy), .second, .val (.int pf), .val (.int (1 : Int32)), .val (.int (0 : Int32)), .val (.ref oa), .val (.ref ob), .val (.ref oc), .val (.long (1 : Int64)), .second, .val (.long (own_lmax qx (0 : Int64))), .second, .val (.long (0 : Int64)), .second, .unset, .unset] [(.ref oa)])) rfl (by rw [hml]; rfl) (Steps.refl _) (argsL := []) (rest := []) (lenOf own_pd___J rfl) rfl (by show 2 * 0 + _ ≤ _; exact Nat.le_of_eq rfl) (hb hby at_153) (fun _ _ => ⟨rfl, e37, (by decide : 6 + 0 ≤ _), (by decide : 84489 + 0 ≤ _)⟩)
      dsimp only [Pt.U, Pt.locs, Pt.cells, Pt.slots] at X38 l38 y38 z38 st38 hQ38
      subst l38 y38 z38
      obtain ⟨rfl, N38q, e38⟩ := hQ38
      have N38 := Fr.app N37 N38q
      refine own_W.steps st38 ?_
      show own_W p e (FrameEnd s) below room_1.cells room_1.slots (Q0 Z qx qy pf h0 n0) T38 (mkF m 156 #[.val (.long qx), .second, .val (.long qy), .second, .val (.int pf), .val (.int (1 : Int32)), .val (.int (0 : Int32)), .val (.ref oa), .val (.ref ob), .val (.ref oc), .val (.long (1 : Int64)), .second, .val (.long (own_lmax qx (0 : Int64))), .second, .val (.long (0 : Int64)), .second, .unset, .unset] [(.long (((0 : Int64) + (1 : Int64)) + (0 : Int64)))])
      refine own_lload X38 hx (hb hby at_156) (v := (1 : Int64)) rfl (rfl : 156 + 2 = 158) ?_
      refine own_lcmp X38 hx (hb hby at_158) (rfl : 158 + 1 = 159) ?_
      have hc159 : (((0 : Int64) + (1 : Int64)) + (0 : Int64)) = (1 : Int64) := by decide
      refine own_ifYes X38 hx (hb hby at_159) (XT.ll_eq_t hc159) (pc' := 164) (by decide) (by decide) ?_
      refine own_aload X38 hx (hb hby at_164) (v := (.ref oa)) rfl rfl (rfl : 164 + 2 = 166) ?_
      obtain ⟨cq39, kq39, q39a, q39b, q39c⟩ := isOf hZ e38 fq36_0
      obtain ⟨_, _, ⟨T39, L39, k39, n39⟩, -, X39, ⟨Lc39, hQ39, l39, y39, z39⟩, st39⟩ := X38.virtualBack hx (y := (⟨"com/example/flipside/flipside/tool/LatencyHistogram", "max", "()J"⟩ : MethodName)) (z := (⟨"com/example/flipside/flipside/tool/LatencyHistogram", "max", "()J"⟩ : MethodName)) hown (mvT hZ (hw _ (List.mem_of_getElem? (i := 30) rfl))) (mvT hZ (hw _ (List.mem_of_getElem? (i := 31) rfl))) (notFace_of_selects (args := #[]) (mvT hZ (hw _ (List.mem_of_getElem? (i := 33) rfl)))) (mvT hZ (hw _ (List.mem_of_getElem? (i := 33) rfl))) (mvT hZ (hw _ (List.mem_of_getElem? (i := 32) rfl))) (by decide) (backOf (W := 0) (rm6 l Z a0 hw [] oa (own_lmax (own_rm (0 : Int64) qx) (0 : Int64)) T36.heap n0 z36c fq36_3) hZ (hw _ (List.mem_of_getElem? (i := 34) rfl)) (hw _ (List.mem_of_getElem? (i := 2) rfl)) (by decide) (by decide)) q39a q39c (g := (mkF m 166 #[.val (.long qx), .second, .val (.long qy), .second, .val (.int pf), .val (.int (1 : Int32)), .val (.int (0 : Int32)), .val (.ref oa), .val (.ref ob), .val (.ref oc), .val (.long (1 : Int64)), .second, .val (.long (own_lmax qx (0 : Int64))), .second, .val (.long (0 : Int64)), .second, .unset, .unset] [(.ref oa)])) rfl (by rw [hml]; rfl) (Steps.refl _) (argsL := []) (rest := []) (lenOf own_pd___J rfl) rfl (by show 2 * 0 + _ ≤ _; exact Nat.le_of_eq rfl) (hb hby at_166) (fun _ _ => ⟨rfl, e38, (by decide : 6 + 0 ≤ _), (by decide : 84489 + 0 ≤ _)⟩)
      dsimp only [Pt.U, Pt.locs, Pt.cells, Pt.slots] at X39 l39 y39 z39 st39 hQ39
      subst l39 y39 z39
      obtain ⟨rfl, N39q, e39⟩ := hQ39
      have N39 := Fr.app N38 N39q
      refine own_W.steps st39 ?_
      show own_W p e (FrameEnd s) below room_1.cells room_1.slots (Q0 Z qx qy pf h0 n0) T39 (mkF m 169 #[.val (.long qx), .second, .val (.long qy), .second, .val (.int pf), .val (.int (1 : Int32)), .val (.int (0 : Int32)), .val (.ref oa), .val (.ref ob), .val (.ref oc), .val (.long (1 : Int64)), .second, .val (.long (own_lmax qx (0 : Int64))), .second, .val (.long (0 : Int64)), .second, .unset, .unset] [(.long (own_lmax (own_rm (0 : Int64) qx) (0 : Int64)))])
      refine own_lload X39 hx (hb hby at_169) (v := (own_lmax qx (0 : Int64))) rfl (rfl : 169 + 2 = 171) ?_
      refine own_lload X39 hx (hb hby at_171) (v := (0 : Int64)) rfl (rfl : 171 + 2 = 173) ?_
      obtain ⟨_, _, ⟨T40, L40, k40, n40⟩, -, X40, ⟨Lc40, hQ40, l40, y40, z40⟩, st40⟩ := Jvm.LawKit.callS X39 hx (y := (⟨"java/lang/Math", "max", "(JJ)J"⟩ : MethodName)) hown (mvT hZ (hw _ (List.mem_of_getElem? (i := 35) rfl))) (mvT hZ (hw _ (List.mem_of_getElem? (i := 22) rfl))) (mvT hZ (hw _ (List.mem_of_getElem? (i := 23) rfl))) (mvT hZ (hw _ (List.mem_of_getElem? (i := 24) rfl))) (by decide) (backOf (W := 2) (rm4 l Z a0 hw [] (own_lmax qx (0 : Int64)) (0 : Int64)  T36.heap n0 z36c ) hZ (hw _ (List.mem_of_getElem? (i := 24) rfl)) (hw _ (List.mem_of_getElem? (i := 23) rfl)) (by decide) (by decide)) (g := (mkF m 173 #[.val (.long qx), .second, .val (.long qy), .second, .val (.int pf), .val (.int (1 : Int32)), .val (.int (0 : Int32)), .val (.ref oa), .val (.ref ob), .val (.ref oc), .val (.long (1 : Int64)), .second, .val (.long (own_lmax qx (0 : Int64))), .second, .val (.long (0 : Int64)), .second, .unset, .unset] [(.long (0 : Int64)), (.long (own_lmax qx (0 : Int64))), (.long (own_lmax (own_rm (0 : Int64) qx) (0 : Int64)))])) rfl (by rw [hml]; rfl) (argsL := [(.long (own_lmax qx (0 : Int64))), (.long (0 : Int64))]) (rest := [(.long (own_lmax (own_rm (0 : Int64) qx) (0 : Int64)))]) (lenOf own_pd__JJ_J rfl) rfl (by show 2 * 0 + _ ≤ _; exact Nat.le_of_eq rfl) (hb hby at_173) (fun _ _ => ⟨rfl, e39, (by decide : 6 + 0 ≤ _), (by decide : 84489 + 0 ≤ _)⟩)
      dsimp only [Pt.U, Pt.locs, Pt.cells, Pt.slots] at X40 l40 y40 z40 st40 hQ40
      subst l40 y40 z40
      obtain ⟨rfl, N40q, e40⟩ := hQ40
      have N40 := Fr.app N39 N40q
      refine own_W.step st40 ?_
      show own_W p e (FrameEnd s) below room_1.cells room_1.slots (Q0 Z qx qy pf h0 n0) T40 (mkF m 176 #[.val (.long qx), .second, .val (.long qy), .second, .val (.int pf), .val (.int (1 : Int32)), .val (.int (0 : Int32)), .val (.ref oa), .val (.ref ob), .val (.ref oc), .val (.long (1 : Int64)), .second, .val (.long (own_lmax qx (0 : Int64))), .second, .val (.long (0 : Int64)), .second, .unset, .unset] [(.long (own_lmax (own_lmax qx (0 : Int64)) (0 : Int64))), (.long (own_lmax (own_rm (0 : Int64) qx) (0 : Int64)))])
      refine own_lcmp X40 hx (hb hby at_176) (rfl : 176 + 1 = 177) ?_
      have hc177 : (own_lmax (own_rm (0 : Int64) qx) (0 : Int64)) = (own_lmax (own_lmax qx (0 : Int64)) (0 : Int64)) := by first | simp only [own_rm0] | rfl
      refine own_ifYes X40 hx (hb hby at_177) (XT.ll_eq_t hc177) (pc' := 182) (by decide) (by decide) ?_
      refine own_aload X40 hx (hb hby at_182) (v := (.ref ob)) rfl rfl (rfl : 182 + 2 = 184) ?_
      obtain ⟨cq41, kq41, q41a, q41b, q41c⟩ := isOf hZ e40 f36_E_ob
      obtain ⟨_, _, ⟨T41, L41, k41, n41⟩, -, X41, ⟨Lc41, hQ41, l41, y41, z41⟩, st41⟩ := X40.virtualBack hx (y := (⟨"com/example/flipside/flipside/tool/LatencyHistogram", "count", "()J"⟩ : MethodName)) (z := (⟨"com/example/flipside/flipside/tool/LatencyHistogram", "count", "()J"⟩ : MethodName)) hown (mvT hZ (hw _ (List.mem_of_getElem? (i := 25) rfl))) (mvT hZ (hw _ (List.mem_of_getElem? (i := 26) rfl))) (notFace_of_selects (args := #[]) (mvT hZ (hw _ (List.mem_of_getElem? (i := 28) rfl)))) (mvT hZ (hw _ (List.mem_of_getElem? (i := 28) rfl))) (mvT hZ (hw _ (List.mem_of_getElem? (i := 27) rfl))) (by decide) (backOf (W := 0) (rm5 l Z a0 hw [] ob (0 : Int64) T36.heap n0 z36c f36_F_ob_count) hZ (hw _ (List.mem_of_getElem? (i := 29) rfl)) (hw _ (List.mem_of_getElem? (i := 2) rfl)) (by decide) (by decide)) q41a q41c (g := (mkF m 184 #[.val (.long qx), .second, .val (.long qy), .second, .val (.int pf), .val (.int (1 : Int32)), .val (.int (0 : Int32)), .val (.ref oa), .val (.ref ob), .val (.ref oc), .val (.long (1 : Int64)), .second, .val (.long (own_lmax qx (0 : Int64))), .second, .val (.long (0 : Int64)), .second, .unset, .unset] [(.ref ob)])) rfl (by rw [hml]; rfl) (Steps.refl _) (argsL := []) (rest := []) (lenOf own_pd___J rfl) rfl (by show 2 * 0 + _ ≤ _; exact Nat.le_of_eq rfl) (hb hby at_184) (fun _ _ => ⟨rfl, e40, (by decide : 6 + 0 ≤ _), (by decide : 84489 + 0 ≤ _)⟩)
      dsimp only [Pt.U, Pt.locs, Pt.cells, Pt.slots] at X41 l41 y41 z41 st41 hQ41
      subst l41 y41 z41
      obtain ⟨rfl, N41q, e41⟩ := hQ41
      have N41 := Fr.app N40 N41q
      refine own_W.steps st41 ?_
      show own_W p e (FrameEnd s) below room_1.cells room_1.slots (Q0 Z qx qy pf h0 n0) T41 (mkF m 187 #[.val (.long qx), .second, .val (.long qy), .second, .val (.int pf), .val (.int (1 : Int32)), .val (.int (0 : Int32)), .val (.ref oa), .val (.ref ob), .val (.ref oc), .val (.long (1 : Int64)), .second, .val (.long (own_lmax qx (0 : Int64))), .second, .val (.long (0 : Int64)), .second, .unset, .unset] [(.long (0 : Int64))])
      refine own_iload X41 hx (hb hby at_187) (v := (0 : Int32)) rfl (rfl : 187 + 2 = 189) ?_
      have hc189 : (0 : Int32) = (0 : Int32) := by decide
      refine own_ifYes X41 hx (hb hby at_189) ((if0 _ _).trans (teq hc189).1) (pc' := 196) (by decide) (by decide) ?_
      refine own_lconst X41 hx (hb hby at_196) (0 : Int64) (by first | rfl | decide) (rfl : 196 + 1 = 197) ?_
      refine own_lcmp X41 hx (hb hby at_197) (rfl : 197 + 1 = 198) ?_
      have hc198 : (0 : Int64) = (0 : Int64) := by decide
      refine own_ifYes X41 hx (hb hby at_198) (XT.ll_eq_t hc198) (pc' := 203) (by decide) (by decide) ?_
      refine own_lload X41 hx (hb hby at_203) (v := (1 : Int64)) rfl (rfl : 203 + 2 = 205) ?_
      refine own_lconst X41 hx (hb hby at_205) (0 : Int64) (by first | rfl | decide) (rfl : 205 + 1 = 206) ?_
      refine own_lcmp X41 hx (hb hby at_206) (rfl : 206 + 1 = 207) ?_
      have hc207 : ¬ ((1 : Int64) = (0 : Int64)) := by decide
      refine own_ifYes X41 hx (hb hby at_207) (XT.ll_ne_t hc207) (pc' := 212) (by decide) (by decide) ?_
      refine own_lconst X41 hx (hb hby at_212) (1 : Int64) (by first | rfl | decide) (rfl : 212 + 1 = 213) ?_
      refine own_iload X41 hx (hb hby at_213) (v := pf) rfl (rfl : 213 + 2 = 215) ?_
      refine own_iconst X41 hx (hb hby at_215) (2 : Int32) (by first | rfl | decide) (rfl : 215 + 1 = 216) ?_
      refine own_iushr X41 hx (hb hby at_216) (rfl : 216 + 1 = 217) ?_
      refine own_i2l X41 hx (hb hby at_217) (rfl : 217 + 1 = 218) ?_
      refine own_lload X41 hx (hb hby at_218) (v := (1 : Int64)) rfl (rfl : 218 + 2 = 220) ?_
      refine own_lrem X41 hx (hb hby at_220) (by decide) (rfl : 220 + 1 = 221) ?_
      refine own_ladd X41 hx (hb hby at_221) (rfl : 221 + 1 = 222) ?_
      refine own_lstore X41 hx (hb hby at_222) (l' := #[.val (.long qx), .second, .val (.long qy), .second, .val (.int pf), .val (.int (1 : Int32)), .val (.int (0 : Int32)), .val (.ref oa), .val (.ref ob), .val (.ref oc), .val (.long (1 : Int64)), .second, .val (.long (own_lmax qx (0 : Int64))), .second, .val (.long (0 : Int64)), .second, .val (.long ((1 : Int64) + ((((pf.toUInt32 >>> ((2 : Int32) &&& 31).toUInt32).toInt32).toInt64) % (1 : Int64)))), .second]) rfl (rfl : 222 + 2 = 224) ?_
      obtain ⟨kv, hkv⟩ : ∃ z : Int64, z = ((1 : Int64) + ((((pf.toUInt32 >>> ((2 : Int32) &&& 31).toUInt32).toInt32).toInt64) % (1 : Int64))) := ⟨_, rfl⟩
      rw [← hkv]
      show own_W p e (FrameEnd s) below room_1.cells room_1.slots (Q0 Z qx qy pf h0 n0) T41 (mkF m 224 #[.val (.long qx), .second, .val (.long qy), .second, .val (.int pf), .val (.int (1 : Int32)), .val (.int (0 : Int32)), .val (.ref oa), .val (.ref ob), .val (.ref oc), .val (.long (1 : Int64)), .second, .val (.long (own_lmax qx (0 : Int64))), .second, .val (.long (0 : Int64)), .second, .val (.long kv), .second] [])
      have hk := own_kv1 pf hkv
      refine own_aload X41 hx (hb hby at_224) (v := (.ref oa)) rfl rfl (rfl : 224 + 2 = 226) ?_
      refine own_lload X41 hx (hb hby at_226) (v := kv) rfl (rfl : 226 + 2 = 228) ?_
      refine own_lload X41 hx (hb hby at_228) (v := (1 : Int64)) rfl (rfl : 228 + 2 = 230) ?_
      obtain ⟨cq42, kq42, q42a, q42b, q42c⟩ := isOf hZ e41 fq36_0
      obtain ⟨_, _, ⟨T42, L42, k42, n42⟩, -, X42, ⟨Lc42, hQ42, l42, y42, z42⟩, st42⟩ := X41.virtualBack hx (y := (⟨"com/example/flipside/flipside/tool/LatencyHistogram", "percentile", "(JJ)J"⟩ : MethodName)) (z := (⟨"com/example/flipside/flipside/tool/LatencyHistogram", "percentile", "(JJ)J"⟩ : MethodName)) hown (mvT hZ (hw _ (List.mem_of_getElem? (i := 45) rfl))) (mvT hZ (hw _ (List.mem_of_getElem? (i := 46) rfl))) (notFace_of_selects (args := #[]) (mvT hZ (hw _ (List.mem_of_getElem? (i := 48) rfl)))) (mvT hZ (hw _ (List.mem_of_getElem? (i := 48) rfl))) (mvT hZ (hw _ (List.mem_of_getElem? (i := 47) rfl))) (by decide) (backOf (W := 0) (rm9 l Z a0 hw [] oa kv (1 : Int64) ab29 (((0 : Int64) + (1 : Int64)) + (0 : Int64)) (own_lmax (own_rm (0 : Int64) qx) (0 : Int64)) (own_rec own_k0L qx) T36.heap n0 z36c fq36_1 fq36_2 fq36_3 AO (by decide) (by decide) (by rw [hk]; decide) (by rw [hk]; decide) (by decide) (own_fin1 _ hk (by decide))) hZ (hw _ (List.mem_of_getElem? (i := 49) rfl)) (hw _ (List.mem_of_getElem? (i := 2) rfl)) (by decide) (by decide)) q42a q42c (g := (mkF m 230 #[.val (.long qx), .second, .val (.long qy), .second, .val (.int pf), .val (.int (1 : Int32)), .val (.int (0 : Int32)), .val (.ref oa), .val (.ref ob), .val (.ref oc), .val (.long (1 : Int64)), .second, .val (.long (own_lmax qx (0 : Int64))), .second, .val (.long (0 : Int64)), .second, .val (.long kv), .second] [(.long (1 : Int64)), (.long kv), (.ref oa)])) rfl (by rw [hml]; rfl) (Steps.refl _) (argsL := [(.long kv), (.long (1 : Int64))]) (rest := []) (lenOf own_pd__JJ_J rfl) rfl (by show 2 * 0 + _ ≤ _; exact Nat.le_of_eq rfl) (hb hby at_230) (fun _ _ => ⟨rfl, e41, (by decide : 6 + 0 ≤ _), (by decide : 84489 + 0 ≤ _)⟩)
      dsimp only [Pt.U, Pt.locs, Pt.cells, Pt.slots] at X42 l42 y42 z42 st42 hQ42
      subst l42 y42 z42
      obtain ⟨rfl, N42q, K42⟩ := hQ42
      have N42 := Fr.app N41 N42q
      have f42_E_oa : Exa Z T42.heap oa "com/example/flipside/flipside/tool/LatencyHistogram" := fq36_0.keep K42
      have f42_E_ob : Exa Z T42.heap ob "com/example/flipside/flipside/tool/LatencyHistogram" := f36_E_ob.keep K42
      have f42_F_ob_counts : Fld Z T42.heap ob "com/example/flipside/flipside/tool/LatencyHistogram" "counts" "[J" (.ref ab31) := f36_F_ob_counts.keep K42 nin0
      have f42_F_ob_count : Fld Z T42.heap ob "com/example/flipside/flipside/tool/LatencyHistogram" "count" "J" (.long (0 : Int64)) := f36_F_ob_count.keep K42 nin0
      have f42_F_ob_max : Fld Z T42.heap ob "com/example/flipside/flipside/tool/LatencyHistogram" "max" "J" (.long (0 : Int64)) := f36_F_ob_max.keep K42 nin0
      have f42_A_ab31 : own_A Z T42.heap ab31 .long (28160) (fun z => .long (own_k0L z)) := f36_A_ab31.keep K42 nin0
      have f42_E_oc : Exa Z T42.heap oc "com/example/flipside/flipside/tool/LatencyHistogram" := f36_E_oc.keep K42
      have f42_F_oc_counts : Fld Z T42.heap oc "com/example/flipside/flipside/tool/LatencyHistogram" "counts" "[J" (.ref ab33) := f36_F_oc_counts.keep K42 nin0
      have f42_F_oc_count : Fld Z T42.heap oc "com/example/flipside/flipside/tool/LatencyHistogram" "count" "J" (.long ((0 : Int64) + (1 : Int64))) := f36_F_oc_count.keep K42 nin0
      have f42_F_oc_max : Fld Z T42.heap oc "com/example/flipside/flipside/tool/LatencyHistogram" "max" "J" (.long (own_rm (0 : Int64) qx)) := f36_F_oc_max.keep K42 nin0
      have f42_A_ab33 : own_A Z T42.heap ab33 .long (28160) (fun z => .long (own_rec own_k0L qx z)) := f36_A_ab33.keep K42 nin0
      have f42_F_oa_counts : Fld Z T42.heap oa "com/example/flipside/flipside/tool/LatencyHistogram" "counts" "[J" (.ref ab29) := fq36_1.keep K42 nin0
      have f42_F_oa_count : Fld Z T42.heap oa "com/example/flipside/flipside/tool/LatencyHistogram" "count" "J" (.long (((0 : Int64) + (1 : Int64)) + (0 : Int64))) := fq36_2.keep K42 nin0
      have f42_F_oa_max : Fld Z T42.heap oa "com/example/flipside/flipside/tool/LatencyHistogram" "max" "J" (.long (own_lmax (own_rm (0 : Int64) qx) (0 : Int64))) := fq36_3.keep K42 nin0
      have f42_A_ab29 : own_A Z T42.heap ab29 .long (28160) (fun z => .long (own_rec own_k0L qx z)) := AO.keep K42 nin0
      have z42c : n0 ≤ T42.heap.size := Nat.le_trans z36c K42.1
      refine own_W.steps st42 ?_
      show own_W p e (FrameEnd s) below room_1.cells room_1.slots (Q0 Z qx qy pf h0 n0) T42 (mkF m 233 #[.val (.long qx), .second, .val (.long qy), .second, .val (.int pf), .val (.int (1 : Int32)), .val (.int (0 : Int32)), .val (.ref oa), .val (.ref ob), .val (.ref oc), .val (.long (1 : Int64)), .second, .val (.long (own_lmax qx (0 : Int64))), .second, .val (.long (0 : Int64)), .second, .val (.long kv), .second] [(.long (own_pct (own_rec own_k0L qx) (own_rank (((0 : Int64) + (1 : Int64)) + (0 : Int64)) (1 : Int64) kv) (own_lmax (own_rm (0 : Int64) qx) (0 : Int64)) 28160 0 (0 : Int64)))])
      refine own_aload X42 hx (hb hby at_233) (v := (.ref oc)) rfl rfl (rfl : 233 + 2 = 235) ?_
      refine own_lload X42 hx (hb hby at_235) (v := kv) rfl (rfl : 235 + 2 = 237) ?_
      refine own_lload X42 hx (hb hby at_237) (v := (1 : Int64)) rfl (rfl : 237 + 2 = 239) ?_
      obtain ⟨cq43, kq43, q43a, q43b, q43c⟩ := isOf hZ rfl f42_E_oc
      obtain ⟨_, _, ⟨T43, L43, k43, n43⟩, -, X43, ⟨Lc43, hQ43, l43, y43, z43⟩, st43⟩ := X42.virtualBack hx (y := (⟨"com/example/flipside/flipside/tool/LatencyHistogram", "percentile", "(JJ)J"⟩ : MethodName)) (z := (⟨"com/example/flipside/flipside/tool/LatencyHistogram", "percentile", "(JJ)J"⟩ : MethodName)) hown (mvT hZ (hw _ (List.mem_of_getElem? (i := 45) rfl))) (mvT hZ (hw _ (List.mem_of_getElem? (i := 46) rfl))) (notFace_of_selects (args := #[]) (mvT hZ (hw _ (List.mem_of_getElem? (i := 48) rfl)))) (mvT hZ (hw _ (List.mem_of_getElem? (i := 48) rfl))) (mvT hZ (hw _ (List.mem_of_getElem? (i := 47) rfl))) (by decide) (backOf (W := 2) (rm9 l Z a0 hw [] oc kv (1 : Int64) ab33 ((0 : Int64) + (1 : Int64)) (own_rm (0 : Int64) qx) (own_rec own_k0L qx) T42.heap n0 z42c f42_F_oc_counts f42_F_oc_count f42_F_oc_max f42_A_ab33 (by decide) (by decide) (by rw [hk]; decide) (by rw [hk]; decide) (by decide) (own_fin1 _ hk (by decide))) hZ (hw _ (List.mem_of_getElem? (i := 49) rfl)) (hw _ (List.mem_of_getElem? (i := 2) rfl)) (by decide) (by decide)) q43a q43c (g := (mkF m 239 #[.val (.long qx), .second, .val (.long qy), .second, .val (.int pf), .val (.int (1 : Int32)), .val (.int (0 : Int32)), .val (.ref oa), .val (.ref ob), .val (.ref oc), .val (.long (1 : Int64)), .second, .val (.long (own_lmax qx (0 : Int64))), .second, .val (.long (0 : Int64)), .second, .val (.long kv), .second] [(.long (1 : Int64)), (.long kv), (.ref oc), (.long (own_pct (own_rec own_k0L qx) (own_rank (((0 : Int64) + (1 : Int64)) + (0 : Int64)) (1 : Int64) kv) (own_lmax (own_rm (0 : Int64) qx) (0 : Int64)) 28160 0 (0 : Int64)))])) rfl (by rw [hml]; rfl) (Steps.refl _) (argsL := [(.long kv), (.long (1 : Int64))]) (rest := [(.long (own_pct (own_rec own_k0L qx) (own_rank (((0 : Int64) + (1 : Int64)) + (0 : Int64)) (1 : Int64) kv) (own_lmax (own_rm (0 : Int64) qx) (0 : Int64)) 28160 0 (0 : Int64)))]) (lenOf own_pd__JJ_J rfl) rfl (by show 2 * 0 + _ ≤ _; exact Nat.le_of_eq rfl) (hb hby at_239) (fun _ _ => ⟨rfl, rfl, (by decide : 6 + 0 ≤ _), (by decide : 84489 + 0 ≤ _)⟩)
      dsimp only [Pt.U, Pt.locs, Pt.cells, Pt.slots] at X43 l43 y43 z43 st43 hQ43
      subst l43 y43 z43
      obtain ⟨rfl, N43q, K43⟩ := hQ43
      have N43 := Fr.app N42 N43q
      have f43_E_oa : Exa Z T43.heap oa "com/example/flipside/flipside/tool/LatencyHistogram" := f42_E_oa.keep K43
      have f43_E_ob : Exa Z T43.heap ob "com/example/flipside/flipside/tool/LatencyHistogram" := f42_E_ob.keep K43
      have f43_F_ob_counts : Fld Z T43.heap ob "com/example/flipside/flipside/tool/LatencyHistogram" "counts" "[J" (.ref ab31) := f42_F_ob_counts.keep K43 nin0
      have f43_F_ob_count : Fld Z T43.heap ob "com/example/flipside/flipside/tool/LatencyHistogram" "count" "J" (.long (0 : Int64)) := f42_F_ob_count.keep K43 nin0
      have f43_F_ob_max : Fld Z T43.heap ob "com/example/flipside/flipside/tool/LatencyHistogram" "max" "J" (.long (0 : Int64)) := f42_F_ob_max.keep K43 nin0
      have f43_A_ab31 : own_A Z T43.heap ab31 .long (28160) (fun z => .long (own_k0L z)) := f42_A_ab31.keep K43 nin0
      have f43_E_oc : Exa Z T43.heap oc "com/example/flipside/flipside/tool/LatencyHistogram" := f42_E_oc.keep K43
      have f43_F_oc_counts : Fld Z T43.heap oc "com/example/flipside/flipside/tool/LatencyHistogram" "counts" "[J" (.ref ab33) := f42_F_oc_counts.keep K43 nin0
      have f43_F_oc_count : Fld Z T43.heap oc "com/example/flipside/flipside/tool/LatencyHistogram" "count" "J" (.long ((0 : Int64) + (1 : Int64))) := f42_F_oc_count.keep K43 nin0
      have f43_F_oc_max : Fld Z T43.heap oc "com/example/flipside/flipside/tool/LatencyHistogram" "max" "J" (.long (own_rm (0 : Int64) qx)) := f42_F_oc_max.keep K43 nin0
      have f43_A_ab33 : own_A Z T43.heap ab33 .long (28160) (fun z => .long (own_rec own_k0L qx z)) := f42_A_ab33.keep K43 nin0
      have f43_F_oa_counts : Fld Z T43.heap oa "com/example/flipside/flipside/tool/LatencyHistogram" "counts" "[J" (.ref ab29) := f42_F_oa_counts.keep K43 nin0
      have f43_F_oa_count : Fld Z T43.heap oa "com/example/flipside/flipside/tool/LatencyHistogram" "count" "J" (.long (((0 : Int64) + (1 : Int64)) + (0 : Int64))) := f42_F_oa_count.keep K43 nin0
      have f43_F_oa_max : Fld Z T43.heap oa "com/example/flipside/flipside/tool/LatencyHistogram" "max" "J" (.long (own_lmax (own_rm (0 : Int64) qx) (0 : Int64))) := f42_F_oa_max.keep K43 nin0
      have f43_A_ab29 : own_A Z T43.heap ab29 .long (28160) (fun z => .long (own_rec own_k0L qx z)) := f42_A_ab29.keep K43 nin0
      have z43c : n0 ≤ T43.heap.size := Nat.le_trans z42c K43.1
      refine own_W.steps st43 ?_
      show own_W p e (FrameEnd s) below room_1.cells room_1.slots (Q0 Z qx qy pf h0 n0) T43 (mkF m 242 #[.val (.long qx), .second, .val (.long qy), .second, .val (.int pf), .val (.int (1 : Int32)), .val (.int (0 : Int32)), .val (.ref oa), .val (.ref ob), .val (.ref oc), .val (.long (1 : Int64)), .second, .val (.long (own_lmax qx (0 : Int64))), .second, .val (.long (0 : Int64)), .second, .val (.long kv), .second] [(.long (own_pct (own_rec own_k0L qx) (own_rank ((0 : Int64) + (1 : Int64)) (1 : Int64) kv) (own_rm (0 : Int64) qx) 28160 0 (0 : Int64))), (.long (own_pct (own_rec own_k0L qx) (own_rank (((0 : Int64) + (1 : Int64)) + (0 : Int64)) (1 : Int64) kv) (own_lmax (own_rm (0 : Int64) qx) (0 : Int64)) 28160 0 (0 : Int64)))])
      refine own_lcmp X43 hx (hb hby at_242) (rfl : 242 + 1 = 243) ?_
      have hc243 : (own_pct (own_rec own_k0L qx) (own_rank (((0 : Int64) + (1 : Int64)) + (0 : Int64)) (1 : Int64) kv) (own_lmax (own_rm (0 : Int64) qx) (0 : Int64)) 28160 0 (0 : Int64)) = (own_pct (own_rec own_k0L qx) (own_rank ((0 : Int64) + (1 : Int64)) (1 : Int64) kv) (own_rm (0 : Int64) qx) 28160 0 (0 : Int64)) := by rw [show (((0 : Int64) + (1 : Int64)) + (0 : Int64)) = ((0 : Int64) + (1 : Int64)) from by decide, own_rmz]
      refine own_ifNo X43 hx (hb hby at_243) (XT.ll_ne_f hc243) (rfl : 243 + 3 = 246) ?_
      refine own_iconst X43 hx (hb hby at_246) (1 : Int32) (by first | rfl | decide) (rfl : 246 + 1 = 247) ?_
      refine own_goto X43 hx (hb hby at_247) (pc' := 251) (by decide) (by decide) ?_
      refine own_retN (t := .boolean) X43 hx hlk hret (by simp) (hb hby at_251) (z' := (1 : Int32)) (by decide) (by decide) (by decide) ?_
      show Q0 Z qx qy pf h0 n0 (some (.int (1 : Int32))) T43.heap _
      skip
      exact ⟨rfl, N43⟩
    · skip
      refine own_ifNo X0 hx (hb hby at_18) ((if0 _ _).trans (feq hc18).1) (rfl : 18 + 3 = 21) ?_
      refine own_iconst X0 hx (hb hby at_21) (1 : Int32) (by first | rfl | decide) (rfl : 21 + 1 = 22) ?_
      refine own_goto X0 hx (hb hby at_22) (pc' := 26) (by decide) (by decide) ?_
      refine own_istore X0 hx (hb hby at_26) (l' := #[.val (.long qx), .second, .val (.long qy), .second, .val (.int pf), .val (.int (1 : Int32)), .val (.int (1 : Int32)), .unset, .unset, .unset, .unset, .unset, .unset, .unset, .unset, .unset, .unset, .unset]) rfl (rfl : 26 + 2 = 28) ?_
      obtain ⟨T44, h44, X44, e44, E44, A44, D44, -, st44⟩ := newO X0 hx hZ hown (hw _ (List.mem_of_getElem? (i := 0) rfl)) (hw _ (List.mem_of_getElem? (i := 1) rfl)) (hw _ (List.mem_of_getElem? (i := 2) rfl)) e0 (g := (mkF m 28 #[.val (.long qx), .second, .val (.long qy), .second, .val (.int pf), .val (.int (1 : Int32)), .val (.int (1 : Int32)), .unset, .unset, .unset, .unset, .unset, .unset, .unset, .unset, .unset, .unset, .unset] [])) rfl (hb hby at_28) (by decide) (by decide)
      obtain ⟨oa, g44⟩ : ∃ z, z = h0.size := ⟨_, rfl⟩
      rw [← g44] at A44 D44 st44
      refine own_W.step st44 ?_
      have g_oa : n0 ≤ oa := Nat.le_trans Z0 (Nat.le_of_eq g44.symm)
      have z44 : n0 ≤ h44.size := Nat.le_trans Z0 E44.1
      have F44_counts : Fld Z h44 oa "com/example/flipside/flipside/tool/LatencyHistogram" "counts" "[J" .null := D44 (Or.inr (hw _ (List.mem_of_getElem? (i := 11) rfl))) (ty := (.array .long)) (by decide)
      have F44_count : Fld Z h44 oa "com/example/flipside/flipside/tool/LatencyHistogram" "count" "J" (.long (0 : Int64)) := D44 (Or.inl (hw _ (List.mem_of_getElem? (i := 18) rfl))) (ty := .long) (by decide)
      have F44_max : Fld Z h44 oa "com/example/flipside/flipside/tool/LatencyHistogram" "max" "J" (.long (0 : Int64)) := D44 (Or.inl (hw _ (List.mem_of_getElem? (i := 20) rfl))) (ty := .long) (by decide)
      show own_W p e (FrameEnd s) below room_1.cells room_1.slots (Q0 Z qx qy pf h0 n0) T44 (mkF m 31 #[.val (.long qx), .second, .val (.long qy), .second, .val (.int pf), .val (.int (1 : Int32)), .val (.int (1 : Int32)), .unset, .unset, .unset, .unset, .unset, .unset, .unset, .unset, .unset, .unset, .unset] [(.ref oa)])
      refine own_dup X44 hx (hb hby at_31) rfl (rfl : 31 + 1 = 32) ?_
      obtain ⟨_, _, ⟨T45, L45, k45, n45⟩, -, X45, ⟨Lc45, hQ45, l45, y45, z45⟩, st45⟩ := X44.specialBack hx (y := (⟨"com/example/flipside/flipside/tool/LatencyHistogram", "<init>", "()V"⟩ : MethodName)) rfl hown (mvT hZ (hw _ (List.mem_of_getElem? (i := 3) rfl))) (mvT hZ (hw _ (List.mem_of_getElem? (i := 4) rfl))) (mvT hZ (hw _ (List.mem_of_getElem? (i := 5) rfl))) (by decide) (backOf (W := 1) (rm1 l Z a0 hw [] oa  h44 n0 z44 A44 F44_counts F44_count F44_max g_oa) hZ (hw _ (List.mem_of_getElem? (i := 5) rfl)) (hw _ (List.mem_of_getElem? (i := 2) rfl)) (by decide) (by decide)) (g := (mkF m 32 #[.val (.long qx), .second, .val (.long qy), .second, .val (.int pf), .val (.int (1 : Int32)), .val (.int (1 : Int32)), .unset, .unset, .unset, .unset, .unset, .unset, .unset, .unset, .unset, .unset, .unset] [(.ref oa), (.ref oa)])) rfl (by rw [hml]; rfl) (Steps.refl _) (a := oa) (argsL := []) (rest := [(.ref oa)]) (lenOf own_pd___V rfl) rfl (by show 2 * 0 + _ ≤ _; exact Nat.le_of_eq rfl) (hb hby at_32) (fun _ _ => ⟨rfl, e44, (by decide : 1 + 1 ≤ _), (by decide : 3 + 28160 ≤ _)⟩)
      dsimp only [Pt.U, Pt.locs, Pt.cells, Pt.slots] at X45 l45 y45 z45 st45 hQ45
      subst l45 y45 z45
      obtain ⟨ab45, rfl, N45q, K45, sz45_ab, fq45_0, fq45_1, fq45_2, fq45_3, fq45_4⟩ := hQ45
      have N45 := Fr.app N0 N45q
      have ne_oa_ab45 : oa ≠ ab45 := Nat.ne_of_lt (Nat.lt_of_lt_of_le A44.lt sz45_ab)
      have g_ab45 : n0 ≤ ab45 := Nat.le_trans z44 sz45_ab
      have f45_E_oa : Exa Z T45.heap oa "com/example/flipside/flipside/tool/LatencyHistogram" := A44.keep K45
      have z45c : n0 ≤ T45.heap.size := Nat.le_trans z44 K45.1
      refine own_W.steps st45 ?_
      show own_W p e (FrameEnd s) below room_1.cells room_1.slots (Q0 Z qx qy pf h0 n0) T45 (mkF m 35 #[.val (.long qx), .second, .val (.long qy), .second, .val (.int pf), .val (.int (1 : Int32)), .val (.int (1 : Int32)), .unset, .unset, .unset, .unset, .unset, .unset, .unset, .unset, .unset, .unset, .unset] [(.ref oa)])
      refine own_astore X45 hx (hb hby at_35) (l' := #[.val (.long qx), .second, .val (.long qy), .second, .val (.int pf), .val (.int (1 : Int32)), .val (.int (1 : Int32)), .val (.ref oa), .unset, .unset, .unset, .unset, .unset, .unset, .unset, .unset, .unset, .unset]) rfl rfl (rfl : 35 + 2 = 37) ?_
      obtain ⟨T46, h46, X46, e46, E46, A46, D46, -, st46⟩ := newO X45 hx hZ hown (hw _ (List.mem_of_getElem? (i := 0) rfl)) (hw _ (List.mem_of_getElem? (i := 1) rfl)) (hw _ (List.mem_of_getElem? (i := 2) rfl)) rfl (g := (mkF m 37 #[.val (.long qx), .second, .val (.long qy), .second, .val (.int pf), .val (.int (1 : Int32)), .val (.int (1 : Int32)), .val (.ref oa), .unset, .unset, .unset, .unset, .unset, .unset, .unset, .unset, .unset, .unset] [])) rfl (hb hby at_37) (by decide) (by decide)
      obtain ⟨ob, g46⟩ : ∃ z, z = T45.heap.size := ⟨_, rfl⟩
      rw [← g46] at A46 D46 st46
      refine own_W.step st46 ?_
      have ne_oa_ob : oa ≠ ob := Nat.ne_of_lt (Nat.lt_of_lt_of_le fq45_0.lt (Nat.le_of_eq g46.symm))
      have ne_ab45_ob : ab45 ≠ ob := Nat.ne_of_lt (Nat.lt_of_lt_of_le fq45_4.lt (Nat.le_of_eq g46.symm))
      have g_ob : n0 ≤ ob := Nat.le_trans z45c (Nat.le_of_eq g46.symm)
      have f46_E_oa : Exa Z h46 oa "com/example/flipside/flipside/tool/LatencyHistogram" := fq45_0.ext E46
      have f46_F_oa_counts : Fld Z h46 oa "com/example/flipside/flipside/tool/LatencyHistogram" "counts" "[J" (.ref ab45) := fq45_1.ext E46
      have f46_F_oa_count : Fld Z h46 oa "com/example/flipside/flipside/tool/LatencyHistogram" "count" "J" (.long (0 : Int64)) := fq45_2.ext E46
      have f46_F_oa_max : Fld Z h46 oa "com/example/flipside/flipside/tool/LatencyHistogram" "max" "J" (.long (0 : Int64)) := fq45_3.ext E46
      have f46_A_ab45 : own_A Z h46 ab45 .long (28160) (fun z => .long (own_k0L z)) := fq45_4.ext E46
      have z46 : n0 ≤ h46.size := Nat.le_trans z45c E46.1
      have F46_counts : Fld Z h46 ob "com/example/flipside/flipside/tool/LatencyHistogram" "counts" "[J" .null := D46 (Or.inr (hw _ (List.mem_of_getElem? (i := 11) rfl))) (ty := (.array .long)) (by decide)
      have F46_count : Fld Z h46 ob "com/example/flipside/flipside/tool/LatencyHistogram" "count" "J" (.long (0 : Int64)) := D46 (Or.inl (hw _ (List.mem_of_getElem? (i := 18) rfl))) (ty := .long) (by decide)
      have F46_max : Fld Z h46 ob "com/example/flipside/flipside/tool/LatencyHistogram" "max" "J" (.long (0 : Int64)) := D46 (Or.inl (hw _ (List.mem_of_getElem? (i := 20) rfl))) (ty := .long) (by decide)
      show own_W p e (FrameEnd s) below room_1.cells room_1.slots (Q0 Z qx qy pf h0 n0) T46 (mkF m 40 #[.val (.long qx), .second, .val (.long qy), .second, .val (.int pf), .val (.int (1 : Int32)), .val (.int (1 : Int32)), .val (.ref oa), .unset, .unset, .unset, .unset, .unset, .unset, .unset, .unset, .unset, .unset] [(.ref ob)])
      refine own_dup X46 hx (hb hby at_40) rfl (rfl : 40 + 1 = 41) ?_
      obtain ⟨_, _, ⟨T47, L47, k47, n47⟩, -, X47, ⟨Lc47, hQ47, l47, y47, z47⟩, st47⟩ := X46.specialBack hx (y := (⟨"com/example/flipside/flipside/tool/LatencyHistogram", "<init>", "()V"⟩ : MethodName)) rfl hown (mvT hZ (hw _ (List.mem_of_getElem? (i := 3) rfl))) (mvT hZ (hw _ (List.mem_of_getElem? (i := 4) rfl))) (mvT hZ (hw _ (List.mem_of_getElem? (i := 5) rfl))) (by decide) (backOf (W := 1) (rm1 l Z a0 hw [] ob  h46 n0 z46 A46 F46_counts F46_count F46_max g_ob) hZ (hw _ (List.mem_of_getElem? (i := 5) rfl)) (hw _ (List.mem_of_getElem? (i := 2) rfl)) (by decide) (by decide)) (g := (mkF m 41 #[.val (.long qx), .second, .val (.long qy), .second, .val (.int pf), .val (.int (1 : Int32)), .val (.int (1 : Int32)), .val (.ref oa), .unset, .unset, .unset, .unset, .unset, .unset, .unset, .unset, .unset, .unset] [(.ref ob), (.ref ob)])) rfl (by rw [hml]; rfl) (Steps.refl _) (a := ob) (argsL := []) (rest := [(.ref ob)]) (lenOf own_pd___V rfl) rfl (by show 2 * 0 + _ ≤ _; exact Nat.le_of_eq rfl) (hb hby at_41) (fun _ _ => ⟨rfl, e46, (by decide : 3 + 1 ≤ _), (by decide : 28166 + 28160 ≤ _)⟩)
      dsimp only [Pt.U, Pt.locs, Pt.cells, Pt.slots] at X47 l47 y47 z47 st47 hQ47
      subst l47 y47 z47
      obtain ⟨ab47, rfl, N47q, K47, sz47_ab, fq47_0, fq47_1, fq47_2, fq47_3, fq47_4⟩ := hQ47
      have N47 := Fr.app N45 N47q
      have ne_oa_ab47 : oa ≠ ab47 := Nat.ne_of_lt (Nat.lt_of_lt_of_le f46_E_oa.lt sz47_ab)
      have ne_ab45_ab47 : ab45 ≠ ab47 := Nat.ne_of_lt (Nat.lt_of_lt_of_le f46_A_ab45.lt sz47_ab)
      have ne_ob_ab47 : ob ≠ ab47 := Nat.ne_of_lt (Nat.lt_of_lt_of_le A46.lt sz47_ab)
      have g_ab47 : n0 ≤ ab47 := Nat.le_trans z46 sz47_ab
      have f47_E_oa : Exa Z T47.heap oa "com/example/flipside/flipside/tool/LatencyHistogram" := f46_E_oa.keep K47
      have f47_F_oa_counts : Fld Z T47.heap oa "com/example/flipside/flipside/tool/LatencyHistogram" "counts" "[J" (.ref ab45) := f46_F_oa_counts.keep K47 (ninS ne_oa_ob nin0)
      have f47_F_oa_count : Fld Z T47.heap oa "com/example/flipside/flipside/tool/LatencyHistogram" "count" "J" (.long (0 : Int64)) := f46_F_oa_count.keep K47 (ninS ne_oa_ob nin0)
      have f47_F_oa_max : Fld Z T47.heap oa "com/example/flipside/flipside/tool/LatencyHistogram" "max" "J" (.long (0 : Int64)) := f46_F_oa_max.keep K47 (ninS ne_oa_ob nin0)
      have f47_A_ab45 : own_A Z T47.heap ab45 .long (28160) (fun z => .long (own_k0L z)) := f46_A_ab45.keep K47 (ninS ne_ab45_ob nin0)
      have f47_E_ob : Exa Z T47.heap ob "com/example/flipside/flipside/tool/LatencyHistogram" := A46.keep K47
      have z47c : n0 ≤ T47.heap.size := Nat.le_trans z46 K47.1
      refine own_W.steps st47 ?_
      show own_W p e (FrameEnd s) below room_1.cells room_1.slots (Q0 Z qx qy pf h0 n0) T47 (mkF m 44 #[.val (.long qx), .second, .val (.long qy), .second, .val (.int pf), .val (.int (1 : Int32)), .val (.int (1 : Int32)), .val (.ref oa), .unset, .unset, .unset, .unset, .unset, .unset, .unset, .unset, .unset, .unset] [(.ref ob)])
      refine own_astore X47 hx (hb hby at_44) (l' := #[.val (.long qx), .second, .val (.long qy), .second, .val (.int pf), .val (.int (1 : Int32)), .val (.int (1 : Int32)), .val (.ref oa), .val (.ref ob), .unset, .unset, .unset, .unset, .unset, .unset, .unset, .unset, .unset]) rfl rfl (rfl : 44 + 2 = 46) ?_
      obtain ⟨T48, h48, X48, e48, E48, A48, D48, -, st48⟩ := newO X47 hx hZ hown (hw _ (List.mem_of_getElem? (i := 0) rfl)) (hw _ (List.mem_of_getElem? (i := 1) rfl)) (hw _ (List.mem_of_getElem? (i := 2) rfl)) rfl (g := (mkF m 46 #[.val (.long qx), .second, .val (.long qy), .second, .val (.int pf), .val (.int (1 : Int32)), .val (.int (1 : Int32)), .val (.ref oa), .val (.ref ob), .unset, .unset, .unset, .unset, .unset, .unset, .unset, .unset, .unset] [])) rfl (hb hby at_46) (by decide) (by decide)
      obtain ⟨oc, g48⟩ : ∃ z, z = T47.heap.size := ⟨_, rfl⟩
      rw [← g48] at A48 D48 st48
      refine own_W.step st48 ?_
      have ne_oa_oc : oa ≠ oc := Nat.ne_of_lt (Nat.lt_of_lt_of_le f47_E_oa.lt (Nat.le_of_eq g48.symm))
      have ne_ab45_oc : ab45 ≠ oc := Nat.ne_of_lt (Nat.lt_of_lt_of_le f47_A_ab45.lt (Nat.le_of_eq g48.symm))
      have ne_ob_oc : ob ≠ oc := Nat.ne_of_lt (Nat.lt_of_lt_of_le fq47_0.lt (Nat.le_of_eq g48.symm))
      have ne_ab47_oc : ab47 ≠ oc := Nat.ne_of_lt (Nat.lt_of_lt_of_le fq47_4.lt (Nat.le_of_eq g48.symm))
      have g_oc : n0 ≤ oc := Nat.le_trans z47c (Nat.le_of_eq g48.symm)
      have f48_E_oa : Exa Z h48 oa "com/example/flipside/flipside/tool/LatencyHistogram" := f47_E_oa.ext E48
      have f48_F_oa_counts : Fld Z h48 oa "com/example/flipside/flipside/tool/LatencyHistogram" "counts" "[J" (.ref ab45) := f47_F_oa_counts.ext E48
      have f48_F_oa_count : Fld Z h48 oa "com/example/flipside/flipside/tool/LatencyHistogram" "count" "J" (.long (0 : Int64)) := f47_F_oa_count.ext E48
      have f48_F_oa_max : Fld Z h48 oa "com/example/flipside/flipside/tool/LatencyHistogram" "max" "J" (.long (0 : Int64)) := f47_F_oa_max.ext E48
      have f48_A_ab45 : own_A Z h48 ab45 .long (28160) (fun z => .long (own_k0L z)) := f47_A_ab45.ext E48
      have f48_E_ob : Exa Z h48 ob "com/example/flipside/flipside/tool/LatencyHistogram" := fq47_0.ext E48
      have f48_F_ob_counts : Fld Z h48 ob "com/example/flipside/flipside/tool/LatencyHistogram" "counts" "[J" (.ref ab47) := fq47_1.ext E48
      have f48_F_ob_count : Fld Z h48 ob "com/example/flipside/flipside/tool/LatencyHistogram" "count" "J" (.long (0 : Int64)) := fq47_2.ext E48
      have f48_F_ob_max : Fld Z h48 ob "com/example/flipside/flipside/tool/LatencyHistogram" "max" "J" (.long (0 : Int64)) := fq47_3.ext E48
      have f48_A_ab47 : own_A Z h48 ab47 .long (28160) (fun z => .long (own_k0L z)) := fq47_4.ext E48
      have z48 : n0 ≤ h48.size := Nat.le_trans z47c E48.1
      have F48_counts : Fld Z h48 oc "com/example/flipside/flipside/tool/LatencyHistogram" "counts" "[J" .null := D48 (Or.inr (hw _ (List.mem_of_getElem? (i := 11) rfl))) (ty := (.array .long)) (by decide)
      have F48_count : Fld Z h48 oc "com/example/flipside/flipside/tool/LatencyHistogram" "count" "J" (.long (0 : Int64)) := D48 (Or.inl (hw _ (List.mem_of_getElem? (i := 18) rfl))) (ty := .long) (by decide)
      have F48_max : Fld Z h48 oc "com/example/flipside/flipside/tool/LatencyHistogram" "max" "J" (.long (0 : Int64)) := D48 (Or.inl (hw _ (List.mem_of_getElem? (i := 20) rfl))) (ty := .long) (by decide)
      show own_W p e (FrameEnd s) below room_1.cells room_1.slots (Q0 Z qx qy pf h0 n0) T48 (mkF m 49 #[.val (.long qx), .second, .val (.long qy), .second, .val (.int pf), .val (.int (1 : Int32)), .val (.int (1 : Int32)), .val (.ref oa), .val (.ref ob), .unset, .unset, .unset, .unset, .unset, .unset, .unset, .unset, .unset] [(.ref oc)])
      refine own_dup X48 hx (hb hby at_49) rfl (rfl : 49 + 1 = 50) ?_
      obtain ⟨_, _, ⟨T49, L49, k49, n49⟩, -, X49, ⟨Lc49, hQ49, l49, y49, z49⟩, st49⟩ := X48.specialBack hx (y := (⟨"com/example/flipside/flipside/tool/LatencyHistogram", "<init>", "()V"⟩ : MethodName)) rfl hown (mvT hZ (hw _ (List.mem_of_getElem? (i := 3) rfl))) (mvT hZ (hw _ (List.mem_of_getElem? (i := 4) rfl))) (mvT hZ (hw _ (List.mem_of_getElem? (i := 5) rfl))) (by decide) (backOf (W := 1) (rm1 l Z a0 hw [] oc  h48 n0 z48 A48 F48_counts F48_count F48_max g_oc) hZ (hw _ (List.mem_of_getElem? (i := 5) rfl)) (hw _ (List.mem_of_getElem? (i := 2) rfl)) (by decide) (by decide)) (g := (mkF m 50 #[.val (.long qx), .second, .val (.long qy), .second, .val (.int pf), .val (.int (1 : Int32)), .val (.int (1 : Int32)), .val (.ref oa), .val (.ref ob), .unset, .unset, .unset, .unset, .unset, .unset, .unset, .unset, .unset] [(.ref oc), (.ref oc)])) rfl (by rw [hml]; rfl) (Steps.refl _) (a := oc) (argsL := []) (rest := [(.ref oc)]) (lenOf own_pd___V rfl) rfl (by show 2 * 0 + _ ≤ _; exact Nat.le_of_eq rfl) (hb hby at_50) (fun _ _ => ⟨rfl, e48, (by decide : 5 + 1 ≤ _), (by decide : 56329 + 28160 ≤ _)⟩)
      dsimp only [Pt.U, Pt.locs, Pt.cells, Pt.slots] at X49 l49 y49 z49 st49 hQ49
      subst l49 y49 z49
      obtain ⟨ab49, rfl, N49q, K49, sz49_ab, fq49_0, fq49_1, fq49_2, fq49_3, fq49_4⟩ := hQ49
      have N49 := Fr.app N47 N49q
      have ne_oa_ab49 : oa ≠ ab49 := Nat.ne_of_lt (Nat.lt_of_lt_of_le f48_E_oa.lt sz49_ab)
      have ne_ab45_ab49 : ab45 ≠ ab49 := Nat.ne_of_lt (Nat.lt_of_lt_of_le f48_A_ab45.lt sz49_ab)
      have ne_ob_ab49 : ob ≠ ab49 := Nat.ne_of_lt (Nat.lt_of_lt_of_le f48_E_ob.lt sz49_ab)
      have ne_ab47_ab49 : ab47 ≠ ab49 := Nat.ne_of_lt (Nat.lt_of_lt_of_le f48_A_ab47.lt sz49_ab)
      have ne_oc_ab49 : oc ≠ ab49 := Nat.ne_of_lt (Nat.lt_of_lt_of_le A48.lt sz49_ab)
      have g_ab49 : n0 ≤ ab49 := Nat.le_trans z48 sz49_ab
      have f49_E_oa : Exa Z T49.heap oa "com/example/flipside/flipside/tool/LatencyHistogram" := f48_E_oa.keep K49
      have f49_F_oa_counts : Fld Z T49.heap oa "com/example/flipside/flipside/tool/LatencyHistogram" "counts" "[J" (.ref ab45) := f48_F_oa_counts.keep K49 (ninS ne_oa_oc nin0)
      have f49_F_oa_count : Fld Z T49.heap oa "com/example/flipside/flipside/tool/LatencyHistogram" "count" "J" (.long (0 : Int64)) := f48_F_oa_count.keep K49 (ninS ne_oa_oc nin0)
      have f49_F_oa_max : Fld Z T49.heap oa "com/example/flipside/flipside/tool/LatencyHistogram" "max" "J" (.long (0 : Int64)) := f48_F_oa_max.keep K49 (ninS ne_oa_oc nin0)
      have f49_A_ab45 : own_A Z T49.heap ab45 .long (28160) (fun z => .long (own_k0L z)) := f48_A_ab45.keep K49 (ninS ne_ab45_oc nin0)
      have f49_E_ob : Exa Z T49.heap ob "com/example/flipside/flipside/tool/LatencyHistogram" := f48_E_ob.keep K49
      have f49_F_ob_counts : Fld Z T49.heap ob "com/example/flipside/flipside/tool/LatencyHistogram" "counts" "[J" (.ref ab47) := f48_F_ob_counts.keep K49 (ninS ne_ob_oc nin0)
      have f49_F_ob_count : Fld Z T49.heap ob "com/example/flipside/flipside/tool/LatencyHistogram" "count" "J" (.long (0 : Int64)) := f48_F_ob_count.keep K49 (ninS ne_ob_oc nin0)
      have f49_F_ob_max : Fld Z T49.heap ob "com/example/flipside/flipside/tool/LatencyHistogram" "max" "J" (.long (0 : Int64)) := f48_F_ob_max.keep K49 (ninS ne_ob_oc nin0)
      have f49_A_ab47 : own_A Z T49.heap ab47 .long (28160) (fun z => .long (own_k0L z)) := f48_A_ab47.keep K49 (ninS ne_ab47_oc nin0)
      have f49_E_oc : Exa Z T49.heap oc "com/example/flipside/flipside/tool/LatencyHistogram" := A48.keep K49
      have z49c : n0 ≤ T49.heap.size := Nat.le_trans z48 K49.1
      refine own_W.steps st49 ?_
      show own_W p e (FrameEnd s) below room_1.cells room_1.slots (Q0 Z qx qy pf h0 n0) T49 (mkF m 53 #[.val (.long qx), .second, .val (.long qy), .second, .val (.int pf), .val (.int (1 : Int32)), .val (.int (1 : Int32)), .val (.ref oa), .val (.ref ob), .unset, .unset, .unset, .unset, .unset, .unset, .unset, .unset, .unset] [(.ref oc)])
      refine own_astore X49 hx (hb hby at_53) (l' := #[.val (.long qx), .second, .val (.long qy), .second, .val (.int pf), .val (.int (1 : Int32)), .val (.int (1 : Int32)), .val (.ref oa), .val (.ref ob), .val (.ref oc), .unset, .unset, .unset, .unset, .unset, .unset, .unset, .unset]) rfl rfl (rfl : 53 + 2 = 55) ?_
      refine own_iload X49 hx (hb hby at_55) (v := (1 : Int32)) rfl (rfl : 55 + 2 = 57) ?_
      have hc57 : ¬ ((1 : Int32) = (0 : Int32)) := by decide
      refine own_ifNo X49 hx (hb hby at_57) ((if0 _ _).trans (feq hc57).1) (rfl : 57 + 3 = 60) ?_
      refine own_aload X49 hx (hb hby at_60) (v := (.ref oa)) rfl rfl (rfl : 60 + 2 = 62) ?_
      refine own_lloadN X49 hx (hb hby at_62) (v := qx) rfl (rfl : 62 + 1 = 63) ?_
      obtain ⟨cq50, kq50, q50a, q50b, q50c⟩ := isOf hZ rfl f49_E_oa
      obtain ⟨_, _, ⟨T50, L50, k50, n50⟩, -, X50, ⟨Lc50, hQ50, l50, y50, z50⟩, st50⟩ := X49.virtualBack hx (y := (⟨"com/example/flipside/flipside/tool/LatencyHistogram", "record", "(J)V"⟩ : MethodName)) (z := (⟨"com/example/flipside/flipside/tool/LatencyHistogram", "record", "(J)V"⟩ : MethodName)) hown (mvT hZ (hw _ (List.mem_of_getElem? (i := 36) rfl))) (mvT hZ (hw _ (List.mem_of_getElem? (i := 37) rfl))) (notFace_of_selects (args := #[]) (mvT hZ (hw _ (List.mem_of_getElem? (i := 39) rfl)))) (mvT hZ (hw _ (List.mem_of_getElem? (i := 39) rfl))) (mvT hZ (hw _ (List.mem_of_getElem? (i := 38) rfl))) (by decide) (backOf (W := 0) (rm7 l Z a0 hw [] oa qx ab45 (0 : Int64) (0 : Int64) own_k0L T49.heap n0 z49c f49_E_oa f49_F_oa_counts f49_F_oa_count f49_F_oa_max f49_A_ab45 g_oa g_ab45 (ne_oa_ab45)) hZ (hw _ (List.mem_of_getElem? (i := 40) rfl)) (hw _ (List.mem_of_getElem? (i := 2) rfl)) (by decide) (by decide)) q50a q50c (g := (mkF m 63 #[.val (.long qx), .second, .val (.long qy), .second, .val (.int pf), .val (.int (1 : Int32)), .val (.int (1 : Int32)), .val (.ref oa), .val (.ref ob), .val (.ref oc), .unset, .unset, .unset, .unset, .unset, .unset, .unset, .unset] [(.long qx), (.ref oa)])) rfl (by rw [hml]; rfl) (Steps.refl _) (argsL := [(.long qx)]) (rest := []) (lenOf own_pd__J_V rfl) rfl (by show 2 * 0 + _ ≤ _; exact Nat.le_of_eq rfl) (hb hby at_63) (fun _ _ => ⟨rfl, rfl, (by decide : 6 + 0 ≤ _), (by decide : 84489 + 0 ≤ _)⟩)
      dsimp only [Pt.U, Pt.locs, Pt.cells, Pt.slots] at X50 l50 y50 z50 st50 hQ50
      subst l50 y50 z50
      obtain ⟨rfl, N50q, K50, fq50_0, fq50_1, fq50_2, fq50_3, fq50_4⟩ := hQ50
      have N50 := Fr.app N49 N50q
      have f50_E_oa : Exa Z T50.heap oa "com/example/flipside/flipside/tool/LatencyHistogram" := f49_E_oa.keep K50
      have f50_E_ob : Exa Z T50.heap ob "com/example/flipside/flipside/tool/LatencyHistogram" := f49_E_ob.keep K50
      have f50_F_ob_counts : Fld Z T50.heap ob "com/example/flipside/flipside/tool/LatencyHistogram" "counts" "[J" (.ref ab47) := f49_F_ob_counts.keep K50 (ninS (Ne.symm ne_oa_ob) (ninS (Ne.symm ne_ab45_ob) nin0))
      have f50_F_ob_count : Fld Z T50.heap ob "com/example/flipside/flipside/tool/LatencyHistogram" "count" "J" (.long (0 : Int64)) := f49_F_ob_count.keep K50 (ninS (Ne.symm ne_oa_ob) (ninS (Ne.symm ne_ab45_ob) nin0))
      have f50_F_ob_max : Fld Z T50.heap ob "com/example/flipside/flipside/tool/LatencyHistogram" "max" "J" (.long (0 : Int64)) := f49_F_ob_max.keep K50 (ninS (Ne.symm ne_oa_ob) (ninS (Ne.symm ne_ab45_ob) nin0))
      have f50_A_ab47 : own_A Z T50.heap ab47 .long (28160) (fun z => .long (own_k0L z)) := f49_A_ab47.keep K50 (ninS (Ne.symm ne_oa_ab47) (ninS (Ne.symm ne_ab45_ab47) nin0))
      have f50_E_oc : Exa Z T50.heap oc "com/example/flipside/flipside/tool/LatencyHistogram" := fq49_0.keep K50
      have f50_F_oc_counts : Fld Z T50.heap oc "com/example/flipside/flipside/tool/LatencyHistogram" "counts" "[J" (.ref ab49) := fq49_1.keep K50 (ninS (Ne.symm ne_oa_oc) (ninS (Ne.symm ne_ab45_oc) nin0))
      have f50_F_oc_count : Fld Z T50.heap oc "com/example/flipside/flipside/tool/LatencyHistogram" "count" "J" (.long (0 : Int64)) := fq49_2.keep K50 (ninS (Ne.symm ne_oa_oc) (ninS (Ne.symm ne_ab45_oc) nin0))
      have f50_F_oc_max : Fld Z T50.heap oc "com/example/flipside/flipside/tool/LatencyHistogram" "max" "J" (.long (0 : Int64)) := fq49_3.keep K50 (ninS (Ne.symm ne_oa_oc) (ninS (Ne.symm ne_ab45_oc) nin0))
      have f50_A_ab49 : own_A Z T50.heap ab49 .long (28160) (fun z => .long (own_k0L z)) := fq49_4.keep K50 (ninS (Ne.symm ne_oa_ab49) (ninS (Ne.symm ne_ab45_ab49) nin0))
      have z50c : n0 ≤ T50.heap.size := Nat.le_trans z49c K50.1
      refine own_W.steps st50 ?_
      show own_W p e (FrameEnd s) below room_1.cells room_1.slots (Q0 Z qx qy pf h0 n0) T50 (mkF m 66 #[.val (.long qx), .second, .val (.long qy), .second, .val (.int pf), .val (.int (1 : Int32)), .val (.int (1 : Int32)), .val (.ref oa), .val (.ref ob), .val (.ref oc), .unset, .unset, .unset, .unset, .unset, .unset, .unset, .unset] [])
      refine own_aload X50 hx (hb hby at_66) (v := (.ref oc)) rfl rfl (rfl : 66 + 2 = 68) ?_
      refine own_lloadN X50 hx (hb hby at_68) (v := qx) rfl (rfl : 68 + 1 = 69) ?_
      obtain ⟨cq51, kq51, q51a, q51b, q51c⟩ := isOf hZ rfl f50_E_oc
      obtain ⟨_, _, ⟨T51, L51, k51, n51⟩, -, X51, ⟨Lc51, hQ51, l51, y51, z51⟩, st51⟩ := X50.virtualBack hx (y := (⟨"com/example/flipside/flipside/tool/LatencyHistogram", "record", "(J)V"⟩ : MethodName)) (z := (⟨"com/example/flipside/flipside/tool/LatencyHistogram", "record", "(J)V"⟩ : MethodName)) hown (mvT hZ (hw _ (List.mem_of_getElem? (i := 36) rfl))) (mvT hZ (hw _ (List.mem_of_getElem? (i := 37) rfl))) (notFace_of_selects (args := #[]) (mvT hZ (hw _ (List.mem_of_getElem? (i := 39) rfl)))) (mvT hZ (hw _ (List.mem_of_getElem? (i := 39) rfl))) (mvT hZ (hw _ (List.mem_of_getElem? (i := 38) rfl))) (by decide) (backOf (W := 0) (rm7 l Z a0 hw [] oc qx ab49 (0 : Int64) (0 : Int64) own_k0L T50.heap n0 z50c f50_E_oc f50_F_oc_counts f50_F_oc_count f50_F_oc_max f50_A_ab49 g_oc g_ab49 (ne_oc_ab49)) hZ (hw _ (List.mem_of_getElem? (i := 40) rfl)) (hw _ (List.mem_of_getElem? (i := 2) rfl)) (by decide) (by decide)) q51a q51c (g := (mkF m 69 #[.val (.long qx), .second, .val (.long qy), .second, .val (.int pf), .val (.int (1 : Int32)), .val (.int (1 : Int32)), .val (.ref oa), .val (.ref ob), .val (.ref oc), .unset, .unset, .unset, .unset, .unset, .unset, .unset, .unset] [(.long qx), (.ref oc)])) rfl (by rw [hml]; rfl) (Steps.refl _) (argsL := [(.long qx)]) (rest := []) (lenOf own_pd__J_V rfl) rfl (by show 2 * 0 + _ ≤ _; exact Nat.le_of_eq rfl) (hb hby at_69) (fun _ _ => ⟨rfl, rfl, (by decide : 6 + 0 ≤ _), (by decide : 84489 + 0 ≤ _)⟩)
      dsimp only [Pt.U, Pt.locs, Pt.cells, Pt.slots] at X51 l51 y51 z51 st51 hQ51
      subst l51 y51 z51
      obtain ⟨rfl, N51q, K51, fq51_0, fq51_1, fq51_2, fq51_3, fq51_4⟩ := hQ51
      have N51 := Fr.app N50 N51q
      have f51_E_oa : Exa Z T51.heap oa "com/example/flipside/flipside/tool/LatencyHistogram" := fq50_0.keep K51
      have f51_E_ob : Exa Z T51.heap ob "com/example/flipside/flipside/tool/LatencyHistogram" := f50_E_ob.keep K51
      have f51_F_ob_counts : Fld Z T51.heap ob "com/example/flipside/flipside/tool/LatencyHistogram" "counts" "[J" (.ref ab47) := f50_F_ob_counts.keep K51 (ninS ne_ob_oc (ninS ne_ob_ab49 nin0))
      have f51_F_ob_count : Fld Z T51.heap ob "com/example/flipside/flipside/tool/LatencyHistogram" "count" "J" (.long (0 : Int64)) := f50_F_ob_count.keep K51 (ninS ne_ob_oc (ninS ne_ob_ab49 nin0))
      have f51_F_ob_max : Fld Z T51.heap ob "com/example/flipside/flipside/tool/LatencyHistogram" "max" "J" (.long (0 : Int64)) := f50_F_ob_max.keep K51 (ninS ne_ob_oc (ninS ne_ob_ab49 nin0))
      have f51_A_ab47 : own_A Z T51.heap ab47 .long (28160) (fun z => .long (own_k0L z)) := f50_A_ab47.keep K51 (ninS ne_ab47_oc (ninS ne_ab47_ab49 nin0))
      have f51_E_oc : Exa Z T51.heap oc "com/example/flipside/flipside/tool/LatencyHistogram" := f50_E_oc.keep K51
      have f51_F_oa_counts : Fld Z T51.heap oa "com/example/flipside/flipside/tool/LatencyHistogram" "counts" "[J" (.ref ab45) := fq50_1.keep K51 (ninS ne_oa_oc (ninS ne_oa_ab49 nin0))
      have f51_F_oa_count : Fld Z T51.heap oa "com/example/flipside/flipside/tool/LatencyHistogram" "count" "J" (.long ((0 : Int64) + (1 : Int64))) := fq50_2.keep K51 (ninS ne_oa_oc (ninS ne_oa_ab49 nin0))
      have f51_F_oa_max : Fld Z T51.heap oa "com/example/flipside/flipside/tool/LatencyHistogram" "max" "J" (.long (own_rm (0 : Int64) qx)) := fq50_3.keep K51 (ninS ne_oa_oc (ninS ne_oa_ab49 nin0))
      have f51_A_ab45 : own_A Z T51.heap ab45 .long (28160) (fun z => .long (own_rec own_k0L qx z)) := fq50_4.keep K51 (ninS ne_ab45_oc (ninS ne_ab45_ab49 nin0))
      have z51c : n0 ≤ T51.heap.size := Nat.le_trans z50c K51.1
      refine own_W.steps st51 ?_
      show own_W p e (FrameEnd s) below room_1.cells room_1.slots (Q0 Z qx qy pf h0 n0) T51 (mkF m 72 #[.val (.long qx), .second, .val (.long qy), .second, .val (.int pf), .val (.int (1 : Int32)), .val (.int (1 : Int32)), .val (.ref oa), .val (.ref ob), .val (.ref oc), .unset, .unset, .unset, .unset, .unset, .unset, .unset, .unset] [])
      refine own_iload X51 hx (hb hby at_72) (v := (1 : Int32)) rfl (rfl : 72 + 2 = 74) ?_
      have hc74 : ¬ ((1 : Int32) = (0 : Int32)) := by decide
      refine own_ifNo X51 hx (hb hby at_74) ((if0 _ _).trans (feq hc74).1) (rfl : 74 + 3 = 77) ?_
      refine own_aload X51 hx (hb hby at_77) (v := (.ref ob)) rfl rfl (rfl : 77 + 2 = 79) ?_
      refine own_lloadN X51 hx (hb hby at_79) (v := qy) rfl (rfl : 79 + 1 = 80) ?_
      obtain ⟨cq52, kq52, q52a, q52b, q52c⟩ := isOf hZ rfl f51_E_ob
      obtain ⟨_, _, ⟨T52, L52, k52, n52⟩, -, X52, ⟨Lc52, hQ52, l52, y52, z52⟩, st52⟩ := X51.virtualBack hx (y := (⟨"com/example/flipside/flipside/tool/LatencyHistogram", "record", "(J)V"⟩ : MethodName)) (z := (⟨"com/example/flipside/flipside/tool/LatencyHistogram", "record", "(J)V"⟩ : MethodName)) hown (mvT hZ (hw _ (List.mem_of_getElem? (i := 36) rfl))) (mvT hZ (hw _ (List.mem_of_getElem? (i := 37) rfl))) (notFace_of_selects (args := #[]) (mvT hZ (hw _ (List.mem_of_getElem? (i := 39) rfl)))) (mvT hZ (hw _ (List.mem_of_getElem? (i := 39) rfl))) (mvT hZ (hw _ (List.mem_of_getElem? (i := 38) rfl))) (by decide) (backOf (W := 0) (rm7 l Z a0 hw [] ob qy ab47 (0 : Int64) (0 : Int64) own_k0L T51.heap n0 z51c f51_E_ob f51_F_ob_counts f51_F_ob_count f51_F_ob_max f51_A_ab47 g_ob g_ab47 (ne_ob_ab47)) hZ (hw _ (List.mem_of_getElem? (i := 40) rfl)) (hw _ (List.mem_of_getElem? (i := 2) rfl)) (by decide) (by decide)) q52a q52c (g := (mkF m 80 #[.val (.long qx), .second, .val (.long qy), .second, .val (.int pf), .val (.int (1 : Int32)), .val (.int (1 : Int32)), .val (.ref oa), .val (.ref ob), .val (.ref oc), .unset, .unset, .unset, .unset, .unset, .unset, .unset, .unset] [(.long qy), (.ref ob)])) rfl (by rw [hml]; rfl) (Steps.refl _) (argsL := [(.long qy)]) (rest := []) (lenOf own_pd__J_V rfl) rfl (by show 2 * 0 + _ ≤ _; exact Nat.le_of_eq rfl) (hb hby at_80) (fun _ _ => ⟨rfl, rfl, (by decide : 6 + 0 ≤ _), (by decide : 84489 + 0 ≤ _)⟩)
      dsimp only [Pt.U, Pt.locs, Pt.cells, Pt.slots] at X52 l52 y52 z52 st52 hQ52
      subst l52 y52 z52
      obtain ⟨rfl, N52q, K52, fq52_0, fq52_1, fq52_2, fq52_3, fq52_4⟩ := hQ52
      have N52 := Fr.app N51 N52q
      have f52_E_oa : Exa Z T52.heap oa "com/example/flipside/flipside/tool/LatencyHistogram" := f51_E_oa.keep K52
      have f52_E_ob : Exa Z T52.heap ob "com/example/flipside/flipside/tool/LatencyHistogram" := f51_E_ob.keep K52
      have f52_E_oc : Exa Z T52.heap oc "com/example/flipside/flipside/tool/LatencyHistogram" := fq51_0.keep K52
      have f52_F_oa_counts : Fld Z T52.heap oa "com/example/flipside/flipside/tool/LatencyHistogram" "counts" "[J" (.ref ab45) := f51_F_oa_counts.keep K52 (ninS ne_oa_ob (ninS ne_oa_ab47 nin0))
      have f52_F_oa_count : Fld Z T52.heap oa "com/example/flipside/flipside/tool/LatencyHistogram" "count" "J" (.long ((0 : Int64) + (1 : Int64))) := f51_F_oa_count.keep K52 (ninS ne_oa_ob (ninS ne_oa_ab47 nin0))
      have f52_F_oa_max : Fld Z T52.heap oa "com/example/flipside/flipside/tool/LatencyHistogram" "max" "J" (.long (own_rm (0 : Int64) qx)) := f51_F_oa_max.keep K52 (ninS ne_oa_ob (ninS ne_oa_ab47 nin0))
      have f52_A_ab45 : own_A Z T52.heap ab45 .long (28160) (fun z => .long (own_rec own_k0L qx z)) := f51_A_ab45.keep K52 (ninS ne_ab45_ob (ninS ne_ab45_ab47 nin0))
      have f52_F_oc_counts : Fld Z T52.heap oc "com/example/flipside/flipside/tool/LatencyHistogram" "counts" "[J" (.ref ab49) := fq51_1.keep K52 (ninS (Ne.symm ne_ob_oc) (ninS (Ne.symm ne_ab47_oc) nin0))
      have f52_F_oc_count : Fld Z T52.heap oc "com/example/flipside/flipside/tool/LatencyHistogram" "count" "J" (.long ((0 : Int64) + (1 : Int64))) := fq51_2.keep K52 (ninS (Ne.symm ne_ob_oc) (ninS (Ne.symm ne_ab47_oc) nin0))
      have f52_F_oc_max : Fld Z T52.heap oc "com/example/flipside/flipside/tool/LatencyHistogram" "max" "J" (.long (own_rm (0 : Int64) qx)) := fq51_3.keep K52 (ninS (Ne.symm ne_ob_oc) (ninS (Ne.symm ne_ab47_oc) nin0))
      have f52_A_ab49 : own_A Z T52.heap ab49 .long (28160) (fun z => .long (own_rec own_k0L qx z)) := fq51_4.keep K52 (ninS (Ne.symm ne_ob_ab49) (ninS (Ne.symm ne_ab47_ab49) nin0))
      have z52c : n0 ≤ T52.heap.size := Nat.le_trans z51c K52.1
      refine own_W.steps st52 ?_
      show own_W p e (FrameEnd s) below room_1.cells room_1.slots (Q0 Z qx qy pf h0 n0) T52 (mkF m 83 #[.val (.long qx), .second, .val (.long qy), .second, .val (.int pf), .val (.int (1 : Int32)), .val (.int (1 : Int32)), .val (.ref oa), .val (.ref ob), .val (.ref oc), .unset, .unset, .unset, .unset, .unset, .unset, .unset, .unset] [])
      refine own_aload X52 hx (hb hby at_83) (v := (.ref oc)) rfl rfl (rfl : 83 + 2 = 85) ?_
      refine own_lloadN X52 hx (hb hby at_85) (v := qy) rfl (rfl : 85 + 1 = 86) ?_
      obtain ⟨cq53, kq53, q53a, q53b, q53c⟩ := isOf hZ rfl f52_E_oc
      obtain ⟨_, _, ⟨T53, L53, k53, n53⟩, -, X53, ⟨Lc53, hQ53, l53, y53, z53⟩, st53⟩ := X52.virtualBack hx (y := (⟨"com/example/flipside/flipside/tool/LatencyHistogram", "record", "(J)V"⟩ : MethodName)) (z := (⟨"com/example/flipside/flipside/tool/LatencyHistogram", "record", "(J)V"⟩ : MethodName)) hown (mvT hZ (hw _ (List.mem_of_getElem? (i := 36) rfl))) (mvT hZ (hw _ (List.mem_of_getElem? (i := 37) rfl))) (notFace_of_selects (args := #[]) (mvT hZ (hw _ (List.mem_of_getElem? (i := 39) rfl)))) (mvT hZ (hw _ (List.mem_of_getElem? (i := 39) rfl))) (mvT hZ (hw _ (List.mem_of_getElem? (i := 38) rfl))) (by decide) (backOf (W := 0) (rm7 l Z a0 hw [] oc qy ab49 ((0 : Int64) + (1 : Int64)) (own_rm (0 : Int64) qx) (own_rec own_k0L qx) T52.heap n0 z52c f52_E_oc f52_F_oc_counts f52_F_oc_count f52_F_oc_max f52_A_ab49 g_oc g_ab49 (ne_oc_ab49)) hZ (hw _ (List.mem_of_getElem? (i := 40) rfl)) (hw _ (List.mem_of_getElem? (i := 2) rfl)) (by decide) (by decide)) q53a q53c (g := (mkF m 86 #[.val (.long qx), .second, .val (.long qy), .second, .val (.int pf), .val (.int (1 : Int32)), .val (.int (1 : Int32)), .val (.ref oa), .val (.ref ob), .val (.ref oc), .unset, .unset, .unset, .unset, .unset, .unset, .unset, .unset] [(.long qy), (.ref oc)])) rfl (by rw [hml]; rfl) (Steps.refl _) (argsL := [(.long qy)]) (rest := []) (lenOf own_pd__J_V rfl) rfl (by show 2 * 0 + _ ≤ _; exact Nat.le_of_eq rfl) (hb hby at_86) (fun _ _ => ⟨rfl, rfl, (by decide : 6 + 0 ≤ _), (by decide : 84489 + 0 ≤ _)⟩)
      dsimp only [Pt.U, Pt.locs, Pt.cells, Pt.slots] at X53 l53 y53 z53 st53 hQ53
      subst l53 y53 z53
      obtain ⟨rfl, N53q, K53, fq53_0, fq53_1, fq53_2, fq53_3, fq53_4⟩ := hQ53
      have N53 := Fr.app N52 N53q
      have f53_E_oa : Exa Z T53.heap oa "com/example/flipside/flipside/tool/LatencyHistogram" := f52_E_oa.keep K53
      have f53_E_ob : Exa Z T53.heap ob "com/example/flipside/flipside/tool/LatencyHistogram" := fq52_0.keep K53
      have f53_E_oc : Exa Z T53.heap oc "com/example/flipside/flipside/tool/LatencyHistogram" := f52_E_oc.keep K53
      have f53_F_oa_counts : Fld Z T53.heap oa "com/example/flipside/flipside/tool/LatencyHistogram" "counts" "[J" (.ref ab45) := f52_F_oa_counts.keep K53 (ninS ne_oa_oc (ninS ne_oa_ab49 nin0))
      have f53_F_oa_count : Fld Z T53.heap oa "com/example/flipside/flipside/tool/LatencyHistogram" "count" "J" (.long ((0 : Int64) + (1 : Int64))) := f52_F_oa_count.keep K53 (ninS ne_oa_oc (ninS ne_oa_ab49 nin0))
      have f53_F_oa_max : Fld Z T53.heap oa "com/example/flipside/flipside/tool/LatencyHistogram" "max" "J" (.long (own_rm (0 : Int64) qx)) := f52_F_oa_max.keep K53 (ninS ne_oa_oc (ninS ne_oa_ab49 nin0))
      have f53_A_ab45 : own_A Z T53.heap ab45 .long (28160) (fun z => .long (own_rec own_k0L qx z)) := f52_A_ab45.keep K53 (ninS ne_ab45_oc (ninS ne_ab45_ab49 nin0))
      have f53_F_ob_counts : Fld Z T53.heap ob "com/example/flipside/flipside/tool/LatencyHistogram" "counts" "[J" (.ref ab47) := fq52_1.keep K53 (ninS ne_ob_oc (ninS ne_ob_ab49 nin0))
      have f53_F_ob_count : Fld Z T53.heap ob "com/example/flipside/flipside/tool/LatencyHistogram" "count" "J" (.long ((0 : Int64) + (1 : Int64))) := fq52_2.keep K53 (ninS ne_ob_oc (ninS ne_ob_ab49 nin0))
      have f53_F_ob_max : Fld Z T53.heap ob "com/example/flipside/flipside/tool/LatencyHistogram" "max" "J" (.long (own_rm (0 : Int64) qy)) := fq52_3.keep K53 (ninS ne_ob_oc (ninS ne_ob_ab49 nin0))
      have f53_A_ab47 : own_A Z T53.heap ab47 .long (28160) (fun z => .long (own_rec own_k0L qy z)) := fq52_4.keep K53 (ninS ne_ab47_oc (ninS ne_ab47_ab49 nin0))
      have z53c : n0 ≤ T53.heap.size := Nat.le_trans z52c K53.1
      refine own_W.steps st53 ?_
      show own_W p e (FrameEnd s) below room_1.cells room_1.slots (Q0 Z qx qy pf h0 n0) T53 (mkF m 89 #[.val (.long qx), .second, .val (.long qy), .second, .val (.int pf), .val (.int (1 : Int32)), .val (.int (1 : Int32)), .val (.ref oa), .val (.ref ob), .val (.ref oc), .unset, .unset, .unset, .unset, .unset, .unset, .unset, .unset] [])
      refine own_aload X53 hx (hb hby at_89) (v := (.ref oa)) rfl rfl (rfl : 89 + 2 = 91) ?_
      refine own_aload X53 hx (hb hby at_91) (v := (.ref ob)) rfl rfl (rfl : 91 + 2 = 93) ?_
      obtain ⟨cq54, kq54, q54a, q54b, q54c⟩ := isOf hZ rfl f53_E_oa
      obtain ⟨_, _, ⟨T54, L54, k54, n54⟩, -, X54, ⟨Lc54, hQ54, l54, y54, z54⟩, st54⟩ := X53.virtualBack hx (y := (⟨"com/example/flipside/flipside/tool/LatencyHistogram", "add", "(Lcom/example/flipside/flipside/tool/LatencyHistogram;)V"⟩ : MethodName)) (z := (⟨"com/example/flipside/flipside/tool/LatencyHistogram", "add", "(Lcom/example/flipside/flipside/tool/LatencyHistogram;)V"⟩ : MethodName)) hown (mvT hZ (hw _ (List.mem_of_getElem? (i := 12) rfl))) (mvT hZ (hw _ (List.mem_of_getElem? (i := 13) rfl))) (notFace_of_selects (args := #[]) (mvT hZ (hw _ (List.mem_of_getElem? (i := 15) rfl)))) (mvT hZ (hw _ (List.mem_of_getElem? (i := 15) rfl))) (mvT hZ (hw _ (List.mem_of_getElem? (i := 14) rfl))) (by decide) (backOf (W := 0) (rm3 l Z a0 hw [] oa ob ab45 ab47 ((0 : Int64) + (1 : Int64)) ((0 : Int64) + (1 : Int64)) (own_rm (0 : Int64) qx) (own_rm (0 : Int64) qy) (own_rec own_k0L qx) (own_rec own_k0L qy) T53.heap n0 z53c f53_E_oa f53_F_oa_counts f53_F_oa_count f53_F_oa_max f53_F_ob_counts f53_F_ob_count f53_F_ob_max f53_A_ab45 f53_A_ab47 g_oa g_ab45 (ne_oa_ab45) (ne_oa_ob) (ne_oa_ab47) ((Ne.symm ne_ab45_ob)) (ne_ab45_ab47)) hZ (hw _ (List.mem_of_getElem? (i := 16) rfl)) (hw _ (List.mem_of_getElem? (i := 2) rfl)) (by decide) (by decide)) q54a q54c (g := (mkF m 93 #[.val (.long qx), .second, .val (.long qy), .second, .val (.int pf), .val (.int (1 : Int32)), .val (.int (1 : Int32)), .val (.ref oa), .val (.ref ob), .val (.ref oc), .unset, .unset, .unset, .unset, .unset, .unset, .unset, .unset] [(.ref ob), (.ref oa)])) rfl (by rw [hml]; rfl) (Steps.refl _) (argsL := [(.ref ob)]) (rest := []) (lenOf own_pd__Lcom_example_flipside_flipside_tool_LatencyHistogram__V rfl) rfl (by show 2 * 0 + _ ≤ _; exact Nat.le_of_eq rfl) (hb hby at_93) (fun _ _ => ⟨rfl, rfl, (by decide : 6 + 0 ≤ _), (by decide : 84489 + 0 ≤ _)⟩)
      dsimp only [Pt.U, Pt.locs, Pt.cells, Pt.slots] at X54 l54 y54 z54 st54 hQ54
      subst l54 y54 z54
      obtain ⟨rfl, N54q, K54, fq54_0, fq54_1, fq54_2, fq54_3, fq54_4⟩ := hQ54
      have N54 := Fr.app N53 N54q
      have f54_E_oa : Exa Z T54.heap oa "com/example/flipside/flipside/tool/LatencyHistogram" := f53_E_oa.keep K54
      have f54_E_ob : Exa Z T54.heap ob "com/example/flipside/flipside/tool/LatencyHistogram" := f53_E_ob.keep K54
      have f54_E_oc : Exa Z T54.heap oc "com/example/flipside/flipside/tool/LatencyHistogram" := fq53_0.keep K54
      have f54_F_ob_counts : Fld Z T54.heap ob "com/example/flipside/flipside/tool/LatencyHistogram" "counts" "[J" (.ref ab47) := f53_F_ob_counts.keep K54 (ninS (Ne.symm ne_oa_ob) (ninS (Ne.symm ne_ab45_ob) nin0))
      have f54_F_ob_count : Fld Z T54.heap ob "com/example/flipside/flipside/tool/LatencyHistogram" "count" "J" (.long ((0 : Int64) + (1 : Int64))) := f53_F_ob_count.keep K54 (ninS (Ne.symm ne_oa_ob) (ninS (Ne.symm ne_ab45_ob) nin0))
      have f54_F_ob_max : Fld Z T54.heap ob "com/example/flipside/flipside/tool/LatencyHistogram" "max" "J" (.long (own_rm (0 : Int64) qy)) := f53_F_ob_max.keep K54 (ninS (Ne.symm ne_oa_ob) (ninS (Ne.symm ne_ab45_ob) nin0))
      have f54_A_ab47 : own_A Z T54.heap ab47 .long (28160) (fun z => .long (own_rec own_k0L qy z)) := f53_A_ab47.keep K54 (ninS (Ne.symm ne_oa_ab47) (ninS (Ne.symm ne_ab45_ab47) nin0))
      have f54_F_oc_counts : Fld Z T54.heap oc "com/example/flipside/flipside/tool/LatencyHistogram" "counts" "[J" (.ref ab49) := fq53_1.keep K54 (ninS (Ne.symm ne_oa_oc) (ninS (Ne.symm ne_ab45_oc) nin0))
      have f54_F_oc_count : Fld Z T54.heap oc "com/example/flipside/flipside/tool/LatencyHistogram" "count" "J" (.long (((0 : Int64) + (1 : Int64)) + (1 : Int64))) := fq53_2.keep K54 (ninS (Ne.symm ne_oa_oc) (ninS (Ne.symm ne_ab45_oc) nin0))
      have f54_F_oc_max : Fld Z T54.heap oc "com/example/flipside/flipside/tool/LatencyHistogram" "max" "J" (.long (own_rm (own_rm (0 : Int64) qx) qy)) := fq53_3.keep K54 (ninS (Ne.symm ne_oa_oc) (ninS (Ne.symm ne_ab45_oc) nin0))
      have f54_A_ab49 : own_A Z T54.heap ab49 .long (28160) (fun z => .long (own_rec (own_rec own_k0L qx) qy z)) := fq53_4.keep K54 (ninS (Ne.symm ne_oa_ab49) (ninS (Ne.symm ne_ab45_ab49) nin0))
      have z54c : n0 ≤ T54.heap.size := Nat.le_trans z53c K54.1
      refine own_W.steps st54 ?_
      show own_W p e (FrameEnd s) below room_1.cells room_1.slots (Q0 Z qx qy pf h0 n0) T54 (mkF m 96 #[.val (.long qx), .second, .val (.long qy), .second, .val (.int pf), .val (.int (1 : Int32)), .val (.int (1 : Int32)), .val (.ref oa), .val (.ref ob), .val (.ref oc), .unset, .unset, .unset, .unset, .unset, .unset, .unset, .unset] [])
      have AO : own_A Z T54.heap ab45 .long (28160) (fun z => .long (own_rec (own_rec own_k0L qx) qy z)) := fq54_4.congr (fun z hz => congrArg Value.long (own_afe _ _ z hz))
      refine own_iload X54 hx (hb hby at_96) (v := (1 : Int32)) rfl (rfl : 96 + 2 = 98) ?_
      have hc98 : ¬ ((1 : Int32) = (0 : Int32)) := by decide
      refine own_ifNo X54 hx (hb hby at_98) ((if0 _ _).trans (feq hc98).1) (rfl : 98 + 3 = 101) ?_
      refine own_lconst X54 hx (hb hby at_101) (1 : Int64) (by first | rfl | decide) (rfl : 101 + 1 = 102) ?_
      refine own_goto X54 hx (hb hby at_102) (pc' := 106) (by decide) (by decide) ?_
      refine own_iload X54 hx (hb hby at_106) (v := (1 : Int32)) rfl (rfl : 106 + 2 = 108) ?_
      have hc108 : ¬ ((1 : Int32) = (0 : Int32)) := by decide
      refine own_ifNo X54 hx (hb hby at_108) ((if0 _ _).trans (feq hc108).1) (rfl : 108 + 3 = 111) ?_
      refine own_lconst X54 hx (hb hby at_111) (1 : Int64) (by first | rfl | decide) (rfl : 111 + 1 = 112) ?_
      refine own_goto X54 hx (hb hby at_112) (pc' := 116) (by decide) (by decide) ?_
      refine own_ladd X54 hx (hb hby at_116) (rfl : 116 + 1 = 117) ?_
      refine own_lstore X54 hx (hb hby at_117) (l' := #[.val (.long qx), .second, .val (.long qy), .second, .val (.int pf), .val (.int (1 : Int32)), .val (.int (1 : Int32)), .val (.ref oa), .val (.ref ob), .val (.ref oc), .val (.long ((1 : Int64) + (1 : Int64))), .second, .unset, .unset, .unset, .unset, .unset, .unset]) rfl (rfl : 117 + 2 = 119) ?_
      rw [show ((1 : Int64) + (1 : Int64)) = (2 : Int64) from by decide]
      show own_W p e (FrameEnd s) below room_1.cells room_1.slots (Q0 Z qx qy pf h0 n0) T54 (mkF m 119 #[.val (.long qx), .second, .val (.long qy), .second, .val (.int pf), .val (.int (1 : Int32)), .val (.int (1 : Int32)), .val (.ref oa), .val (.ref ob), .val (.ref oc), .val (.long (2 : Int64)), .second, .unset, .unset, .unset, .unset, .unset, .unset] [])
      refine own_iload X54 hx (hb hby at_119) (v := (1 : Int32)) rfl (rfl : 119 + 2 = 121) ?_
      have hc121 : ¬ ((1 : Int32) = (0 : Int32)) := by decide
      refine own_ifNo X54 hx (hb hby at_121) ((if0 _ _).trans (feq hc121).1) (rfl : 121 + 3 = 124) ?_
      refine own_lloadN X54 hx (hb hby at_124) (v := qx) rfl (rfl : 124 + 1 = 125) ?_
      refine own_lconst X54 hx (hb hby at_125) (0 : Int64) (by first | rfl | decide) (rfl : 125 + 1 = 126) ?_
      obtain ⟨_, _, ⟨T55, L55, k55, n55⟩, -, X55, ⟨Lc55, hQ55, l55, y55, z55⟩, st55⟩ := Jvm.LawKit.callS X54 hx (y := (⟨"java/lang/Math", "max", "(JJ)J"⟩ : MethodName)) hown (mvT hZ (hw _ (List.mem_of_getElem? (i := 35) rfl))) (mvT hZ (hw _ (List.mem_of_getElem? (i := 22) rfl))) (mvT hZ (hw _ (List.mem_of_getElem? (i := 23) rfl))) (mvT hZ (hw _ (List.mem_of_getElem? (i := 24) rfl))) (by decide) (backOf (W := 0) (rm4 l Z a0 hw [] qx (0 : Int64)  T54.heap n0 z54c ) hZ (hw _ (List.mem_of_getElem? (i := 24) rfl)) (hw _ (List.mem_of_getElem? (i := 23) rfl)) (by decide) (by decide)) (g := (mkF m 126 #[.val (.long qx), .second, .val (.long qy), .second, .val (.int pf), .val (.int (1 : Int32)), .val (.int (1 : Int32)), .val (.ref oa), .val (.ref ob), .val (.ref oc), .val (.long (2 : Int64)), .second, .unset, .unset, .unset, .unset, .unset, .unset] [(.long (0 : Int64)), (.long qx)])) rfl (by rw [hml]; rfl) (argsL := [(.long qx), (.long (0 : Int64))]) (rest := []) (lenOf own_pd__JJ_J rfl) rfl (by show 2 * 0 + _ ≤ _; exact Nat.le_of_eq rfl) (hb hby at_126) (fun _ _ => ⟨rfl, rfl, (by decide : 6 + 0 ≤ _), (by decide : 84489 + 0 ≤ _)⟩)
      dsimp only [Pt.U, Pt.locs, Pt.cells, Pt.slots] at X55 l55 y55 z55 st55 hQ55
      subst l55 y55 z55
      obtain ⟨rfl, N55q, e55⟩ := hQ55
      have N55 := Fr.app N54 N55q
      refine own_W.step st55 ?_
      show own_W p e (FrameEnd s) below room_1.cells room_1.slots (Q0 Z qx qy pf h0 n0) T55 (mkF m 129 #[.val (.long qx), .second, .val (.long qy), .second, .val (.int pf), .val (.int (1 : Int32)), .val (.int (1 : Int32)), .val (.ref oa), .val (.ref ob), .val (.ref oc), .val (.long (2 : Int64)), .second, .unset, .unset, .unset, .unset, .unset, .unset] [(.long (own_lmax qx (0 : Int64)))])
      refine own_goto X55 hx (hb hby at_129) (pc' := 133) (by decide) (by decide) ?_
      refine own_lstore X55 hx (hb hby at_133) (l' := #[.val (.long qx), .second, .val (.long qy), .second, .val (.int pf), .val (.int (1 : Int32)), .val (.int (1 : Int32)), .val (.ref oa), .val (.ref ob), .val (.ref oc), .val (.long (2 : Int64)), .second, .val (.long (own_lmax qx (0 : Int64))), .second, .unset, .unset, .unset, .unset]) rfl (rfl : 133 + 2 = 135) ?_
      refine own_iload X55 hx (hb hby at_135) (v := (1 : Int32)) rfl (rfl : 135 + 2 = 137) ?_
      have hc137 : ¬ ((1 : Int32) = (0 : Int32)) := by decide
      refine own_ifNo X55 hx (hb hby at_137) ((if0 _ _).trans (feq hc137).1) (rfl : 137 + 3 = 140) ?_
      refine own_lloadN X55 hx (hb hby at_140) (v := qy) rfl (rfl : 140 + 1 = 141) ?_
      refine own_lconst X55 hx (hb hby at_141) (0 : Int64) (by first | rfl | decide) (rfl : 141 + 1 = 142) ?_
      obtain ⟨_, _, ⟨T56, L56, k56, n56⟩, -, X56, ⟨Lc56, hQ56, l56, y56, z56⟩, st56⟩ := Jvm.LawKit.callS X55 hx (y := (⟨"java/lang/Math", "max", "(JJ)J"⟩ : MethodName)) hown (mvT hZ (hw _ (List.mem_of_getElem? (i := 35) rfl))) (mvT hZ (hw _ (List.mem_of_getElem? (i := 22) rfl))) (mvT hZ (hw _ (List.mem_of_getElem? (i := 23) rfl))) (mvT hZ (hw _ (List.mem_of_getElem? (i := 24) rfl))) (by decide) (backOf (W := 0) (rm4 l Z a0 hw [] qy (0 : Int64)  T54.heap n0 z54c ) hZ (hw _ (List.mem_of_getElem? (i := 24) rfl)) (hw _ (List.mem_of_getElem? (i := 23) rfl)) (by decide) (by decide)) (g := (mkF m 142 #[.val (.long qx), .second, .val (.long qy), .second, .val (.int pf), .val (.int (1 : Int32)), .val (.int (1 : Int32)), .val (.ref oa), .val (.ref ob), .val (.ref oc), .val (.long (2 : Int64)), .second, .val (.long (own_lmax qx (0 : Int64))), .second, .unset, .unset, .unset, .unset] [(.long (0 : Int64)), (.long qy)])) rfl (by rw [hml]; rfl) (argsL := [(.long qy), (.long (0 : Int64))]) (rest := []) (lenOf own_pd__JJ_J rfl) rfl (by show 2 * 0 + _ ≤ _; exact Nat.le_of_eq rfl) (hb hby at_142) (fun _ _ => ⟨rfl, e55, (by decide : 6 + 0 ≤ _), (by decide : 84489 + 0 ≤ _)⟩)
      dsimp only [Pt.U, Pt.locs, Pt.cells, Pt.slots] at X56 l56 y56 z56 st56 hQ56
      subst l56 y56 z56
      obtain ⟨rfl, N56q, e56⟩ := hQ56
      have N56 := Fr.app N55 N56q
      refine own_W.step st56 ?_
      show own_W p e (FrameEnd s) below room_1.cells room_1.slots (Q0 Z qx qy pf h0 n0) T56 (mkF m 145 #[.val (.long qx), .second, .val (.long qy), .second, .val (.int pf), .val (.int (1 : Int32)), .val (.int (1 : Int32)), .val (.ref oa), .val (.ref ob), .val (.ref oc), .val (.long (2 : Int64)), .second, .val (.long (own_lmax qx (0 : Int64))), .second, .unset, .unset, .unset, .unset] [(.long (own_lmax qy (0 : Int64)))])
      refine own_goto X56 hx (hb hby at_145) (pc' := 149) (by decide) (by decide) ?_
      refine own_lstore X56 hx (hb hby at_149) (l' := #[.val (.long qx), .second, .val (.long qy), .second, .val (.int pf), .val (.int (1 : Int32)), .val (.int (1 : Int32)), .val (.ref oa), .val (.ref ob), .val (.ref oc), .val (.long (2 : Int64)), .second, .val (.long (own_lmax qx (0 : Int64))), .second, .val (.long (own_lmax qy (0 : Int64))), .second, .unset, .unset]) rfl (rfl : 149 + 2 = 151) ?_
      refine own_aload X56 hx (hb hby at_151) (v := (.ref oa)) rfl rfl (rfl : 151 + 2 = 153) ?_
      obtain ⟨cq57, kq57, q57a, q57b, q57c⟩ := isOf hZ e56 fq54_0
      obtain ⟨_, _, ⟨T57, L57, k57, n57⟩, -, X57, ⟨Lc57, hQ57, l57, y57, z57⟩, st57⟩ := X56.virtualBack hx (y := (⟨"com/example/flipside/flipside/tool/LatencyHistogram", "count", "()J"⟩ : MethodName)) (z := (⟨"com/example/flipside/flipside/tool/LatencyHistogram", "count", "()J"⟩ : MethodName)) hown (mvT hZ (hw _ (List.mem_of_getElem? (i := 25) rfl))) (mvT hZ (hw _ (List.mem_of_getElem? (i := 26) rfl))) (notFace_of_selects (args := #[]) (mvT hZ (hw _ (List.mem_of_getElem? (i := 28) rfl)))) (mvT hZ (hw _ (List.mem_of_getElem? (i := 28) rfl))) (mvT hZ (hw _ (List.mem_of_getElem? (i := 27) rfl))) (by decide) (backOf (W := 0) (rm5 l Z a0 hw [] oa (((0 : Int64) + (1 : Int64)) + ((0 : Int64) + (1 : Int64))) T54.heap n0 z54c fq54_2) hZ (hw _ (List.mem_of_getElem? (i := 29) rfl)) (hw _ (List.mem_of_getElem? (i := 2) rfl)) (by decide) (by decide)) q57a q57c (g := (mkF m 153 #[.val (.long qx), .second, .val (.long qy), .second, .val (.int pf), .val (.int (1 : Int32)), .val (.int (1 : Int32)), .val (.ref oa), .val (.ref ob), .val (.ref oc), .val (.long (2 : Int64)), .second, .val (.long (own_lmax qx (0 : Int64))), .second, .val (.long (own_lmax qy (0 : Int64))), .second, .unset, .unset] [(.ref oa)])) rfl (by rw [hml]; rfl) (Steps.refl _) (argsL := []) (rest := []) (lenOf own_pd___J rfl) rfl (by show 2 * 0 + _ ≤ _; exact Nat.le_of_eq rfl) (hb hby at_153) (fun _ _ => ⟨rfl, e56, (by decide : 6 + 0 ≤ _), (by decide : 84489 + 0 ≤ _)⟩)
      dsimp only [Pt.U, Pt.locs, Pt.cells, Pt.slots] at X57 l57 y57 z57 st57 hQ57
      subst l57 y57 z57
      obtain ⟨rfl, N57q, e57⟩ := hQ57
      have N57 := Fr.app N56 N57q
      refine own_W.steps st57 ?_
      show own_W p e (FrameEnd s) below room_1.cells room_1.slots (Q0 Z qx qy pf h0 n0) T57 (mkF m 156 #[.val (.long qx), .second, .val (.long qy), .second, .val (.int pf), .val (.int (1 : Int32)), .val (.int (1 : Int32)), .val (.ref oa), .val (.ref ob), .val (.ref oc), .val (.long (2 : Int64)), .second, .val (.long (own_lmax qx (0 : Int64))), .second, .val (.long (own_lmax qy (0 : Int64))), .second, .unset, .unset] [(.long (((0 : Int64) + (1 : Int64)) + ((0 : Int64) + (1 : Int64))))])
      refine own_lload X57 hx (hb hby at_156) (v := (2 : Int64)) rfl (rfl : 156 + 2 = 158) ?_
      refine own_lcmp X57 hx (hb hby at_158) (rfl : 158 + 1 = 159) ?_
      have hc159 : (((0 : Int64) + (1 : Int64)) + ((0 : Int64) + (1 : Int64))) = (2 : Int64) := by decide
      refine own_ifYes X57 hx (hb hby at_159) (XT.ll_eq_t hc159) (pc' := 164) (by decide) (by decide) ?_
      refine own_aload X57 hx (hb hby at_164) (v := (.ref oa)) rfl rfl (rfl : 164 + 2 = 166) ?_
      obtain ⟨cq58, kq58, q58a, q58b, q58c⟩ := isOf hZ e57 fq54_0
      obtain ⟨_, _, ⟨T58, L58, k58, n58⟩, -, X58, ⟨Lc58, hQ58, l58, y58, z58⟩, st58⟩ := X57.virtualBack hx (y := (⟨"com/example/flipside/flipside/tool/LatencyHistogram", "max", "()J"⟩ : MethodName)) (z := (⟨"com/example/flipside/flipside/tool/LatencyHistogram", "max", "()J"⟩ : MethodName)) hown (mvT hZ (hw _ (List.mem_of_getElem? (i := 30) rfl))) (mvT hZ (hw _ (List.mem_of_getElem? (i := 31) rfl))) (notFace_of_selects (args := #[]) (mvT hZ (hw _ (List.mem_of_getElem? (i := 33) rfl)))) (mvT hZ (hw _ (List.mem_of_getElem? (i := 33) rfl))) (mvT hZ (hw _ (List.mem_of_getElem? (i := 32) rfl))) (by decide) (backOf (W := 0) (rm6 l Z a0 hw [] oa (own_lmax (own_rm (0 : Int64) qx) (own_rm (0 : Int64) qy)) T54.heap n0 z54c fq54_3) hZ (hw _ (List.mem_of_getElem? (i := 34) rfl)) (hw _ (List.mem_of_getElem? (i := 2) rfl)) (by decide) (by decide)) q58a q58c (g := (mkF m 166 #[.val (.long qx), .second, .val (.long qy), .second, .val (.int pf), .val (.int (1 : Int32)), .val (.int (1 : Int32)), .val (.ref oa), .val (.ref ob), .val (.ref oc), .val (.long (2 : Int64)), .second, .val (.long (own_lmax qx (0 : Int64))), .second, .val (.long (own_lmax qy (0 : Int64))), .second, .unset, .unset] [(.ref oa)])) rfl (by rw [hml]; rfl) (Steps.refl _) (argsL := []) (rest := []) (lenOf own_pd___J rfl) rfl (by show 2 * 0 + _ ≤ _; exact Nat.le_of_eq rfl) (hb hby at_166) (fun _ _ => ⟨rfl, e57, (by decide : 6 + 0 ≤ _), (by decide : 84489 + 0 ≤ _)⟩)
      dsimp only [Pt.U, Pt.locs, Pt.cells, Pt.slots] at X58 l58 y58 z58 st58 hQ58
      subst l58 y58 z58
      obtain ⟨rfl, N58q, e58⟩ := hQ58
      have N58 := Fr.app N57 N58q
      refine own_W.steps st58 ?_
      show own_W p e (FrameEnd s) below room_1.cells room_1.slots (Q0 Z qx qy pf h0 n0) T58 (mkF m 169 #[.val (.long qx), .second, .val (.long qy), .second, .val (.int pf), .val (.int (1 : Int32)), .val (.int (1 : Int32)), .val (.ref oa), .val (.ref ob), .val (.ref oc), .val (.long (2 : Int64)), .second, .val (.long (own_lmax qx (0 : Int64))), .second, .val (.long (own_lmax qy (0 : Int64))), .second, .unset, .unset] [(.long (own_lmax (own_rm (0 : Int64) qx) (own_rm (0 : Int64) qy)))])
      refine own_lload X58 hx (hb hby at_169) (v := (own_lmax qx (0 : Int64))) rfl (rfl : 169 + 2 = 171) ?_
      refine own_lload X58 hx (hb hby at_171) (v := (own_lmax qy (0 : Int64))) rfl (rfl : 171 + 2 = 173) ?_
      obtain ⟨_, _, ⟨T59, L59, k59, n59⟩, -, X59, ⟨Lc59, hQ59, l59, y59, z59⟩, st59⟩ := Jvm.LawKit.callS X58 hx (y := (⟨"java/lang/Math", "max", "(JJ)J"⟩ : MethodName)) hown (mvT hZ (hw _ (List.mem_of_getElem? (i := 35) rfl))) (mvT hZ (hw _ (List.mem_of_getElem? (i := 22) rfl))) (mvT hZ (hw _ (List.mem_of_getElem? (i := 23) rfl))) (mvT hZ (hw _ (List.mem_of_getElem? (i := 24) rfl))) (by decide) (backOf (W := 2) (rm4 l Z a0 hw [] (own_lmax qx (0 : Int64)) (own_lmax qy (0 : Int64))  T54.heap n0 z54c ) hZ (hw _ (List.mem_of_getElem? (i := 24) rfl)) (hw _ (List.mem_of_getElem? (i := 23) rfl)) (by decide) (by decide)) (g := (mkF m 173 #[.val (.long qx), .second, .val (.long qy), .second, .val (.int pf), .val (.int (1 : Int32)), .val (.int (1 : Int32)), .val (.ref oa), .val (.ref ob), .val (.ref oc), .val (.long (2 : Int64)), .second, .val (.long (own_lmax qx (0 : Int64))), .second, .val (.long (own_lmax qy (0 : Int64))), .second, .unset, .unset] [(.long (own_lmax qy (0 : Int64))), (.long (own_lmax qx (0 : Int64))), (.long (own_lmax (own_rm (0 : Int64) qx) (own_rm (0 : Int64) qy)))])) rfl (by rw [hml]; rfl) (argsL := [(.long (own_lmax qx (0 : Int64))), (.long (own_lmax qy (0 : Int64)))]) (rest := [(.long (own_lmax (own_rm (0 : Int64) qx) (own_rm (0 : Int64) qy)))]) (lenOf own_pd__JJ_J rfl) rfl (by show 2 * 0 + _ ≤ _; exact Nat.le_of_eq rfl) (hb hby at_173) (fun _ _ => ⟨rfl, e58, (by decide : 6 + 0 ≤ _), (by decide : 84489 + 0 ≤ _)⟩)
      dsimp only [Pt.U, Pt.locs, Pt.cells, Pt.slots] at X59 l59 y59 z59 st59 hQ59
      subst l59 y59 z59
      obtain ⟨rfl, N59q, e59⟩ := hQ59
      have N59 := Fr.app N58 N59q
      refine own_W.step st59 ?_
      show own_W p e (FrameEnd s) below room_1.cells room_1.slots (Q0 Z qx qy pf h0 n0) T59 (mkF m 176 #[.val (.long qx), .second, .val (.long qy), .second, .val (.int pf), .val (.int (1 : Int32)), .val (.int (1 : Int32)), .val (.ref oa), .val (.ref ob), .val (.ref oc), .val (.long (2 : Int64)), .second, .val (.long (own_lmax qx (0 : Int64))), .second, .val (.long (own_lmax qy (0 : Int64))), .second, .unset, .unset] [(.long (own_lmax (own_lmax qx (0 : Int64)) (own_lmax qy (0 : Int64)))), (.long (own_lmax (own_rm (0 : Int64) qx) (own_rm (0 : Int64) qy)))])
      refine own_lcmp X59 hx (hb hby at_176) (rfl : 176 + 1 = 177) ?_
      have hc177 : (own_lmax (own_rm (0 : Int64) qx) (own_rm (0 : Int64) qy)) = (own_lmax (own_lmax qx (0 : Int64)) (own_lmax qy (0 : Int64))) := by first | simp only [own_rm0] | rfl
      refine own_ifYes X59 hx (hb hby at_177) (XT.ll_eq_t hc177) (pc' := 182) (by decide) (by decide) ?_
      refine own_aload X59 hx (hb hby at_182) (v := (.ref ob)) rfl rfl (rfl : 182 + 2 = 184) ?_
      obtain ⟨cq60, kq60, q60a, q60b, q60c⟩ := isOf hZ e59 f54_E_ob
      obtain ⟨_, _, ⟨T60, L60, k60, n60⟩, -, X60, ⟨Lc60, hQ60, l60, y60, z60⟩, st60⟩ := X59.virtualBack hx (y := (⟨"com/example/flipside/flipside/tool/LatencyHistogram", "count", "()J"⟩ : MethodName)) (z := (⟨"com/example/flipside/flipside/tool/LatencyHistogram", "count", "()J"⟩ : MethodName)) hown (mvT hZ (hw _ (List.mem_of_getElem? (i := 25) rfl))) (mvT hZ (hw _ (List.mem_of_getElem? (i := 26) rfl))) (notFace_of_selects (args := #[]) (mvT hZ (hw _ (List.mem_of_getElem? (i := 28) rfl)))) (mvT hZ (hw _ (List.mem_of_getElem? (i := 28) rfl))) (mvT hZ (hw _ (List.mem_of_getElem? (i := 27) rfl))) (by decide) (backOf (W := 0) (rm5 l Z a0 hw [] ob ((0 : Int64) + (1 : Int64)) T54.heap n0 z54c f54_F_ob_count) hZ (hw _ (List.mem_of_getElem? (i := 29) rfl)) (hw _ (List.mem_of_getElem? (i := 2) rfl)) (by decide) (by decide)) q60a q60c (g := (mkF m 184 #[.val (.long qx), .second, .val (.long qy), .second, .val (.int pf), .val (.int (1 : Int32)), .val (.int (1 : Int32)), .val (.ref oa), .val (.ref ob), .val (.ref oc), .val (.long (2 : Int64)), .second, .val (.long (own_lmax qx (0 : Int64))), .second, .val (.long (own_lmax qy (0 : Int64))), .second, .unset, .unset] [(.ref ob)])) rfl (by rw [hml]; rfl) (Steps.refl _) (argsL := []) (rest := []) (lenOf own_pd___J rfl) rfl (by show 2 * 0 + _ ≤ _; exact Nat.le_of_eq rfl) (hb hby at_184) (fun _ _ => ⟨rfl, e59, (by decide : 6 + 0 ≤ _), (by decide : 84489 + 0 ≤ _)⟩)
      dsimp only [Pt.U, Pt.locs, Pt.cells, Pt.slots] at X60 l60 y60 z60 st60 hQ60
      subst l60 y60 z60
      obtain ⟨rfl, N60q, e60⟩ := hQ60
      have N60 := Fr.app N59 N60q
      refine own_W.steps st60 ?_
      show own_W p e (FrameEnd s) below room_1.cells room_1.slots (Q0 Z qx qy pf h0 n0) T60 (mkF m 187 #[.val (.long qx), .second, .val (.long qy), .second, .val (.int pf), .val (.int (1 : Int32)), .val (.int (1 : Int32)), .val (.ref oa), .val (.ref ob), .val (.ref oc), .val (.long (2 : Int64)), .second, .val (.long (own_lmax qx (0 : Int64))), .second, .val (.long (own_lmax qy (0 : Int64))), .second, .unset, .unset] [(.long ((0 : Int64) + (1 : Int64)))])
      refine own_iload X60 hx (hb hby at_187) (v := (1 : Int32)) rfl (rfl : 187 + 2 = 189) ?_
      have hc189 : ¬ ((1 : Int32) = (0 : Int32)) := by decide
      refine own_ifNo X60 hx (hb hby at_189) ((if0 _ _).trans (feq hc189).1) (rfl : 189 + 3 = 192) ?_
      refine own_lconst X60 hx (hb hby at_192) (1 : Int64) (by first | rfl | decide) (rfl : 192 + 1 = 193) ?_
      refine own_goto X60 hx (hb hby at_193) (pc' := 197) (by decide) (by decide) ?_
      refine own_lcmp X60 hx (hb hby at_197) (rfl : 197 + 1 = 198) ?_
      have hc198 : ((0 : Int64) + (1 : Int64)) = (1 : Int64) := by decide
      refine own_ifYes X60 hx (hb hby at_198) (XT.ll_eq_t hc198) (pc' := 203) (by decide) (by decide) ?_
      refine own_lload X60 hx (hb hby at_203) (v := (2 : Int64)) rfl (rfl : 203 + 2 = 205) ?_
      refine own_lconst X60 hx (hb hby at_205) (0 : Int64) (by first | rfl | decide) (rfl : 205 + 1 = 206) ?_
      refine own_lcmp X60 hx (hb hby at_206) (rfl : 206 + 1 = 207) ?_
      have hc207 : ¬ ((2 : Int64) = (0 : Int64)) := by decide
      refine own_ifYes X60 hx (hb hby at_207) (XT.ll_ne_t hc207) (pc' := 212) (by decide) (by decide) ?_
      refine own_lconst X60 hx (hb hby at_212) (1 : Int64) (by first | rfl | decide) (rfl : 212 + 1 = 213) ?_
      refine own_iload X60 hx (hb hby at_213) (v := pf) rfl (rfl : 213 + 2 = 215) ?_
      refine own_iconst X60 hx (hb hby at_215) (2 : Int32) (by first | rfl | decide) (rfl : 215 + 1 = 216) ?_
      refine own_iushr X60 hx (hb hby at_216) (rfl : 216 + 1 = 217) ?_
      refine own_i2l X60 hx (hb hby at_217) (rfl : 217 + 1 = 218) ?_
      refine own_lload X60 hx (hb hby at_218) (v := (2 : Int64)) rfl (rfl : 218 + 2 = 220) ?_
      refine own_lrem X60 hx (hb hby at_220) (by decide) (rfl : 220 + 1 = 221) ?_
      refine own_ladd X60 hx (hb hby at_221) (rfl : 221 + 1 = 222) ?_
      refine own_lstore X60 hx (hb hby at_222) (l' := #[.val (.long qx), .second, .val (.long qy), .second, .val (.int pf), .val (.int (1 : Int32)), .val (.int (1 : Int32)), .val (.ref oa), .val (.ref ob), .val (.ref oc), .val (.long (2 : Int64)), .second, .val (.long (own_lmax qx (0 : Int64))), .second, .val (.long (own_lmax qy (0 : Int64))), .second, .val (.long ((1 : Int64) + ((((pf.toUInt32 >>> ((2 : Int32) &&& 31).toUInt32).toInt32).toInt64) % (2 : Int64)))), .second]) rfl (rfl : 222 + 2 = 224) ?_
      obtain ⟨kv, hkv⟩ : ∃ z : Int64, z = ((1 : Int64) + ((((pf.toUInt32 >>> ((2 : Int32) &&& 31).toUInt32).toInt32).toInt64) % (2 : Int64))) := ⟨_, rfl⟩
      rw [← hkv]
      show own_W p e (FrameEnd s) below room_1.cells room_1.slots (Q0 Z qx qy pf h0 n0) T60 (mkF m 224 #[.val (.long qx), .second, .val (.long qy), .second, .val (.int pf), .val (.int (1 : Int32)), .val (.int (1 : Int32)), .val (.ref oa), .val (.ref ob), .val (.ref oc), .val (.long (2 : Int64)), .second, .val (.long (own_lmax qx (0 : Int64))), .second, .val (.long (own_lmax qy (0 : Int64))), .second, .val (.long kv), .second] [])
      have hk := own_kv2 pf hkv
      refine own_aload X60 hx (hb hby at_224) (v := (.ref oa)) rfl rfl (rfl : 224 + 2 = 226) ?_
      refine own_lload X60 hx (hb hby at_226) (v := kv) rfl (rfl : 226 + 2 = 228) ?_
      refine own_lload X60 hx (hb hby at_228) (v := (2 : Int64)) rfl (rfl : 228 + 2 = 230) ?_
      obtain ⟨cq61, kq61, q61a, q61b, q61c⟩ := isOf hZ e60 fq54_0
      obtain ⟨_, _, ⟨T61, L61, k61, n61⟩, -, X61, ⟨Lc61, hQ61, l61, y61, z61⟩, st61⟩ := X60.virtualBack hx (y := (⟨"com/example/flipside/flipside/tool/LatencyHistogram", "percentile", "(JJ)J"⟩ : MethodName)) (z := (⟨"com/example/flipside/flipside/tool/LatencyHistogram", "percentile", "(JJ)J"⟩ : MethodName)) hown (mvT hZ (hw _ (List.mem_of_getElem? (i := 45) rfl))) (mvT hZ (hw _ (List.mem_of_getElem? (i := 46) rfl))) (notFace_of_selects (args := #[]) (mvT hZ (hw _ (List.mem_of_getElem? (i := 48) rfl)))) (mvT hZ (hw _ (List.mem_of_getElem? (i := 48) rfl))) (mvT hZ (hw _ (List.mem_of_getElem? (i := 47) rfl))) (by decide) (backOf (W := 0) (rm9 l Z a0 hw [] oa kv (2 : Int64) ab45 (((0 : Int64) + (1 : Int64)) + ((0 : Int64) + (1 : Int64))) (own_lmax (own_rm (0 : Int64) qx) (own_rm (0 : Int64) qy)) (own_rec (own_rec own_k0L qx) qy) T54.heap n0 z54c fq54_1 fq54_2 fq54_3 AO (by decide) (by decide) (by rcases hk with q | q <;> rw [q] <;> decide) (by rcases hk with q | q <;> rw [q] <;> decide) (by decide) (own_fin2 qx qy hk (by decide))) hZ (hw _ (List.mem_of_getElem? (i := 49) rfl)) (hw _ (List.mem_of_getElem? (i := 2) rfl)) (by decide) (by decide)) q61a q61c (g := (mkF m 230 #[.val (.long qx), .second, .val (.long qy), .second, .val (.int pf), .val (.int (1 : Int32)), .val (.int (1 : Int32)), .val (.ref oa), .val (.ref ob), .val (.ref oc), .val (.long (2 : Int64)), .second, .val (.long (own_lmax qx (0 : Int64))), .second, .val (.long (own_lmax qy (0 : Int64))), .second, .val (.long kv), .second] [(.long (2 : Int64)), (.long kv), (.ref oa)])) rfl (by rw [hml]; rfl) (Steps.refl _) (argsL := [(.long kv), (.long (2 : Int64))]) (rest := []) (lenOf own_pd__JJ_J rfl) rfl (by show 2 * 0 + _ ≤ _; exact Nat.le_of_eq rfl) (hb hby at_230) (fun _ _ => ⟨rfl, e60, (by decide : 6 + 0 ≤ _), (by decide : 84489 + 0 ≤ _)⟩)
      dsimp only [Pt.U, Pt.locs, Pt.cells, Pt.slots] at X61 l61 y61 z61 st61 hQ61
      subst l61 y61 z61
      obtain ⟨rfl, N61q, K61⟩ := hQ61
      have N61 := Fr.app N60 N61q
      have f61_E_oa : Exa Z T61.heap oa "com/example/flipside/flipside/tool/LatencyHistogram" := fq54_0.keep K61
      have f61_E_ob : Exa Z T61.heap ob "com/example/flipside/flipside/tool/LatencyHistogram" := f54_E_ob.keep K61
      have f61_E_oc : Exa Z T61.heap oc "com/example/flipside/flipside/tool/LatencyHistogram" := f54_E_oc.keep K61
      have f61_F_ob_counts : Fld Z T61.heap ob "com/example/flipside/flipside/tool/LatencyHistogram" "counts" "[J" (.ref ab47) := f54_F_ob_counts.keep K61 nin0
      have f61_F_ob_count : Fld Z T61.heap ob "com/example/flipside/flipside/tool/LatencyHistogram" "count" "J" (.long ((0 : Int64) + (1 : Int64))) := f54_F_ob_count.keep K61 nin0
      have f61_F_ob_max : Fld Z T61.heap ob "com/example/flipside/flipside/tool/LatencyHistogram" "max" "J" (.long (own_rm (0 : Int64) qy)) := f54_F_ob_max.keep K61 nin0
      have f61_A_ab47 : own_A Z T61.heap ab47 .long (28160) (fun z => .long (own_rec own_k0L qy z)) := f54_A_ab47.keep K61 nin0
      have f61_F_oc_counts : Fld Z T61.heap oc "com/example/flipside/flipside/tool/LatencyHistogram" "counts" "[J" (.ref ab49) := f54_F_oc_counts.keep K61 nin0
      have f61_F_oc_count : Fld Z T61.heap oc "com/example/flipside/flipside/tool/LatencyHistogram" "count" "J" (.long (((0 : Int64) + (1 : Int64)) + (1 : Int64))) := f54_F_oc_count.keep K61 nin0
      have f61_F_oc_max : Fld Z T61.heap oc "com/example/flipside/flipside/tool/LatencyHistogram" "max" "J" (.long (own_rm (own_rm (0 : Int64) qx) qy)) := f54_F_oc_max.keep K61 nin0
      have f61_A_ab49 : own_A Z T61.heap ab49 .long (28160) (fun z => .long (own_rec (own_rec own_k0L qx) qy z)) := f54_A_ab49.keep K61 nin0
      have f61_F_oa_counts : Fld Z T61.heap oa "com/example/flipside/flipside/tool/LatencyHistogram" "counts" "[J" (.ref ab45) := fq54_1.keep K61 nin0
      have f61_F_oa_count : Fld Z T61.heap oa "com/example/flipside/flipside/tool/LatencyHistogram" "count" "J" (.long (((0 : Int64) + (1 : Int64)) + ((0 : Int64) + (1 : Int64)))) := fq54_2.keep K61 nin0
      have f61_F_oa_max : Fld Z T61.heap oa "com/example/flipside/flipside/tool/LatencyHistogram" "max" "J" (.long (own_lmax (own_rm (0 : Int64) qx) (own_rm (0 : Int64) qy))) := fq54_3.keep K61 nin0
      have f61_A_ab45 : own_A Z T61.heap ab45 .long (28160) (fun z => .long (own_rec (own_rec own_k0L qx) qy z)) := AO.keep K61 nin0
      have z61c : n0 ≤ T61.heap.size := Nat.le_trans z54c K61.1
      refine own_W.steps st61 ?_
      show own_W p e (FrameEnd s) below room_1.cells room_1.slots (Q0 Z qx qy pf h0 n0) T61 (mkF m 233 #[.val (.long qx), .second, .val (.long qy), .second, .val (.int pf), .val (.int (1 : Int32)), .val (.int (1 : Int32)), .val (.ref oa), .val (.ref ob), .val (.ref oc), .val (.long (2 : Int64)), .second, .val (.long (own_lmax qx (0 : Int64))), .second, .val (.long (own_lmax qy (0 : Int64))), .second, .val (.long kv), .second] [(.long (own_pct (own_rec (own_rec own_k0L qx) qy) (own_rank (((0 : Int64) + (1 : Int64)) + ((0 : Int64) + (1 : Int64))) (2 : Int64) kv) (own_lmax (own_rm (0 : Int64) qx) (own_rm (0 : Int64) qy)) 28160 0 (0 : Int64)))])
      refine own_aload X61 hx (hb hby at_233) (v := (.ref oc)) rfl rfl (rfl : 233 + 2 = 235) ?_
      refine own_lload X61 hx (hb hby at_235) (v := kv) rfl (rfl : 235 + 2 = 237) ?_
      refine own_lload X61 hx (hb hby at_237) (v := (2 : Int64)) rfl (rfl : 237 + 2 = 239) ?_
      obtain ⟨cq62, kq62, q62a, q62b, q62c⟩ := isOf hZ rfl f61_E_oc
      obtain ⟨_, _, ⟨T62, L62, k62, n62⟩, -, X62, ⟨Lc62, hQ62, l62, y62, z62⟩, st62⟩ := X61.virtualBack hx (y := (⟨"com/example/flipside/flipside/tool/LatencyHistogram", "percentile", "(JJ)J"⟩ : MethodName)) (z := (⟨"com/example/flipside/flipside/tool/LatencyHistogram", "percentile", "(JJ)J"⟩ : MethodName)) hown (mvT hZ (hw _ (List.mem_of_getElem? (i := 45) rfl))) (mvT hZ (hw _ (List.mem_of_getElem? (i := 46) rfl))) (notFace_of_selects (args := #[]) (mvT hZ (hw _ (List.mem_of_getElem? (i := 48) rfl)))) (mvT hZ (hw _ (List.mem_of_getElem? (i := 48) rfl))) (mvT hZ (hw _ (List.mem_of_getElem? (i := 47) rfl))) (by decide) (backOf (W := 2) (rm9 l Z a0 hw [] oc kv (2 : Int64) ab49 (((0 : Int64) + (1 : Int64)) + (1 : Int64)) (own_rm (own_rm (0 : Int64) qx) qy) (own_rec (own_rec own_k0L qx) qy) T61.heap n0 z61c f61_F_oc_counts f61_F_oc_count f61_F_oc_max f61_A_ab49 (by decide) (by decide) (by rcases hk with q | q <;> rw [q] <;> decide) (by rcases hk with q | q <;> rw [q] <;> decide) (by decide) (own_fin2 qx qy hk (by decide))) hZ (hw _ (List.mem_of_getElem? (i := 49) rfl)) (hw _ (List.mem_of_getElem? (i := 2) rfl)) (by decide) (by decide)) q62a q62c (g := (mkF m 239 #[.val (.long qx), .second, .val (.long qy), .second, .val (.int pf), .val (.int (1 : Int32)), .val (.int (1 : Int32)), .val (.ref oa), .val (.ref ob), .val (.ref oc), .val (.long (2 : Int64)), .second, .val (.long (own_lmax qx (0 : Int64))), .second, .val (.long (own_lmax qy (0 : Int64))), .second, .val (.long kv), .second] [(.long (2 : Int64)), (.long kv), (.ref oc), (.long (own_pct (own_rec (own_rec own_k0L qx) qy) (own_rank (((0 : Int64) + (1 : Int64)) + ((0 : Int64) + (1 : Int64))) (2 : Int64) kv) (own_lmax (own_rm (0 : Int64) qx) (own_rm (0 : Int64) qy)) 28160 0 (0 : Int64)))])) rfl (by rw [hml]; rfl) (Steps.refl _) (argsL := [(.long kv), (.long (2 : Int64))]) (rest := [(.long (own_pct (own_rec (own_rec own_k0L qx) qy) (own_rank (((0 : Int64) + (1 : Int64)) + ((0 : Int64) + (1 : Int64))) (2 : Int64) kv) (own_lmax (own_rm (0 : Int64) qx) (own_rm (0 : Int64) qy)) 28160 0 (0 : Int64)))]) (lenOf own_pd__JJ_J rfl) rfl (by show 2 * 0 + _ ≤ _; exact Nat.le_of_eq rfl) (hb hby at_239) (fun _ _ => ⟨rfl, rfl, (by decide : 6 + 0 ≤ _), (by decide : 84489 + 0 ≤ _)⟩)
      dsimp only [Pt.U, Pt.locs, Pt.cells, Pt.slots] at X62 l62 y62 z62 st62 hQ62
      subst l62 y62 z62
      obtain ⟨rfl, N62q, K62⟩ := hQ62
      have N62 := Fr.app N61 N62q
      have f62_E_oa : Exa Z T62.heap oa "com/example/flipside/flipside/tool/LatencyHistogram" := f61_E_oa.keep K62
      have f62_E_ob : Exa Z T62.heap ob "com/example/flipside/flipside/tool/LatencyHistogram" := f61_E_ob.keep K62
      have f62_E_oc : Exa Z T62.heap oc "com/example/flipside/flipside/tool/LatencyHistogram" := f61_E_oc.keep K62
      have f62_F_ob_counts : Fld Z T62.heap ob "com/example/flipside/flipside/tool/LatencyHistogram" "counts" "[J" (.ref ab47) := f61_F_ob_counts.keep K62 nin0
      have f62_F_ob_count : Fld Z T62.heap ob "com/example/flipside/flipside/tool/LatencyHistogram" "count" "J" (.long ((0 : Int64) + (1 : Int64))) := f61_F_ob_count.keep K62 nin0
      have f62_F_ob_max : Fld Z T62.heap ob "com/example/flipside/flipside/tool/LatencyHistogram" "max" "J" (.long (own_rm (0 : Int64) qy)) := f61_F_ob_max.keep K62 nin0
      have f62_A_ab47 : own_A Z T62.heap ab47 .long (28160) (fun z => .long (own_rec own_k0L qy z)) := f61_A_ab47.keep K62 nin0
      have f62_F_oc_counts : Fld Z T62.heap oc "com/example/flipside/flipside/tool/LatencyHistogram" "counts" "[J" (.ref ab49) := f61_F_oc_counts.keep K62 nin0
      have f62_F_oc_count : Fld Z T62.heap oc "com/example/flipside/flipside/tool/LatencyHistogram" "count" "J" (.long (((0 : Int64) + (1 : Int64)) + (1 : Int64))) := f61_F_oc_count.keep K62 nin0
      have f62_F_oc_max : Fld Z T62.heap oc "com/example/flipside/flipside/tool/LatencyHistogram" "max" "J" (.long (own_rm (own_rm (0 : Int64) qx) qy)) := f61_F_oc_max.keep K62 nin0
      have f62_A_ab49 : own_A Z T62.heap ab49 .long (28160) (fun z => .long (own_rec (own_rec own_k0L qx) qy z)) := f61_A_ab49.keep K62 nin0
      have f62_F_oa_counts : Fld Z T62.heap oa "com/example/flipside/flipside/tool/LatencyHistogram" "counts" "[J" (.ref ab45) := f61_F_oa_counts.keep K62 nin0
      have f62_F_oa_count : Fld Z T62.heap oa "com/example/flipside/flipside/tool/LatencyHistogram" "count" "J" (.long (((0 : Int64) + (1 : Int64)) + ((0 : Int64) + (1 : Int64)))) := f61_F_oa_count.keep K62 nin0
      have f62_F_oa_max : Fld Z T62.heap oa "com/example/flipside/flipside/tool/LatencyHistogram" "max" "J" (.long (own_lmax (own_rm (0 : Int64) qx) (own_rm (0 : Int64) qy))) := f61_F_oa_max.keep K62 nin0
      have f62_A_ab45 : own_A Z T62.heap ab45 .long (28160) (fun z => .long (own_rec (own_rec own_k0L qx) qy z)) := f61_A_ab45.keep K62 nin0
      have z62c : n0 ≤ T62.heap.size := Nat.le_trans z61c K62.1
      refine own_W.steps st62 ?_
      show own_W p e (FrameEnd s) below room_1.cells room_1.slots (Q0 Z qx qy pf h0 n0) T62 (mkF m 242 #[.val (.long qx), .second, .val (.long qy), .second, .val (.int pf), .val (.int (1 : Int32)), .val (.int (1 : Int32)), .val (.ref oa), .val (.ref ob), .val (.ref oc), .val (.long (2 : Int64)), .second, .val (.long (own_lmax qx (0 : Int64))), .second, .val (.long (own_lmax qy (0 : Int64))), .second, .val (.long kv), .second] [(.long (own_pct (own_rec (own_rec own_k0L qx) qy) (own_rank (((0 : Int64) + (1 : Int64)) + (1 : Int64)) (2 : Int64) kv) (own_rm (own_rm (0 : Int64) qx) qy) 28160 0 (0 : Int64))), (.long (own_pct (own_rec (own_rec own_k0L qx) qy) (own_rank (((0 : Int64) + (1 : Int64)) + ((0 : Int64) + (1 : Int64))) (2 : Int64) kv) (own_lmax (own_rm (0 : Int64) qx) (own_rm (0 : Int64) qy)) 28160 0 (0 : Int64)))])
      refine own_lcmp X62 hx (hb hby at_242) (rfl : 242 + 1 = 243) ?_
      have hc243 : (own_pct (own_rec (own_rec own_k0L qx) qy) (own_rank (((0 : Int64) + (1 : Int64)) + ((0 : Int64) + (1 : Int64))) (2 : Int64) kv) (own_lmax (own_rm (0 : Int64) qx) (own_rm (0 : Int64) qy)) 28160 0 (0 : Int64)) = (own_pct (own_rec (own_rec own_k0L qx) qy) (own_rank (((0 : Int64) + (1 : Int64)) + (1 : Int64)) (2 : Int64) kv) (own_rm (own_rm (0 : Int64) qx) qy) 28160 0 (0 : Int64)) := by rw [show (((0 : Int64) + (1 : Int64)) + ((0 : Int64) + (1 : Int64))) = (((0 : Int64) + (1 : Int64)) + (1 : Int64)) from by decide, own_rme]
      refine own_ifNo X62 hx (hb hby at_243) (XT.ll_ne_f hc243) (rfl : 243 + 3 = 246) ?_
      refine own_iconst X62 hx (hb hby at_246) (1 : Int32) (by first | rfl | decide) (rfl : 246 + 1 = 247) ?_
      refine own_goto X62 hx (hb hby at_247) (pc' := 251) (by decide) (by decide) ?_
      refine own_retN (t := .boolean) X62 hx hlk hret (by simp) (hb hby at_251) (z' := (1 : Int32)) (by decide) (by decide) (by decide) ?_
      show Q0 Z qx qy pf h0 n0 (some (.int (1 : Int32))) T62.heap _
      skip
      exact ⟨rfl, N62⟩
set_option maxRecDepth 65536 in
set_option maxHeartbeats 40000000 in
theorem comes_1 {Post : Tables → Env → Array Value → State → Outcome → State → Prop} (hpost : ∀ tb e args s v u, (limb_1_1.after args s (.returned v) u = true ∧ limb_1_2.after args s (.returned v) u = true ∧ True) → FrameEnd s (.returned v) u (Jvm.fieldLocs frame_1_writes args s ++ Jvm.arrayLocs frame_1_arrays args s ++ Jvm.staticLocs frame_1_statics s) 24 169088 → Post tb e args s (.returned v) u) :
    ArmFor flags0 classFile x code maxLocals ret World_1 tables_1 room_1 Calls_1 rest_1 Pre_1 Post := by
  intro l hfl _ _ p e ha hc hk s m args below hf hA hF happ hP
  obtain ⟨hcalls, hrest, hpre⟩ := hP
  obtain ⟨-, -, -, hnamed, -, -, -, hat⟩ := (Spec.applies_iff hf).mp happ
  obtain ⟨hg, hn⟩ := and_e (Cond.before_iff.mp (show (Jvm.Cond.and given_1 narrow_1).before args s = true from hpre))
  obtain ⟨hg0, hr0⟩ := and_e hg
  obtain ⟨hg1, hr1⟩ := and_e hr0
  obtain ⟨hg2, hr2⟩ := and_e hr1
  obtain ⟨w0, w1, w2, rfl⟩ : ∃ w0 w1 w2 : Value, args = #[w0, w1, w2] := by
    have hs : args.size = 3 := by simpa [Cond.value, given_1] using hg0
    obtain ⟨L⟩ := args
    match L, hs with
    | [w0, w1, w2], _ => exact ⟨w0, w1, w2, rfl⟩
  have hw := fun d (hd : d ∈ tables_1) => atoms_spec (ws := Jvm.Cond.code x code maxLocals ret :: tables_1) hat d (List.mem_cons_of_mem _ hd)
  obtain ⟨i0, ei0⟩ := isL_v hg1
  obtain rfl : w0 = (.long i0) := Option.some.inj ei0
  obtain ⟨i1, ei1⟩ := isL_v hg2
  obtain rfl : w1 = (.long i1) := Option.some.inj ei1
  obtain ⟨i2, ei2⟩ := is_v hr2
  obtain rfl : w2 = (.int i2) := Option.some.inj ei2
  obtain ⟨n, o, h1, h2, h3, _, L, rfl, ⟨rfl, N⟩, hq⟩ := rm0 l s _ hw tables_1 i0 i1 i2 s.heap s.heap.size (Nat.le_refl _) p e ha hc hk s m _ below hf ((Spec.applies_iff_loose hf).mp happ).1 ⟨rfl, State.Warmed39.refl s, rfl⟩ trivial
  refine ⟨n, _, h1, h2, h3, hpost _ _ _ _ _ _ ⟨Cond.after_iff.mpr rfl, Cond.after_iff.mpr (eq_i res_at (Term.int_eval (1)) rfl), trivial⟩ ⟨hq.1, hq.2.1, (hq.2.2.sift fun y hy => Or.inr (N y hy)).mono (by decide) (by decide)⟩⟩
theorem main_1_1 : Claimed_1_1 := comes_1 fun _ _ _ _ _ _ h hF => ⟨h.1, hF⟩
theorem main_1_2 : Claimed_1_2 := comes_1 fun _ _ _ _ _ _ h hF => ⟨h.2.1, hF⟩
end Jvm.Pilot.@@N@@
namespace Jvm.Pilot.@@N@@
open Jvm Jvm.ClassFile Sem Op Lib Jvm.Free Jvm.Stand Jvm.Pilot.@@N@@.Jvm.D
/-! MADE BY PROGRAM (witnessworld.py) out of the Statement's table words and the real class files: 18 classes; the members and pool entries that the words name. The judged class is class 1, her method 1. -/
namespace start1
open Jvm.ClassFile
def u (s : String) : CpInfo := .utf8 (stringToUtf16 s)
/-- a pool by its gaps: so many unusable entries, then the entry; so many at the end -/
def gap : Nat → List CpInfo → List CpInfo
  | 0, r => r
  | n + 1, r => .unusable :: gap n r
def poolList (es : List (Nat × CpInfo)) (last : Nat) : List CpInfo := es.foldr (fun e r => gap e.1 (e.2 :: r)) (gap last [])
def pool (es : List (Nat × CpInfo)) (last : Nat) : Array CpInfo := ⟨poolList es last⟩
def fileOf (pool : Array CpInfo) (this : Nat) (attrs : Array Attribute := #[]) (ms : Array MethodInfo := #[]) (fl : Nat := 33) (sup : Nat := 0) (ifs : Array Nat := #[]) (fds : Array FieldInfo := #[]) : ClassFile where
  minorVersion := 0
  majorVersion := 65
  constantPool := pool
  accessFlags := fl
  thisClass := this
  superClass := sup
  interfaces := ifs
  fields := fds
  methods := ms
  attributes := attrs
def plain (name : String) (sup : Option ClassId) : Class where
  name := name
  kind := .ordinary
  loader := none
  accessFlags := 33
  super := sup
  interfaces := #[]
  cf := none
  fields := #[]
  methods := #[]
  instanceTypes := #[]
  staticTypes := #[]
  resolved := #[]
  callSites := []
  init := .initialized
  statics := none
  mirror := none

def pool0 : Array CpInfo := pool [(5, u "<init>"), (0, u "()V"), (1, .class_ 10), (1, u "java/lang/Object")] 113

def k0c0 : Code := { maxStack := 0, maxLocals := 1, code := object_method_1_code, exceptionTable := #[], attributes := #[] }
def k0m0 : Method := { name := "<init>", desc := "()V", sig := { parameters := [], returnType := none }, accessFlags := 1, code := some k0c0 }
/-- java/lang/Object -/
def k0 : Class := { plain "java/lang/Object" none with
  accessFlags := 33
  interfaces := #[]
  cf := some (fileOf pool0 8 #[] #[{ accessFlags := 1, nameIndex := 5, descriptorIndex := 6, attributes := #[] }] 33 0 #[] #[])
  fields := #[]
  methods := #[k0m0]
  instanceTypes := #[]
  staticTypes := #[]
  resolved := Array.replicate 124 none
  statics := none }

def pool1 : Array CpInfo := pool [(2, .class_ 4), (0, .nameAndType 5 6), (0, u "java/lang/Object"), (0, u "<init>"), (0, u "()V"), (0, .class_ 8), (0, u "com/example/flipside/flipside/tool/LatencyHistogram"), (0, .methodref 7 3), (0, .methodref 7 11), (0, .nameAndType 12 13), (0, u "record"), (0, u "(J)V"), (0, .methodref 7 15), (0, .nameAndType 16 17), (0, u "add"), (0, u "(Lcom/example/flipside/flipside/tool/LatencyHistogram;)V"), (0, .methodref 19 20), (0, .class_ 21), (0, .nameAndType 22 23), (0, u "java/lang/Math"), (0, u "max"), (0, u "(JJ)J"), (0, .methodref 7 25), (0, .nameAndType 26 27), (0, u "count"), (0, u "()J"), (0, .methodref 7 29), (0, .nameAndType 22 27), (0, .methodref 7 31), (0, .nameAndType 32 23), (0, u "percentile"), (0, .class_ 34), (0, u "com/example/flipside/flipside/tool/LatencyHistogramAddPinLaw"), (2, u "law"), (0, u "(JJI)Z")] 3

def k1m0 : Method := { name := "<init>", desc := "()V", sig := { parameters := [], returnType := none }, accessFlags := 1, code := none }
def k1c1 : Code := { maxStack := 7, maxLocals := 18, code := code, exceptionTable := #[], attributes := #[] }
def k1m1 : Method := { name := "law", desc := "(JJI)Z", sig := { parameters := [.long, .long, .int], returnType := some .boolean }, accessFlags := 9, code := some k1c1 }
/-- com/example/flipside/flipside/tool/LatencyHistogramAddPinLaw -/
def k1 : Class := { plain "com/example/flipside/flipside/tool/LatencyHistogramAddPinLaw" (some 0) with
  accessFlags := 49
  interfaces := #[]
  cf := some (fileOf pool1 33 #[] #[{ accessFlags := 1, nameIndex := 5, descriptorIndex := 6, attributes := #[] }, { accessFlags := 9, nameIndex := 37, descriptorIndex := 38, attributes := #[] }] 49 2 #[] #[])
  fields := #[]
  methods := #[k1m0, k1m1]
  instanceTypes := #[]
  staticTypes := #[]
  resolved := Array.replicate 42 none
  statics := none }

def pool2 : Array CpInfo := pool [(1, .class_ 2), (0, u "com/example/flipside/flipside/tool/LatencyHistogram"), (0, .class_ 4), (0, u "java/lang/Long"), (0, .methodref 6 7), (0, .class_ 8), (0, .nameAndType 9 10), (0, u "java/lang/Object"), (0, u "<init>"), (0, u "()V"), (0, .fieldref 1 12), (0, .nameAndType 13 14), (0, u "counts"), (0, u "[J"), (0, .methodref 16 17), (0, .class_ 18), (0, .nameAndType 19 20), (0, u "java/lang/Math"), (0, u "max"), (0, u "(JJ)J"), (0, .methodref 1 22), (0, .nameAndType 23 24), (0, u "bucket"), (0, u "(J)I"), (0, .fieldref 1 26), (0, .nameAndType 27 28), (0, u "count"), (0, u "J"), (0, .fieldref 1 30), (0, .nameAndType 19 28), (0, .long 1000000000), (15, .methodref 1 48), (0, .nameAndType 49 20), (0, u "ceilDivide"), (0, .methodref 1 51), (0, .nameAndType 52 53), (0, u "longestIn"), (0, u "(I)J"), (0, .methodref 16 55), (0, .nameAndType 56 20), (0, u "min"), (7, .long 1024), (1, .methodref 3 67), (0, .nameAndType 68 24), (0, u "numberOfLeadingZeros"), (0, u "EXACT"), (0, u "I"), (2, u "PER_DOUBLING"), (1, u "EXACT_BITS"), (1, u "PER_DOUBLING_BITS"), (1, u "BUCKETS"), (1, u "MOST_WHOLE"), (2, u "record"), (0, u "(J)V"), (1, u "add"), (0, u "(Lcom/example/flipside/flipside/tool/LatencyHistogram;)V"), (0, u "()J"), (0, u "percentile")] 17

def k2c0 : Code := { maxStack := 2, maxLocals := 1, code := prog_21_method_1_code, exceptionTable := #[], attributes := #[] }
def k2m0 : Method := { name := "<init>", desc := "()V", sig := { parameters := [], returnType := none }, accessFlags := 0, code := some k2c0 }
def k2c1 : Code := { maxStack := 6, maxLocals := 5, code := prog_21_method_2_code, exceptionTable := #[], attributes := #[] }
def k2m1 : Method := { name := "record", desc := "(J)V", sig := { parameters := [.long], returnType := none }, accessFlags := 0, code := some k2c1 }
def k2c2 : Code := { maxStack := 6, maxLocals := 3, code := prog_21_method_3_code, exceptionTable := #[], attributes := #[] }
def k2m2 : Method := { name := "add", desc := "(Lcom/example/flipside/flipside/tool/LatencyHistogram;)V", sig := { parameters := [(.object "com/example/flipside/flipside/tool/LatencyHistogram")], returnType := none }, accessFlags := 0, code := some k2c2 }
def k2c3 : Code := { maxStack := 2, maxLocals := 1, code := prog_21_method_4_code, exceptionTable := #[], attributes := #[] }
def k2m3 : Method := { name := "count", desc := "()J", sig := { parameters := [], returnType := some .long }, accessFlags := 0, code := some k2c3 }
def k2c4 : Code := { maxStack := 2, maxLocals := 1, code := prog_21_method_5_code, exceptionTable := #[], attributes := #[] }
def k2m4 : Method := { name := "max", desc := "()J", sig := { parameters := [], returnType := some .long }, accessFlags := 0, code := some k2c4 }
def k2c5 : Code := { maxStack := 6, maxLocals := 10, code := prog_21_method_6_code, exceptionTable := #[], attributes := #[] }
def k2m5 : Method := { name := "percentile", desc := "(JJ)J", sig := { parameters := [.long, .long], returnType := some .long }, accessFlags := 0, code := some k2c5 }
def k2c6 : Code := { maxStack := 4, maxLocals := 4, code := prog_21_method_7_code, exceptionTable := #[], attributes := #[] }
def k2m6 : Method := { name := "bucket", desc := "(J)I", sig := { parameters := [.long], returnType := some .int }, accessFlags := 10, code := some k2c6 }
def k2c7 : Code := { maxStack := 6, maxLocals := 5, code := prog_21_method_8_code, exceptionTable := #[], attributes := #[] }
def k2m7 : Method := { name := "longestIn", desc := "(I)J", sig := { parameters := [.int], returnType := some .long }, accessFlags := 10, code := some k2c7 }
def k2c8 : Code := { maxStack := 4, maxLocals := 4, code := prog_21_method_9_code, exceptionTable := #[], attributes := #[] }
def k2m8 : Method := { name := "ceilDivide", desc := "(JJ)J", sig := { parameters := [.long, .long], returnType := some .long }, accessFlags := 10, code := some k2c8 }
/-- com/example/flipside/flipside/tool/LatencyHistogram -/
def k2 : Class := { plain "com/example/flipside/flipside/tool/LatencyHistogram" (some 0) with
  accessFlags := 48
  interfaces := #[]
  cf := some (fileOf pool2 1 #[] #[{ accessFlags := 0, nameIndex := 9, descriptorIndex := 10, attributes := #[] }, { accessFlags := 0, nameIndex := 84, descriptorIndex := 85, attributes := #[] }, { accessFlags := 0, nameIndex := 87, descriptorIndex := 88, attributes := #[] }, { accessFlags := 0, nameIndex := 27, descriptorIndex := 89, attributes := #[] }, { accessFlags := 0, nameIndex := 19, descriptorIndex := 89, attributes := #[] }, { accessFlags := 0, nameIndex := 90, descriptorIndex := 20, attributes := #[] }, { accessFlags := 10, nameIndex := 23, descriptorIndex := 24, attributes := #[] }, { accessFlags := 10, nameIndex := 52, descriptorIndex := 53, attributes := #[] }, { accessFlags := 10, nameIndex := 49, descriptorIndex := 20, attributes := #[] }] 48 6 #[] #[{ accessFlags := 26, nameIndex := 69, descriptorIndex := 70, attributes := #[] }, { accessFlags := 26, nameIndex := 73, descriptorIndex := 70, attributes := #[] }, { accessFlags := 26, nameIndex := 75, descriptorIndex := 70, attributes := #[] }, { accessFlags := 26, nameIndex := 77, descriptorIndex := 70, attributes := #[] }, { accessFlags := 26, nameIndex := 79, descriptorIndex := 70, attributes := #[] }, { accessFlags := 24, nameIndex := 81, descriptorIndex := 28, attributes := #[] }, { accessFlags := 18, nameIndex := 13, descriptorIndex := 14, attributes := #[] }, { accessFlags := 2, nameIndex := 27, descriptorIndex := 28, attributes := #[] }, { accessFlags := 2, nameIndex := 19, descriptorIndex := 28, attributes := #[] }])
  fields := #[{ name := "EXACT", type := .int, accessFlags := 26, slot := 0, constantValue := 0 }, { name := "PER_DOUBLING", type := .int, accessFlags := 26, slot := 1, constantValue := 0 }, { name := "EXACT_BITS", type := .int, accessFlags := 26, slot := 2, constantValue := 0 }, { name := "PER_DOUBLING_BITS", type := .int, accessFlags := 26, slot := 3, constantValue := 0 }, { name := "BUCKETS", type := .int, accessFlags := 26, slot := 4, constantValue := 0 }, { name := "MOST_WHOLE", type := .long, accessFlags := 24, slot := 5, constantValue := 0 }, { name := "counts", type := (.array .long), accessFlags := 18, slot := 0, constantValue := 0 }, { name := "count", type := .long, accessFlags := 2, slot := 1, constantValue := 0 }, { name := "max", type := .long, accessFlags := 2, slot := 2, constantValue := 0 }]
  methods := #[k2m0, k2m1, k2m2, k2m3, k2m4, k2m5, k2m6, k2m7, k2m8]
  instanceTypes := #[(.array .long), .long, .long]
  staticTypes := #[.int, .int, .int, .int, .int, .long]
  resolved := Array.replicate 108 none
  statics := none }

def pool3 : Array CpInfo := pool [(1, .class_ 2), (0, u "java/lang/Math"), (1, .class_ 6), (1, u "java/lang/Object"), (0, u "<init>"), (0, u "()V"), (89, .class_ 100), (1, u "java/lang/Math$RandomNumberGeneratorHolder"), (20, u "(JJ)J"), (50, u "negativeZeroFloatBits"), (0, u "J"), (2, u "negativeZeroDoubleBits"), (21, u "max"), (2, u "min"), (43, u "$assertionsDisabled"), (0, u "Z"), (91, u "twoToTheDoubleScaleDown"), (0, u "D"), (4, u "twoToTheDoubleScaleUp"), (9, u "E"), (3, u "PI"), (2, u "TAU"), (2, u "DEGREES_TO_RADIANS"), (0, u "RADIANS_TO_DEGREES")] 94

def k3m0 : Method := { name := "<init>", desc := "()V", sig := { parameters := [], returnType := none }, accessFlags := 2, code := none }
def k3c1 : Code := { maxStack := 4, maxLocals := 4, code := jdk_29_method_66_code, exceptionTable := #[], attributes := #[] }
def k3m1 : Method := { name := "max", desc := "(JJ)J", sig := { parameters := [.long, .long], returnType := some .long }, accessFlags := 9, code := some k3c1 }
def k3c2 : Code := { maxStack := 4, maxLocals := 4, code := jdk_29_method_70_code, exceptionTable := #[], attributes := #[] }
def k3m2 : Method := { name := "min", desc := "(JJ)J", sig := { parameters := [.long, .long], returnType := some .long }, accessFlags := 9, code := some k3c2 }
/-- java/lang/Math -/
def k3 : Class := { plain "java/lang/Math" (some 0) with
  accessFlags := 49
  interfaces := #[]
  cf := some (fileOf pool3 1 #[.nestMembers #[98]] #[{ accessFlags := 2, nameIndex := 7, descriptorIndex := 8, attributes := #[] }, { accessFlags := 9, nameIndex := 198, descriptorIndex := 121, attributes := #[] }, { accessFlags := 9, nameIndex := 201, descriptorIndex := 121, attributes := #[] }] 49 4 #[] #[{ accessFlags := 25, nameIndex := 354, descriptorIndex := 339, attributes := #[] }, { accessFlags := 25, nameIndex := 358, descriptorIndex := 339, attributes := #[] }, { accessFlags := 25, nameIndex := 361, descriptorIndex := 339, attributes := #[] }, { accessFlags := 26, nameIndex := 364, descriptorIndex := 339, attributes := #[] }, { accessFlags := 26, nameIndex := 365, descriptorIndex := 339, attributes := #[] }, { accessFlags := 26, nameIndex := 172, descriptorIndex := 173, attributes := #[] }, { accessFlags := 26, nameIndex := 176, descriptorIndex := 173, attributes := #[] }, { accessFlags := 8, nameIndex := 344, descriptorIndex := 339, attributes := #[] }, { accessFlags := 8, nameIndex := 338, descriptorIndex := 339, attributes := #[] }, { accessFlags := 4120, nameIndex := 245, descriptorIndex := 246, attributes := #[] }])
  fields := #[{ name := "E", type := .double, accessFlags := 25, slot := 0, constantValue := 0 }, { name := "PI", type := .double, accessFlags := 25, slot := 1, constantValue := 0 }, { name := "TAU", type := .double, accessFlags := 25, slot := 2, constantValue := 0 }, { name := "DEGREES_TO_RADIANS", type := .double, accessFlags := 26, slot := 3, constantValue := 0 }, { name := "RADIANS_TO_DEGREES", type := .double, accessFlags := 26, slot := 4, constantValue := 0 }, { name := "negativeZeroFloatBits", type := .long, accessFlags := 26, slot := 5, constantValue := 0 }, { name := "negativeZeroDoubleBits", type := .long, accessFlags := 26, slot := 6, constantValue := 0 }, { name := "twoToTheDoubleScaleUp", type := .double, accessFlags := 8, slot := 7, constantValue := 0 }, { name := "twoToTheDoubleScaleDown", type := .double, accessFlags := 8, slot := 8, constantValue := 0 }, { name := "$assertionsDisabled", type := .boolean, accessFlags := 4120, slot := 9, constantValue := 0 }]
  methods := #[k3m0, k3m1, k3m2]
  instanceTypes := #[]
  staticTypes := #[.double, .double, .double, .double, .double, .long, .long, .double, .double, .boolean]
  resolved := Array.replicate 460 none
  statics := none }

def pool4 : Array CpInfo := pool [(1, .class_ 2), (0, u "java/io/Serializable"), (0, .class_ 4), (0, u "java/lang/Object")] 2

/-- java/io/Serializable -/
def k4 : Class := { plain "java/io/Serializable" (some 0) with
  accessFlags := 1537
  interfaces := #[]
  cf := some (fileOf pool4 1 #[] #[] 1537 3 #[] #[])
  fields := #[]
  methods := #[]
  instanceTypes := #[]
  staticTypes := #[]
  resolved := Array.replicate 7 none
  statics := none }

def pool5 : Array CpInfo := pool [(2, .class_ 4), (1, u "java/lang/Object"), (0, u "<init>"), (0, u "()V"), (1, .class_ 10), (1, u "java/lang/Number"), (2, .class_ 14), (0, u "java/io/Serializable"), (0, u "serialVersionUID"), (0, u "J")] 20

def k5m0 : Method := { name := "<init>", desc := "()V", sig := { parameters := [], returnType := none }, accessFlags := 1, code := none }
/-- java/lang/Number -/
def k5 : Class := { plain "java/lang/Number" (some 0) with
  accessFlags := 1057
  interfaces := #[4]
  cf := some (fileOf pool5 8 #[] #[{ accessFlags := 1, nameIndex := 5, descriptorIndex := 6, attributes := #[] }] 1057 2 #[13] #[{ accessFlags := 26, nameIndex := 15, descriptorIndex := 16, attributes := #[] }])
  fields := #[{ name := "serialVersionUID", type := .long, accessFlags := 26, slot := 0, constantValue := 0 }]
  methods := #[k5m0]
  instanceTypes := #[]
  staticTypes := #[.long]
  resolved := Array.replicate 37 none
  statics := none }

def pool6 : Array CpInfo := pool [(1, .class_ 2), (0, u "java/lang/Comparable"), (0, .class_ 4), (0, u "java/lang/Object")] 7

/-- java/lang/Comparable -/
def k6 : Class := { plain "java/lang/Comparable" (some 0) with
  accessFlags := 1537
  interfaces := #[]
  cf := some (fileOf pool6 1 #[] #[] 1537 3 #[] #[])
  fields := #[]
  methods := #[]
  instanceTypes := #[]
  staticTypes := #[]
  resolved := Array.replicate 12 none
  statics := none }

def pool7 : Array CpInfo := pool [(1, .class_ 2), (0, u "java/lang/constant/Constable"), (0, .class_ 4), (0, u "java/lang/Object")] 6

/-- java/lang/constant/Constable -/
def k7 : Class := { plain "java/lang/constant/Constable" (some 0) with
  accessFlags := 1537
  interfaces := #[]
  cf := some (fileOf pool7 1 #[] #[] 1537 3 #[] #[])
  fields := #[]
  methods := #[]
  instanceTypes := #[]
  staticTypes := #[]
  resolved := Array.replicate 11 none
  statics := none }

def pool8 : Array CpInfo := pool [(1, .class_ 2), (0, u "java/lang/constant/ConstantDesc"), (0, .class_ 4), (0, u "java/lang/Object")] 32

/-- java/lang/constant/ConstantDesc -/
def k8 : Class := { plain "java/lang/constant/ConstantDesc" (some 0) with
  accessFlags := 1537
  interfaces := #[]
  cf := some (fileOf pool8 1 #[] #[] 1537 3 #[] #[])
  fields := #[]
  methods := #[]
  instanceTypes := #[]
  staticTypes := #[]
  resolved := Array.replicate 37 none
  statics := none }

def pool9 : Array CpInfo := pool [(1, .class_ 2), (0, u "java/lang/Long"), (15, .class_ 20), (1, u "java/lang/Integer"), (79, u "numberOfLeadingZeros"), (0, u "(J)I"), (133, .class_ 237), (1, u "java/lang/Long$LongCache"), (33, .class_ 272), (0, u "java/lang/Number"), (2, u "value"), (0, u "J"), (31, .methodref 18 309), (0, .nameAndType 100 310), (0, u "(I)I"), (50, u "TYPE"), (0, u "Ljava/lang/Class;"), (0, .class_ 364), (0, u "java/lang/Comparable"), (0, .class_ 366), (0, u "java/lang/constant/Constable"), (0, .class_ 368), (0, u "java/lang/constant/ConstantDesc"), (0, u "MIN_VALUE"), (1, u "MAX_VALUE"), (4, u "SIZE"), (0, u "I"), (1, u "BYTES"), (1, u "serialVersionUID")] 142

def k9c0 : Code := { maxStack := 3, maxLocals := 3, code := jdk_35_method_48_code, exceptionTable := #[], attributes := #[] }
def k9m0 : Method := { name := "numberOfLeadingZeros", desc := "(J)I", sig := { parameters := [.long], returnType := some .int }, accessFlags := 9, code := some k9c0 }
/-- java/lang/Long -/
def k9 : Class := { plain "java/lang/Long" (some 5) with
  accessFlags := 49
  interfaces := #[6, 7, 8]
  cf := some (fileOf pool9 1 #[.nestMembers #[235]] #[{ accessFlags := 9, nameIndex := 100, descriptorIndex := 101, attributes := #[] }] 49 271 #[363, 365, 367] #[{ accessFlags := 25, nameIndex := 369, descriptorIndex := 276, attributes := #[] }, { accessFlags := 25, nameIndex := 371, descriptorIndex := 276, attributes := #[] }, { accessFlags := 25, nameIndex := 361, descriptorIndex := 362, attributes := #[] }, { accessFlags := 18, nameIndex := 275, descriptorIndex := 276, attributes := #[] }, { accessFlags := 25, nameIndex := 376, descriptorIndex := 377, attributes := #[] }, { accessFlags := 25, nameIndex := 379, descriptorIndex := 377, attributes := #[] }, { accessFlags := 26, nameIndex := 381, descriptorIndex := 276, attributes := #[] }])
  fields := #[{ name := "MIN_VALUE", type := .long, accessFlags := 25, slot := 0, constantValue := 0 }, { name := "MAX_VALUE", type := .long, accessFlags := 25, slot := 1, constantValue := 0 }, { name := "TYPE", type := (.object "java/lang/Class"), accessFlags := 25, slot := 2, constantValue := 0 }, { name := "value", type := .long, accessFlags := 18, slot := 0, constantValue := 0 }, { name := "SIZE", type := .int, accessFlags := 25, slot := 3, constantValue := 0 }, { name := "BYTES", type := .int, accessFlags := 25, slot := 4, constantValue := 0 }, { name := "serialVersionUID", type := .long, accessFlags := 26, slot := 5, constantValue := 0 }]
  methods := #[k9m0]
  instanceTypes := #[.long]
  staticTypes := #[.long, .long, (.object "java/lang/Class"), .int, .int, .long]
  resolved := Array.replicate 524 none
  statics := none }

def pool10 : Array CpInfo := pool [(1, .class_ 2), (0, u "java/lang/Integer"), (16, u "digits"), (0, u "[C"), (32, u "numberOfLeadingZeros"), (0, u "(I)I"), (30, u "DigitOnes"), (0, u "[B"), (2, u "DigitTens"), (99, .class_ 190), (0, u "java/lang/Integer$IntegerCache"), (3, u "I"), (8, .class_ 204), (0, u "java/lang/Number"), (2, u "value"), (56, .integer 65536), (37, u "TYPE"), (0, u "Ljava/lang/Class;"), (0, .class_ 305), (0, u "java/lang/Comparable"), (0, .class_ 307), (0, u "java/lang/constant/Constable"), (0, .class_ 309), (0, u "java/lang/constant/ConstantDesc"), (0, u "MIN_VALUE"), (1, u "MAX_VALUE"), (3, u "SIZE"), (1, u "BYTES"), (1, u "serialVersionUID"), (0, u "J")] 131

def k10c0 : Code := { maxStack := 3, maxLocals := 2, code := jdk_33_method_47_code, exceptionTable := #[], attributes := #[] }
def k10m0 : Method := { name := "numberOfLeadingZeros", desc := "(I)I", sig := { parameters := [.int], returnType := some .int }, accessFlags := 9, code := some k10c0 }
/-- java/lang/Integer -/
def k10 : Class := { plain "java/lang/Integer" (some 5) with
  accessFlags := 49
  interfaces := #[6, 7, 8]
  cf := some (fileOf pool10 1 #[.nestMembers #[189]] #[{ accessFlags := 9, nameIndex := 53, descriptorIndex := 54, attributes := #[] }] 49 203 #[304, 306, 308] #[{ accessFlags := 25, nameIndex := 310, descriptorIndex := 194, attributes := #[] }, { accessFlags := 25, nameIndex := 312, descriptorIndex := 194, attributes := #[] }, { accessFlags := 25, nameIndex := 302, descriptorIndex := 303, attributes := #[] }, { accessFlags := 24, nameIndex := 19, descriptorIndex := 20, attributes := #[] }, { accessFlags := 24, nameIndex := 89, descriptorIndex := 86, attributes := #[] }, { accessFlags := 24, nameIndex := 85, descriptorIndex := 86, attributes := #[] }, { accessFlags := 18, nameIndex := 207, descriptorIndex := 194, attributes := #[] }, { accessFlags := 25, nameIndex := 316, descriptorIndex := 194, attributes := #[] }, { accessFlags := 25, nameIndex := 318, descriptorIndex := 194, attributes := #[] }, { accessFlags := 26, nameIndex := 320, descriptorIndex := 321, attributes := #[] }])
  fields := #[{ name := "MIN_VALUE", type := .int, accessFlags := 25, slot := 0, constantValue := 0 }, { name := "MAX_VALUE", type := .int, accessFlags := 25, slot := 1, constantValue := 0 }, { name := "TYPE", type := (.object "java/lang/Class"), accessFlags := 25, slot := 2, constantValue := 0 }, { name := "digits", type := (.array .char), accessFlags := 24, slot := 3, constantValue := 0 }, { name := "DigitTens", type := (.array .byte), accessFlags := 24, slot := 4, constantValue := 0 }, { name := "DigitOnes", type := (.array .byte), accessFlags := 24, slot := 5, constantValue := 0 }, { name := "value", type := .int, accessFlags := 18, slot := 0, constantValue := 0 }, { name := "SIZE", type := .int, accessFlags := 25, slot := 6, constantValue := 0 }, { name := "BYTES", type := .int, accessFlags := 25, slot := 7, constantValue := 0 }, { name := "serialVersionUID", type := .long, accessFlags := 26, slot := 8, constantValue := 0 }]
  methods := #[k10m0]
  instanceTypes := #[.int]
  staticTypes := #[.int, .int, (.object "java/lang/Class"), (.array .char), (.array .byte), (.array .byte), .int, .int, .long]
  resolved := Array.replicate 453 none
  statics := none }

def pool11 : Array CpInfo := pool [(1, u "java/lang/Cloneable"), (0, .class_ 1), (0, u "java/lang/Object"), (0, .class_ 3)] 3

/-- java/lang/Cloneable -/
def k11 : Class := { plain "java/lang/Cloneable" (some 0) with
  accessFlags := 1537
  interfaces := #[]
  cf := some (fileOf pool11 2 #[] #[] 1537 4 #[] #[])
  fields := #[]
  methods := #[]
  instanceTypes := #[]
  staticTypes := #[]
  resolved := Array.replicate 8 none
  statics := none }

/-- the primitive byte -/
def k12 : Class := { plain "byte" none with kind := .primitive 'B', accessFlags := 0x411 }
/-- [B -/
def k13 : Class := { plain "[B" (some 0) with kind := .array 12 .byte, interfaces := #[11, 4], accessFlags := 1041 }

/-- the primitive int -/
def k14 : Class := { plain "int" none with kind := .primitive 'I', accessFlags := 0x411 }
/-- [I -/
def k15 : Class := { plain "[I" (some 0) with kind := .array 14 .int, interfaces := #[11, 4], accessFlags := 1041 }

/-- the primitive long -/
def k16 : Class := { plain "long" none with kind := .primitive 'J', accessFlags := 0x411 }
/-- [J -/
def k17 : Class := { plain "[J" (some 0) with kind := .array 16 .long, interfaces := #[11, 4], accessFlags := 1041 }

def heap : Heap := #[]
def classes : Array Class := #[k0, k1, k2, k3, k4, k5, k6, k7, k8, k9, k10, k11, k12, k13, k14, k15, k16, k17]
def interned : List (Array UInt16 × Addr) := []
def slotsUsed : Nat := 0
def theMethod : MethodId := ⟨1, 1⟩
def args0 : Array Value := #[.long 7, .long 3, .int 3]
def aboutOver (below : List Frame) : State where
  vm := { classes := classes, interned := interned.toArray }
  heap := heap
  slotsUsed := slotsUsed
  threads := #[{ frames := .invoking theMethod args0 :: below }]
def below0 : List Frame := [.native { method := ⟨0, 0⟩, args := #[] }]
def about1 : State := aboutOver below0
def p0 : Program := .bare "" "" ""
def e0 : Env := launch0.env 0 0 0
theorem w_frames : about1.frames = Frame.invoking theMethod args0 :: below0 := rfl
set_option maxRecDepth 65536 in
theorem w_args : argsFit about1.vm theMethod args0 = true := by decide +kernel
set_option maxRecDepth 65536 in
theorem w_heap : heapFits about1 = true := by decide +kernel
set_option maxRecDepth 65536 in
theorem w_runnable : about1.curStatus? = some .runnable := by decide +kernel
set_option maxRecDepth 65536 in
theorem w_alone : about1.alone = true := by decide +kernel
set_option maxRecDepth 65536 in
theorem w_named : about1.methodNamed? x = some theMethod := by decide +kernel
set_option maxRecDepth 65536 in
theorem w_hears : about1.hears theMethod below0 = true := by decide +kernel
set_option maxRecDepth 65536 in
theorem w_ripe : about1.ripe theMethod args0 below0 = true := by decide +kernel
theorem w_running : about1.status = .running := rfl
set_option maxRecDepth 65536 in
theorem w_room : about1.hasRoom e0.platform room_1 = true :=
  launch0.hasRoom_least _ room_1 (by decide +kernel) (by decide +kernel) (by decide +kernel) (by decide +kernel) (by decide +kernel) (by decide +kernel)
theorem allAtoms_all (ts : List Jvm.Cond) (a : Array Jvm.Value) (st : Jvm.State) : (allAtoms ts).before a st = ts.all (fun c => c.before a st) := by
  induction ts with
  | nil => rfl
  | cons c t ih =>
    show (Jvm.Cond.and c (allAtoms t)).before a st = _
    rw [Jvm.Cond.before_and, ih, List.all_cons]
def words1 : List Jvm.Cond := Jvm.Cond.code x code maxLocals ret :: tables_1
/-- a 'code' word, met by the world's own term for the bytes: nothing is compared byte by byte -/
theorem code_word {y : MethodName} {bytes : ByteArray} {mx : Nat} {rt : Option FieldType} {a : Array Value} {s : State} {m : MethodId} {meth : Method} {c : Code} (h1 : s.methodNamed? y = some m) (h2 : s.vm.method? m = some meth) (h3 : meth.code = some c) (h4 : c.code = bytes)
    (h5 : (c.maxLocals == mx && c.exceptionTable.isEmpty && decide (c.maxStack ≤ mostOperands) && decide (meth.sig.returnType = rt) && !meth.locks && decide (parseMethodDescriptor y.desc = some meth.sig)) = true) : (Jvm.Cond.code y bytes mx rt).before a s = true := by
  simp only [Bool.and_eq_true, beq_iff_eq, Bool.not_eq_true', decide_eq_true_eq] at h5
  obtain ⟨⟨⟨⟨⟨g1, g2⟩, g3⟩, g4⟩, g5⟩, g6⟩ := h5
  simp [Cond.before, Cond.holds, Cond.value, h1, h2, h3, h4, g1, g2, g3, g4, g5, g6]
def isCode : Jvm.Cond → Bool
  | .code _ _ _ _ => true
  | _ => false
theorem all_split {L : List Jvm.Cond} {P : Jvm.Cond → Bool} (h1 : L.all (fun c => isCode c || P c) = true) (h2 : ∀ c ∈ L.filter isCode, P c = true) : L.all P = true := by
  refine List.all_eq_true.mpr fun c hc => ?_
  have h := List.all_eq_true.mp h1 c hc
  rcases Bool.eq_false_or_eq_true (isCode c) with hi | hi
  · exact h2 c (List.mem_filter.mpr ⟨hc, hi⟩)
  · simpa [hi] using h
set_option maxRecDepth 65536 in
theorem w_c0 : (Jvm.Cond.code x code maxLocals ret).before args0 about1 = true := code_word (m := ⟨1, 1⟩) (meth := k1m1) (c := k1c1) (by decide +kernel) rfl rfl rfl (by decide +kernel)
set_option maxRecDepth 65536 in
theorem w_c1 : (Jvm.Cond.code ({ cls := "com/example/flipside/flipside/tool/LatencyHistogram", name := "<init>", desc := "()V" } : Jvm.MethodName) prog_21_method_1_code (1 : Nat) (Option.none : Option Jvm.ClassFile.FieldType)).before args0 about1 = true := code_word (m := ⟨2, 0⟩) (meth := k2m0) (c := k2c0) (by decide +kernel) rfl rfl rfl (by decide +kernel)
set_option maxRecDepth 65536 in
theorem w_c2 : (Jvm.Cond.code ({ cls := "java/lang/Object", name := "<init>", desc := "()V" } : Jvm.MethodName) object_method_1_code (1 : Nat) (Option.none : Option Jvm.ClassFile.FieldType)).before args0 about1 = true := code_word (m := ⟨0, 0⟩) (meth := k0m0) (c := k0c0) (by decide +kernel) rfl rfl rfl (by decide +kernel)
set_option maxRecDepth 65536 in
theorem w_c3 : (Jvm.Cond.code ({ cls := "com/example/flipside/flipside/tool/LatencyHistogram", name := "add", desc := "(Lcom/example/flipside/flipside/tool/LatencyHistogram;)V" } : Jvm.MethodName) prog_21_method_3_code (3 : Nat) (Option.none : Option Jvm.ClassFile.FieldType)).before args0 about1 = true := code_word (m := ⟨2, 2⟩) (meth := k2m2) (c := k2c2) (by decide +kernel) rfl rfl rfl (by decide +kernel)
set_option maxRecDepth 65536 in
theorem w_c4 : (Jvm.Cond.code ({ cls := "java/lang/Math", name := "max", desc := "(JJ)J" } : Jvm.MethodName) jdk_29_method_66_code (4 : Nat) (Option.some Jvm.ClassFile.FieldType.long)).before args0 about1 = true := code_word (m := ⟨3, 1⟩) (meth := k3m1) (c := k3c1) (by decide +kernel) rfl rfl rfl (by decide +kernel)
set_option maxRecDepth 65536 in
theorem w_c5 : (Jvm.Cond.code ({ cls := "com/example/flipside/flipside/tool/LatencyHistogram", name := "count", desc := "()J" } : Jvm.MethodName) prog_21_method_4_code (1 : Nat) (Option.some Jvm.ClassFile.FieldType.long)).before args0 about1 = true := code_word (m := ⟨2, 3⟩) (meth := k2m3) (c := k2c3) (by decide +kernel) rfl rfl rfl (by decide +kernel)
set_option maxRecDepth 65536 in
theorem w_c6 : (Jvm.Cond.code ({ cls := "com/example/flipside/flipside/tool/LatencyHistogram", name := "max", desc := "()J" } : Jvm.MethodName) prog_21_method_5_code (1 : Nat) (Option.some Jvm.ClassFile.FieldType.long)).before args0 about1 = true := code_word (m := ⟨2, 4⟩) (meth := k2m4) (c := k2c4) (by decide +kernel) rfl rfl rfl (by decide +kernel)
set_option maxRecDepth 65536 in
theorem w_c7 : (Jvm.Cond.code ({ cls := "com/example/flipside/flipside/tool/LatencyHistogram", name := "record", desc := "(J)V" } : Jvm.MethodName) prog_21_method_2_code (5 : Nat) (Option.none : Option Jvm.ClassFile.FieldType)).before args0 about1 = true := code_word (m := ⟨2, 1⟩) (meth := k2m1) (c := k2c1) (by decide +kernel) rfl rfl rfl (by decide +kernel)
set_option maxRecDepth 65536 in
theorem w_c8 : (Jvm.Cond.code ({ cls := "com/example/flipside/flipside/tool/LatencyHistogram", name := "bucket", desc := "(J)I" } : Jvm.MethodName) prog_21_method_7_code (4 : Nat) (Option.some Jvm.ClassFile.FieldType.int)).before args0 about1 = true := code_word (m := ⟨2, 6⟩) (meth := k2m6) (c := k2c6) (by decide +kernel) rfl rfl rfl (by decide +kernel)
set_option maxRecDepth 65536 in
theorem w_c9 : (Jvm.Cond.code ({ cls := "com/example/flipside/flipside/tool/LatencyHistogram", name := "percentile", desc := "(JJ)J" } : Jvm.MethodName) prog_21_method_6_code (10 : Nat) (Option.some Jvm.ClassFile.FieldType.long)).before args0 about1 = true := code_word (m := ⟨2, 5⟩) (meth := k2m5) (c := k2c5) (by decide +kernel) rfl rfl rfl (by decide +kernel)
set_option maxRecDepth 65536 in
theorem w_c10 : (Jvm.Cond.code ({ cls := "com/example/flipside/flipside/tool/LatencyHistogram", name := "ceilDivide", desc := "(JJ)J" } : Jvm.MethodName) prog_21_method_9_code (4 : Nat) (Option.some Jvm.ClassFile.FieldType.long)).before args0 about1 = true := code_word (m := ⟨2, 8⟩) (meth := k2m8) (c := k2c8) (by decide +kernel) rfl rfl rfl (by decide +kernel)
set_option maxRecDepth 65536 in
theorem w_c11 : (Jvm.Cond.code ({ cls := "com/example/flipside/flipside/tool/LatencyHistogram", name := "longestIn", desc := "(I)J" } : Jvm.MethodName) prog_21_method_8_code (5 : Nat) (Option.some Jvm.ClassFile.FieldType.long)).before args0 about1 = true := code_word (m := ⟨2, 7⟩) (meth := k2m7) (c := k2c7) (by decide +kernel) rfl rfl rfl (by decide +kernel)
set_option maxRecDepth 65536 in
theorem w_c12 : (Jvm.Cond.code ({ cls := "java/lang/Math", name := "min", desc := "(JJ)J" } : Jvm.MethodName) jdk_29_method_70_code (4 : Nat) (Option.some Jvm.ClassFile.FieldType.long)).before args0 about1 = true := code_word (m := ⟨3, 2⟩) (meth := k3m2) (c := k3c2) (by decide +kernel) rfl rfl rfl (by decide +kernel)
set_option maxRecDepth 65536 in
theorem w_c13 : (Jvm.Cond.code ({ cls := "java/lang/Long", name := "numberOfLeadingZeros", desc := "(J)I" } : Jvm.MethodName) jdk_35_method_48_code (3 : Nat) (Option.some Jvm.ClassFile.FieldType.int)).before args0 about1 = true := code_word (m := ⟨9, 0⟩) (meth := k9m0) (c := k9c0) (by decide +kernel) rfl rfl rfl (by decide +kernel)
set_option maxRecDepth 65536 in
theorem w_c14 : (Jvm.Cond.code ({ cls := "java/lang/Integer", name := "numberOfLeadingZeros", desc := "(I)I" } : Jvm.MethodName) jdk_33_method_47_code (2 : Nat) (Option.some Jvm.ClassFile.FieldType.int)).before args0 about1 = true := code_word (m := ⟨10, 0⟩) (meth := k10m0) (c := k10c0) (by decide +kernel) rfl rfl rfl (by decide +kernel)
def codes1 : List Jvm.Cond := [Jvm.Cond.code x code maxLocals ret, Jvm.Cond.code ({ cls := "com/example/flipside/flipside/tool/LatencyHistogram", name := "<init>", desc := "()V" } : Jvm.MethodName) prog_21_method_1_code (1 : Nat) (Option.none : Option Jvm.ClassFile.FieldType), Jvm.Cond.code ({ cls := "java/lang/Object", name := "<init>", desc := "()V" } : Jvm.MethodName) object_method_1_code (1 : Nat) (Option.none : Option Jvm.ClassFile.FieldType), Jvm.Cond.code ({ cls := "com/example/flipside/flipside/tool/LatencyHistogram", name := "add", desc := "(Lcom/example/flipside/flipside/tool/LatencyHistogram;)V" } : Jvm.MethodName) prog_21_method_3_code (3 : Nat) (Option.none : Option Jvm.ClassFile.FieldType), Jvm.Cond.code ({ cls := "java/lang/Math", name := "max", desc := "(JJ)J" } : Jvm.MethodName) jdk_29_method_66_code (4 : Nat) (Option.some Jvm.ClassFile.FieldType.long), Jvm.Cond.code ({ cls := "com/example/flipside/flipside/tool/LatencyHistogram", name := "count", desc := "()J" } : Jvm.MethodName) prog_21_method_4_code (1 : Nat) (Option.some Jvm.ClassFile.FieldType.long), Jvm.Cond.code ({ cls := "com/example/flipside/flipside/tool/LatencyHistogram", name := "max", desc := "()J" } : Jvm.MethodName) prog_21_method_5_code (1 : Nat) (Option.some Jvm.ClassFile.FieldType.long), Jvm.Cond.code ({ cls := "com/example/flipside/flipside/tool/LatencyHistogram", name := "record", desc := "(J)V" } : Jvm.MethodName) prog_21_method_2_code (5 : Nat) (Option.none : Option Jvm.ClassFile.FieldType), Jvm.Cond.code ({ cls := "com/example/flipside/flipside/tool/LatencyHistogram", name := "bucket", desc := "(J)I" } : Jvm.MethodName) prog_21_method_7_code (4 : Nat) (Option.some Jvm.ClassFile.FieldType.int), Jvm.Cond.code ({ cls := "com/example/flipside/flipside/tool/LatencyHistogram", name := "percentile", desc := "(JJ)J" } : Jvm.MethodName) prog_21_method_6_code (10 : Nat) (Option.some Jvm.ClassFile.FieldType.long), Jvm.Cond.code ({ cls := "com/example/flipside/flipside/tool/LatencyHistogram", name := "ceilDivide", desc := "(JJ)J" } : Jvm.MethodName) prog_21_method_9_code (4 : Nat) (Option.some Jvm.ClassFile.FieldType.long), Jvm.Cond.code ({ cls := "com/example/flipside/flipside/tool/LatencyHistogram", name := "longestIn", desc := "(I)J" } : Jvm.MethodName) prog_21_method_8_code (5 : Nat) (Option.some Jvm.ClassFile.FieldType.long), Jvm.Cond.code ({ cls := "java/lang/Math", name := "min", desc := "(JJ)J" } : Jvm.MethodName) jdk_29_method_70_code (4 : Nat) (Option.some Jvm.ClassFile.FieldType.long), Jvm.Cond.code ({ cls := "java/lang/Long", name := "numberOfLeadingZeros", desc := "(J)I" } : Jvm.MethodName) jdk_35_method_48_code (3 : Nat) (Option.some Jvm.ClassFile.FieldType.int), Jvm.Cond.code ({ cls := "java/lang/Integer", name := "numberOfLeadingZeros", desc := "(I)I" } : Jvm.MethodName) jdk_33_method_47_code (2 : Nat) (Option.some Jvm.ClassFile.FieldType.int)]
set_option maxRecDepth 65536 in
theorem codes_eq : words1.filter isCode = codes1 := rfl
theorem w_codes : ∀ c ∈ words1.filter isCode, c.before args0 about1 = true := by
  rw [codes_eq]
  intro c hc
  simp only [codes1, List.mem_cons, List.not_mem_nil, or_false] at hc
  rcases hc with rfl | rfl | rfl | rfl | rfl | rfl | rfl | rfl | rfl | rfl | rfl | rfl | rfl | rfl | rfl
  · exact w_c0
  · exact w_c1
  · exact w_c2
  · exact w_c3
  · exact w_c4
  · exact w_c5
  · exact w_c6
  · exact w_c7
  · exact w_c8
  · exact w_c9
  · exact w_c10
  · exact w_c11
  · exact w_c12
  · exact w_c13
  · exact w_c14
set_option maxRecDepth 65536 in
theorem w_t1 : (words1.take 24).all (fun c => isCode c || c.before args0 about1) = true := by decide +kernel
set_option maxRecDepth 65536 in
theorem w_t2 : ((words1.drop 24).take 24).all (fun c => isCode c || c.before args0 about1) = true := by decide +kernel
set_option maxRecDepth 65536 in
theorem w_t3 : ((words1.drop 24).drop 24).all (fun c => isCode c || c.before args0 about1) = true := by decide +kernel
theorem w_tables : (allAtoms (Jvm.Cond.code x code maxLocals ret :: tables_1)).before args0 about1 = true := by
  rw [allAtoms_all]
  show words1.all (fun c => c.before args0 about1) = true
  refine all_split ?_ w_codes
  rw [← List.take_append_drop 24 words1, List.all_append, w_t1, ← List.take_append_drop 24 (words1.drop 24), List.all_append, w_t2, w_t3]
  rfl
set_option maxRecDepth 65536 in
theorem w_case : (Jvm.Cond.and given_1 narrow_1).before args0 about1 = true := by decide +kernel
theorem w_applies : (headSpec (Jvm.Cond.code x code maxLocals ret :: tables_1) room_1).applies x e0.platform about1 = true :=
  (Spec.applies_iff w_frames).mpr ⟨w_running, w_runnable, w_alone, w_named, w_hears, w_ripe, w_room, w_tables⟩
theorem atStart : AtStart classFile x code maxLocals ret World_1 tables_1 room_1 Calls_1 rest_1 Pre_1 launch0 p0 e0 about1 theMethod args0 below0 :=
  ⟨lists_1, trivial, launch0.admits_env _ _ _, launch0.least_env, fairChoices_fair.cas, fairChoices_fair.clock, w_frames, w_args, w_heap, w_applies, trivial, trivial, w_case⟩
end start1
theorem witness_1 : WitnessClaimed_1 := ⟨start1.p0, start1.e0, start1.about1, start1.theMethod, start1.args0, start1.below0, start1.atStart⟩
end Jvm.Pilot.@@N@@
