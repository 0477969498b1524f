import JvmDerived
import JvmDerived.Pilot.@@N@@Statement
import JvmDerived.Pilot.@@N@@Code
set_option linter.unusedVariables false
set_option linter.unusedSimpArgs false
namespace Jvm.Pilot.@@N@@
open Jvm Jvm.ClassFile Sem Op Lib Jvm.Free Jvm.Stand Jvm.LawKit Jvm.RoadKit Bundle Jvm.Pilot.@@N@@.Jvm.D
/-! 0. one goal for a walk: from T with the frame g on top the run comes back with what Q says -/
def own_W (p : Program) (e : Env) (En : Outcome → State → List Loc → Nat → Nat → Prop) (below : List Frame) (kc ks : Nat) (Q : Option Value → Heap → List Loc → Prop) (T : State) (g : JFrame) : Prop :=
  ∃ s₂ o, Steps p.tables e below (T.setTop g) s₂ ∧ s₂.status = .running ∧ Ended s₂ below o ∧ ∃ v L, o = .returned v ∧ Q v s₂.heap L ∧ En o s₂ L kc ks
section OwnW
variable {En : Outcome → State → List Loc → Nat → Nat → Prop} {p : Program} {l : Launch} {e : Env} {R : Room} {s : State} {m : MethodId} {args : Array Value} {below : List Frame} {meth : Method} {c : Code} {T T' : State} {locs : List Loc} {cells slots kc ks : Nat} {Q : Option Value → Heap → List Loc → Prop} {g g' : JFrame} {pc pc' : Nat} {Ls : Array Slot} {st rest : List Value} {Z : State} {h h' : Heap} {a b : Addr} {sl : Nat}
theorem own_W.step (k : ∀ t, Steps p.tables e below (T'.setTop g') t → Steps p.tables e below (T.setTop g) t) (w : own_W p e En below kc ks Q T' g') : own_W p e En below kc ks Q T g := by
  obtain ⟨s2, o, h1, h2⟩ := w
  exact ⟨s2, o, k _ h1, h2⟩
theorem own_W.steps (k : Steps p.tables e below (T.setTop g) (T'.setTop g')) (w : own_W p e En below kc ks Q T' g') : own_W p e En below kc ks Q T g := by
  obtain ⟨s2, o, h1, h2⟩ := w
  exact ⟨s2, o, k.trans h1, h2⟩
theorem own_leave (X : Stand p l e R s m args below meth c T locs cells slots) (hlk : meth.locks = false) {v : Option Value} (hv : meth.sig.returnType = none → v = none) (hc : cells ≤ kc) (hs : slots ≤ ks)
    (k : ∀ fs, (∀ (f : JFrame) (acts : List Action), f.method = m → f.locked = none → f.entered = [] → (doReturn e (T.setTop f) acts v).1 = T.setFrames fs) → Steps p.tables e below (T.setTop g) (T.setFrames fs)) (hQ : Q v T.heap locs) : own_W p e (FrameEnd s) below kc ks Q T g := by
  obtain ⟨fs, hr, hrun, hended, hW, hsame⟩ := X.leave (v := v) hv hlk
  exact ⟨_, _, k fs hr, hrun, hended, v, locs, rfl, hQ, ⟨_, rfl⟩, hW, hsame.mono hc hs⟩
theorem own_retV (X : Stand p l e R s m args below meth c T locs cells slots) (hx : p.tables.exec = Jvm.exec) (hlk : meth.locks = false) (hret : meth.sig.returnType = none) (hd : decode c.code pc = .ok (.return_, 1)) (hc : cells ≤ kc) (hs : slots ≤ ks) (hQ : Q none T.heap locs) : own_W p e (FrameEnd s) below kc ks Q T (mkF m pc Ls []) :=
  own_leave X hlk (fun _ => rfl) hc hs (fun fs hr => X.returnOut hx hret hd hr) hQ
theorem own_retN {t : FieldType} (X : Stand p l e R s m args below meth c T locs cells slots) (hx : p.tables.exec = Jvm.exec) (hlk : meth.locks = false) (hret : meth.sig.returnType = some t) (ht : t = .boolean ∨ t = .byte ∨ t = .char ∨ t = .short) (hd : decode c.code pc = .ok (.ireturn, 1)) {z z' : Int32} (hz : nar t z = z') (hc : cells ≤ kc) (hs : slots ≤ ks) (hQ : Q (some (.int z')) T.heap locs) : own_W p e (FrameEnd s) below kc ks Q T (mkF m pc Ls (.int z :: rest)) := by
  subst hz
  exact own_leave X hlk (fun q => by rw [hret] at q; cases q) hc hs (fun fs hr => retN X hx hret ht hd hr) hQ
theorem own_retI (X : Stand p l e R s m args below meth c T locs cells slots) (hx : p.tables.exec = Jvm.exec) (hlk : meth.locks = false) (hret : meth.sig.returnType = some .int) (hd : decode c.code pc = .ok (.ireturn, 1)) {z : Int32} (hc : cells ≤ kc) (hs : slots ≤ ks) (hQ : Q (some (.int z)) T.heap locs) : own_W p e (FrameEnd s) below kc ks Q T (mkF m pc Ls (.int z :: rest)) :=
  own_leave X hlk (fun q => by rw [hret] at q; cases q) hc hs (fun fs hr => retOut X hx (t := .int) (w := .int z) (i := .ireturn) hret rfl (Or.inl ⟨rfl, Or.inl rfl, z, rfl⟩) hd hr) hQ
theorem own_retJ (X : Stand p l e R s m args below meth c T locs cells slots) (hx : p.tables.exec = Jvm.exec) (hlk : meth.locks = false) (hret : meth.sig.returnType = some .long) (hd : decode c.code pc = .ok (.lreturn, 1)) {z : Int64} (hc : cells ≤ kc) (hs : slots ≤ ks) (hQ : Q (some (.long z)) T.heap locs) : own_W p e (FrameEnd s) below kc ks Q T (mkF m pc Ls (.long z :: rest)) :=
  own_leave X hlk (fun q => by rw [hret] at q; cases q) hc hs (fun fs hr => retOut X hx (t := .long) (w := .long z) (i := .lreturn) hret rfl (Or.inr (Or.inl ⟨rfl, rfl, z, rfl⟩)) hd hr) hQ
theorem own_retA {t : FieldType} (X : Stand p l e R s m args below meth c T locs cells slots) (hx : p.tables.exec = Jvm.exec) (hlk : meth.locks = false) (hret : meth.sig.returnType = some t) (hn : narrow t (.ref a) = .ref a) (ht : t.isReference = true) (hd : decode c.code pc = .ok (.areturn, 1)) (hc : cells ≤ kc) (hs : slots ≤ ks) (hQ : Q (some (.ref a)) T.heap locs) : own_W p e (FrameEnd s) below kc ks Q T (mkF m pc Ls (.ref a :: rest)) :=
  own_leave X hlk (fun q => by rw [hret] at q; cases q) hc hs (fun fs hr => retOut X hx (t := t) (w := .ref a) (i := .areturn) hret hn (Or.inr (Or.inr (Or.inr (Or.inr ⟨rfl, ht, rfl⟩)))) hd hr) hQ
theorem own_iload (X : Stand p l e R s m args below meth c T locs cells slots) (hx : p.tables.exec = Jvm.exec) {k : Nat} {v : Int32} (hd : decode c.code pc = .ok (.iload k, 2)) (hl : Ls[k]? = some (.val (.int v))) (hp : pc + 2 = pc') (w : own_W p e En below kc ks Q T (mkF m pc' Ls (.int v :: st))) : own_W p e En below kc ks Q T (mkF m pc Ls (st)) := by
  subst hp; exact own_W.step (fun _ q => XS.iload X.here hx rfl hd hl q) w
theorem own_iloadN (X : Stand p l e R s m args below meth c T locs cells slots) (hx : p.tables.exec = Jvm.exec) {k : Fin 4} {v : Int32} (hd : decode c.code pc = .ok (.iload_n k, 1)) (hl : Ls[k.val]? = some (.val (.int v))) (hp : pc + 1 = pc') (w : own_W p e En below kc ks Q T (mkF m pc' Ls (.int v :: st))) : own_W p e En below kc ks Q T (mkF m pc Ls (st)) := by
  subst hp; exact own_W.step (fun _ q => XS.iloadN X.here hx rfl hd hl q) w
theorem own_lload (X : Stand p l e R s m args below meth c T locs cells slots) (hx : p.tables.exec = Jvm.exec) {k : Nat} {v : Int64} (hd : decode c.code pc = .ok (.lload k, 2)) (hl : Ls[k]? = some (.val (.long v))) (hp : pc + 2 = pc') (w : own_W p e En below kc ks Q T (mkF m pc' Ls (.long v :: st))) : own_W p e En below kc ks Q T (mkF m pc Ls (st)) := by
  subst hp; exact own_W.step (fun _ q => XS.lload X.here hx rfl hd hl q) w
theorem own_lloadN (X : Stand p l e R s m args below meth c T locs cells slots) (hx : p.tables.exec = Jvm.exec) {k : Fin 4} {v : Int64} (hd : decode c.code pc = .ok (.lload_n k, 1)) (hl : Ls[k.val]? = some (.val (.long v))) (hp : pc + 1 = pc') (w : own_W p e En below kc ks Q T (mkF m pc' Ls (.long v :: st))) : own_W p e En below kc ks Q T (mkF m pc Ls (st)) := by
  subst hp; exact own_W.step (fun _ q => XS.lloadN X.here hx rfl hd hl q) w
theorem own_aload (X : Stand p l e R s m args below meth c T locs cells slots) (hx : p.tables.exec = Jvm.exec) {k : Nat} {v : Value} (hd : decode c.code pc = .ok (.aload k, 2)) (hl : Ls[k]? = some (.val v)) (hv : v.isRef = true) (hp : pc + 2 = pc') (w : own_W p e En below kc ks Q T (mkF m pc' Ls (v :: st))) : own_W p e En below kc ks Q T (mkF m pc Ls (st)) := by
  subst hp; exact own_W.step (fun _ q => XS.aload X.here hx rfl hd hl hv q) w
theorem own_aloadN (X : Stand p l e R s m args below meth c T locs cells slots) (hx : p.tables.exec = Jvm.exec) {k : Fin 4} {v : Value} (hd : decode c.code pc = .ok (.aload_n k, 1)) (hl : Ls[k.val]? = some (.val v)) (hv : v.isRef = true) (hp : pc + 1 = pc') (w : own_W p e En below kc ks Q T (mkF m pc' Ls (v :: st))) : own_W p e En below kc ks Q T (mkF m pc Ls (st)) := by
  subst hp; exact own_W.step (fun _ q => XS.aloadN X.here hx rfl hd hl hv q) w
theorem own_istore (X : Stand p l e R s m args below meth c T locs cells slots) (hx : p.tables.exec = Jvm.exec) {k : Nat} {v : Int32} {l' : Array Slot} (hd : decode c.code pc = .ok (.istore k, 2)) (hl : storeLocals Ls k (.int v) = some l') (hp : pc + 2 = pc') (w : own_W p e En below kc ks Q T (mkF m pc' l' (st))) : own_W p e En below kc ks Q T (mkF m pc Ls (.int v :: st)) := by
  subst hp; exact own_W.step (fun _ q => XS.istore X.here hx rfl hd rfl hl q) w
theorem own_istoreN (X : Stand p l e R s m args below meth c T locs cells slots) (hx : p.tables.exec = Jvm.exec) {k : Fin 4} {v : Int32} {l' : Array Slot} (hd : decode c.code pc = .ok (.istore_n k, 1)) (hl : storeLocals Ls k.val (.int v) = some l') (hp : pc + 1 = pc') (w : own_W p e En below kc ks Q T (mkF m pc' l' (st))) : own_W p e En below kc ks Q T (mkF m pc Ls (.int v :: st)) := by
  subst hp; exact own_W.step (fun _ q => XS.istoreN X.here hx rfl hd rfl hl q) w
theorem own_lstore (X : Stand p l e R s m args below meth c T locs cells slots) (hx : p.tables.exec = Jvm.exec) {k : Nat} {v : Int64} {l' : Array Slot} (hd : decode c.code pc = .ok (.lstore k, 2)) (hl : storeLocals Ls k (.long v) = some l') (hp : pc + 2 = pc') (w : own_W p e En below kc ks Q T (mkF m pc' l' (st))) : own_W p e En below kc ks Q T (mkF m pc Ls (.long v :: st)) := by
  subst hp; exact own_W.step (fun _ q => XS.lstore X.here hx rfl hd rfl hl q) w
theorem own_lstoreN (X : Stand p l e R s m args below meth c T locs cells slots) (hx : p.tables.exec = Jvm.exec) {k : Fin 4} {v : Int64} {l' : Array Slot} (hd : decode c.code pc = .ok (.lstore_n k, 1)) (hl : storeLocals Ls k.val (.long v) = some l') (hp : pc + 1 = pc') (w : own_W p e En below kc ks Q T (mkF m pc' l' (st))) : own_W p e En below kc ks Q T (mkF m pc Ls (.long v :: st)) := by
  subst hp; exact own_W.step (fun _ q => XS.lstoreN X.here hx rfl hd rfl hl q) w
theorem own_astore (X : Stand p l e R s m args below meth c T locs cells slots) (hx : p.tables.exec = Jvm.exec) {k : Nat} {v : Value} {l' : Array Slot} (hd : decode c.code pc = .ok (.astore k, 2)) (hv : v.isRef = true) (hl : storeLocals Ls k v = some l') (hp : pc + 2 = pc') (w : own_W p e En below kc ks Q T (mkF m pc' l' (st))) : own_W p e En below kc ks Q T (mkF m pc Ls (v :: st)) := by
  subst hp; exact own_W.step (fun _ q => XS.astore X.here hx rfl hd rfl hv hl q) w
theorem own_astoreN (X : Stand p l e R s m args below meth c T locs cells slots) (hx : p.tables.exec = Jvm.exec) {k : Fin 4} {v : Value} {l' : Array Slot} (hd : decode c.code pc = .ok (.astore_n k, 1)) (hv : v.isRef = true) (hl : storeLocals Ls k.val v = some l') (hp : pc + 1 = pc') (w : own_W p e En below kc ks Q T (mkF m pc' l' (st))) : own_W p e En below kc ks Q T (mkF m pc Ls (v :: st)) := by
  subst hp; exact own_W.step (fun _ q => XS.astoreN X.here hx rfl hd rfl hv hl q) w
theorem own_iconst (X : Stand p l e R s m args below meth c T locs cells slots) (hx : p.tables.exec = Jvm.exec) {i : Int} (hd : decode c.code pc = .ok (.iconst i, 1)) (v : Int32) (hv : Int32.ofInt i = v) (hp : pc + 1 = pc') (w : own_W p e En below kc ks Q T (mkF m pc' Ls (.int v :: st))) : own_W p e En below kc ks Q T (mkF m pc Ls (st)) := by
  subst hp; exact own_W.step (fun _ q => XT.iconstV X.here hx rfl v hd hv q) w
theorem own_bipush (X : Stand p l e R s m args below meth c T locs cells slots) (hx : p.tables.exec = Jvm.exec) {i : Int} (hd : decode c.code pc = .ok (.bipush i, 2)) (v : Int32) (hv : (Int8.ofInt i).toInt32 = v) (hp : pc + 2 = pc') (w : own_W p e En below kc ks Q T (mkF m pc' Ls (.int v :: st))) : own_W p e En below kc ks Q T (mkF m pc Ls (st)) := by
  subst hp; exact own_W.step (fun _ q => XT.bipushV X.here hx rfl v hd hv q) w
theorem own_sipush (X : Stand p l e R s m args below meth c T locs cells slots) (hx : p.tables.exec = Jvm.exec) {i : Int} (hd : decode c.code pc = .ok (.sipush i, 3)) (v : Int32) (hv : (Int16.ofInt i).toInt32 = v) (hp : pc + 3 = pc') (w : own_W p e En below kc ks Q T (mkF m pc' Ls (.int v :: st))) : own_W p e En below kc ks Q T (mkF m pc Ls (st)) := by
  subst hp; exact own_W.step (fun _ q => XT.sipushV X.here hx rfl v hd hv q) w
theorem own_lconst (X : Stand p l e R s m args below meth c T locs cells slots) (hx : p.tables.exec = Jvm.exec) {k : Fin 2} (hd : decode c.code pc = .ok (.lconst k, 1)) (v : Int64) (hv : Int64.ofNat k = v) (hp : pc + 1 = pc') (w : own_W p e En below kc ks Q T (mkF m pc' Ls (.long v :: st))) : own_W p e En below kc ks Q T (mkF m pc Ls (st)) := by
  subst hp; exact own_W.step (fun _ q => XT.lconstV X.here hx rfl v hd hv q) w
theorem own_aconstNull (X : Stand p l e R s m args below meth c T locs cells slots) (hx : p.tables.exec = Jvm.exec)  (hd : decode c.code pc = .ok (.aconst_null, 1))  (hp : pc + 1 = pc') (w : own_W p e En below kc ks Q T (mkF m pc' Ls (.null :: st))) : own_W p e En below kc ks Q T (mkF m pc Ls (st)) := by
  subst hp; exact own_W.step (fun _ q => XS.aconstNull X.here hx rfl hd q) w
theorem own_ldcInt (X : Stand p l e R s m args below meth c T locs cells slots) (hx : p.tables.exec = Jvm.exec) {own : String} {index : Nat} {v : Int32} (hown : s.vm.findClass own = some m.cls) (hk : (Jvm.Cond.constant own index v).before args s = true) (hd : decode c.code pc = .ok (.ldc index, 2)) (hp : pc + 2 = pc') (w : own_W p e En below kc ks Q T (mkF m pc' Ls (.int v :: st))) : own_W p e En below kc ks Q T (mkF m pc Ls st) := by
  subst hp; exact own_W.step (X.ldcInt hx hown hk (g := mkF m pc Ls st) rfl hd) w
theorem own_ldcwInt (X : Stand p l e R s m args below meth c T locs cells slots) (hx : p.tables.exec = Jvm.exec) {own : String} {index : Nat} {v : Int32} (hown : s.vm.findClass own = some m.cls) (hk : (Jvm.Cond.constant own index v).before args s = true) (hd : decode c.code pc = .ok (.ldc_w index, 3)) (hp : pc + 3 = pc') (w : own_W p e En below kc ks Q T (mkF m pc' Ls (.int v :: st))) : own_W p e En below kc ks Q T (mkF m pc Ls st) := by
  subst hp; exact own_W.step (X.ldcwInt hx hown hk (g := mkF m pc Ls st) rfl hd) w
theorem own_ldc2Long (X : Stand p l e R s m args below meth c T locs cells slots) (hx : p.tables.exec = Jvm.exec) {own : String} {index : Nat} {v : Int64} (hown : s.vm.findClass own = some m.cls) (hk : (Jvm.Cond.constantLong own index v).before args s = true) (hd : decode c.code pc = .ok (.ldc2_w index, 3)) (hp : pc + 3 = pc') (w : own_W p e En below kc ks Q T (mkF m pc' Ls (.long v :: st))) : own_W p e En below kc ks Q T (mkF m pc Ls st) := by
  subst hp; exact own_W.step (X.ldc2Long hx hown hk (g := mkF m pc Ls st) rfl hd) w
theorem own_iadd (X : Stand p l e R s m args below meth c T locs cells slots) (hx : p.tables.exec = Jvm.exec) {x y : Int32} (hd : decode c.code pc = .ok (.iadd, 1))  (hp : pc + 1 = pc') (w : own_W p e En below kc ks Q T (mkF m pc' Ls (.int (x + y) :: st))) : own_W p e En below kc ks Q T (mkF m pc Ls (.int y :: .int x :: st)) := by
  subst hp; exact own_W.step (fun _ q => XS.iadd X.here hx rfl hd rfl q) w
theorem own_ladd (X : Stand p l e R s m args below meth c T locs cells slots) (hx : p.tables.exec = Jvm.exec) {x y : Int64} (hd : decode c.code pc = .ok (.ladd, 1))  (hp : pc + 1 = pc') (w : own_W p e En below kc ks Q T (mkF m pc' Ls (.long (x + y) :: st))) : own_W p e En below kc ks Q T (mkF m pc Ls (.long y :: .long x :: st)) := by
  subst hp; exact own_W.step (fun _ q => XS.ladd X.here hx rfl hd rfl q) w
theorem own_isub (X : Stand p l e R s m args below meth c T locs cells slots) (hx : p.tables.exec = Jvm.exec) {x y : Int32} (hd : decode c.code pc = .ok (.isub, 1))  (hp : pc + 1 = pc') (w : own_W p e En below kc ks Q T (mkF m pc' Ls (.int (x - y) :: st))) : own_W p e En below kc ks Q T (mkF m pc Ls (.int y :: .int x :: st)) := by
  subst hp; exact own_W.step (fun _ q => XS.isub X.here hx rfl hd rfl q) w
theorem own_lsub (X : Stand p l e R s m args below meth c T locs cells slots) (hx : p.tables.exec = Jvm.exec) {x y : Int64} (hd : decode c.code pc = .ok (.lsub, 1))  (hp : pc + 1 = pc') (w : own_W p e En below kc ks Q T (mkF m pc' Ls (.long (x - y) :: st))) : own_W p e En below kc ks Q T (mkF m pc Ls (.long y :: .long x :: st)) := by
  subst hp; exact own_W.step (fun _ q => XS.lsub X.here hx rfl hd rfl q) w
theorem own_imul (X : Stand p l e R s m args below meth c T locs cells slots) (hx : p.tables.exec = Jvm.exec) {x y : Int32} (hd : decode c.code pc = .ok (.imul, 1))  (hp : pc + 1 = pc') (w : own_W p e En below kc ks Q T (mkF m pc' Ls (.int (x * y) :: st))) : own_W p e En below kc ks Q T (mkF m pc Ls (.int y :: .int x :: st)) := by
  subst hp; exact own_W.step (fun _ q => XS.imul X.here hx rfl hd rfl q) w
theorem own_lmul (X : Stand p l e R s m args below meth c T locs cells slots) (hx : p.tables.exec = Jvm.exec) {x y : Int64} (hd : decode c.code pc = .ok (.lmul, 1))  (hp : pc + 1 = pc') (w : own_W p e En below kc ks Q T (mkF m pc' Ls (.long (x * y) :: st))) : own_W p e En below kc ks Q T (mkF m pc Ls (.long y :: .long x :: st)) := by
  subst hp; exact own_W.step (fun _ q => XS.lmul X.here hx rfl hd rfl q) w
theorem own_iand (X : Stand p l e R s m args below meth c T locs cells slots) (hx : p.tables.exec = Jvm.exec) {x y : Int32} (hd : decode c.code pc = .ok (.iand, 1))  (hp : pc + 1 = pc') (w : own_W p e En below kc ks Q T (mkF m pc' Ls (.int (x &&& y) :: st))) : own_W p e En below kc ks Q T (mkF m pc Ls (.int y :: .int x :: st)) := by
  subst hp; exact own_W.step (fun _ q => XS.iand X.here hx rfl hd rfl q) w
theorem own_land (X : Stand p l e R s m args below meth c T locs cells slots) (hx : p.tables.exec = Jvm.exec) {x y : Int64} (hd : decode c.code pc = .ok (.land, 1))  (hp : pc + 1 = pc') (w : own_W p e En below kc ks Q T (mkF m pc' Ls (.long (x &&& y) :: st))) : own_W p e En below kc ks Q T (mkF m pc Ls (.long y :: .long x :: st)) := by
  subst hp; exact own_W.step (fun _ q => XS.land X.here hx rfl hd rfl q) w
theorem own_ior (X : Stand p l e R s m args below meth c T locs cells slots) (hx : p.tables.exec = Jvm.exec) {x y : Int32} (hd : decode c.code pc = .ok (.ior, 1))  (hp : pc + 1 = pc') (w : own_W p e En below kc ks Q T (mkF m pc' Ls (.int (x ||| y) :: st))) : own_W p e En below kc ks Q T (mkF m pc Ls (.int y :: .int x :: st)) := by
  subst hp; exact own_W.step (fun _ q => XS.ior X.here hx rfl hd rfl q) w
theorem own_lor (X : Stand p l e R s m args below meth c T locs cells slots) (hx : p.tables.exec = Jvm.exec) {x y : Int64} (hd : decode c.code pc = .ok (.lor, 1))  (hp : pc + 1 = pc') (w : own_W p e En below kc ks Q T (mkF m pc' Ls (.long (x ||| y) :: st))) : own_W p e En below kc ks Q T (mkF m pc Ls (.long y :: .long x :: st)) := by
  subst hp; exact own_W.step (fun _ q => XS.lor X.here hx rfl hd rfl q) w
theorem own_ixor (X : Stand p l e R s m args below meth c T locs cells slots) (hx : p.tables.exec = Jvm.exec) {x y : Int32} (hd : decode c.code pc = .ok (.ixor, 1))  (hp : pc + 1 = pc') (w : own_W p e En below kc ks Q T (mkF m pc' Ls (.int (x ^^^ y) :: st))) : own_W p e En below kc ks Q T (mkF m pc Ls (.int y :: .int x :: st)) := by
  subst hp; exact own_W.step (fun _ q => XS.ixor X.here hx rfl hd rfl q) w
theorem own_lxor (X : Stand p l e R s m args below meth c T locs cells slots) (hx : p.tables.exec = Jvm.exec) {x y : Int64} (hd : decode c.code pc = .ok (.lxor, 1))  (hp : pc + 1 = pc') (w : own_W p e En below kc ks Q T (mkF m pc' Ls (.long (x ^^^ y) :: st))) : own_W p e En below kc ks Q T (mkF m pc Ls (.long y :: .long x :: st)) := by
  subst hp; exact own_W.step (fun _ q => XS.lxor X.here hx rfl hd rfl q) w
theorem own_idiv (X : Stand p l e R s m args below meth c T locs cells slots) (hx : p.tables.exec = Jvm.exec) {x y : Int32} (hd : decode c.code pc = .ok (.idiv, 1)) (hy : y ≠ 0) (hp : pc + 1 = pc') (w : own_W p e En below kc ks Q T (mkF m pc' Ls (.int (x / y) :: st))) : own_W p e En below kc ks Q T (mkF m pc Ls (.int y :: .int x :: st)) := by
  subst hp; exact own_W.step (fun _ q => XS.idiv X.here hx rfl hd rfl hy q) w
theorem own_ldiv (X : Stand p l e R s m args below meth c T locs cells slots) (hx : p.tables.exec = Jvm.exec) {x y : Int64} (hd : decode c.code pc = .ok (.ldiv, 1)) (hy : y ≠ 0) (hp : pc + 1 = pc') (w : own_W p e En below kc ks Q T (mkF m pc' Ls (.long (x / y) :: st))) : own_W p e En below kc ks Q T (mkF m pc Ls (.long y :: .long x :: st)) := by
  subst hp; exact own_W.step (fun _ q => XS.ldiv X.here hx rfl hd rfl hy q) w
theorem own_irem (X : Stand p l e R s m args below meth c T locs cells slots) (hx : p.tables.exec = Jvm.exec) {x y : Int32} (hd : decode c.code pc = .ok (.irem, 1)) (hy : y ≠ 0) (hp : pc + 1 = pc') (w : own_W p e En below kc ks Q T (mkF m pc' Ls (.int (x % y) :: st))) : own_W p e En below kc ks Q T (mkF m pc Ls (.int y :: .int x :: st)) := by
  subst hp; exact own_W.step (fun _ q => iremM X hx rfl hd rfl hy q) w
theorem own_lrem (X : Stand p l e R s m args below meth c T locs cells slots) (hx : p.tables.exec = Jvm.exec) {x y : Int64} (hd : decode c.code pc = .ok (.lrem, 1)) (hy : y ≠ 0) (hp : pc + 1 = pc') (w : own_W p e En below kc ks Q T (mkF m pc' Ls (.long (x % y) :: st))) : own_W p e En below kc ks Q T (mkF m pc Ls (.long y :: .long x :: st)) := by
  subst hp; exact own_W.step (fun _ q => XS.lrem X.here hx rfl hd rfl hy (by rw [lrem_mod]; exact q)) w
theorem own_ineg (X : Stand p l e R s m args below meth c T locs cells slots) (hx : p.tables.exec = Jvm.exec) {x : Int32} (hd : decode c.code pc = .ok (.ineg, 1))  (hp : pc + 1 = pc') (w : own_W p e En below kc ks Q T (mkF m pc' Ls (.int (-x) :: st))) : own_W p e En below kc ks Q T (mkF m pc Ls (.int x :: st)) := by
  subst hp; exact own_W.step (fun _ q => XS.ineg X.here hx rfl hd rfl q) w
theorem own_lneg (X : Stand p l e R s m args below meth c T locs cells slots) (hx : p.tables.exec = Jvm.exec) {x : Int64} (hd : decode c.code pc = .ok (.lneg, 1))  (hp : pc + 1 = pc') (w : own_W p e En below kc ks Q T (mkF m pc' Ls (.long (-x) :: st))) : own_W p e En below kc ks Q T (mkF m pc Ls (.long x :: st)) := by
  subst hp; exact own_W.step (fun _ q => XS.lneg X.here hx rfl hd rfl q) w
theorem own_i2l (X : Stand p l e R s m args below meth c T locs cells slots) (hx : p.tables.exec = Jvm.exec) {x : Int32} (hd : decode c.code pc = .ok (.i2l, 1))  (hp : pc + 1 = pc') (w : own_W p e En below kc ks Q T (mkF m pc' Ls (.long (x.toInt64) :: st))) : own_W p e En below kc ks Q T (mkF m pc Ls (.int x :: st)) := by
  subst hp; exact own_W.step (fun _ q => XS.i2l X.here hx rfl hd rfl q) w
theorem own_l2i (X : Stand p l e R s m args below meth c T locs cells slots) (hx : p.tables.exec = Jvm.exec) {x : Int64} (hd : decode c.code pc = .ok (.l2i, 1))  (hp : pc + 1 = pc') (w : own_W p e En below kc ks Q T (mkF m pc' Ls (.int (x.toInt32) :: st))) : own_W p e En below kc ks Q T (mkF m pc Ls (.long x :: st)) := by
  subst hp; exact own_W.step (fun _ q => XS.l2i X.here hx rfl hd rfl q) w
theorem own_i2b (X : Stand p l e R s m args below meth c T locs cells slots) (hx : p.tables.exec = Jvm.exec) {x : Int32} (hd : decode c.code pc = .ok (.i2b, 1))  (hp : pc + 1 = pc') (w : own_W p e En below kc ks Q T (mkF m pc' Ls (.int (x.toInt8.toInt32) :: st))) : own_W p e En below kc ks Q T (mkF m pc Ls (.int x :: st)) := by
  subst hp; exact own_W.step (fun _ q => XS.i2b X.here hx rfl hd rfl q) w
theorem own_i2s (X : Stand p l e R s m args below meth c T locs cells slots) (hx : p.tables.exec = Jvm.exec) {x : Int32} (hd : decode c.code pc = .ok (.i2s, 1))  (hp : pc + 1 = pc') (w : own_W p e En below kc ks Q T (mkF m pc' Ls (.int (x.toInt16.toInt32) :: st))) : own_W p e En below kc ks Q T (mkF m pc Ls (.int x :: st)) := by
  subst hp; exact own_W.step (fun _ q => XS.i2s X.here hx rfl hd rfl q) w
theorem own_i2c (X : Stand p l e R s m args below meth c T locs cells slots) (hx : p.tables.exec = Jvm.exec) {x : Int32} (hd : decode c.code pc = .ok (.i2c, 1))  (hp : pc + 1 = pc') (w : own_W p e En below kc ks Q T (mkF m pc' Ls (.int (x.toUInt32.toUInt16.toUInt32.toInt32) :: st))) : own_W p e En below kc ks Q T (mkF m pc Ls (.int x :: st)) := by
  subst hp; exact own_W.step (fun _ q => XS.i2c X.here hx rfl hd rfl q) w
theorem own_ishl (X : Stand p l e R s m args below meth c T locs cells slots) (hx : p.tables.exec = Jvm.exec) {x y : Int32} (hd : decode c.code pc = .ok (.ishl, 1))  (hp : pc + 1 = pc') (w : own_W p e En below kc ks Q T (mkF m pc' Ls (.int (x <<< (y &&& 31)) :: st))) : own_W p e En below kc ks Q T (mkF m pc Ls (.int y :: .int x :: st)) := by
  subst hp; exact own_W.step (fun _ q => XS.ishl X.here hx rfl hd rfl q) w
theorem own_ishr (X : Stand p l e R s m args below meth c T locs cells slots) (hx : p.tables.exec = Jvm.exec) {x y : Int32} (hd : decode c.code pc = .ok (.ishr, 1))  (hp : pc + 1 = pc') (w : own_W p e En below kc ks Q T (mkF m pc' Ls (.int (x >>> (y &&& 31)) :: st))) : own_W p e En below kc ks Q T (mkF m pc Ls (.int y :: .int x :: st)) := by
  subst hp; exact own_W.step (fun _ q => XS.ishr X.here hx rfl hd rfl q) w
theorem own_iushr (X : Stand p l e R s m args below meth c T locs cells slots) (hx : p.tables.exec = Jvm.exec) {x y : Int32} (hd : decode c.code pc = .ok (.iushr, 1))  (hp : pc + 1 = pc') (w : own_W p e En below kc ks Q T (mkF m pc' Ls (.int ((x.toUInt32 >>> (y &&& 31).toUInt32).toInt32) :: st))) : own_W p e En below kc ks Q T (mkF m pc Ls (.int y :: .int x :: st)) := by
  subst hp; exact own_W.step (fun _ q => XS.iushr X.here hx rfl hd rfl q) w
theorem own_lshl (X : Stand p l e R s m args below meth c T locs cells slots) (hx : p.tables.exec = Jvm.exec) {x : Int64} {y : Int32} (hd : decode c.code pc = .ok (.lshl, 1))  (hp : pc + 1 = pc') (w : own_W p e En below kc ks Q T (mkF m pc' Ls (.long (x <<< (y &&& 0x3f).toInt64) :: st))) : own_W p e En below kc ks Q T (mkF m pc Ls (.int y :: .long x :: st)) := by
  subst hp; exact own_W.step (fun _ q => XS.lshl X.here hx rfl hd rfl q) w
theorem own_lshr (X : Stand p l e R s m args below meth c T locs cells slots) (hx : p.tables.exec = Jvm.exec) {x : Int64} {y : Int32} (hd : decode c.code pc = .ok (.lshr, 1))  (hp : pc + 1 = pc') (w : own_W p e En below kc ks Q T (mkF m pc' Ls (.long (x >>> (y &&& 0x3f).toInt64) :: st))) : own_W p e En below kc ks Q T (mkF m pc Ls (.int y :: .long x :: st)) := by
  subst hp; exact own_W.step (fun _ q => XS.lshr X.here hx rfl hd rfl q) w
theorem own_lushr (X : Stand p l e R s m args below meth c T locs cells slots) (hx : p.tables.exec = Jvm.exec) {x : Int64} {y : Int32} (hd : decode c.code pc = .ok (.lushr, 1))  (hp : pc + 1 = pc') (w : own_W p e En below kc ks Q T (mkF m pc' Ls (.long ((x.toUInt64 >>> (y &&& 0x3f).toInt64.toUInt64).toInt64) :: st))) : own_W p e En below kc ks Q T (mkF m pc Ls (.int y :: .long x :: st)) := by
  subst hp; exact own_W.step (fun _ q => XS.lushr X.here hx rfl hd rfl q) w
theorem own_lcmp (X : Stand p l e R s m args below meth c T locs cells slots) (hx : p.tables.exec = Jvm.exec) {x y : Int64} (hd : decode c.code pc = .ok (.lcmp, 1))  (hp : pc + 1 = pc') (w : own_W p e En below kc ks Q T (mkF m pc' Ls (.int (XT.cmpL x y) :: st))) : own_W p e En below kc ks Q T (mkF m pc Ls (.long y :: .long x :: st)) := by
  subst hp; exact own_W.step (fun _ q => XT.lcmp X.here hx rfl hd rfl q) w
theorem own_iinc (X : Stand p l e R s m args below meth c T locs cells slots) (hx : p.tables.exec = Jvm.exec) {k : Nat} {cst : Int} (hd : decode c.code pc = .ok (.iinc k cst, 3)) (v : Int32) (hv : Int32.ofInt cst = v) {x : Int32} {l' : Array Slot} (hl : Ls[k]? = some (.val (.int x))) (hl' : storeLocals Ls k (.int (x + v)) = some l') (hp : pc + 3 = pc') (w : own_W p e En below kc ks Q T (mkF m pc' l' (st))) : own_W p e En below kc ks Q T (mkF m pc Ls (st)) := by
  subst hp; exact own_W.step (fun _ q => XT.iincV X.here hx rfl v hd hv hl hl' q) w
theorem own_dup (X : Stand p l e R s m args below meth c T locs cells slots) (hx : p.tables.exec = Jvm.exec) {x : Value} (hd : decode c.code pc = .ok (.dup, 1)) (hc : x.category = 1) (hp : pc + 1 = pc') (w : own_W p e En below kc ks Q T (mkF m pc' Ls (x :: x :: st))) : own_W p e En below kc ks Q T (mkF m pc Ls (x :: st)) := by
  subst hp; exact own_W.step (fun _ q => XS.dup X.here hx rfl hd rfl hc q) w
theorem own_pop (X : Stand p l e R s m args below meth c T locs cells slots) (hx : p.tables.exec = Jvm.exec) {x : Value} (hd : decode c.code pc = .ok (.pop, 1)) (hc : x.category = 1) (hp : pc + 1 = pc') (w : own_W p e En below kc ks Q T (mkF m pc' Ls (st))) : own_W p e En below kc ks Q T (mkF m pc Ls (x :: st)) := by
  subst hp; exact own_W.step (fun _ q => XS.pop X.here hx rfl hd rfl hc q) w
theorem own_dupX1 (X : Stand p l e R s m args below meth c T locs cells slots) (hx : p.tables.exec = Jvm.exec) {x y : Value} (hd : decode c.code pc = .ok (.dup_x1, 1)) (hc : x.category = 1) (hc2 : y.category = 1) (hp : pc + 1 = pc') (w : own_W p e En below kc ks Q T (mkF m pc' Ls (x :: y :: x :: st))) : own_W p e En below kc ks Q T (mkF m pc Ls (x :: y :: st)) := by
  subst hp; exact own_W.step (fun _ q => XS.dupX1 X.here hx rfl hd rfl hc hc2 q) w
theorem own_dup2 (X : Stand p l e R s m args below meth c T locs cells slots) (hx : p.tables.exec = Jvm.exec) {x y : Value} (hd : decode c.code pc = .ok (.dup2, 1)) (hc : x.category = 1) (hc2 : y.category = 1) (hp : pc + 1 = pc') (w : own_W p e En below kc ks Q T (mkF m pc' Ls (x :: y :: x :: y :: st))) : own_W p e En below kc ks Q T (mkF m pc Ls (x :: y :: st)) := by
  subst hp; exact own_W.step (fun _ q => XT.dup2 X.here hx rfl hd rfl hc hc2 q) w
theorem own_dup2L (X : Stand p l e R s m args below meth c T locs cells slots) (hx : p.tables.exec = Jvm.exec) {x : Int64} (hd : decode c.code pc = .ok (.dup2, 1))  (hp : pc + 1 = pc') (w : own_W p e En below kc ks Q T (mkF m pc' Ls (.long x :: .long x :: st))) : own_W p e En below kc ks Q T (mkF m pc Ls (.long x :: st)) := by
  subst hp; exact own_W.step (fun _ q => XT.dup2L X.here hx rfl hd rfl q) w
theorem own_goto (X : Stand p l e R s m args below meth c T locs cells slots) (hx : p.tables.exec = Jvm.exec) {o : Int} (hd : decode c.code pc = .ok (.goto o, 3)) {pc' : Nat} (ho : 0 ≤ (pc : Int) + o) (hp : ((pc : Int) + o).toNat = pc') (w : own_W p e En below kc ks Q T (mkF m pc' Ls st)) : own_W p e En below kc ks Q T (mkF m pc Ls st) :=
  own_W.step (fun _ q => XS.goto X.here hx rfl rfl hd ho hp q) w
theorem own_ifYes (X : Stand p l e R s m args below meth c T locs cells slots) (hx : p.tables.exec = Jvm.exec) {cd : Jvm.ClassFile.Cond} {x : Int32} {o : Int} (hd : decode c.code pc = .ok (.ifCond cd o, 3)) (hc : ifCond.holds cd x = true) {pc' : Nat} (ho : 0 ≤ (pc : Int) + o) (hp : ((pc : Int) + o).toNat = pc') (w : own_W p e En below kc ks Q T (mkF m pc' Ls st)) : own_W p e En below kc ks Q T (mkF m pc Ls (.int x :: st)) :=
  own_W.step (fun _ q => XS.ifYes X.here hx rfl rfl hd rfl hc ho hp q) w
theorem own_ifNo (X : Stand p l e R s m args below meth c T locs cells slots) (hx : p.tables.exec = Jvm.exec) {cd : Jvm.ClassFile.Cond} {x : Int32} {o : Int} (hd : decode c.code pc = .ok (.ifCond cd o, 3)) (hc : ifCond.holds cd x = false) (hp : pc + 3 = pc') (w : own_W p e En below kc ks Q T (mkF m pc' Ls st)) : own_W p e En below kc ks Q T (mkF m pc Ls (.int x :: st)) := by
  subst hp; exact own_W.step (fun _ q => XS.ifNo X.here hx rfl hd rfl hc q) w
theorem own_icmpYes (X : Stand p l e R s m args below meth c T locs cells slots) (hx : p.tables.exec = Jvm.exec) {cd : Jvm.ClassFile.Cond} {x y : Int32} {o : Int} (hd : decode c.code pc = .ok (.if_icmp cd o, 3)) (hc : if_icmp.holds cd x y = true) {pc' : Nat} (ho : 0 ≤ (pc : Int) + o) (hp : ((pc : Int) + o).toNat = pc') (w : own_W p e En below kc ks Q T (mkF m pc' Ls st)) : own_W p e En below kc ks Q T (mkF m pc Ls (.int y :: .int x :: st)) :=
  own_W.step (fun _ q => XS.icmpYes X.here hx rfl rfl hd rfl hc ho hp q) w
theorem own_icmpNo (X : Stand p l e R s m args below meth c T locs cells slots) (hx : p.tables.exec = Jvm.exec) {cd : Jvm.ClassFile.Cond} {x y : Int32} {o : Int} (hd : decode c.code pc = .ok (.if_icmp cd o, 3)) (hc : if_icmp.holds cd x y = false) (hp : pc + 3 = pc') (w : own_W p e En below kc ks Q T (mkF m pc' Ls st)) : own_W p e En below kc ks Q T (mkF m pc Ls (.int y :: .int x :: st)) := by
  subst hp; exact own_W.step (fun _ q => XS.icmpNo X.here hx rfl hd rfl hc q) w
theorem own_ifnullYes (X : Stand p l e R s m args below meth c T locs cells slots) (hx : p.tables.exec = Jvm.exec) {o : Int} (hd : decode c.code pc = .ok (.ifnull o, 3)) {pc' : Nat} (ho : 0 ≤ (pc : Int) + o) (hp : ((pc : Int) + o).toNat = pc') (w : own_W p e En below kc ks Q T (mkF m pc' Ls st)) : own_W p e En below kc ks Q T (mkF m pc Ls (.null :: st)) :=
  own_W.step (fun _ q => XS.ifnullYes X.here hx rfl rfl hd rfl ho hp q) w
theorem own_ifnullNo (X : Stand p l e R s m args below meth c T locs cells slots) (hx : p.tables.exec = Jvm.exec) {o : Int} (hd : decode c.code pc = .ok (.ifnull o, 3)) (hp : pc + 3 = pc') (w : own_W p e En below kc ks Q T (mkF m pc' Ls st)) : own_W p e En below kc ks Q T (mkF m pc Ls (.ref b :: st)) := by
  subst hp; exact own_W.step (fun _ q => XS.ifnullNo X.here hx rfl hd rfl q) w
theorem own_ifnonnullYes (X : Stand p l e R s m args below meth c T locs cells slots) (hx : p.tables.exec = Jvm.exec) {o : Int} (hd : decode c.code pc = .ok (.ifnonnull o, 3)) {pc' : Nat} (ho : 0 ≤ (pc : Int) + o) (hp : ((pc : Int) + o).toNat = pc') (w : own_W p e En below kc ks Q T (mkF m pc' Ls st)) : own_W p e En below kc ks Q T (mkF m pc Ls (.ref b :: st)) :=
  own_W.step (fun _ q => XS.ifnonnullYes X.here hx rfl rfl hd rfl ho hp q) w
theorem own_ifnonnullNo (X : Stand p l e R s m args below meth c T locs cells slots) (hx : p.tables.exec = Jvm.exec) {o : Int} (hd : decode c.code pc = .ok (.ifnonnull o, 3)) (hp : pc + 3 = pc') (w : own_W p e En below kc ks Q T (mkF m pc' Ls st)) : own_W p e En below kc ks Q T (mkF m pc Ls (.null :: st)) := by
  subst hp; exact own_W.step (fun _ q => XS.ifnonnullNo X.here hx rfl hd rfl q) w
/-- an array: its kind, its length, what each place holds -/
def own_A (Z : State) (h : Heap) (a : Addr) (ty : FieldType) (n : Nat) (f : Nat → Value) : Prop := ∃ c : Cell, Arr Z h a c ty ∧ c.slots.size = n ∧ n < 2 ^ 31 ∧ (∀ i, i < n → c.slots[i]? = some (f i)) ∧ ∀ i, i < n → fits ty (f i) = true
/-- the int j names the place i, which lies in an array of n places -/
def own_In (j : Int32) (i n : Nat) : Prop := j.toInt = (i : Int) ∧ i < n
variable {ty : FieldType} {n i : Nat} {f f' : Nat → Value} {j : Int32}
def own_k0 (_ : Nat) : Int32 := 0
def own_k0L (_ : Nat) : Int64 := 0
def own_up {α : Type} (f : Nat → α) (k : Nat) (x : α) (z : Nat) : α := if z = k then x else f z
theorem own_up_same {α : Type} (f : Nat → α) (k : Nat) (x : α) : own_up f k x k = x := if_pos rfl
theorem own_up_other {α : Type} (f : Nat → α) (k : Nat) (x : α) (z : Nat) (q : z ≠ k) : own_up f k x z = f z := if_neg q
theorem own_In.nat (q : own_In j i n) : j.toNatClampNeg = i := by
  show j.toInt.toNat = i
  rw [q.1]; rfl
theorem own_In.inb {cl : Cell} (q : own_In j i n) (S : cl.slots.size = n) : ¬ (j < 0 ∨ cl.slots.size ≤ j.toNatClampNeg) := by
  rw [q.nat, S]
  have q1 := q.1
  have q2 := q.2
  rintro (r | r)
  · rw [Int32.lt_iff_toInt_lt] at r
    have z : (0 : Int32).toInt = 0 := rfl
    omega
  · omega
theorem own_A.lt (F : own_A Z h a ty n f) : a < h.size := by obtain ⟨c, A, -⟩ := F; exact A.lt
theorem own_A.len (F : own_A Z h a ty n f) : n < 2 ^ 31 := by obtain ⟨c, -, -, q, -, -⟩ := F; exact q
theorem own_A.ext (F : own_A Z h a ty n f) (E : Ext h h') : own_A Z h' a ty n f := by obtain ⟨c, A, r⟩ := F; exact ⟨c, A.ext E, r⟩
theorem own_A.other {v : Value} (F : own_A Z h b ty n f) (W : Wr h h' a sl v) (q : b ≠ a) : own_A Z h' b ty n f := by obtain ⟨c, A, r⟩ := F; exact ⟨c, A.other W q, r⟩
theorem own_A.keep {ws : List Addr} (F : own_A Z h a ty n f) (K : Keep h h' ws) (q : a ∉ ws) : own_A Z h' a ty n f := by obtain ⟨c, A, r⟩ := F; exact ⟨c, ⟨K.2.1 a c A.1 q, A.2⟩, r⟩
theorem own_A.congr (F : own_A Z h a ty n f) (q : ∀ i, i < n → f i = f' i) : own_A Z h a ty n f' := by
  obtain ⟨c, A, r1, r2, r3, r4⟩ := F
  exact ⟨c, A, r1, r2, fun i hi => by rw [r3 i hi, q i hi], fun i hi => by rw [← q i hi]; exact r4 i hi⟩
theorem own_A.fit (F : own_A Z h a ty n f) {i : Nat} (hi : i < n) : fits ty (f i) = true := by obtain ⟨c, A, r1, r2, r3, r4⟩ := F; exact r4 i hi
theorem own_A.new {k : ClassId} {z : Int32} (A : Arr Z h a (newA k ty z) ty) (q : ¬ z < 0) (hn : z.toNatClampNeg = n) : own_A Z h a ty n (fun _ => defaultValue ty) := by
  subst hn
  refine ⟨_, A, sz_new _ _ _, (back32 q).2, fun i hi => ?_, fun i _ => by cases ty <;> rfl⟩
  show (Array.replicate z.toNatClampNeg (defaultValue ty))[i]? = _
  rw [Array.getElem?_replicate, if_pos hi]
theorem own_A.put {cl : Cell} {v : Value} (A : Arr Z h a cl ty) (S : cl.slots.size = n) (hn : n < 2 ^ 31) (H : ∀ i, i < n → cl.slots[i]? = some (f i)) (G : ∀ i, i < n → fits ty (f i) = true) (hv : fits ty v = true) (q : own_In j i n) (W : Wr h h' a j.toNatClampNeg v) : own_A Z h' a ty n (fun z => if z = i then v else f z) := by
  refine ⟨_, A.same W, by rw [sz_set]; exact S, hn, fun k hk => ?_, fun k hk => ?_⟩
  rotate_left
  · show fits ty (if k = i then v else f k) = true
    by_cases e : k = i
    · rw [if_pos e]; exact hv
    · rw [if_neg e]; exact G k hk
  show (cl.slots.setIfInBounds j.toNatClampNeg v)[k]? = some (if k = i then v else f k)
  rw [q.nat, Array.getElem?_setIfInBounds]
  by_cases e : i = k
  · subst e
    rw [if_pos rfl, if_pos (by rw [S]; exact hk), if_pos rfl]
  · rw [if_neg e, if_neg (fun z => e z.symm), H k hk]
theorem own_stI (X : Stand p l e R s m args below meth c T locs cells slots) (hx : p.tables.exec = Jvm.exec) (hZ : Z.Warmed39 s.vm) (eT : T.heap = h) (F : own_A Z h a .int n f) {x : Int32} (hi : own_In j i n) {g : JFrame} (hg : g.method = m) {rest : List Value} (hs : g.stack = .int x :: .int j :: .ref a :: rest) (hd : decode c.code g.pc = .ok (.iastore, 1)) :
    ∃ T' h', Stand p l e R s m args below meth c T' (locs ++ [⟨a, j.toNatClampNeg⟩]) cells slots ∧ T'.heap = h' ∧ Wr h h' a j.toNatClampNeg (.int (x)) ∧ own_A Z h' a .int n (fun z => if z = i then .int (x) else f z) ∧ ∀ target, Steps p.tables e below (T'.setTop { g with pc := g.pc + 1, stack := rest }) target → Steps p.tables e below (T.setTop g) target := by
  obtain ⟨cl, A, S, hn, H, G⟩ := F
  obtain ⟨T', h', X', e', W', st'⟩ := stI X hx hZ eT A (hi.inb S) hg hs hd
  exact ⟨T', h', X', e', W', own_A.put A S hn H G rfl hi W', st'⟩
theorem own_stJ (X : Stand p l e R s m args below meth c T locs cells slots) (hx : p.tables.exec = Jvm.exec) (hZ : Z.Warmed39 s.vm) (eT : T.heap = h) (F : own_A Z h a .long n f) {x : Int64} (hi : own_In j i n) {g : JFrame} (hg : g.method = m) {rest : List Value} (hs : g.stack = .long x :: .int j :: .ref a :: rest) (hd : decode c.code g.pc = .ok (.lastore, 1)) :
    ∃ T' h', Stand p l e R s m args below meth c T' (locs ++ [⟨a, j.toNatClampNeg⟩]) cells slots ∧ T'.heap = h' ∧ Wr h h' a j.toNatClampNeg (.long (x)) ∧ own_A Z h' a .long n (fun z => if z = i then .long (x) else f z) ∧ ∀ target, Steps p.tables e below (T'.setTop { g with pc := g.pc + 1, stack := rest }) target → Steps p.tables e below (T.setTop g) target := by
  obtain ⟨cl, A, S, hn, H, G⟩ := F
  obtain ⟨T', h', X', e', W', st'⟩ := stJ X hx hZ eT A (hi.inb S) hg hs hd
  exact ⟨T', h', X', e', W', own_A.put A S hn H G rfl hi W', st'⟩
theorem own_stB (X : Stand p l e R s m args below meth c T locs cells slots) (hx : p.tables.exec = Jvm.exec) (hZ : Z.Warmed39 s.vm) (eT : T.heap = h) (F : own_A Z h a .byte n f) {x : Int32} (hi : own_In j i n) {g : JFrame} (hg : g.method = m) {rest : List Value} (hs : g.stack = .int x :: .int j :: .ref a :: rest) (hd : decode c.code g.pc = .ok (.bastore, 1)) :
    ∃ T' h', Stand p l e R s m args below meth c T' (locs ++ [⟨a, j.toNatClampNeg⟩]) cells slots ∧ T'.heap = h' ∧ Wr h h' a j.toNatClampNeg (.int (x.toInt8.toInt32)) ∧ own_A Z h' a .byte n (fun z => if z = i then .int (x.toInt8.toInt32) else f z) ∧ ∀ target, Steps p.tables e below (T'.setTop { g with pc := g.pc + 1, stack := rest }) target → Steps p.tables e below (T.setTop g) target := by
  obtain ⟨cl, A, S, hn, H, G⟩ := F
  obtain ⟨T', h', X', e', W', st'⟩ := stB X hx hZ eT A (hi.inb S) hg hs hd
  exact ⟨T', h', X', e', W', own_A.put A S hn H G (fits_nar_byte _) hi W', st'⟩
theorem own_iaload (X : Stand p l e R s m args below meth c T locs cells slots) (hx : p.tables.exec = Jvm.exec) (hZ : Z.Warmed39 s.vm) (eT : T.heap = h) (F : own_A Z h a .int n f) (hi : own_In j i n) {v : Int32} (hv : f i = .int v) {g : JFrame} (hg : g.method = m) {rest : List Value} (hs : g.stack = .int j :: .ref a :: rest) (hd : decode c.code g.pc = .ok (.iaload, 1)) (w : own_W p e En below kc ks Q T { g with pc := g.pc + 1, stack := .int v :: rest }) : own_W p e En below kc ks Q T g := by
  obtain ⟨cl, A, S, hn, H, -⟩ := F
  exact own_W.step (X.iaload hx (j := j) (v := .int v) (by rw [eT]; exact A.1) (State.isArrayOf_alike hZ.alike A.2.1) A.2.2 (hi.inb S) (by rw [hi.nat, H i hi.2, hv]) (g := g) hg hs hd) w
theorem own_laload (X : Stand p l e R s m args below meth c T locs cells slots) (hx : p.tables.exec = Jvm.exec) (hZ : Z.Warmed39 s.vm) (eT : T.heap = h) (F : own_A Z h a .long n f) (hi : own_In j i n) {v : Int64} (hv : f i = .long v) {g : JFrame} (hg : g.method = m) {rest : List Value} (hs : g.stack = .int j :: .ref a :: rest) (hd : decode c.code g.pc = .ok (.laload, 1)) (w : own_W p e En below kc ks Q T { g with pc := g.pc + 1, stack := .long v :: rest }) : own_W p e En below kc ks Q T g := by
  obtain ⟨cl, A, S, hn, H, -⟩ := F
  exact own_W.step (X.laload hx (j := j) (v := .long v) (by rw [eT]; exact A.1) (State.isArrayOf_alike hZ.alike A.2.1) A.2.2 (hi.inb S) (by rw [hi.nat, H i hi.2, hv]) (g := g) hg hs hd) w
theorem own_baload (X : Stand p l e R s m args below meth c T locs cells slots) (hx : p.tables.exec = Jvm.exec) (hZ : Z.Warmed39 s.vm) (eT : T.heap = h) (F : own_A Z h a .byte n f) (hi : own_In j i n) {v : Int32} (hv : f i = .int v) {g : JFrame} (hg : g.method = m) {rest : List Value} (hs : g.stack = .int j :: .ref a :: rest) (hd : decode c.code g.pc = .ok (.baload, 1)) (w : own_W p e En below kc ks Q T { g with pc := g.pc + 1, stack := .int v :: rest }) : own_W p e En below kc ks Q T g := by
  obtain ⟨cl, A, S, hn, H, -⟩ := F
  exact own_W.step (X.baloadBytes hx (j := j) (v := .int v) (by rw [eT]; exact A.1) (State.isArrayOf_alike hZ.alike A.2.1) A.2.2 (hi.inb S) (by rw [hi.nat, H i hi.2, hv]) (g := g) hg hs hd) w
theorem own_alen (X : Stand p l e R s m args below meth c T locs cells slots) (hx : p.tables.exec = Jvm.exec) (hZ : Z.Warmed39 s.vm) (eT : T.heap = h) (F : own_A Z h a ty n f) {z : Int32} (hz : n.toInt32 = z) {g : JFrame} (hg : g.method = m) {rest : List Value} (hs : g.stack = .ref a :: rest) (hd : decode c.code g.pc = .ok (.arraylength, 1)) (w : own_W p e En below kc ks Q T { g with pc := g.pc + 1, stack := .int z :: rest }) : own_W p e En below kc ks Q T g := by
  obtain ⟨cl, A, S, hn, H, -⟩ := F
  subst hz S
  exact own_W.step (X.arraylength hx (by rw [eT]; exact A.1) (State.isArrayOf_alike hZ.alike A.2.1) (g := g) hg hs hd) w

/-- a constructor whose entry is resolved already (a nest mate's private one) -/
theorem own_ready {a0 : Array Value} {own : String} {index : Nat} {y : MethodName} (hZ : Z.Warmed39 s.vm) (hown : s.vm.findClass own = some m.cls) (hy : y.cls ≠ "java/lang/invoke/MethodHandle" ∧ y.cls ≠ "java/lang/invoke/VarHandle") (w : (Jvm.Cond.methodRef own index y).before a0 Z = true) (wi : (Jvm.Cond.instanceMethod y).before a0 Z = true) (ev : Env) :
    ∀ (U : State) (r : MethodId), s.WarmedH U.vm → s.methodNamed? y = some r → namesResolved U.vm m.cls index r.cls ∧ U.vm.methodReady m.cls index r := by
  intro U r hW hn
  obtain ⟨mk, methM, hnZ, -⟩ := Cond.instanceMethod_spec wi
  have hZU : Z.Warmed39 U.vm := wtrans hZ hW
  have h1 := Cond.methodRef_warmed39 hZU hnZ hy w
  have e0 : (Z.setVm s.vm).methodNamed? y = Z.methodNamed? y := State.methodNamed?_setVm hZ.alike y
  have e1 : s.methodNamed? y = (Z.setVm s.vm).methodNamed? y := rfl
  have e2 : mk = r := by rw [e1, e0, hnZ] at hn; exact Option.some.inj hn
  subst e2
  have e3 : (Z.setVm U.vm).methodNamed? y = some mk := by rw [State.methodNamed?_setVm hZU.alike y]; exact hnZ
  have hcur : (Z.setVm U.vm).vm.findClass own = some m.cls := by
    show U.vm.findClass own = _
    rw [hW.alike.findClass]; exact hown
  obtain ⟨m', c', hm, hready, hfind, hnr⟩ := Cond.methodRef_named ev hcur h1
  cases hm.symm.trans (State.methodFound?_of_named e3 hy)
  cases hfind.symm.trans (findClass_of_methodNamed e3)
  exact ⟨hnr, hready⟩
theorem own_specialRef (X : Stand p l e R s m args below meth c T locs cells slots) (hexec : p.tables.exec = Jvm.exec) (hZ : Z.Warmed39 s.vm) {a0 : Array Value} {own : String} {index : Nat} {y : MethodName} (hy1 : y.name = "<init>") (hown : s.vm.findClass own = some m.cls) (w : (Jvm.Cond.methodRef own index y).before a0 Z = true) (wi : (Jvm.Cond.instanceMethod y).before a0 Z = true)
    {bytes : ByteArray} {maxL : Nat} (wc : (Jvm.Cond.code y bytes maxL none).before a0 Z = true) (hy : y.cls ≠ "java/lang/invoke/MethodHandle" ∧ y.cls ≠ "java/lang/invoke/VarHandle")
    {W : Nat} {Pre : Pt → Array Value → Prop} {Post : Pt → Array Value → Option Value → Pt → Prop} (hK : Back l R p e below s args y 3 W Pre Post)
    {g : JFrame} (hg : g.method = m) (hsize : g.locals.size = c.maxLocals) {s₀ : State} (hcome : Steps p.tables e below s₀ (T.setTop g)) {a : Addr} {argsL rest : List Value}
    (hlen : ∀ sig, parseMethodDescriptor y.desc = some sig → argsL.length = sig.parameters.length) (hstack : g.stack = argsL.reverse ++ .ref a :: rest) (hW : 2 * g.monitorRoom + (rest.map fun v => v.category).sum ≤ W)
    (hdg : decode c.code g.pc = .ok (.invokespecial index, 3)) (hpre : ∀ vm₁, s.WarmedH vm₁ → Pre ⟨T.setVm vm₁, locs, cells, slots⟩ (.ref a :: argsL).toArray) :
    ∃ (v : Option Value) (vm₁ : Vm) (B : Pt), s.WarmedH vm₁ ∧ Stand p l e R s m args below meth c B.U B.locs B.cells B.slots ∧ Post ⟨T.setVm vm₁, locs, cells, slots⟩ (.ref a :: argsL).toArray v B ∧
      Steps p.tables e below s₀ (B.U.setTop { g with pc := g.pc + 3, stack := v.toList ++ rest }) :=
  (SCall.of_ready hexec hy1 (mvT hZ wi) (mvT hZ wc) (own_ready hZ hown hy w wi e)) X hK hg hsize hcome hlen hstack hW hdg hpre
theorem own_selP {a0 : Array Value} {y : MethodName} {n : Nat} (wp : (Jvm.Cond.privateMethod y).before a0 Z = true) (wi : (Jvm.Cond.instanceMethod y).before a0 Z = true) (wn : (Jvm.Cond.instantiable y.cls n).before a0 Z = true) (hy : y.cls ≠ "java/lang/invoke/MethodHandle" ∧ y.cls ≠ "java/lang/invoke/VarHandle") : (Jvm.Cond.selects y.cls y y).before a0 Z = true := by
  obtain ⟨mk, methM, hn, hm, hst, hab⟩ := Cond.instanceMethod_spec wi
  obtain ⟨c, k, hc, hk, -, hi, -⟩ := Cond.instantiable_spec wn
  have hcls : Z.vm.findClass y.cls = some mk.cls := findClass_of_methodNamed hn
  cases hc.symm.trans hcls
  have hf := State.methodFound?_of_named hn hy
  have hs : selectMethod {} Z.vm mk.cls mk = .method mk := selectMethod_private hm (Cond.privateMethod_at wp mk methM hn hm)
  have hki : k.isInterface = false := (Bool.or_eq_false_iff.mp hi).1
  simp [Cond.before, Cond.holds, Cond.value, hcls, hf, hn, hs, hk, hki]
end OwnW

/-! 1. plain law -/
def own_imin (x y : Int32) : Int32 := if y < x then y else x
def own_fol (b x : Int32) : Int32 := if x + (1 : Int32) = b then 0 else x + (1 : Int32)
theorem own_nz {x : Int32} (h : 1 ≤ x.toInt) : x ≠ 0 := fun q => by
  rw [q] at h
  exact absurd h (by decide)
theorem own_w1 (p : Int32) : 1 ≤ ((1 : Int32) + (p &&& (7 : Int32))).toInt ∧ ((1 : Int32) + (p &&& (7 : Int32))).toInt ≤ 536870911 := by
  have e1 := c_mask p (7 : Int32) 3 (by decide) (by decide)
  have e3 := c_iadd (1 : Int32) (p &&& (7 : Int32))
  have e4 := rng32 ((1 : Int32) + (p &&& (7 : Int32)))
  have e5 : (1 : Int32).toInt = 1 := by decide
  omega
theorem own_fa (k m : Int32) (h : 1 ≤ m.toInt) : 1 ≤ ((1 : Int32) + (k &&& (2147483647 : Int32)) % m).toInt ∧ ((1 : Int32) + (k &&& (2147483647 : Int32)) % m).toInt ≤ m.toInt := by
  have e1 := c_mask k (2147483647 : Int32) 31 (by decide) (by decide)
  have e2 := c_iremV (k &&& (2147483647 : Int32)) m
  have e3 := c_iadd (1 : Int32) ((k &&& (2147483647 : Int32)) % m)
  have e4 := rng32 ((1 : Int32) + (k &&& (2147483647 : Int32)) % m)
  have e5 : (1 : Int32).toInt = 1 := by decide
  have e6 := rng32 m
  have e7 := e2.1 (by omega) (by omega)
  omega
theorem own_rem (k m : Int32) (h : 1 ≤ m.toInt) : 0 ≤ ((k &&& (2147483647 : Int32)) % m).toInt ∧ ((k &&& (2147483647 : Int32)) % m).toInt < m.toInt := by
  have e1 := c_mask k (2147483647 : Int32) 31 (by decide) (by decide)
  have e2 := c_iremV (k &&& (2147483647 : Int32)) m
  have e7 := e2.1 (by omega) (by omega)
  omega
theorem own_minV (m : Int32) (h : 1 ≤ m.toInt) : 1 ≤ (own_imin m (3 : Int32)).toInt ∧ (own_imin m (3 : Int32)).toInt ≤ m.toInt := by
  have t : (3 : Int32).toInt = 3 := by decide
  unfold own_imin
  split <;> (rename_i h; rw [Int32.lt_iff_toInt_lt] at h; omega)
theorem own_mu (w : Int32) (h : 1 ≤ w.toInt ∧ w.toInt ≤ 536870911) : 1 ≤ ((536870911 : Int32) / w).toInt ∧ ((536870911 : Int32) / w).toInt * w.toInt ≤ 536870911 := by
  have e := c_idiv (536870911 : Int32) w w.toInt rfl (fun q => by rw [q] at h; exact absurd h.1 (by decide))
  have t : (536870911 : Int32).toInt = 536870911 := by decide
  rw [t] at e
  rw [e.1 (by omega)]
  constructor
  · exact (Int.le_ediv_iff_mul_le (by omega)).mpr (by omega)
  · exact Int.ediv_mul_le _ (by omega)
/-- what is known of w, k and the writer -/
def own_B (w k t : Int32) : Prop := 1 ≤ w.toInt ∧ 1 ≤ k.toInt ∧ 0 ≤ t.toInt ∧ (w * k).toInt = w.toInt * k.toInt ∧ w.toInt * k.toInt ≤ 536870911 ∧ t.toInt * k.toInt + k.toInt ≤ w.toInt * k.toInt ∧ 0 ≤ t.toInt * k.toInt
theorem own_mkB (w m k t : Int32) (hw : 1 ≤ w.toInt ∧ w.toInt ≤ 536870911) (hm : 1 ≤ m.toInt ∧ m.toInt * w.toInt ≤ 536870911) (hk : 1 ≤ k.toInt ∧ k.toInt ≤ m.toInt) (ht : 0 ≤ t.toInt ∧ t.toInt < w.toInt) : own_B w k t := by
  have b1 : w.toInt * k.toInt ≤ w.toInt * m.toInt := Int.mul_le_mul_of_nonneg_left hk.2 (by omega)
  have b0 : w.toInt * m.toInt = m.toInt * w.toInt := Int.mul_comm _ _
  have b2 : 1 * 1 ≤ w.toInt * k.toInt := Int.mul_le_mul hw.1 hk.1 (by omega) (by omega)
  have e1 := c_imul w k
  have e2 := rng32 (w * k)
  have v : (w * k).toInt = w.toInt * k.toInt := by omega
  have b3 : (t.toInt + 1) * k.toInt ≤ w.toInt * k.toInt := Int.mul_le_mul_of_nonneg_right (by omega) (by omega)
  have b4 : (t.toInt + 1) * k.toInt = t.toInt * k.toInt + k.toInt := by rw [Int.add_mul, Int.one_mul]
  have b5 : 0 ≤ t.toInt * k.toInt := Int.mul_nonneg ht.1 (by omega)
  exact ⟨hw.1, hk.1, ht.1, v, by omega, by omega, b5⟩
theorem own_div {w k t : Int32} (h : own_B w k t) : w * k / w = k := by
  obtain ⟨h1, h2, h3, h4, h5, h6, h7⟩ := h
  have e := c_idiv (w * k) w w.toInt rfl (fun q => by rw [q] at h1; exact absurd h1 (by decide))
  apply Int32.toInt_inj.mp
  rw [e.1 (by omega), h4, Int.mul_ediv_cancel_left _ (by omega)]
theorem own_mod {w k t : Int32} (h : own_B w k t) : w * k % w = (0 : Int32) := by
  obtain ⟨h1, h2, h3, h4, h5, h6, h7⟩ := h
  apply Int32.toInt_inj.mp
  rw [Int32.toInt_mod, h4, Int.tmod_eq_emod_of_nonneg (by omega), Int.mul_emod_right]
  rfl
theorem own_b {w k t : Int32} (h : own_B w k t) : ((4 : Int32) * k).toInt = 4 * k.toInt ∧ (t * ((4 : Int32) * k)).toInt = 4 * (t.toInt * k.toInt) ∧ ((4 : Int64) * k.toInt64).toInt = 4 * k.toInt ∧ (t.toInt64 * ((4 : Int64) * k.toInt64)).toInt = 4 * (t.toInt * k.toInt) := by
  obtain ⟨h1, h2, h3, h4, h5, h6, h7⟩ := h
  have e1 := c_imul (4 : Int32) k
  have r1 := rng32 ((4 : Int32) * k)
  have t1 : (4 : Int32).toInt = 4 := by decide
  have t2 : (4 : Int64).toInt = 4 := by decide
  rw [t1] at e1
  have v1 : ((4 : Int32) * k).toInt = 4 * k.toInt := by omega
  have e2 := c_imul t ((4 : Int32) * k)
  have r2 := rng32 (t * ((4 : Int32) * k))
  have a1 : t.toInt * (4 * k.toInt) = 4 * (t.toInt * k.toInt) := by rw [← Int.mul_assoc, Int.mul_comm t.toInt 4, Int.mul_assoc]
  rw [v1, a1] at e2
  have e3 := c_lmul (4 : Int64) k.toInt64
  have r3 := rng64 ((4 : Int64) * k.toInt64)
  have i1 := c_i2l k
  have i2 := c_i2l t
  rw [t2, i1] at e3
  have v3 : ((4 : Int64) * k.toInt64).toInt = 4 * k.toInt := by have := rng32 k; omega
  have e4 := c_lmul t.toInt64 ((4 : Int64) * k.toInt64)
  have r4 := rng64 (t.toInt64 * ((4 : Int64) * k.toInt64))
  rw [v3, i2, a1] at e4
  exact ⟨v1, by omega, v3, by omega⟩
theorem own_folV (b x : Int32) (hx : 0 ≤ x.toInt ∧ x.toInt < b.toInt) (hb : b.toInt ≤ 2147483644) : (own_fol b x).toInt = if x.toInt + 1 = b.toInt then 0 else x.toInt + 1 := by
  have e1 := c_iadd x (1 : Int32)
  have r1 := rng32 (x + (1 : Int32))
  have t1 : (1 : Int32).toInt = 1 := by decide
  have v : (x + (1 : Int32)).toInt = x.toInt + 1 := by omega
  unfold own_fol
  by_cases q : x + (1 : Int32) = b
  · rw [if_pos q, if_pos (by rw [← q, v])]; rfl
  · rw [if_neg q, if_neg (fun z => q (Int32.toInt_inj.mp (by rw [v, z]))), v]
theorem own_fol4 (b x : Int32) (hx : 0 ≤ x.toInt ∧ x.toInt < b.toInt) (hb : 4 ≤ b.toInt ∧ b.toInt ≤ 2147483644) : (own_fol b (own_fol b (own_fol b (own_fol b x)))).toInt = (x.toInt + 4) % b.toInt := by
  have a1 := own_folV b x hx hb.2
  have c1 : 0 ≤ (own_fol b x).toInt ∧ (own_fol b x).toInt < b.toInt := by split at a1 <;> omega
  have a2 := own_folV b _ c1 hb.2
  have c2 : 0 ≤ (own_fol b (own_fol b x)).toInt ∧ (own_fol b (own_fol b x)).toInt < b.toInt := by split at a2 <;> omega
  have a3 := own_folV b _ c2 hb.2
  have c3 : 0 ≤ (own_fol b (own_fol b (own_fol b x))).toInt ∧ (own_fol b (own_fol b (own_fol b x))).toInt < b.toInt := by split at a3 <;> omega
  have a4 := own_folV b _ c3 hb.2
  have q : (x.toInt + 4) % b.toInt = if x.toInt + 4 < b.toInt then x.toInt + 4 else x.toInt + 4 - b.toInt := by
    split
    · exact Int.emod_eq_of_lt (by omega) (by omega)
    · rw [← Int.sub_emod_right, Int.emod_eq_of_lt (by omega) (by omega)]
  rw [q]
  split at a1 <;> split at a2 <;> split at a3 <;> split at a4 <;> split <;> omega
theorem own_r0 {w k t : Int32} (h : own_B w k t) : ((t * ((4 : Int32) * k)) + (0 : Int32)).toInt64 = t.toInt64 * ((4 : Int64) * k.toInt64) := by
  obtain ⟨v1, v2, v3, v4⟩ := own_b h
  apply Int64.toInt_inj.mp
  rw [c_i2l, v4, Int32.add_zero, v2]
theorem own_a0 {w k t : Int32} (h : own_B w k t) : ((t * ((4 : Int32) * k)) + k).toInt64 = t.toInt64 * ((4 : Int64) * k.toInt64) + k.toInt64 := by
  obtain ⟨v1, v2, v3, v4⟩ := own_b h
  obtain ⟨h1, h2, h3, h4, h5, h6, h7⟩ := h
  have e1 := c_iadd (t * ((4 : Int32) * k)) k
  have r1 := rng32 ((t * ((4 : Int32) * k)) + k)
  have e2 := c_ladd (t.toInt64 * ((4 : Int64) * k.toInt64)) k.toInt64
  have r2 := rng64 (t.toInt64 * ((4 : Int64) * k.toInt64) + k.toInt64)
  have i1 := c_i2l k
  apply Int64.toInt_inj.mp
  rw [c_i2l]
  omega
theorem own_r4 {w k t : Int32} (h : own_B w k t) (f : Int32) (x : Int64) (hf : f.toInt = x.toInt % (4 * k.toInt)) (hx : 0 ≤ x.toInt) : ((t * ((4 : Int32) * k)) + f).toInt64 = t.toInt64 * ((4 : Int64) * k.toInt64) + x % ((4 : Int64) * k.toInt64) := by
  obtain ⟨v1, v2, v3, v4⟩ := own_b h
  obtain ⟨h1, h2, h3, h4, h5, h6, h7⟩ := h
  have m : (x % ((4 : Int64) * k.toInt64)).toInt = x.toInt % (4 * k.toInt) := by rw [Int64.toInt_mod, Int.tmod_eq_emod_of_nonneg hx, v3]
  have l1 := Int.emod_lt_of_pos x.toInt (show 0 < 4 * k.toInt by omega)
  have l2 := Int.emod_nonneg x.toInt (show 4 * k.toInt ≠ 0 by omega)
  have e1 := c_iadd (t * ((4 : Int32) * k)) f
  have r1 := rng32 ((t * ((4 : Int32) * k)) + f)
  have e2 := c_ladd (t.toInt64 * ((4 : Int64) * k.toInt64)) (x % ((4 : Int64) * k.toInt64))
  have r2 := rng64 (t.toInt64 * ((4 : Int64) * k.toInt64) + x % ((4 : Int64) * k.toInt64))
  apply Int64.toInt_inj.mp
  rw [c_i2l]
  omega
theorem own_4k {w k t : Int32} (h : own_B w k t) : 4 ≤ ((4 : Int32) * k).toInt ∧ ((4 : Int32) * k).toInt ≤ 2147483644 ∧ 0 ≤ k.toInt ∧ k.toInt < ((4 : Int32) * k).toInt := by
  obtain ⟨v1, v2, v3, v4⟩ := own_b h
  obtain ⟨h1, h2, h3, h4, h5, h6, h7⟩ := h
  omega
theorem own_k4 {w k t : Int32} (h : own_B w k t) : (k.toInt64 + (4 : Int64)).toInt = k.toInt + 4 := by
  obtain ⟨h1, h2, h3, h4, h5, h6, h7⟩ := h
  have e2 := c_ladd k.toInt64 (4 : Int64)
  have r2 := rng64 (k.toInt64 + (4 : Int64))
  have i1 := c_i2l k
  have t2 : (4 : Int64).toInt = 4 := by decide
  have r3 := rng32 k
  omega
theorem own_bne {w k t : Int32} (h : own_B w k t) : (4 : Int64) * k.toInt64 ≠ 0 := fun q => by
  obtain ⟨v1, v2, v3, v4⟩ := own_b h
  rw [q, show (0 : Int64).toInt = 0 from rfl] at v3
  have := h.2.1
  omega
theorem d9_0 : decode jdk_29_method_69_code 0 = .ok (.iload_n 0, 1) := by decide +kernel
theorem d9_1 : decode jdk_29_method_69_code 1 = .ok (.iload_n 1, 1) := by decide +kernel
theorem d9_2 : decode jdk_29_method_69_code 2 = .ok (.if_icmp .gt 7, 3) := by decide +kernel
theorem d9_5 : decode jdk_29_method_69_code 5 = .ok (.iload_n 0, 1) := by decide +kernel
theorem d9_6 : decode jdk_29_method_69_code 6 = .ok (.goto 4, 3) := by decide +kernel
theorem d9_9 : decode jdk_29_method_69_code 9 = .ok (.iload_n 1, 1) := by decide +kernel
theorem d9_10 : decode jdk_29_method_69_code 10 = .ok (.ireturn, 1) := by decide +kernel
theorem ef_9 (m : MethodId) (xa : Int32) (xb : Int32) : entryFrame m #[(.int xa), (.int xb)] 2 = mkF m 0 #[.val (.int xa), .val (.int xb)] [] := by first | (simp [entryFrame, mkF, argsToLocals, Value.category]; done) | rfl
def Q9 (Z : State) (xa : Int32) (xb : Int32)  (h0 : Heap) (n0 : Nat) (v : Option Value) (h : Heap) (L : List Loc) : Prop := v = some (.int (own_imin xa xb)) ∧ Fr n0 L ∧ h = h0
set_option maxRecDepth 65536 in
set_option maxHeartbeats 40000000 in
theorem rm9 (l : Launch) (Z : State) (a0 : Array Value) (hw : ∀ d ∈ tables_1, d.before a0 Z = true) (ws : List Jvm.Cond) (xa : Int32) (xb : Int32)  (h0 : Heap) (n0 : Nat) (Z0 : n0 ≤ h0.size)  :
    MetFree l (⟨"java/lang/Math", "min", "(II)I"⟩ : MethodName) (head1 (Jvm.Cond.code (⟨"java/lang/Math", "min", "(II)I"⟩ : MethodName) jdk_29_method_69_code 2 (some .int) :: ws) ({ frames := 0, cells := 0, slots := 0, locals := 0 } : Room)) (fun avs U => avs = #[(.int xa), (.int xb)] ∧ Z.Warmed39 U.vm ∧ U.heap = h0) (fun _ _ _ _ _ => True) (fun _ U o U' => ∃ v L, o = .returned v ∧ Q9 Z xa xb h0 n0 v U'.heap L ∧ FrameEnd U o U' L ({ frames := 0, cells := 0, slots := 0, locals := 0 } : Room).cells ({ frames := 0, cells := 0, slots := 0, locals := 0 } : Room).slots) := by
  refine MetFree.of_bodySF (Jvm.Free.JP.mathPlain rfl (by decide +kernel)) hisR ?_
  intro p e s m args below meth c s₁ Bd hml0 hP hK
  obtain ⟨rfl, hZ, hh⟩ := hP
  have hx := Bd.exec
  have hby := Bd.bytes
  have hml : c.maxLocals = 2 := hml0
  have hown : s.vm.findClass "java/lang/Math" = some m.cls := findClass_of_methodNamed Bd.named
  have hnm := (name_of_methodNamed Bd.named Bd.method).1
  have hlk := Bd.notSynchronized
  have hret := Bd.returns
  have X0 : Stand p l e ({ frames := 0, cells := 0, slots := 0, locals := 0 } : Room) s m #[(.int xa), (.int xb)] below meth c s₁ [] 0 0 := Stand.of_body Bd
  have e0 : s₁.heap = h0 := by rw [← hh, Bd.state]; rfl
  have N0 := Fr.nil n0
  show own_W p e (FrameEnd s) below ({ frames := 0, cells := 0, slots := 0, locals := 0 } : Room).cells ({ frames := 0, cells := 0, slots := 0, locals := 0 } : Room).slots (Q9 Z xa xb h0 n0) s₁ (entryFrame m #[(.int xa), (.int xb)] 2)
  rw [ef_9]
  refine own_iloadN X0 hx (hb hby d9_0) (v := xa) rfl (rfl : 0 + 1 = 1) ?_
  refine own_iloadN X0 hx (hb hby d9_1) (v := xb) rfl (rfl : 1 + 1 = 2) ?_
  by_cases hc2 : xb < xa
  · skip
    refine own_icmpYes X0 hx (hb hby d9_2) (tlt hc2).2.2.1 (pc' := 9) (by decide) (by decide) ?_
    refine own_iloadN X0 hx (hb hby d9_9) (v := xb) rfl (rfl : 9 + 1 = 10) ?_
    refine own_retI X0 hx hlk hret (hb hby d9_10) (by decide) (by decide) ?_
    show Q9 Z xa xb h0 n0 (some (.int xb)) s₁.heap _
    rw [e0]
    exact ⟨by simp only [own_imin, if_pos hc2], N0, rfl⟩
  · skip
    refine own_icmpNo X0 hx (hb hby d9_2) (flt hc2).2.2.1 (rfl : 2 + 3 = 5) ?_
    refine own_iloadN X0 hx (hb hby d9_5) (v := xa) rfl (rfl : 5 + 1 = 6) ?_
    refine own_goto X0 hx (hb hby d9_6) (pc' := 10) (by decide) (by decide) ?_
    refine own_retI X0 hx hlk hret (hb hby d9_10) (by decide) (by decide) ?_
    show Q9 Z xa xb h0 n0 (some (.int xa)) s₁.heap _
    rw [e0]
    exact ⟨by simp only [own_imin, if_neg hc2], N0, rfl⟩
theorem d1_0 : decode prog_55_method_1_code 0 = .ok (.aload_n 0, 1) := by decide +kernel
theorem d1_1 : decode prog_55_method_1_code 1 = .ok (.invokespecial 3, 3) := by decide +kernel
theorem d1_4 : decode prog_55_method_1_code 4 = .ok (.iload_n 1, 1) := by decide +kernel
theorem d1_5 : decode prog_55_method_1_code 5 = .ok (.iconst 1, 1) := by decide +kernel
theorem d1_6 : decode prog_55_method_1_code 6 = .ok (.if_icmp .lt 20, 3) := by decide +kernel
theorem d1_9 : decode prog_55_method_1_code 9 = .ok (.iload_n 1, 1) := by decide +kernel
theorem d1_10 : decode prog_55_method_1_code 10 = .ok (.ldc 11, 2) := by decide +kernel
theorem d1_12 : decode prog_55_method_1_code 12 = .ok (.if_icmp .gt 14, 3) := by decide +kernel
theorem d1_15 : decode prog_55_method_1_code 15 = .ok (.iload_n 2, 1) := by decide +kernel
theorem d1_16 : decode prog_55_method_1_code 16 = .ok (.iconst 1, 1) := by decide +kernel
theorem d1_17 : decode prog_55_method_1_code 17 = .ok (.if_icmp .lt 9, 3) := by decide +kernel
theorem d1_20 : decode prog_55_method_1_code 20 = .ok (.iload_n 1, 1) := by decide +kernel
theorem d1_21 : decode prog_55_method_1_code 21 = .ok (.iload_n 2, 1) := by decide +kernel
theorem d1_22 : decode prog_55_method_1_code 22 = .ok (.irem, 1) := by decide +kernel
theorem d1_23 : decode prog_55_method_1_code 23 = .ok (.ifCond .eq 18, 3) := by decide +kernel
theorem d1_41 : decode prog_55_method_1_code 41 = .ok (.aload_n 0, 1) := by decide +kernel
theorem d1_42 : decode prog_55_method_1_code 42 = .ok (.iload_n 2, 1) := by decide +kernel
theorem d1_43 : decode prog_55_method_1_code 43 = .ok (.putfield 21, 3) := by decide +kernel
theorem d1_46 : decode prog_55_method_1_code 46 = .ok (.aload_n 0, 1) := by decide +kernel
theorem d1_47 : decode prog_55_method_1_code 47 = .ok (.iload_n 1, 1) := by decide +kernel
theorem d1_48 : decode prog_55_method_1_code 48 = .ok (.iload_n 2, 1) := by decide +kernel
theorem d1_49 : decode prog_55_method_1_code 49 = .ok (.idiv, 1) := by decide +kernel
theorem d1_50 : decode prog_55_method_1_code 50 = .ok (.putfield 25, 3) := by decide +kernel
theorem d1_53 : decode prog_55_method_1_code 53 = .ok (.aload_n 0, 1) := by decide +kernel
theorem d1_54 : decode prog_55_method_1_code 54 = .ok (.iconst 4, 1) := by decide +kernel
theorem d1_55 : decode prog_55_method_1_code 55 = .ok (.aload_n 0, 1) := by decide +kernel
theorem d1_56 : decode prog_55_method_1_code 56 = .ok (.getfield 25, 3) := by decide +kernel
theorem d1_59 : decode prog_55_method_1_code 59 = .ok (.imul, 1) := by decide +kernel
theorem d1_60 : decode prog_55_method_1_code 60 = .ok (.putfield 28, 3) := by decide +kernel
theorem d1_63 : decode prog_55_method_1_code 63 = .ok (.return_, 1) := by decide +kernel
theorem own_pn_com_example_flipside_flipside_tool_WriterBlocks : plainName "com/example/flipside/flipside/tool/WriterBlocks" = true := by first | (simp [plainName, overriddenIn]; done) | decide +kernel
theorem ef_1 (m : MethodId) (ob : Addr) (pz : Int32) (pw : Int32) : entryFrame m #[(.ref ob), (.int pz), (.int pw)] 3 = mkF m 0 #[.val (.ref ob), .val (.int pz), .val (.int pw)] [] := by first | (simp [entryFrame, mkF, argsToLocals, Value.category]; done) | rfl
def Q1 (Z : State) (ob : Addr) (pz : Int32) (pw : Int32) (kq : Int32) (h0 : Heap) (n0 : Nat) (v : Option Value) (h : Heap) (L : List Loc) : Prop := v = none ∧ Fr n0 L ∧ Keep h0 h [ob] ∧ Exa Z h ob "com/example/flipside/flipside/tool/WriterBlocks" ∧ Fld Z h ob "com/example/flipside/flipside/tool/WriterBlocks" "writers" "I" (.int pw) ∧ Fld Z h ob "com/example/flipside/flipside/tool/WriterBlocks" "keysPerWriter" "I" (.int kq) ∧ Fld Z h ob "com/example/flipside/flipside/tool/WriterBlocks" "blockLength" "I" (.int ((4 : Int32) * kq))
set_option maxRecDepth 65536 in
set_option maxHeartbeats 40000000 in
theorem rm1 (l : Launch) (Z : State) (a0 : Array Value) (hw : ∀ d ∈ tables_1, d.before a0 Z = true) (ws : List Jvm.Cond) (ob : Addr) (pz : Int32) (pw : Int32) (kq : Int32) (h0 : Heap) (n0 : Nat) (Z0 : n0 ≤ h0.size) (f_E_ob : Exa Z h0 ob "com/example/flipside/flipside/tool/WriterBlocks") (f_F_ob_writers : Fld Z h0 ob "com/example/flipside/flipside/tool/WriterBlocks" "writers" "I" (.int (0 : Int32))) (f_F_ob_keysPerWriter : Fld Z h0 ob "com/example/flipside/flipside/tool/WriterBlocks" "keysPerWriter" "I" (.int (0 : Int32))) (f_F_ob_blockLength : Fld Z h0 ob "com/example/flipside/flipside/tool/WriterBlocks" "blockLength" "I" (.int (0 : Int32))) (g_ob : n0 ≤ ob) (hz1 : ¬ (pz < (1 : Int32))) (hz2 : ¬ ((536870911 : Int32) < pz)) (hw1 : ¬ (pw < (1 : Int32))) (hwz : pw ≠ 0) (hmd : pz % pw = (0 : Int32)) (hdv : pz / pw = kq) :
    MetFree l (⟨"com/example/flipside/flipside/tool/WriterBlocks", "<init>", "(II)V"⟩ : MethodName) (head1 (Jvm.Cond.code (⟨"com/example/flipside/flipside/tool/WriterBlocks", "<init>", "(II)V"⟩ : MethodName) prog_55_method_1_code 3 none :: ws) ({ frames := 1, cells := 0, slots := 0, locals := 12 } : Room)) (fun avs U => avs = #[(.ref ob), (.int pz), (.int pw)] ∧ Z.Warmed39 U.vm ∧ U.heap = h0) (fun _ _ _ _ _ => True) (fun _ U o U' => ∃ v L, o = .returned v ∧ Q1 Z ob pz pw kq h0 n0 v U'.heap L ∧ FrameEnd U o U' L ({ frames := 1, cells := 0, slots := 0, locals := 12 } : Room).cells ({ frames := 1, cells := 0, slots := 0, locals := 12 } : Room).slots) := by
  refine MetFree.of_bodySF (plainFor_of_name own_pn_com_example_flipside_flipside_tool_WriterBlocks) hisR ?_
  intro p e s m args below meth c s₁ Bd hml0 hP hK
  obtain ⟨rfl, hZ, hh⟩ := hP
  have hx := Bd.exec
  have hby := Bd.bytes
  have hml : c.maxLocals = 3 := hml0
  have hown : s.vm.findClass "com/example/flipside/flipside/tool/WriterBlocks" = some m.cls := findClass_of_methodNamed Bd.named
  have hnm := (name_of_methodNamed Bd.named Bd.method).1
  have hlk := Bd.notSynchronized
  have hret := Bd.returns
  have X0 : Stand p l e ({ frames := 1, cells := 0, slots := 0, locals := 12 } : Room) s m #[(.ref ob), (.int pz), (.int pw)] below meth c s₁ [] 0 0 := Stand.of_body Bd
  have e0 : s₁.heap = h0 := by rw [← hh, Bd.state]; rfl
  have N0 := Fr.nil n0
  show own_W p e (FrameEnd s) below ({ frames := 1, cells := 0, slots := 0, locals := 12 } : Room).cells ({ frames := 1, cells := 0, slots := 0, locals := 12 } : Room).slots (Q1 Z ob pz pw kq h0 n0) s₁ (entryFrame m #[(.ref ob), (.int pz), (.int pw)] 3)
  rw [ef_1]
  have K0 : Keep h0 h0 [ob] := Keep.refl h0 _
  refine own_aloadN X0 hx (hb hby d1_0) (v := (.ref ob)) rfl rfl (rfl : 0 + 1 = 1) ?_
  obtain ⟨T1, X1, e1, st1⟩ := initO X0 hx hZ hown (hw _ (List.mem_of_getElem? (i := 8) rfl)) (hw _ (List.mem_of_getElem? (i := 9) rfl)) (hw _ (List.mem_of_getElem? (i := 10) rfl)) e0 (g := (mkF m 1 #[.val (.ref ob), .val (.int pz), .val (.int pw)] [(.ref ob)])) rfl (by rw [hml]; rfl) rfl (hb hby d1_1) (by decide) (W := 0) (by show 2 * 0 + _ ≤ _; exact Nat.le_of_eq rfl) (by decide)
  refine own_W.step st1 ?_
  show own_W p e (FrameEnd s) below ({ frames := 1, cells := 0, slots := 0, locals := 12 } : Room).cells ({ frames := 1, cells := 0, slots := 0, locals := 12 } : Room).slots (Q1 Z ob pz pw kq h0 n0) T1 (mkF m 4 #[.val (.ref ob), .val (.int pz), .val (.int pw)] [])
  refine own_iloadN X1 hx (hb hby d1_4) (v := pz) rfl (rfl : 4 + 1 = 5) ?_
  refine own_iconst X1 hx (hb hby d1_5) (1 : Int32) (by first | rfl | decide) (rfl : 5 + 1 = 6) ?_
  have hc6 : ¬ (pz < (1 : Int32)) := hz1
  refine own_icmpNo X1 hx (hb hby d1_6) (flt hc6).1 (rfl : 6 + 3 = 9) ?_
  refine own_iloadN X1 hx (hb hby d1_9) (v := pz) rfl (rfl : 9 + 1 = 10) ?_
  refine own_ldcInt X1 hx hown (mvT hZ (hw _ (List.mem_of_getElem? (i := 11) rfl))) (hb hby d1_10) (rfl : 10 + 2 = 12) ?_
  have hc12 : ¬ ((536870911 : Int32) < pz) := hz2
  refine own_icmpNo X1 hx (hb hby d1_12) (flt hc12).2.2.1 (rfl : 12 + 3 = 15) ?_
  refine own_iloadN X1 hx (hb hby d1_15) (v := pw) rfl (rfl : 15 + 1 = 16) ?_
  refine own_iconst X1 hx (hb hby d1_16) (1 : Int32) (by first | rfl | decide) (rfl : 16 + 1 = 17) ?_
  have hc17 : ¬ (pw < (1 : Int32)) := hw1
  refine own_icmpNo X1 hx (hb hby d1_17) (flt hc17).1 (rfl : 17 + 3 = 20) ?_
  refine own_iloadN X1 hx (hb hby d1_20) (v := pz) rfl (rfl : 20 + 1 = 21) ?_
  refine own_iloadN X1 hx (hb hby d1_21) (v := pw) rfl (rfl : 21 + 1 = 22) ?_
  refine own_irem X1 hx (hb hby d1_22) hwz (rfl : 22 + 1 = 23) ?_
  have hc23 : (pz % pw) = (0 : Int32) := hmd
  refine own_ifYes X1 hx (hb hby d1_23) ((if0 _ _).trans (teq hc23).1) (pc' := 41) (by decide) (by decide) ?_
  refine own_aloadN X1 hx (hb hby d1_41) (v := (.ref ob)) rfl rfl (rfl : 41 + 1 = 42) ?_
  refine own_iloadN X1 hx (hb hby d1_42) (v := pw) rfl (rfl : 42 + 1 = 43) ?_
  obtain ⟨T2, h2, X2, e2, W2, st2⟩ := putF X1 hx hZ hown (host := "") (Or.inl (hw _ (List.mem_of_getElem? (i := 12) rfl))) Via.refl e1 f_F_ob_writers f_E_ob (Or.inr ⟨(hw _ (List.mem_of_getElem? (i := 13) rfl)), rfl, hnm⟩) (hw _ (List.mem_of_getElem? (i := 3) rfl)) (ty := .int) (by decide) rfl rfl (g := (mkF m 43 #[.val (.ref ob), .val (.int pz), .val (.int pw)] [(.int pw), (.ref ob)])) rfl rfl (hb hby d1_43)
  refine own_W.step st2 ?_
  have N2 := Fr.snoc X2 N0 g_ob
  have f2_E_ob : Exa Z h2 ob "com/example/flipside/flipside/tool/WriterBlocks" := f_E_ob.wr W2
  have f2_F_ob_keysPerWriter : Fld Z h2 ob "com/example/flipside/flipside/tool/WriterBlocks" "keysPerWriter" "I" (.int (0 : Int32)) := f_F_ob_keysPerWriter.other W2 (Or.inr (slot_ne (Or.inr (hw _ (List.mem_of_getElem? (i := 15) rfl))) (Or.inr (hw _ (List.mem_of_getElem? (i := 13) rfl))) (by decide) (t := .int) (t' := .int) (by decide) (by decide)))
  have f2_F_ob_blockLength : Fld Z h2 ob "com/example/flipside/flipside/tool/WriterBlocks" "blockLength" "I" (.int (0 : Int32)) := f_F_ob_blockLength.other W2 (Or.inr (slot_ne (Or.inr (hw _ (List.mem_of_getElem? (i := 17) rfl))) (Or.inr (hw _ (List.mem_of_getElem? (i := 13) rfl))) (by decide) (t := .int) (t' := .int) (by decide) (by decide)))
  have f2_K : Keep h0 h2 [ob] := K0.wr W2 (Or.inl (by simp))
  have fw2 : Fld Z h2 ob "com/example/flipside/flipside/tool/WriterBlocks" "writers" "I" (.int pw) := f_F_ob_writers.same W2
  have z2 : n0 ≤ h2.size := by rw [W2.size]; exact Z0
  show own_W p e (FrameEnd s) below ({ frames := 1, cells := 0, slots := 0, locals := 12 } : Room).cells ({ frames := 1, cells := 0, slots := 0, locals := 12 } : Room).slots (Q1 Z ob pz pw kq h0 n0) T2 (mkF m 46 #[.val (.ref ob), .val (.int pz), .val (.int pw)] [])
  refine own_aloadN X2 hx (hb hby d1_46) (v := (.ref ob)) rfl rfl (rfl : 46 + 1 = 47) ?_
  refine own_iloadN X2 hx (hb hby d1_47) (v := pz) rfl (rfl : 47 + 1 = 48) ?_
  refine own_iloadN X2 hx (hb hby d1_48) (v := pw) rfl (rfl : 48 + 1 = 49) ?_
  refine own_idiv X2 hx (hb hby d1_49) hwz (rfl : 49 + 1 = 50) ?_
  rw [hdv]
  show own_W p e (FrameEnd s) below ({ frames := 1, cells := 0, slots := 0, locals := 12 } : Room).cells ({ frames := 1, cells := 0, slots := 0, locals := 12 } : Room).slots (Q1 Z ob pz pw kq h0 n0) T2 (mkF m 50 #[.val (.ref ob), .val (.int pz), .val (.int pw)] [(.int kq), (.ref ob)])
  obtain ⟨T3, h3, X3, e3, W3, st3⟩ := putF X2 hx hZ hown (host := "") (Or.inl (hw _ (List.mem_of_getElem? (i := 14) rfl))) Via.refl e2 f2_F_ob_keysPerWriter f2_E_ob (Or.inr ⟨(hw _ (List.mem_of_getElem? (i := 15) rfl)), rfl, hnm⟩) (hw _ (List.mem_of_getElem? (i := 3) rfl)) (ty := .int) (by decide) rfl rfl (g := (mkF m 50 #[.val (.ref ob), .val (.int pz), .val (.int pw)] [(.int kq), (.ref ob)])) rfl rfl (hb hby d1_50)
  refine own_W.step st3 ?_
  have N3 := Fr.snoc X3 N2 g_ob
  have f3_E_ob : Exa Z h3 ob "com/example/flipside/flipside/tool/WriterBlocks" := f2_E_ob.wr W3
  have f3_F_ob_writers : Fld Z h3 ob "com/example/flipside/flipside/tool/WriterBlocks" "writers" "I" (.int pw) := fw2.other W3 (Or.inr (slot_ne (Or.inr (hw _ (List.mem_of_getElem? (i := 13) rfl))) (Or.inr (hw _ (List.mem_of_getElem? (i := 15) rfl))) (by decide) (t := .int) (t' := .int) (by decide) (by decide)))
  have f3_F_ob_blockLength : Fld Z h3 ob "com/example/flipside/flipside/tool/WriterBlocks" "blockLength" "I" (.int (0 : Int32)) := f2_F_ob_blockLength.other W3 (Or.inr (slot_ne (Or.inr (hw _ (List.mem_of_getElem? (i := 17) rfl))) (Or.inr (hw _ (List.mem_of_getElem? (i := 15) rfl))) (by decide) (t := .int) (t' := .int) (by decide) (by decide)))
  have f3_K : Keep h0 h3 [ob] := f2_K.wr W3 (Or.inl (by simp))
  have fw3 : Fld Z h3 ob "com/example/flipside/flipside/tool/WriterBlocks" "keysPerWriter" "I" (.int kq) := f2_F_ob_keysPerWriter.same W3
  have z3 : n0 ≤ h3.size := by rw [W3.size]; exact z2
  show own_W p e (FrameEnd s) below ({ frames := 1, cells := 0, slots := 0, locals := 12 } : Room).cells ({ frames := 1, cells := 0, slots := 0, locals := 12 } : Room).slots (Q1 Z ob pz pw kq h0 n0) T3 (mkF m 53 #[.val (.ref ob), .val (.int pz), .val (.int pw)] [])
  refine own_aloadN X3 hx (hb hby d1_53) (v := (.ref ob)) rfl rfl (rfl : 53 + 1 = 54) ?_
  refine own_iconst X3 hx (hb hby d1_54) (4 : Int32) (by first | rfl | decide) (rfl : 54 + 1 = 55) ?_
  refine own_aloadN X3 hx (hb hby d1_55) (v := (.ref ob)) rfl rfl (rfl : 55 + 1 = 56) ?_
  obtain ⟨T4, X4, e4, st4⟩ := getF X3 hx hZ hown (host := "") (Or.inl (hw _ (List.mem_of_getElem? (i := 14) rfl))) Via.refl e3 fw3 (g := (mkF m 56 #[.val (.ref ob), .val (.int pz), .val (.int pw)] [(.ref ob), (.int (4 : Int32)), (.ref ob)])) rfl rfl (hb hby d1_56)
  refine own_W.step st4 ?_
  show own_W p e (FrameEnd s) below ({ frames := 1, cells := 0, slots := 0, locals := 12 } : Room).cells ({ frames := 1, cells := 0, slots := 0, locals := 12 } : Room).slots (Q1 Z ob pz pw kq h0 n0) T4 (mkF m 59 #[.val (.ref ob), .val (.int pz), .val (.int pw)] [(.int kq), (.int (4 : Int32)), (.ref ob)])
  refine own_imul X4 hx (hb hby d1_59) (rfl : 59 + 1 = 60) ?_
  obtain ⟨T5, h5, X5, e5, W5, st5⟩ := putF X4 hx hZ hown (host := "") (Or.inl (hw _ (List.mem_of_getElem? (i := 16) rfl))) Via.refl e4 f3_F_ob_blockLength f3_E_ob (Or.inr ⟨(hw _ (List.mem_of_getElem? (i := 17) rfl)), rfl, hnm⟩) (hw _ (List.mem_of_getElem? (i := 3) rfl)) (ty := .int) (by decide) rfl rfl (g := (mkF m 60 #[.val (.ref ob), .val (.int pz), .val (.int pw)] [(.int ((4 : Int32) * kq)), (.ref ob)])) rfl rfl (hb hby d1_60)
  refine own_W.step st5 ?_
  have N5 := Fr.snoc X5 N3 g_ob
  have f5_E_ob : Exa Z h5 ob "com/example/flipside/flipside/tool/WriterBlocks" := f3_E_ob.wr W5
  have f5_F_ob_writers : Fld Z h5 ob "com/example/flipside/flipside/tool/WriterBlocks" "writers" "I" (.int pw) := f3_F_ob_writers.other W5 (Or.inr (slot_ne (Or.inr (hw _ (List.mem_of_getElem? (i := 13) rfl))) (Or.inr (hw _ (List.mem_of_getElem? (i := 17) rfl))) (by decide) (t := .int) (t' := .int) (by decide) (by decide)))
  have f5_F_ob_keysPerWriter : Fld Z h5 ob "com/example/flipside/flipside/tool/WriterBlocks" "keysPerWriter" "I" (.int kq) := fw3.other W5 (Or.inr (slot_ne (Or.inr (hw _ (List.mem_of_getElem? (i := 15) rfl))) (Or.inr (hw _ (List.mem_of_getElem? (i := 17) rfl))) (by decide) (t := .int) (t' := .int) (by decide) (by decide)))
  have f5_K : Keep h0 h5 [ob] := f3_K.wr W5 (Or.inl (by simp))
  have fw5 : Fld Z h5 ob "com/example/flipside/flipside/tool/WriterBlocks" "blockLength" "I" (.int ((4 : Int32) * kq)) := f3_F_ob_blockLength.same W5
  have z5 : n0 ≤ h5.size := by rw [W5.size]; exact z3
  show own_W p e (FrameEnd s) below ({ frames := 1, cells := 0, slots := 0, locals := 12 } : Room).cells ({ frames := 1, cells := 0, slots := 0, locals := 12 } : Room).slots (Q1 Z ob pz pw kq h0 n0) T5 (mkF m 63 #[.val (.ref ob), .val (.int pz), .val (.int pw)] [])
  refine own_retV X5 hx hlk hret (hb hby d1_63) (by decide) (by decide) ?_
  show Q1 Z ob pz pw kq h0 n0 none T5.heap _
  rw [e5]
  exact ⟨rfl, N5, f5_K, f5_E_ob, f5_F_ob_writers, f5_F_ob_keysPerWriter, fw5⟩
theorem d4_0 : decode prog_56_method_1_code 0 = .ok (.aload_n 0, 1) := by decide +kernel
theorem d4_1 : decode prog_56_method_1_code 1 = .ok (.invokespecial 1, 3) := by decide +kernel
theorem d4_4 : decode prog_56_method_1_code 4 = .ok (.aload_n 0, 1) := by decide +kernel
theorem d4_5 : decode prog_56_method_1_code 5 = .ok (.iload_n 1, 1) := by decide +kernel
theorem d4_6 : decode prog_56_method_1_code 6 = .ok (.putfield 7, 3) := by decide +kernel
theorem d4_9 : decode prog_56_method_1_code 9 = .ok (.aload_n 0, 1) := by decide +kernel
theorem d4_10 : decode prog_56_method_1_code 10 = .ok (.iload_n 2, 1) := by decide +kernel
theorem d4_11 : decode prog_56_method_1_code 11 = .ok (.putfield 13, 3) := by decide +kernel
theorem d4_14 : decode prog_56_method_1_code 14 = .ok (.aload_n 0, 1) := by decide +kernel
theorem d4_15 : decode prog_56_method_1_code 15 = .ok (.iload_n 3, 1) := by decide +kernel
theorem d4_16 : decode prog_56_method_1_code 16 = .ok (.putfield 16, 3) := by decide +kernel
theorem d4_19 : decode prog_56_method_1_code 19 = .ok (.return_, 1) := by decide +kernel
theorem own_pn_com_example_flipside_flipside_tool_WriterBlocks_Steps : plainName "com/example/flipside/flipside/tool/WriterBlocks$Steps" = true := by first | (simp [plainName, overriddenIn]; done) | decide +kernel
theorem ef_4 (m : MethodId) (ob : Addr) (ps : Int32) (pl : Int32) (pk : Int32) : entryFrame m #[(.ref ob), (.int ps), (.int pl), (.int pk)] 4 = mkF m 0 #[.val (.ref ob), .val (.int ps), .val (.int pl), .val (.int pk)] [] := by first | (simp [entryFrame, mkF, argsToLocals, Value.category]; done) | rfl
def Q4 (Z : State) (ob : Addr) (ps : Int32) (pl : Int32) (pk : Int32)  (h0 : Heap) (n0 : Nat) (v : Option Value) (h : Heap) (L : List Loc) : Prop := v = none ∧ Fr n0 L ∧ Keep h0 h [ob] ∧ Exa Z h ob "com/example/flipside/flipside/tool/WriterBlocks$Steps" ∧ Fld Z h ob "com/example/flipside/flipside/tool/WriterBlocks$Steps" "blockStart" "I" (.int ps) ∧ Fld Z h ob "com/example/flipside/flipside/tool/WriterBlocks$Steps" "blockLength" "I" (.int pl) ∧ Fld Z h ob "com/example/flipside/flipside/tool/WriterBlocks$Steps" "removing" "I" (.int (0 : Int32)) ∧ Fld Z h ob "com/example/flipside/flipside/tool/WriterBlocks$Steps" "adding" "I" (.int pk)
set_option maxRecDepth 65536 in
set_option maxHeartbeats 40000000 in
theorem rm4 (l : Launch) (Z : State) (a0 : Array Value) (hw : ∀ d ∈ tables_1, d.before a0 Z = true) (ws : List Jvm.Cond) (ob : Addr) (ps : Int32) (pl : Int32) (pk : Int32)  (h0 : Heap) (n0 : Nat) (Z0 : n0 ≤ h0.size) (f_E_ob : Exa Z h0 ob "com/example/flipside/flipside/tool/WriterBlocks$Steps") (f_F_ob_blockStart : Fld Z h0 ob "com/example/flipside/flipside/tool/WriterBlocks$Steps" "blockStart" "I" (.int (0 : Int32))) (f_F_ob_blockLength : Fld Z h0 ob "com/example/flipside/flipside/tool/WriterBlocks$Steps" "blockLength" "I" (.int (0 : Int32))) (f_F_ob_removing : Fld Z h0 ob "com/example/flipside/flipside/tool/WriterBlocks$Steps" "removing" "I" (.int (0 : Int32))) (f_F_ob_adding : Fld Z h0 ob "com/example/flipside/flipside/tool/WriterBlocks$Steps" "adding" "I" (.int (0 : Int32))) (g_ob : n0 ≤ ob) :
    MetFree l (⟨"com/example/flipside/flipside/tool/WriterBlocks$Steps", "<init>", "(III)V"⟩ : MethodName) (head1 (Jvm.Cond.code (⟨"com/example/flipside/flipside/tool/WriterBlocks$Steps", "<init>", "(III)V"⟩ : MethodName) prog_56_method_1_code 4 none :: ws) ({ frames := 1, cells := 0, slots := 0, locals := 12 } : Room)) (fun avs U => avs = #[(.ref ob), (.int ps), (.int pl), (.int pk)] ∧ Z.Warmed39 U.vm ∧ U.heap = h0) (fun _ _ _ _ _ => True) (fun _ U o U' => ∃ v L, o = .returned v ∧ Q4 Z ob ps pl pk h0 n0 v U'.heap L ∧ FrameEnd U o U' L ({ frames := 1, cells := 0, slots := 0, locals := 12 } : Room).cells ({ frames := 1, cells := 0, slots := 0, locals := 12 } : Room).slots) := by
  refine MetFree.of_bodySF (plainFor_of_name own_pn_com_example_flipside_flipside_tool_WriterBlocks_Steps) hisR ?_
  intro p e s m args below meth c s₁ Bd hml0 hP hK
  obtain ⟨rfl, hZ, hh⟩ := hP
  have hx := Bd.exec
  have hby := Bd.bytes
  have hml : c.maxLocals = 4 := hml0
  have hown : s.vm.findClass "com/example/flipside/flipside/tool/WriterBlocks$Steps" = some m.cls := findClass_of_methodNamed Bd.named
  have hnm := (name_of_methodNamed Bd.named Bd.method).1
  have hlk := Bd.notSynchronized
  have hret := Bd.returns
  have X0 : Stand p l e ({ frames := 1, cells := 0, slots := 0, locals := 12 } : Room) s m #[(.ref ob), (.int ps), (.int pl), (.int pk)] below meth c s₁ [] 0 0 := Stand.of_body Bd
  have e0 : s₁.heap = h0 := by rw [← hh, Bd.state]; rfl
  have N0 := Fr.nil n0
  show own_W p e (FrameEnd s) below ({ frames := 1, cells := 0, slots := 0, locals := 12 } : Room).cells ({ frames := 1, cells := 0, slots := 0, locals := 12 } : Room).slots (Q4 Z ob ps pl pk h0 n0) s₁ (entryFrame m #[(.ref ob), (.int ps), (.int pl), (.int pk)] 4)
  rw [ef_4]
  have K0 : Keep h0 h0 [ob] := Keep.refl h0 _
  refine own_aloadN X0 hx (hb hby d4_0) (v := (.ref ob)) rfl rfl (rfl : 0 + 1 = 1) ?_
  obtain ⟨T1, X1, e1, st1⟩ := initO X0 hx hZ hown (hw _ (List.mem_of_getElem? (i := 29) rfl)) (hw _ (List.mem_of_getElem? (i := 9) rfl)) (hw _ (List.mem_of_getElem? (i := 10) rfl)) e0 (g := (mkF m 1 #[.val (.ref ob), .val (.int ps), .val (.int pl), .val (.int pk)] [(.ref ob)])) rfl (by rw [hml]; rfl) rfl (hb hby d4_1) (by decide) (W := 0) (by show 2 * 0 + _ ≤ _; exact Nat.le_of_eq rfl) (by decide)
  refine own_W.step st1 ?_
  show own_W p e (FrameEnd s) below ({ frames := 1, cells := 0, slots := 0, locals := 12 } : Room).cells ({ frames := 1, cells := 0, slots := 0, locals := 12 } : Room).slots (Q4 Z ob ps pl pk h0 n0) T1 (mkF m 4 #[.val (.ref ob), .val (.int ps), .val (.int pl), .val (.int pk)] [])
  refine own_aloadN X1 hx (hb hby d4_4) (v := (.ref ob)) rfl rfl (rfl : 4 + 1 = 5) ?_
  refine own_iloadN X1 hx (hb hby d4_5) (v := ps) rfl (rfl : 5 + 1 = 6) ?_
  obtain ⟨T2, h2, X2, e2, W2, st2⟩ := putF X1 hx hZ hown (host := "") (Or.inl (hw _ (List.mem_of_getElem? (i := 30) rfl))) Via.refl e1 f_F_ob_blockStart f_E_ob (Or.inr ⟨(hw _ (List.mem_of_getElem? (i := 31) rfl)), rfl, hnm⟩) (hw _ (List.mem_of_getElem? (i := 24) rfl)) (ty := .int) (by decide) rfl rfl (g := (mkF m 6 #[.val (.ref ob), .val (.int ps), .val (.int pl), .val (.int pk)] [(.int ps), (.ref ob)])) rfl rfl (hb hby d4_6)
  refine own_W.step st2 ?_
  have N2 := Fr.snoc X2 N0 g_ob
  have f2_E_ob : Exa Z h2 ob "com/example/flipside/flipside/tool/WriterBlocks$Steps" := f_E_ob.wr W2
  have f2_F_ob_blockLength : Fld Z h2 ob "com/example/flipside/flipside/tool/WriterBlocks$Steps" "blockLength" "I" (.int (0 : Int32)) := f_F_ob_blockLength.other W2 (Or.inr (slot_ne (Or.inr (hw _ (List.mem_of_getElem? (i := 33) rfl))) (Or.inr (hw _ (List.mem_of_getElem? (i := 31) rfl))) (by decide) (t := .int) (t' := .int) (by decide) (by decide)))
  have f2_F_ob_removing : Fld Z h2 ob "com/example/flipside/flipside/tool/WriterBlocks$Steps" "removing" "I" (.int (0 : Int32)) := f_F_ob_removing.other W2 (Or.inr (slot_ne (Or.inl (hw _ (List.mem_of_getElem? (i := 43) rfl))) (Or.inr (hw _ (List.mem_of_getElem? (i := 31) rfl))) (by decide) (t := .int) (t' := .int) (by decide) (by decide)))
  have f2_F_ob_adding : Fld Z h2 ob "com/example/flipside/flipside/tool/WriterBlocks$Steps" "adding" "I" (.int (0 : Int32)) := f_F_ob_adding.other W2 (Or.inr (slot_ne (Or.inl (hw _ (List.mem_of_getElem? (i := 35) rfl))) (Or.inr (hw _ (List.mem_of_getElem? (i := 31) rfl))) (by decide) (t := .int) (t' := .int) (by decide) (by decide)))
  have f2_K : Keep h0 h2 [ob] := K0.wr W2 (Or.inl (by simp))
  have fw2 : Fld Z h2 ob "com/example/flipside/flipside/tool/WriterBlocks$Steps" "blockStart" "I" (.int ps) := f_F_ob_blockStart.same W2
  have z2 : n0 ≤ h2.size := by rw [W2.size]; exact Z0
  show own_W p e (FrameEnd s) below ({ frames := 1, cells := 0, slots := 0, locals := 12 } : Room).cells ({ frames := 1, cells := 0, slots := 0, locals := 12 } : Room).slots (Q4 Z ob ps pl pk h0 n0) T2 (mkF m 9 #[.val (.ref ob), .val (.int ps), .val (.int pl), .val (.int pk)] [])
  refine own_aloadN X2 hx (hb hby d4_9) (v := (.ref ob)) rfl rfl (rfl : 9 + 1 = 10) ?_
  refine own_iloadN X2 hx (hb hby d4_10) (v := pl) rfl (rfl : 10 + 1 = 11) ?_
  obtain ⟨T3, h3, X3, e3, W3, st3⟩ := putF X2 hx hZ hown (host := "") (Or.inl (hw _ (List.mem_of_getElem? (i := 32) rfl))) Via.refl e2 f2_F_ob_blockLength f2_E_ob (Or.inr ⟨(hw _ (List.mem_of_getElem? (i := 33) rfl)), rfl, hnm⟩) (hw _ (List.mem_of_getElem? (i := 24) rfl)) (ty := .int) (by decide) rfl rfl (g := (mkF m 11 #[.val (.ref ob), .val (.int ps), .val (.int pl), .val (.int pk)] [(.int pl), (.ref ob)])) rfl rfl (hb hby d4_11)
  refine own_W.step st3 ?_
  have N3 := Fr.snoc X3 N2 g_ob
  have f3_E_ob : Exa Z h3 ob "com/example/flipside/flipside/tool/WriterBlocks$Steps" := f2_E_ob.wr W3
  have f3_F_ob_blockStart : Fld Z h3 ob "com/example/flipside/flipside/tool/WriterBlocks$Steps" "blockStart" "I" (.int ps) := fw2.other W3 (Or.inr (slot_ne (Or.inr (hw _ (List.mem_of_getElem? (i := 31) rfl))) (Or.inr (hw _ (List.mem_of_getElem? (i := 33) rfl))) (by decide) (t := .int) (t' := .int) (by decide) (by decide)))
  have f3_F_ob_removing : Fld Z h3 ob "com/example/flipside/flipside/tool/WriterBlocks$Steps" "removing" "I" (.int (0 : Int32)) := f2_F_ob_removing.other W3 (Or.inr (slot_ne (Or.inl (hw _ (List.mem_of_getElem? (i := 43) rfl))) (Or.inr (hw _ (List.mem_of_getElem? (i := 33) rfl))) (by decide) (t := .int) (t' := .int) (by decide) (by decide)))
  have f3_F_ob_adding : Fld Z h3 ob "com/example/flipside/flipside/tool/WriterBlocks$Steps" "adding" "I" (.int (0 : Int32)) := f2_F_ob_adding.other W3 (Or.inr (slot_ne (Or.inl (hw _ (List.mem_of_getElem? (i := 35) rfl))) (Or.inr (hw _ (List.mem_of_getElem? (i := 33) rfl))) (by decide) (t := .int) (t' := .int) (by decide) (by decide)))
  have f3_K : Keep h0 h3 [ob] := f2_K.wr W3 (Or.inl (by simp))
  have fw3 : Fld Z h3 ob "com/example/flipside/flipside/tool/WriterBlocks$Steps" "blockLength" "I" (.int pl) := f2_F_ob_blockLength.same W3
  have z3 : n0 ≤ h3.size := by rw [W3.size]; exact z2
  show own_W p e (FrameEnd s) below ({ frames := 1, cells := 0, slots := 0, locals := 12 } : Room).cells ({ frames := 1, cells := 0, slots := 0, locals := 12 } : Room).slots (Q4 Z ob ps pl pk h0 n0) T3 (mkF m 14 #[.val (.ref ob), .val (.int ps), .val (.int pl), .val (.int pk)] [])
  refine own_aloadN X3 hx (hb hby d4_14) (v := (.ref ob)) rfl rfl (rfl : 14 + 1 = 15) ?_
  refine own_iloadN X3 hx (hb hby d4_15) (v := pk) rfl (rfl : 15 + 1 = 16) ?_
  obtain ⟨T4, h4, X4, e4, W4, st4⟩ := putF X3 hx hZ hown (host := "") (Or.inl (hw _ (List.mem_of_getElem? (i := 34) rfl))) Via.refl e3 f3_F_ob_adding f3_E_ob (Or.inl (hw _ (List.mem_of_getElem? (i := 35) rfl))) (hw _ (List.mem_of_getElem? (i := 24) rfl)) (ty := .int) (by decide) rfl rfl (g := (mkF m 16 #[.val (.ref ob), .val (.int ps), .val (.int pl), .val (.int pk)] [(.int pk), (.ref ob)])) rfl rfl (hb hby d4_16)
  refine own_W.step st4 ?_
  have N4 := Fr.snoc X4 N3 g_ob
  have f4_E_ob : Exa Z h4 ob "com/example/flipside/flipside/tool/WriterBlocks$Steps" := f3_E_ob.wr W4
  have f4_F_ob_blockStart : Fld Z h4 ob "com/example/flipside/flipside/tool/WriterBlocks$Steps" "blockStart" "I" (.int ps) := f3_F_ob_blockStart.other W4 (Or.inr (slot_ne (Or.inr (hw _ (List.mem_of_getElem? (i := 31) rfl))) (Or.inl (hw _ (List.mem_of_getElem? (i := 35) rfl))) (by decide) (t := .int) (t' := .int) (by decide) (by decide)))
  have f4_F_ob_blockLength : Fld Z h4 ob "com/example/flipside/flipside/tool/WriterBlocks$Steps" "blockLength" "I" (.int pl) := fw3.other W4 (Or.inr (slot_ne (Or.inr (hw _ (List.mem_of_getElem? (i := 33) rfl))) (Or.inl (hw _ (List.mem_of_getElem? (i := 35) rfl))) (by decide) (t := .int) (t' := .int) (by decide) (by decide)))
  have f4_F_ob_removing : Fld Z h4 ob "com/example/flipside/flipside/tool/WriterBlocks$Steps" "removing" "I" (.int (0 : Int32)) := f3_F_ob_removing.other W4 (Or.inr (slot_ne (Or.inl (hw _ (List.mem_of_getElem? (i := 43) rfl))) (Or.inl (hw _ (List.mem_of_getElem? (i := 35) rfl))) (by decide) (t := .int) (t' := .int) (by decide) (by decide)))
  have f4_K : Keep h0 h4 [ob] := f3_K.wr W4 (Or.inl (by simp))
  have fw4 : Fld Z h4 ob "com/example/flipside/flipside/tool/WriterBlocks$Steps" "adding" "I" (.int pk) := f3_F_ob_adding.same W4
  have z4 : n0 ≤ h4.size := by rw [W4.size]; exact z3
  show own_W p e (FrameEnd s) below ({ frames := 1, cells := 0, slots := 0, locals := 12 } : Room).cells ({ frames := 1, cells := 0, slots := 0, locals := 12 } : Room).slots (Q4 Z ob ps pl pk h0 n0) T4 (mkF m 19 #[.val (.ref ob), .val (.int ps), .val (.int pl), .val (.int pk)] [])
  refine own_retV X4 hx hlk hret (hb hby d4_19) (by decide) (by decide) ?_
  show Q4 Z ob ps pl pk h0 n0 none T4.heap _
  rw [e4]
  exact ⟨rfl, N4, f4_K, f4_E_ob, f4_F_ob_blockStart, f4_F_ob_blockLength, f4_F_ob_removing, fw4⟩
theorem own_pd__III_V : parseMethodDescriptor "(III)V" = some ⟨[.int, .int, .int], none⟩ := by decide +kernel
theorem d3_0 : decode prog_55_method_4_code 0 = .ok (.new 35, 3) := by decide +kernel
theorem d3_3 : decode prog_55_method_4_code 3 = .ok (.dup, 1) := by decide +kernel
theorem d3_4 : decode prog_55_method_4_code 4 = .ok (.iload_n 1, 1) := by decide +kernel
theorem d3_5 : decode prog_55_method_4_code 5 = .ok (.aload_n 0, 1) := by decide +kernel
theorem d3_6 : decode prog_55_method_4_code 6 = .ok (.getfield 28, 3) := by decide +kernel
theorem d3_9 : decode prog_55_method_4_code 9 = .ok (.imul, 1) := by decide +kernel
theorem d3_10 : decode prog_55_method_4_code 10 = .ok (.aload_n 0, 1) := by decide +kernel
theorem d3_11 : decode prog_55_method_4_code 11 = .ok (.getfield 28, 3) := by decide +kernel
theorem d3_14 : decode prog_55_method_4_code 14 = .ok (.aload_n 0, 1) := by decide +kernel
theorem d3_15 : decode prog_55_method_4_code 15 = .ok (.getfield 25, 3) := by decide +kernel
theorem d3_18 : decode prog_55_method_4_code 18 = .ok (.invokespecial 37, 3) := by decide +kernel
theorem d3_21 : decode prog_55_method_4_code 21 = .ok (.areturn, 1) := by decide +kernel
theorem ef_3 (m : MethodId) (ob : Addr) (pt : Int32) : entryFrame m #[(.ref ob), (.int pt)] 2 = mkF m 0 #[.val (.ref ob), .val (.int pt)] [] := by first | (simp [entryFrame, mkF, argsToLocals, Value.category]; done) | rfl
def Q3 (Z : State) (ob : Addr) (pt : Int32) (ub : Int32) (uk : Int32) (h0 : Heap) (n0 : Nat) (v : Option Value) (h : Heap) (L : List Loc) : Prop := ∃ (bs : Addr), v = some (.ref bs) ∧ Fr n0 L ∧ Keep h0 h [] ∧ h0.size ≤ bs ∧ Exa Z h bs "com/example/flipside/flipside/tool/WriterBlocks$Steps" ∧ Fld Z h bs "com/example/flipside/flipside/tool/WriterBlocks$Steps" "blockStart" "I" (.int (pt * ub)) ∧ Fld Z h bs "com/example/flipside/flipside/tool/WriterBlocks$Steps" "blockLength" "I" (.int ub) ∧ Fld Z h bs "com/example/flipside/flipside/tool/WriterBlocks$Steps" "removing" "I" (.int (0 : Int32)) ∧ Fld Z h bs "com/example/flipside/flipside/tool/WriterBlocks$Steps" "adding" "I" (.int uk)
set_option maxRecDepth 65536 in
set_option maxHeartbeats 40000000 in
theorem rm3 (l : Launch) (Z : State) (a0 : Array Value) (hw : ∀ d ∈ tables_1, d.before a0 Z = true) (ws : List Jvm.Cond) (ob : Addr) (pt : Int32) (ub : Int32) (uk : Int32) (h0 : Heap) (n0 : Nat) (Z0 : n0 ≤ h0.size) (f_F_ob_blockLength : Fld Z h0 ob "com/example/flipside/flipside/tool/WriterBlocks" "blockLength" "I" (.int ub)) (f_F_ob_keysPerWriter : Fld Z h0 ob "com/example/flipside/flipside/tool/WriterBlocks" "keysPerWriter" "I" (.int uk)) :
    MetFree l (⟨"com/example/flipside/flipside/tool/WriterBlocks", "steps", "(I)Lcom/example/flipside/flipside/tool/WriterBlocks$Steps;"⟩ : MethodName) (head1 (Jvm.Cond.code (⟨"com/example/flipside/flipside/tool/WriterBlocks", "steps", "(I)Lcom/example/flipside/flipside/tool/WriterBlocks$Steps;"⟩ : MethodName) prog_55_method_4_code 2 (some (.object "com/example/flipside/flipside/tool/WriterBlocks$Steps")) :: ws) ({ frames := 2, cells := 1, slots := 4, locals := 28 } : Room)) (fun avs U => avs = #[(.ref ob), (.int pt)] ∧ Z.Warmed39 U.vm ∧ U.heap = h0) (fun _ _ _ _ _ => True) (fun _ U o U' => ∃ v L, o = .returned v ∧ Q3 Z ob pt ub uk h0 n0 v U'.heap L ∧ FrameEnd U o U' L ({ frames := 2, cells := 1, slots := 4, locals := 28 } : Room).cells ({ frames := 2, cells := 1, slots := 4, locals := 28 } : Room).slots) := by
  refine MetFree.of_bodySF (plainFor_of_name own_pn_com_example_flipside_flipside_tool_WriterBlocks) hisR ?_
  intro p e s m args below meth c s₁ Bd hml0 hP hK
  obtain ⟨rfl, hZ, hh⟩ := hP
  have hx := Bd.exec
  have hby := Bd.bytes
  have hml : c.maxLocals = 2 := hml0
  have hown : s.vm.findClass "com/example/flipside/flipside/tool/WriterBlocks" = some m.cls := findClass_of_methodNamed Bd.named
  have hnm := (name_of_methodNamed Bd.named Bd.method).1
  have hlk := Bd.notSynchronized
  have hret := Bd.returns
  have X0 : Stand p l e ({ frames := 2, cells := 1, slots := 4, locals := 28 } : Room) s m #[(.ref ob), (.int pt)] below meth c s₁ [] 0 0 := Stand.of_body Bd
  have e0 : s₁.heap = h0 := by rw [← hh, Bd.state]; rfl
  have N0 := Fr.nil n0
  show own_W p e (FrameEnd s) below ({ frames := 2, cells := 1, slots := 4, locals := 28 } : Room).cells ({ frames := 2, cells := 1, slots := 4, locals := 28 } : Room).slots (Q3 Z ob pt ub uk h0 n0) s₁ (entryFrame m #[(.ref ob), (.int pt)] 2)
  rw [ef_3]
  have K0 : Keep h0 h0 [] := Keep.refl h0 _
  obtain ⟨T1, h1, X1, e1, E1, A1, D1, -, st1⟩ := newO X0 hx hZ hown (hw _ (List.mem_of_getElem? (i := 23) rfl)) (hw _ (List.mem_of_getElem? (i := 24) rfl)) (hw _ (List.mem_of_getElem? (i := 25) rfl)) e0 (g := (mkF m 0 #[.val (.ref ob), .val (.int pt)] [])) rfl (hb hby d3_0) (by decide) (by decide)
  obtain ⟨b1, g1⟩ : ∃ z, z = h0.size := ⟨_, rfl⟩
  rw [← g1] at A1 D1 st1
  refine own_W.step st1 ?_
  have ne_ob_b1 : ob ≠ b1 := Nat.ne_of_lt (Nat.lt_of_lt_of_le f_F_ob_blockLength.lt (Nat.le_of_eq g1.symm))
  have sz_b1 : h0.size ≤ b1 := Nat.le_trans K0.1 (Nat.le_of_eq g1.symm)
  have g_b1 : n0 ≤ b1 := Nat.le_trans Z0 (Nat.le_of_eq g1.symm)
  have f1_F_ob_blockLength : Fld Z h1 ob "com/example/flipside/flipside/tool/WriterBlocks" "blockLength" "I" (.int ub) := f_F_ob_blockLength.ext E1
  have f1_F_ob_keysPerWriter : Fld Z h1 ob "com/example/flipside/flipside/tool/WriterBlocks" "keysPerWriter" "I" (.int uk) := f_F_ob_keysPerWriter.ext E1
  have f1_K : Keep h0 h1 [] := K0.ext E1
  have z1 : n0 ≤ h1.size := Nat.le_trans Z0 E1.1
  have F1_blockStart : Fld Z h1 b1 "com/example/flipside/flipside/tool/WriterBlocks$Steps" "blockStart" "I" (.int (0 : Int32)) := D1 (Or.inr (hw _ (List.mem_of_getElem? (i := 31) rfl))) (ty := .int) (by decide)
  have F1_blockLength : Fld Z h1 b1 "com/example/flipside/flipside/tool/WriterBlocks$Steps" "blockLength" "I" (.int (0 : Int32)) := D1 (Or.inr (hw _ (List.mem_of_getElem? (i := 33) rfl))) (ty := .int) (by decide)
  have F1_adding : Fld Z h1 b1 "com/example/flipside/flipside/tool/WriterBlocks$Steps" "adding" "I" (.int (0 : Int32)) := D1 (Or.inl (hw _ (List.mem_of_getElem? (i := 35) rfl))) (ty := .int) (by decide)
  have F1_removing : Fld Z h1 b1 "com/example/flipside/flipside/tool/WriterBlocks$Steps" "removing" "I" (.int (0 : Int32)) := D1 (Or.inl (hw _ (List.mem_of_getElem? (i := 43) rfl))) (ty := .int) (by decide)
  show own_W p e (FrameEnd s) below ({ frames := 2, cells := 1, slots := 4, locals := 28 } : Room).cells ({ frames := 2, cells := 1, slots := 4, locals := 28 } : Room).slots (Q3 Z ob pt ub uk h0 n0) T1 (mkF m 3 #[.val (.ref ob), .val (.int pt)] [(.ref b1)])
  refine own_dup X1 hx (hb hby d3_3) rfl (rfl : 3 + 1 = 4) ?_
  refine own_iloadN X1 hx (hb hby d3_4) (v := pt) rfl (rfl : 4 + 1 = 5) ?_
  refine own_aloadN X1 hx (hb hby d3_5) (v := (.ref ob)) rfl rfl (rfl : 5 + 1 = 6) ?_
  obtain ⟨T2, X2, e2, st2⟩ := getF X1 hx hZ hown (host := "") (Or.inl (hw _ (List.mem_of_getElem? (i := 16) rfl))) Via.refl e1 f1_F_ob_blockLength (g := (mkF m 6 #[.val (.ref ob), .val (.int pt)] [(.ref ob), (.int pt), (.ref b1), (.ref b1)])) rfl rfl (hb hby d3_6)
  refine own_W.step st2 ?_
  show own_W p e (FrameEnd s) below ({ frames := 2, cells := 1, slots := 4, locals := 28 } : Room).cells ({ frames := 2, cells := 1, slots := 4, locals := 28 } : Room).slots (Q3 Z ob pt ub uk h0 n0) T2 (mkF m 9 #[.val (.ref ob), .val (.int pt)] [(.int ub), (.int pt), (.ref b1), (.ref b1)])
  refine own_imul X2 hx (hb hby d3_9) (rfl : 9 + 1 = 10) ?_
  refine own_aloadN X2 hx (hb hby d3_10) (v := (.ref ob)) rfl rfl (rfl : 10 + 1 = 11) ?_
  obtain ⟨T3, X3, e3, st3⟩ := getF X2 hx hZ hown (host := "") (Or.inl (hw _ (List.mem_of_getElem? (i := 16) rfl))) Via.refl e2 f1_F_ob_blockLength (g := (mkF m 11 #[.val (.ref ob), .val (.int pt)] [(.ref ob), (.int (pt * ub)), (.ref b1), (.ref b1)])) rfl rfl (hb hby d3_11)
  refine own_W.step st3 ?_
  show own_W p e (FrameEnd s) below ({ frames := 2, cells := 1, slots := 4, locals := 28 } : Room).cells ({ frames := 2, cells := 1, slots := 4, locals := 28 } : Room).slots (Q3 Z ob pt ub uk h0 n0) T3 (mkF m 14 #[.val (.ref ob), .val (.int pt)] [(.int ub), (.int (pt * ub)), (.ref b1), (.ref b1)])
  refine own_aloadN X3 hx (hb hby d3_14) (v := (.ref ob)) rfl rfl (rfl : 14 + 1 = 15) ?_
  obtain ⟨T4, X4, e4, st4⟩ := getF X3 hx hZ hown (host := "") (Or.inl (hw _ (List.mem_of_getElem? (i := 14) rfl))) Via.refl e3 f1_F_ob_keysPerWriter (g := (mkF m 15 #[.val (.ref ob), .val (.int pt)] [(.ref ob), (.int ub), (.int (pt * ub)), (.ref b1), (.ref b1)])) rfl rfl (hb hby d3_15)
  refine own_W.step st4 ?_
  show own_W p e (FrameEnd s) below ({ frames := 2, cells := 1, slots := 4, locals := 28 } : Room).cells ({ frames := 2, cells := 1, slots := 4, locals := 28 } : Room).slots (Q3 Z ob pt ub uk h0 n0) T4 (mkF m 18 #[.val (.ref ob), .val (.int pt)] [(.int uk), (.int ub), (.int (pt * ub)), (.ref b1), (.ref b1)])
  obtain ⟨_, _, ⟨T5, L5, k5, n5⟩, -, X5, ⟨Lc5, hQ5, l5, y5, z5⟩, st5⟩ := own_specialRef X4 hx hZ (y := (⟨"com/example/flipside/flipside/tool/WriterBlocks$Steps", "<init>", "(III)V"⟩ : MethodName)) rfl hown (hw _ (List.mem_of_getElem? (i := 26) rfl)) (hw _ (List.mem_of_getElem? (i := 27) rfl)) (hw _ (List.mem_of_getElem? (i := 28) rfl)) (by decide) (backOf (W := 1) (rm4 l Z a0 hw [] b1 (pt * ub) ub uk  h1 n0 z1 A1 F1_blockStart F1_blockLength F1_removing F1_adding g_b1) hZ (hw _ (List.mem_of_getElem? (i := 28) rfl)) (hw _ (List.mem_of_getElem? (i := 25) rfl)) (by decide) (by decide)) (g := (mkF m 18 #[.val (.ref ob), .val (.int pt)] [(.int uk), (.int ub), (.int (pt * ub)), (.ref b1), (.ref b1)])) rfl (by rw [hml]; rfl) (Steps.refl _) (a := b1) (argsL := [(.int (pt * ub)), (.int ub), (.int uk)]) (rest := [(.ref b1)]) (lenOf own_pd__III_V rfl) rfl (by show 2 * 0 + _ ≤ _; exact Nat.le_of_eq rfl) (hb hby d3_18) (fun _ _ => ⟨rfl, e4, (by decide : 1 + 0 ≤ _), (by decide : 4 + 0 ≤ _)⟩)
  dsimp only [Pt.U, Pt.locs, Pt.cells, Pt.slots] at X5 l5 y5 z5 st5 hQ5
  subst l5 y5 z5
  obtain ⟨rfl, N5q, K5, fq5_0, fq5_1, fq5_2, fq5_3, fq5_4⟩ := hQ5
  have N5 := Fr.app N0 N5q
  have f5_F_ob_blockLength : Fld Z T5.heap ob "com/example/flipside/flipside/tool/WriterBlocks" "blockLength" "I" (.int ub) := f1_F_ob_blockLength.keep K5 (ninS ne_ob_b1 nin0)
  have f5_F_ob_keysPerWriter : Fld Z T5.heap ob "com/example/flipside/flipside/tool/WriterBlocks" "keysPerWriter" "I" (.int uk) := f1_F_ob_keysPerWriter.keep K5 (ninS ne_ob_b1 nin0)
  have f5_K : Keep h0 T5.heap [] := f1_K.trans K5 (allS (Or.inr sz_b1) all0)
  have f5_E_b1 : Exa Z T5.heap b1 "com/example/flipside/flipside/tool/WriterBlocks$Steps" := A1.keep K5
  have z5c : n0 ≤ T5.heap.size := Nat.le_trans z1 K5.1
  refine own_W.steps st5 ?_
  show own_W p e (FrameEnd s) below ({ frames := 2, cells := 1, slots := 4, locals := 28 } : Room).cells ({ frames := 2, cells := 1, slots := 4, locals := 28 } : Room).slots (Q3 Z ob pt ub uk h0 n0) T5 (mkF m 21 #[.val (.ref ob), .val (.int pt)] [(.ref b1)])
  refine own_retA (t := (.object "com/example/flipside/flipside/tool/WriterBlocks$Steps")) X5 hx hlk hret rfl rfl (hb hby d3_21) (by decide) (by decide) ?_
  show Q3 Z ob pt ub uk h0 n0 (some (.ref b1)) T5.heap _
  skip
  exact ⟨b1, rfl, N5, f5_K, sz_b1, fq5_0, fq5_1, fq5_2, fq5_3, fq5_4⟩
theorem d5_0 : decode prog_56_method_2_code 0 = .ok (.aload_n 0, 1) := by decide +kernel
theorem d5_1 : decode prog_56_method_2_code 1 = .ok (.getfield 7, 3) := by decide +kernel
theorem d5_4 : decode prog_56_method_2_code 4 = .ok (.aload_n 0, 1) := by decide +kernel
theorem d5_5 : decode prog_56_method_2_code 5 = .ok (.getfield 19, 3) := by decide +kernel
theorem d5_8 : decode prog_56_method_2_code 8 = .ok (.iadd, 1) := by decide +kernel
theorem d5_9 : decode prog_56_method_2_code 9 = .ok (.ireturn, 1) := by decide +kernel
theorem ef_5 (m : MethodId) (ob : Addr) : entryFrame m #[(.ref ob)] 1 = mkF m 0 #[.val (.ref ob)] [] := by first | (simp [entryFrame, mkF, argsToLocals, Value.category]; done) | rfl
def Q5 (Z : State) (ob : Addr) (uf : Int32) (ug : Int32) (h0 : Heap) (n0 : Nat) (v : Option Value) (h : Heap) (L : List Loc) : Prop := v = some (.int (uf + ug)) ∧ Fr n0 L ∧ h = h0
set_option maxRecDepth 65536 in
set_option maxHeartbeats 40000000 in
theorem rm5 (l : Launch) (Z : State) (a0 : Array Value) (hw : ∀ d ∈ tables_1, d.before a0 Z = true) (ws : List Jvm.Cond) (ob : Addr) (uf : Int32) (ug : Int32) (h0 : Heap) (n0 : Nat) (Z0 : n0 ≤ h0.size) (f_F_ob_blockStart : Fld Z h0 ob "com/example/flipside/flipside/tool/WriterBlocks$Steps" "blockStart" "I" (.int uf)) (f_F_ob_removing : Fld Z h0 ob "com/example/flipside/flipside/tool/WriterBlocks$Steps" "removing" "I" (.int ug)) :
    MetFree l (⟨"com/example/flipside/flipside/tool/WriterBlocks$Steps", "removed", "()I"⟩ : MethodName) (head1 (Jvm.Cond.code (⟨"com/example/flipside/flipside/tool/WriterBlocks$Steps", "removed", "()I"⟩ : MethodName) prog_56_method_2_code 1 (some .int) :: ws) ({ frames := 0, cells := 0, slots := 0, locals := 0 } : Room)) (fun avs U => avs = #[(.ref ob)] ∧ Z.Warmed39 U.vm ∧ U.heap = h0) (fun _ _ _ _ _ => True) (fun _ U o U' => ∃ v L, o = .returned v ∧ Q5 Z ob uf ug h0 n0 v U'.heap L ∧ FrameEnd U o U' L ({ frames := 0, cells := 0, slots := 0, locals := 0 } : Room).cells ({ frames := 0, cells := 0, slots := 0, locals := 0 } : Room).slots) := by
  refine MetFree.of_bodySF (plainFor_of_name own_pn_com_example_flipside_flipside_tool_WriterBlocks_Steps) hisR ?_
  intro p e s m args below meth c s₁ Bd hml0 hP hK
  obtain ⟨rfl, hZ, hh⟩ := hP
  have hx := Bd.exec
  have hby := Bd.bytes
  have hml : c.maxLocals = 1 := hml0
  have hown : s.vm.findClass "com/example/flipside/flipside/tool/WriterBlocks$Steps" = some m.cls := findClass_of_methodNamed Bd.named
  have hnm := (name_of_methodNamed Bd.named Bd.method).1
  have hlk := Bd.notSynchronized
  have hret := Bd.returns
  have X0 : Stand p l e ({ frames := 0, cells := 0, slots := 0, locals := 0 } : Room) s m #[(.ref ob)] below meth c s₁ [] 0 0 := Stand.of_body Bd
  have e0 : s₁.heap = h0 := by rw [← hh, Bd.state]; rfl
  have N0 := Fr.nil n0
  show own_W p e (FrameEnd s) below ({ frames := 0, cells := 0, slots := 0, locals := 0 } : Room).cells ({ frames := 0, cells := 0, slots := 0, locals := 0 } : Room).slots (Q5 Z ob uf ug h0 n0) s₁ (entryFrame m #[(.ref ob)] 1)
  rw [ef_5]
  refine own_aloadN X0 hx (hb hby d5_0) (v := (.ref ob)) rfl rfl (rfl : 0 + 1 = 1) ?_
  obtain ⟨T1, X1, e1, st1⟩ := getF X0 hx hZ hown (host := "") (Or.inl (hw _ (List.mem_of_getElem? (i := 30) rfl))) Via.refl e0 f_F_ob_blockStart (g := (mkF m 1 #[.val (.ref ob)] [(.ref ob)])) rfl rfl (hb hby d5_1)
  refine own_W.step st1 ?_
  show own_W p e (FrameEnd s) below ({ frames := 0, cells := 0, slots := 0, locals := 0 } : Room).cells ({ frames := 0, cells := 0, slots := 0, locals := 0 } : Room).slots (Q5 Z ob uf ug h0 n0) T1 (mkF m 4 #[.val (.ref ob)] [(.int uf)])
  refine own_aloadN X1 hx (hb hby d5_4) (v := (.ref ob)) rfl rfl (rfl : 4 + 1 = 5) ?_
  obtain ⟨T2, X2, e2, st2⟩ := getF X1 hx hZ hown (host := "") (Or.inl (hw _ (List.mem_of_getElem? (i := 42) rfl))) Via.refl e1 f_F_ob_removing (g := (mkF m 5 #[.val (.ref ob)] [(.ref ob), (.int uf)])) rfl rfl (hb hby d5_5)
  refine own_W.step st2 ?_
  show own_W p e (FrameEnd s) below ({ frames := 0, cells := 0, slots := 0, locals := 0 } : Room).cells ({ frames := 0, cells := 0, slots := 0, locals := 0 } : Room).slots (Q5 Z ob uf ug h0 n0) T2 (mkF m 8 #[.val (.ref ob)] [(.int ug), (.int uf)])
  refine own_iadd X2 hx (hb hby d5_8) (rfl : 8 + 1 = 9) ?_
  refine own_retI X2 hx hlk hret (hb hby d5_9) (by decide) (by decide) ?_
  show Q5 Z ob uf ug h0 n0 (some (.int (uf + ug))) T2.heap _
  rw [e2]
  exact ⟨rfl, N0, rfl⟩
theorem d6_0 : decode prog_56_method_3_code 0 = .ok (.aload_n 0, 1) := by decide +kernel
theorem d6_1 : decode prog_56_method_3_code 1 = .ok (.getfield 7, 3) := by decide +kernel
theorem d6_4 : decode prog_56_method_3_code 4 = .ok (.aload_n 0, 1) := by decide +kernel
theorem d6_5 : decode prog_56_method_3_code 5 = .ok (.getfield 16, 3) := by decide +kernel
theorem d6_8 : decode prog_56_method_3_code 8 = .ok (.iadd, 1) := by decide +kernel
theorem d6_9 : decode prog_56_method_3_code 9 = .ok (.ireturn, 1) := by decide +kernel
theorem ef_6 (m : MethodId) (ob : Addr) : entryFrame m #[(.ref ob)] 1 = mkF m 0 #[.val (.ref ob)] [] := by first | (simp [entryFrame, mkF, argsToLocals, Value.category]; done) | rfl
def Q6 (Z : State) (ob : Addr) (uf : Int32) (ug : Int32) (h0 : Heap) (n0 : Nat) (v : Option Value) (h : Heap) (L : List Loc) : Prop := v = some (.int (uf + ug)) ∧ Fr n0 L ∧ h = h0
set_option maxRecDepth 65536 in
set_option maxHeartbeats 40000000 in
theorem rm6 (l : Launch) (Z : State) (a0 : Array Value) (hw : ∀ d ∈ tables_1, d.before a0 Z = true) (ws : List Jvm.Cond) (ob : Addr) (uf : Int32) (ug : Int32) (h0 : Heap) (n0 : Nat) (Z0 : n0 ≤ h0.size) (f_F_ob_blockStart : Fld Z h0 ob "com/example/flipside/flipside/tool/WriterBlocks$Steps" "blockStart" "I" (.int uf)) (f_F_ob_adding : Fld Z h0 ob "com/example/flipside/flipside/tool/WriterBlocks$Steps" "adding" "I" (.int ug)) :
    MetFree l (⟨"com/example/flipside/flipside/tool/WriterBlocks$Steps", "added", "()I"⟩ : MethodName) (head1 (Jvm.Cond.code (⟨"com/example/flipside/flipside/tool/WriterBlocks$Steps", "added", "()I"⟩ : MethodName) prog_56_method_3_code 1 (some .int) :: ws) ({ frames := 0, cells := 0, slots := 0, locals := 0 } : Room)) (fun avs U => avs = #[(.ref ob)] ∧ Z.Warmed39 U.vm ∧ U.heap = h0) (fun _ _ _ _ _ => True) (fun _ U o U' => ∃ v L, o = .returned v ∧ Q6 Z ob uf ug h0 n0 v U'.heap L ∧ FrameEnd U o U' L ({ frames := 0, cells := 0, slots := 0, locals := 0 } : Room).cells ({ frames := 0, cells := 0, slots := 0, locals := 0 } : Room).slots) := by
  refine MetFree.of_bodySF (plainFor_of_name own_pn_com_example_flipside_flipside_tool_WriterBlocks_Steps) hisR ?_
  intro p e s m args below meth c s₁ Bd hml0 hP hK
  obtain ⟨rfl, hZ, hh⟩ := hP
  have hx := Bd.exec
  have hby := Bd.bytes
  have hml : c.maxLocals = 1 := hml0
  have hown : s.vm.findClass "com/example/flipside/flipside/tool/WriterBlocks$Steps" = some m.cls := findClass_of_methodNamed Bd.named
  have hnm := (name_of_methodNamed Bd.named Bd.method).1
  have hlk := Bd.notSynchronized
  have hret := Bd.returns
  have X0 : Stand p l e ({ frames := 0, cells := 0, slots := 0, locals := 0 } : Room) s m #[(.ref ob)] below meth c s₁ [] 0 0 := Stand.of_body Bd
  have e0 : s₁.heap = h0 := by rw [← hh, Bd.state]; rfl
  have N0 := Fr.nil n0
  show own_W p e (FrameEnd s) below ({ frames := 0, cells := 0, slots := 0, locals := 0 } : Room).cells ({ frames := 0, cells := 0, slots := 0, locals := 0 } : Room).slots (Q6 Z ob uf ug h0 n0) s₁ (entryFrame m #[(.ref ob)] 1)
  rw [ef_6]
  refine own_aloadN X0 hx (hb hby d6_0) (v := (.ref ob)) rfl rfl (rfl : 0 + 1 = 1) ?_
  obtain ⟨T1, X1, e1, st1⟩ := getF X0 hx hZ hown (host := "") (Or.inl (hw _ (List.mem_of_getElem? (i := 30) rfl))) Via.refl e0 f_F_ob_blockStart (g := (mkF m 1 #[.val (.ref ob)] [(.ref ob)])) rfl rfl (hb hby d6_1)
  refine own_W.step st1 ?_
  show own_W p e (FrameEnd s) below ({ frames := 0, cells := 0, slots := 0, locals := 0 } : Room).cells ({ frames := 0, cells := 0, slots := 0, locals := 0 } : Room).slots (Q6 Z ob uf ug h0 n0) T1 (mkF m 4 #[.val (.ref ob)] [(.int uf)])
  refine own_aloadN X1 hx (hb hby d6_4) (v := (.ref ob)) rfl rfl (rfl : 4 + 1 = 5) ?_
  obtain ⟨T2, X2, e2, st2⟩ := getF X1 hx hZ hown (host := "") (Or.inl (hw _ (List.mem_of_getElem? (i := 34) rfl))) Via.refl e1 f_F_ob_adding (g := (mkF m 5 #[.val (.ref ob)] [(.ref ob), (.int uf)])) rfl rfl (hb hby d6_5)
  refine own_W.step st2 ?_
  show own_W p e (FrameEnd s) below ({ frames := 0, cells := 0, slots := 0, locals := 0 } : Room).cells ({ frames := 0, cells := 0, slots := 0, locals := 0 } : Room).slots (Q6 Z ob uf ug h0 n0) T2 (mkF m 8 #[.val (.ref ob)] [(.int ug), (.int uf)])
  refine own_iadd X2 hx (hb hby d6_8) (rfl : 8 + 1 = 9) ?_
  refine own_retI X2 hx hlk hret (hb hby d6_9) (by decide) (by decide) ?_
  show Q6 Z ob uf ug h0 n0 (some (.int (uf + ug))) T2.heap _
  rw [e2]
  exact ⟨rfl, N0, rfl⟩
theorem d8_0 : decode prog_56_method_5_code 0 = .ok (.iload_n 1, 1) := by decide +kernel
theorem d8_1 : decode prog_56_method_5_code 1 = .ok (.iconst 1, 1) := by decide +kernel
theorem d8_2 : decode prog_56_method_5_code 2 = .ok (.iadd, 1) := by decide +kernel
theorem d8_3 : decode prog_56_method_5_code 3 = .ok (.aload_n 0, 1) := by decide +kernel
theorem d8_4 : decode prog_56_method_5_code 4 = .ok (.getfield 13, 3) := by decide +kernel
theorem d8_7 : decode prog_56_method_5_code 7 = .ok (.if_icmp .ne 7, 3) := by decide +kernel
theorem d8_10 : decode prog_56_method_5_code 10 = .ok (.iconst 0, 1) := by decide +kernel
theorem d8_11 : decode prog_56_method_5_code 11 = .ok (.goto 6, 3) := by decide +kernel
theorem d8_14 : decode prog_56_method_5_code 14 = .ok (.iload_n 1, 1) := by decide +kernel
theorem d8_15 : decode prog_56_method_5_code 15 = .ok (.iconst 1, 1) := by decide +kernel
theorem d8_16 : decode prog_56_method_5_code 16 = .ok (.iadd, 1) := by decide +kernel
theorem d8_17 : decode prog_56_method_5_code 17 = .ok (.ireturn, 1) := by decide +kernel
theorem ef_8 (m : MethodId) (ob : Addr) (pp : Int32) : entryFrame m #[(.ref ob), (.int pp)] 2 = mkF m 0 #[.val (.ref ob), .val (.int pp)] [] := by first | (simp [entryFrame, mkF, argsToLocals, Value.category]; done) | rfl
def Q8 (Z : State) (ob : Addr) (pp : Int32) (ub : Int32) (h0 : Heap) (n0 : Nat) (v : Option Value) (h : Heap) (L : List Loc) : Prop := v = some (.int (own_fol ub pp)) ∧ Fr n0 L ∧ h = h0
set_option maxRecDepth 65536 in
set_option maxHeartbeats 40000000 in
theorem rm8 (l : Launch) (Z : State) (a0 : Array Value) (hw : ∀ d ∈ tables_1, d.before a0 Z = true) (ws : List Jvm.Cond) (ob : Addr) (pp : Int32) (ub : Int32) (h0 : Heap) (n0 : Nat) (Z0 : n0 ≤ h0.size) (f_F_ob_blockLength : Fld Z h0 ob "com/example/flipside/flipside/tool/WriterBlocks$Steps" "blockLength" "I" (.int ub)) :
    MetFree l (⟨"com/example/flipside/flipside/tool/WriterBlocks$Steps", "following", "(I)I"⟩ : MethodName) (head1 (Jvm.Cond.code (⟨"com/example/flipside/flipside/tool/WriterBlocks$Steps", "following", "(I)I"⟩ : MethodName) prog_56_method_5_code 2 (some .int) :: ws) ({ frames := 0, cells := 0, slots := 0, locals := 0 } : Room)) (fun avs U => avs = #[(.ref ob), (.int pp)] ∧ Z.Warmed39 U.vm ∧ U.heap = h0) (fun _ _ _ _ _ => True) (fun _ U o U' => ∃ v L, o = .returned v ∧ Q8 Z ob pp ub h0 n0 v U'.heap L ∧ FrameEnd U o U' L ({ frames := 0, cells := 0, slots := 0, locals := 0 } : Room).cells ({ frames := 0, cells := 0, slots := 0, locals := 0 } : Room).slots) := by
  refine MetFree.of_bodySF (plainFor_of_name own_pn_com_example_flipside_flipside_tool_WriterBlocks_Steps) hisR ?_
  intro p e s m args below meth c s₁ Bd hml0 hP hK
  obtain ⟨rfl, hZ, hh⟩ := hP
  have hx := Bd.exec
  have hby := Bd.bytes
  have hml : c.maxLocals = 2 := hml0
  have hown : s.vm.findClass "com/example/flipside/flipside/tool/WriterBlocks$Steps" = some m.cls := findClass_of_methodNamed Bd.named
  have hnm := (name_of_methodNamed Bd.named Bd.method).1
  have hlk := Bd.notSynchronized
  have hret := Bd.returns
  have X0 : Stand p l e ({ frames := 0, cells := 0, slots := 0, locals := 0 } : Room) s m #[(.ref ob), (.int pp)] below meth c s₁ [] 0 0 := Stand.of_body Bd
  have e0 : s₁.heap = h0 := by rw [← hh, Bd.state]; rfl
  have N0 := Fr.nil n0
  show own_W p e (FrameEnd s) below ({ frames := 0, cells := 0, slots := 0, locals := 0 } : Room).cells ({ frames := 0, cells := 0, slots := 0, locals := 0 } : Room).slots (Q8 Z ob pp ub h0 n0) s₁ (entryFrame m #[(.ref ob), (.int pp)] 2)
  rw [ef_8]
  refine own_iloadN X0 hx (hb hby d8_0) (v := pp) rfl (rfl : 0 + 1 = 1) ?_
  refine own_iconst X0 hx (hb hby d8_1) (1 : Int32) (by first | rfl | decide) (rfl : 1 + 1 = 2) ?_
  refine own_iadd X0 hx (hb hby d8_2) (rfl : 2 + 1 = 3) ?_
  refine own_aloadN X0 hx (hb hby d8_3) (v := (.ref ob)) rfl rfl (rfl : 3 + 1 = 4) ?_
  obtain ⟨T1, X1, e1, st1⟩ := getF X0 hx hZ hown (host := "") (Or.inl (hw _ (List.mem_of_getElem? (i := 32) rfl))) Via.refl e0 f_F_ob_blockLength (g := (mkF m 4 #[.val (.ref ob), .val (.int pp)] [(.ref ob), (.int (pp + (1 : Int32)))])) rfl rfl (hb hby d8_4)
  refine own_W.step st1 ?_
  show own_W p e (FrameEnd s) below ({ frames := 0, cells := 0, slots := 0, locals := 0 } : Room).cells ({ frames := 0, cells := 0, slots := 0, locals := 0 } : Room).slots (Q8 Z ob pp ub h0 n0) T1 (mkF m 7 #[.val (.ref ob), .val (.int pp)] [(.int ub), (.int (pp + (1 : Int32)))])
  by_cases hc7 : (pp + (1 : Int32)) = ub
  · skip
    refine own_icmpNo X1 hx (hb hby d8_7) (teq hc7).2 (rfl : 7 + 3 = 10) ?_
    refine own_iconst X1 hx (hb hby d8_10) (0 : Int32) (by first | rfl | decide) (rfl : 10 + 1 = 11) ?_
    refine own_goto X1 hx (hb hby d8_11) (pc' := 17) (by decide) (by decide) ?_
    refine own_retI X1 hx hlk hret (hb hby d8_17) (by decide) (by decide) ?_
    show Q8 Z ob pp ub h0 n0 (some (.int (0 : Int32))) T1.heap _
    rw [e1]
    exact ⟨by simp only [own_fol, if_pos hc7], N0, rfl⟩
  · skip
    refine own_icmpYes X1 hx (hb hby d8_7) (feq hc7).2 (pc' := 14) (by decide) (by decide) ?_
    refine own_iloadN X1 hx (hb hby d8_14) (v := pp) rfl (rfl : 14 + 1 = 15) ?_
    refine own_iconst X1 hx (hb hby d8_15) (1 : Int32) (by first | rfl | decide) (rfl : 15 + 1 = 16) ?_
    refine own_iadd X1 hx (hb hby d8_16) (rfl : 16 + 1 = 17) ?_
    refine own_retI X1 hx hlk hret (hb hby d8_17) (by decide) (by decide) ?_
    show Q8 Z ob pp ub h0 n0 (some (.int (pp + (1 : Int32)))) T1.heap _
    rw [e1]
    exact ⟨by simp only [own_fol, if_neg hc7], N0, rfl⟩
theorem own_pd__I_I : parseMethodDescriptor "(I)I" = some ⟨[.int], some .int⟩ := by decide +kernel
theorem d7_0 : decode prog_56_method_4_code 0 = .ok (.aload_n 0, 1) := by decide +kernel
theorem d7_1 : decode prog_56_method_4_code 1 = .ok (.aload_n 0, 1) := by decide +kernel
theorem d7_2 : decode prog_56_method_4_code 2 = .ok (.aload_n 0, 1) := by decide +kernel
theorem d7_3 : decode prog_56_method_4_code 3 = .ok (.getfield 19, 3) := by decide +kernel
theorem d7_6 : decode prog_56_method_4_code 6 = .ok (.invokevirtual 22, 3) := by decide +kernel
theorem d7_9 : decode prog_56_method_4_code 9 = .ok (.putfield 19, 3) := by decide +kernel
theorem d7_12 : decode prog_56_method_4_code 12 = .ok (.aload_n 0, 1) := by decide +kernel
theorem d7_13 : decode prog_56_method_4_code 13 = .ok (.aload_n 0, 1) := by decide +kernel
theorem d7_14 : decode prog_56_method_4_code 14 = .ok (.aload_n 0, 1) := by decide +kernel
theorem d7_15 : decode prog_56_method_4_code 15 = .ok (.getfield 16, 3) := by decide +kernel
theorem d7_18 : decode prog_56_method_4_code 18 = .ok (.invokevirtual 22, 3) := by decide +kernel
theorem d7_21 : decode prog_56_method_4_code 21 = .ok (.putfield 16, 3) := by decide +kernel
theorem d7_24 : decode prog_56_method_4_code 24 = .ok (.return_, 1) := by decide +kernel
theorem ef_7 (m : MethodId) (ob : Addr) : entryFrame m #[(.ref ob)] 1 = mkF m 0 #[.val (.ref ob)] [] := by first | (simp [entryFrame, mkF, argsToLocals, Value.category]; done) | rfl
def Q7 (Z : State) (ob : Addr) (us : Int32) (ub : Int32) (ur : Int32) (ua : Int32) (h0 : Heap) (n0 : Nat) (v : Option Value) (h : Heap) (L : List Loc) : Prop := v = none ∧ Fr n0 L ∧ Keep h0 h [ob] ∧ Exa Z h ob "com/example/flipside/flipside/tool/WriterBlocks$Steps" ∧ Fld Z h ob "com/example/flipside/flipside/tool/WriterBlocks$Steps" "blockStart" "I" (.int us) ∧ Fld Z h ob "com/example/flipside/flipside/tool/WriterBlocks$Steps" "blockLength" "I" (.int ub) ∧ Fld Z h ob "com/example/flipside/flipside/tool/WriterBlocks$Steps" "removing" "I" (.int (own_fol ub ur)) ∧ Fld Z h ob "com/example/flipside/flipside/tool/WriterBlocks$Steps" "adding" "I" (.int (own_fol ub ua))
set_option maxRecDepth 65536 in
set_option maxHeartbeats 40000000 in
theorem rm7 (l : Launch) (Z : State) (a0 : Array Value) (hw : ∀ d ∈ tables_1, d.before a0 Z = true) (ws : List Jvm.Cond) (ob : Addr) (us : Int32) (ub : Int32) (ur : Int32) (ua : Int32) (h0 : Heap) (n0 : Nat) (Z0 : n0 ≤ h0.size) (f_E_ob : Exa Z h0 ob "com/example/flipside/flipside/tool/WriterBlocks$Steps") (f_F_ob_blockStart : Fld Z h0 ob "com/example/flipside/flipside/tool/WriterBlocks$Steps" "blockStart" "I" (.int us)) (f_F_ob_blockLength : Fld Z h0 ob "com/example/flipside/flipside/tool/WriterBlocks$Steps" "blockLength" "I" (.int ub)) (f_F_ob_removing : Fld Z h0 ob "com/example/flipside/flipside/tool/WriterBlocks$Steps" "removing" "I" (.int ur)) (f_F_ob_adding : Fld Z h0 ob "com/example/flipside/flipside/tool/WriterBlocks$Steps" "adding" "I" (.int ua)) (g_ob : n0 ≤ ob) :
    MetFree l (⟨"com/example/flipside/flipside/tool/WriterBlocks$Steps", "next", "()V"⟩ : MethodName) (head1 (Jvm.Cond.code (⟨"com/example/flipside/flipside/tool/WriterBlocks$Steps", "next", "()V"⟩ : MethodName) prog_56_method_4_code 1 none :: ws) ({ frames := 1, cells := 0, slots := 0, locals := 14 } : Room)) (fun avs U => avs = #[(.ref ob)] ∧ Z.Warmed39 U.vm ∧ U.heap = h0) (fun _ _ _ _ _ => True) (fun _ U o U' => ∃ v L, o = .returned v ∧ Q7 Z ob us ub ur ua h0 n0 v U'.heap L ∧ FrameEnd U o U' L ({ frames := 1, cells := 0, slots := 0, locals := 14 } : Room).cells ({ frames := 1, cells := 0, slots := 0, locals := 14 } : Room).slots) := by
  refine MetFree.of_bodySF (plainFor_of_name own_pn_com_example_flipside_flipside_tool_WriterBlocks_Steps) hisR ?_
  intro p e s m args below meth c s₁ Bd hml0 hP hK
  obtain ⟨rfl, hZ, hh⟩ := hP
  have hx := Bd.exec
  have hby := Bd.bytes
  have hml : c.maxLocals = 1 := hml0
  have hown : s.vm.findClass "com/example/flipside/flipside/tool/WriterBlocks$Steps" = some m.cls := findClass_of_methodNamed Bd.named
  have hnm := (name_of_methodNamed Bd.named Bd.method).1
  have hlk := Bd.notSynchronized
  have hret := Bd.returns
  have X0 : Stand p l e ({ frames := 1, cells := 0, slots := 0, locals := 14 } : Room) s m #[(.ref ob)] below meth c s₁ [] 0 0 := Stand.of_body Bd
  have e0 : s₁.heap = h0 := by rw [← hh, Bd.state]; rfl
  have N0 := Fr.nil n0
  show own_W p e (FrameEnd s) below ({ frames := 1, cells := 0, slots := 0, locals := 14 } : Room).cells ({ frames := 1, cells := 0, slots := 0, locals := 14 } : Room).slots (Q7 Z ob us ub ur ua h0 n0) s₁ (entryFrame m #[(.ref ob)] 1)
  rw [ef_7]
  have K0 : Keep h0 h0 [ob] := Keep.refl h0 _
  refine own_aloadN X0 hx (hb hby d7_0) (v := (.ref ob)) rfl rfl (rfl : 0 + 1 = 1) ?_
  refine own_aloadN X0 hx (hb hby d7_1) (v := (.ref ob)) rfl rfl (rfl : 1 + 1 = 2) ?_
  refine own_aloadN X0 hx (hb hby d7_2) (v := (.ref ob)) rfl rfl (rfl : 2 + 1 = 3) ?_
  obtain ⟨T1, X1, e1, st1⟩ := getF X0 hx hZ hown (host := "") (Or.inl (hw _ (List.mem_of_getElem? (i := 42) rfl))) Via.refl e0 f_F_ob_removing (g := (mkF m 3 #[.val (.ref ob)] [(.ref ob), (.ref ob), (.ref ob)])) rfl rfl (hb hby d7_3)
  refine own_W.step st1 ?_
  show own_W p e (FrameEnd s) below ({ frames := 1, cells := 0, slots := 0, locals := 14 } : Room).cells ({ frames := 1, cells := 0, slots := 0, locals := 14 } : Room).slots (Q7 Z ob us ub ur ua h0 n0) T1 (mkF m 6 #[.val (.ref ob)] [(.int ur), (.ref ob), (.ref ob)])
  obtain ⟨cq2, q2, q2'⟩ := f_E_ob.cell
  obtain ⟨_, _, ⟨T2, L2, k2, n2⟩, -, X2, ⟨Lc2, hQ2, l2, y2, z2⟩, st2⟩ := X1.privateBack hx (y := (⟨"com/example/flipside/flipside/tool/WriterBlocks$Steps", "following", "(I)I"⟩ : MethodName)) hown (mvT hZ (hw _ (List.mem_of_getElem? (i := 54) rfl))) (mvT hZ (hw _ (List.mem_of_getElem? (i := 55) rfl))) (mvT hZ (own_selP (hw _ (List.mem_of_getElem? (i := 56) rfl)) (hw _ (List.mem_of_getElem? (i := 55) rfl)) (hw _ (List.mem_of_getElem? (i := 24) rfl)) (by decide))) (Cond.privateMethod_at (mvP hZ (hw _ (List.mem_of_getElem? (i := 56) rfl)) (args := #[]))) (mvT hZ (hw _ (List.mem_of_getElem? (i := 57) rfl))) (by decide) (backOf (W := 1) (rm8 l Z a0 hw [] ob ur ub h0 n0 Z0 f_F_ob_blockLength) hZ (hw _ (List.mem_of_getElem? (i := 57) rfl)) (hw _ (List.mem_of_getElem? (i := 25) rfl)) (by decide) (by decide)) (g := (mkF m 6 #[.val (.ref ob)] [(.int ur), (.ref ob), (.ref ob)])) rfl (by rw [hml]; rfl) (Steps.refl _) (a := ob) (by rw [e1]; exact q2) q2' (argsL := [(.int ur)]) (rest := [(.ref ob)]) (lenOf own_pd__I_I rfl) rfl (by show 2 * 0 + _ ≤ _; exact Nat.le_of_eq rfl) (hb hby d7_6) (fun _ _ => ⟨rfl, e1, (by decide : 0 + 0 ≤ _), (by decide : 0 + 0 ≤ _)⟩)
  dsimp only [Pt.U, Pt.locs, Pt.cells, Pt.slots] at X2 l2 y2 z2 st2 hQ2
  subst l2 y2 z2
  obtain ⟨rfl, N2q, e2⟩ := hQ2
  have N2 := Fr.app N0 N2q
  refine own_W.steps st2 ?_
  show own_W p e (FrameEnd s) below ({ frames := 1, cells := 0, slots := 0, locals := 14 } : Room).cells ({ frames := 1, cells := 0, slots := 0, locals := 14 } : Room).slots (Q7 Z ob us ub ur ua h0 n0) T2 (mkF m 9 #[.val (.ref ob)] [(.int (own_fol ub ur)), (.ref ob)])
  obtain ⟨T3, h3, X3, e3, W3, st3⟩ := putF X2 hx hZ hown (host := "") (Or.inl (hw _ (List.mem_of_getElem? (i := 42) rfl))) Via.refl e2 f_F_ob_removing f_E_ob (Or.inl (hw _ (List.mem_of_getElem? (i := 43) rfl))) (hw _ (List.mem_of_getElem? (i := 24) rfl)) (ty := .int) (by decide) rfl rfl (g := (mkF m 9 #[.val (.ref ob)] [(.int (own_fol ub ur)), (.ref ob)])) rfl rfl (hb hby d7_9)
  refine own_W.step st3 ?_
  have N3 := Fr.snoc X3 N2 g_ob
  have f3_E_ob : Exa Z h3 ob "com/example/flipside/flipside/tool/WriterBlocks$Steps" := f_E_ob.wr W3
  have f3_F_ob_blockStart : Fld Z h3 ob "com/example/flipside/flipside/tool/WriterBlocks$Steps" "blockStart" "I" (.int us) := f_F_ob_blockStart.other W3 (Or.inr (slot_ne (Or.inr (hw _ (List.mem_of_getElem? (i := 31) rfl))) (Or.inl (hw _ (List.mem_of_getElem? (i := 43) rfl))) (by decide) (t := .int) (t' := .int) (by decide) (by decide)))
  have f3_F_ob_blockLength : Fld Z h3 ob "com/example/flipside/flipside/tool/WriterBlocks$Steps" "blockLength" "I" (.int ub) := f_F_ob_blockLength.other W3 (Or.inr (slot_ne (Or.inr (hw _ (List.mem_of_getElem? (i := 33) rfl))) (Or.inl (hw _ (List.mem_of_getElem? (i := 43) rfl))) (by decide) (t := .int) (t' := .int) (by decide) (by decide)))
  have f3_F_ob_adding : Fld Z h3 ob "com/example/flipside/flipside/tool/WriterBlocks$Steps" "adding" "I" (.int ua) := f_F_ob_adding.other W3 (Or.inr (slot_ne (Or.inl (hw _ (List.mem_of_getElem? (i := 35) rfl))) (Or.inl (hw _ (List.mem_of_getElem? (i := 43) rfl))) (by decide) (t := .int) (t' := .int) (by decide) (by decide)))
  have f3_K : Keep h0 h3 [ob] := K0.wr W3 (Or.inl (by simp))
  have fw3 : Fld Z h3 ob "com/example/flipside/flipside/tool/WriterBlocks$Steps" "removing" "I" (.int (own_fol ub ur)) := f_F_ob_removing.same W3
  have z3 : n0 ≤ h3.size := by rw [W3.size]; exact Z0
  show own_W p e (FrameEnd s) below ({ frames := 1, cells := 0, slots := 0, locals := 14 } : Room).cells ({ frames := 1, cells := 0, slots := 0, locals := 14 } : Room).slots (Q7 Z ob us ub ur ua h0 n0) T3 (mkF m 12 #[.val (.ref ob)] [])
  refine own_aloadN X3 hx (hb hby d7_12) (v := (.ref ob)) rfl rfl (rfl : 12 + 1 = 13) ?_
  refine own_aloadN X3 hx (hb hby d7_13) (v := (.ref ob)) rfl rfl (rfl : 13 + 1 = 14) ?_
  refine own_aloadN X3 hx (hb hby d7_14) (v := (.ref ob)) rfl rfl (rfl : 14 + 1 = 15) ?_
  obtain ⟨T4, X4, e4, st4⟩ := getF X3 hx hZ hown (host := "") (Or.inl (hw _ (List.mem_of_getElem? (i := 34) rfl))) Via.refl e3 f3_F_ob_adding (g := (mkF m 15 #[.val (.ref ob)] [(.ref ob), (.ref ob), (.ref ob)])) rfl rfl (hb hby d7_15)
  refine own_W.step st4 ?_
  show own_W p e (FrameEnd s) below ({ frames := 1, cells := 0, slots := 0, locals := 14 } : Room).cells ({ frames := 1, cells := 0, slots := 0, locals := 14 } : Room).slots (Q7 Z ob us ub ur ua h0 n0) T4 (mkF m 18 #[.val (.ref ob)] [(.int ua), (.ref ob), (.ref ob)])
  obtain ⟨cq5, q5, q5'⟩ := f3_E_ob.cell
  obtain ⟨_, _, ⟨T5, L5, k5, n5⟩, -, X5, ⟨Lc5, hQ5, l5, y5, z5⟩, st5⟩ := X4.privateBack hx (y := (⟨"com/example/flipside/flipside/tool/WriterBlocks$Steps", "following", "(I)I"⟩ : MethodName)) hown (mvT hZ (hw _ (List.mem_of_getElem? (i := 54) rfl))) (mvT hZ (hw _ (List.mem_of_getElem? (i := 55) rfl))) (mvT hZ (own_selP (hw _ (List.mem_of_getElem? (i := 56) rfl)) (hw _ (List.mem_of_getElem? (i := 55) rfl)) (hw _ (List.mem_of_getElem? (i := 24) rfl)) (by decide))) (Cond.privateMethod_at (mvP hZ (hw _ (List.mem_of_getElem? (i := 56) rfl)) (args := #[]))) (mvT hZ (hw _ (List.mem_of_getElem? (i := 57) rfl))) (by decide) (backOf (W := 1) (rm8 l Z a0 hw [] ob ua ub h3 n0 z3 f3_F_ob_blockLength) hZ (hw _ (List.mem_of_getElem? (i := 57) rfl)) (hw _ (List.mem_of_getElem? (i := 25) rfl)) (by decide) (by decide)) (g := (mkF m 18 #[.val (.ref ob)] [(.int ua), (.ref ob), (.ref ob)])) rfl (by rw [hml]; rfl) (Steps.refl _) (a := ob) (by rw [e4]; exact q5) q5' (argsL := [(.int ua)]) (rest := [(.ref ob)]) (lenOf own_pd__I_I rfl) rfl (by show 2 * 0 + _ ≤ _; exact Nat.le_of_eq rfl) (hb hby d7_18) (fun _ _ => ⟨rfl, e4, (by decide : 0 + 0 ≤ _), (by decide : 0 + 0 ≤ _)⟩)
  dsimp only [Pt.U, Pt.locs, Pt.cells, Pt.slots] at X5 l5 y5 z5 st5 hQ5
  subst l5 y5 z5
  obtain ⟨rfl, N5q, e5⟩ := hQ5
  have N5 := Fr.app N3 N5q
  refine own_W.steps st5 ?_
  show own_W p e (FrameEnd s) below ({ frames := 1, cells := 0, slots := 0, locals := 14 } : Room).cells ({ frames := 1, cells := 0, slots := 0, locals := 14 } : Room).slots (Q7 Z ob us ub ur ua h0 n0) T5 (mkF m 21 #[.val (.ref ob)] [(.int (own_fol ub ua)), (.ref ob)])
  obtain ⟨T6, h6, X6, e6, W6, st6⟩ := putF X5 hx hZ hown (host := "") (Or.inl (hw _ (List.mem_of_getElem? (i := 34) rfl))) Via.refl e5 f3_F_ob_adding f3_E_ob (Or.inl (hw _ (List.mem_of_getElem? (i := 35) rfl))) (hw _ (List.mem_of_getElem? (i := 24) rfl)) (ty := .int) (by decide) rfl rfl (g := (mkF m 21 #[.val (.ref ob)] [(.int (own_fol ub ua)), (.ref ob)])) rfl rfl (hb hby d7_21)
  refine own_W.step st6 ?_
  have N6 := Fr.snoc X6 N5 g_ob
  have f6_E_ob : Exa Z h6 ob "com/example/flipside/flipside/tool/WriterBlocks$Steps" := f3_E_ob.wr W6
  have f6_F_ob_blockStart : Fld Z h6 ob "com/example/flipside/flipside/tool/WriterBlocks$Steps" "blockStart" "I" (.int us) := f3_F_ob_blockStart.other W6 (Or.inr (slot_ne (Or.inr (hw _ (List.mem_of_getElem? (i := 31) rfl))) (Or.inl (hw _ (List.mem_of_getElem? (i := 35) rfl))) (by decide) (t := .int) (t' := .int) (by decide) (by decide)))
  have f6_F_ob_blockLength : Fld Z h6 ob "com/example/flipside/flipside/tool/WriterBlocks$Steps" "blockLength" "I" (.int ub) := f3_F_ob_blockLength.other W6 (Or.inr (slot_ne (Or.inr (hw _ (List.mem_of_getElem? (i := 33) rfl))) (Or.inl (hw _ (List.mem_of_getElem? (i := 35) rfl))) (by decide) (t := .int) (t' := .int) (by decide) (by decide)))
  have f6_F_ob_removing : Fld Z h6 ob "com/example/flipside/flipside/tool/WriterBlocks$Steps" "removing" "I" (.int (own_fol ub ur)) := fw3.other W6 (Or.inr (slot_ne (Or.inl (hw _ (List.mem_of_getElem? (i := 43) rfl))) (Or.inl (hw _ (List.mem_of_getElem? (i := 35) rfl))) (by decide) (t := .int) (t' := .int) (by decide) (by decide)))
  have f6_K : Keep h0 h6 [ob] := f3_K.wr W6 (Or.inl (by simp))
  have fw6 : Fld Z h6 ob "com/example/flipside/flipside/tool/WriterBlocks$Steps" "adding" "I" (.int (own_fol ub ua)) := f3_F_ob_adding.same W6
  have z6 : n0 ≤ h6.size := by rw [W6.size]; exact z3
  show own_W p e (FrameEnd s) below ({ frames := 1, cells := 0, slots := 0, locals := 14 } : Room).cells ({ frames := 1, cells := 0, slots := 0, locals := 14 } : Room).slots (Q7 Z ob us ub ur ua h0 n0) T6 (mkF m 24 #[.val (.ref ob)] [])
  refine own_retV X6 hx hlk hret (hb hby d7_24) (by decide) (by decide) ?_
  show Q7 Z ob us ub ur ua h0 n0 none T6.heap _
  rw [e6]
  exact ⟨rfl, N6, f6_K, f6_E_ob, f6_F_ob_blockStart, f6_F_ob_blockLength, f6_F_ob_removing, fw6⟩
theorem own_pd__II_V : parseMethodDescriptor "(II)V" = some ⟨[.int, .int], none⟩ := by decide +kernel
theorem own_pd__I_Lcom_example_flipside_flipside_tool_WriterBlocks_Steps_ : parseMethodDescriptor "(I)Lcom/example/flipside/flipside/tool/WriterBlocks$Steps;" = some ⟨[.int], some (.object "com/example/flipside/flipside/tool/WriterBlocks$Steps")⟩ := by decide +kernel
theorem own_pd___I : parseMethodDescriptor "()I" = some ⟨[], some .int⟩ := by decide +kernel
theorem own_pd___V : parseMethodDescriptor "()V" = some ⟨[], none⟩ := by decide +kernel
theorem own_pd__II_I : parseMethodDescriptor "(II)I" = some ⟨[.int, .int], some .int⟩ := by decide +kernel
theorem own_pn_com_example_flipside_flipside_tool_WriterBlocksStepsPinLaw : plainName "com/example/flipside/flipside/tool/WriterBlocksStepsPinLaw" = true := by first | (simp [plainName, overriddenIn]; done) | decide +kernel
theorem ef_0 (m : MethodId) (pa : Int32) (pb : Int32) (pr : Int32) (pf : Int32) : entryFrame m #[(.int pa), (.int pb), (.int pr), (.int pf)] maxLocals = mkF m 0 #[.val (.int pa), .val (.int pb), .val (.int pr), .val (.int pf), .unset, .unset, .unset, .unset, .unset, .unset, .unset, .unset, .unset, .unset, .unset, .unset, .unset] [] := by first | (simp [entryFrame, mkF, argsToLocals, Value.category, maxLocals]; done) | rfl
def Q0 (Z : State) (pa : Int32) (pb : Int32) (pr : Int32) (pf : Int32)  (h0 : Heap) (n0 : Nat) (v : Option Value) (h : Heap) (L : List Loc) : Prop := v = some (.int 1) ∧ Fr n0 L
set_option maxRecDepth 65536 in
set_option maxHeartbeats 40000000 in
theorem rm0 (l : Launch) (Z : State) (a0 : Array Value) (hw : ∀ d ∈ tables_1, d.before a0 Z = true) (ws : List Jvm.Cond) (pa : Int32) (pb : Int32) (pr : Int32) (pf : Int32)  (h0 : Heap) (n0 : Nat) (Z0 : n0 ≤ h0.size)  :
    MetFree l x (head1 (Jvm.Cond.code x code maxLocals ret :: ws) room_1) (fun avs U => avs = #[(.int pa), (.int pb), (.int pr), (.int pf)] ∧ Z.Warmed39 U.vm ∧ U.heap = h0) (fun _ _ _ _ _ => True) (fun _ U o U' => ∃ v L, o = .returned v ∧ Q0 Z pa pb pr pf h0 n0 v U'.heap L ∧ FrameEnd U o U' L room_1.cells room_1.slots) := by
  refine MetFree.of_bodySF (plainFor_of_name own_pn_com_example_flipside_flipside_tool_WriterBlocksStepsPinLaw) hisR ?_
  intro p e s m args below meth c s₁ Bd hml0 hP hK
  obtain ⟨rfl, hZ, hh⟩ := hP
  have hx := Bd.exec
  have hby := Bd.bytes
  have hml : c.maxLocals = 17 := hml0
  have hown : s.vm.findClass "com/example/flipside/flipside/tool/WriterBlocksStepsPinLaw" = some m.cls := findClass_of_methodNamed Bd.named
  have hnm := (name_of_methodNamed Bd.named Bd.method).1
  have hlk := Bd.notSynchronized
  have hret := Bd.returns
  have X0 : Stand p l e room_1 s m #[(.int pa), (.int pb), (.int pr), (.int pf)] below meth c s₁ [] 0 0 := Stand.of_body Bd
  have e0 : s₁.heap = h0 := by rw [← hh, Bd.state]; rfl
  have N0 := Fr.nil n0
  show own_W p e (FrameEnd s) below room_1.cells room_1.slots (Q0 Z pa pb pr pf h0 n0) s₁ (entryFrame m #[(.int pa), (.int pb), (.int pr), (.int pf)] maxLocals)
  rw [ef_0]
  refine own_ldcInt X0 hx hown (mvT hZ (hw _ (List.mem_of_getElem? (i := 0) rfl))) (hb hby at_0) (rfl : 0 + 2 = 2) ?_
  refine own_istore X0 hx (hb hby at_2) (l' := #[.val (.int pa), .val (.int pb), .val (.int pr), .val (.int pf), .val (.int (536870911 : Int32)), .unset, .unset, .unset, .unset, .unset, .unset, .unset, .unset, .unset, .unset, .unset, .unset]) rfl (rfl : 2 + 2 = 4) ?_
  refine own_iloadN X0 hx (hb hby at_4) (v := pf) rfl (rfl : 4 + 1 = 5) ?_
  refine own_iconst X0 hx (hb hby at_5) (1 : Int32) (by first | rfl | decide) (rfl : 5 + 1 = 6) ?_
  refine own_iand X0 hx (hb hby at_6) (rfl : 6 + 1 = 7) ?_
  have J28 : ∀ (ww : Int32), ∀ (bww : 1 ≤ ww.toInt ∧ ww.toInt ≤ 536870911), own_W p e (FrameEnd s) below room_1.cells room_1.slots (Q0 Z pa pb pr pf h0 n0) s₁ (mkF m 28 #[.val (.int pa), .val (.int pb), .val (.int pr), .val (.int pf), .val (.int (536870911 : Int32)), .unset, .unset, .unset, .unset, .unset, .unset, .unset, .unset, .unset, .unset, .unset, .unset] [(.int ww)]) := by
    intro ww bww
    refine own_istore X0 hx (hb hby at_28) (l' := #[.val (.int pa), .val (.int pb), .val (.int pr), .val (.int pf), .val (.int (536870911 : Int32)), .val (.int ww), .unset, .unset, .unset, .unset, .unset, .unset, .unset, .unset, .unset, .unset, .unset]) rfl (rfl : 28 + 2 = 30) ?_
    refine own_iload X0 hx (hb hby at_30) (v := (536870911 : Int32)) rfl (rfl : 30 + 2 = 32) ?_
    refine own_iload X0 hx (hb hby at_32) (v := ww) rfl (rfl : 32 + 2 = 34) ?_
    refine own_idiv X0 hx (hb hby at_34) (own_nz bww.1) (rfl : 34 + 1 = 35) ?_
    refine own_istore X0 hx (hb hby at_35) (l' := #[.val (.int pa), .val (.int pb), .val (.int pr), .val (.int pf), .val (.int (536870911 : Int32)), .val (.int ww), .val (.int ((536870911 : Int32) / ww)), .unset, .unset, .unset, .unset, .unset, .unset, .unset, .unset, .unset, .unset]) rfl (rfl : 35 + 2 = 37) ?_
    obtain ⟨mm, hmm⟩ : ∃ z : Int32, z = ((536870911 : Int32) / ww) := ⟨_, rfl⟩
    rw [← hmm]
    show own_W p e (FrameEnd s) below room_1.cells room_1.slots (Q0 Z pa pb pr pf h0 n0) s₁ (mkF m 37 #[.val (.int pa), .val (.int pb), .val (.int pr), .val (.int pf), .val (.int (536870911 : Int32)), .val (.int ww), .val (.int mm), .unset, .unset, .unset, .unset, .unset, .unset, .unset, .unset, .unset, .unset] [])
    have bmm := own_mu ww bww
    rw [← hmm] at bmm
    refine own_iloadN X0 hx (hb hby at_37) (v := pf) rfl (rfl : 37 + 1 = 38) ?_
    refine own_iconst X0 hx (hb hby at_38) (2 : Int32) (by first | rfl | decide) (rfl : 38 + 1 = 39) ?_
    refine own_iand X0 hx (hb hby at_39) (rfl : 39 + 1 = 40) ?_
    have J68 : ∀ (kk : Int32) (TJ68 : State) (hJ68 : Heap) (LJ68 : List Loc), ∀ (XJ68 : Stand p l e room_1 s m #[(.int pa), (.int pb), (.int pr), (.int pf)] below meth c TJ68 LJ68 0 0), ∀ (eJ68 : TJ68.heap = hJ68), ∀ (NJ68 : Fr n0 LJ68), ∀ (zJ68 : n0 ≤ hJ68.size), ∀ (bkk : 1 ≤ kk.toInt ∧ kk.toInt ≤ mm.toInt), own_W p e (FrameEnd s) below room_1.cells room_1.slots (Q0 Z pa pb pr pf h0 n0) TJ68 (mkF m 68 #[.val (.int pa), .val (.int pb), .val (.int pr), .val (.int pf), .val (.int (536870911 : Int32)), .val (.int ww), .val (.int mm), .unset, .unset, .unset, .unset, .unset, .unset, .unset, .unset, .unset, .unset] [(.int kk)]) := by
      intro kk TJ68 hJ68 LJ68 XJ68 eJ68 NJ68 zJ68 bkk
      refine own_istore XJ68 hx (hb hby at_68) (l' := #[.val (.int pa), .val (.int pb), .val (.int pr), .val (.int pf), .val (.int (536870911 : Int32)), .val (.int ww), .val (.int mm), .val (.int kk), .unset, .unset, .unset, .unset, .unset, .unset, .unset, .unset, .unset]) rfl (rfl : 68 + 2 = 70) ?_
      refine own_iloadN XJ68 hx (hb hby at_70) (v := pr) rfl (rfl : 70 + 1 = 71) ?_
      refine own_ldcInt XJ68 hx hown (mvT hZ (hw _ (List.mem_of_getElem? (i := 1) rfl))) (hb hby at_71) (rfl : 71 + 2 = 73) ?_
      refine own_iand XJ68 hx (hb hby at_73) (rfl : 73 + 1 = 74) ?_
      refine own_iload XJ68 hx (hb hby at_74) (v := ww) rfl (rfl : 74 + 2 = 76) ?_
      refine own_irem XJ68 hx (hb hby at_76) (own_nz bww.1) (rfl : 76 + 1 = 77) ?_
      refine own_istore XJ68 hx (hb hby at_77) (l' := #[.val (.int pa), .val (.int pb), .val (.int pr), .val (.int pf), .val (.int (536870911 : Int32)), .val (.int ww), .val (.int mm), .val (.int kk), .val (.int ((pr &&& (2147483647 : Int32)) % ww)), .unset, .unset, .unset, .unset, .unset, .unset, .unset, .unset]) rfl (rfl : 77 + 2 = 79) ?_
      obtain ⟨wt, hwt⟩ : ∃ z : Int32, z = ((pr &&& (2147483647 : Int32)) % ww) := ⟨_, rfl⟩
      rw [← hwt]
      show own_W p e (FrameEnd s) below room_1.cells room_1.slots (Q0 Z pa pb pr pf h0 n0) TJ68 (mkF m 79 #[.val (.int pa), .val (.int pb), .val (.int pr), .val (.int pf), .val (.int (536870911 : Int32)), .val (.int ww), .val (.int mm), .val (.int kk), .val (.int wt), .unset, .unset, .unset, .unset, .unset, .unset, .unset, .unset] [])
      have bwt := own_rem pr ww bww.1
      rw [← hwt] at bwt
      have bB := own_mkB ww mm kk wt bww bmm bkk bwt
      have b4 := own_4k bB
      have hN : own_B ww kk wt := bB
      obtain ⟨q1, q2, q3, q4, q5, q6, q7⟩ := bB
      have t1 : (1 : Int32).toInt = 1 := by decide
      have t2 : (536870911 : Int32).toInt = 536870911 := by decide
      have l1 : 1 * 1 ≤ ww.toInt * kk.toInt := Int.mul_le_mul q1 q2 (by omega) (by omega)
      have y1 : ¬ (ww * kk < (1 : Int32)) := by rw [Int32.lt_iff_toInt_lt]; omega
      have y2 : ¬ ((536870911 : Int32) < ww * kk) := by rw [Int32.lt_iff_toInt_lt]; omega
      have y3 : ¬ (ww < (1 : Int32)) := by rw [Int32.lt_iff_toInt_lt]; omega
      obtain ⟨T1, h1, X1, e1, E1, A1, D1, -, st1⟩ := newO XJ68 hx hZ hown (hw _ (List.mem_of_getElem? (i := 2) rfl)) (hw _ (List.mem_of_getElem? (i := 3) rfl)) (hw _ (List.mem_of_getElem? (i := 4) rfl)) eJ68 (g := (mkF m 79 #[.val (.int pa), .val (.int pb), .val (.int pr), .val (.int pf), .val (.int (536870911 : Int32)), .val (.int ww), .val (.int mm), .val (.int kk), .val (.int wt), .unset, .unset, .unset, .unset, .unset, .unset, .unset, .unset] [])) rfl (hb hby at_79) (by decide) (by decide)
      obtain ⟨b1, g1⟩ : ∃ z, z = hJ68.size := ⟨_, rfl⟩
      rw [← g1] at A1 D1 st1
      refine own_W.step st1 ?_
      have g_b1 : n0 ≤ b1 := Nat.le_trans zJ68 (Nat.le_of_eq g1.symm)
      have z1 : n0 ≤ h1.size := Nat.le_trans zJ68 E1.1
      have F1_writers : Fld Z h1 b1 "com/example/flipside/flipside/tool/WriterBlocks" "writers" "I" (.int (0 : Int32)) := D1 (Or.inr (hw _ (List.mem_of_getElem? (i := 13) rfl))) (ty := .int) (by decide)
      have F1_keysPerWriter : Fld Z h1 b1 "com/example/flipside/flipside/tool/WriterBlocks" "keysPerWriter" "I" (.int (0 : Int32)) := D1 (Or.inr (hw _ (List.mem_of_getElem? (i := 15) rfl))) (ty := .int) (by decide)
      have F1_blockLength : Fld Z h1 b1 "com/example/flipside/flipside/tool/WriterBlocks" "blockLength" "I" (.int (0 : Int32)) := D1 (Or.inr (hw _ (List.mem_of_getElem? (i := 17) rfl))) (ty := .int) (by decide)
      show own_W p e (FrameEnd s) below room_1.cells room_1.slots (Q0 Z pa pb pr pf h0 n0) T1 (mkF m 82 #[.val (.int pa), .val (.int pb), .val (.int pr), .val (.int pf), .val (.int (536870911 : Int32)), .val (.int ww), .val (.int mm), .val (.int kk), .val (.int wt), .unset, .unset, .unset, .unset, .unset, .unset, .unset, .unset] [(.ref b1)])
      refine own_dup X1 hx (hb hby at_82) rfl (rfl : 82 + 1 = 83) ?_
      refine own_iload X1 hx (hb hby at_83) (v := ww) rfl (rfl : 83 + 2 = 85) ?_
      refine own_iload X1 hx (hb hby at_85) (v := kk) rfl (rfl : 85 + 2 = 87) ?_
      refine own_imul X1 hx (hb hby at_87) (rfl : 87 + 1 = 88) ?_
      refine own_iload X1 hx (hb hby at_88) (v := ww) rfl (rfl : 88 + 2 = 90) ?_
      obtain ⟨_, _, ⟨T2, L2, k2, n2⟩, -, X2, ⟨Lc2, hQ2, l2, y2, z2⟩, st2⟩ := X1.specialBack hx (y := (⟨"com/example/flipside/flipside/tool/WriterBlocks", "<init>", "(II)V"⟩ : MethodName)) rfl hown (mvT hZ (hw _ (List.mem_of_getElem? (i := 5) rfl))) (mvT hZ (hw _ (List.mem_of_getElem? (i := 6) rfl))) (mvT hZ (hw _ (List.mem_of_getElem? (i := 7) rfl))) (by decide) (backOf (W := 1) (rm1 l Z a0 hw [] b1 (ww * kk) ww kk h1 n0 z1 A1 F1_writers F1_keysPerWriter F1_blockLength g_b1 (y1) (y2) (y3) (own_nz q1) (own_mod hN) (own_div hN)) hZ (hw _ (List.mem_of_getElem? (i := 7) rfl)) (hw _ (List.mem_of_getElem? (i := 4) rfl)) (by decide) (by decide)) (g := (mkF m 90 #[.val (.int pa), .val (.int pb), .val (.int pr), .val (.int pf), .val (.int (536870911 : Int32)), .val (.int ww), .val (.int mm), .val (.int kk), .val (.int wt), .unset, .unset, .unset, .unset, .unset, .unset, .unset, .unset] [(.int ww), (.int (ww * kk)), (.ref b1), (.ref b1)])) rfl (by rw [hml]; rfl) (Steps.refl _) (a := b1) (argsL := [(.int (ww * kk)), (.int ww)]) (rest := [(.ref b1)]) (lenOf own_pd__II_V rfl) rfl (by show 2 * 0 + _ ≤ _; exact Nat.le_of_eq rfl) (hb hby at_90) (fun _ _ => ⟨rfl, e1, (by decide : 1 + 0 ≤ _), (by decide : 3 + 0 ≤ _)⟩)
      dsimp only [Pt.U, Pt.locs, Pt.cells, Pt.slots] at X2 l2 y2 z2 st2 hQ2
      subst l2 y2 z2
      obtain ⟨rfl, N2q, K2, fq2_0, fq2_1, fq2_2, fq2_3⟩ := hQ2
      have N2 := Fr.app NJ68 N2q
      have f2_E_b1 : Exa Z T2.heap b1 "com/example/flipside/flipside/tool/WriterBlocks" := A1.keep K2
      have z2c : n0 ≤ T2.heap.size := Nat.le_trans z1 K2.1
      refine own_W.steps st2 ?_
      show own_W p e (FrameEnd s) below room_1.cells room_1.slots (Q0 Z pa pb pr pf h0 n0) T2 (mkF m 93 #[.val (.int pa), .val (.int pb), .val (.int pr), .val (.int pf), .val (.int (536870911 : Int32)), .val (.int ww), .val (.int mm), .val (.int kk), .val (.int wt), .unset, .unset, .unset, .unset, .unset, .unset, .unset, .unset] [(.ref b1)])
      refine own_astore X2 hx (hb hby at_93) (l' := #[.val (.int pa), .val (.int pb), .val (.int pr), .val (.int pf), .val (.int (536870911 : Int32)), .val (.int ww), .val (.int mm), .val (.int kk), .val (.int wt), .val (.ref b1), .unset, .unset, .unset, .unset, .unset, .unset, .unset]) rfl rfl (rfl : 93 + 2 = 95) ?_
      refine own_aload X2 hx (hb hby at_95) (v := (.ref b1)) rfl rfl (rfl : 95 + 2 = 97) ?_
      refine own_iload X2 hx (hb hby at_97) (v := wt) rfl (rfl : 97 + 2 = 99) ?_
      obtain ⟨cq3, kq3, q3a, q3b, q3c⟩ := isOf hZ rfl fq2_0
      obtain ⟨_, _, ⟨T3, L3, k3, n3⟩, -, X3, ⟨Lc3, hQ3, l3, y3, z3⟩, st3⟩ := X2.virtualBack hx (y := (⟨"com/example/flipside/flipside/tool/WriterBlocks", "steps", "(I)Lcom/example/flipside/flipside/tool/WriterBlocks$Steps;"⟩ : MethodName)) (z := (⟨"com/example/flipside/flipside/tool/WriterBlocks", "steps", "(I)Lcom/example/flipside/flipside/tool/WriterBlocks$Steps;"⟩ : MethodName)) hown (mvT hZ (hw _ (List.mem_of_getElem? (i := 18) rfl))) (mvT hZ (hw _ (List.mem_of_getElem? (i := 19) rfl))) (notFace_of_selects (args := #[]) (mvT hZ (hw _ (List.mem_of_getElem? (i := 21) rfl)))) (mvT hZ (hw _ (List.mem_of_getElem? (i := 21) rfl))) (mvT hZ (hw _ (List.mem_of_getElem? (i := 20) rfl))) (by decide) (backOf (W := 0) (rm3 l Z a0 hw [] b1 wt ((4 : Int32) * kk) kk T2.heap n0 z2c fq2_3 fq2_2) hZ (hw _ (List.mem_of_getElem? (i := 22) rfl)) (hw _ (List.mem_of_getElem? (i := 4) rfl)) (by decide) (by decide)) q3a q3c (g := (mkF m 99 #[.val (.int pa), .val (.int pb), .val (.int pr), .val (.int pf), .val (.int (536870911 : Int32)), .val (.int ww), .val (.int mm), .val (.int kk), .val (.int wt), .val (.ref b1), .unset, .unset, .unset, .unset, .unset, .unset, .unset] [(.int wt), (.ref b1)])) rfl (by rw [hml]; rfl) (Steps.refl _) (argsL := [(.int wt)]) (rest := []) (lenOf own_pd__I_Lcom_example_flipside_flipside_tool_WriterBlocks_Steps_ rfl) rfl (by show 2 * 0 + _ ≤ _; exact Nat.le_of_eq rfl) (hb hby at_99) (fun _ _ => ⟨rfl, rfl, (by decide : 1 + 1 ≤ _), (by decide : 3 + 4 ≤ _)⟩)
      dsimp only [Pt.U, Pt.locs, Pt.cells, Pt.slots] at X3 l3 y3 z3 st3 hQ3
      subst l3 y3 z3
      obtain ⟨bs3, rfl, N3q, K3, sz3_bs, fq3_0, fq3_1, fq3_2, fq3_3, fq3_4⟩ := hQ3
      have N3 := Fr.app N2 N3q
      have ne_b1_bs3 : b1 ≠ bs3 := Nat.ne_of_lt (Nat.lt_of_lt_of_le fq2_0.lt sz3_bs)
      have g_bs3 : n0 ≤ bs3 := Nat.le_trans z2c sz3_bs
      have f3_E_b1 : Exa Z T3.heap b1 "com/example/flipside/flipside/tool/WriterBlocks" := fq2_0.keep K3
      have f3_F_b1_writers : Fld Z T3.heap b1 "com/example/flipside/flipside/tool/WriterBlocks" "writers" "I" (.int ww) := fq2_1.keep K3 nin0
      have f3_F_b1_keysPerWriter : Fld Z T3.heap b1 "com/example/flipside/flipside/tool/WriterBlocks" "keysPerWriter" "I" (.int kk) := fq2_2.keep K3 nin0
      have f3_F_b1_blockLength : Fld Z T3.heap b1 "com/example/flipside/flipside/tool/WriterBlocks" "blockLength" "I" (.int ((4 : Int32) * kk)) := fq2_3.keep K3 nin0
      have z3c : n0 ≤ T3.heap.size := Nat.le_trans z2c K3.1
      refine own_W.steps st3 ?_
      show own_W p e (FrameEnd s) below room_1.cells room_1.slots (Q0 Z pa pb pr pf h0 n0) T3 (mkF m 102 #[.val (.int pa), .val (.int pb), .val (.int pr), .val (.int pf), .val (.int (536870911 : Int32)), .val (.int ww), .val (.int mm), .val (.int kk), .val (.int wt), .val (.ref b1), .unset, .unset, .unset, .unset, .unset, .unset, .unset] [(.ref bs3)])
      refine own_astore X3 hx (hb hby at_102) (l' := #[.val (.int pa), .val (.int pb), .val (.int pr), .val (.int pf), .val (.int (536870911 : Int32)), .val (.int ww), .val (.int mm), .val (.int kk), .val (.int wt), .val (.ref b1), .val (.ref bs3), .unset, .unset, .unset, .unset, .unset, .unset]) rfl rfl (rfl : 102 + 2 = 104) ?_
      refine own_ldc2Long X3 hx hown (mvT hZ (hw _ (List.mem_of_getElem? (i := 36) rfl))) (hb hby at_104) (rfl : 104 + 3 = 107) ?_
      refine own_iload X3 hx (hb hby at_107) (v := kk) rfl (rfl : 107 + 2 = 109) ?_
      refine own_i2l X3 hx (hb hby at_109) (rfl : 109 + 1 = 110) ?_
      refine own_lmul X3 hx (hb hby at_110) (rfl : 110 + 1 = 111) ?_
      refine own_lstore X3 hx (hb hby at_111) (l' := #[.val (.int pa), .val (.int pb), .val (.int pr), .val (.int pf), .val (.int (536870911 : Int32)), .val (.int ww), .val (.int mm), .val (.int kk), .val (.int wt), .val (.ref b1), .val (.ref bs3), .val (.long ((4 : Int64) * (kk.toInt64))), .second, .unset, .unset, .unset, .unset]) rfl (rfl : 111 + 2 = 113) ?_
      obtain ⟨bb, hbb⟩ : ∃ z : Int64, z = ((4 : Int64) * (kk.toInt64)) := ⟨_, rfl⟩
      rw [← hbb]
      show own_W p e (FrameEnd s) below room_1.cells room_1.slots (Q0 Z pa pb pr pf h0 n0) T3 (mkF m 113 #[.val (.int pa), .val (.int pb), .val (.int pr), .val (.int pf), .val (.int (536870911 : Int32)), .val (.int ww), .val (.int mm), .val (.int kk), .val (.int wt), .val (.ref b1), .val (.ref bs3), .val (.long bb), .second, .unset, .unset, .unset, .unset] [])
      refine own_iload X3 hx (hb hby at_113) (v := wt) rfl (rfl : 113 + 2 = 115) ?_
      refine own_i2l X3 hx (hb hby at_115) (rfl : 115 + 1 = 116) ?_
      refine own_lload X3 hx (hb hby at_116) (v := bb) rfl (rfl : 116 + 2 = 118) ?_
      refine own_lmul X3 hx (hb hby at_118) (rfl : 118 + 1 = 119) ?_
      refine own_lstore X3 hx (hb hby at_119) (l' := #[.val (.int pa), .val (.int pb), .val (.int pr), .val (.int pf), .val (.int (536870911 : Int32)), .val (.int ww), .val (.int mm), .val (.int kk), .val (.int wt), .val (.ref b1), .val (.ref bs3), .val (.long bb), .second, .val (.long ((wt.toInt64) * bb)), .second, .unset, .unset]) rfl (rfl : 119 + 2 = 121) ?_
      obtain ⟨stt, hstt⟩ : ∃ z : Int64, z = ((wt.toInt64) * bb) := ⟨_, rfl⟩
      rw [← hstt]
      show own_W p e (FrameEnd s) below room_1.cells room_1.slots (Q0 Z pa pb pr pf h0 n0) T3 (mkF m 121 #[.val (.int pa), .val (.int pb), .val (.int pr), .val (.int pf), .val (.int (536870911 : Int32)), .val (.int ww), .val (.int mm), .val (.int kk), .val (.int wt), .val (.ref b1), .val (.ref bs3), .val (.long bb), .second, .val (.long stt), .second, .unset, .unset] [])
      refine own_aload X3 hx (hb hby at_121) (v := (.ref bs3)) rfl rfl (rfl : 121 + 2 = 123) ?_
      obtain ⟨cq4, kq4, q4a, q4b, q4c⟩ := isOf hZ rfl fq3_0
      obtain ⟨_, _, ⟨T4, L4, k4, n4⟩, -, X4, ⟨Lc4, hQ4, l4, y4, z4⟩, st4⟩ := X3.virtualBack hx (y := (⟨"com/example/flipside/flipside/tool/WriterBlocks$Steps", "removed", "()I"⟩ : MethodName)) (z := (⟨"com/example/flipside/flipside/tool/WriterBlocks$Steps", "removed", "()I"⟩ : MethodName)) hown (mvT hZ (hw _ (List.mem_of_getElem? (i := 37) rfl))) (mvT hZ (hw _ (List.mem_of_getElem? (i := 38) rfl))) (notFace_of_selects (args := #[]) (mvT hZ (hw _ (List.mem_of_getElem? (i := 40) rfl)))) (mvT hZ (hw _ (List.mem_of_getElem? (i := 40) rfl))) (mvT hZ (hw _ (List.mem_of_getElem? (i := 39) rfl))) (by decide) (backOf (W := 0) (rm5 l Z a0 hw [] bs3 (wt * ((4 : Int32) * kk)) (0 : Int32) T3.heap n0 z3c fq3_1 fq3_3) hZ (hw _ (List.mem_of_getElem? (i := 41) rfl)) (hw _ (List.mem_of_getElem? (i := 25) rfl)) (by decide) (by decide)) q4a q4c (g := (mkF m 123 #[.val (.int pa), .val (.int pb), .val (.int pr), .val (.int pf), .val (.int (536870911 : Int32)), .val (.int ww), .val (.int mm), .val (.int kk), .val (.int wt), .val (.ref b1), .val (.ref bs3), .val (.long bb), .second, .val (.long stt), .second, .unset, .unset] [(.ref bs3)])) rfl (by rw [hml]; rfl) (Steps.refl _) (argsL := []) (rest := []) (lenOf own_pd___I rfl) rfl (by show 2 * 0 + _ ≤ _; exact Nat.le_of_eq rfl) (hb hby at_123) (fun _ _ => ⟨rfl, rfl, (by decide : 2 + 0 ≤ _), (by decide : 7 + 0 ≤ _)⟩)
      dsimp only [Pt.U, Pt.locs, Pt.cells, Pt.slots] at X4 l4 y4 z4 st4 hQ4
      subst l4 y4 z4
      obtain ⟨rfl, N4q, e4⟩ := hQ4
      have N4 := Fr.app N3 N4q
      refine own_W.steps st4 ?_
      show own_W p e (FrameEnd s) below room_1.cells room_1.slots (Q0 Z pa pb pr pf h0 n0) T4 (mkF m 126 #[.val (.int pa), .val (.int pb), .val (.int pr), .val (.int pf), .val (.int (536870911 : Int32)), .val (.int ww), .val (.int mm), .val (.int kk), .val (.int wt), .val (.ref b1), .val (.ref bs3), .val (.long bb), .second, .val (.long stt), .second, .unset, .unset] [(.int ((wt * ((4 : Int32) * kk)) + (0 : Int32)))])
      refine own_i2l X4 hx (hb hby at_126) (rfl : 126 + 1 = 127) ?_
      refine own_lload X4 hx (hb hby at_127) (v := stt) rfl (rfl : 127 + 2 = 129) ?_
      refine own_lcmp X4 hx (hb hby at_129) (rfl : 129 + 1 = 130) ?_
      have hc130 : (((wt * ((4 : Int32) * kk)) + (0 : Int32)).toInt64) = stt := by rw [hstt, hbb]; exact own_r0 hN
      refine own_ifNo X4 hx (hb hby at_130) (XT.ll_ne_f hc130) (rfl : 130 + 3 = 133) ?_
      refine own_aload X4 hx (hb hby at_133) (v := (.ref bs3)) rfl rfl (rfl : 133 + 2 = 135) ?_
      obtain ⟨cq5, kq5, q5a, q5b, q5c⟩ := isOf hZ e4 fq3_0
      obtain ⟨_, _, ⟨T5, L5, k5, n5⟩, -, X5, ⟨Lc5, hQ5, l5, y5, z5⟩, st5⟩ := X4.virtualBack hx (y := (⟨"com/example/flipside/flipside/tool/WriterBlocks$Steps", "added", "()I"⟩ : MethodName)) (z := (⟨"com/example/flipside/flipside/tool/WriterBlocks$Steps", "added", "()I"⟩ : MethodName)) hown (mvT hZ (hw _ (List.mem_of_getElem? (i := 44) rfl))) (mvT hZ (hw _ (List.mem_of_getElem? (i := 45) rfl))) (notFace_of_selects (args := #[]) (mvT hZ (hw _ (List.mem_of_getElem? (i := 47) rfl)))) (mvT hZ (hw _ (List.mem_of_getElem? (i := 47) rfl))) (mvT hZ (hw _ (List.mem_of_getElem? (i := 46) rfl))) (by decide) (backOf (W := 0) (rm6 l Z a0 hw [] bs3 (wt * ((4 : Int32) * kk)) kk T3.heap n0 z3c fq3_1 fq3_4) hZ (hw _ (List.mem_of_getElem? (i := 48) rfl)) (hw _ (List.mem_of_getElem? (i := 25) rfl)) (by decide) (by decide)) q5a q5c (g := (mkF m 135 #[.val (.int pa), .val (.int pb), .val (.int pr), .val (.int pf), .val (.int (536870911 : Int32)), .val (.int ww), .val (.int mm), .val (.int kk), .val (.int wt), .val (.ref b1), .val (.ref bs3), .val (.long bb), .second, .val (.long stt), .second, .unset, .unset] [(.ref bs3)])) rfl (by rw [hml]; rfl) (Steps.refl _) (argsL := []) (rest := []) (lenOf own_pd___I rfl) rfl (by show 2 * 0 + _ ≤ _; exact Nat.le_of_eq rfl) (hb hby at_135) (fun _ _ => ⟨rfl, e4, (by decide : 2 + 0 ≤ _), (by decide : 7 + 0 ≤ _)⟩)
      dsimp only [Pt.U, Pt.locs, Pt.cells, Pt.slots] at X5 l5 y5 z5 st5 hQ5
      subst l5 y5 z5
      obtain ⟨rfl, N5q, e5⟩ := hQ5
      have N5 := Fr.app N4 N5q
      refine own_W.steps st5 ?_
      show own_W p e (FrameEnd s) below room_1.cells room_1.slots (Q0 Z pa pb pr pf h0 n0) T5 (mkF m 138 #[.val (.int pa), .val (.int pb), .val (.int pr), .val (.int pf), .val (.int (536870911 : Int32)), .val (.int ww), .val (.int mm), .val (.int kk), .val (.int wt), .val (.ref b1), .val (.ref bs3), .val (.long bb), .second, .val (.long stt), .second, .unset, .unset] [(.int ((wt * ((4 : Int32) * kk)) + kk))])
      refine own_i2l X5 hx (hb hby at_138) (rfl : 138 + 1 = 139) ?_
      refine own_lload X5 hx (hb hby at_139) (v := stt) rfl (rfl : 139 + 2 = 141) ?_
      refine own_iload X5 hx (hb hby at_141) (v := kk) rfl (rfl : 141 + 2 = 143) ?_
      refine own_i2l X5 hx (hb hby at_143) (rfl : 143 + 1 = 144) ?_
      refine own_ladd X5 hx (hb hby at_144) (rfl : 144 + 1 = 145) ?_
      refine own_lcmp X5 hx (hb hby at_145) (rfl : 145 + 1 = 146) ?_
      have hc146 : (((wt * ((4 : Int32) * kk)) + kk).toInt64) = (stt + (kk.toInt64)) := by rw [hstt, hbb]; exact own_a0 hN
      refine own_ifNo X5 hx (hb hby at_146) (XT.ll_ne_f hc146) (rfl : 146 + 3 = 149) ?_
      refine own_iconst X5 hx (hb hby at_149) (1 : Int32) (by first | rfl | decide) (rfl : 149 + 1 = 150) ?_
      refine own_goto X5 hx (hb hby at_150) (pc' := 154) (by decide) (by decide) ?_
      refine own_istore X5 hx (hb hby at_154) (l' := #[.val (.int pa), .val (.int pb), .val (.int pr), .val (.int pf), .val (.int (536870911 : Int32)), .val (.int ww), .val (.int mm), .val (.int kk), .val (.int wt), .val (.ref b1), .val (.ref bs3), .val (.long bb), .second, .val (.long stt), .second, .val (.int (1 : Int32)), .unset]) rfl (rfl : 154 + 2 = 156) ?_
      refine own_aload X5 hx (hb hby at_156) (v := (.ref bs3)) rfl rfl (rfl : 156 + 2 = 158) ?_
      obtain ⟨cq6, kq6, q6a, q6b, q6c⟩ := isOf hZ e5 fq3_0
      obtain ⟨_, _, ⟨T6, L6, k6, n6⟩, -, X6, ⟨Lc6, hQ6, l6, y6, z6⟩, st6⟩ := X5.virtualBack hx (y := (⟨"com/example/flipside/flipside/tool/WriterBlocks$Steps", "next", "()V"⟩ : MethodName)) (z := (⟨"com/example/flipside/flipside/tool/WriterBlocks$Steps", "next", "()V"⟩ : MethodName)) hown (mvT hZ (hw _ (List.mem_of_getElem? (i := 49) rfl))) (mvT hZ (hw _ (List.mem_of_getElem? (i := 50) rfl))) (notFace_of_selects (args := #[]) (mvT hZ (hw _ (List.mem_of_getElem? (i := 52) rfl)))) (mvT hZ (hw _ (List.mem_of_getElem? (i := 52) rfl))) (mvT hZ (hw _ (List.mem_of_getElem? (i := 51) rfl))) (by decide) (backOf (W := 0) (rm7 l Z a0 hw [] bs3 (wt * ((4 : Int32) * kk)) ((4 : Int32) * kk) (0 : Int32) kk T3.heap n0 z3c fq3_0 fq3_1 fq3_2 fq3_3 fq3_4 g_bs3) hZ (hw _ (List.mem_of_getElem? (i := 53) rfl)) (hw _ (List.mem_of_getElem? (i := 25) rfl)) (by decide) (by decide)) q6a q6c (g := (mkF m 158 #[.val (.int pa), .val (.int pb), .val (.int pr), .val (.int pf), .val (.int (536870911 : Int32)), .val (.int ww), .val (.int mm), .val (.int kk), .val (.int wt), .val (.ref b1), .val (.ref bs3), .val (.long bb), .second, .val (.long stt), .second, .val (.int (1 : Int32)), .unset] [(.ref bs3)])) rfl (by rw [hml]; rfl) (Steps.refl _) (argsL := []) (rest := []) (lenOf own_pd___V rfl) rfl (by show 2 * 0 + _ ≤ _; exact Nat.le_of_eq rfl) (hb hby at_158) (fun _ _ => ⟨rfl, e5, (by decide : 2 + 0 ≤ _), (by decide : 7 + 0 ≤ _)⟩)
      dsimp only [Pt.U, Pt.locs, Pt.cells, Pt.slots] at X6 l6 y6 z6 st6 hQ6
      subst l6 y6 z6
      obtain ⟨rfl, N6q, K6, fq6_0, fq6_1, fq6_2, fq6_3, fq6_4⟩ := hQ6
      have N6 := Fr.app N5 N6q
      have f6_E_b1 : Exa Z T6.heap b1 "com/example/flipside/flipside/tool/WriterBlocks" := f3_E_b1.keep K6
      have f6_F_b1_writers : Fld Z T6.heap b1 "com/example/flipside/flipside/tool/WriterBlocks" "writers" "I" (.int ww) := f3_F_b1_writers.keep K6 (ninS ne_b1_bs3 nin0)
      have f6_F_b1_keysPerWriter : Fld Z T6.heap b1 "com/example/flipside/flipside/tool/WriterBlocks" "keysPerWriter" "I" (.int kk) := f3_F_b1_keysPerWriter.keep K6 (ninS ne_b1_bs3 nin0)
      have f6_F_b1_blockLength : Fld Z T6.heap b1 "com/example/flipside/flipside/tool/WriterBlocks" "blockLength" "I" (.int ((4 : Int32) * kk)) := f3_F_b1_blockLength.keep K6 (ninS ne_b1_bs3 nin0)
      have f6_E_bs3 : Exa Z T6.heap bs3 "com/example/flipside/flipside/tool/WriterBlocks$Steps" := fq3_0.keep K6
      have z6c : n0 ≤ T6.heap.size := Nat.le_trans z3c K6.1
      refine own_W.steps st6 ?_
      show own_W p e (FrameEnd s) below room_1.cells room_1.slots (Q0 Z pa pb pr pf h0 n0) T6 (mkF m 161 #[.val (.int pa), .val (.int pb), .val (.int pr), .val (.int pf), .val (.int (536870911 : Int32)), .val (.int ww), .val (.int mm), .val (.int kk), .val (.int wt), .val (.ref b1), .val (.ref bs3), .val (.long bb), .second, .val (.long stt), .second, .val (.int (1 : Int32)), .unset] [])
      refine own_aload X6 hx (hb hby at_161) (v := (.ref bs3)) rfl rfl (rfl : 161 + 2 = 163) ?_
      obtain ⟨cq7, kq7, q7a, q7b, q7c⟩ := isOf hZ rfl fq6_0
      obtain ⟨_, _, ⟨T7, L7, k7, n7⟩, -, X7, ⟨Lc7, hQ7, l7, y7, z7⟩, st7⟩ := X6.virtualBack hx (y := (⟨"com/example/flipside/flipside/tool/WriterBlocks$Steps", "next", "()V"⟩ : MethodName)) (z := (⟨"com/example/flipside/flipside/tool/WriterBlocks$Steps", "next", "()V"⟩ : MethodName)) hown (mvT hZ (hw _ (List.mem_of_getElem? (i := 49) rfl))) (mvT hZ (hw _ (List.mem_of_getElem? (i := 50) rfl))) (notFace_of_selects (args := #[]) (mvT hZ (hw _ (List.mem_of_getElem? (i := 52) rfl)))) (mvT hZ (hw _ (List.mem_of_getElem? (i := 52) rfl))) (mvT hZ (hw _ (List.mem_of_getElem? (i := 51) rfl))) (by decide) (backOf (W := 0) (rm7 l Z a0 hw [] bs3 (wt * ((4 : Int32) * kk)) ((4 : Int32) * kk) (own_fol ((4 : Int32) * kk) (0 : Int32)) (own_fol ((4 : Int32) * kk) kk) T6.heap n0 z6c fq6_0 fq6_1 fq6_2 fq6_3 fq6_4 g_bs3) hZ (hw _ (List.mem_of_getElem? (i := 53) rfl)) (hw _ (List.mem_of_getElem? (i := 25) rfl)) (by decide) (by decide)) q7a q7c (g := (mkF m 163 #[.val (.int pa), .val (.int pb), .val (.int pr), .val (.int pf), .val (.int (536870911 : Int32)), .val (.int ww), .val (.int mm), .val (.int kk), .val (.int wt), .val (.ref b1), .val (.ref bs3), .val (.long bb), .second, .val (.long stt), .second, .val (.int (1 : Int32)), .unset] [(.ref bs3)])) rfl (by rw [hml]; rfl) (Steps.refl _) (argsL := []) (rest := []) (lenOf own_pd___V rfl) rfl (by show 2 * 0 + _ ≤ _; exact Nat.le_of_eq rfl) (hb hby at_163) (fun _ _ => ⟨rfl, rfl, (by decide : 2 + 0 ≤ _), (by decide : 7 + 0 ≤ _)⟩)
      dsimp only [Pt.U, Pt.locs, Pt.cells, Pt.slots] at X7 l7 y7 z7 st7 hQ7
      subst l7 y7 z7
      obtain ⟨rfl, N7q, K7, fq7_0, fq7_1, fq7_2, fq7_3, fq7_4⟩ := hQ7
      have N7 := Fr.app N6 N7q
      have f7_E_b1 : Exa Z T7.heap b1 "com/example/flipside/flipside/tool/WriterBlocks" := f6_E_b1.keep K7
      have f7_F_b1_writers : Fld Z T7.heap b1 "com/example/flipside/flipside/tool/WriterBlocks" "writers" "I" (.int ww) := f6_F_b1_writers.keep K7 (ninS ne_b1_bs3 nin0)
      have f7_F_b1_keysPerWriter : Fld Z T7.heap b1 "com/example/flipside/flipside/tool/WriterBlocks" "keysPerWriter" "I" (.int kk) := f6_F_b1_keysPerWriter.keep K7 (ninS ne_b1_bs3 nin0)
      have f7_F_b1_blockLength : Fld Z T7.heap b1 "com/example/flipside/flipside/tool/WriterBlocks" "blockLength" "I" (.int ((4 : Int32) * kk)) := f6_F_b1_blockLength.keep K7 (ninS ne_b1_bs3 nin0)
      have f7_E_bs3 : Exa Z T7.heap bs3 "com/example/flipside/flipside/tool/WriterBlocks$Steps" := fq6_0.keep K7
      have z7c : n0 ≤ T7.heap.size := Nat.le_trans z6c K7.1
      refine own_W.steps st7 ?_
      show own_W p e (FrameEnd s) below room_1.cells room_1.slots (Q0 Z pa pb pr pf h0 n0) T7 (mkF m 166 #[.val (.int pa), .val (.int pb), .val (.int pr), .val (.int pf), .val (.int (536870911 : Int32)), .val (.int ww), .val (.int mm), .val (.int kk), .val (.int wt), .val (.ref b1), .val (.ref bs3), .val (.long bb), .second, .val (.long stt), .second, .val (.int (1 : Int32)), .unset] [])
      refine own_aload X7 hx (hb hby at_166) (v := (.ref bs3)) rfl rfl (rfl : 166 + 2 = 168) ?_
      obtain ⟨cq8, kq8, q8a, q8b, q8c⟩ := isOf hZ rfl fq7_0
      obtain ⟨_, _, ⟨T8, L8, k8, n8⟩, -, X8, ⟨Lc8, hQ8, l8, y8, z8⟩, st8⟩ := X7.virtualBack hx (y := (⟨"com/example/flipside/flipside/tool/WriterBlocks$Steps", "next", "()V"⟩ : MethodName)) (z := (⟨"com/example/flipside/flipside/tool/WriterBlocks$Steps", "next", "()V"⟩ : MethodName)) hown (mvT hZ (hw _ (List.mem_of_getElem? (i := 49) rfl))) (mvT hZ (hw _ (List.mem_of_getElem? (i := 50) rfl))) (notFace_of_selects (args := #[]) (mvT hZ (hw _ (List.mem_of_getElem? (i := 52) rfl)))) (mvT hZ (hw _ (List.mem_of_getElem? (i := 52) rfl))) (mvT hZ (hw _ (List.mem_of_getElem? (i := 51) rfl))) (by decide) (backOf (W := 0) (rm7 l Z a0 hw [] bs3 (wt * ((4 : Int32) * kk)) ((4 : Int32) * kk) (own_fol ((4 : Int32) * kk) (own_fol ((4 : Int32) * kk) (0 : Int32))) (own_fol ((4 : Int32) * kk) (own_fol ((4 : Int32) * kk) kk)) T7.heap n0 z7c fq7_0 fq7_1 fq7_2 fq7_3 fq7_4 g_bs3) hZ (hw _ (List.mem_of_getElem? (i := 53) rfl)) (hw _ (List.mem_of_getElem? (i := 25) rfl)) (by decide) (by decide)) q8a q8c (g := (mkF m 168 #[.val (.int pa), .val (.int pb), .val (.int pr), .val (.int pf), .val (.int (536870911 : Int32)), .val (.int ww), .val (.int mm), .val (.int kk), .val (.int wt), .val (.ref b1), .val (.ref bs3), .val (.long bb), .second, .val (.long stt), .second, .val (.int (1 : Int32)), .unset] [(.ref bs3)])) rfl (by rw [hml]; rfl) (Steps.refl _) (argsL := []) (rest := []) (lenOf own_pd___V rfl) rfl (by show 2 * 0 + _ ≤ _; exact Nat.le_of_eq rfl) (hb hby at_168) (fun _ _ => ⟨rfl, rfl, (by decide : 2 + 0 ≤ _), (by decide : 7 + 0 ≤ _)⟩)
      dsimp only [Pt.U, Pt.locs, Pt.cells, Pt.slots] at X8 l8 y8 z8 st8 hQ8
      subst l8 y8 z8
      obtain ⟨rfl, N8q, K8, fq8_0, fq8_1, fq8_2, fq8_3, fq8_4⟩ := hQ8
      have N8 := Fr.app N7 N8q
      have f8_E_b1 : Exa Z T8.heap b1 "com/example/flipside/flipside/tool/WriterBlocks" := f7_E_b1.keep K8
      have f8_F_b1_writers : Fld Z T8.heap b1 "com/example/flipside/flipside/tool/WriterBlocks" "writers" "I" (.int ww) := f7_F_b1_writers.keep K8 (ninS ne_b1_bs3 nin0)
      have f8_F_b1_keysPerWriter : Fld Z T8.heap b1 "com/example/flipside/flipside/tool/WriterBlocks" "keysPerWriter" "I" (.int kk) := f7_F_b1_keysPerWriter.keep K8 (ninS ne_b1_bs3 nin0)
      have f8_F_b1_blockLength : Fld Z T8.heap b1 "com/example/flipside/flipside/tool/WriterBlocks" "blockLength" "I" (.int ((4 : Int32) * kk)) := f7_F_b1_blockLength.keep K8 (ninS ne_b1_bs3 nin0)
      have f8_E_bs3 : Exa Z T8.heap bs3 "com/example/flipside/flipside/tool/WriterBlocks$Steps" := fq7_0.keep K8
      have z8c : n0 ≤ T8.heap.size := Nat.le_trans z7c K8.1
      refine own_W.steps st8 ?_
      show own_W p e (FrameEnd s) below room_1.cells room_1.slots (Q0 Z pa pb pr pf h0 n0) T8 (mkF m 171 #[.val (.int pa), .val (.int pb), .val (.int pr), .val (.int pf), .val (.int (536870911 : Int32)), .val (.int ww), .val (.int mm), .val (.int kk), .val (.int wt), .val (.ref b1), .val (.ref bs3), .val (.long bb), .second, .val (.long stt), .second, .val (.int (1 : Int32)), .unset] [])
      refine own_aload X8 hx (hb hby at_171) (v := (.ref bs3)) rfl rfl (rfl : 171 + 2 = 173) ?_
      obtain ⟨cq9, kq9, q9a, q9b, q9c⟩ := isOf hZ rfl fq8_0
      obtain ⟨_, _, ⟨T9, L9, k9, n9⟩, -, X9, ⟨Lc9, hQ9, l9, y9, z9⟩, st9⟩ := X8.virtualBack hx (y := (⟨"com/example/flipside/flipside/tool/WriterBlocks$Steps", "next", "()V"⟩ : MethodName)) (z := (⟨"com/example/flipside/flipside/tool/WriterBlocks$Steps", "next", "()V"⟩ : MethodName)) hown (mvT hZ (hw _ (List.mem_of_getElem? (i := 49) rfl))) (mvT hZ (hw _ (List.mem_of_getElem? (i := 50) rfl))) (notFace_of_selects (args := #[]) (mvT hZ (hw _ (List.mem_of_getElem? (i := 52) rfl)))) (mvT hZ (hw _ (List.mem_of_getElem? (i := 52) rfl))) (mvT hZ (hw _ (List.mem_of_getElem? (i := 51) rfl))) (by decide) (backOf (W := 0) (rm7 l Z a0 hw [] bs3 (wt * ((4 : Int32) * kk)) ((4 : Int32) * kk) (own_fol ((4 : Int32) * kk) (own_fol ((4 : Int32) * kk) (own_fol ((4 : Int32) * kk) (0 : Int32)))) (own_fol ((4 : Int32) * kk) (own_fol ((4 : Int32) * kk) (own_fol ((4 : Int32) * kk) kk))) T8.heap n0 z8c fq8_0 fq8_1 fq8_2 fq8_3 fq8_4 g_bs3) hZ (hw _ (List.mem_of_getElem? (i := 53) rfl)) (hw _ (List.mem_of_getElem? (i := 25) rfl)) (by decide) (by decide)) q9a q9c (g := (mkF m 173 #[.val (.int pa), .val (.int pb), .val (.int pr), .val (.int pf), .val (.int (536870911 : Int32)), .val (.int ww), .val (.int mm), .val (.int kk), .val (.int wt), .val (.ref b1), .val (.ref bs3), .val (.long bb), .second, .val (.long stt), .second, .val (.int (1 : Int32)), .unset] [(.ref bs3)])) rfl (by rw [hml]; rfl) (Steps.refl _) (argsL := []) (rest := []) (lenOf own_pd___V rfl) rfl (by show 2 * 0 + _ ≤ _; exact Nat.le_of_eq rfl) (hb hby at_173) (fun _ _ => ⟨rfl, rfl, (by decide : 2 + 0 ≤ _), (by decide : 7 + 0 ≤ _)⟩)
      dsimp only [Pt.U, Pt.locs, Pt.cells, Pt.slots] at X9 l9 y9 z9 st9 hQ9
      subst l9 y9 z9
      obtain ⟨rfl, N9q, K9, fq9_0, fq9_1, fq9_2, fq9_3, fq9_4⟩ := hQ9
      have N9 := Fr.app N8 N9q
      have f9_E_b1 : Exa Z T9.heap b1 "com/example/flipside/flipside/tool/WriterBlocks" := f8_E_b1.keep K9
      have f9_F_b1_writers : Fld Z T9.heap b1 "com/example/flipside/flipside/tool/WriterBlocks" "writers" "I" (.int ww) := f8_F_b1_writers.keep K9 (ninS ne_b1_bs3 nin0)
      have f9_F_b1_keysPerWriter : Fld Z T9.heap b1 "com/example/flipside/flipside/tool/WriterBlocks" "keysPerWriter" "I" (.int kk) := f8_F_b1_keysPerWriter.keep K9 (ninS ne_b1_bs3 nin0)
      have f9_F_b1_blockLength : Fld Z T9.heap b1 "com/example/flipside/flipside/tool/WriterBlocks" "blockLength" "I" (.int ((4 : Int32) * kk)) := f8_F_b1_blockLength.keep K9 (ninS ne_b1_bs3 nin0)
      have f9_E_bs3 : Exa Z T9.heap bs3 "com/example/flipside/flipside/tool/WriterBlocks$Steps" := fq8_0.keep K9
      have z9c : n0 ≤ T9.heap.size := Nat.le_trans z8c K9.1
      refine own_W.steps st9 ?_
      show own_W p e (FrameEnd s) below room_1.cells room_1.slots (Q0 Z pa pb pr pf h0 n0) T9 (mkF m 176 #[.val (.int pa), .val (.int pb), .val (.int pr), .val (.int pf), .val (.int (536870911 : Int32)), .val (.int ww), .val (.int mm), .val (.int kk), .val (.int wt), .val (.ref b1), .val (.ref bs3), .val (.long bb), .second, .val (.long stt), .second, .val (.int (1 : Int32)), .unset] [])
      refine own_aload X9 hx (hb hby at_176) (v := (.ref bs3)) rfl rfl (rfl : 176 + 2 = 178) ?_
      obtain ⟨cq10, kq10, q10a, q10b, q10c⟩ := isOf hZ rfl fq9_0
      obtain ⟨_, _, ⟨T10, L10, k10, n10⟩, -, X10, ⟨Lc10, hQ10, l10, y10, z10⟩, st10⟩ := X9.virtualBack hx (y := (⟨"com/example/flipside/flipside/tool/WriterBlocks$Steps", "removed", "()I"⟩ : MethodName)) (z := (⟨"com/example/flipside/flipside/tool/WriterBlocks$Steps", "removed", "()I"⟩ : MethodName)) hown (mvT hZ (hw _ (List.mem_of_getElem? (i := 37) rfl))) (mvT hZ (hw _ (List.mem_of_getElem? (i := 38) rfl))) (notFace_of_selects (args := #[]) (mvT hZ (hw _ (List.mem_of_getElem? (i := 40) rfl)))) (mvT hZ (hw _ (List.mem_of_getElem? (i := 40) rfl))) (mvT hZ (hw _ (List.mem_of_getElem? (i := 39) rfl))) (by decide) (backOf (W := 0) (rm5 l Z a0 hw [] bs3 (wt * ((4 : Int32) * kk)) (own_fol ((4 : Int32) * kk) (own_fol ((4 : Int32) * kk) (own_fol ((4 : Int32) * kk) (own_fol ((4 : Int32) * kk) (0 : Int32))))) T9.heap n0 z9c fq9_1 fq9_3) hZ (hw _ (List.mem_of_getElem? (i := 41) rfl)) (hw _ (List.mem_of_getElem? (i := 25) rfl)) (by decide) (by decide)) q10a q10c (g := (mkF m 178 #[.val (.int pa), .val (.int pb), .val (.int pr), .val (.int pf), .val (.int (536870911 : Int32)), .val (.int ww), .val (.int mm), .val (.int kk), .val (.int wt), .val (.ref b1), .val (.ref bs3), .val (.long bb), .second, .val (.long stt), .second, .val (.int (1 : Int32)), .unset] [(.ref bs3)])) rfl (by rw [hml]; rfl) (Steps.refl _) (argsL := []) (rest := []) (lenOf own_pd___I rfl) rfl (by show 2 * 0 + _ ≤ _; exact Nat.le_of_eq rfl) (hb hby at_178) (fun _ _ => ⟨rfl, rfl, (by decide : 2 + 0 ≤ _), (by decide : 7 + 0 ≤ _)⟩)
      dsimp only [Pt.U, Pt.locs, Pt.cells, Pt.slots] at X10 l10 y10 z10 st10 hQ10
      subst l10 y10 z10
      obtain ⟨rfl, N10q, e10⟩ := hQ10
      have N10 := Fr.app N9 N10q
      refine own_W.steps st10 ?_
      show own_W p e (FrameEnd s) below room_1.cells room_1.slots (Q0 Z pa pb pr pf h0 n0) T10 (mkF m 181 #[.val (.int pa), .val (.int pb), .val (.int pr), .val (.int pf), .val (.int (536870911 : Int32)), .val (.int ww), .val (.int mm), .val (.int kk), .val (.int wt), .val (.ref b1), .val (.ref bs3), .val (.long bb), .second, .val (.long stt), .second, .val (.int (1 : Int32)), .unset] [(.int ((wt * ((4 : Int32) * kk)) + (own_fol ((4 : Int32) * kk) (own_fol ((4 : Int32) * kk) (own_fol ((4 : Int32) * kk) (own_fol ((4 : Int32) * kk) (0 : Int32)))))))])
      refine own_i2l X10 hx (hb hby at_181) (rfl : 181 + 1 = 182) ?_
      refine own_lload X10 hx (hb hby at_182) (v := stt) rfl (rfl : 182 + 2 = 184) ?_
      refine own_ldc2Long X10 hx hown (mvT hZ (hw _ (List.mem_of_getElem? (i := 36) rfl))) (hb hby at_184) (rfl : 184 + 3 = 187) ?_
      refine own_lload X10 hx (hb hby at_187) (v := bb) rfl (rfl : 187 + 2 = 189) ?_
      refine own_lrem X10 hx (hb hby at_189) (by rw [hbb]; exact own_bne hN) (rfl : 189 + 1 = 190) ?_
      refine own_ladd X10 hx (hb hby at_190) (rfl : 190 + 1 = 191) ?_
      refine own_lcmp X10 hx (hb hby at_191) (rfl : 191 + 1 = 192) ?_
      have hc192 : (((wt * ((4 : Int32) * kk)) + (own_fol ((4 : Int32) * kk) (own_fol ((4 : Int32) * kk) (own_fol ((4 : Int32) * kk) (own_fol ((4 : Int32) * kk) (0 : Int32)))))).toInt64) = (stt + ((4 : Int64) % bb)) := by rw [hstt, hbb]; exact own_r4 hN _ (4 : Int64) (by rw [own_fol4 _ (0 : Int32) ⟨by decide, by show 0 < _; omega⟩ ⟨b4.1, b4.2.1⟩, (own_b hN).1]; rfl) (by decide)
      refine own_ifNo X10 hx (hb hby at_192) (XT.ll_ne_f hc192) (rfl : 192 + 3 = 195) ?_
      refine own_aload X10 hx (hb hby at_195) (v := (.ref bs3)) rfl rfl (rfl : 195 + 2 = 197) ?_
      obtain ⟨cq11, kq11, q11a, q11b, q11c⟩ := isOf hZ e10 fq9_0
      obtain ⟨_, _, ⟨T11, L11, k11, n11⟩, -, X11, ⟨Lc11, hQ11, l11, y11, z11⟩, st11⟩ := X10.virtualBack hx (y := (⟨"com/example/flipside/flipside/tool/WriterBlocks$Steps", "added", "()I"⟩ : MethodName)) (z := (⟨"com/example/flipside/flipside/tool/WriterBlocks$Steps", "added", "()I"⟩ : MethodName)) hown (mvT hZ (hw _ (List.mem_of_getElem? (i := 44) rfl))) (mvT hZ (hw _ (List.mem_of_getElem? (i := 45) rfl))) (notFace_of_selects (args := #[]) (mvT hZ (hw _ (List.mem_of_getElem? (i := 47) rfl)))) (mvT hZ (hw _ (List.mem_of_getElem? (i := 47) rfl))) (mvT hZ (hw _ (List.mem_of_getElem? (i := 46) rfl))) (by decide) (backOf (W := 0) (rm6 l Z a0 hw [] bs3 (wt * ((4 : Int32) * kk)) (own_fol ((4 : Int32) * kk) (own_fol ((4 : Int32) * kk) (own_fol ((4 : Int32) * kk) (own_fol ((4 : Int32) * kk) kk)))) T9.heap n0 z9c fq9_1 fq9_4) hZ (hw _ (List.mem_of_getElem? (i := 48) rfl)) (hw _ (List.mem_of_getElem? (i := 25) rfl)) (by decide) (by decide)) q11a q11c (g := (mkF m 197 #[.val (.int pa), .val (.int pb), .val (.int pr), .val (.int pf), .val (.int (536870911 : Int32)), .val (.int ww), .val (.int mm), .val (.int kk), .val (.int wt), .val (.ref b1), .val (.ref bs3), .val (.long bb), .second, .val (.long stt), .second, .val (.int (1 : Int32)), .unset] [(.ref bs3)])) rfl (by rw [hml]; rfl) (Steps.refl _) (argsL := []) (rest := []) (lenOf own_pd___I rfl) rfl (by show 2 * 0 + _ ≤ _; exact Nat.le_of_eq rfl) (hb hby at_197) (fun _ _ => ⟨rfl, e10, (by decide : 2 + 0 ≤ _), (by decide : 7 + 0 ≤ _)⟩)
      dsimp only [Pt.U, Pt.locs, Pt.cells, Pt.slots] at X11 l11 y11 z11 st11 hQ11
      subst l11 y11 z11
      obtain ⟨rfl, N11q, e11⟩ := hQ11
      have N11 := Fr.app N10 N11q
      refine own_W.steps st11 ?_
      show own_W p e (FrameEnd s) below room_1.cells room_1.slots (Q0 Z pa pb pr pf h0 n0) T11 (mkF m 200 #[.val (.int pa), .val (.int pb), .val (.int pr), .val (.int pf), .val (.int (536870911 : Int32)), .val (.int ww), .val (.int mm), .val (.int kk), .val (.int wt), .val (.ref b1), .val (.ref bs3), .val (.long bb), .second, .val (.long stt), .second, .val (.int (1 : Int32)), .unset] [(.int ((wt * ((4 : Int32) * kk)) + (own_fol ((4 : Int32) * kk) (own_fol ((4 : Int32) * kk) (own_fol ((4 : Int32) * kk) (own_fol ((4 : Int32) * kk) kk))))))])
      refine own_i2l X11 hx (hb hby at_200) (rfl : 200 + 1 = 201) ?_
      refine own_lload X11 hx (hb hby at_201) (v := stt) rfl (rfl : 201 + 2 = 203) ?_
      refine own_iload X11 hx (hb hby at_203) (v := kk) rfl (rfl : 203 + 2 = 205) ?_
      refine own_i2l X11 hx (hb hby at_205) (rfl : 205 + 1 = 206) ?_
      refine own_ldc2Long X11 hx hown (mvT hZ (hw _ (List.mem_of_getElem? (i := 36) rfl))) (hb hby at_206) (rfl : 206 + 3 = 209) ?_
      refine own_ladd X11 hx (hb hby at_209) (rfl : 209 + 1 = 210) ?_
      refine own_lload X11 hx (hb hby at_210) (v := bb) rfl (rfl : 210 + 2 = 212) ?_
      refine own_lrem X11 hx (hb hby at_212) (by rw [hbb]; exact own_bne hN) (rfl : 212 + 1 = 213) ?_
      refine own_ladd X11 hx (hb hby at_213) (rfl : 213 + 1 = 214) ?_
      refine own_lcmp X11 hx (hb hby at_214) (rfl : 214 + 1 = 215) ?_
      have hc215 : (((wt * ((4 : Int32) * kk)) + (own_fol ((4 : Int32) * kk) (own_fol ((4 : Int32) * kk) (own_fol ((4 : Int32) * kk) (own_fol ((4 : Int32) * kk) kk))))).toInt64) = (stt + (((kk.toInt64) + (4 : Int64)) % bb)) := by rw [hstt, hbb]; exact own_r4 hN _ (kk.toInt64 + (4 : Int64)) (by rw [own_fol4 _ kk ⟨by omega, b4.2.2.2⟩ ⟨b4.1, b4.2.1⟩, (own_b hN).1, own_k4 hN]) (by rw [own_k4 hN]; omega)
      refine own_ifNo X11 hx (hb hby at_215) (XT.ll_ne_f hc215) (rfl : 215 + 3 = 218) ?_
      refine own_iconst X11 hx (hb hby at_218) (1 : Int32) (by first | rfl | decide) (rfl : 218 + 1 = 219) ?_
      refine own_goto X11 hx (hb hby at_219) (pc' := 223) (by decide) (by decide) ?_
      refine own_istore X11 hx (hb hby at_223) (l' := #[.val (.int pa), .val (.int pb), .val (.int pr), .val (.int pf), .val (.int (536870911 : Int32)), .val (.int ww), .val (.int mm), .val (.int kk), .val (.int wt), .val (.ref b1), .val (.ref bs3), .val (.long bb), .second, .val (.long stt), .second, .val (.int (1 : Int32)), .val (.int (1 : Int32))]) rfl (rfl : 223 + 2 = 225) ?_
      refine own_iload X11 hx (hb hby at_225) (v := (1 : Int32)) rfl (rfl : 225 + 2 = 227) ?_
      have hc227 : ¬ ((1 : Int32) = (0 : Int32)) := by decide
      refine own_ifNo X11 hx (hb hby at_227) ((if0 _ _).trans (feq hc227).1) (rfl : 227 + 3 = 230) ?_
      refine own_iload X11 hx (hb hby at_230) (v := (1 : Int32)) rfl (rfl : 230 + 2 = 232) ?_
      have hc232 : ¬ ((1 : Int32) = (0 : Int32)) := by decide
      refine own_ifNo X11 hx (hb hby at_232) ((if0 _ _).trans (feq hc232).1) (rfl : 232 + 3 = 235) ?_
      refine own_iconst X11 hx (hb hby at_235) (1 : Int32) (by first | rfl | decide) (rfl : 235 + 1 = 236) ?_
      refine own_goto X11 hx (hb hby at_236) (pc' := 240) (by decide) (by decide) ?_
      refine own_retN (t := .boolean) X11 hx hlk hret (by simp) (hb hby at_240) (z' := (1 : Int32)) (by decide) (by decide) (by decide) ?_
      show Q0 Z pa pb pr pf h0 n0 (some (.int (1 : Int32))) T11.heap _
      rw [e11]
      exact ⟨rfl, N11⟩
    by_cases hc40 : (pf &&& (2 : Int32)) = (0 : Int32)
    · skip
      refine own_ifYes X0 hx (hb hby at_40) ((if0 _ _).trans (teq hc40).1) (pc' := 59) (by decide) (by decide) ?_
      refine own_iconst X0 hx (hb hby at_59) (1 : Int32) (by first | rfl | decide) (rfl : 59 + 1 = 60) ?_
      refine own_iloadN X0 hx (hb hby at_60) (v := pb) rfl (rfl : 60 + 1 = 61) ?_
      refine own_ldcInt X0 hx hown (mvT hZ (hw _ (List.mem_of_getElem? (i := 1) rfl))) (hb hby at_61) (rfl : 61 + 2 = 63) ?_
      refine own_iand X0 hx (hb hby at_63) (rfl : 63 + 1 = 64) ?_
      refine own_iload X0 hx (hb hby at_64) (v := mm) rfl (rfl : 64 + 2 = 66) ?_
      refine own_irem X0 hx (hb hby at_66) (own_nz bmm.1) (rfl : 66 + 1 = 67) ?_
      refine own_iadd X0 hx (hb hby at_67) (rfl : 67 + 1 = 68) ?_
      exact J68 (((1 : Int32) + ((pb &&& (2147483647 : Int32)) % mm))) _ _ _  X0 e0 N0 Z0 (own_fa pb mm bmm.1)
    · skip
      refine own_ifNo X0 hx (hb hby at_40) ((if0 _ _).trans (feq hc40).1) (rfl : 40 + 3 = 43) ?_
      refine own_iconst X0 hx (hb hby at_43) (1 : Int32) (by first | rfl | decide) (rfl : 43 + 1 = 44) ?_
      refine own_iloadN X0 hx (hb hby at_44) (v := pb) rfl (rfl : 44 + 1 = 45) ?_
      refine own_ldcInt X0 hx hown (mvT hZ (hw _ (List.mem_of_getElem? (i := 1) rfl))) (hb hby at_45) (rfl : 45 + 2 = 47) ?_
      refine own_iand X0 hx (hb hby at_47) (rfl : 47 + 1 = 48) ?_
      refine own_iload X0 hx (hb hby at_48) (v := mm) rfl (rfl : 48 + 2 = 50) ?_
      refine own_iconst X0 hx (hb hby at_50) (3 : Int32) (by first | rfl | decide) (rfl : 50 + 1 = 51) ?_
      obtain ⟨_, _, ⟨T12, L12, k12, n12⟩, -, X12, ⟨Lc12, hQ12, l12, y12, z12⟩, st12⟩ := Jvm.LawKit.callS X0 hx (y := (⟨"java/lang/Math", "min", "(II)I"⟩ : MethodName)) hown (mvT hZ (hw _ (List.mem_of_getElem? (i := 58) rfl))) (mvT hZ (hw _ (List.mem_of_getElem? (i := 59) rfl))) (mvT hZ (hw _ (List.mem_of_getElem? (i := 60) rfl))) (mvT hZ (hw _ (List.mem_of_getElem? (i := 61) rfl))) (by decide) (backOf (W := 2) (rm9 l Z a0 hw [] mm (3 : Int32)  h0 n0 Z0 ) hZ (hw _ (List.mem_of_getElem? (i := 61) rfl)) (hw _ (List.mem_of_getElem? (i := 60) rfl)) (by decide) (by decide)) (g := (mkF m 51 #[.val (.int pa), .val (.int pb), .val (.int pr), .val (.int pf), .val (.int (536870911 : Int32)), .val (.int ww), .val (.int mm), .unset, .unset, .unset, .unset, .unset, .unset, .unset, .unset, .unset, .unset] [(.int (3 : Int32)), (.int mm), (.int (pb &&& (2147483647 : Int32))), (.int (1 : Int32))])) rfl (by rw [hml]; rfl) (argsL := [(.int mm), (.int (3 : Int32))]) (rest := [(.int (pb &&& (2147483647 : Int32))), (.int (1 : Int32))]) (lenOf own_pd__II_I rfl) rfl (by show 2 * 0 + _ ≤ _; exact Nat.le_of_eq rfl) (hb hby at_51) (fun _ _ => ⟨rfl, e0, (by decide : 0 + 0 ≤ _), (by decide : 0 + 0 ≤ _)⟩)
      dsimp only [Pt.U, Pt.locs, Pt.cells, Pt.slots] at X12 l12 y12 z12 st12 hQ12
      subst l12 y12 z12
      obtain ⟨rfl, N12q, e12⟩ := hQ12
      have N12 := Fr.app N0 N12q
      refine own_W.step st12 ?_
      show own_W p e (FrameEnd s) below room_1.cells room_1.slots (Q0 Z pa pb pr pf h0 n0) T12 (mkF m 54 #[.val (.int pa), .val (.int pb), .val (.int pr), .val (.int pf), .val (.int (536870911 : Int32)), .val (.int ww), .val (.int mm), .unset, .unset, .unset, .unset, .unset, .unset, .unset, .unset, .unset, .unset] [(.int (own_imin mm (3 : Int32))), (.int (pb &&& (2147483647 : Int32))), (.int (1 : Int32))])
      refine own_irem X12 hx (hb hby at_54) (own_nz (own_minV mm bmm.1).1) (rfl : 54 + 1 = 55) ?_
      refine own_iadd X12 hx (hb hby at_55) (rfl : 55 + 1 = 56) ?_
      refine own_goto X12 hx (hb hby at_56) (pc' := 68) (by decide) (by decide) ?_
      exact J68 (((1 : Int32) + ((pb &&& (2147483647 : Int32)) % (own_imin mm (3 : Int32))))) _ _ _  X12 e12 N12 Z0 (by have q := own_minV mm bmm.1; have r := own_fa pb (own_imin mm (3 : Int32)) q.1; omega)
  by_cases hc7 : (pf &&& (1 : Int32)) = (0 : Int32)
  · skip
    refine own_ifYes X0 hx (hb hby at_7) ((if0 _ _).trans (teq hc7).1) (pc' := 19) (by decide) (by decide) ?_
    refine own_iconst X0 hx (hb hby at_19) (1 : Int32) (by first | rfl | decide) (rfl : 19 + 1 = 20) ?_
    refine own_iloadN X0 hx (hb hby at_20) (v := pa) rfl (rfl : 20 + 1 = 21) ?_
    refine own_ldcInt X0 hx hown (mvT hZ (hw _ (List.mem_of_getElem? (i := 1) rfl))) (hb hby at_21) (rfl : 21 + 2 = 23) ?_
    refine own_iand X0 hx (hb hby at_23) (rfl : 23 + 1 = 24) ?_
    refine own_iload X0 hx (hb hby at_24) (v := (536870911 : Int32)) rfl (rfl : 24 + 2 = 26) ?_
    refine own_irem X0 hx (hb hby at_26) (by decide) (rfl : 26 + 1 = 27) ?_
    refine own_iadd X0 hx (hb hby at_27) (rfl : 27 + 1 = 28) ?_
    exact J28 (((1 : Int32) + ((pa &&& (2147483647 : Int32)) % (536870911 : Int32))))   (own_fa pa (536870911 : Int32) (by decide))
  · skip
    refine own_ifNo X0 hx (hb hby at_7) ((if0 _ _).trans (feq hc7).1) (rfl : 7 + 3 = 10) ?_
    refine own_iconst X0 hx (hb hby at_10) (1 : Int32) (by first | rfl | decide) (rfl : 10 + 1 = 11) ?_
    refine own_iloadN X0 hx (hb hby at_11) (v := pa) rfl (rfl : 11 + 1 = 12) ?_
    refine own_bipush X0 hx (hb hby at_12) (7 : Int32) (by first | rfl | decide) (rfl : 12 + 2 = 14) ?_
    refine own_iand X0 hx (hb hby at_14) (rfl : 14 + 1 = 15) ?_
    refine own_iadd X0 hx (hb hby at_15) (rfl : 15 + 1 = 16) ?_
    refine own_goto X0 hx (hb hby at_16) (pc' := 28) (by decide) (by decide) ?_
    exact J28 (((1 : Int32) + (pa &&& (7 : Int32))))   (own_w1 pa)
set_option maxRecDepth 65536 in
set_option maxHeartbeats 40000000 in
theorem comes_1 {Post : Tables → Env → Array Value → State → Outcome → State → Prop} (hpost : ∀ tb e args s v u, (limb_1_1.after args s (.returned v) u = true ∧ limb_1_2.after args s (.returned v) u = true ∧ True) → FrameEnd s (.returned v) u (Jvm.fieldLocs frame_1_writes args s ++ Jvm.arrayLocs frame_1_arrays args s ++ Jvm.staticLocs frame_1_statics s) 16 128 → Post tb e args s (.returned v) u) :
    ArmFor flags0 classFile x code maxLocals ret World_1 tables_1 room_1 Calls_1 rest_1 Pre_1 Post := by
  intro l hfl _ _ p e ha hc hk s m args below hf hA hF happ hP
  obtain ⟨hcalls, hrest, hpre⟩ := hP
  obtain ⟨-, -, -, hnamed, -, -, -, hat⟩ := (Spec.applies_iff hf).mp happ
  obtain ⟨hg, hn⟩ := and_e (Cond.before_iff.mp (show (Jvm.Cond.and given_1 narrow_1).before args s = true from hpre))
  obtain ⟨hg0, hr0⟩ := and_e hg
  obtain ⟨hg1, hr1⟩ := and_e hr0
  obtain ⟨hg2, hr2⟩ := and_e hr1
  obtain ⟨hg3, hr3⟩ := and_e hr2
  obtain ⟨w0, w1, w2, w3, rfl⟩ : ∃ w0 w1 w2 w3 : Value, args = #[w0, w1, w2, w3] := by
    have hs : args.size = 4 := by simpa [Cond.value, given_1] using hg0
    obtain ⟨L⟩ := args
    match L, hs with
    | [w0, w1, w2, w3], _ => exact ⟨w0, w1, w2, w3, rfl⟩
  have hw := fun d (hd : d ∈ tables_1) => atoms_spec (ws := Jvm.Cond.code x code maxLocals ret :: tables_1) hat d (List.mem_cons_of_mem _ hd)
  obtain ⟨i0, ei0⟩ := is_v hg1
  obtain rfl : w0 = (.int i0) := Option.some.inj ei0
  obtain ⟨i1, ei1⟩ := is_v hg2
  obtain rfl : w1 = (.int i1) := Option.some.inj ei1
  obtain ⟨i2, ei2⟩ := is_v hg3
  obtain rfl : w2 = (.int i2) := Option.some.inj ei2
  obtain ⟨i3, ei3⟩ := is_v hr3
  obtain rfl : w3 = (.int i3) := Option.some.inj ei3
  obtain ⟨n, o, h1, h2, h3, _, L, rfl, ⟨rfl, N⟩, hq⟩ := rm0 l s _ hw tables_1 i0 i1 i2 i3 s.heap s.heap.size (Nat.le_refl _) p e ha hc hk s m _ below hf ((Spec.applies_iff_loose hf).mp happ).1 ⟨rfl, State.Warmed39.refl s, rfl⟩ trivial
  refine ⟨n, _, h1, h2, h3, hpost _ _ _ _ _ _ ⟨Cond.after_iff.mpr rfl, Cond.after_iff.mpr (eq_i res_at (Term.int_eval (1)) rfl), trivial⟩ ⟨hq.1, hq.2.1, (hq.2.2.sift fun y hy => Or.inr (N y hy)).mono (by decide) (by decide)⟩⟩
theorem main_1_1 : Claimed_1_1 := comes_1 fun _ _ _ _ _ _ h hF => ⟨h.1, hF⟩
theorem main_1_2 : Claimed_1_2 := comes_1 fun _ _ _ _ _ _ h hF => ⟨h.2.1, hF⟩
end Jvm.Pilot.@@N@@
namespace Jvm.Pilot.@@N@@
open Jvm Jvm.ClassFile Sem Op Lib Jvm.Free Jvm.Stand Jvm.Pilot.@@N@@.Jvm.D
/-! MADE BY PROGRAM (witnessworld.py) out of the Statement's table words and the real class files: 11 classes; the members and pool entries that the words name. The judged class is class 1, her method 1. -/
namespace start1
open Jvm.ClassFile
def u (s : String) : CpInfo := .utf8 (stringToUtf16 s)
/-- a pool by its gaps: so many unusable entries, then the entry; so many at the end -/
def gap : Nat → List CpInfo → List CpInfo
  | 0, r => r
  | n + 1, r => .unusable :: gap n r
def poolList (es : List (Nat × CpInfo)) (last : Nat) : List CpInfo := es.foldr (fun e r => gap e.1 (e.2 :: r)) (gap last [])
def pool (es : List (Nat × CpInfo)) (last : Nat) : Array CpInfo := ⟨poolList es last⟩
def fileOf (pool : Array CpInfo) (this : Nat) (attrs : Array Attribute := #[]) (ms : Array MethodInfo := #[]) (fl : Nat := 33) (sup : Nat := 0) (ifs : Array Nat := #[]) (fds : Array FieldInfo := #[]) : ClassFile where
  minorVersion := 0
  majorVersion := 65
  constantPool := pool
  accessFlags := fl
  thisClass := this
  superClass := sup
  interfaces := ifs
  fields := fds
  methods := ms
  attributes := attrs
def plain (name : String) (sup : Option ClassId) : Class where
  name := name
  kind := .ordinary
  loader := none
  accessFlags := 33
  super := sup
  interfaces := #[]
  cf := none
  fields := #[]
  methods := #[]
  instanceTypes := #[]
  staticTypes := #[]
  resolved := #[]
  callSites := []
  init := .initialized
  statics := none
  mirror := none

def pool0 : Array CpInfo := pool [(5, u "<init>"), (0, u "()V"), (1, .class_ 10), (1, u "java/lang/Object")] 113

def k0c0 : Code := { maxStack := 0, maxLocals := 1, code := object_method_1_code, exceptionTable := #[], attributes := #[] }
def k0m0 : Method := { name := "<init>", desc := "()V", sig := { parameters := [], returnType := none }, accessFlags := 1, code := some k0c0 }
/-- java/lang/Object -/
def k0 : Class := { plain "java/lang/Object" none with
  accessFlags := 33
  interfaces := #[]
  cf := some (fileOf pool0 8 #[] #[{ accessFlags := 1, nameIndex := 5, descriptorIndex := 6, attributes := #[] }] 33 0 #[] #[])
  fields := #[]
  methods := #[k0m0]
  instanceTypes := #[]
  staticTypes := #[]
  resolved := Array.replicate 124 none
  statics := none }

def pool1 : Array CpInfo := pool [(2, .class_ 4), (1, u "java/lang/Object"), (0, u "<init>"), (0, u "()V"), (0, .class_ 8), (0, u "com/example/flipside/flipside/tool/WriterBlocks"), (0, .integer 536870911), (0, .integer 2147483647), (0, .methodref 12 13), (0, .class_ 14), (0, .nameAndType 15 16), (0, u "java/lang/Math"), (0, u "min"), (0, u "(II)I"), (0, .methodref 7 18), (0, .nameAndType 5 19), (0, u "(II)V"), (0, .methodref 7 21), (0, .nameAndType 22 23), (0, u "steps"), (0, u "(I)Lcom/example/flipside/flipside/tool/WriterBlocks$Steps;"), (0, .long 4), (1, .methodref 27 28), (0, .class_ 29), (0, .nameAndType 30 31), (0, u "com/example/flipside/flipside/tool/WriterBlocks$Steps"), (0, u "removed"), (0, u "()I"), (0, .methodref 27 33), (0, .nameAndType 34 31), (0, u "added"), (0, .methodref 27 36), (0, .nameAndType 37 6), (0, u "next"), (0, .class_ 39), (0, u "com/example/flipside/flipside/tool/WriterBlocksStepsPinLaw"), (2, u "law"), (0, u "(IIII)Z")] 5

def k1m0 : Method := { name := "<init>", desc := "()V", sig := { parameters := [], returnType := none }, accessFlags := 1, code := none }
def k1c1 : Code := { maxStack := 8, maxLocals := 17, code := code, exceptionTable := #[], attributes := #[] }
def k1m1 : Method := { name := "law", desc := "(IIII)Z", sig := { parameters := [.int, .int, .int, .int], returnType := some .boolean }, accessFlags := 9, code := some k1c1 }
/-- com/example/flipside/flipside/tool/WriterBlocksStepsPinLaw -/
def k1 : Class := { plain "com/example/flipside/flipside/tool/WriterBlocksStepsPinLaw" (some 0) with
  accessFlags := 49
  interfaces := #[]
  cf := some (fileOf pool1 38 #[] #[{ accessFlags := 1, nameIndex := 5, descriptorIndex := 6, attributes := #[] }, { accessFlags := 9, nameIndex := 42, descriptorIndex := 43, attributes := #[] }] 49 2 #[] #[])
  fields := #[]
  methods := #[k1m0, k1m1]
  instanceTypes := #[]
  staticTypes := #[]
  resolved := Array.replicate 49 none
  statics := none }

def pool2 : Array CpInfo := pool [(3, .methodref 4 5), (0, .class_ 6), (0, .nameAndType 7 8), (0, u "java/lang/Object"), (0, u "<init>"), (0, u "()V"), (0, .class_ 10), (0, u "com/example/flipside/flipside/tool/WriterBlocks"), (0, .integer 536870911), (9, .fieldref 9 22), (0, .nameAndType 23 24), (0, u "writers"), (0, u "I"), (0, .fieldref 9 26), (0, .nameAndType 27 24), (0, u "keysPerWriter"), (0, .fieldref 9 29), (0, .nameAndType 30 24), (0, u "blockLength"), (4, .class_ 36), (0, u "com/example/flipside/flipside/tool/WriterBlocks$Steps"), (0, .methodref 35 38), (0, .nameAndType 7 39), (0, u "(III)V"), (21, u "MAX_SIZE"), (1, u "(II)V"), (7, u "steps"), (0, u "(I)Lcom/example/flipside/flipside/tool/WriterBlocks$Steps;")] 25

def k2c0 : Code := { maxStack := 4, maxLocals := 3, code := prog_55_method_1_code, exceptionTable := #[], attributes := #[] }
def k2m0 : Method := { name := "<init>", desc := "(II)V", sig := { parameters := [.int, .int], returnType := none }, accessFlags := 0, code := some k2c0 }
def k2c1 : Code := { maxStack := 5, maxLocals := 2, code := prog_55_method_4_code, exceptionTable := #[], attributes := #[] }
def k2m1 : Method := { name := "steps", desc := "(I)Lcom/example/flipside/flipside/tool/WriterBlocks$Steps;", sig := { parameters := [.int], returnType := some (.object "com/example/flipside/flipside/tool/WriterBlocks$Steps") }, accessFlags := 0, code := some k2c1 }
/-- com/example/flipside/flipside/tool/WriterBlocks -/
def k2 : Class := { plain "com/example/flipside/flipside/tool/WriterBlocks" (some 0) with
  accessFlags := 48
  interfaces := #[]
  cf := some (fileOf pool2 9 #[.nestMembers #[35]] #[{ accessFlags := 0, nameIndex := 7, descriptorIndex := 63, attributes := #[] }, { accessFlags := 0, nameIndex := 71, descriptorIndex := 72, attributes := #[] }] 48 4 #[] #[{ accessFlags := 24, nameIndex := 61, descriptorIndex := 24, attributes := #[] }, { accessFlags := 18, nameIndex := 23, descriptorIndex := 24, attributes := #[] }, { accessFlags := 18, nameIndex := 27, descriptorIndex := 24, attributes := #[] }, { accessFlags := 18, nameIndex := 30, descriptorIndex := 24, attributes := #[] }])
  fields := #[{ name := "MAX_SIZE", type := .int, accessFlags := 24, slot := 0, constantValue := 0 }, { name := "writers", type := .int, accessFlags := 18, slot := 0, constantValue := 0 }, { name := "keysPerWriter", type := .int, accessFlags := 18, slot := 1, constantValue := 0 }, { name := "blockLength", type := .int, accessFlags := 18, slot := 2, constantValue := 0 }]
  methods := #[k2m0, k2m1]
  instanceTypes := #[.int, .int, .int]
  staticTypes := #[.int]
  resolved := ((Array.replicate 98 none).setIfInBounds 35 (some (.cls 3))).setIfInBounds 37 (some (.method ⟨3, 0⟩))
  statics := none }

def pool3 : Array CpInfo := pool [(1, .methodref 2 3), (0, .class_ 4), (0, .nameAndType 5 6), (0, u "java/lang/Object"), (0, u "<init>"), (0, u "()V"), (0, .fieldref 8 9), (0, .class_ 10), (0, .nameAndType 11 12), (0, u "com/example/flipside/flipside/tool/WriterBlocks$Steps"), (0, u "blockStart"), (0, u "I"), (0, .fieldref 8 14), (0, .nameAndType 15 12), (0, u "blockLength"), (0, .fieldref 8 17), (0, .nameAndType 18 12), (0, u "adding"), (0, .fieldref 8 20), (0, .nameAndType 21 12), (0, u "removing"), (0, .methodref 8 23), (0, .nameAndType 24 25), (0, u "following"), (0, u "(I)I"), (0, u "(III)V"), (2, u "removed"), (0, u "()I"), (0, u "added"), (0, u "next"), (4, .class_ 38), (0, u "com/example/flipside/flipside/tool/WriterBlocks")] 2

def k3c0 : Code := { maxStack := 2, maxLocals := 4, code := prog_56_method_1_code, exceptionTable := #[], attributes := #[] }
def k3m0 : Method := { name := "<init>", desc := "(III)V", sig := { parameters := [.int, .int, .int], returnType := none }, accessFlags := 2, code := some k3c0 }
def k3c1 : Code := { maxStack := 2, maxLocals := 1, code := prog_56_method_2_code, exceptionTable := #[], attributes := #[] }
def k3m1 : Method := { name := "removed", desc := "()I", sig := { parameters := [], returnType := some .int }, accessFlags := 0, code := some k3c1 }
def k3c2 : Code := { maxStack := 2, maxLocals := 1, code := prog_56_method_3_code, exceptionTable := #[], attributes := #[] }
def k3m2 : Method := { name := "added", desc := "()I", sig := { parameters := [], returnType := some .int }, accessFlags := 0, code := some k3c2 }
def k3c3 : Code := { maxStack := 3, maxLocals := 1, code := prog_56_method_4_code, exceptionTable := #[], attributes := #[] }
def k3m3 : Method := { name := "next", desc := "()V", sig := { parameters := [], returnType := none }, accessFlags := 0, code := some k3c3 }
def k3c4 : Code := { maxStack := 2, maxLocals := 2, code := prog_56_method_5_code, exceptionTable := #[], attributes := #[] }
def k3m4 : Method := { name := "following", desc := "(I)I", sig := { parameters := [.int], returnType := some .int }, accessFlags := 2, code := some k3c4 }
/-- com/example/flipside/flipside/tool/WriterBlocks$Steps -/
def k3 : Class := { plain "com/example/flipside/flipside/tool/WriterBlocks$Steps" (some 0) with
  accessFlags := 48
  interfaces := #[]
  cf := some (fileOf pool3 8 #[.nestHost 37] #[{ accessFlags := 2, nameIndex := 5, descriptorIndex := 26, attributes := #[] }, { accessFlags := 0, nameIndex := 29, descriptorIndex := 30, attributes := #[] }, { accessFlags := 0, nameIndex := 31, descriptorIndex := 30, attributes := #[] }, { accessFlags := 0, nameIndex := 32, descriptorIndex := 6, attributes := #[] }, { accessFlags := 2, nameIndex := 24, descriptorIndex := 25, attributes := #[] }] 48 2 #[] #[{ accessFlags := 18, nameIndex := 11, descriptorIndex := 12, attributes := #[] }, { accessFlags := 18, nameIndex := 15, descriptorIndex := 12, attributes := #[] }, { accessFlags := 2, nameIndex := 21, descriptorIndex := 12, attributes := #[] }, { accessFlags := 2, nameIndex := 18, descriptorIndex := 12, attributes := #[] }])
  fields := #[{ name := "blockStart", type := .int, accessFlags := 18, slot := 0, constantValue := 0 }, { name := "blockLength", type := .int, accessFlags := 18, slot := 1, constantValue := 0 }, { name := "removing", type := .int, accessFlags := 2, slot := 2, constantValue := 0 }, { name := "adding", type := .int, accessFlags := 2, slot := 3, constantValue := 0 }]
  methods := #[k3m0, k3m1, k3m2, k3m3, k3m4]
  instanceTypes := #[.int, .int, .int, .int]
  staticTypes := #[]
  resolved := Array.replicate 41 none
  statics := none }

def pool4 : Array CpInfo := pool [(1, .class_ 2), (0, u "java/lang/Math"), (1, .class_ 6), (1, u "java/lang/Object"), (0, u "<init>"), (0, u "()V"), (89, .class_ 100), (1, u "java/lang/Math$RandomNumberGeneratorHolder"), (71, u "negativeZeroFloatBits"), (0, u "J"), (2, u "negativeZeroDoubleBits"), (24, u "min"), (43, u "$assertionsDisabled"), (0, u "Z"), (88, u "(II)I"), (2, u "twoToTheDoubleScaleDown"), (0, u "D"), (4, u "twoToTheDoubleScaleUp"), (9, u "E"), (3, u "PI"), (2, u "TAU"), (2, u "DEGREES_TO_RADIANS"), (0, u "RADIANS_TO_DEGREES")] 94

def k4m0 : Method := { name := "<init>", desc := "()V", sig := { parameters := [], returnType := none }, accessFlags := 2, code := none }
def k4c1 : Code := { maxStack := 2, maxLocals := 2, code := jdk_29_method_69_code, exceptionTable := #[], attributes := #[] }
def k4m1 : Method := { name := "min", desc := "(II)I", sig := { parameters := [.int, .int], returnType := some .int }, accessFlags := 9, code := some k4c1 }
/-- java/lang/Math -/
def k4 : Class := { plain "java/lang/Math" (some 0) with
  accessFlags := 49
  interfaces := #[]
  cf := some (fileOf pool4 1 #[.nestMembers #[98]] #[{ accessFlags := 2, nameIndex := 7, descriptorIndex := 8, attributes := #[] }, { accessFlags := 9, nameIndex := 201, descriptorIndex := 335, attributes := #[] }] 49 4 #[] #[{ accessFlags := 25, nameIndex := 354, descriptorIndex := 339, attributes := #[] }, { accessFlags := 25, nameIndex := 358, descriptorIndex := 339, attributes := #[] }, { accessFlags := 25, nameIndex := 361, descriptorIndex := 339, attributes := #[] }, { accessFlags := 26, nameIndex := 364, descriptorIndex := 339, attributes := #[] }, { accessFlags := 26, nameIndex := 365, descriptorIndex := 339, attributes := #[] }, { accessFlags := 26, nameIndex := 172, descriptorIndex := 173, attributes := #[] }, { accessFlags := 26, nameIndex := 176, descriptorIndex := 173, attributes := #[] }, { accessFlags := 8, nameIndex := 344, descriptorIndex := 339, attributes := #[] }, { accessFlags := 8, nameIndex := 338, descriptorIndex := 339, attributes := #[] }, { accessFlags := 4120, nameIndex := 245, descriptorIndex := 246, attributes := #[] }])
  fields := #[{ name := "E", type := .double, accessFlags := 25, slot := 0, constantValue := 0 }, { name := "PI", type := .double, accessFlags := 25, slot := 1, constantValue := 0 }, { name := "TAU", type := .double, accessFlags := 25, slot := 2, constantValue := 0 }, { name := "DEGREES_TO_RADIANS", type := .double, accessFlags := 26, slot := 3, constantValue := 0 }, { name := "RADIANS_TO_DEGREES", type := .double, accessFlags := 26, slot := 4, constantValue := 0 }, { name := "negativeZeroFloatBits", type := .long, accessFlags := 26, slot := 5, constantValue := 0 }, { name := "negativeZeroDoubleBits", type := .long, accessFlags := 26, slot := 6, constantValue := 0 }, { name := "twoToTheDoubleScaleUp", type := .double, accessFlags := 8, slot := 7, constantValue := 0 }, { name := "twoToTheDoubleScaleDown", type := .double, accessFlags := 8, slot := 8, constantValue := 0 }, { name := "$assertionsDisabled", type := .boolean, accessFlags := 4120, slot := 9, constantValue := 0 }]
  methods := #[k4m0, k4m1]
  instanceTypes := #[]
  staticTypes := #[.double, .double, .double, .double, .double, .long, .long, .double, .double, .boolean]
  resolved := Array.replicate 460 none
  statics := none }

def pool5 : Array CpInfo := pool [(1, u "java/lang/Cloneable"), (0, .class_ 1), (0, u "java/lang/Object"), (0, .class_ 3)] 3

/-- java/lang/Cloneable -/
def k5 : Class := { plain "java/lang/Cloneable" (some 0) with
  accessFlags := 1537
  interfaces := #[]
  cf := some (fileOf pool5 2 #[] #[] 1537 4 #[] #[])
  fields := #[]
  methods := #[]
  instanceTypes := #[]
  staticTypes := #[]
  resolved := Array.replicate 8 none
  statics := none }

def pool6 : Array CpInfo := pool [(1, u "java/io/Serializable"), (0, .class_ 1), (0, u "java/lang/Object"), (0, .class_ 3)] 3

/-- java/io/Serializable -/
def k6 : Class := { plain "java/io/Serializable" (some 0) with
  accessFlags := 1537
  interfaces := #[]
  cf := some (fileOf pool6 2 #[] #[] 1537 4 #[] #[])
  fields := #[]
  methods := #[]
  instanceTypes := #[]
  staticTypes := #[]
  resolved := Array.replicate 8 none
  statics := none }

/-- the primitive byte -/
def k7 : Class := { plain "byte" none with kind := .primitive 'B', accessFlags := 0x411 }
/-- [B -/
def k8 : Class := { plain "[B" (some 0) with kind := .array 7 .byte, interfaces := #[5, 6], accessFlags := 1041 }

/-- the primitive int -/
def k9 : Class := { plain "int" none with kind := .primitive 'I', accessFlags := 0x411 }
/-- [I -/
def k10 : Class := { plain "[I" (some 0) with kind := .array 9 .int, interfaces := #[5, 6], accessFlags := 1041 }

def heap : Heap := #[]
def classes : Array Class := #[k0, k1, k2, k3, k4, k5, k6, k7, k8, k9, k10]
def interned : List (Array UInt16 × Addr) := []
def slotsUsed : Nat := 0
def theMethod : MethodId := ⟨1, 1⟩
def args0 : Array Value := #[.int 5, .int 5, .int 5, .int 5]
def aboutOver (below : List Frame) : State where
  vm := { classes := classes, interned := interned.toArray }
  heap := heap
  slotsUsed := slotsUsed
  threads := #[{ frames := .invoking theMethod args0 :: below }]
def below0 : List Frame := [.native { method := ⟨0, 0⟩, args := #[] }]
def about1 : State := aboutOver below0
def p0 : Program := .bare "" "" ""
def e0 : Env := launch0.env 0 0 0
theorem w_frames : about1.frames = Frame.invoking theMethod args0 :: below0 := rfl
set_option maxRecDepth 65536 in
theorem w_args : argsFit about1.vm theMethod args0 = true := by decide +kernel
set_option maxRecDepth 65536 in
theorem w_heap : heapFits about1 = true := by decide +kernel
set_option maxRecDepth 65536 in
theorem w_runnable : about1.curStatus? = some .runnable := by decide +kernel
set_option maxRecDepth 65536 in
theorem w_alone : about1.alone = true := by decide +kernel
set_option maxRecDepth 65536 in
theorem w_named : about1.methodNamed? x = some theMethod := by decide +kernel
set_option maxRecDepth 65536 in
theorem w_hears : about1.hears theMethod below0 = true := by decide +kernel
set_option maxRecDepth 65536 in
theorem w_ripe : about1.ripe theMethod args0 below0 = true := by decide +kernel
theorem w_running : about1.status = .running := rfl
set_option maxRecDepth 65536 in
theorem w_room : about1.hasRoom e0.platform room_1 = true :=
  launch0.hasRoom_least _ room_1 (by decide +kernel) (by decide +kernel) (by decide +kernel) (by decide +kernel) (by decide +kernel) (by decide +kernel)
theorem allAtoms_all (ts : List Jvm.Cond) (a : Array Jvm.Value) (st : Jvm.State) : (allAtoms ts).before a st = ts.all (fun c => c.before a st) := by
  induction ts with
  | nil => rfl
  | cons c t ih =>
    show (Jvm.Cond.and c (allAtoms t)).before a st = _
    rw [Jvm.Cond.before_and, ih, List.all_cons]
def words1 : List Jvm.Cond := Jvm.Cond.code x code maxLocals ret :: tables_1
/-- a 'code' word, met by the world's own term for the bytes: nothing is compared byte by byte -/
theorem code_word {y : MethodName} {bytes : ByteArray} {mx : Nat} {rt : Option FieldType} {a : Array Value} {s : State} {m : MethodId} {meth : Method} {c : Code} (h1 : s.methodNamed? y = some m) (h2 : s.vm.method? m = some meth) (h3 : meth.code = some c) (h4 : c.code = bytes)
    (h5 : (c.maxLocals == mx && c.exceptionTable.isEmpty && decide (c.maxStack ≤ mostOperands) && decide (meth.sig.returnType = rt) && !meth.locks && decide (parseMethodDescriptor y.desc = some meth.sig)) = true) : (Jvm.Cond.code y bytes mx rt).before a s = true := by
  simp only [Bool.and_eq_true, beq_iff_eq, Bool.not_eq_true', decide_eq_true_eq] at h5
  obtain ⟨⟨⟨⟨⟨g1, g2⟩, g3⟩, g4⟩, g5⟩, g6⟩ := h5
  simp [Cond.before, Cond.holds, Cond.value, h1, h2, h3, h4, g1, g2, g3, g4, g5, g6]
def isCode : Jvm.Cond → Bool
  | .code _ _ _ _ => true
  | _ => false
theorem all_split {L : List Jvm.Cond} {P : Jvm.Cond → Bool} (h1 : L.all (fun c => isCode c || P c) = true) (h2 : ∀ c ∈ L.filter isCode, P c = true) : L.all P = true := by
  refine List.all_eq_true.mpr fun c hc => ?_
  have h := List.all_eq_true.mp h1 c hc
  rcases Bool.eq_false_or_eq_true (isCode c) with hi | hi
  · exact h2 c (List.mem_filter.mpr ⟨hc, hi⟩)
  · simpa [hi] using h
set_option maxRecDepth 65536 in
theorem w_c0 : (Jvm.Cond.code x code maxLocals ret).before args0 about1 = true := code_word (m := ⟨1, 1⟩) (meth := k1m1) (c := k1c1) (by decide +kernel) rfl rfl rfl (by decide +kernel)
set_option maxRecDepth 65536 in
theorem w_c1 : (Jvm.Cond.code ({ cls := "com/example/flipside/flipside/tool/WriterBlocks", name := "<init>", desc := "(II)V" } : Jvm.MethodName) prog_55_method_1_code (3 : Nat) (Option.none : Option Jvm.ClassFile.FieldType)).before args0 about1 = true := code_word (m := ⟨2, 0⟩) (meth := k2m0) (c := k2c0) (by decide +kernel) rfl rfl rfl (by decide +kernel)
set_option maxRecDepth 65536 in
theorem w_c2 : (Jvm.Cond.code ({ cls := "java/lang/Object", name := "<init>", desc := "()V" } : Jvm.MethodName) object_method_1_code (1 : Nat) (Option.none : Option Jvm.ClassFile.FieldType)).before args0 about1 = true := code_word (m := ⟨0, 0⟩) (meth := k0m0) (c := k0c0) (by decide +kernel) rfl rfl rfl (by decide +kernel)
set_option maxRecDepth 65536 in
theorem w_c3 : (Jvm.Cond.code ({ cls := "com/example/flipside/flipside/tool/WriterBlocks", name := "steps", desc := "(I)Lcom/example/flipside/flipside/tool/WriterBlocks$Steps;" } : Jvm.MethodName) prog_55_method_4_code (2 : Nat) (Option.some (Jvm.ClassFile.FieldType.object "com/example/flipside/flipside/tool/WriterBlocks$Steps"))).before args0 about1 = true := code_word (m := ⟨2, 1⟩) (meth := k2m1) (c := k2c1) (by decide +kernel) rfl rfl rfl (by decide +kernel)
set_option maxRecDepth 65536 in
theorem w_c4 : (Jvm.Cond.code ({ cls := "com/example/flipside/flipside/tool/WriterBlocks$Steps", name := "<init>", desc := "(III)V" } : Jvm.MethodName) prog_56_method_1_code (4 : Nat) (Option.none : Option Jvm.ClassFile.FieldType)).before args0 about1 = true := code_word (m := ⟨3, 0⟩) (meth := k3m0) (c := k3c0) (by decide +kernel) rfl rfl rfl (by decide +kernel)
set_option maxRecDepth 65536 in
theorem w_c5 : (Jvm.Cond.code ({ cls := "com/example/flipside/flipside/tool/WriterBlocks$Steps", name := "removed", desc := "()I" } : Jvm.MethodName) prog_56_method_2_code (1 : Nat) (Option.some Jvm.ClassFile.FieldType.int)).before args0 about1 = true := code_word (m := ⟨3, 1⟩) (meth := k3m1) (c := k3c1) (by decide +kernel) rfl rfl rfl (by decide +kernel)
set_option maxRecDepth 65536 in
theorem w_c6 : (Jvm.Cond.code ({ cls := "com/example/flipside/flipside/tool/WriterBlocks$Steps", name := "added", desc := "()I" } : Jvm.MethodName) prog_56_method_3_code (1 : Nat) (Option.some Jvm.ClassFile.FieldType.int)).before args0 about1 = true := code_word (m := ⟨3, 2⟩) (meth := k3m2) (c := k3c2) (by decide +kernel) rfl rfl rfl (by decide +kernel)
set_option maxRecDepth 65536 in
theorem w_c7 : (Jvm.Cond.code ({ cls := "com/example/flipside/flipside/tool/WriterBlocks$Steps", name := "next", desc := "()V" } : Jvm.MethodName) prog_56_method_4_code (1 : Nat) (Option.none : Option Jvm.ClassFile.FieldType)).before args0 about1 = true := code_word (m := ⟨3, 3⟩) (meth := k3m3) (c := k3c3) (by decide +kernel) rfl rfl rfl (by decide +kernel)
set_option maxRecDepth 65536 in
theorem w_c8 : (Jvm.Cond.code ({ cls := "com/example/flipside/flipside/tool/WriterBlocks$Steps", name := "following", desc := "(I)I" } : Jvm.MethodName) prog_56_method_5_code (2 : Nat) (Option.some Jvm.ClassFile.FieldType.int)).before args0 about1 = true := code_word (m := ⟨3, 4⟩) (meth := k3m4) (c := k3c4) (by decide +kernel) rfl rfl rfl (by decide +kernel)
set_option maxRecDepth 65536 in
theorem w_c9 : (Jvm.Cond.code ({ cls := "java/lang/Math", name := "min", desc := "(II)I" } : Jvm.MethodName) jdk_29_method_69_code (2 : Nat) (Option.some Jvm.ClassFile.FieldType.int)).before args0 about1 = true := code_word (m := ⟨4, 1⟩) (meth := k4m1) (c := k4c1) (by decide +kernel) rfl rfl rfl (by decide +kernel)
def codes1 : List Jvm.Cond := [Jvm.Cond.code x code maxLocals ret, Jvm.Cond.code ({ cls := "com/example/flipside/flipside/tool/WriterBlocks", name := "<init>", desc := "(II)V" } : Jvm.MethodName) prog_55_method_1_code (3 : Nat) (Option.none : Option Jvm.ClassFile.FieldType), Jvm.Cond.code ({ cls := "java/lang/Object", name := "<init>", desc := "()V" } : Jvm.MethodName) object_method_1_code (1 : Nat) (Option.none : Option Jvm.ClassFile.FieldType), Jvm.Cond.code ({ cls := "com/example/flipside/flipside/tool/WriterBlocks", name := "steps", desc := "(I)Lcom/example/flipside/flipside/tool/WriterBlocks$Steps;" } : Jvm.MethodName) prog_55_method_4_code (2 : Nat) (Option.some (Jvm.ClassFile.FieldType.object "com/example/flipside/flipside/tool/WriterBlocks$Steps")), Jvm.Cond.code ({ cls := "com/example/flipside/flipside/tool/WriterBlocks$Steps", name := "<init>", desc := "(III)V" } : Jvm.MethodName) prog_56_method_1_code (4 : Nat) (Option.none : Option Jvm.ClassFile.FieldType), Jvm.Cond.code ({ cls := "com/example/flipside/flipside/tool/WriterBlocks$Steps", name := "removed", desc := "()I" } : Jvm.MethodName) prog_56_method_2_code (1 : Nat) (Option.some Jvm.ClassFile.FieldType.int), Jvm.Cond.code ({ cls := "com/example/flipside/flipside/tool/WriterBlocks$Steps", name := "added", desc := "()I" } : Jvm.MethodName) prog_56_method_3_code (1 : Nat) (Option.some Jvm.ClassFile.FieldType.int), Jvm.Cond.code ({ cls := "com/example/flipside/flipside/tool/WriterBlocks$Steps", name := "next", desc := "()V" } : Jvm.MethodName) prog_56_method_4_code (1 : Nat) (Option.none : Option Jvm.ClassFile.FieldType), Jvm.Cond.code ({ cls := "com/example/flipside/flipside/tool/WriterBlocks$Steps", name := "following", desc := "(I)I" } : Jvm.MethodName) prog_56_method_5_code (2 : Nat) (Option.some Jvm.ClassFile.FieldType.int), Jvm.Cond.code ({ cls := "java/lang/Math", name := "min", desc := "(II)I" } : Jvm.MethodName) jdk_29_method_69_code (2 : Nat) (Option.some Jvm.ClassFile.FieldType.int)]
set_option maxRecDepth 65536 in
theorem codes_eq : words1.filter isCode = codes1 := rfl
theorem w_codes : ∀ c ∈ words1.filter isCode, c.before args0 about1 = true := by
  rw [codes_eq]
  intro c hc
  simp only [codes1, List.mem_cons, List.not_mem_nil, or_false] at hc
  rcases hc with rfl | rfl | rfl | rfl | rfl | rfl | rfl | rfl | rfl | rfl
  · exact w_c0
  · exact w_c1
  · exact w_c2
  · exact w_c3
  · exact w_c4
  · exact w_c5
  · exact w_c6
  · exact w_c7
  · exact w_c8
  · exact w_c9
set_option maxRecDepth 65536 in
theorem w_t1 : (words1.take 24).all (fun c => isCode c || c.before args0 about1) = true := by decide +kernel
set_option maxRecDepth 65536 in
theorem w_t2 : ((words1.drop 24).take 24).all (fun c => isCode c || c.before args0 about1) = true := by decide +kernel
set_option maxRecDepth 65536 in
theorem w_t3 : ((words1.drop 24).drop 24).all (fun c => isCode c || c.before args0 about1) = true := by decide +kernel
theorem w_tables : (allAtoms (Jvm.Cond.code x code maxLocals ret :: tables_1)).before args0 about1 = true := by
  rw [allAtoms_all]
  show words1.all (fun c => c.before args0 about1) = true
  refine all_split ?_ w_codes
  rw [← List.take_append_drop 24 words1, List.all_append, w_t1, ← List.take_append_drop 24 (words1.drop 24), List.all_append, w_t2, w_t3]
  rfl
set_option maxRecDepth 65536 in
theorem w_case : (Jvm.Cond.and given_1 narrow_1).before args0 about1 = true := by decide +kernel
theorem w_applies : (headSpec (Jvm.Cond.code x code maxLocals ret :: tables_1) room_1).applies x e0.platform about1 = true :=
  (Spec.applies_iff w_frames).mpr ⟨w_running, w_runnable, w_alone, w_named, w_hears, w_ripe, w_room, w_tables⟩
theorem atStart : AtStart classFile x code maxLocals ret World_1 tables_1 room_1 Calls_1 rest_1 Pre_1 launch0 p0 e0 about1 theMethod args0 below0 :=
  ⟨lists_1, trivial, launch0.admits_env _ _ _, launch0.least_env, fairChoices_fair.cas, fairChoices_fair.clock, w_frames, w_args, w_heap, w_applies, trivial, trivial, w_case⟩
end start1
theorem witness_1 : WitnessClaimed_1 := ⟨start1.p0, start1.e0, start1.about1, start1.theMethod, start1.args0, start1.below0, start1.atStart⟩
end Jvm.Pilot.@@N@@
