import JvmDerived
import JvmDerived.Pilot.@@N@@Statement
import JvmDerived.Pilot.@@N@@Code
set_option linter.unusedVariables false
set_option linter.unusedSimpArgs false
namespace Jvm.Pilot.@@N@@
open Jvm Jvm.ClassFile Sem Op Lib Jvm.Free Jvm.Stand Jvm.LawKit Jvm.RoadKit Bundle Jvm.Pilot.@@N@@.Jvm.D
/-! 0. one goal for a walk: from T with the frame g on top the run comes back with what Q says -/
def own_W (p : Program) (e : Env) (En : Outcome → State → List Loc → Nat → Nat → Prop) (below : List Frame) (kc ks : Nat) (Q : Option Value → Heap → List Loc → Prop) (T : State) (g : JFrame) : Prop :=
  ∃ s₂ o, Steps p.tables e below (T.setTop g) s₂ ∧ s₂.status = .running ∧ Ended s₂ below o ∧ ∃ v L, o = .returned v ∧ Q v s₂.heap L ∧ En o s₂ L kc ks
section OwnW
variable {En : Outcome → State → List Loc → Nat → Nat → Prop} {p : Program} {l : Launch} {e : Env} {R : Room} {s : State} {m : MethodId} {args : Array Value} {below : List Frame} {meth : Method} {c : Code} {T T' : State} {locs : List Loc} {cells slots kc ks : Nat} {Q : Option Value → Heap → List Loc → Prop} {g g' : JFrame} {pc pc' : Nat} {Ls : Array Slot} {st rest : List Value} {Z : State} {h h' : Heap} {a b : Addr} {sl : Nat}
theorem own_W.step (k : ∀ t, Steps p.tables e below (T'.setTop g') t → Steps p.tables e below (T.setTop g) t) (w : own_W p e En below kc ks Q T' g') : own_W p e En below kc ks Q T g := by
  obtain ⟨s2, o, h1, h2⟩ := w
  exact ⟨s2, o, k _ h1, h2⟩
theorem own_W.steps (k : Steps p.tables e below (T.setTop g) (T'.setTop g')) (w : own_W p e En below kc ks Q T' g') : own_W p e En below kc ks Q T g := by
  obtain ⟨s2, o, h1, h2⟩ := w
  exact ⟨s2, o, k.trans h1, h2⟩
theorem own_leave (X : Stand p l e R s m args below meth c T locs cells slots) (hlk : meth.locks = false) {v : Option Value} (hv : meth.sig.returnType = none → v = none) (hc : cells ≤ kc) (hs : slots ≤ ks)
    (k : ∀ fs, (∀ (f : JFrame) (acts : List Action), f.method = m → f.locked = none → f.entered = [] → (doReturn e (T.setTop f) acts v).1 = T.setFrames fs) → Steps p.tables e below (T.setTop g) (T.setFrames fs)) (hQ : Q v T.heap locs) : own_W p e (FrameEnd s) below kc ks Q T g := by
  obtain ⟨fs, hr, hrun, hended, hW, hsame⟩ := X.leave (v := v) hv hlk
  exact ⟨_, _, k fs hr, hrun, hended, v, locs, rfl, hQ, ⟨_, rfl⟩, hW, hsame.mono hc hs⟩
theorem own_retV (X : Stand p l e R s m args below meth c T locs cells slots) (hx : p.tables.exec = Jvm.exec) (hlk : meth.locks = false) (hret : meth.sig.returnType = none) (hd : decode c.code pc = .ok (.return_, 1)) (hc : cells ≤ kc) (hs : slots ≤ ks) (hQ : Q none T.heap locs) : own_W p e (FrameEnd s) below kc ks Q T (mkF m pc Ls []) :=
  own_leave X hlk (fun _ => rfl) hc hs (fun fs hr => X.returnOut hx hret hd hr) hQ
theorem own_retN {t : FieldType} (X : Stand p l e R s m args below meth c T locs cells slots) (hx : p.tables.exec = Jvm.exec) (hlk : meth.locks = false) (hret : meth.sig.returnType = some t) (ht : t = .boolean ∨ t = .byte ∨ t = .char ∨ t = .short) (hd : decode c.code pc = .ok (.ireturn, 1)) {z z' : Int32} (hz : nar t z = z') (hc : cells ≤ kc) (hs : slots ≤ ks) (hQ : Q (some (.int z')) T.heap locs) : own_W p e (FrameEnd s) below kc ks Q T (mkF m pc Ls (.int z :: rest)) := by
  subst hz
  exact own_leave X hlk (fun q => by rw [hret] at q; cases q) hc hs (fun fs hr => retN X hx hret ht hd hr) hQ
theorem own_retI (X : Stand p l e R s m args below meth c T locs cells slots) (hx : p.tables.exec = Jvm.exec) (hlk : meth.locks = false) (hret : meth.sig.returnType = some .int) (hd : decode c.code pc = .ok (.ireturn, 1)) {z : Int32} (hc : cells ≤ kc) (hs : slots ≤ ks) (hQ : Q (some (.int z)) T.heap locs) : own_W p e (FrameEnd s) below kc ks Q T (mkF m pc Ls (.int z :: rest)) :=
  own_leave X hlk (fun q => by rw [hret] at q; cases q) hc hs (fun fs hr => retOut X hx (t := .int) (w := .int z) (i := .ireturn) hret rfl (Or.inl ⟨rfl, Or.inl rfl, z, rfl⟩) hd hr) hQ
theorem own_retJ (X : Stand p l e R s m args below meth c T locs cells slots) (hx : p.tables.exec = Jvm.exec) (hlk : meth.locks = false) (hret : meth.sig.returnType = some .long) (hd : decode c.code pc = .ok (.lreturn, 1)) {z : Int64} (hc : cells ≤ kc) (hs : slots ≤ ks) (hQ : Q (some (.long z)) T.heap locs) : own_W p e (FrameEnd s) below kc ks Q T (mkF m pc Ls (.long z :: rest)) :=
  own_leave X hlk (fun q => by rw [hret] at q; cases q) hc hs (fun fs hr => retOut X hx (t := .long) (w := .long z) (i := .lreturn) hret rfl (Or.inr (Or.inl ⟨rfl, rfl, z, rfl⟩)) hd hr) hQ
theorem own_retA {t : FieldType} (X : Stand p l e R s m args below meth c T locs cells slots) (hx : p.tables.exec = Jvm.exec) (hlk : meth.locks = false) (hret : meth.sig.returnType = some t) (hn : narrow t (.ref a) = .ref a) (ht : t.isReference = true) (hd : decode c.code pc = .ok (.areturn, 1)) (hc : cells ≤ kc) (hs : slots ≤ ks) (hQ : Q (some (.ref a)) T.heap locs) : own_W p e (FrameEnd s) below kc ks Q T (mkF m pc Ls (.ref a :: rest)) :=
  own_leave X hlk (fun q => by rw [hret] at q; cases q) hc hs (fun fs hr => retOut X hx (t := t) (w := .ref a) (i := .areturn) hret hn (Or.inr (Or.inr (Or.inr (Or.inr ⟨rfl, ht, rfl⟩)))) hd hr) hQ
theorem own_iload (X : Stand p l e R s m args below meth c T locs cells slots) (hx : p.tables.exec = Jvm.exec) {k : Nat} {v : Int32} (hd : decode c.code pc = .ok (.iload k, 2)) (hl : Ls[k]? = some (.val (.int v))) (hp : pc + 2 = pc') (w : own_W p e En below kc ks Q T (mkF m pc' Ls (.int v :: st))) : own_W p e En below kc ks Q T (mkF m pc Ls (st)) := by
  subst hp; exact own_W.step (fun _ q => XS.iload X.here hx rfl hd hl q) w
theorem own_iloadN (X : Stand p l e R s m args below meth c T locs cells slots) (hx : p.tables.exec = Jvm.exec) {k : Fin 4} {v : Int32} (hd : decode c.code pc = .ok (.iload_n k, 1)) (hl : Ls[k.val]? = some (.val (.int v))) (hp : pc + 1 = pc') (w : own_W p e En below kc ks Q T (mkF m pc' Ls (.int v :: st))) : own_W p e En below kc ks Q T (mkF m pc Ls (st)) := by
  subst hp; exact own_W.step (fun _ q => XS.iloadN X.here hx rfl hd hl q) w
theorem own_lload (X : Stand p l e R s m args below meth c T locs cells slots) (hx : p.tables.exec = Jvm.exec) {k : Nat} {v : Int64} (hd : decode c.code pc = .ok (.lload k, 2)) (hl : Ls[k]? = some (.val (.long v))) (hp : pc + 2 = pc') (w : own_W p e En below kc ks Q T (mkF m pc' Ls (.long v :: st))) : own_W p e En below kc ks Q T (mkF m pc Ls (st)) := by
  subst hp; exact own_W.step (fun _ q => XS.lload X.here hx rfl hd hl q) w
theorem own_lloadN (X : Stand p l e R s m args below meth c T locs cells slots) (hx : p.tables.exec = Jvm.exec) {k : Fin 4} {v : Int64} (hd : decode c.code pc = .ok (.lload_n k, 1)) (hl : Ls[k.val]? = some (.val (.long v))) (hp : pc + 1 = pc') (w : own_W p e En below kc ks Q T (mkF m pc' Ls (.long v :: st))) : own_W p e En below kc ks Q T (mkF m pc Ls (st)) := by
  subst hp; exact own_W.step (fun _ q => XS.lloadN X.here hx rfl hd hl q) w
theorem own_aload (X : Stand p l e R s m args below meth c T locs cells slots) (hx : p.tables.exec = Jvm.exec) {k : Nat} {v : Value} (hd : decode c.code pc = .ok (.aload k, 2)) (hl : Ls[k]? = some (.val v)) (hv : v.isRef = true) (hp : pc + 2 = pc') (w : own_W p e En below kc ks Q T (mkF m pc' Ls (v :: st))) : own_W p e En below kc ks Q T (mkF m pc Ls (st)) := by
  subst hp; exact own_W.step (fun _ q => XS.aload X.here hx rfl hd hl hv q) w
theorem own_aloadN (X : Stand p l e R s m args below meth c T locs cells slots) (hx : p.tables.exec = Jvm.exec) {k : Fin 4} {v : Value} (hd : decode c.code pc = .ok (.aload_n k, 1)) (hl : Ls[k.val]? = some (.val v)) (hv : v.isRef = true) (hp : pc + 1 = pc') (w : own_W p e En below kc ks Q T (mkF m pc' Ls (v :: st))) : own_W p e En below kc ks Q T (mkF m pc Ls (st)) := by
  subst hp; exact own_W.step (fun _ q => XS.aloadN X.here hx rfl hd hl hv q) w
theorem own_istore (X : Stand p l e R s m args below meth c T locs cells slots) (hx : p.tables.exec = Jvm.exec) {k : Nat} {v : Int32} {l' : Array Slot} (hd : decode c.code pc = .ok (.istore k, 2)) (hl : storeLocals Ls k (.int v) = some l') (hp : pc + 2 = pc') (w : own_W p e En below kc ks Q T (mkF m pc' l' (st))) : own_W p e En below kc ks Q T (mkF m pc Ls (.int v :: st)) := by
  subst hp; exact own_W.step (fun _ q => XS.istore X.here hx rfl hd rfl hl q) w
theorem own_istoreN (X : Stand p l e R s m args below meth c T locs cells slots) (hx : p.tables.exec = Jvm.exec) {k : Fin 4} {v : Int32} {l' : Array Slot} (hd : decode c.code pc = .ok (.istore_n k, 1)) (hl : storeLocals Ls k.val (.int v) = some l') (hp : pc + 1 = pc') (w : own_W p e En below kc ks Q T (mkF m pc' l' (st))) : own_W p e En below kc ks Q T (mkF m pc Ls (.int v :: st)) := by
  subst hp; exact own_W.step (fun _ q => XS.istoreN X.here hx rfl hd rfl hl q) w
theorem own_lstore (X : Stand p l e R s m args below meth c T locs cells slots) (hx : p.tables.exec = Jvm.exec) {k : Nat} {v : Int64} {l' : Array Slot} (hd : decode c.code pc = .ok (.lstore k, 2)) (hl : storeLocals Ls k (.long v) = some l') (hp : pc + 2 = pc') (w : own_W p e En below kc ks Q T (mkF m pc' l' (st))) : own_W p e En below kc ks Q T (mkF m pc Ls (.long v :: st)) := by
  subst hp; exact own_W.step (fun _ q => XS.lstore X.here hx rfl hd rfl hl q) w
theorem own_lstoreN (X : Stand p l e R s m args below meth c T locs cells slots) (hx : p.tables.exec = Jvm.exec) {k : Fin 4} {v : Int64} {l' : Array Slot} (hd : decode c.code pc = .ok (.lstore_n k, 1)) (hl : storeLocals Ls k.val (.long v) = some l') (hp : pc + 1 = pc') (w : own_W p e En below kc ks Q T (mkF m pc' l' (st))) : own_W p e En below kc ks Q T (mkF m pc Ls (.long v :: st)) := by
  subst hp; exact own_W.step (fun _ q => XS.lstoreN X.here hx rfl hd rfl hl q) w
theorem own_astore (X : Stand p l e R s m args below meth c T locs cells slots) (hx : p.tables.exec = Jvm.exec) {k : Nat} {v : Value} {l' : Array Slot} (hd : decode c.code pc = .ok (.astore k, 2)) (hv : v.isRef = true) (hl : storeLocals Ls k v = some l') (hp : pc + 2 = pc') (w : own_W p e En below kc ks Q T (mkF m pc' l' (st))) : own_W p e En below kc ks Q T (mkF m pc Ls (v :: st)) := by
  subst hp; exact own_W.step (fun _ q => XS.astore X.here hx rfl hd rfl hv hl q) w
theorem own_astoreN (X : Stand p l e R s m args below meth c T locs cells slots) (hx : p.tables.exec = Jvm.exec) {k : Fin 4} {v : Value} {l' : Array Slot} (hd : decode c.code pc = .ok (.astore_n k, 1)) (hv : v.isRef = true) (hl : storeLocals Ls k.val v = some l') (hp : pc + 1 = pc') (w : own_W p e En below kc ks Q T (mkF m pc' l' (st))) : own_W p e En below kc ks Q T (mkF m pc Ls (v :: st)) := by
  subst hp; exact own_W.step (fun _ q => XS.astoreN X.here hx rfl hd rfl hv hl q) w
theorem own_iconst (X : Stand p l e R s m args below meth c T locs cells slots) (hx : p.tables.exec = Jvm.exec) {i : Int} (hd : decode c.code pc = .ok (.iconst i, 1)) (v : Int32) (hv : Int32.ofInt i = v) (hp : pc + 1 = pc') (w : own_W p e En below kc ks Q T (mkF m pc' Ls (.int v :: st))) : own_W p e En below kc ks Q T (mkF m pc Ls (st)) := by
  subst hp; exact own_W.step (fun _ q => XT.iconstV X.here hx rfl v hd hv q) w
theorem own_bipush (X : Stand p l e R s m args below meth c T locs cells slots) (hx : p.tables.exec = Jvm.exec) {i : Int} (hd : decode c.code pc = .ok (.bipush i, 2)) (v : Int32) (hv : (Int8.ofInt i).toInt32 = v) (hp : pc + 2 = pc') (w : own_W p e En below kc ks Q T (mkF m pc' Ls (.int v :: st))) : own_W p e En below kc ks Q T (mkF m pc Ls (st)) := by
  subst hp; exact own_W.step (fun _ q => XT.bipushV X.here hx rfl v hd hv q) w
theorem own_sipush (X : Stand p l e R s m args below meth c T locs cells slots) (hx : p.tables.exec = Jvm.exec) {i : Int} (hd : decode c.code pc = .ok (.sipush i, 3)) (v : Int32) (hv : (Int16.ofInt i).toInt32 = v) (hp : pc + 3 = pc') (w : own_W p e En below kc ks Q T (mkF m pc' Ls (.int v :: st))) : own_W p e En below kc ks Q T (mkF m pc Ls (st)) := by
  subst hp; exact own_W.step (fun _ q => XT.sipushV X.here hx rfl v hd hv q) w
theorem own_lconst (X : Stand p l e R s m args below meth c T locs cells slots) (hx : p.tables.exec = Jvm.exec) {k : Fin 2} (hd : decode c.code pc = .ok (.lconst k, 1)) (v : Int64) (hv : Int64.ofNat k = v) (hp : pc + 1 = pc') (w : own_W p e En below kc ks Q T (mkF m pc' Ls (.long v :: st))) : own_W p e En below kc ks Q T (mkF m pc Ls (st)) := by
  subst hp; exact own_W.step (fun _ q => XT.lconstV X.here hx rfl v hd hv q) w
theorem own_aconstNull (X : Stand p l e R s m args below meth c T locs cells slots) (hx : p.tables.exec = Jvm.exec)  (hd : decode c.code pc = .ok (.aconst_null, 1))  (hp : pc + 1 = pc') (w : own_W p e En below kc ks Q T (mkF m pc' Ls (.null :: st))) : own_W p e En below kc ks Q T (mkF m pc Ls (st)) := by
  subst hp; exact own_W.step (fun _ q => XS.aconstNull X.here hx rfl hd q) w
theorem own_ldcInt (X : Stand p l e R s m args below meth c T locs cells slots) (hx : p.tables.exec = Jvm.exec) {own : String} {index : Nat} {v : Int32} (hown : s.vm.findClass own = some m.cls) (hk : (Jvm.Cond.constant own index v).before args s = true) (hd : decode c.code pc = .ok (.ldc index, 2)) (hp : pc + 2 = pc') (w : own_W p e En below kc ks Q T (mkF m pc' Ls (.int v :: st))) : own_W p e En below kc ks Q T (mkF m pc Ls st) := by
  subst hp; exact own_W.step (X.ldcInt hx hown hk (g := mkF m pc Ls st) rfl hd) w
theorem own_ldcwInt (X : Stand p l e R s m args below meth c T locs cells slots) (hx : p.tables.exec = Jvm.exec) {own : String} {index : Nat} {v : Int32} (hown : s.vm.findClass own = some m.cls) (hk : (Jvm.Cond.constant own index v).before args s = true) (hd : decode c.code pc = .ok (.ldc_w index, 3)) (hp : pc + 3 = pc') (w : own_W p e En below kc ks Q T (mkF m pc' Ls (.int v :: st))) : own_W p e En below kc ks Q T (mkF m pc Ls st) := by
  subst hp; exact own_W.step (X.ldcwInt hx hown hk (g := mkF m pc Ls st) rfl hd) w
theorem own_ldc2Long (X : Stand p l e R s m args below meth c T locs cells slots) (hx : p.tables.exec = Jvm.exec) {own : String} {index : Nat} {v : Int64} (hown : s.vm.findClass own = some m.cls) (hk : (Jvm.Cond.constantLong own index v).before args s = true) (hd : decode c.code pc = .ok (.ldc2_w index, 3)) (hp : pc + 3 = pc') (w : own_W p e En below kc ks Q T (mkF m pc' Ls (.long v :: st))) : own_W p e En below kc ks Q T (mkF m pc Ls st) := by
  subst hp; exact own_W.step (X.ldc2Long hx hown hk (g := mkF m pc Ls st) rfl hd) w
theorem own_iadd (X : Stand p l e R s m args below meth c T locs cells slots) (hx : p.tables.exec = Jvm.exec) {x y : Int32} (hd : decode c.code pc = .ok (.iadd, 1))  (hp : pc + 1 = pc') (w : own_W p e En below kc ks Q T (mkF m pc' Ls (.int (x + y) :: st))) : own_W p e En below kc ks Q T (mkF m pc Ls (.int y :: .int x :: st)) := by
  subst hp; exact own_W.step (fun _ q => XS.iadd X.here hx rfl hd rfl q) w
theorem own_ladd (X : Stand p l e R s m args below meth c T locs cells slots) (hx : p.tables.exec = Jvm.exec) {x y : Int64} (hd : decode c.code pc = .ok (.ladd, 1))  (hp : pc + 1 = pc') (w : own_W p e En below kc ks Q T (mkF m pc' Ls (.long (x + y) :: st))) : own_W p e En below kc ks Q T (mkF m pc Ls (.long y :: .long x :: st)) := by
  subst hp; exact own_W.step (fun _ q => XS.ladd X.here hx rfl hd rfl q) w
theorem own_isub (X : Stand p l e R s m args below meth c T locs cells slots) (hx : p.tables.exec = Jvm.exec) {x y : Int32} (hd : decode c.code pc = .ok (.isub, 1))  (hp : pc + 1 = pc') (w : own_W p e En below kc ks Q T (mkF m pc' Ls (.int (x - y) :: st))) : own_W p e En below kc ks Q T (mkF m pc Ls (.int y :: .int x :: st)) := by
  subst hp; exact own_W.step (fun _ q => XS.isub X.here hx rfl hd rfl q) w
theorem own_lsub (X : Stand p l e R s m args below meth c T locs cells slots) (hx : p.tables.exec = Jvm.exec) {x y : Int64} (hd : decode c.code pc = .ok (.lsub, 1))  (hp : pc + 1 = pc') (w : own_W p e En below kc ks Q T (mkF m pc' Ls (.long (x - y) :: st))) : own_W p e En below kc ks Q T (mkF m pc Ls (.long y :: .long x :: st)) := by
  subst hp; exact own_W.step (fun _ q => XS.lsub X.here hx rfl hd rfl q) w
theorem own_imul (X : Stand p l e R s m args below meth c T locs cells slots) (hx : p.tables.exec = Jvm.exec) {x y : Int32} (hd : decode c.code pc = .ok (.imul, 1))  (hp : pc + 1 = pc') (w : own_W p e En below kc ks Q T (mkF m pc' Ls (.int (x * y) :: st))) : own_W p e En below kc ks Q T (mkF m pc Ls (.int y :: .int x :: st)) := by
  subst hp; exact own_W.step (fun _ q => XS.imul X.here hx rfl hd rfl q) w
theorem own_lmul (X : Stand p l e R s m args below meth c T locs cells slots) (hx : p.tables.exec = Jvm.exec) {x y : Int64} (hd : decode c.code pc = .ok (.lmul, 1))  (hp : pc + 1 = pc') (w : own_W p e En below kc ks Q T (mkF m pc' Ls (.long (x * y) :: st))) : own_W p e En below kc ks Q T (mkF m pc Ls (.long y :: .long x :: st)) := by
  subst hp; exact own_W.step (fun _ q => XS.lmul X.here hx rfl hd rfl q) w
theorem own_iand (X : Stand p l e R s m args below meth c T locs cells slots) (hx : p.tables.exec = Jvm.exec) {x y : Int32} (hd : decode c.code pc = .ok (.iand, 1))  (hp : pc + 1 = pc') (w : own_W p e En below kc ks Q T (mkF m pc' Ls (.int (x &&& y) :: st))) : own_W p e En below kc ks Q T (mkF m pc Ls (.int y :: .int x :: st)) := by
  subst hp; exact own_W.step (fun _ q => XS.iand X.here hx rfl hd rfl q) w
theorem own_land (X : Stand p l e R s m args below meth c T locs cells slots) (hx : p.tables.exec = Jvm.exec) {x y : Int64} (hd : decode c.code pc = .ok (.land, 1))  (hp : pc + 1 = pc') (w : own_W p e En below kc ks Q T (mkF m pc' Ls (.long (x &&& y) :: st))) : own_W p e En below kc ks Q T (mkF m pc Ls (.long y :: .long x :: st)) := by
  subst hp; exact own_W.step (fun _ q => XS.land X.here hx rfl hd rfl q) w
theorem own_ior (X : Stand p l e R s m args below meth c T locs cells slots) (hx : p.tables.exec = Jvm.exec) {x y : Int32} (hd : decode c.code pc = .ok (.ior, 1))  (hp : pc + 1 = pc') (w : own_W p e En below kc ks Q T (mkF m pc' Ls (.int (x ||| y) :: st))) : own_W p e En below kc ks Q T (mkF m pc Ls (.int y :: .int x :: st)) := by
  subst hp; exact own_W.step (fun _ q => XS.ior X.here hx rfl hd rfl q) w
theorem own_lor (X : Stand p l e R s m args below meth c T locs cells slots) (hx : p.tables.exec = Jvm.exec) {x y : Int64} (hd : decode c.code pc = .ok (.lor, 1))  (hp : pc + 1 = pc') (w : own_W p e En below kc ks Q T (mkF m pc' Ls (.long (x ||| y) :: st))) : own_W p e En below kc ks Q T (mkF m pc Ls (.long y :: .long x :: st)) := by
  subst hp; exact own_W.step (fun _ q => XS.lor X.here hx rfl hd rfl q) w
theorem own_ixor (X : Stand p l e R s m args below meth c T locs cells slots) (hx : p.tables.exec = Jvm.exec) {x y : Int32} (hd : decode c.code pc = .ok (.ixor, 1))  (hp : pc + 1 = pc') (w : own_W p e En below kc ks Q T (mkF m pc' Ls (.int (x ^^^ y) :: st))) : own_W p e En below kc ks Q T (mkF m pc Ls (.int y :: .int x :: st)) := by
  subst hp; exact own_W.step (fun _ q => XS.ixor X.here hx rfl hd rfl q) w
theorem own_lxor (X : Stand p l e R s m args below meth c T locs cells slots) (hx : p.tables.exec = Jvm.exec) {x y : Int64} (hd : decode c.code pc = .ok (.lxor, 1))  (hp : pc + 1 = pc') (w : own_W p e En below kc ks Q T (mkF m pc' Ls (.long (x ^^^ y) :: st))) : own_W p e En below kc ks Q T (mkF m pc Ls (.long y :: .long x :: st)) := by
  subst hp; exact own_W.step (fun _ q => XS.lxor X.here hx rfl hd rfl q) w
theorem own_idiv (X : Stand p l e R s m args below meth c T locs cells slots) (hx : p.tables.exec = Jvm.exec) {x y : Int32} (hd : decode c.code pc = .ok (.idiv, 1)) (hy : y ≠ 0) (hp : pc + 1 = pc') (w : own_W p e En below kc ks Q T (mkF m pc' Ls (.int (x / y) :: st))) : own_W p e En below kc ks Q T (mkF m pc Ls (.int y :: .int x :: st)) := by
  subst hp; exact own_W.step (fun _ q => XS.idiv X.here hx rfl hd rfl hy q) w
theorem own_ldiv (X : Stand p l e R s m args below meth c T locs cells slots) (hx : p.tables.exec = Jvm.exec) {x y : Int64} (hd : decode c.code pc = .ok (.ldiv, 1)) (hy : y ≠ 0) (hp : pc + 1 = pc') (w : own_W p e En below kc ks Q T (mkF m pc' Ls (.long (x / y) :: st))) : own_W p e En below kc ks Q T (mkF m pc Ls (.long y :: .long x :: st)) := by
  subst hp; exact own_W.step (fun _ q => XS.ldiv X.here hx rfl hd rfl hy q) w
theorem own_irem (X : Stand p l e R s m args below meth c T locs cells slots) (hx : p.tables.exec = Jvm.exec) {x y : Int32} (hd : decode c.code pc = .ok (.irem, 1)) (hy : y ≠ 0) (hp : pc + 1 = pc') (w : own_W p e En below kc ks Q T (mkF m pc' Ls (.int (x % y) :: st))) : own_W p e En below kc ks Q T (mkF m pc Ls (.int y :: .int x :: st)) := by
  subst hp; exact own_W.step (fun _ q => iremM X hx rfl hd rfl hy q) w
theorem own_lrem (X : Stand p l e R s m args below meth c T locs cells slots) (hx : p.tables.exec = Jvm.exec) {x y : Int64} (hd : decode c.code pc = .ok (.lrem, 1)) (hy : y ≠ 0) (hp : pc + 1 = pc') (w : own_W p e En below kc ks Q T (mkF m pc' Ls (.long (x % y) :: st))) : own_W p e En below kc ks Q T (mkF m pc Ls (.long y :: .long x :: st)) := by
  subst hp; exact own_W.step (fun _ q => XS.lrem X.here hx rfl hd rfl hy (by rw [lrem_mod]; exact q)) w
theorem own_ineg (X : Stand p l e R s m args below meth c T locs cells slots) (hx : p.tables.exec = Jvm.exec) {x : Int32} (hd : decode c.code pc = .ok (.ineg, 1))  (hp : pc + 1 = pc') (w : own_W p e En below kc ks Q T (mkF m pc' Ls (.int (-x) :: st))) : own_W p e En below kc ks Q T (mkF m pc Ls (.int x :: st)) := by
  subst hp; exact own_W.step (fun _ q => XS.ineg X.here hx rfl hd rfl q) w
theorem own_lneg (X : Stand p l e R s m args below meth c T locs cells slots) (hx : p.tables.exec = Jvm.exec) {x : Int64} (hd : decode c.code pc = .ok (.lneg, 1))  (hp : pc + 1 = pc') (w : own_W p e En below kc ks Q T (mkF m pc' Ls (.long (-x) :: st))) : own_W p e En below kc ks Q T (mkF m pc Ls (.long x :: st)) := by
  subst hp; exact own_W.step (fun _ q => XS.lneg X.here hx rfl hd rfl q) w
theorem own_i2l (X : Stand p l e R s m args below meth c T locs cells slots) (hx : p.tables.exec = Jvm.exec) {x : Int32} (hd : decode c.code pc = .ok (.i2l, 1))  (hp : pc + 1 = pc') (w : own_W p e En below kc ks Q T (mkF m pc' Ls (.long (x.toInt64) :: st))) : own_W p e En below kc ks Q T (mkF m pc Ls (.int x :: st)) := by
  subst hp; exact own_W.step (fun _ q => XS.i2l X.here hx rfl hd rfl q) w
theorem own_l2i (X : Stand p l e R s m args below meth c T locs cells slots) (hx : p.tables.exec = Jvm.exec) {x : Int64} (hd : decode c.code pc = .ok (.l2i, 1))  (hp : pc + 1 = pc') (w : own_W p e En below kc ks Q T (mkF m pc' Ls (.int (x.toInt32) :: st))) : own_W p e En below kc ks Q T (mkF m pc Ls (.long x :: st)) := by
  subst hp; exact own_W.step (fun _ q => XS.l2i X.here hx rfl hd rfl q) w
theorem own_i2b (X : Stand p l e R s m args below meth c T locs cells slots) (hx : p.tables.exec = Jvm.exec) {x : Int32} (hd : decode c.code pc = .ok (.i2b, 1))  (hp : pc + 1 = pc') (w : own_W p e En below kc ks Q T (mkF m pc' Ls (.int (x.toInt8.toInt32) :: st))) : own_W p e En below kc ks Q T (mkF m pc Ls (.int x :: st)) := by
  subst hp; exact own_W.step (fun _ q => XS.i2b X.here hx rfl hd rfl q) w
theorem own_i2s (X : Stand p l e R s m args below meth c T locs cells slots) (hx : p.tables.exec = Jvm.exec) {x : Int32} (hd : decode c.code pc = .ok (.i2s, 1))  (hp : pc + 1 = pc') (w : own_W p e En below kc ks Q T (mkF m pc' Ls (.int (x.toInt16.toInt32) :: st))) : own_W p e En below kc ks Q T (mkF m pc Ls (.int x :: st)) := by
  subst hp; exact own_W.step (fun _ q => XS.i2s X.here hx rfl hd rfl q) w
theorem own_i2c (X : Stand p l e R s m args below meth c T locs cells slots) (hx : p.tables.exec = Jvm.exec) {x : Int32} (hd : decode c.code pc = .ok (.i2c, 1))  (hp : pc + 1 = pc') (w : own_W p e En below kc ks Q T (mkF m pc' Ls (.int (x.toUInt32.toUInt16.toUInt32.toInt32) :: st))) : own_W p e En below kc ks Q T (mkF m pc Ls (.int x :: st)) := by
  subst hp; exact own_W.step (fun _ q => XS.i2c X.here hx rfl hd rfl q) w
theorem own_ishl (X : Stand p l e R s m args below meth c T locs cells slots) (hx : p.tables.exec = Jvm.exec) {x y : Int32} (hd : decode c.code pc = .ok (.ishl, 1))  (hp : pc + 1 = pc') (w : own_W p e En below kc ks Q T (mkF m pc' Ls (.int (x <<< (y &&& 31)) :: st))) : own_W p e En below kc ks Q T (mkF m pc Ls (.int y :: .int x :: st)) := by
  subst hp; exact own_W.step (fun _ q => XS.ishl X.here hx rfl hd rfl q) w
theorem own_ishr (X : Stand p l e R s m args below meth c T locs cells slots) (hx : p.tables.exec = Jvm.exec) {x y : Int32} (hd : decode c.code pc = .ok (.ishr, 1))  (hp : pc + 1 = pc') (w : own_W p e En below kc ks Q T (mkF m pc' Ls (.int (x >>> (y &&& 31)) :: st))) : own_W p e En below kc ks Q T (mkF m pc Ls (.int y :: .int x :: st)) := by
  subst hp; exact own_W.step (fun _ q => XS.ishr X.here hx rfl hd rfl q) w
theorem own_iushr (X : Stand p l e R s m args below meth c T locs cells slots) (hx : p.tables.exec = Jvm.exec) {x y : Int32} (hd : decode c.code pc = .ok (.iushr, 1))  (hp : pc + 1 = pc') (w : own_W p e En below kc ks Q T (mkF m pc' Ls (.int ((x.toUInt32 >>> (y &&& 31).toUInt32).toInt32) :: st))) : own_W p e En below kc ks Q T (mkF m pc Ls (.int y :: .int x :: st)) := by
  subst hp; exact own_W.step (fun _ q => XS.iushr X.here hx rfl hd rfl q) w
theorem own_lshl (X : Stand p l e R s m args below meth c T locs cells slots) (hx : p.tables.exec = Jvm.exec) {x : Int64} {y : Int32} (hd : decode c.code pc = .ok (.lshl, 1))  (hp : pc + 1 = pc') (w : own_W p e En below kc ks Q T (mkF m pc' Ls (.long (x <<< (y &&& 0x3f).toInt64) :: st))) : own_W p e En below kc ks Q T (mkF m pc Ls (.int y :: .long x :: st)) := by
  subst hp; exact own_W.step (fun _ q => XS.lshl X.here hx rfl hd rfl q) w
theorem own_lshr (X : Stand p l e R s m args below meth c T locs cells slots) (hx : p.tables.exec = Jvm.exec) {x : Int64} {y : Int32} (hd : decode c.code pc = .ok (.lshr, 1))  (hp : pc + 1 = pc') (w : own_W p e En below kc ks Q T (mkF m pc' Ls (.long (x >>> (y &&& 0x3f).toInt64) :: st))) : own_W p e En below kc ks Q T (mkF m pc Ls (.int y :: .long x :: st)) := by
  subst hp; exact own_W.step (fun _ q => XS.lshr X.here hx rfl hd rfl q) w
theorem own_lushr (X : Stand p l e R s m args below meth c T locs cells slots) (hx : p.tables.exec = Jvm.exec) {x : Int64} {y : Int32} (hd : decode c.code pc = .ok (.lushr, 1))  (hp : pc + 1 = pc') (w : own_W p e En below kc ks Q T (mkF m pc' Ls (.long ((x.toUInt64 >>> (y &&& 0x3f).toInt64.toUInt64).toInt64) :: st))) : own_W p e En below kc ks Q T (mkF m pc Ls (.int y :: .long x :: st)) := by
  subst hp; exact own_W.step (fun _ q => XS.lushr X.here hx rfl hd rfl q) w
theorem own_lcmp (X : Stand p l e R s m args below meth c T locs cells slots) (hx : p.tables.exec = Jvm.exec) {x y : Int64} (hd : decode c.code pc = .ok (.lcmp, 1))  (hp : pc + 1 = pc') (w : own_W p e En below kc ks Q T (mkF m pc' Ls (.int (XT.cmpL x y) :: st))) : own_W p e En below kc ks Q T (mkF m pc Ls (.long y :: .long x :: st)) := by
  subst hp; exact own_W.step (fun _ q => XT.lcmp X.here hx rfl hd rfl q) w
theorem own_iinc (X : Stand p l e R s m args below meth c T locs cells slots) (hx : p.tables.exec = Jvm.exec) {k : Nat} {cst : Int} (hd : decode c.code pc = .ok (.iinc k cst, 3)) (v : Int32) (hv : Int32.ofInt cst = v) {x : Int32} {l' : Array Slot} (hl : Ls[k]? = some (.val (.int x))) (hl' : storeLocals Ls k (.int (x + v)) = some l') (hp : pc + 3 = pc') (w : own_W p e En below kc ks Q T (mkF m pc' l' (st))) : own_W p e En below kc ks Q T (mkF m pc Ls (st)) := by
  subst hp; exact own_W.step (fun _ q => XT.iincV X.here hx rfl v hd hv hl hl' q) w
theorem own_dup (X : Stand p l e R s m args below meth c T locs cells slots) (hx : p.tables.exec = Jvm.exec) {x : Value} (hd : decode c.code pc = .ok (.dup, 1)) (hc : x.category = 1) (hp : pc + 1 = pc') (w : own_W p e En below kc ks Q T (mkF m pc' Ls (x :: x :: st))) : own_W p e En below kc ks Q T (mkF m pc Ls (x :: st)) := by
  subst hp; exact own_W.step (fun _ q => XS.dup X.here hx rfl hd rfl hc q) w
theorem own_pop (X : Stand p l e R s m args below meth c T locs cells slots) (hx : p.tables.exec = Jvm.exec) {x : Value} (hd : decode c.code pc = .ok (.pop, 1)) (hc : x.category = 1) (hp : pc + 1 = pc') (w : own_W p e En below kc ks Q T (mkF m pc' Ls (st))) : own_W p e En below kc ks Q T (mkF m pc Ls (x :: st)) := by
  subst hp; exact own_W.step (fun _ q => XS.pop X.here hx rfl hd rfl hc q) w
theorem own_dupX1 (X : Stand p l e R s m args below meth c T locs cells slots) (hx : p.tables.exec = Jvm.exec) {x y : Value} (hd : decode c.code pc = .ok (.dup_x1, 1)) (hc : x.category = 1) (hc2 : y.category = 1) (hp : pc + 1 = pc') (w : own_W p e En below kc ks Q T (mkF m pc' Ls (x :: y :: x :: st))) : own_W p e En below kc ks Q T (mkF m pc Ls (x :: y :: st)) := by
  subst hp; exact own_W.step (fun _ q => XS.dupX1 X.here hx rfl hd rfl hc hc2 q) w
theorem own_dup2 (X : Stand p l e R s m args below meth c T locs cells slots) (hx : p.tables.exec = Jvm.exec) {x y : Value} (hd : decode c.code pc = .ok (.dup2, 1)) (hc : x.category = 1) (hc2 : y.category = 1) (hp : pc + 1 = pc') (w : own_W p e En below kc ks Q T (mkF m pc' Ls (x :: y :: x :: y :: st))) : own_W p e En below kc ks Q T (mkF m pc Ls (x :: y :: st)) := by
  subst hp; exact own_W.step (fun _ q => XT.dup2 X.here hx rfl hd rfl hc hc2 q) w
theorem own_dup2L (X : Stand p l e R s m args below meth c T locs cells slots) (hx : p.tables.exec = Jvm.exec) {x : Int64} (hd : decode c.code pc = .ok (.dup2, 1))  (hp : pc + 1 = pc') (w : own_W p e En below kc ks Q T (mkF m pc' Ls (.long x :: .long x :: st))) : own_W p e En below kc ks Q T (mkF m pc Ls (.long x :: st)) := by
  subst hp; exact own_W.step (fun _ q => XT.dup2L X.here hx rfl hd rfl q) w
theorem own_goto (X : Stand p l e R s m args below meth c T locs cells slots) (hx : p.tables.exec = Jvm.exec) {o : Int} (hd : decode c.code pc = .ok (.goto o, 3)) {pc' : Nat} (ho : 0 ≤ (pc : Int) + o) (hp : ((pc : Int) + o).toNat = pc') (w : own_W p e En below kc ks Q T (mkF m pc' Ls st)) : own_W p e En below kc ks Q T (mkF m pc Ls st) :=
  own_W.step (fun _ q => XS.goto X.here hx rfl rfl hd ho hp q) w
theorem own_ifYes (X : Stand p l e R s m args below meth c T locs cells slots) (hx : p.tables.exec = Jvm.exec) {cd : Jvm.ClassFile.Cond} {x : Int32} {o : Int} (hd : decode c.code pc = .ok (.ifCond cd o, 3)) (hc : ifCond.holds cd x = true) {pc' : Nat} (ho : 0 ≤ (pc : Int) + o) (hp : ((pc : Int) + o).toNat = pc') (w : own_W p e En below kc ks Q T (mkF m pc' Ls st)) : own_W p e En below kc ks Q T (mkF m pc Ls (.int x :: st)) :=
  own_W.step (fun _ q => XS.ifYes X.here hx rfl rfl hd rfl hc ho hp q) w
theorem own_ifNo (X : Stand p l e R s m args below meth c T locs cells slots) (hx : p.tables.exec = Jvm.exec) {cd : Jvm.ClassFile.Cond} {x : Int32} {o : Int} (hd : decode c.code pc = .ok (.ifCond cd o, 3)) (hc : ifCond.holds cd x = false) (hp : pc + 3 = pc') (w : own_W p e En below kc ks Q T (mkF m pc' Ls st)) : own_W p e En below kc ks Q T (mkF m pc Ls (.int x :: st)) := by
  subst hp; exact own_W.step (fun _ q => XS.ifNo X.here hx rfl hd rfl hc q) w
theorem own_icmpYes (X : Stand p l e R s m args below meth c T locs cells slots) (hx : p.tables.exec = Jvm.exec) {cd : Jvm.ClassFile.Cond} {x y : Int32} {o : Int} (hd : decode c.code pc = .ok (.if_icmp cd o, 3)) (hc : if_icmp.holds cd x y = true) {pc' : Nat} (ho : 0 ≤ (pc : Int) + o) (hp : ((pc : Int) + o).toNat = pc') (w : own_W p e En below kc ks Q T (mkF m pc' Ls st)) : own_W p e En below kc ks Q T (mkF m pc Ls (.int y :: .int x :: st)) :=
  own_W.step (fun _ q => XS.icmpYes X.here hx rfl rfl hd rfl hc ho hp q) w
theorem own_icmpNo (X : Stand p l e R s m args below meth c T locs cells slots) (hx : p.tables.exec = Jvm.exec) {cd : Jvm.ClassFile.Cond} {x y : Int32} {o : Int} (hd : decode c.code pc = .ok (.if_icmp cd o, 3)) (hc : if_icmp.holds cd x y = false) (hp : pc + 3 = pc') (w : own_W p e En below kc ks Q T (mkF m pc' Ls st)) : own_W p e En below kc ks Q T (mkF m pc Ls (.int y :: .int x :: st)) := by
  subst hp; exact own_W.step (fun _ q => XS.icmpNo X.here hx rfl hd rfl hc q) w
theorem own_ifnullYes (X : Stand p l e R s m args below meth c T locs cells slots) (hx : p.tables.exec = Jvm.exec) {o : Int} (hd : decode c.code pc = .ok (.ifnull o, 3)) {pc' : Nat} (ho : 0 ≤ (pc : Int) + o) (hp : ((pc : Int) + o).toNat = pc') (w : own_W p e En below kc ks Q T (mkF m pc' Ls st)) : own_W p e En below kc ks Q T (mkF m pc Ls (.null :: st)) :=
  own_W.step (fun _ q => XS.ifnullYes X.here hx rfl rfl hd rfl ho hp q) w
theorem own_ifnullNo (X : Stand p l e R s m args below meth c T locs cells slots) (hx : p.tables.exec = Jvm.exec) {o : Int} (hd : decode c.code pc = .ok (.ifnull o, 3)) (hp : pc + 3 = pc') (w : own_W p e En below kc ks Q T (mkF m pc' Ls st)) : own_W p e En below kc ks Q T (mkF m pc Ls (.ref b :: st)) := by
  subst hp; exact own_W.step (fun _ q => XS.ifnullNo X.here hx rfl hd rfl q) w
theorem own_ifnonnullYes (X : Stand p l e R s m args below meth c T locs cells slots) (hx : p.tables.exec = Jvm.exec) {o : Int} (hd : decode c.code pc = .ok (.ifnonnull o, 3)) {pc' : Nat} (ho : 0 ≤ (pc : Int) + o) (hp : ((pc : Int) + o).toNat = pc') (w : own_W p e En below kc ks Q T (mkF m pc' Ls st)) : own_W p e En below kc ks Q T (mkF m pc Ls (.ref b :: st)) :=
  own_W.step (fun _ q => XS.ifnonnullYes X.here hx rfl rfl hd rfl ho hp q) w
theorem own_ifnonnullNo (X : Stand p l e R s m args below meth c T locs cells slots) (hx : p.tables.exec = Jvm.exec) {o : Int} (hd : decode c.code pc = .ok (.ifnonnull o, 3)) (hp : pc + 3 = pc') (w : own_W p e En below kc ks Q T (mkF m pc' Ls st)) : own_W p e En below kc ks Q T (mkF m pc Ls (.null :: st)) := by
  subst hp; exact own_W.step (fun _ q => XS.ifnonnullNo X.here hx rfl hd rfl q) w
/-- an array: its kind, its length, what each place holds -/
def own_A (Z : State) (h : Heap) (a : Addr) (ty : FieldType) (n : Nat) (f : Nat → Value) : Prop := ∃ c : Cell, Arr Z h a c ty ∧ c.slots.size = n ∧ n < 2 ^ 31 ∧ (∀ i, i < n → c.slots[i]? = some (f i)) ∧ ∀ i, i < n → fits ty (f i) = true
/-- the int j names the place i, which lies in an array of n places -/
def own_In (j : Int32) (i n : Nat) : Prop := j.toInt = (i : Int) ∧ i < n
variable {ty : FieldType} {n i : Nat} {f f' : Nat → Value} {j : Int32}
def own_k0 (_ : Nat) : Int32 := 0
def own_k0L (_ : Nat) : Int64 := 0
def own_up {α : Type} (f : Nat → α) (k : Nat) (x : α) (z : Nat) : α := if z = k then x else f z
theorem own_up_same {α : Type} (f : Nat → α) (k : Nat) (x : α) : own_up f k x k = x := if_pos rfl
theorem own_up_other {α : Type} (f : Nat → α) (k : Nat) (x : α) (z : Nat) (q : z ≠ k) : own_up f k x z = f z := if_neg q
theorem own_In.nat (q : own_In j i n) : j.toNatClampNeg = i := by
  show j.toInt.toNat = i
  rw [q.1]; rfl
theorem own_In.inb {cl : Cell} (q : own_In j i n) (S : cl.slots.size = n) : ¬ (j < 0 ∨ cl.slots.size ≤ j.toNatClampNeg) := by
  rw [q.nat, S]
  have q1 := q.1
  have q2 := q.2
  rintro (r | r)
  · rw [Int32.lt_iff_toInt_lt] at r
    have z : (0 : Int32).toInt = 0 := rfl
    omega
  · omega
theorem own_A.lt (F : own_A Z h a ty n f) : a < h.size := by obtain ⟨c, A, -⟩ := F; exact A.lt
theorem own_A.len (F : own_A Z h a ty n f) : n < 2 ^ 31 := by obtain ⟨c, -, -, q, -, -⟩ := F; exact q
theorem own_A.ext (F : own_A Z h a ty n f) (E : Ext h h') : own_A Z h' a ty n f := by obtain ⟨c, A, r⟩ := F; exact ⟨c, A.ext E, r⟩
theorem own_A.other {v : Value} (F : own_A Z h b ty n f) (W : Wr h h' a sl v) (q : b ≠ a) : own_A Z h' b ty n f := by obtain ⟨c, A, r⟩ := F; exact ⟨c, A.other W q, r⟩
theorem own_A.keep {ws : List Addr} (F : own_A Z h a ty n f) (K : Keep h h' ws) (q : a ∉ ws) : own_A Z h' a ty n f := by obtain ⟨c, A, r⟩ := F; exact ⟨c, ⟨K.2.1 a c A.1 q, A.2⟩, r⟩
theorem own_A.congr (F : own_A Z h a ty n f) (q : ∀ i, i < n → f i = f' i) : own_A Z h a ty n f' := by
  obtain ⟨c, A, r1, r2, r3, r4⟩ := F
  exact ⟨c, A, r1, r2, fun i hi => by rw [r3 i hi, q i hi], fun i hi => by rw [← q i hi]; exact r4 i hi⟩
theorem own_A.fit (F : own_A Z h a ty n f) {i : Nat} (hi : i < n) : fits ty (f i) = true := by obtain ⟨c, A, r1, r2, r3, r4⟩ := F; exact r4 i hi
theorem own_A.new {k : ClassId} {z : Int32} (A : Arr Z h a (newA k ty z) ty) (q : ¬ z < 0) (hn : z.toNatClampNeg = n) : own_A Z h a ty n (fun _ => defaultValue ty) := by
  subst hn
  refine ⟨_, A, sz_new _ _ _, (back32 q).2, fun i hi => ?_, fun i _ => by cases ty <;> rfl⟩
  show (Array.replicate z.toNatClampNeg (defaultValue ty))[i]? = _
  rw [Array.getElem?_replicate, if_pos hi]
theorem own_A.put {cl : Cell} {v : Value} (A : Arr Z h a cl ty) (S : cl.slots.size = n) (hn : n < 2 ^ 31) (H : ∀ i, i < n → cl.slots[i]? = some (f i)) (G : ∀ i, i < n → fits ty (f i) = true) (hv : fits ty v = true) (q : own_In j i n) (W : Wr h h' a j.toNatClampNeg v) : own_A Z h' a ty n (fun z => if z = i then v else f z) := by
  refine ⟨_, A.same W, by rw [sz_set]; exact S, hn, fun k hk => ?_, fun k hk => ?_⟩
  rotate_left
  · show fits ty (if k = i then v else f k) = true
    by_cases e : k = i
    · rw [if_pos e]; exact hv
    · rw [if_neg e]; exact G k hk
  show (cl.slots.setIfInBounds j.toNatClampNeg v)[k]? = some (if k = i then v else f k)
  rw [q.nat, Array.getElem?_setIfInBounds]
  by_cases e : i = k
  · subst e
    rw [if_pos rfl, if_pos (by rw [S]; exact hk), if_pos rfl]
  · rw [if_neg e, if_neg (fun z => e z.symm), H k hk]
theorem own_stI (X : Stand p l e R s m args below meth c T locs cells slots) (hx : p.tables.exec = Jvm.exec) (hZ : Z.Warmed39 s.vm) (eT : T.heap = h) (F : own_A Z h a .int n f) {x : Int32} (hi : own_In j i n) {g : JFrame} (hg : g.method = m) {rest : List Value} (hs : g.stack = .int x :: .int j :: .ref a :: rest) (hd : decode c.code g.pc = .ok (.iastore, 1)) :
    ∃ T' h', Stand p l e R s m args below meth c T' (locs ++ [⟨a, j.toNatClampNeg⟩]) cells slots ∧ T'.heap = h' ∧ Wr h h' a j.toNatClampNeg (.int (x)) ∧ own_A Z h' a .int n (fun z => if z = i then .int (x) else f z) ∧ ∀ target, Steps p.tables e below (T'.setTop { g with pc := g.pc + 1, stack := rest }) target → Steps p.tables e below (T.setTop g) target := by
  obtain ⟨cl, A, S, hn, H, G⟩ := F
  obtain ⟨T', h', X', e', W', st'⟩ := stI X hx hZ eT A (hi.inb S) hg hs hd
  exact ⟨T', h', X', e', W', own_A.put A S hn H G rfl hi W', st'⟩
theorem own_stJ (X : Stand p l e R s m args below meth c T locs cells slots) (hx : p.tables.exec = Jvm.exec) (hZ : Z.Warmed39 s.vm) (eT : T.heap = h) (F : own_A Z h a .long n f) {x : Int64} (hi : own_In j i n) {g : JFrame} (hg : g.method = m) {rest : List Value} (hs : g.stack = .long x :: .int j :: .ref a :: rest) (hd : decode c.code g.pc = .ok (.lastore, 1)) :
    ∃ T' h', Stand p l e R s m args below meth c T' (locs ++ [⟨a, j.toNatClampNeg⟩]) cells slots ∧ T'.heap = h' ∧ Wr h h' a j.toNatClampNeg (.long (x)) ∧ own_A Z h' a .long n (fun z => if z = i then .long (x) else f z) ∧ ∀ target, Steps p.tables e below (T'.setTop { g with pc := g.pc + 1, stack := rest }) target → Steps p.tables e below (T.setTop g) target := by
  obtain ⟨cl, A, S, hn, H, G⟩ := F
  obtain ⟨T', h', X', e', W', st'⟩ := stJ X hx hZ eT A (hi.inb S) hg hs hd
  exact ⟨T', h', X', e', W', own_A.put A S hn H G rfl hi W', st'⟩
theorem own_stB (X : Stand p l e R s m args below meth c T locs cells slots) (hx : p.tables.exec = Jvm.exec) (hZ : Z.Warmed39 s.vm) (eT : T.heap = h) (F : own_A Z h a .byte n f) {x : Int32} (hi : own_In j i n) {g : JFrame} (hg : g.method = m) {rest : List Value} (hs : g.stack = .int x :: .int j :: .ref a :: rest) (hd : decode c.code g.pc = .ok (.bastore, 1)) :
    ∃ T' h', Stand p l e R s m args below meth c T' (locs ++ [⟨a, j.toNatClampNeg⟩]) cells slots ∧ T'.heap = h' ∧ Wr h h' a j.toNatClampNeg (.int (x.toInt8.toInt32)) ∧ own_A Z h' a .byte n (fun z => if z = i then .int (x.toInt8.toInt32) else f z) ∧ ∀ target, Steps p.tables e below (T'.setTop { g with pc := g.pc + 1, stack := rest }) target → Steps p.tables e below (T.setTop g) target := by
  obtain ⟨cl, A, S, hn, H, G⟩ := F
  obtain ⟨T', h', X', e', W', st'⟩ := stB X hx hZ eT A (hi.inb S) hg hs hd
  exact ⟨T', h', X', e', W', own_A.put A S hn H G (fits_nar_byte _) hi W', st'⟩
theorem own_iaload (X : Stand p l e R s m args below meth c T locs cells slots) (hx : p.tables.exec = Jvm.exec) (hZ : Z.Warmed39 s.vm) (eT : T.heap = h) (F : own_A Z h a .int n f) (hi : own_In j i n) {v : Int32} (hv : f i = .int v) {g : JFrame} (hg : g.method = m) {rest : List Value} (hs : g.stack = .int j :: .ref a :: rest) (hd : decode c.code g.pc = .ok (.iaload, 1)) (w : own_W p e En below kc ks Q T { g with pc := g.pc + 1, stack := .int v :: rest }) : own_W p e En below kc ks Q T g := by
  obtain ⟨cl, A, S, hn, H, -⟩ := F
  exact own_W.step (X.iaload hx (j := j) (v := .int v) (by rw [eT]; exact A.1) (State.isArrayOf_alike hZ.alike A.2.1) A.2.2 (hi.inb S) (by rw [hi.nat, H i hi.2, hv]) (g := g) hg hs hd) w
theorem own_laload (X : Stand p l e R s m args below meth c T locs cells slots) (hx : p.tables.exec = Jvm.exec) (hZ : Z.Warmed39 s.vm) (eT : T.heap = h) (F : own_A Z h a .long n f) (hi : own_In j i n) {v : Int64} (hv : f i = .long v) {g : JFrame} (hg : g.method = m) {rest : List Value} (hs : g.stack = .int j :: .ref a :: rest) (hd : decode c.code g.pc = .ok (.laload, 1)) (w : own_W p e En below kc ks Q T { g with pc := g.pc + 1, stack := .long v :: rest }) : own_W p e En below kc ks Q T g := by
  obtain ⟨cl, A, S, hn, H, -⟩ := F
  exact own_W.step (X.laload hx (j := j) (v := .long v) (by rw [eT]; exact A.1) (State.isArrayOf_alike hZ.alike A.2.1) A.2.2 (hi.inb S) (by rw [hi.nat, H i hi.2, hv]) (g := g) hg hs hd) w
theorem own_baload (X : Stand p l e R s m args below meth c T locs cells slots) (hx : p.tables.exec = Jvm.exec) (hZ : Z.Warmed39 s.vm) (eT : T.heap = h) (F : own_A Z h a .byte n f) (hi : own_In j i n) {v : Int32} (hv : f i = .int v) {g : JFrame} (hg : g.method = m) {rest : List Value} (hs : g.stack = .int j :: .ref a :: rest) (hd : decode c.code g.pc = .ok (.baload, 1)) (w : own_W p e En below kc ks Q T { g with pc := g.pc + 1, stack := .int v :: rest }) : own_W p e En below kc ks Q T g := by
  obtain ⟨cl, A, S, hn, H, -⟩ := F
  exact own_W.step (X.baloadBytes hx (j := j) (v := .int v) (by rw [eT]; exact A.1) (State.isArrayOf_alike hZ.alike A.2.1) A.2.2 (hi.inb S) (by rw [hi.nat, H i hi.2, hv]) (g := g) hg hs hd) w
theorem own_alen (X : Stand p l e R s m args below meth c T locs cells slots) (hx : p.tables.exec = Jvm.exec) (hZ : Z.Warmed39 s.vm) (eT : T.heap = h) (F : own_A Z h a ty n f) {z : Int32} (hz : n.toInt32 = z) {g : JFrame} (hg : g.method = m) {rest : List Value} (hs : g.stack = .ref a :: rest) (hd : decode c.code g.pc = .ok (.arraylength, 1)) (w : own_W p e En below kc ks Q T { g with pc := g.pc + 1, stack := .int z :: rest }) : own_W p e En below kc ks Q T g := by
  obtain ⟨cl, A, S, hn, H, -⟩ := F
  subst hz S
  exact own_W.step (X.arraylength hx (by rw [eT]; exact A.1) (State.isArrayOf_alike hZ.alike A.2.1) (g := g) hg hs hd) w

/-- a constructor whose entry is resolved already (a nest mate's private one) -/
theorem own_ready {a0 : Array Value} {own : String} {index : Nat} {y : MethodName} (hZ : Z.Warmed39 s.vm) (hown : s.vm.findClass own = some m.cls) (hy : y.cls ≠ "java/lang/invoke/MethodHandle" ∧ y.cls ≠ "java/lang/invoke/VarHandle") (w : (Jvm.Cond.methodRef own index y).before a0 Z = true) (wi : (Jvm.Cond.instanceMethod y).before a0 Z = true) (ev : Env) :
    ∀ (U : State) (r : MethodId), s.WarmedH U.vm → s.methodNamed? y = some r → namesResolved U.vm m.cls index r.cls ∧ U.vm.methodReady m.cls index r := by
  intro U r hW hn
  obtain ⟨mk, methM, hnZ, -⟩ := Cond.instanceMethod_spec wi
  have hZU : Z.Warmed39 U.vm := wtrans hZ hW
  have h1 := Cond.methodRef_warmed39 hZU hnZ hy w
  have e0 : (Z.setVm s.vm).methodNamed? y = Z.methodNamed? y := State.methodNamed?_setVm hZ.alike y
  have e1 : s.methodNamed? y = (Z.setVm s.vm).methodNamed? y := rfl
  have e2 : mk = r := by rw [e1, e0, hnZ] at hn; exact Option.some.inj hn
  subst e2
  have e3 : (Z.setVm U.vm).methodNamed? y = some mk := by rw [State.methodNamed?_setVm hZU.alike y]; exact hnZ
  have hcur : (Z.setVm U.vm).vm.findClass own = some m.cls := by
    show U.vm.findClass own = _
    rw [hW.alike.findClass]; exact hown
  obtain ⟨m', c', hm, hready, hfind, hnr⟩ := Cond.methodRef_named ev hcur h1
  cases hm.symm.trans (State.methodFound?_of_named e3 hy)
  cases hfind.symm.trans (findClass_of_methodNamed e3)
  exact ⟨hnr, hready⟩
theorem own_specialRef (X : Stand p l e R s m args below meth c T locs cells slots) (hexec : p.tables.exec = Jvm.exec) (hZ : Z.Warmed39 s.vm) {a0 : Array Value} {own : String} {index : Nat} {y : MethodName} (hy1 : y.name = "<init>") (hown : s.vm.findClass own = some m.cls) (w : (Jvm.Cond.methodRef own index y).before a0 Z = true) (wi : (Jvm.Cond.instanceMethod y).before a0 Z = true)
    {bytes : ByteArray} {maxL : Nat} (wc : (Jvm.Cond.code y bytes maxL none).before a0 Z = true) (hy : y.cls ≠ "java/lang/invoke/MethodHandle" ∧ y.cls ≠ "java/lang/invoke/VarHandle")
    {W : Nat} {Pre : Pt → Array Value → Prop} {Post : Pt → Array Value → Option Value → Pt → Prop} (hK : Back l R p e below s args y 3 W Pre Post)
    {g : JFrame} (hg : g.method = m) (hsize : g.locals.size = c.maxLocals) {s₀ : State} (hcome : Steps p.tables e below s₀ (T.setTop g)) {a : Addr} {argsL rest : List Value}
    (hlen : ∀ sig, parseMethodDescriptor y.desc = some sig → argsL.length = sig.parameters.length) (hstack : g.stack = argsL.reverse ++ .ref a :: rest) (hW : 2 * g.monitorRoom + (rest.map fun v => v.category).sum ≤ W)
    (hdg : decode c.code g.pc = .ok (.invokespecial index, 3)) (hpre : ∀ vm₁, s.WarmedH vm₁ → Pre ⟨T.setVm vm₁, locs, cells, slots⟩ (.ref a :: argsL).toArray) :
    ∃ (v : Option Value) (vm₁ : Vm) (B : Pt), s.WarmedH vm₁ ∧ Stand p l e R s m args below meth c B.U B.locs B.cells B.slots ∧ Post ⟨T.setVm vm₁, locs, cells, slots⟩ (.ref a :: argsL).toArray v B ∧
      Steps p.tables e below s₀ (B.U.setTop { g with pc := g.pc + 3, stack := v.toList ++ rest }) :=
  (SCall.of_ready hexec hy1 (mvT hZ wi) (mvT hZ wc) (own_ready hZ hown hy w wi e)) X hK hg hsize hcome hlen hstack hW hdg hpre
theorem own_selP {a0 : Array Value} {y : MethodName} {n : Nat} (wp : (Jvm.Cond.privateMethod y).before a0 Z = true) (wi : (Jvm.Cond.instanceMethod y).before a0 Z = true) (wn : (Jvm.Cond.instantiable y.cls n).before a0 Z = true) (hy : y.cls ≠ "java/lang/invoke/MethodHandle" ∧ y.cls ≠ "java/lang/invoke/VarHandle") : (Jvm.Cond.selects y.cls y y).before a0 Z = true := by
  obtain ⟨mk, methM, hn, hm, hst, hab⟩ := Cond.instanceMethod_spec wi
  obtain ⟨c, k, hc, hk, -, hi, -⟩ := Cond.instantiable_spec wn
  have hcls : Z.vm.findClass y.cls = some mk.cls := findClass_of_methodNamed hn
  cases hc.symm.trans hcls
  have hf := State.methodFound?_of_named hn hy
  have hs : selectMethod {} Z.vm mk.cls mk = .method mk := selectMethod_private hm (Cond.privateMethod_at wp mk methM hn hm)
  have hki : k.isInterface = false := (Bool.or_eq_false_iff.mp hi).1
  simp [Cond.before, Cond.holds, Cond.value, hcls, hf, hn, hs, hk, hki]
end OwnW

/-! 1. plain law: bytes of words -/
theorem own_i8 (x : Int32) : x.toInt8.toInt32.toInt8.toInt32 = x.toInt8.toInt32 := by rw [Int8.toInt8_toInt32]
theorem own_b8 {x y : Int32} (h : (x.toInt - y.toInt) % 256 = 0) : x.toInt8.toInt32 = y.toInt8.toInt32 := by
  have e1 := c_i2b x
  have e2 := c_i2b y
  apply Int32.toInt_inj.mp
  omega
def own_ush (x : Int64) (k : Int32) : Int64 := (x.toUInt64 >>> (k &&& 0x3f).toInt64.toUInt64).toInt64
/-- a long as a natural -/
def own_u (x : Int64) : Nat := (x.toInt % 18446744073709551616).toNat
theorem own_ult (x : Int64) : own_u x < 2 ^ 64 := by unfold own_u; omega
theorem own_uc (x : Int64) : ((own_u x : Nat) : Int) = x.toInt % 18446744073709551616 := by unfold own_u; omega
theorem own_u0 {x : Int64} : own_u x = 0 ↔ x = 0 := by
  have r := rng64 x
  have e := own_uc x
  constructor
  · intro h
    apply Int64.toInt_inj.mp
    have z : (0 : Int64).toInt = 0 := rfl
    omega
  · intro h
    subst h
    rfl
/-- the byte that a word gives at the place r -/
theorem own_byte (x : Int64) (k : Int32) (r : Nat) (hr : r < 8) (hk : k.toInt = 8 * (r : Int)) : ((own_ush x k).toInt32.toInt - ((own_u x / 256 ^ r % 256 : Nat) : Int)) % 256 = 0 := by
  have e1 := c_l2i (own_ush x k)
  have e2 := own_uc x
  have hb : k.toBitVec.toNat % 64 = 8 * r := by
    have e : k.toInt = k.toBitVec.toInt := rfl
    rw [e, BitVec.toInt_eq_toNat_cond] at hk
    have := k.toBitVec.isLt
    split at hk <;> omega
  have key : (own_ush x k).toInt = x.toInt ∧ r = 0 ∨ (own_ush x k).toInt = (x.toInt % 18446744073709551616) / ((2 ^ (8 * r) : Nat) : Int) := by
    rcases Nat.eq_zero_or_pos r with z | z
    · left
      refine ⟨?_, z⟩
      have q : own_ush x k = x := by
        apply Int64.toBitVec_inj.mp
        have hz := (sm64 k (8 * r) hb).1
        show x.toBitVec >>> ((k &&& 0x3f).toInt64.toBitVec % 64#64).toNat = x.toBitVec
        rw [hz, z]
        rfl
      rw [q]
    · right
      exact c_lushr x k (8 * r) hb (by omega)
  have c : r = 0 ∨ r = 1 ∨ r = 2 ∨ r = 3 ∨ r = 4 ∨ r = 5 ∨ r = 6 ∨ r = 7 := by omega
  rcases c with rfl | rfl | rfl | rfl | rfl | rfl | rfl | rfl <;> simp only [Nat.reducePow, Nat.reduceMul] at key ⊢ <;> omega
/-! 2. numbers: the bytes of X and of 2^192 - X -/
theorem own_modn (X i : Nat) : X % 256 ^ (i + 1) = X % 256 ^ i + 256 ^ i * (X / 256 ^ i % 256) := by rw [Nat.pow_succ, Nat.mod_mul]
theorem own_neg (X i : Nat) (hi : i < 24) (h0 : 0 < X) (h1 : X < 2 ^ 192) : (2 ^ 192 - X) / 256 ^ i % 256 = (255 - X / 256 ^ i % 256 + (if X % 256 ^ i = 0 then 1 else 0)) % 256 := by
  have hp : 0 < 256 ^ i := Nat.pow_pos (by decide)
  obtain ⟨D, hD⟩ : ∃ D, D = 256 ^ i := ⟨_, rfl⟩
  obtain ⟨E, hE⟩ : ∃ E, E = 256 ^ (23 - i) := ⟨_, rfl⟩
  have hT : 2 ^ 192 = D * (256 * E) := by
    rw [hD, hE, show (2 : Nat) ^ 192 = 256 ^ 24 from by decide, ← Nat.pow_succ', ← Nat.pow_add]
    congr 1
    omega
  rw [← hD] at hp ⊢
  have hm := Nat.div_add_mod X D
  have hl := Nat.mod_lt X hp
  rw [hT] at h1 ⊢
  obtain ⟨q, hq⟩ : ∃ q, q = X / D := ⟨_, rfl⟩
  obtain ⟨r, hr⟩ : ∃ r, r = X % D := ⟨_, rfl⟩
  rw [← hq, ← hr] at hm ⊢
  rw [← hr] at hl
  have hqE : q < 256 * E := by
    rw [hq]
    exact Nat.div_lt_of_lt_mul h1
  by_cases z : r = 0
  · rw [if_pos z]
    have e : D * (256 * E) - X = D * (256 * E - q) := by
      rw [← hm, z, Nat.add_zero, Nat.mul_sub]
    rw [e, Nat.mul_div_cancel_left _ hp]
    omega
  · rw [if_neg z]
    have e : (D * (256 * E) - X) / D = 256 * E - q - 1 := by
      have e1 : D * (256 * E) - X = (D - r) + D * (256 * E - q - 1) := by
        have a1 : D * (256 * E - q - 1) = D * (256 * E) - D * q - D := by rw [Nat.mul_sub, Nat.mul_sub, Nat.mul_one]
        have a2 : D * q + D ≤ D * (256 * E) := by
          have : D * (q + 1) ≤ D * (256 * E) := Nat.mul_le_mul_left _ hqE
          rw [Nat.mul_add, Nat.mul_one] at this
          exact this
        omega
      rw [e1, Nat.add_mul_div_left _ _ hp, Nat.div_eq_of_lt (by omega), Nat.zero_add]
    rw [e]
    omega
theorem own_words (u0 u1 u2 i : Nat) (h0 : u0 < 2 ^ 64) (h1 : u1 < 2 ^ 64) (h2 : u2 < 2 ^ 64) (hi : i < 24) : (u0 + 2 ^ 64 * u1 + 2 ^ 128 * u2) / 256 ^ i % 256 = (if i / 8 = 0 then u0 else if i / 8 = 1 then u1 else u2) / 256 ^ (i % 8) % 256 := by
  have c : i = 0 ∨ i = 1 ∨ i = 2 ∨ i = 3 ∨ i = 4 ∨ i = 5 ∨ i = 6 ∨ i = 7 ∨ i = 8 ∨ i = 9 ∨ i = 10 ∨ i = 11 ∨ i = 12 ∨ i = 13 ∨ i = 14 ∨ i = 15 ∨ i = 16 ∨ i = 17 ∨ i = 18 ∨ i = 19 ∨ i = 20 ∨ i = 21 ∨ i = 22 ∨ i = 23 := by omega
  rcases c with rfl | rfl | rfl | rfl | rfl | rfl | rfl | rfl | rfl | rfl | rfl | rfl | rfl | rfl | rfl | rfl | rfl | rfl | rfl | rfl | rfl | rfl | rfl | rfl <;> simp only [Nat.reducePow, Nat.reduceDiv, Nat.reduceMod, Nat.reduceEqDiff, if_true, if_false, reduceIte] at * <;> omega
/-! 3. what writeBytes writes -/
def own_mb (fm : Nat → Int64) (ln n : Nat) : Int32 := if n / 8 < ln then (own_ush (fm (n / 8)) ((8 : Int32) * (Int32.ofNat n % (8 : Int32)))).toInt32 &&& (255 : Int32) else (0 : Int32)
def own_vl (fm : Nat → Int64) (ln n : Nat) (c : Int32) : Int32 := ((own_mb fm ln n ^^^ (-1 : Int32)) &&& (255 : Int32)) + c
def own_cy (sg : Int32) (fm : Nat → Int64) (ln : Nat) : Nat → Int32
  | 0 => 1
  | n + 1 => if sg < (0 : Int32) then ((own_vl fm ln n (own_cy sg fm ln n)).toUInt32 >>> ((8 : Int32) &&& 31).toUInt32).toInt32 else own_cy sg fm ln n
theorem own_cyS (sg : Int32) (fm : Nat → Int64) (ln n : Nat) : own_cy sg fm ln (n + 1) = if sg < (0 : Int32) then ((own_vl fm ln n (own_cy sg fm ln n)).toUInt32 >>> ((8 : Int32) &&& 31).toUInt32).toInt32 else own_cy sg fm ln n := rfl
def own_ob (sg : Int32) (fm : Nat → Int64) (ln n : Nat) : Int32 := if sg < (0 : Int32) then (own_vl fm ln n (own_cy sg fm ln n)).toInt8.toInt32 else (own_mb fm ln n).toInt8.toInt32
def own_wm (po pn : Int32) (g : Nat → Int32) (fa : Nat → Int32) (n : Int) (z : Nat) : Int32 := if po.toInt + pn.toInt - n ≤ (z : Int) ∧ (z : Int) < po.toInt + pn.toInt then g (po.toInt + pn.toInt - 1 - (z : Int)).toNat else fa z
theorem own_wm0 (po pn : Int32) (g fa : Nat → Int32) (z : Nat) : fa z = own_wm po pn g fa (0 : Int32).toInt z := by
  unfold own_wm
  rw [if_neg (by rw [show (0 : Int32).toInt = 0 from rfl]; omega)]
theorem own_wms (po pn i : Int32) (g fa : Nat → Int32) (x : Int32) (z k : Nat) (hk : (k : Int) = po.toInt + pn.toInt - 1 - i.toInt) (hi : 0 ≤ i.toInt) (hx : x = g i.toInt.toNat) : (if z = k then Value.int x else .int (own_wm po pn g fa i.toInt z)) = .int (own_wm po pn g fa (i.toInt + 1) z) := by
  by_cases q : z = k
  · rw [if_pos q, hx]
    unfold own_wm
    have e : (po.toInt + pn.toInt - 1 - (z : Int)).toNat = i.toInt.toNat := by omega
    rw [if_pos (by omega), e]
  · rw [if_neg q]
    unfold own_wm
    by_cases r : po.toInt + pn.toInt - i.toInt ≤ (z : Int) ∧ (z : Int) < po.toInt + pn.toInt
    · rw [if_pos r, if_pos (by omega)]
    · rw [if_neg r, if_neg (by omega)]
theorem own_inc (i : Int32) (h : 0 ≤ i.toInt ∧ i.toInt < 100) : (i + (1 : Int32)).toInt = i.toInt + 1 := by
  have e := c_iadd i (1 : Int32)
  have r := rng32 (i + (1 : Int32))
  have t1 : (1 : Int32).toInt = 1 := by decide
  omega
theorem own_nat (i : Int32) (h : 0 ≤ i.toInt) : Int32.ofNat i.toInt.toNat = i := by
  have r := rng32 i
  apply Int32.toInt_inj.mp
  rw [Int32.toInt_ofNat_of_lt (by omega)]
  omega
theorem own_div8 (i : Int32) (h : 0 ≤ i.toInt) : (i / (8 : Int32)).toInt = ((i.toInt.toNat / 8 : Nat) : Int) := by
  have e := (c_idiv i (8 : Int32) 8 (by decide) (by decide)).1 h
  omega
theorem own_idx (po pn i : Int32) (h1 : 0 ≤ po.toInt ∧ po.toInt ≤ 3) (h2 : 0 ≤ pn.toInt ∧ pn.toInt ≤ 24) (h3 : 0 ≤ i.toInt ∧ i.toInt < pn.toInt) : (po + pn - (1 : Int32) - i).toInt = po.toInt + pn.toInt - 1 - i.toInt := by
  have t1 : (1 : Int32).toInt = 1 := by decide
  have e1 := c_iadd po pn
  have r1 := rng32 (po + pn)
  have e2 := c_isub (po + pn) (1 : Int32)
  have r2 := rng32 (po + pn - (1 : Int32))
  have e3 := c_isub (po + pn - (1 : Int32)) i
  have r3 := rng32 (po + pn - (1 : Int32) - i)
  omega
/-! 4. the words that the law expects -/
def own_sb (w0 w1 w2 : Int64) (n : Nat) : Int32 := (own_ush (if n / 8 = 0 then w0 else if n / 8 = 1 then w1 else w2) ((8 : Int32) * (Int32.ofNat n % (8 : Int32)))).toInt32.toInt8.toInt32
/-- the magnitude's number -/
def own_X (fm : Nat → Int64) (ln : Nat) : Nat := (if 0 < ln then own_u (fm 0) else 0) + 2 ^ 64 * (if 1 < ln then own_u (fm 1) else 0)
theorem own_sh (n : Nat) (hn : n < 24) : ((8 : Int32) * (Int32.ofNat n % (8 : Int32))).toInt = 8 * ((n % 8 : Nat) : Int) := by
  have key : ∀ i : Fin 24, ((8 : Int32) * (Int32.ofNat i.val % (8 : Int32))).toInt = 8 * ((i.val % 8 : Nat) : Int) := by decide +kernel
  exact key ⟨n, hn⟩
theorem own_mbV (fm : Nat → Int64) (ln n : Nat) (hn : n < 24) (hl : ln ≤ 2) : (own_mb fm ln n).toInt = ((own_X fm ln / 256 ^ n % 256 : Nat) : Int) := by
  have w := own_words (if 0 < ln then own_u (fm 0) else 0) (if 1 < ln then own_u (fm 1) else 0) 0 n (by split; exact own_ult _; decide) (by split; exact own_ult _; decide) (by decide) hn
  rw [Nat.mul_zero, Nat.add_zero] at w
  unfold own_X
  rw [w]
  unfold own_mb
  by_cases h : n / 8 < ln
  · rw [if_pos h]
    have b := own_byte (fm (n / 8)) _ (n % 8) (by omega) (own_sh n hn)
    have e := c_mask ((own_ush (fm (n / 8)) ((8 : Int32) * (Int32.ofNat n % (8 : Int32)))).toInt32) (255 : Int32) 8 (by decide) (by decide)
    rw [e]
    by_cases h0 : n / 8 = 0
    · rw [h0] at b h ⊢
      rw [if_pos rfl, if_pos (by omega)]
      simp only [Nat.reducePow] at *
      omega
    · have h1 : n / 8 = 1 := by omega
      rw [h1] at b h ⊢
      rw [if_neg (by decide), if_pos rfl, if_pos h]
      simp only [Nat.reducePow] at *
      omega
  · rw [if_neg h]
    by_cases h0 : n / 8 = 0
    · rw [if_pos h0, if_neg (by omega)]
      simp
    · by_cases h1 : n / 8 = 1
      · rw [if_neg h0, if_pos h1, if_neg (by omega)]
        simp
      · rw [if_neg h0, if_neg h1]
        simp
theorem own_not (m : Int32) (h : 0 ≤ m.toInt ∧ m.toInt < 256) : ((m ^^^ (-1 : Int32)) &&& (255 : Int32)).toInt = 255 - m.toInt := by
  have key : ∀ i : Fin 256, ((Int32.ofNat i.val ^^^ (-1 : Int32)) &&& (255 : Int32)).toInt = 255 - (i.val : Int) := by decide +kernel
  have k := key ⟨m.toInt.toNat, by omega⟩
  rw [own_nat m h.1] at k
  rw [k]
  show 255 - ((m.toInt.toNat : Nat) : Int) = _
  omega
theorem own_vlV (fm : Nat → Int64) (ln n : Nat) (c : Int32) (hn : n < 24) (hl : ln ≤ 2) (hc : 0 ≤ c.toInt ∧ c.toInt ≤ 1) : (own_vl fm ln n c).toInt = 255 - ((own_X fm ln / 256 ^ n % 256 : Nat) : Int) + c.toInt := by
  have m := own_mbV fm ln n hn hl
  have l := Nat.mod_lt (own_X fm ln / 256 ^ n) (show 0 < 256 by decide)
  have q := own_not (own_mb fm ln n) (by omega)
  unfold own_vl
  have e := c_iadd ((own_mb fm ln n ^^^ (-1 : Int32)) &&& (255 : Int32)) c
  have r := rng32 (((own_mb fm ln n ^^^ (-1 : Int32)) &&& (255 : Int32)) + c)
  omega
theorem own_cyV (sg : Int32) (fm : Nat → Int64) (ln n : Nat) (hs : sg < (0 : Int32)) (hn : n ≤ 24) (hl : ln ≤ 2) : (own_cy sg fm ln n).toInt = if own_X fm ln % 256 ^ n = 0 then 1 else 0 := by
  induction n with
  | zero => rw [Nat.pow_zero, Nat.mod_one, if_pos rfl]; rfl
  | succ n ih =>
    have ih := ih (by omega)
    have c01 : 0 ≤ (own_cy sg fm ln n).toInt ∧ (own_cy sg fm ln n).toInt ≤ 1 := by rw [ih]; split <;> omega
    have v := own_vlV fm ln n (own_cy sg fm ln n) (by omega) hl c01
    have l := Nat.mod_lt (own_X fm ln / 256 ^ n) (show 0 < 256 by decide)
    show (if sg < (0 : Int32) then _ else _ : Int32).toInt = _
    rw [if_pos hs, c_iushr _ (8 : Int32) 8 (by decide) (by decide), v, ih, own_modn]
    have hp : 0 < 256 ^ n := Nat.pow_pos (by decide)
    generalize own_X fm ln / 256 ^ n % 256 = b at *
    generalize own_X fm ln % 256 ^ n = m at *
    generalize 256 ^ n = D at *
    by_cases z : m = 0
    · by_cases y : b = 0
      · rw [if_pos z, if_pos (by rw [z, y]; rfl), y]
        decide
      · have : 0 < D * b := Nat.mul_pos hp (by omega)
        rw [if_pos z, if_neg (by omega)]
        simp only [Nat.reducePow]
        omega
    · rw [if_neg z, if_neg (by omega)]
      simp only [Nat.reducePow]
      omega
theorem own_sbV (w0 w1 w2 : Int64) (n : Nat) (hn : n < 24) (x : Int32) (hx : (x.toInt - (((own_u w0 + 2 ^ 64 * own_u w1 + 2 ^ 128 * own_u w2) / 256 ^ n % 256 : Nat) : Int)) % 256 = 0) : x.toInt8.toInt32 = own_sb w0 w1 w2 n := by
  unfold own_sb
  apply own_b8
  rw [own_words _ _ _ n (own_ult _) (own_ult _) (own_ult _) hn] at hx
  have b := own_byte (if n / 8 = 0 then w0 else if n / 8 = 1 then w1 else w2) _ (n % 8) (by omega) (own_sh n hn)
  have e : own_u (if n / 8 = 0 then w0 else if n / 8 = 1 then w1 else w2) = (if n / 8 = 0 then own_u w0 else if n / 8 = 1 then own_u w1 else own_u w2) := by split; rfl; split <;> rfl
  rw [e] at b
  omega
/-- low, high and the array that the law makes of them -/
def own_mag (low high : Int64) (ln : Nat) (fm : Nat → Int64) : Prop := (¬ high = 0 ∧ ln = 2 ∧ fm 0 = low ∧ fm 1 = high) ∨ (high = 0 ∧ ¬ low = 0 ∧ ln = 1 ∧ fm 0 = low) ∨ (high = 0 ∧ low = 0 ∧ ln = 0)
theorem own_magX {low high : Int64} {ln : Nat} {fm : Nat → Int64} (h : own_mag low high ln fm) : ln ≤ 2 ∧ own_X fm ln = own_u low + 2 ^ 64 * own_u high := by
  unfold own_X
  rcases h with ⟨-, rfl, h1, h2⟩ | ⟨h0, -, rfl, h1⟩ | ⟨h0, h1, rfl⟩
  · rw [if_pos (by decide), if_pos (by decide), h1, h2]; exact ⟨by decide, rfl⟩
  · rw [if_pos (by decide), if_neg (by decide), h1, h0]; exact ⟨by decide, rfl⟩
  · rw [if_neg (by decide), if_neg (by decide), h0, h1]; exact ⟨by decide, rfl⟩
theorem own_pos {low high : Int64} {ln : Nat} {fm : Nat → Int64} (h : own_mag low high ln fm) (sg : Int32) (hs : ¬ (sg < (0 : Int32))) : ∀ n, n < 24 → own_ob sg fm ln n = own_sb low high 0 n := by
  intro n hn
  obtain ⟨hl, hX⟩ := own_magX h
  unfold own_ob
  rw [if_neg hs]
  apply own_sbV _ _ _ n hn
  rw [own_mbV fm ln n hn hl, hX, show own_u 0 = 0 from rfl, Nat.mul_zero, Nat.add_zero, Int.sub_self]
  rfl
theorem own_negw {low high : Int64} {ln : Nat} {fm : Nat → Int64} (h : own_mag low high ln fm) (sg : Int32) (hs : sg < (0 : Int32)) (hz : ¬ (low = 0 ∧ high = 0)) (w0 w1 w2 : Int64) (hw : own_u w0 + 2 ^ 64 * own_u w1 + 2 ^ 128 * own_u w2 = 2 ^ 192 - (own_u low + 2 ^ 64 * own_u high)) : ∀ n, n < 24 → own_ob sg fm ln n = own_sb w0 w1 w2 n := by
  intro n hn
  obtain ⟨hl, hX⟩ := own_magX h
  have l0 := own_ult low
  have l1 := own_ult high
  have hpos : 0 < own_u low + 2 ^ 64 * own_u high := by
    rcases Nat.eq_zero_or_pos (own_u low) with z | z
    · rcases Nat.eq_zero_or_pos (own_u high) with y | y
      · exact absurd ⟨own_u0.mp z, own_u0.mp y⟩ hz
      · omega
    · omega
  have N := own_neg (own_u low + 2 ^ 64 * own_u high) n hn hpos (by omega)
  unfold own_ob
  rw [if_pos hs]
  apply own_sbV _ _ _ n hn
  have c := own_cyV sg fm ln n hs (by omega) hl
  have c01 : 0 ≤ (own_cy sg fm ln n).toInt ∧ (own_cy sg fm ln n).toInt ≤ 1 := by rw [c]; split <;> omega
  rw [own_vlV fm ln n _ hn hl c01, c, hw, N, hX]
  have l := Nat.mod_lt ((own_u low + 2 ^ 64 * own_u high) / 256 ^ n) (show 0 < 256 by decide)
  generalize (own_u low + 2 ^ 64 * own_u high) / 256 ^ n % 256 = b at *
  split <;> omega
theorem own_ng (x : Int64) : own_u (-x) = if own_u x = 0 then 0 else 2 ^ 64 - own_u x := by
  have e := c_lneg x
  have a := own_uc x
  have b := own_uc (-x)
  have l := own_ult x
  have l' := own_ult (-x)
  split <;> omega
theorem own_xr (x : Int64) : own_u (x ^^^ (-1 : Int64)) = 2 ^ 64 - 1 - own_u x := by
  have q : x ^^^ (-1 : Int64) = -x - 1 := by
    apply Int64.toBitVec_inj.mp
    rw [Int64.toBitVec_xor, Int64.toBitVec_sub, show (-x).toBitVec = -x.toBitVec from rfl]
    show x.toBitVec ^^^ BitVec.allOnes 64 = _
    rw [BitVec.xor_allOnes, BitVec.neg_eq_not_add]
    show ~~~x.toBitVec = ~~~x.toBitVec + 1#64 - 1#64
    rw [BitVec.add_sub_cancel]
  rw [q]
  have e1 := c_lneg x
  have e2 := c_lsub (-x) (1 : Int64)
  have t : (1 : Int64).toInt = 1 := by decide
  have a := own_uc x
  have b := own_uc (-x - 1)
  have l := own_ult x
  have l' := own_ult (-x - 1)
  omega
theorem own_w0 (low high : Int64) (h : low = 0) (h2 : ¬ high = 0) : own_u (-low) + 2 ^ 64 * own_u (-high) + 2 ^ 128 * own_u (-1 : Int64) = 2 ^ 192 - (own_u low + 2 ^ 64 * own_u high) := by
  rw [own_ng, own_ng, if_pos (own_u0.mpr h), if_neg (fun z => h2 (own_u0.mp z)), own_u0.mpr h, show own_u (-1 : Int64) = 2 ^ 64 - 1 from by decide]
  have l := own_ult high
  have p : 0 < own_u high := Nat.pos_of_ne_zero fun z => h2 (own_u0.mp z)
  omega
theorem own_w1 (low high : Int64) (h : ¬ low = 0) : own_u (-low) + 2 ^ 64 * own_u (high ^^^ (-1 : Int64)) + 2 ^ 128 * own_u (-1 : Int64) = 2 ^ 192 - (own_u low + 2 ^ 64 * own_u high) := by
  rw [own_ng, own_xr, if_neg (fun z => h (own_u0.mp z)), show own_u (-1 : Int64) = 2 ^ 64 - 1 from by decide]
  have l := own_ult high
  have l2 := own_ult low
  have p : 0 < own_u low := Nat.pos_of_ne_zero fun z => h (own_u0.mp z)
  omega
theorem own_or0 (x y : Int64) : x ||| y = (0 : Int64) ↔ x = 0 ∧ y = 0 := by
  rw [← Int64.toBitVec_inj, ← Int64.toBitVec_inj, ← Int64.toBitVec_inj, Int64.toBitVec_or]
  exact BitVec.or_eq_zero_iff
/-! 5. the check of one place -/
theorem own_out (po pn q : Int32) (g : Nat → Int32) (z : Nat) (h1 : 0 ≤ po.toInt ∧ po.toInt ≤ 3) (h2 : 0 ≤ pn.toInt ∧ pn.toInt ≤ 24) (hq : q.toInt = (z : Int)) (h : q < po ∨ ¬ (q < po + pn)) : own_wm po pn g own_k0 pn.toInt z = (0 : Int32) := by
  have e1 := c_iadd po pn
  have r1 := rng32 (po + pn)
  simp only [Int32.lt_iff_toInt_lt] at h
  unfold own_wm
  rw [if_neg (by omega)]
  rfl
theorem own_in (po pn q : Int32) (g : Nat → Int32) (z : Nat) (h1 : 0 ≤ po.toInt ∧ po.toInt ≤ 3) (h2 : 0 ≤ pn.toInt ∧ pn.toInt ≤ 24) (hq : q.toInt = (z : Int)) (h : ¬ (q < po)) (h' : q < po + pn) (w0 w1 w2 : Int64) (hg : ∀ n, n < 24 → g n = own_sb w0 w1 w2 n) (i wd sh : Int32) (hi : i = po + pn - (1 : Int32) - q) (hwd : wd = i >>> ((3 : Int32) &&& 31)) (hsh : sh = (8 : Int32) * (i &&& (7 : Int32))) (w : Int64) (hw : w = if wd = (0 : Int32) then w0 else if wd = (1 : Int32) then w1 else w2) : own_wm po pn g own_k0 pn.toInt z = (own_ush w sh).toInt32.toInt8.toInt32 := by
  have t1 : (1 : Int32).toInt = 1 := by decide
  have t0 : (0 : Int32).toInt = 0 := by decide
  have e1 := c_iadd po pn
  have r1 := rng32 (po + pn)
  have e2 := c_isub (po + pn) (1 : Int32)
  have r2 := rng32 (po + pn - (1 : Int32))
  have e3 := c_isub (po + pn - (1 : Int32)) q
  have r3 := rng32 (po + pn - (1 : Int32) - q)
  rw [Int32.lt_iff_toInt_lt] at h h'
  rw [← hi] at e3 r3
  have vi : i.toInt = po.toInt + pn.toInt - 1 - (z : Int) := by omega
  obtain ⟨n, hn⟩ : ∃ n : Nat, n = (po.toInt + pn.toInt - 1 - (z : Int)).toNat := ⟨_, rfl⟩
  have n24 : n < 24 := by omega
  have ein : i = Int32.ofNat n := by rw [hn, ← vi, own_nat i (by omega)]
  unfold own_wm
  rw [if_pos (by omega), ← hn, hg n n24]
  unfold own_sb
  have k1 : ∀ j : Fin 24, (8 : Int32) * (Int32.ofNat j.val % (8 : Int32)) = (8 : Int32) * (Int32.ofNat j.val &&& (7 : Int32)) ∧ ((j.val / 8 = 0) ↔ (Int32.ofNat j.val >>> ((3 : Int32) &&& 31)) = (0 : Int32)) ∧ ((j.val / 8 = 1) ↔ (Int32.ofNat j.val >>> ((3 : Int32) &&& 31)) = (1 : Int32)) := by decide +kernel
  obtain ⟨k2, k3, k4⟩ := k1 ⟨n, n24⟩
  dsimp only at k2 k3 k4
  rw [hsh, hw, hwd, ein, k2]
  simp only [k3, k4]
theorem own_of (x : Int32) : 0 ≤ (x &&& (3 : Int32)).toInt ∧ (x &&& (3 : Int32)).toInt ≤ 3 := by
  have e1 := c_mask x (3 : Int32) 2 (by decide) (by decide)
  omega
theorem own_cn (x : Int32) : 0 ≤ ((x &&& (2147483647 : Int32)) % (25 : Int32)).toInt ∧ ((x &&& (2147483647 : Int32)) % (25 : Int32)).toInt ≤ 24 := by
  have e1 := c_mask x (2147483647 : Int32) 31 (by decide) (by decide)
  have e2 := c_irem (x &&& (2147483647 : Int32)) (25 : Int32) 25 (by decide)
  omega
theorem d2_0 : decode method_3_code 0 = .ok (.iload_n 1, 1) := by decide +kernel
theorem d2_1 : decode method_3_code 1 = .ok (.iload_n 2, 1) := by decide +kernel
theorem d2_2 : decode method_3_code 2 = .ok (.if_icmp .lt 10, 3) := by decide +kernel
theorem d2_5 : decode method_3_code 5 = .ok (.iload_n 1, 1) := by decide +kernel
theorem d2_6 : decode method_3_code 6 = .ok (.iload_n 2, 1) := by decide +kernel
theorem d2_7 : decode method_3_code 7 = .ok (.iload_n 3, 1) := by decide +kernel
theorem d2_8 : decode method_3_code 8 = .ok (.iadd, 1) := by decide +kernel
theorem d2_9 : decode method_3_code 9 = .ok (.if_icmp .lt 15, 3) := by decide +kernel
theorem d2_12 : decode method_3_code 12 = .ok (.aload_n 0, 1) := by decide +kernel
theorem d2_13 : decode method_3_code 13 = .ok (.iload_n 1, 1) := by decide +kernel
theorem d2_14 : decode method_3_code 14 = .ok (.baload, 1) := by decide +kernel
theorem d2_15 : decode method_3_code 15 = .ok (.ifCond .ne 7, 3) := by decide +kernel
theorem d2_18 : decode method_3_code 18 = .ok (.iconst 1, 1) := by decide +kernel
theorem d2_19 : decode method_3_code 19 = .ok (.goto 4, 3) := by decide +kernel
theorem d2_23 : decode method_3_code 23 = .ok (.ireturn, 1) := by decide +kernel
theorem d2_24 : decode method_3_code 24 = .ok (.iload_n 2, 1) := by decide +kernel
theorem d2_25 : decode method_3_code 25 = .ok (.iload_n 3, 1) := by decide +kernel
theorem d2_26 : decode method_3_code 26 = .ok (.iadd, 1) := by decide +kernel
theorem d2_27 : decode method_3_code 27 = .ok (.iconst 1, 1) := by decide +kernel
theorem d2_28 : decode method_3_code 28 = .ok (.isub, 1) := by decide +kernel
theorem d2_29 : decode method_3_code 29 = .ok (.iload_n 1, 1) := by decide +kernel
theorem d2_30 : decode method_3_code 30 = .ok (.isub, 1) := by decide +kernel
theorem d2_31 : decode method_3_code 31 = .ok (.istore 10, 2) := by decide +kernel
theorem d2_33 : decode method_3_code 33 = .ok (.iload 10, 2) := by decide +kernel
theorem d2_35 : decode method_3_code 35 = .ok (.iconst 3, 1) := by decide +kernel
theorem d2_36 : decode method_3_code 36 = .ok (.ishr, 1) := by decide +kernel
theorem d2_37 : decode method_3_code 37 = .ok (.istore 11, 2) := by decide +kernel
theorem d2_39 : decode method_3_code 39 = .ok (.bipush 8, 2) := by decide +kernel
theorem d2_41 : decode method_3_code 41 = .ok (.iload 10, 2) := by decide +kernel
theorem d2_43 : decode method_3_code 43 = .ok (.bipush 7, 2) := by decide +kernel
theorem d2_45 : decode method_3_code 45 = .ok (.iand, 1) := by decide +kernel
theorem d2_46 : decode method_3_code 46 = .ok (.imul, 1) := by decide +kernel
theorem d2_47 : decode method_3_code 47 = .ok (.istore 12, 2) := by decide +kernel
theorem d2_49 : decode method_3_code 49 = .ok (.iload 11, 2) := by decide +kernel
theorem d2_51 : decode method_3_code 51 = .ok (.ifCond .ne 8, 3) := by decide +kernel
theorem d2_54 : decode method_3_code 54 = .ok (.lload 4, 2) := by decide +kernel
theorem d2_56 : decode method_3_code 56 = .ok (.goto 16, 3) := by decide +kernel
theorem d2_59 : decode method_3_code 59 = .ok (.iload 11, 2) := by decide +kernel
theorem d2_61 : decode method_3_code 61 = .ok (.iconst 1, 1) := by decide +kernel
theorem d2_62 : decode method_3_code 62 = .ok (.if_icmp .ne 8, 3) := by decide +kernel
theorem d2_65 : decode method_3_code 65 = .ok (.lload 6, 2) := by decide +kernel
theorem d2_67 : decode method_3_code 67 = .ok (.goto 5, 3) := by decide +kernel
theorem d2_70 : decode method_3_code 70 = .ok (.lload 8, 2) := by decide +kernel
theorem d2_72 : decode method_3_code 72 = .ok (.lstore 13, 2) := by decide +kernel
theorem d2_74 : decode method_3_code 74 = .ok (.aload_n 0, 1) := by decide +kernel
theorem d2_75 : decode method_3_code 75 = .ok (.iload_n 1, 1) := by decide +kernel
theorem d2_76 : decode method_3_code 76 = .ok (.baload, 1) := by decide +kernel
theorem d2_77 : decode method_3_code 77 = .ok (.lload 13, 2) := by decide +kernel
theorem d2_79 : decode method_3_code 79 = .ok (.iload 12, 2) := by decide +kernel
theorem d2_81 : decode method_3_code 81 = .ok (.lushr, 1) := by decide +kernel
theorem d2_82 : decode method_3_code 82 = .ok (.l2i, 1) := by decide +kernel
theorem d2_83 : decode method_3_code 83 = .ok (.i2b, 1) := by decide +kernel
theorem d2_84 : decode method_3_code 84 = .ok (.if_icmp .ne 7, 3) := by decide +kernel
theorem d2_87 : decode method_3_code 87 = .ok (.iconst 1, 1) := by decide +kernel
theorem d2_88 : decode method_3_code 88 = .ok (.goto 4, 3) := by decide +kernel
theorem d2_92 : decode method_3_code 92 = .ok (.ireturn, 1) := by decide +kernel
theorem own_pn_com_example_sumtide_sumtide_MagnitudesWriteBytesPinLaw : plainName "com/example/sumtide/sumtide/MagnitudesWriteBytesPinLaw" = true := by first | (simp [plainName, overriddenIn]; done) | decide +kernel
theorem ef_2 (m : MethodId) (ar : Addr) (pq : Int32) (po : Int32) (pn : Int32) (w0 : Int64) (w1 : Int64) (w2 : Int64) : entryFrame m #[(.ref ar), (.int pq), (.int po), (.int pn), (.long w0), (.long w1), (.long w2)] 15 = mkF m 0 #[.val (.ref ar), .val (.int pq), .val (.int po), .val (.int pn), .val (.long w0), .second, .val (.long w1), .second, .val (.long w2), .second, .unset, .unset, .unset, .unset, .unset] [] := by first | (simp [entryFrame, mkF, argsToLocals, Value.category]; done) | rfl
def Q2 (Z : State) (ar : Addr) (pq : Int32) (po : Int32) (pn : Int32) (w0 : Int64) (w1 : Int64) (w2 : Int64) (fa : Nat → Int32) (iz : Nat) (h0 : Heap) (n0 : Nat) (v : Option Value) (h : Heap) (L : List Loc) : Prop := v = some (.int (1 : Int32)) ∧ Fr n0 L ∧ h = h0
set_option maxRecDepth 65536 in
set_option maxHeartbeats 40000000 in
theorem rm2 (l : Launch) (Z : State) (a0 : Array Value) (hw : ∀ d ∈ tables_1, d.before a0 Z = true) (ws : List Jvm.Cond) (ar : Addr) (pq : Int32) (po : Int32) (pn : Int32) (w0 : Int64) (w1 : Int64) (w2 : Int64) (fa : Nat → Int32) (iz : Nat) (h0 : Heap) (n0 : Nat) (Z0 : n0 ≤ h0.size) (f_A_ar : own_A Z h0 ar .byte (28) (fun z => .int (fa z))) (hiz : own_In pq iz 28) (hout : (pq < po ∨ ¬ (pq < po + pn)) → fa iz = (0 : Int32)) (hin : ¬ (pq < po) → pq < po + pn → ∀ (i wd sh : Int32) (w : Int64), i = po + pn - (1 : Int32) - pq → wd = i >>> ((3 : Int32) &&& 31) → sh = (8 : Int32) * (i &&& (7 : Int32)) → (w = if wd = (0 : Int32) then w0 else if wd = (1 : Int32) then w1 else w2) → fa iz = (own_ush w sh).toInt32.toInt8.toInt32) :
    MetFree l (⟨"com/example/sumtide/sumtide/MagnitudesWriteBytesPinLaw", "at", "([BIIIJJJ)Z"⟩ : MethodName) (head1 (Jvm.Cond.code (⟨"com/example/sumtide/sumtide/MagnitudesWriteBytesPinLaw", "at", "([BIIIJJJ)Z"⟩ : MethodName) method_3_code 15 (some .boolean) :: ws) ({ frames := 0, cells := 0, slots := 0, locals := 0 } : Room)) (fun avs U => avs = #[(.ref ar), (.int pq), (.int po), (.int pn), (.long w0), (.long w1), (.long w2)] ∧ Z.Warmed39 U.vm ∧ U.heap = h0) (fun _ _ _ _ _ => True) (fun _ U o U' => ∃ v L, o = .returned v ∧ Q2 Z ar pq po pn w0 w1 w2 fa iz h0 n0 v U'.heap L ∧ FrameEnd U o U' L ({ frames := 0, cells := 0, slots := 0, locals := 0 } : Room).cells ({ frames := 0, cells := 0, slots := 0, locals := 0 } : Room).slots) := by
  refine MetFree.of_bodySF (plainFor_of_name own_pn_com_example_sumtide_sumtide_MagnitudesWriteBytesPinLaw) hisR ?_
  intro p e s m args below meth c s₁ Bd hml0 hP hK
  obtain ⟨rfl, hZ, hh⟩ := hP
  have hx := Bd.exec
  have hby := Bd.bytes
  have hml : c.maxLocals = 15 := hml0
  have hown : s.vm.findClass "com/example/sumtide/sumtide/MagnitudesWriteBytesPinLaw" = some m.cls := findClass_of_methodNamed Bd.named
  have hnm := (name_of_methodNamed Bd.named Bd.method).1
  have hlk := Bd.notSynchronized
  have hret := Bd.returns
  have X0 : Stand p l e ({ frames := 0, cells := 0, slots := 0, locals := 0 } : Room) s m #[(.ref ar), (.int pq), (.int po), (.int pn), (.long w0), (.long w1), (.long w2)] below meth c s₁ [] 0 0 := Stand.of_body Bd
  have e0 : s₁.heap = h0 := by rw [← hh, Bd.state]; rfl
  have N0 := Fr.nil n0
  show own_W p e (FrameEnd s) below ({ frames := 0, cells := 0, slots := 0, locals := 0 } : Room).cells ({ frames := 0, cells := 0, slots := 0, locals := 0 } : Room).slots (Q2 Z ar pq po pn w0 w1 w2 fa iz h0 n0) s₁ (entryFrame m #[(.ref ar), (.int pq), (.int po), (.int pn), (.long w0), (.long w1), (.long w2)] 15)
  rw [ef_2]
  refine own_iloadN X0 hx (hb hby d2_0) (v := pq) rfl (rfl : 0 + 1 = 1) ?_
  refine own_iloadN X0 hx (hb hby d2_1) (v := po) rfl (rfl : 1 + 1 = 2) ?_
  by_cases hc2 : pq < po
  · skip
    refine own_icmpYes X0 hx (hb hby d2_2) (tlt hc2).1 (pc' := 12) (by decide) (by decide) ?_
    refine own_aloadN X0 hx (hb hby d2_12) (v := (.ref ar)) rfl rfl (rfl : 12 + 1 = 13) ?_
    refine own_iloadN X0 hx (hb hby d2_13) (v := pq) rfl (rfl : 13 + 1 = 14) ?_
    have hi1 : own_In pq (iz) (28) := hiz
    refine own_baload X0 hx hZ e0 f_A_ar hi1 (v := (fa (iz))) rfl (g := (mkF m 14 #[.val (.ref ar), .val (.int pq), .val (.int po), .val (.int pn), .val (.long w0), .second, .val (.long w1), .second, .val (.long w2), .second, .unset, .unset, .unset, .unset, .unset] [(.int pq), (.ref ar)])) rfl rfl (hb hby d2_14) ?_
    show own_W p e (FrameEnd s) below ({ frames := 0, cells := 0, slots := 0, locals := 0 } : Room).cells ({ frames := 0, cells := 0, slots := 0, locals := 0 } : Room).slots (Q2 Z ar pq po pn w0 w1 w2 fa iz h0 n0) s₁ (mkF m 15 #[.val (.ref ar), .val (.int pq), .val (.int po), .val (.int pn), .val (.long w0), .second, .val (.long w1), .second, .val (.long w2), .second, .unset, .unset, .unset, .unset, .unset] [(.int (fa (iz)))])
    have hc15 : (fa (iz)) = (0 : Int32) := hout (Or.inl hc2)
    refine own_ifNo X0 hx (hb hby d2_15) ((if0 _ _).trans (teq hc15).2) (rfl : 15 + 3 = 18) ?_
    refine own_iconst X0 hx (hb hby d2_18) (1 : Int32) (by first | rfl | decide) (rfl : 18 + 1 = 19) ?_
    refine own_goto X0 hx (hb hby d2_19) (pc' := 23) (by decide) (by decide) ?_
    refine own_retN (t := .boolean) X0 hx hlk hret (by simp) (hb hby d2_23) (z' := (1 : Int32)) (by decide) (by decide) (by decide) ?_
    show Q2 Z ar pq po pn w0 w1 w2 fa iz h0 n0 (some (.int (1 : Int32))) s₁.heap _
    rw [e0]
    exact ⟨rfl, N0, rfl⟩
  · skip
    refine own_icmpNo X0 hx (hb hby d2_2) (flt hc2).1 (rfl : 2 + 3 = 5) ?_
    refine own_iloadN X0 hx (hb hby d2_5) (v := pq) rfl (rfl : 5 + 1 = 6) ?_
    refine own_iloadN X0 hx (hb hby d2_6) (v := po) rfl (rfl : 6 + 1 = 7) ?_
    refine own_iloadN X0 hx (hb hby d2_7) (v := pn) rfl (rfl : 7 + 1 = 8) ?_
    refine own_iadd X0 hx (hb hby d2_8) (rfl : 8 + 1 = 9) ?_
    by_cases hc9 : pq < (po + pn)
    · skip
      refine own_icmpYes X0 hx (hb hby d2_9) (tlt hc9).1 (pc' := 24) (by decide) (by decide) ?_
      refine own_iloadN X0 hx (hb hby d2_24) (v := po) rfl (rfl : 24 + 1 = 25) ?_
      refine own_iloadN X0 hx (hb hby d2_25) (v := pn) rfl (rfl : 25 + 1 = 26) ?_
      refine own_iadd X0 hx (hb hby d2_26) (rfl : 26 + 1 = 27) ?_
      refine own_iconst X0 hx (hb hby d2_27) (1 : Int32) (by first | rfl | decide) (rfl : 27 + 1 = 28) ?_
      refine own_isub X0 hx (hb hby d2_28) (rfl : 28 + 1 = 29) ?_
      refine own_iloadN X0 hx (hb hby d2_29) (v := pq) rfl (rfl : 29 + 1 = 30) ?_
      refine own_isub X0 hx (hb hby d2_30) (rfl : 30 + 1 = 31) ?_
      refine own_istore X0 hx (hb hby d2_31) (l' := #[.val (.ref ar), .val (.int pq), .val (.int po), .val (.int pn), .val (.long w0), .second, .val (.long w1), .second, .val (.long w2), .second, .val (.int (((po + pn) - (1 : Int32)) - pq)), .unset, .unset, .unset, .unset]) rfl (rfl : 31 + 2 = 33) ?_
      obtain ⟨ii, hii⟩ : ∃ z : Int32, z = (((po + pn) - (1 : Int32)) - pq) := ⟨_, rfl⟩
      rw [← hii]
      show own_W p e (FrameEnd s) below ({ frames := 0, cells := 0, slots := 0, locals := 0 } : Room).cells ({ frames := 0, cells := 0, slots := 0, locals := 0 } : Room).slots (Q2 Z ar pq po pn w0 w1 w2 fa iz h0 n0) s₁ (mkF m 33 #[.val (.ref ar), .val (.int pq), .val (.int po), .val (.int pn), .val (.long w0), .second, .val (.long w1), .second, .val (.long w2), .second, .val (.int ii), .unset, .unset, .unset, .unset] [])
      refine own_iload X0 hx (hb hby d2_33) (v := ii) rfl (rfl : 33 + 2 = 35) ?_
      refine own_iconst X0 hx (hb hby d2_35) (3 : Int32) (by first | rfl | decide) (rfl : 35 + 1 = 36) ?_
      refine own_ishr X0 hx (hb hby d2_36) (rfl : 36 + 1 = 37) ?_
      refine own_istore X0 hx (hb hby d2_37) (l' := #[.val (.ref ar), .val (.int pq), .val (.int po), .val (.int pn), .val (.long w0), .second, .val (.long w1), .second, .val (.long w2), .second, .val (.int ii), .val (.int (ii >>> ((3 : Int32) &&& 31))), .unset, .unset, .unset]) rfl (rfl : 37 + 2 = 39) ?_
      obtain ⟨wd, hwd⟩ : ∃ z : Int32, z = (ii >>> ((3 : Int32) &&& 31)) := ⟨_, rfl⟩
      rw [← hwd]
      show own_W p e (FrameEnd s) below ({ frames := 0, cells := 0, slots := 0, locals := 0 } : Room).cells ({ frames := 0, cells := 0, slots := 0, locals := 0 } : Room).slots (Q2 Z ar pq po pn w0 w1 w2 fa iz h0 n0) s₁ (mkF m 39 #[.val (.ref ar), .val (.int pq), .val (.int po), .val (.int pn), .val (.long w0), .second, .val (.long w1), .second, .val (.long w2), .second, .val (.int ii), .val (.int wd), .unset, .unset, .unset] [])
      refine own_bipush X0 hx (hb hby d2_39) (8 : Int32) (by first | rfl | decide) (rfl : 39 + 2 = 41) ?_
      refine own_iload X0 hx (hb hby d2_41) (v := ii) rfl (rfl : 41 + 2 = 43) ?_
      refine own_bipush X0 hx (hb hby d2_43) (7 : Int32) (by first | rfl | decide) (rfl : 43 + 2 = 45) ?_
      refine own_iand X0 hx (hb hby d2_45) (rfl : 45 + 1 = 46) ?_
      refine own_imul X0 hx (hb hby d2_46) (rfl : 46 + 1 = 47) ?_
      refine own_istore X0 hx (hb hby d2_47) (l' := #[.val (.ref ar), .val (.int pq), .val (.int po), .val (.int pn), .val (.long w0), .second, .val (.long w1), .second, .val (.long w2), .second, .val (.int ii), .val (.int wd), .val (.int ((8 : Int32) * (ii &&& (7 : Int32)))), .unset, .unset]) rfl (rfl : 47 + 2 = 49) ?_
      obtain ⟨sh, hsh⟩ : ∃ z : Int32, z = ((8 : Int32) * (ii &&& (7 : Int32))) := ⟨_, rfl⟩
      rw [← hsh]
      show own_W p e (FrameEnd s) below ({ frames := 0, cells := 0, slots := 0, locals := 0 } : Room).cells ({ frames := 0, cells := 0, slots := 0, locals := 0 } : Room).slots (Q2 Z ar pq po pn w0 w1 w2 fa iz h0 n0) s₁ (mkF m 49 #[.val (.ref ar), .val (.int pq), .val (.int po), .val (.int pn), .val (.long w0), .second, .val (.long w1), .second, .val (.long w2), .second, .val (.int ii), .val (.int wd), .val (.int sh), .unset, .unset] [])
      refine own_iload X0 hx (hb hby d2_49) (v := wd) rfl (rfl : 49 + 2 = 51) ?_
      have J72 : ∀ (ww : Int64), ∀ (hww : ww = if wd = (0 : Int32) then w0 else if wd = (1 : Int32) then w1 else w2), own_W p e (FrameEnd s) below ({ frames := 0, cells := 0, slots := 0, locals := 0 } : Room).cells ({ frames := 0, cells := 0, slots := 0, locals := 0 } : Room).slots (Q2 Z ar pq po pn w0 w1 w2 fa iz h0 n0) s₁ (mkF m 72 #[.val (.ref ar), .val (.int pq), .val (.int po), .val (.int pn), .val (.long w0), .second, .val (.long w1), .second, .val (.long w2), .second, .val (.int ii), .val (.int wd), .val (.int sh), .unset, .unset] [(.long ww)]) := by
        intro ww hww
        refine own_lstore X0 hx (hb hby d2_72) (l' := #[.val (.ref ar), .val (.int pq), .val (.int po), .val (.int pn), .val (.long w0), .second, .val (.long w1), .second, .val (.long w2), .second, .val (.int ii), .val (.int wd), .val (.int sh), .val (.long ww), .second]) rfl (rfl : 72 + 2 = 74) ?_
        refine own_aloadN X0 hx (hb hby d2_74) (v := (.ref ar)) rfl rfl (rfl : 74 + 1 = 75) ?_
        refine own_iloadN X0 hx (hb hby d2_75) (v := pq) rfl (rfl : 75 + 1 = 76) ?_
        have hi2 : own_In pq (iz) (28) := hiz
        refine own_baload X0 hx hZ e0 f_A_ar hi2 (v := (fa (iz))) rfl (g := (mkF m 76 #[.val (.ref ar), .val (.int pq), .val (.int po), .val (.int pn), .val (.long w0), .second, .val (.long w1), .second, .val (.long w2), .second, .val (.int ii), .val (.int wd), .val (.int sh), .val (.long ww), .second] [(.int pq), (.ref ar)])) rfl rfl (hb hby d2_76) ?_
        show own_W p e (FrameEnd s) below ({ frames := 0, cells := 0, slots := 0, locals := 0 } : Room).cells ({ frames := 0, cells := 0, slots := 0, locals := 0 } : Room).slots (Q2 Z ar pq po pn w0 w1 w2 fa iz h0 n0) s₁ (mkF m 77 #[.val (.ref ar), .val (.int pq), .val (.int po), .val (.int pn), .val (.long w0), .second, .val (.long w1), .second, .val (.long w2), .second, .val (.int ii), .val (.int wd), .val (.int sh), .val (.long ww), .second] [(.int (fa (iz)))])
        refine own_lload X0 hx (hb hby d2_77) (v := ww) rfl (rfl : 77 + 2 = 79) ?_
        refine own_iload X0 hx (hb hby d2_79) (v := sh) rfl (rfl : 79 + 2 = 81) ?_
        refine own_lushr X0 hx (hb hby d2_81) (rfl : 81 + 1 = 82) ?_
        refine own_l2i X0 hx (hb hby d2_82) (rfl : 82 + 1 = 83) ?_
        refine own_i2b X0 hx (hb hby d2_83) (rfl : 83 + 1 = 84) ?_
        have hc84 : (fa (iz)) = ((((ww.toUInt64 >>> (sh &&& 0x3f).toInt64.toUInt64).toInt64).toInt32).toInt8.toInt32) := hin hc2 hc9 ii wd sh ww hii hwd hsh hww
        refine own_icmpNo X0 hx (hb hby d2_84) (teq hc84).2 (rfl : 84 + 3 = 87) ?_
        refine own_iconst X0 hx (hb hby d2_87) (1 : Int32) (by first | rfl | decide) (rfl : 87 + 1 = 88) ?_
        refine own_goto X0 hx (hb hby d2_88) (pc' := 92) (by decide) (by decide) ?_
        refine own_retN (t := .boolean) X0 hx hlk hret (by simp) (hb hby d2_92) (z' := (1 : Int32)) (by decide) (by decide) (by decide) ?_
        show Q2 Z ar pq po pn w0 w1 w2 fa iz h0 n0 (some (.int (1 : Int32))) s₁.heap _
        rw [e0]
        exact ⟨rfl, N0, rfl⟩
      by_cases hc51 : wd = (0 : Int32)
      · skip
        refine own_ifNo X0 hx (hb hby d2_51) ((if0 _ _).trans (teq hc51).2) (rfl : 51 + 3 = 54) ?_
        refine own_lload X0 hx (hb hby d2_54) (v := w0) rfl (rfl : 54 + 2 = 56) ?_
        refine own_goto X0 hx (hb hby d2_56) (pc' := 72) (by decide) (by decide) ?_
        exact J72 (w0)   (by simp only [if_pos hc51])
      · skip
        refine own_ifYes X0 hx (hb hby d2_51) ((if0 _ _).trans (feq hc51).2) (pc' := 59) (by decide) (by decide) ?_
        refine own_iload X0 hx (hb hby d2_59) (v := wd) rfl (rfl : 59 + 2 = 61) ?_
        refine own_iconst X0 hx (hb hby d2_61) (1 : Int32) (by first | rfl | decide) (rfl : 61 + 1 = 62) ?_
        by_cases hc62 : wd = (1 : Int32)
        · skip
          refine own_icmpNo X0 hx (hb hby d2_62) (teq hc62).2 (rfl : 62 + 3 = 65) ?_
          refine own_lload X0 hx (hb hby d2_65) (v := w1) rfl (rfl : 65 + 2 = 67) ?_
          refine own_goto X0 hx (hb hby d2_67) (pc' := 72) (by decide) (by decide) ?_
          exact J72 (w1)   (by simp only [if_neg hc51, if_pos hc62])
        · skip
          refine own_icmpYes X0 hx (hb hby d2_62) (feq hc62).2 (pc' := 70) (by decide) (by decide) ?_
          refine own_lload X0 hx (hb hby d2_70) (v := w2) rfl (rfl : 70 + 2 = 72) ?_
          exact J72 (w2)   (by simp only [if_neg hc51, if_neg hc62])
    · skip
      refine own_icmpNo X0 hx (hb hby d2_9) (flt hc9).1 (rfl : 9 + 3 = 12) ?_
      refine own_aloadN X0 hx (hb hby d2_12) (v := (.ref ar)) rfl rfl (rfl : 12 + 1 = 13) ?_
      refine own_iloadN X0 hx (hb hby d2_13) (v := pq) rfl (rfl : 13 + 1 = 14) ?_
      have hi3 : own_In pq (iz) (28) := hiz
      refine own_baload X0 hx hZ e0 f_A_ar hi3 (v := (fa (iz))) rfl (g := (mkF m 14 #[.val (.ref ar), .val (.int pq), .val (.int po), .val (.int pn), .val (.long w0), .second, .val (.long w1), .second, .val (.long w2), .second, .unset, .unset, .unset, .unset, .unset] [(.int pq), (.ref ar)])) rfl rfl (hb hby d2_14) ?_
      show own_W p e (FrameEnd s) below ({ frames := 0, cells := 0, slots := 0, locals := 0 } : Room).cells ({ frames := 0, cells := 0, slots := 0, locals := 0 } : Room).slots (Q2 Z ar pq po pn w0 w1 w2 fa iz h0 n0) s₁ (mkF m 15 #[.val (.ref ar), .val (.int pq), .val (.int po), .val (.int pn), .val (.long w0), .second, .val (.long w1), .second, .val (.long w2), .second, .unset, .unset, .unset, .unset, .unset] [(.int (fa (iz)))])
      have hc15 : (fa (iz)) = (0 : Int32) := hout (Or.inr hc9)
      refine own_ifNo X0 hx (hb hby d2_15) ((if0 _ _).trans (teq hc15).2) (rfl : 15 + 3 = 18) ?_
      refine own_iconst X0 hx (hb hby d2_18) (1 : Int32) (by first | rfl | decide) (rfl : 18 + 1 = 19) ?_
      refine own_goto X0 hx (hb hby d2_19) (pc' := 23) (by decide) (by decide) ?_
      refine own_retN (t := .boolean) X0 hx hlk hret (by simp) (hb hby d2_23) (z' := (1 : Int32)) (by decide) (by decide) (by decide) ?_
      show Q2 Z ar pq po pn w0 w1 w2 fa iz h0 n0 (some (.int (1 : Int32))) s₁.heap _
      rw [e0]
      exact ⟨rfl, N0, rfl⟩
theorem d1_0 : decode prog_20_method_6_code 0 = .ok (.iconst 1, 1) := by decide +kernel
theorem d1_1 : decode prog_20_method_6_code 1 = .ok (.istore 5, 2) := by decide +kernel
theorem d1_3 : decode prog_20_method_6_code 3 = .ok (.iconst 0, 1) := by decide +kernel
theorem d1_4 : decode prog_20_method_6_code 4 = .ok (.istore 6, 2) := by decide +kernel
theorem d1_6 : decode prog_20_method_6_code 6 = .ok (.iload 6, 2) := by decide +kernel
theorem d1_8 : decode prog_20_method_6_code 8 = .ok (.iload 4, 2) := by decide +kernel
theorem d1_10 : decode prog_20_method_6_code 10 = .ok (.if_icmp .ge 85, 3) := by decide +kernel
theorem d1_13 : decode prog_20_method_6_code 13 = .ok (.iload 6, 2) := by decide +kernel
theorem d1_15 : decode prog_20_method_6_code 15 = .ok (.bipush 8, 2) := by decide +kernel
theorem d1_17 : decode prog_20_method_6_code 17 = .ok (.idiv, 1) := by decide +kernel
theorem d1_18 : decode prog_20_method_6_code 18 = .ok (.istore 7, 2) := by decide +kernel
theorem d1_20 : decode prog_20_method_6_code 20 = .ok (.iload 7, 2) := by decide +kernel
theorem d1_22 : decode prog_20_method_6_code 22 = .ok (.aload_n 1, 1) := by decide +kernel
theorem d1_23 : decode prog_20_method_6_code 23 = .ok (.arraylength, 1) := by decide +kernel
theorem d1_24 : decode prog_20_method_6_code 24 = .ok (.if_icmp .ge 24, 3) := by decide +kernel
theorem d1_27 : decode prog_20_method_6_code 27 = .ok (.aload_n 1, 1) := by decide +kernel
theorem d1_28 : decode prog_20_method_6_code 28 = .ok (.iload 7, 2) := by decide +kernel
theorem d1_30 : decode prog_20_method_6_code 30 = .ok (.laload, 1) := by decide +kernel
theorem d1_31 : decode prog_20_method_6_code 31 = .ok (.bipush 8, 2) := by decide +kernel
theorem d1_33 : decode prog_20_method_6_code 33 = .ok (.iload 6, 2) := by decide +kernel
theorem d1_35 : decode prog_20_method_6_code 35 = .ok (.bipush 8, 2) := by decide +kernel
theorem d1_37 : decode prog_20_method_6_code 37 = .ok (.irem, 1) := by decide +kernel
theorem d1_38 : decode prog_20_method_6_code 38 = .ok (.imul, 1) := by decide +kernel
theorem d1_39 : decode prog_20_method_6_code 39 = .ok (.lushr, 1) := by decide +kernel
theorem d1_40 : decode prog_20_method_6_code 40 = .ok (.l2i, 1) := by decide +kernel
theorem d1_41 : decode prog_20_method_6_code 41 = .ok (.sipush 255, 3) := by decide +kernel
theorem d1_44 : decode prog_20_method_6_code 44 = .ok (.iand, 1) := by decide +kernel
theorem d1_45 : decode prog_20_method_6_code 45 = .ok (.goto 4, 3) := by decide +kernel
theorem d1_48 : decode prog_20_method_6_code 48 = .ok (.iconst 0, 1) := by decide +kernel
theorem d1_49 : decode prog_20_method_6_code 49 = .ok (.istore 8, 2) := by decide +kernel
theorem d1_51 : decode prog_20_method_6_code 51 = .ok (.iload_n 0, 1) := by decide +kernel
theorem d1_52 : decode prog_20_method_6_code 52 = .ok (.ifCond .ge 23, 3) := by decide +kernel
theorem d1_55 : decode prog_20_method_6_code 55 = .ok (.iload 8, 2) := by decide +kernel
theorem d1_57 : decode prog_20_method_6_code 57 = .ok (.iconst (-1), 1) := by decide +kernel
theorem d1_58 : decode prog_20_method_6_code 58 = .ok (.ixor, 1) := by decide +kernel
theorem d1_59 : decode prog_20_method_6_code 59 = .ok (.sipush 255, 3) := by decide +kernel
theorem d1_62 : decode prog_20_method_6_code 62 = .ok (.iand, 1) := by decide +kernel
theorem d1_63 : decode prog_20_method_6_code 63 = .ok (.iload 5, 2) := by decide +kernel
theorem d1_65 : decode prog_20_method_6_code 65 = .ok (.iadd, 1) := by decide +kernel
theorem d1_66 : decode prog_20_method_6_code 66 = .ok (.istore 8, 2) := by decide +kernel
theorem d1_68 : decode prog_20_method_6_code 68 = .ok (.iload 8, 2) := by decide +kernel
theorem d1_70 : decode prog_20_method_6_code 70 = .ok (.bipush 8, 2) := by decide +kernel
theorem d1_72 : decode prog_20_method_6_code 72 = .ok (.iushr, 1) := by decide +kernel
theorem d1_73 : decode prog_20_method_6_code 73 = .ok (.istore 5, 2) := by decide +kernel
theorem d1_75 : decode prog_20_method_6_code 75 = .ok (.aload_n 2, 1) := by decide +kernel
theorem d1_76 : decode prog_20_method_6_code 76 = .ok (.iload_n 3, 1) := by decide +kernel
theorem d1_77 : decode prog_20_method_6_code 77 = .ok (.iload 4, 2) := by decide +kernel
theorem d1_79 : decode prog_20_method_6_code 79 = .ok (.iadd, 1) := by decide +kernel
theorem d1_80 : decode prog_20_method_6_code 80 = .ok (.iconst 1, 1) := by decide +kernel
theorem d1_81 : decode prog_20_method_6_code 81 = .ok (.isub, 1) := by decide +kernel
theorem d1_82 : decode prog_20_method_6_code 82 = .ok (.iload 6, 2) := by decide +kernel
theorem d1_84 : decode prog_20_method_6_code 84 = .ok (.isub, 1) := by decide +kernel
theorem d1_85 : decode prog_20_method_6_code 85 = .ok (.iload 8, 2) := by decide +kernel
theorem d1_87 : decode prog_20_method_6_code 87 = .ok (.i2b, 1) := by decide +kernel
theorem d1_88 : decode prog_20_method_6_code 88 = .ok (.bastore, 1) := by decide +kernel
theorem d1_89 : decode prog_20_method_6_code 89 = .ok (.iinc 6 1, 3) := by decide +kernel
theorem d1_92 : decode prog_20_method_6_code 92 = .ok (.goto (-86), 3) := by decide +kernel
theorem d1_95 : decode prog_20_method_6_code 95 = .ok (.return_, 1) := by decide +kernel
theorem own_pn_com_example_sumtide_sumtide_Magnitudes : plainName "com/example/sumtide/sumtide/Magnitudes" = true := by first | (simp [plainName, overriddenIn]; done) | decide +kernel
theorem ef_1 (m : MethodId) (sg : Int32) (am : Addr) (ar : Addr) (po : Int32) (pn : Int32) : entryFrame m #[(.int sg), (.ref am), (.ref ar), (.int po), (.int pn)] 9 = mkF m 0 #[.val (.int sg), .val (.ref am), .val (.ref ar), .val (.int po), .val (.int pn), .unset, .unset, .unset, .unset] [] := by first | (simp [entryFrame, mkF, argsToLocals, Value.category]; done) | rfl
def Q1 (Z : State) (sg : Int32) (am : Addr) (ar : Addr) (po : Int32) (pn : Int32) (ln : Nat) (fm : Nat → Int64) (fa : Nat → Int32) (h0 : Heap) (n0 : Nat) (v : Option Value) (h : Heap) (L : List Loc) : Prop := v = none ∧ Fr n0 L ∧ Keep h0 h [ar] ∧ own_A Z h ar .byte (28) (fun z => .int (own_wm po pn (own_ob sg fm ln) fa pn.toInt z))
set_option maxRecDepth 65536 in
set_option maxHeartbeats 40000000 in
theorem rm1 (l : Launch) (Z : State) (a0 : Array Value) (hw : ∀ d ∈ tables_1, d.before a0 Z = true) (ws : List Jvm.Cond) (sg : Int32) (am : Addr) (ar : Addr) (po : Int32) (pn : Int32) (ln : Nat) (fm : Nat → Int64) (fa : Nat → Int32) (h0 : Heap) (n0 : Nat) (Z0 : n0 ≤ h0.size) (f_A_am : own_A Z h0 am .long (ln) (fun z => .long (fm z))) (f_A_ar : own_A Z h0 ar .byte (28) (fun z => .int (fa z))) (g_ar : n0 ≤ ar) (hne : am ≠ ar) (bo : 0 ≤ po.toInt ∧ po.toInt ≤ 3) (bn : 0 ≤ pn.toInt ∧ pn.toInt ≤ 24) (bl : ln ≤ 2) :
    MetFree l (⟨"com/example/sumtide/sumtide/Magnitudes", "writeBytes", "(I[J[BII)V"⟩ : MethodName) (head1 (Jvm.Cond.code (⟨"com/example/sumtide/sumtide/Magnitudes", "writeBytes", "(I[J[BII)V"⟩ : MethodName) prog_20_method_6_code 9 none :: ws) ({ frames := 0, cells := 0, slots := 0, locals := 0 } : Room)) (fun avs U => avs = #[(.int sg), (.ref am), (.ref ar), (.int po), (.int pn)] ∧ Z.Warmed39 U.vm ∧ U.heap = h0) (fun _ _ _ _ _ => True) (fun _ U o U' => ∃ v L, o = .returned v ∧ Q1 Z sg am ar po pn ln fm fa h0 n0 v U'.heap L ∧ FrameEnd U o U' L ({ frames := 0, cells := 0, slots := 0, locals := 0 } : Room).cells ({ frames := 0, cells := 0, slots := 0, locals := 0 } : Room).slots) := by
  refine MetFree.of_bodySF (plainFor_of_name own_pn_com_example_sumtide_sumtide_Magnitudes) hisR ?_
  intro p e s m args below meth c s₁ Bd hml0 hP hK
  obtain ⟨rfl, hZ, hh⟩ := hP
  have hx := Bd.exec
  have hby := Bd.bytes
  have hml : c.maxLocals = 9 := hml0
  have hown : s.vm.findClass "com/example/sumtide/sumtide/Magnitudes" = some m.cls := findClass_of_methodNamed Bd.named
  have hnm := (name_of_methodNamed Bd.named Bd.method).1
  have hlk := Bd.notSynchronized
  have hret := Bd.returns
  have X0 : Stand p l e ({ frames := 0, cells := 0, slots := 0, locals := 0 } : Room) s m #[(.int sg), (.ref am), (.ref ar), (.int po), (.int pn)] below meth c s₁ [] 0 0 := Stand.of_body Bd
  have e0 : s₁.heap = h0 := by rw [← hh, Bd.state]; rfl
  have N0 := Fr.nil n0
  show own_W p e (FrameEnd s) below ({ frames := 0, cells := 0, slots := 0, locals := 0 } : Room).cells ({ frames := 0, cells := 0, slots := 0, locals := 0 } : Room).slots (Q1 Z sg am ar po pn ln fm fa h0 n0) s₁ (entryFrame m #[(.int sg), (.ref am), (.ref ar), (.int po), (.int pn)] 9)
  rw [ef_1]
  have K0 : Keep h0 h0 [ar] := Keep.refl h0 _
  have A0 : own_A Z h0 ar .byte (28) (fun z => .int (own_wm po pn (own_ob sg fm ln) fa (0 : Int32).toInt z)) := f_A_ar.congr (fun z _ => congrArg Value.int (own_wm0 po pn (own_ob sg fm ln) fa z))
  have hlen : (Int32.ofNat ln).toInt = (ln : Int) := Int32.toInt_ofNat_of_lt (by omega)
  refine own_iconst X0 hx (hb hby d1_0) (1 : Int32) (by first | rfl | decide) (rfl : 0 + 1 = 1) ?_
  refine own_istore X0 hx (hb hby d1_1) (l' := #[.val (.int sg), .val (.ref am), .val (.ref ar), .val (.int po), .val (.int pn), .val (.int (1 : Int32)), .unset, .unset, .unset]) rfl (rfl : 1 + 2 = 3) ?_
  refine own_iconst X0 hx (hb hby d1_3) (0 : Int32) (by first | rfl | decide) (rfl : 3 + 1 = 4) ?_
  refine own_istore X0 hx (hb hby d1_4) (l' := #[.val (.int sg), .val (.ref am), .val (.ref ar), .val (.int po), .val (.int pn), .val (.int (1 : Int32)), .val (.int (0 : Int32)), .unset, .unset]) rfl (rfl : 4 + 2 = 6) ?_
  refine own_iload X0 hx (hb hby d1_6) (v := (0 : Int32)) rfl (rfl : 6 + 2 = 8) ?_
  refine own_iload X0 hx (hb hby d1_8) (v := pn) rfl (rfl : 8 + 2 = 10) ?_
  by_cases hc10 : (0 : Int32) < pn
  · skip
    refine own_icmpNo X0 hx (hb hby d1_10) (tlt hc10).2.1 (rfl : 10 + 3 = 13) ?_
    refine own_iload X0 hx (hb hby d1_13) (v := (0 : Int32)) rfl (rfl : 13 + 2 = 15) ?_
    refine own_bipush X0 hx (hb hby d1_15) (8 : Int32) (by first | rfl | decide) (rfl : 15 + 2 = 17) ?_
    refine own_idiv X0 hx (hb hby d1_17) (by decide) (rfl : 17 + 1 = 18) ?_
    refine own_istore X0 hx (hb hby d1_18) (l' := #[.val (.int sg), .val (.ref am), .val (.ref ar), .val (.int po), .val (.int pn), .val (.int (1 : Int32)), .val (.int (0 : Int32)), .val (.int ((0 : Int32) / (8 : Int32))), .unset]) rfl (rfl : 18 + 2 = 20) ?_
    have hbi : 0 ≤ (0 : Int32).toInt ∧ (0 : Int32).toInt ≤ pn.toInt := (show 0 ≤ (0 : Int32).toInt ∧ (0 : Int32).toInt ≤ pn.toInt from ⟨by decide, by show (0 : Int) ≤ _; omega⟩)
    have hlt := hc10
    rw [Int32.lt_iff_toInt_lt] at hlt
    have hd8 := own_div8 (0 : Int32) hbi.1
    have hid := own_idx po pn (0 : Int32) bo bn ⟨hbi.1, hlt⟩
    refine own_iload X0 hx (hb hby d1_20) (v := ((0 : Int32) / (8 : Int32))) rfl (rfl : 20 + 2 = 22) ?_
    refine own_aloadN X0 hx (hb hby d1_22) (v := (.ref am)) rfl rfl (rfl : 22 + 1 = 23) ?_
    refine own_alen X0 hx hZ e0 f_A_am (z := (Int32.ofNat (ln))) rfl (g := (mkF m 23 #[.val (.int sg), .val (.ref am), .val (.ref ar), .val (.int po), .val (.int pn), .val (.int (1 : Int32)), .val (.int (0 : Int32)), .val (.int ((0 : Int32) / (8 : Int32))), .unset] [(.ref am), (.int ((0 : Int32) / (8 : Int32)))])) rfl rfl (hb hby d1_23) ?_
    show own_W p e (FrameEnd s) below ({ frames := 0, cells := 0, slots := 0, locals := 0 } : Room).cells ({ frames := 0, cells := 0, slots := 0, locals := 0 } : Room).slots (Q1 Z sg am ar po pn ln fm fa h0 n0) s₁ (mkF m 24 #[.val (.int sg), .val (.ref am), .val (.ref ar), .val (.int po), .val (.int pn), .val (.int (1 : Int32)), .val (.int (0 : Int32)), .val (.int ((0 : Int32) / (8 : Int32))), .unset] [(.int (Int32.ofNat (ln))), (.int ((0 : Int32) / (8 : Int32)))])
    have J49 : ∀ (mb : Int32), ∀ (hmb : mb = own_mb fm ln (0 : Int32).toInt.toNat), own_W p e (FrameEnd s) below ({ frames := 0, cells := 0, slots := 0, locals := 0 } : Room).cells ({ frames := 0, cells := 0, slots := 0, locals := 0 } : Room).slots (Q1 Z sg am ar po pn ln fm fa h0 n0) s₁ (mkF m 49 #[.val (.int sg), .val (.ref am), .val (.ref ar), .val (.int po), .val (.int pn), .val (.int (1 : Int32)), .val (.int (0 : Int32)), .val (.int ((0 : Int32) / (8 : Int32))), .unset] [(.int mb)]) := by
      intro mb hmb
      refine own_istore X0 hx (hb hby d1_49) (l' := #[.val (.int sg), .val (.ref am), .val (.ref ar), .val (.int po), .val (.int pn), .val (.int (1 : Int32)), .val (.int (0 : Int32)), .val (.int ((0 : Int32) / (8 : Int32))), .val (.int mb)]) rfl (rfl : 49 + 2 = 51) ?_
      have J6 : ∀ (fuel : Nat) (cy : Int32) (ii : Int32) (wd : Int32) (v8 : Int32) (TJ6 : State) (hJ6 : Heap) (LJ6 : List Loc), ((pn.toInt - ii.toInt).toNat < fuel) → ∀ (XJ6 : Stand p l e ({ frames := 0, cells := 0, slots := 0, locals := 0 } : Room) s m #[(.int sg), (.ref am), (.ref ar), (.int po), (.int pn)] below meth c TJ6 LJ6 (0) (0)), ∀ (eJ6 : TJ6.heap = hJ6), ∀ (NJ6 : Fr n0 LJ6), ∀ (zJ6 : n0 ≤ hJ6.size), ∀ (fJ6_0 : own_A Z hJ6 ar .byte (28) (fun z => .int (own_wm po pn (own_ob sg fm ln) fa ii.toInt z))), ∀ (fJ6_1 : own_A Z hJ6 am .long (ln) (fun z => .long (fm z))), ∀ (fJ6_2 : Keep h0 hJ6 [ar]), ∀ (hii : 0 ≤ ii.toInt ∧ ii.toInt ≤ pn.toInt), ∀ (hcy : cy = own_cy sg fm ln ii.toInt.toNat), own_W p e (FrameEnd s) below ({ frames := 0, cells := 0, slots := 0, locals := 0 } : Room).cells ({ frames := 0, cells := 0, slots := 0, locals := 0 } : Room).slots (Q1 Z sg am ar po pn ln fm fa h0 n0) TJ6 (mkF m 6 #[.val (.int sg), .val (.ref am), .val (.ref ar), .val (.int po), .val (.int pn), .val (.int cy), .val (.int ii), .val (.int wd), .val (.int v8)] []) := by
        intro fuel
        induction fuel with
        | zero => intro cy ii wd v8 TJ6 hJ6 LJ6 hfuel; exact absurd hfuel (Nat.not_lt_zero _)
        | succ fuel ih =>
          intro cy ii wd v8 TJ6 hJ6 LJ6 hfuel XJ6 eJ6 NJ6 zJ6 fJ6_0 fJ6_1 fJ6_2 hii hcy
          refine own_iload XJ6 hx (hb hby d1_6) (v := ii) rfl (rfl : 6 + 2 = 8) ?_
          refine own_iload XJ6 hx (hb hby d1_8) (v := pn) rfl (rfl : 8 + 2 = 10) ?_
          by_cases hc10 : ii < pn
          · skip
            refine own_icmpNo XJ6 hx (hb hby d1_10) (tlt hc10).2.1 (rfl : 10 + 3 = 13) ?_
            refine own_iload XJ6 hx (hb hby d1_13) (v := ii) rfl (rfl : 13 + 2 = 15) ?_
            refine own_bipush XJ6 hx (hb hby d1_15) (8 : Int32) (by first | rfl | decide) (rfl : 15 + 2 = 17) ?_
            refine own_idiv XJ6 hx (hb hby d1_17) (by decide) (rfl : 17 + 1 = 18) ?_
            refine own_istore XJ6 hx (hb hby d1_18) (l' := #[.val (.int sg), .val (.ref am), .val (.ref ar), .val (.int po), .val (.int pn), .val (.int cy), .val (.int ii), .val (.int (ii / (8 : Int32))), .val (.int v8)]) rfl (rfl : 18 + 2 = 20) ?_
            have hbi : 0 ≤ ii.toInt ∧ ii.toInt ≤ pn.toInt := hii
            have hlt := hc10
            rw [Int32.lt_iff_toInt_lt] at hlt
            have hd8 := own_div8 ii hbi.1
            have hid := own_idx po pn ii bo bn ⟨hbi.1, hlt⟩
            refine own_iload XJ6 hx (hb hby d1_20) (v := (ii / (8 : Int32))) rfl (rfl : 20 + 2 = 22) ?_
            refine own_aloadN XJ6 hx (hb hby d1_22) (v := (.ref am)) rfl rfl (rfl : 22 + 1 = 23) ?_
            refine own_alen XJ6 hx hZ eJ6 fJ6_1 (z := (Int32.ofNat (ln))) rfl (g := (mkF m 23 #[.val (.int sg), .val (.ref am), .val (.ref ar), .val (.int po), .val (.int pn), .val (.int cy), .val (.int ii), .val (.int (ii / (8 : Int32))), .val (.int v8)] [(.ref am), (.int (ii / (8 : Int32)))])) rfl rfl (hb hby d1_23) ?_
            show own_W p e (FrameEnd s) below ({ frames := 0, cells := 0, slots := 0, locals := 0 } : Room).cells ({ frames := 0, cells := 0, slots := 0, locals := 0 } : Room).slots (Q1 Z sg am ar po pn ln fm fa h0 n0) TJ6 (mkF m 24 #[.val (.int sg), .val (.ref am), .val (.ref ar), .val (.int po), .val (.int pn), .val (.int cy), .val (.int ii), .val (.int (ii / (8 : Int32))), .val (.int v8)] [(.int (Int32.ofNat (ln))), (.int (ii / (8 : Int32)))])
            have J49 : ∀ (mb : Int32), ∀ (hmb : mb = own_mb fm ln ii.toInt.toNat), own_W p e (FrameEnd s) below ({ frames := 0, cells := 0, slots := 0, locals := 0 } : Room).cells ({ frames := 0, cells := 0, slots := 0, locals := 0 } : Room).slots (Q1 Z sg am ar po pn ln fm fa h0 n0) TJ6 (mkF m 49 #[.val (.int sg), .val (.ref am), .val (.ref ar), .val (.int po), .val (.int pn), .val (.int cy), .val (.int ii), .val (.int (ii / (8 : Int32))), .val (.int v8)] [(.int mb)]) := by
              intro mb hmb
              refine own_istore XJ6 hx (hb hby d1_49) (l' := #[.val (.int sg), .val (.ref am), .val (.ref ar), .val (.int po), .val (.int pn), .val (.int cy), .val (.int ii), .val (.int (ii / (8 : Int32))), .val (.int mb)]) rfl (rfl : 49 + 2 = 51) ?_
              refine own_iloadN XJ6 hx (hb hby d1_51) (v := sg) rfl (rfl : 51 + 1 = 52) ?_
              have J75 : ∀ (cy2 : Int32) (vl : Int32), ∀ (hvl : vl.toInt8.toInt32 = own_ob sg fm ln ii.toInt.toNat), ∀ (hcy2 : cy2 = own_cy sg fm ln (ii.toInt.toNat + 1)), own_W p e (FrameEnd s) below ({ frames := 0, cells := 0, slots := 0, locals := 0 } : Room).cells ({ frames := 0, cells := 0, slots := 0, locals := 0 } : Room).slots (Q1 Z sg am ar po pn ln fm fa h0 n0) TJ6 (mkF m 75 #[.val (.int sg), .val (.ref am), .val (.ref ar), .val (.int po), .val (.int pn), .val (.int cy2), .val (.int ii), .val (.int (ii / (8 : Int32))), .val (.int vl)] []) := by
                intro cy2 vl hvl hcy2
                refine own_aloadN XJ6 hx (hb hby d1_75) (v := (.ref ar)) rfl rfl (rfl : 75 + 1 = 76) ?_
                refine own_iloadN XJ6 hx (hb hby d1_76) (v := po) rfl (rfl : 76 + 1 = 77) ?_
                refine own_iload XJ6 hx (hb hby d1_77) (v := pn) rfl (rfl : 77 + 2 = 79) ?_
                refine own_iadd XJ6 hx (hb hby d1_79) (rfl : 79 + 1 = 80) ?_
                refine own_iconst XJ6 hx (hb hby d1_80) (1 : Int32) (by first | rfl | decide) (rfl : 80 + 1 = 81) ?_
                refine own_isub XJ6 hx (hb hby d1_81) (rfl : 81 + 1 = 82) ?_
                refine own_iload XJ6 hx (hb hby d1_82) (v := ii) rfl (rfl : 82 + 2 = 84) ?_
                refine own_isub XJ6 hx (hb hby d1_84) (rfl : 84 + 1 = 85) ?_
                refine own_iload XJ6 hx (hb hby d1_85) (v := vl) rfl (rfl : 85 + 2 = 87) ?_
                refine own_i2b XJ6 hx (hb hby d1_87) (rfl : 87 + 1 = 88) ?_
                have hi3 : own_In (((po + pn) - (1 : Int32)) - ii) ((po + pn - (1 : Int32) - ii).toInt.toNat) (28) := ⟨by omega, by omega⟩
                obtain ⟨T3, h3, X3, e3, W3, V3, st3⟩ := own_stB XJ6 hx hZ eJ6 fJ6_0 hi3 (g := (mkF m 88 #[.val (.int sg), .val (.ref am), .val (.ref ar), .val (.int po), .val (.int pn), .val (.int cy2), .val (.int ii), .val (.int (ii / (8 : Int32))), .val (.int vl)] [(.int (vl.toInt8.toInt32)), (.int (((po + pn) - (1 : Int32)) - ii)), (.ref ar)])) rfl rfl (hb hby d1_88)
                refine own_W.step st3 ?_
                have N3 := Fr.snoc X3 NJ6 g_ar
                have f3_A_am : own_A Z h3 am .long (ln) (fun z => .long (fm z)) := fJ6_1.other W3 hne
                have f3_K : Keep h0 h3 [ar] := fJ6_2.wr W3 (Or.inl (by simp))
                have U3 : own_A Z h3 ar .byte (28) (fun z => .int (own_wm po pn (own_ob sg fm ln) fa (ii.toInt + 1) z)) := V3.congr (fun z _ => own_wms po pn ii (own_ob sg fm ln) fa _ z (po + pn - (1 : Int32) - ii).toInt.toNat (by omega) hbi.1 (by rw [own_i8, hvl]))
                have z3 : n0 ≤ h3.size := by rw [W3.size]; exact zJ6
                show own_W p e (FrameEnd s) below ({ frames := 0, cells := 0, slots := 0, locals := 0 } : Room).cells ({ frames := 0, cells := 0, slots := 0, locals := 0 } : Room).slots (Q1 Z sg am ar po pn ln fm fa h0 n0) T3 (mkF m 89 #[.val (.int sg), .val (.ref am), .val (.ref ar), .val (.int po), .val (.int pn), .val (.int cy2), .val (.int ii), .val (.int (ii / (8 : Int32))), .val (.int vl)] [])
                refine own_iinc X3 hx (hb hby d1_89) (1 : Int32) rfl (x := ii) rfl (l' := #[.val (.int sg), .val (.ref am), .val (.ref ar), .val (.int po), .val (.int pn), .val (.int cy2), .val (.int (ii + (1 : Int32))), .val (.int (ii / (8 : Int32))), .val (.int vl)]) rfl (rfl : 89 + 3 = 92) ?_
                refine own_goto X3 hx (hb hby d1_92) (pc' := 6) (by decide) (by decide) ?_
                exact ih  (cy2) ((ii + (1 : Int32))) ((ii / (8 : Int32))) (vl) _ _ _ (by rw [(own_inc ii ⟨hbi.1, by omega⟩)]; omega) X3 e3 N3 z3 (by rw [own_inc ii ⟨hbi.1, by omega⟩]; exact U3) f3_A_am f3_K (by rw [(own_inc ii ⟨hbi.1, by omega⟩)]; omega) (by rw [hcy2, show (ii + (1 : Int32)).toInt.toNat = ii.toInt.toNat + 1 from by rw [(own_inc ii ⟨hbi.1, by omega⟩)]; omega])
              by_cases hc52 : sg < (0 : Int32)
              · skip
                refine own_ifNo XJ6 hx (hb hby d1_52) ((if0 _ _).trans (tlt hc52).2.1) (rfl : 52 + 3 = 55) ?_
                refine own_iload XJ6 hx (hb hby d1_55) (v := mb) rfl (rfl : 55 + 2 = 57) ?_
                refine own_iconst XJ6 hx (hb hby d1_57) (-1 : Int32) (by first | rfl | decide) (rfl : 57 + 1 = 58) ?_
                refine own_ixor XJ6 hx (hb hby d1_58) (rfl : 58 + 1 = 59) ?_
                refine own_sipush XJ6 hx (hb hby d1_59) (255 : Int32) (by first | rfl | decide) (rfl : 59 + 3 = 62) ?_
                refine own_iand XJ6 hx (hb hby d1_62) (rfl : 62 + 1 = 63) ?_
                refine own_iload XJ6 hx (hb hby d1_63) (v := cy) rfl (rfl : 63 + 2 = 65) ?_
                refine own_iadd XJ6 hx (hb hby d1_65) (rfl : 65 + 1 = 66) ?_
                refine own_istore XJ6 hx (hb hby d1_66) (l' := #[.val (.int sg), .val (.ref am), .val (.ref ar), .val (.int po), .val (.int pn), .val (.int cy), .val (.int ii), .val (.int (ii / (8 : Int32))), .val (.int (((mb ^^^ (-1 : Int32)) &&& (255 : Int32)) + cy))]) rfl (rfl : 66 + 2 = 68) ?_
                refine own_iload XJ6 hx (hb hby d1_68) (v := (((mb ^^^ (-1 : Int32)) &&& (255 : Int32)) + cy)) rfl (rfl : 68 + 2 = 70) ?_
                refine own_bipush XJ6 hx (hb hby d1_70) (8 : Int32) (by first | rfl | decide) (rfl : 70 + 2 = 72) ?_
                refine own_iushr XJ6 hx (hb hby d1_72) (rfl : 72 + 1 = 73) ?_
                refine own_istore XJ6 hx (hb hby d1_73) (l' := #[.val (.int sg), .val (.ref am), .val (.ref ar), .val (.int po), .val (.int pn), .val (.int (((((mb ^^^ (-1 : Int32)) &&& (255 : Int32)) + cy).toUInt32 >>> ((8 : Int32) &&& 31).toUInt32).toInt32)), .val (.int ii), .val (.int (ii / (8 : Int32))), .val (.int (((mb ^^^ (-1 : Int32)) &&& (255 : Int32)) + cy))]) rfl (rfl : 73 + 2 = 75) ?_
                exact J75 ((((((mb ^^^ (-1 : Int32)) &&& (255 : Int32)) + cy).toUInt32 >>> ((8 : Int32) &&& 31).toUInt32).toInt32)) ((((mb ^^^ (-1 : Int32)) &&& (255 : Int32)) + cy))   (by unfold own_ob; rw [if_pos hc52, ← hcy]; unfold own_vl; rw [← hmb]) (by rw [own_cyS, if_pos hc52, ← hcy]; unfold own_vl; rw [← hmb])
              · skip
                refine own_ifYes XJ6 hx (hb hby d1_52) ((if0 _ _).trans (flt hc52).2.1) (pc' := 75) (by decide) (by decide) ?_
                exact J75 (cy) (mb)   (by unfold own_ob; rw [if_neg hc52, ← hmb]) (by rw [own_cyS, if_neg hc52, ← hcy])
            by_cases hc24 : (ii / (8 : Int32)) < (Int32.ofNat (ln))
            · skip
              refine own_icmpNo XJ6 hx (hb hby d1_24) (tlt hc24).2.1 (rfl : 24 + 3 = 27) ?_
              refine own_aloadN XJ6 hx (hb hby d1_27) (v := (.ref am)) rfl rfl (rfl : 27 + 1 = 28) ?_
              refine own_iload XJ6 hx (hb hby d1_28) (v := (ii / (8 : Int32))) rfl (rfl : 28 + 2 = 30) ?_
              have hi4 : own_In (ii / (8 : Int32)) (ii.toInt.toNat / 8) (ln) := ⟨hd8, by have z := hc24; rw [Int32.lt_iff_toInt_lt, hlen, hd8] at z; omega⟩
              refine own_laload XJ6 hx hZ eJ6 fJ6_1 hi4 (v := (fm (ii.toInt.toNat / 8))) rfl (g := (mkF m 30 #[.val (.int sg), .val (.ref am), .val (.ref ar), .val (.int po), .val (.int pn), .val (.int cy), .val (.int ii), .val (.int (ii / (8 : Int32))), .val (.int v8)] [(.int (ii / (8 : Int32))), (.ref am)])) rfl rfl (hb hby d1_30) ?_
              show own_W p e (FrameEnd s) below ({ frames := 0, cells := 0, slots := 0, locals := 0 } : Room).cells ({ frames := 0, cells := 0, slots := 0, locals := 0 } : Room).slots (Q1 Z sg am ar po pn ln fm fa h0 n0) TJ6 (mkF m 31 #[.val (.int sg), .val (.ref am), .val (.ref ar), .val (.int po), .val (.int pn), .val (.int cy), .val (.int ii), .val (.int (ii / (8 : Int32))), .val (.int v8)] [(.long (fm (ii.toInt.toNat / 8)))])
              refine own_bipush XJ6 hx (hb hby d1_31) (8 : Int32) (by first | rfl | decide) (rfl : 31 + 2 = 33) ?_
              refine own_iload XJ6 hx (hb hby d1_33) (v := ii) rfl (rfl : 33 + 2 = 35) ?_
              refine own_bipush XJ6 hx (hb hby d1_35) (8 : Int32) (by first | rfl | decide) (rfl : 35 + 2 = 37) ?_
              refine own_irem XJ6 hx (hb hby d1_37) (by decide) (rfl : 37 + 1 = 38) ?_
              refine own_imul XJ6 hx (hb hby d1_38) (rfl : 38 + 1 = 39) ?_
              refine own_lushr XJ6 hx (hb hby d1_39) (rfl : 39 + 1 = 40) ?_
              refine own_l2i XJ6 hx (hb hby d1_40) (rfl : 40 + 1 = 41) ?_
              refine own_sipush XJ6 hx (hb hby d1_41) (255 : Int32) (by first | rfl | decide) (rfl : 41 + 3 = 44) ?_
              refine own_iand XJ6 hx (hb hby d1_44) (rfl : 44 + 1 = 45) ?_
              refine own_goto XJ6 hx (hb hby d1_45) (pc' := 49) (by decide) (by decide) ?_
              exact J49 ((((((fm (ii.toInt.toNat / 8)).toUInt64 >>> (((8 : Int32) * (ii % (8 : Int32))) &&& 0x3f).toInt64.toUInt64).toInt64).toInt32) &&& (255 : Int32)))   (by have z := hc24; rw [Int32.lt_iff_toInt_lt, hlen, hd8] at z; unfold own_mb; rw [if_pos (by omega), own_nat ii hbi.1]; rfl)
            · skip
              refine own_icmpYes XJ6 hx (hb hby d1_24) (flt hc24).2.1 (pc' := 48) (by decide) (by decide) ?_
              refine own_iconst XJ6 hx (hb hby d1_48) (0 : Int32) (by first | rfl | decide) (rfl : 48 + 1 = 49) ?_
              exact J49 ((0 : Int32))   (by have z := hc24; rw [Int32.lt_iff_toInt_lt, hlen, hd8] at z; unfold own_mb; rw [if_neg (by omega)])
          · skip
            refine own_icmpYes XJ6 hx (hb hby d1_10) (flt hc10).2.1 (pc' := 95) (by decide) (by decide) ?_
            refine own_retV XJ6 hx hlk hret (hb hby d1_95) (by decide) (by decide) ?_
            show Q1 Z sg am ar po pn ln fm fa h0 n0 none TJ6.heap _
            rw [eJ6]
            exact ⟨rfl, NJ6, fJ6_2, (by
                  have e : ii.toInt = pn.toInt := by have z := hc10; rw [Int32.lt_iff_toInt_lt] at z; have t0 : (0 : Int32).toInt = 0 := rfl; omega
                  rw [← e]; exact fJ6_0)⟩
      refine own_iloadN X0 hx (hb hby d1_51) (v := sg) rfl (rfl : 51 + 1 = 52) ?_
      have J75 : ∀ (cy2 : Int32) (vl : Int32), ∀ (hvl : vl.toInt8.toInt32 = own_ob sg fm ln (0 : Int32).toInt.toNat), ∀ (hcy2 : cy2 = own_cy sg fm ln ((0 : Int32).toInt.toNat + 1)), own_W p e (FrameEnd s) below ({ frames := 0, cells := 0, slots := 0, locals := 0 } : Room).cells ({ frames := 0, cells := 0, slots := 0, locals := 0 } : Room).slots (Q1 Z sg am ar po pn ln fm fa h0 n0) s₁ (mkF m 75 #[.val (.int sg), .val (.ref am), .val (.ref ar), .val (.int po), .val (.int pn), .val (.int cy2), .val (.int (0 : Int32)), .val (.int ((0 : Int32) / (8 : Int32))), .val (.int vl)] []) := by
        intro cy2 vl hvl hcy2
        refine own_aloadN X0 hx (hb hby d1_75) (v := (.ref ar)) rfl rfl (rfl : 75 + 1 = 76) ?_
        refine own_iloadN X0 hx (hb hby d1_76) (v := po) rfl (rfl : 76 + 1 = 77) ?_
        refine own_iload X0 hx (hb hby d1_77) (v := pn) rfl (rfl : 77 + 2 = 79) ?_
        refine own_iadd X0 hx (hb hby d1_79) (rfl : 79 + 1 = 80) ?_
        refine own_iconst X0 hx (hb hby d1_80) (1 : Int32) (by first | rfl | decide) (rfl : 80 + 1 = 81) ?_
        refine own_isub X0 hx (hb hby d1_81) (rfl : 81 + 1 = 82) ?_
        refine own_iload X0 hx (hb hby d1_82) (v := (0 : Int32)) rfl (rfl : 82 + 2 = 84) ?_
        refine own_isub X0 hx (hb hby d1_84) (rfl : 84 + 1 = 85) ?_
        refine own_iload X0 hx (hb hby d1_85) (v := vl) rfl (rfl : 85 + 2 = 87) ?_
        refine own_i2b X0 hx (hb hby d1_87) (rfl : 87 + 1 = 88) ?_
        have hi5 : own_In (((po + pn) - (1 : Int32)) - (0 : Int32)) ((po + pn - (1 : Int32) - (0 : Int32)).toInt.toNat) (28) := ⟨by omega, by omega⟩
        obtain ⟨T5, h5, X5, e5, W5, V5, st5⟩ := own_stB X0 hx hZ e0 A0 hi5 (g := (mkF m 88 #[.val (.int sg), .val (.ref am), .val (.ref ar), .val (.int po), .val (.int pn), .val (.int cy2), .val (.int (0 : Int32)), .val (.int ((0 : Int32) / (8 : Int32))), .val (.int vl)] [(.int (vl.toInt8.toInt32)), (.int (((po + pn) - (1 : Int32)) - (0 : Int32))), (.ref ar)])) rfl rfl (hb hby d1_88)
        refine own_W.step st5 ?_
        have N5 := Fr.snoc X5 N0 g_ar
        have f5_A_am : own_A Z h5 am .long (ln) (fun z => .long (fm z)) := f_A_am.other W5 hne
        have f5_K : Keep h0 h5 [ar] := K0.wr W5 (Or.inl (by simp))
        have U5 : own_A Z h5 ar .byte (28) (fun z => .int (own_wm po pn (own_ob sg fm ln) fa ((0 : Int32).toInt + 1) z)) := V5.congr (fun z _ => own_wms po pn (0 : Int32) (own_ob sg fm ln) fa _ z (po + pn - (1 : Int32) - (0 : Int32)).toInt.toNat (by omega) hbi.1 (by rw [own_i8, hvl]))
        have z5 : n0 ≤ h5.size := by rw [W5.size]; exact Z0
        show own_W p e (FrameEnd s) below ({ frames := 0, cells := 0, slots := 0, locals := 0 } : Room).cells ({ frames := 0, cells := 0, slots := 0, locals := 0 } : Room).slots (Q1 Z sg am ar po pn ln fm fa h0 n0) T5 (mkF m 89 #[.val (.int sg), .val (.ref am), .val (.ref ar), .val (.int po), .val (.int pn), .val (.int cy2), .val (.int (0 : Int32)), .val (.int ((0 : Int32) / (8 : Int32))), .val (.int vl)] [])
        refine own_iinc X5 hx (hb hby d1_89) (1 : Int32) rfl (x := (0 : Int32)) rfl (l' := #[.val (.int sg), .val (.ref am), .val (.ref ar), .val (.int po), .val (.int pn), .val (.int cy2), .val (.int ((0 : Int32) + (1 : Int32))), .val (.int ((0 : Int32) / (8 : Int32))), .val (.int vl)]) rfl (rfl : 89 + 3 = 92) ?_
        refine own_goto X5 hx (hb hby d1_92) (pc' := 6) (by decide) (by decide) ?_
        exact J6 ((pn.toInt - (((0 : Int32) + (1 : Int32))).toInt).toNat + 1) (cy2) (((0 : Int32) + (1 : Int32))) (((0 : Int32) / (8 : Int32))) (vl) _ _ _ (Nat.lt_succ_self _) X5 e5 N5 z5 (by rw [own_inc (0 : Int32) ⟨hbi.1, by omega⟩]; exact U5) f5_A_am f5_K (by rw [(own_inc (0 : Int32) ⟨hbi.1, by omega⟩)]; omega) (by rw [hcy2, show ((0 : Int32) + (1 : Int32)).toInt.toNat = (0 : Int32).toInt.toNat + 1 from by rw [(own_inc (0 : Int32) ⟨hbi.1, by omega⟩)]; omega])
      by_cases hc52 : sg < (0 : Int32)
      · skip
        refine own_ifNo X0 hx (hb hby d1_52) ((if0 _ _).trans (tlt hc52).2.1) (rfl : 52 + 3 = 55) ?_
        refine own_iload X0 hx (hb hby d1_55) (v := mb) rfl (rfl : 55 + 2 = 57) ?_
        refine own_iconst X0 hx (hb hby d1_57) (-1 : Int32) (by first | rfl | decide) (rfl : 57 + 1 = 58) ?_
        refine own_ixor X0 hx (hb hby d1_58) (rfl : 58 + 1 = 59) ?_
        refine own_sipush X0 hx (hb hby d1_59) (255 : Int32) (by first | rfl | decide) (rfl : 59 + 3 = 62) ?_
        refine own_iand X0 hx (hb hby d1_62) (rfl : 62 + 1 = 63) ?_
        refine own_iload X0 hx (hb hby d1_63) (v := (1 : Int32)) rfl (rfl : 63 + 2 = 65) ?_
        refine own_iadd X0 hx (hb hby d1_65) (rfl : 65 + 1 = 66) ?_
        refine own_istore X0 hx (hb hby d1_66) (l' := #[.val (.int sg), .val (.ref am), .val (.ref ar), .val (.int po), .val (.int pn), .val (.int (1 : Int32)), .val (.int (0 : Int32)), .val (.int ((0 : Int32) / (8 : Int32))), .val (.int (((mb ^^^ (-1 : Int32)) &&& (255 : Int32)) + (1 : Int32)))]) rfl (rfl : 66 + 2 = 68) ?_
        refine own_iload X0 hx (hb hby d1_68) (v := (((mb ^^^ (-1 : Int32)) &&& (255 : Int32)) + (1 : Int32))) rfl (rfl : 68 + 2 = 70) ?_
        refine own_bipush X0 hx (hb hby d1_70) (8 : Int32) (by first | rfl | decide) (rfl : 70 + 2 = 72) ?_
        refine own_iushr X0 hx (hb hby d1_72) (rfl : 72 + 1 = 73) ?_
        refine own_istore X0 hx (hb hby d1_73) (l' := #[.val (.int sg), .val (.ref am), .val (.ref ar), .val (.int po), .val (.int pn), .val (.int (((((mb ^^^ (-1 : Int32)) &&& (255 : Int32)) + (1 : Int32)).toUInt32 >>> ((8 : Int32) &&& 31).toUInt32).toInt32)), .val (.int (0 : Int32)), .val (.int ((0 : Int32) / (8 : Int32))), .val (.int (((mb ^^^ (-1 : Int32)) &&& (255 : Int32)) + (1 : Int32)))]) rfl (rfl : 73 + 2 = 75) ?_
        exact J75 ((((((mb ^^^ (-1 : Int32)) &&& (255 : Int32)) + (1 : Int32)).toUInt32 >>> ((8 : Int32) &&& 31).toUInt32).toInt32)) ((((mb ^^^ (-1 : Int32)) &&& (255 : Int32)) + (1 : Int32)))   (by unfold own_ob; rw [if_pos hc52, ← (show (1 : Int32) = own_cy sg fm ln (0 : Int32).toInt.toNat from rfl)]; unfold own_vl; rw [← hmb]) (by rw [own_cyS, if_pos hc52, ← (show (1 : Int32) = own_cy sg fm ln (0 : Int32).toInt.toNat from rfl)]; unfold own_vl; rw [← hmb])
      · skip
        refine own_ifYes X0 hx (hb hby d1_52) ((if0 _ _).trans (flt hc52).2.1) (pc' := 75) (by decide) (by decide) ?_
        exact J75 ((1 : Int32)) (mb)   (by unfold own_ob; rw [if_neg hc52, ← hmb]) (by rw [own_cyS, if_neg hc52, ← (show (1 : Int32) = own_cy sg fm ln (0 : Int32).toInt.toNat from rfl)])
    by_cases hc24 : ((0 : Int32) / (8 : Int32)) < (Int32.ofNat (ln))
    · skip
      refine own_icmpNo X0 hx (hb hby d1_24) (tlt hc24).2.1 (rfl : 24 + 3 = 27) ?_
      refine own_aloadN X0 hx (hb hby d1_27) (v := (.ref am)) rfl rfl (rfl : 27 + 1 = 28) ?_
      refine own_iload X0 hx (hb hby d1_28) (v := ((0 : Int32) / (8 : Int32))) rfl (rfl : 28 + 2 = 30) ?_
      have hi6 : own_In ((0 : Int32) / (8 : Int32)) ((0 : Int32).toInt.toNat / 8) (ln) := ⟨hd8, by have z := hc24; rw [Int32.lt_iff_toInt_lt, hlen, hd8] at z; omega⟩
      refine own_laload X0 hx hZ e0 f_A_am hi6 (v := (fm ((0 : Int32).toInt.toNat / 8))) rfl (g := (mkF m 30 #[.val (.int sg), .val (.ref am), .val (.ref ar), .val (.int po), .val (.int pn), .val (.int (1 : Int32)), .val (.int (0 : Int32)), .val (.int ((0 : Int32) / (8 : Int32))), .unset] [(.int ((0 : Int32) / (8 : Int32))), (.ref am)])) rfl rfl (hb hby d1_30) ?_
      show own_W p e (FrameEnd s) below ({ frames := 0, cells := 0, slots := 0, locals := 0 } : Room).cells ({ frames := 0, cells := 0, slots := 0, locals := 0 } : Room).slots (Q1 Z sg am ar po pn ln fm fa h0 n0) s₁ (mkF m 31 #[.val (.int sg), .val (.ref am), .val (.ref ar), .val (.int po), .val (.int pn), .val (.int (1 : Int32)), .val (.int (0 : Int32)), .val (.int ((0 : Int32) / (8 : Int32))), .unset] [(.long (fm ((0 : Int32).toInt.toNat / 8)))])
      refine own_bipush X0 hx (hb hby d1_31) (8 : Int32) (by first | rfl | decide) (rfl : 31 + 2 = 33) ?_
      refine own_iload X0 hx (hb hby d1_33) (v := (0 : Int32)) rfl (rfl : 33 + 2 = 35) ?_
      refine own_bipush X0 hx (hb hby d1_35) (8 : Int32) (by first | rfl | decide) (rfl : 35 + 2 = 37) ?_
      refine own_irem X0 hx (hb hby d1_37) (by decide) (rfl : 37 + 1 = 38) ?_
      refine own_imul X0 hx (hb hby d1_38) (rfl : 38 + 1 = 39) ?_
      refine own_lushr X0 hx (hb hby d1_39) (rfl : 39 + 1 = 40) ?_
      refine own_l2i X0 hx (hb hby d1_40) (rfl : 40 + 1 = 41) ?_
      refine own_sipush X0 hx (hb hby d1_41) (255 : Int32) (by first | rfl | decide) (rfl : 41 + 3 = 44) ?_
      refine own_iand X0 hx (hb hby d1_44) (rfl : 44 + 1 = 45) ?_
      refine own_goto X0 hx (hb hby d1_45) (pc' := 49) (by decide) (by decide) ?_
      exact J49 ((((((fm ((0 : Int32).toInt.toNat / 8)).toUInt64 >>> (((8 : Int32) * ((0 : Int32) % (8 : Int32))) &&& 0x3f).toInt64.toUInt64).toInt64).toInt32) &&& (255 : Int32)))   (by have z := hc24; rw [Int32.lt_iff_toInt_lt, hlen, hd8] at z; unfold own_mb; rw [if_pos (by omega), own_nat (0 : Int32) hbi.1]; rfl)
    · skip
      refine own_icmpYes X0 hx (hb hby d1_24) (flt hc24).2.1 (pc' := 48) (by decide) (by decide) ?_
      refine own_iconst X0 hx (hb hby d1_48) (0 : Int32) (by first | rfl | decide) (rfl : 48 + 1 = 49) ?_
      exact J49 ((0 : Int32))   (by have z := hc24; rw [Int32.lt_iff_toInt_lt, hlen, hd8] at z; unfold own_mb; rw [if_neg (by omega)])
  · skip
    refine own_icmpYes X0 hx (hb hby d1_10) (flt hc10).2.1 (pc' := 95) (by decide) (by decide) ?_
    refine own_retV X0 hx hlk hret (hb hby d1_95) (by decide) (by decide) ?_
    show Q1 Z sg am ar po pn ln fm fa h0 n0 none s₁.heap _
    rw [e0]
    exact ⟨rfl, N0, K0, (by
          have e : (0 : Int32).toInt = pn.toInt := by have z := hc10; rw [Int32.lt_iff_toInt_lt] at z; have t0 : (0 : Int32).toInt = 0 := rfl; omega
          rw [← e]; exact A0)⟩
theorem own_pd__I_J_BII_V : parseMethodDescriptor "(I[J[BII)V" = some ⟨[.int, (.array .long), (.array .byte), .int, .int], none⟩ := by decide +kernel
theorem own_pd___BIIIJJJ_Z : parseMethodDescriptor "([BIIIJJJ)Z" = some ⟨[(.array .byte), .int, .int, .int, .long, .long, .long], some .boolean⟩ := by decide +kernel
theorem ef_0 (m : MethodId) (ql : Int64) (qh : Int64) (pf : Int32) (po : Int32) (pc : Int32) : entryFrame m #[(.long ql), (.long qh), (.int pf), (.int po), (.int pc)] maxLocals = mkF m 0 #[.val (.long ql), .second, .val (.long qh), .second, .val (.int pf), .val (.int po), .val (.int pc), .unset, .unset, .unset, .unset, .unset, .unset, .unset, .unset, .unset, .unset, .unset, .unset, .unset, .unset, .unset, .unset, .unset] [] := by first | (simp [entryFrame, mkF, argsToLocals, Value.category, maxLocals]; done) | rfl
def Q0 (Z : State) (ql : Int64) (qh : Int64) (pf : Int32) (po : Int32) (pc : Int32)  (h0 : Heap) (n0 : Nat) (v : Option Value) (h : Heap) (L : List Loc) : Prop := v = some (.int 1) ∧ Fr n0 L
set_option maxRecDepth 65536 in
set_option maxHeartbeats 40000000 in
theorem rm0 (l : Launch) (Z : State) (a0 : Array Value) (hw : ∀ d ∈ tables_1, d.before a0 Z = true) (ws : List Jvm.Cond) (ql : Int64) (qh : Int64) (pf : Int32) (po : Int32) (pc : Int32)  (h0 : Heap) (n0 : Nat) (Z0 : n0 ≤ h0.size)  :
    MetFree l x (head1 (Jvm.Cond.code x code maxLocals ret :: ws) room_1) (fun avs U => avs = #[(.long ql), (.long qh), (.int pf), (.int po), (.int pc)] ∧ Z.Warmed39 U.vm ∧ U.heap = h0) (fun _ _ _ _ _ => True) (fun _ U o U' => ∃ v L, o = .returned v ∧ Q0 Z ql qh pf po pc h0 n0 v U'.heap L ∧ FrameEnd U o U' L room_1.cells room_1.slots) := by
  refine MetFree.of_bodySF (plainFor_of_name own_pn_com_example_sumtide_sumtide_MagnitudesWriteBytesPinLaw) hisR ?_
  intro p e s m args below meth c s₁ Bd hml0 hP hK
  obtain ⟨rfl, hZ, hh⟩ := hP
  have hx := Bd.exec
  have hby := Bd.bytes
  have hml : c.maxLocals = 24 := hml0
  have hown : s.vm.findClass "com/example/sumtide/sumtide/MagnitudesWriteBytesPinLaw" = some m.cls := findClass_of_methodNamed Bd.named
  have hnm := (name_of_methodNamed Bd.named Bd.method).1
  have hlk := Bd.notSynchronized
  have hret := Bd.returns
  have X0 : Stand p l e room_1 s m #[(.long ql), (.long qh), (.int pf), (.int po), (.int pc)] below meth c s₁ [] 0 0 := Stand.of_body Bd
  have e0 : s₁.heap = h0 := by rw [← hh, Bd.state]; rfl
  have N0 := Fr.nil n0
  show own_W p e (FrameEnd s) below room_1.cells room_1.slots (Q0 Z ql qh pf po pc h0 n0) s₁ (entryFrame m #[(.long ql), (.long qh), (.int pf), (.int po), (.int pc)] maxLocals)
  rw [ef_0]
  refine own_iload X0 hx (hb hby at_0) (v := pf) rfl (rfl : 0 + 2 = 2) ?_
  refine own_iconst X0 hx (hb hby at_2) (2 : Int32) (by first | rfl | decide) (rfl : 2 + 1 = 3) ?_
  refine own_iand X0 hx (hb hby at_3) (rfl : 3 + 1 = 4) ?_
  have J12 : ∀ (low : Int64), own_W p e (FrameEnd s) below room_1.cells room_1.slots (Q0 Z ql qh pf po pc h0 n0) s₁ (mkF m 12 #[.val (.long ql), .second, .val (.long qh), .second, .val (.int pf), .val (.int po), .val (.int pc), .unset, .unset, .unset, .unset, .unset, .unset, .unset, .unset, .unset, .unset, .unset, .unset, .unset, .unset, .unset, .unset, .unset] [(.long low)]) := by
    intro low 
    refine own_lstore X0 hx (hb hby at_12) (l' := #[.val (.long ql), .second, .val (.long qh), .second, .val (.int pf), .val (.int po), .val (.int pc), .val (.long low), .second, .unset, .unset, .unset, .unset, .unset, .unset, .unset, .unset, .unset, .unset, .unset, .unset, .unset, .unset, .unset]) rfl (rfl : 12 + 2 = 14) ?_
    refine own_iload X0 hx (hb hby at_14) (v := pf) rfl (rfl : 14 + 2 = 16) ?_
    refine own_iconst X0 hx (hb hby at_16) (4 : Int32) (by first | rfl | decide) (rfl : 16 + 1 = 17) ?_
    refine own_iand X0 hx (hb hby at_17) (rfl : 17 + 1 = 18) ?_
    have J26 : ∀ (high : Int64), own_W p e (FrameEnd s) below room_1.cells room_1.slots (Q0 Z ql qh pf po pc h0 n0) s₁ (mkF m 26 #[.val (.long ql), .second, .val (.long qh), .second, .val (.int pf), .val (.int po), .val (.int pc), .val (.long low), .second, .unset, .unset, .unset, .unset, .unset, .unset, .unset, .unset, .unset, .unset, .unset, .unset, .unset, .unset, .unset] [(.long high)]) := by
      intro high 
      refine own_lstore X0 hx (hb hby at_26) (l' := #[.val (.long ql), .second, .val (.long qh), .second, .val (.int pf), .val (.int po), .val (.int pc), .val (.long low), .second, .val (.long high), .second, .unset, .unset, .unset, .unset, .unset, .unset, .unset, .unset, .unset, .unset, .unset, .unset, .unset]) rfl (rfl : 26 + 2 = 28) ?_
      have J74 : ∀ (am : Addr) (ln : Nat) (fm : Nat → Int64) (TJ74 : State) (hJ74 : Heap) (LJ74 : List Loc) (cJ74 kJ74 : Nat), ∀ (hcJ74 : cJ74 ≤ 1), ∀ (hkJ74 : kJ74 ≤ 2), ∀ (XJ74 : Stand p l e room_1 s m #[(.long ql), (.long qh), (.int pf), (.int po), (.int pc)] below meth c TJ74 LJ74 (cJ74) (kJ74)), ∀ (eJ74 : TJ74.heap = hJ74), ∀ (NJ74 : Fr n0 LJ74), ∀ (zJ74 : n0 ≤ hJ74.size), ∀ (fJ74_0 : own_A Z hJ74 am .long (ln) (fun z => .long (fm z))), ∀ (hmag : own_mag low high ln fm), own_W p e (FrameEnd s) below room_1.cells room_1.slots (Q0 Z ql qh pf po pc h0 n0) TJ74 (mkF m 74 #[.val (.long ql), .second, .val (.long qh), .second, .val (.int pf), .val (.int po), .val (.int pc), .val (.long low), .second, .val (.long high), .second, .val (.ref am), .unset, .unset, .unset, .unset, .unset, .unset, .unset, .unset, .unset, .unset, .unset, .unset] []) := by
        intro am ln fm TJ74 hJ74 LJ74 cJ74 kJ74 hcJ74 hkJ74 XJ74 eJ74 NJ74 zJ74 fJ74_0 hmag
        refine own_lload XJ74 hx (hb hby at_74) (v := low) rfl (rfl : 74 + 2 = 76) ?_
        refine own_lload XJ74 hx (hb hby at_76) (v := high) rfl (rfl : 76 + 2 = 78) ?_
        refine own_lor XJ74 hx (hb hby at_78) (rfl : 78 + 1 = 79) ?_
        refine own_lconst XJ74 hx (hb hby at_79) (0 : Int64) (by first | rfl | decide) (rfl : 79 + 1 = 80) ?_
        refine own_lcmp XJ74 hx (hb hby at_80) (rfl : 80 + 1 = 81) ?_
        have J89 : ∀ (ze : Int32), ∀ (hze : (ze = (1 : Int32) ∧ low = 0 ∧ high = 0) ∨ (ze = (0 : Int32) ∧ ¬ (low = 0 ∧ high = 0))), own_W p e (FrameEnd s) below room_1.cells room_1.slots (Q0 Z ql qh pf po pc h0 n0) TJ74 (mkF m 89 #[.val (.long ql), .second, .val (.long qh), .second, .val (.int pf), .val (.int po), .val (.int pc), .val (.long low), .second, .val (.long high), .second, .val (.ref am), .unset, .unset, .unset, .unset, .unset, .unset, .unset, .unset, .unset, .unset, .unset, .unset] [(.int ze)]) := by
          intro ze hze
          refine own_istore XJ74 hx (hb hby at_89) (l' := #[.val (.long ql), .second, .val (.long qh), .second, .val (.int pf), .val (.int po), .val (.int pc), .val (.long low), .second, .val (.long high), .second, .val (.ref am), .val (.int ze), .unset, .unset, .unset, .unset, .unset, .unset, .unset, .unset, .unset, .unset, .unset]) rfl (rfl : 89 + 2 = 91) ?_
          refine own_iload XJ74 hx (hb hby at_91) (v := ze) rfl (rfl : 91 + 2 = 93) ?_
          have J108 : ∀ (ng : Int32), ∀ (hng : ng = (0 : Int32) ∨ (ng = (1 : Int32) ∧ ze = (0 : Int32))), own_W p e (FrameEnd s) below room_1.cells room_1.slots (Q0 Z ql qh pf po pc h0 n0) TJ74 (mkF m 108 #[.val (.long ql), .second, .val (.long qh), .second, .val (.int pf), .val (.int po), .val (.int pc), .val (.long low), .second, .val (.long high), .second, .val (.ref am), .val (.int ze), .unset, .unset, .unset, .unset, .unset, .unset, .unset, .unset, .unset, .unset, .unset] [(.int ng)]) := by
            intro ng hng
            refine own_istore XJ74 hx (hb hby at_108) (l' := #[.val (.long ql), .second, .val (.long qh), .second, .val (.int pf), .val (.int po), .val (.int pc), .val (.long low), .second, .val (.long high), .second, .val (.ref am), .val (.int ze), .val (.int ng), .unset, .unset, .unset, .unset, .unset, .unset, .unset, .unset, .unset, .unset]) rfl (rfl : 108 + 2 = 110) ?_
            refine own_iload XJ74 hx (hb hby at_110) (v := ze) rfl (rfl : 110 + 2 = 112) ?_
            have J129 : ∀ (sg : Int32), ∀ (hsg : (¬ ng = (0 : Int32) → sg < (0 : Int32)) ∧ (ng = (0 : Int32) → ¬ (sg < (0 : Int32)))), own_W p e (FrameEnd s) below room_1.cells room_1.slots (Q0 Z ql qh pf po pc h0 n0) TJ74 (mkF m 129 #[.val (.long ql), .second, .val (.long qh), .second, .val (.int pf), .val (.int po), .val (.int pc), .val (.long low), .second, .val (.long high), .second, .val (.ref am), .val (.int ze), .val (.int ng), .unset, .unset, .unset, .unset, .unset, .unset, .unset, .unset, .unset, .unset] [(.int sg)]) := by
              intro sg hsg
              refine own_istore XJ74 hx (hb hby at_129) (l' := #[.val (.long ql), .second, .val (.long qh), .second, .val (.int pf), .val (.int po), .val (.int pc), .val (.long low), .second, .val (.long high), .second, .val (.ref am), .val (.int ze), .val (.int ng), .val (.int sg), .unset, .unset, .unset, .unset, .unset, .unset, .unset, .unset, .unset]) rfl (rfl : 129 + 2 = 131) ?_
              refine own_iload XJ74 hx (hb hby at_131) (v := po) rfl (rfl : 131 + 2 = 133) ?_
              refine own_iconst XJ74 hx (hb hby at_133) (3 : Int32) (by first | rfl | decide) (rfl : 133 + 1 = 134) ?_
              refine own_iand XJ74 hx (hb hby at_134) (rfl : 134 + 1 = 135) ?_
              refine own_istore XJ74 hx (hb hby at_135) (l' := #[.val (.long ql), .second, .val (.long qh), .second, .val (.int pf), .val (.int po), .val (.int pc), .val (.long low), .second, .val (.long high), .second, .val (.ref am), .val (.int ze), .val (.int ng), .val (.int sg), .val (.int (po &&& (3 : Int32))), .unset, .unset, .unset, .unset, .unset, .unset, .unset, .unset]) rfl (rfl : 135 + 2 = 137) ?_
              obtain ⟨of, hof⟩ : ∃ z : Int32, z = (po &&& (3 : Int32)) := ⟨_, rfl⟩
              rw [← hof]
              show own_W p e (FrameEnd s) below room_1.cells room_1.slots (Q0 Z ql qh pf po pc h0 n0) TJ74 (mkF m 137 #[.val (.long ql), .second, .val (.long qh), .second, .val (.int pf), .val (.int po), .val (.int pc), .val (.long low), .second, .val (.long high), .second, .val (.ref am), .val (.int ze), .val (.int ng), .val (.int sg), .val (.int of), .unset, .unset, .unset, .unset, .unset, .unset, .unset, .unset] [])
              have bof := own_of po
              rw [← hof] at bof
              refine own_iload XJ74 hx (hb hby at_137) (v := pc) rfl (rfl : 137 + 2 = 139) ?_
              refine own_ldcInt XJ74 hx hown (mvT hZ (hw _ (List.mem_of_getElem? (i := 1) rfl))) (hb hby at_139) (rfl : 139 + 2 = 141) ?_
              refine own_iand XJ74 hx (hb hby at_141) (rfl : 141 + 1 = 142) ?_
              refine own_bipush XJ74 hx (hb hby at_142) (25 : Int32) (by first | rfl | decide) (rfl : 142 + 2 = 144) ?_
              refine own_irem XJ74 hx (hb hby at_144) (by decide) (rfl : 144 + 1 = 145) ?_
              refine own_istore XJ74 hx (hb hby at_145) (l' := #[.val (.long ql), .second, .val (.long qh), .second, .val (.int pf), .val (.int po), .val (.int pc), .val (.long low), .second, .val (.long high), .second, .val (.ref am), .val (.int ze), .val (.int ng), .val (.int sg), .val (.int of), .val (.int ((pc &&& (2147483647 : Int32)) % (25 : Int32))), .unset, .unset, .unset, .unset, .unset, .unset, .unset]) rfl (rfl : 145 + 2 = 147) ?_
              obtain ⟨cn, hcn⟩ : ∃ z : Int32, z = ((pc &&& (2147483647 : Int32)) % (25 : Int32)) := ⟨_, rfl⟩
              rw [← hcn]
              show own_W p e (FrameEnd s) below room_1.cells room_1.slots (Q0 Z ql qh pf po pc h0 n0) TJ74 (mkF m 147 #[.val (.long ql), .second, .val (.long qh), .second, .val (.int pf), .val (.int po), .val (.int pc), .val (.long low), .second, .val (.long high), .second, .val (.ref am), .val (.int ze), .val (.int ng), .val (.int sg), .val (.int of), .val (.int cn), .unset, .unset, .unset, .unset, .unset, .unset, .unset] [])
              have bcn := own_cn pc
              rw [← hcn] at bcn
              refine own_bipush XJ74 hx (hb hby at_147) (28 : Int32) (by first | rfl | decide) (rfl : 147 + 2 = 149) ?_
              obtain ⟨T1, h1, k1, X1, e1, E1, A1, st1⟩ := newP XJ74 hx hZ (hw _ (List.mem_of_getElem? (i := 2) rfl)) eJ74 (g := (mkF m 149 #[.val (.long ql), .second, .val (.long qh), .second, .val (.int pf), .val (.int po), .val (.int pc), .val (.long low), .second, .val (.long high), .second, .val (.ref am), .val (.int ze), .val (.int ng), .val (.int sg), .val (.int of), .val (.int cn), .unset, .unset, .unset, .unset, .unset, .unset, .unset] [(.int (28 : Int32))])) rfl (hb hby at_149) rfl (by decide) (cap := 28) (by decide) (by decide) (by show cJ74 + 1 ≤ 16; omega) (by show kJ74 + 28 ≤ 128; omega)
              obtain ⟨into, g1⟩ : ∃ z, z = hJ74.size := ⟨_, rfl⟩
              rw [← g1] at A1 st1
              refine own_W.step st1 ?_
              have ne_am_into : am ≠ into := Nat.ne_of_lt (Nat.lt_of_lt_of_le fJ74_0.lt (Nat.le_of_eq g1.symm))
              have g_into : n0 ≤ into := Nat.le_trans zJ74 (Nat.le_of_eq g1.symm)
              have f1_A_am : own_A Z h1 am .long (ln) (fun z => .long (fm z)) := fJ74_0.ext E1
              have z1 : n0 ≤ h1.size := Nat.le_trans zJ74 E1.1
              have V1 : own_A Z h1 into .byte (28) (fun z => .int (own_k0 z)) := own_A.new A1 (by decide) (by decide)
              show own_W p e (FrameEnd s) below room_1.cells room_1.slots (Q0 Z ql qh pf po pc h0 n0) T1 (mkF m 151 #[.val (.long ql), .second, .val (.long qh), .second, .val (.int pf), .val (.int po), .val (.int pc), .val (.long low), .second, .val (.long high), .second, .val (.ref am), .val (.int ze), .val (.int ng), .val (.int sg), .val (.int of), .val (.int cn), .unset, .unset, .unset, .unset, .unset, .unset, .unset] [(.ref into)])
              refine own_astore X1 hx (hb hby at_151) (l' := #[.val (.long ql), .second, .val (.long qh), .second, .val (.int pf), .val (.int po), .val (.int pc), .val (.long low), .second, .val (.long high), .second, .val (.ref am), .val (.int ze), .val (.int ng), .val (.int sg), .val (.int of), .val (.int cn), .val (.ref into), .unset, .unset, .unset, .unset, .unset, .unset]) rfl rfl (rfl : 151 + 2 = 153) ?_
              refine own_iload X1 hx (hb hby at_153) (v := sg) rfl (rfl : 153 + 2 = 155) ?_
              refine own_aload X1 hx (hb hby at_155) (v := (.ref am)) rfl rfl (rfl : 155 + 2 = 157) ?_
              refine own_aload X1 hx (hb hby at_157) (v := (.ref into)) rfl rfl (rfl : 157 + 2 = 159) ?_
              refine own_iload X1 hx (hb hby at_159) (v := of) rfl (rfl : 159 + 2 = 161) ?_
              refine own_iload X1 hx (hb hby at_161) (v := cn) rfl (rfl : 161 + 2 = 163) ?_
              obtain ⟨_, _, ⟨T2, L2, k2, n2⟩, -, X2, ⟨Lc2, hQ2, l2, y2, z2⟩, st2⟩ := Jvm.LawKit.callS X1 hx (y := (⟨"com/example/sumtide/sumtide/Magnitudes", "writeBytes", "(I[J[BII)V"⟩ : MethodName)) hown (mvT hZ (hw _ (List.mem_of_getElem? (i := 3) rfl))) (mvT hZ (hw _ (List.mem_of_getElem? (i := 4) rfl))) (mvT hZ (hw _ (List.mem_of_getElem? (i := 5) rfl))) (mvT hZ (hw _ (List.mem_of_getElem? (i := 6) rfl))) (by decide) (backOf (W := 0) (rm1 l Z a0 hw [] sg am into of cn (ln) fm own_k0 h1 n0 z1 f1_A_am V1 g_into (ne_am_into) (bof) (bcn) ((own_magX hmag).1)) hZ (hw _ (List.mem_of_getElem? (i := 6) rfl)) (hw _ (List.mem_of_getElem? (i := 5) rfl)) (by decide) (by decide)) (g := (mkF m 163 #[.val (.long ql), .second, .val (.long qh), .second, .val (.int pf), .val (.int po), .val (.int pc), .val (.long low), .second, .val (.long high), .second, .val (.ref am), .val (.int ze), .val (.int ng), .val (.int sg), .val (.int of), .val (.int cn), .val (.ref into), .unset, .unset, .unset, .unset, .unset, .unset] [(.int cn), (.int of), (.ref into), (.ref am), (.int sg)])) rfl (by rw [hml]; rfl) (argsL := [(.int sg), (.ref am), (.ref into), (.int of), (.int cn)]) (rest := []) (lenOf own_pd__I_J_BII_V rfl) rfl (by show 2 * 0 + _ ≤ _; exact Nat.le_of_eq rfl) (hb hby at_163) (fun _ _ => ⟨rfl, e1, (by show cJ74 + 1 + 0 ≤ 16; omega), (by show kJ74 + 28 + 0 ≤ 128; omega)⟩)
              dsimp only [Pt.U, Pt.locs, Pt.cells, Pt.slots] at X2 l2 y2 z2 st2 hQ2
              try simp only [Nat.add_zero] at y2 z2
              subst l2 y2 z2
              obtain ⟨rfl, N2q, K2, fq2_0⟩ := hQ2
              have N2 := Fr.app NJ74 N2q
              have f2_A_am : own_A Z T2.heap am .long (ln) (fun z => .long (fm z)) := f1_A_am.keep K2 (ninS ne_am_into nin0)
              have z2c : n0 ≤ T2.heap.size := Nat.le_trans z1 K2.1
              refine own_W.step st2 ?_
              show own_W p e (FrameEnd s) below room_1.cells room_1.slots (Q0 Z ql qh pf po pc h0 n0) T2 (mkF m 166 #[.val (.long ql), .second, .val (.long qh), .second, .val (.int pf), .val (.int po), .val (.int pc), .val (.long low), .second, .val (.long high), .second, .val (.ref am), .val (.int ze), .val (.int ng), .val (.int sg), .val (.int of), .val (.int cn), .val (.ref into), .unset, .unset, .unset, .unset, .unset, .unset] [])
              refine own_iload X2 hx (hb hby at_166) (v := ng) rfl (rfl : 166 + 2 = 168) ?_
              have J216 : ∀ (w0 : Int64) (w1 : Int64) (w2 : Int64), ∀ (hw012 : ∀ n, n < 24 → own_ob sg fm ln n = own_sb w0 w1 w2 n), own_W p e (FrameEnd s) below room_1.cells room_1.slots (Q0 Z ql qh pf po pc h0 n0) T2 (mkF m 216 #[.val (.long ql), .second, .val (.long qh), .second, .val (.int pf), .val (.int po), .val (.int pc), .val (.long low), .second, .val (.long high), .second, .val (.ref am), .val (.int ze), .val (.int ng), .val (.int sg), .val (.int of), .val (.int cn), .val (.ref into), .val (.long w0), .second, .val (.long w1), .second, .val (.long w2), .second] []) := by
                intro w0 w1 w2 hw012
                have J292 : ∀ (TJ292 : State) (hJ292 : Heap) (LJ292 : List Loc), ∀ (XJ292 : Stand p l e room_1 s m #[(.long ql), (.long qh), (.int pf), (.int po), (.int pc)] below meth c TJ292 LJ292 (cJ74 + 1) (kJ74 + 28)), ∀ (eJ292 : TJ292.heap = hJ292), ∀ (NJ292 : Fr n0 LJ292), ∀ (zJ292 : n0 ≤ hJ292.size), ∀ (fJ292_0 : own_A Z hJ292 am .long (ln) (fun z => .long (fm z))), ∀ (fJ292_1 : own_A Z hJ292 into .byte (28) (fun z => .int (own_wm of cn (own_ob sg fm (ln)) own_k0 cn.toInt z))), own_W p e (FrameEnd s) below room_1.cells room_1.slots (Q0 Z ql qh pf po pc h0 n0) TJ292 (mkF m 292 #[.val (.long ql), .second, .val (.long qh), .second, .val (.int pf), .val (.int po), .val (.int pc), .val (.long low), .second, .val (.long high), .second, .val (.ref am), .val (.int ze), .val (.int ng), .val (.int sg), .val (.int of), .val (.int cn), .val (.ref into), .val (.long w0), .second, .val (.long w1), .second, .val (.long w2), .second] []) := by
                  intro TJ292 hJ292 LJ292 XJ292 eJ292 NJ292 zJ292 fJ292_0 fJ292_1
                  have J370 : ∀ (TJ370 : State) (hJ370 : Heap) (LJ370 : List Loc), ∀ (XJ370 : Stand p l e room_1 s m #[(.long ql), (.long qh), (.int pf), (.int po), (.int pc)] below meth c TJ370 LJ370 (cJ74 + 1) (kJ74 + 28)), ∀ (eJ370 : TJ370.heap = hJ370), ∀ (NJ370 : Fr n0 LJ370), ∀ (zJ370 : n0 ≤ hJ370.size), ∀ (fJ370_0 : own_A Z hJ370 am .long (ln) (fun z => .long (fm z))), ∀ (fJ370_1 : own_A Z hJ370 into .byte (28) (fun z => .int (own_wm of cn (own_ob sg fm (ln)) own_k0 cn.toInt z))), own_W p e (FrameEnd s) below room_1.cells room_1.slots (Q0 Z ql qh pf po pc h0 n0) TJ370 (mkF m 370 #[.val (.long ql), .second, .val (.long qh), .second, .val (.int pf), .val (.int po), .val (.int pc), .val (.long low), .second, .val (.long high), .second, .val (.ref am), .val (.int ze), .val (.int ng), .val (.int sg), .val (.int of), .val (.int cn), .val (.ref into), .val (.long w0), .second, .val (.long w1), .second, .val (.long w2), .second] []) := by
                    intro TJ370 hJ370 LJ370 XJ370 eJ370 NJ370 zJ370 fJ370_0 fJ370_1
                    have J450 : ∀ (TJ450 : State) (hJ450 : Heap) (LJ450 : List Loc), ∀ (XJ450 : Stand p l e room_1 s m #[(.long ql), (.long qh), (.int pf), (.int po), (.int pc)] below meth c TJ450 LJ450 (cJ74 + 1) (kJ74 + 28)), ∀ (eJ450 : TJ450.heap = hJ450), ∀ (NJ450 : Fr n0 LJ450), ∀ (zJ450 : n0 ≤ hJ450.size), ∀ (fJ450_0 : own_A Z hJ450 am .long (ln) (fun z => .long (fm z))), ∀ (fJ450_1 : own_A Z hJ450 into .byte (28) (fun z => .int (own_wm of cn (own_ob sg fm (ln)) own_k0 cn.toInt z))), own_W p e (FrameEnd s) below room_1.cells room_1.slots (Q0 Z ql qh pf po pc h0 n0) TJ450 (mkF m 450 #[.val (.long ql), .second, .val (.long qh), .second, .val (.int pf), .val (.int po), .val (.int pc), .val (.long low), .second, .val (.long high), .second, .val (.ref am), .val (.int ze), .val (.int ng), .val (.int sg), .val (.int of), .val (.int cn), .val (.ref into), .val (.long w0), .second, .val (.long w1), .second, .val (.long w2), .second] []) := by
                      intro TJ450 hJ450 LJ450 XJ450 eJ450 NJ450 zJ450 fJ450_0 fJ450_1
                      have J530 : ∀ (TJ530 : State) (hJ530 : Heap) (LJ530 : List Loc), ∀ (XJ530 : Stand p l e room_1 s m #[(.long ql), (.long qh), (.int pf), (.int po), (.int pc)] below meth c TJ530 LJ530 (cJ74 + 1) (kJ74 + 28)), ∀ (eJ530 : TJ530.heap = hJ530), ∀ (NJ530 : Fr n0 LJ530), ∀ (zJ530 : n0 ≤ hJ530.size), ∀ (fJ530_0 : own_A Z hJ530 am .long (ln) (fun z => .long (fm z))), ∀ (fJ530_1 : own_A Z hJ530 into .byte (28) (fun z => .int (own_wm of cn (own_ob sg fm (ln)) own_k0 cn.toInt z))), own_W p e (FrameEnd s) below room_1.cells room_1.slots (Q0 Z ql qh pf po pc h0 n0) TJ530 (mkF m 530 #[.val (.long ql), .second, .val (.long qh), .second, .val (.int pf), .val (.int po), .val (.int pc), .val (.long low), .second, .val (.long high), .second, .val (.ref am), .val (.int ze), .val (.int ng), .val (.int sg), .val (.int of), .val (.int cn), .val (.ref into), .val (.long w0), .second, .val (.long w1), .second, .val (.long w2), .second] []) := by
                        intro TJ530 hJ530 LJ530 XJ530 eJ530 NJ530 zJ530 fJ530_0 fJ530_1
                        have J610 : ∀ (TJ610 : State) (hJ610 : Heap) (LJ610 : List Loc), ∀ (XJ610 : Stand p l e room_1 s m #[(.long ql), (.long qh), (.int pf), (.int po), (.int pc)] below meth c TJ610 LJ610 (cJ74 + 1) (kJ74 + 28)), ∀ (eJ610 : TJ610.heap = hJ610), ∀ (NJ610 : Fr n0 LJ610), ∀ (zJ610 : n0 ≤ hJ610.size), ∀ (fJ610_0 : own_A Z hJ610 am .long (ln) (fun z => .long (fm z))), ∀ (fJ610_1 : own_A Z hJ610 into .byte (28) (fun z => .int (own_wm of cn (own_ob sg fm (ln)) own_k0 cn.toInt z))), own_W p e (FrameEnd s) below room_1.cells room_1.slots (Q0 Z ql qh pf po pc h0 n0) TJ610 (mkF m 610 #[.val (.long ql), .second, .val (.long qh), .second, .val (.int pf), .val (.int po), .val (.int pc), .val (.long low), .second, .val (.long high), .second, .val (.ref am), .val (.int ze), .val (.int ng), .val (.int sg), .val (.int of), .val (.int cn), .val (.ref into), .val (.long w0), .second, .val (.long w1), .second, .val (.long w2), .second] []) := by
                          intro TJ610 hJ610 LJ610 XJ610 eJ610 NJ610 zJ610 fJ610_0 fJ610_1
                          have J690 : ∀ (TJ690 : State) (hJ690 : Heap) (LJ690 : List Loc), ∀ (XJ690 : Stand p l e room_1 s m #[(.long ql), (.long qh), (.int pf), (.int po), (.int pc)] below meth c TJ690 LJ690 (cJ74 + 1) (kJ74 + 28)), ∀ (eJ690 : TJ690.heap = hJ690), ∀ (NJ690 : Fr n0 LJ690), ∀ (zJ690 : n0 ≤ hJ690.size), ∀ (fJ690_0 : own_A Z hJ690 am .long (ln) (fun z => .long (fm z))), ∀ (fJ690_1 : own_A Z hJ690 into .byte (28) (fun z => .int (own_wm of cn (own_ob sg fm (ln)) own_k0 cn.toInt z))), own_W p e (FrameEnd s) below room_1.cells room_1.slots (Q0 Z ql qh pf po pc h0 n0) TJ690 (mkF m 690 #[.val (.long ql), .second, .val (.long qh), .second, .val (.int pf), .val (.int po), .val (.int pc), .val (.long low), .second, .val (.long high), .second, .val (.ref am), .val (.int ze), .val (.int ng), .val (.int sg), .val (.int of), .val (.int cn), .val (.ref into), .val (.long w0), .second, .val (.long w1), .second, .val (.long w2), .second] []) := by
                            intro TJ690 hJ690 LJ690 XJ690 eJ690 NJ690 zJ690 fJ690_0 fJ690_1
                            refine own_aload XJ690 hx (hb hby at_690) (v := (.ref into)) rfl rfl (rfl : 690 + 2 = 692) ?_
                            refine own_bipush XJ690 hx (hb hby at_692) (24 : Int32) (by first | rfl | decide) (rfl : 692 + 2 = 694) ?_
                            refine own_iload XJ690 hx (hb hby at_694) (v := of) rfl (rfl : 694 + 2 = 696) ?_
                            refine own_iload XJ690 hx (hb hby at_696) (v := cn) rfl (rfl : 696 + 2 = 698) ?_
                            refine own_lload XJ690 hx (hb hby at_698) (v := w0) rfl (rfl : 698 + 2 = 700) ?_
                            refine own_lload XJ690 hx (hb hby at_700) (v := w1) rfl (rfl : 700 + 2 = 702) ?_
                            refine own_lload XJ690 hx (hb hby at_702) (v := w2) rfl (rfl : 702 + 2 = 704) ?_
                            obtain ⟨_, _, ⟨T3, L3, k3, n3⟩, -, X3, ⟨Lc3, hQ3, l3, y3, z3⟩, st3⟩ := Jvm.LawKit.callS XJ690 hx (y := (⟨"com/example/sumtide/sumtide/MagnitudesWriteBytesPinLaw", "at", "([BIIIJJJ)Z"⟩ : MethodName)) hown (mvT hZ (hw _ (List.mem_of_getElem? (i := 7) rfl))) (mvT hZ (hw _ (List.mem_of_getElem? (i := 8) rfl))) (mvT hZ (hw _ (List.mem_of_getElem? (i := 9) rfl))) (mvT hZ (hw _ (List.mem_of_getElem? (i := 10) rfl))) (by decide) (backOf (W := 0) (rm2 l Z a0 hw [] into (24 : Int32) of cn w0 w1 w2 (own_wm of cn (own_ob sg fm (ln)) own_k0 cn.toInt) 24 hJ690 n0 zJ690 fJ690_1 (⟨by decide, by decide⟩) (own_out of cn (24 : Int32) (own_ob sg fm ln) 24 bof bcn (by decide)) (fun h h' i wd sh w h1 h2 h3 h4 => own_in of cn (24 : Int32) (own_ob sg fm ln) 24 bof bcn (by decide) h h' w0 w1 w2 hw012 i wd sh h1 h2 h3 w h4)) hZ (hw _ (List.mem_of_getElem? (i := 10) rfl)) (hw _ (List.mem_of_getElem? (i := 9) rfl)) (by decide) (by decide)) (g := (mkF m 704 #[.val (.long ql), .second, .val (.long qh), .second, .val (.int pf), .val (.int po), .val (.int pc), .val (.long low), .second, .val (.long high), .second, .val (.ref am), .val (.int ze), .val (.int ng), .val (.int sg), .val (.int of), .val (.int cn), .val (.ref into), .val (.long w0), .second, .val (.long w1), .second, .val (.long w2), .second] [(.long w2), (.long w1), (.long w0), (.int cn), (.int of), (.int (24 : Int32)), (.ref into)])) rfl (by rw [hml]; rfl) (argsL := [(.ref into), (.int (24 : Int32)), (.int of), (.int cn), (.long w0), (.long w1), (.long w2)]) (rest := []) (lenOf own_pd___BIIIJJJ_Z rfl) rfl (by show 2 * 0 + _ ≤ _; exact Nat.le_of_eq rfl) (hb hby at_704) (fun _ _ => ⟨rfl, eJ690, (by show cJ74 + 1 + 0 ≤ 16; omega), (by show kJ74 + 28 + 0 ≤ 128; omega)⟩)
                            dsimp only [Pt.U, Pt.locs, Pt.cells, Pt.slots] at X3 l3 y3 z3 st3 hQ3
                            try simp only [Nat.add_zero] at y3 z3
                            subst l3 y3 z3
                            obtain ⟨rfl, N3q, e3⟩ := hQ3
                            have N3 := Fr.app NJ690 N3q
                            refine own_W.step st3 ?_
                            show own_W p e (FrameEnd s) below room_1.cells room_1.slots (Q0 Z ql qh pf po pc h0 n0) T3 (mkF m 707 #[.val (.long ql), .second, .val (.long qh), .second, .val (.int pf), .val (.int po), .val (.int pc), .val (.long low), .second, .val (.long high), .second, .val (.ref am), .val (.int ze), .val (.int ng), .val (.int sg), .val (.int of), .val (.int cn), .val (.ref into), .val (.long w0), .second, .val (.long w1), .second, .val (.long w2), .second] [(.int (1 : Int32))])
                            have hc707 : ¬ ((1 : Int32) = (0 : Int32)) := by decide
                            refine own_ifNo X3 hx (hb hby at_707) ((if0 _ _).trans (feq hc707).1) (rfl : 707 + 3 = 710) ?_
                            refine own_aload X3 hx (hb hby at_710) (v := (.ref into)) rfl rfl (rfl : 710 + 2 = 712) ?_
                            refine own_bipush X3 hx (hb hby at_712) (25 : Int32) (by first | rfl | decide) (rfl : 712 + 2 = 714) ?_
                            refine own_iload X3 hx (hb hby at_714) (v := of) rfl (rfl : 714 + 2 = 716) ?_
                            refine own_iload X3 hx (hb hby at_716) (v := cn) rfl (rfl : 716 + 2 = 718) ?_
                            refine own_lload X3 hx (hb hby at_718) (v := w0) rfl (rfl : 718 + 2 = 720) ?_
                            refine own_lload X3 hx (hb hby at_720) (v := w1) rfl (rfl : 720 + 2 = 722) ?_
                            refine own_lload X3 hx (hb hby at_722) (v := w2) rfl (rfl : 722 + 2 = 724) ?_
                            obtain ⟨_, _, ⟨T4, L4, k4, n4⟩, -, X4, ⟨Lc4, hQ4, l4, y4, z4⟩, st4⟩ := Jvm.LawKit.callS X3 hx (y := (⟨"com/example/sumtide/sumtide/MagnitudesWriteBytesPinLaw", "at", "([BIIIJJJ)Z"⟩ : MethodName)) hown (mvT hZ (hw _ (List.mem_of_getElem? (i := 7) rfl))) (mvT hZ (hw _ (List.mem_of_getElem? (i := 8) rfl))) (mvT hZ (hw _ (List.mem_of_getElem? (i := 9) rfl))) (mvT hZ (hw _ (List.mem_of_getElem? (i := 10) rfl))) (by decide) (backOf (W := 0) (rm2 l Z a0 hw [] into (25 : Int32) of cn w0 w1 w2 (own_wm of cn (own_ob sg fm (ln)) own_k0 cn.toInt) 25 hJ690 n0 zJ690 fJ690_1 (⟨by decide, by decide⟩) (own_out of cn (25 : Int32) (own_ob sg fm ln) 25 bof bcn (by decide)) (fun h h' i wd sh w h1 h2 h3 h4 => own_in of cn (25 : Int32) (own_ob sg fm ln) 25 bof bcn (by decide) h h' w0 w1 w2 hw012 i wd sh h1 h2 h3 w h4)) hZ (hw _ (List.mem_of_getElem? (i := 10) rfl)) (hw _ (List.mem_of_getElem? (i := 9) rfl)) (by decide) (by decide)) (g := (mkF m 724 #[.val (.long ql), .second, .val (.long qh), .second, .val (.int pf), .val (.int po), .val (.int pc), .val (.long low), .second, .val (.long high), .second, .val (.ref am), .val (.int ze), .val (.int ng), .val (.int sg), .val (.int of), .val (.int cn), .val (.ref into), .val (.long w0), .second, .val (.long w1), .second, .val (.long w2), .second] [(.long w2), (.long w1), (.long w0), (.int cn), (.int of), (.int (25 : Int32)), (.ref into)])) rfl (by rw [hml]; rfl) (argsL := [(.ref into), (.int (25 : Int32)), (.int of), (.int cn), (.long w0), (.long w1), (.long w2)]) (rest := []) (lenOf own_pd___BIIIJJJ_Z rfl) rfl (by show 2 * 0 + _ ≤ _; exact Nat.le_of_eq rfl) (hb hby at_724) (fun _ _ => ⟨rfl, e3, (by show cJ74 + 1 + 0 ≤ 16; omega), (by show kJ74 + 28 + 0 ≤ 128; omega)⟩)
                            dsimp only [Pt.U, Pt.locs, Pt.cells, Pt.slots] at X4 l4 y4 z4 st4 hQ4
                            try simp only [Nat.add_zero] at y4 z4
                            subst l4 y4 z4
                            obtain ⟨rfl, N4q, e4⟩ := hQ4
                            have N4 := Fr.app N3 N4q
                            refine own_W.step st4 ?_
                            show own_W p e (FrameEnd s) below room_1.cells room_1.slots (Q0 Z ql qh pf po pc h0 n0) T4 (mkF m 727 #[.val (.long ql), .second, .val (.long qh), .second, .val (.int pf), .val (.int po), .val (.int pc), .val (.long low), .second, .val (.long high), .second, .val (.ref am), .val (.int ze), .val (.int ng), .val (.int sg), .val (.int of), .val (.int cn), .val (.ref into), .val (.long w0), .second, .val (.long w1), .second, .val (.long w2), .second] [(.int (1 : Int32))])
                            have hc727 : ¬ ((1 : Int32) = (0 : Int32)) := by decide
                            refine own_ifNo X4 hx (hb hby at_727) ((if0 _ _).trans (feq hc727).1) (rfl : 727 + 3 = 730) ?_
                            refine own_aload X4 hx (hb hby at_730) (v := (.ref into)) rfl rfl (rfl : 730 + 2 = 732) ?_
                            refine own_bipush X4 hx (hb hby at_732) (26 : Int32) (by first | rfl | decide) (rfl : 732 + 2 = 734) ?_
                            refine own_iload X4 hx (hb hby at_734) (v := of) rfl (rfl : 734 + 2 = 736) ?_
                            refine own_iload X4 hx (hb hby at_736) (v := cn) rfl (rfl : 736 + 2 = 738) ?_
                            refine own_lload X4 hx (hb hby at_738) (v := w0) rfl (rfl : 738 + 2 = 740) ?_
                            refine own_lload X4 hx (hb hby at_740) (v := w1) rfl (rfl : 740 + 2 = 742) ?_
                            refine own_lload X4 hx (hb hby at_742) (v := w2) rfl (rfl : 742 + 2 = 744) ?_
                            obtain ⟨_, _, ⟨T5, L5, k5, n5⟩, -, X5, ⟨Lc5, hQ5, l5, y5, z5⟩, st5⟩ := Jvm.LawKit.callS X4 hx (y := (⟨"com/example/sumtide/sumtide/MagnitudesWriteBytesPinLaw", "at", "([BIIIJJJ)Z"⟩ : MethodName)) hown (mvT hZ (hw _ (List.mem_of_getElem? (i := 7) rfl))) (mvT hZ (hw _ (List.mem_of_getElem? (i := 8) rfl))) (mvT hZ (hw _ (List.mem_of_getElem? (i := 9) rfl))) (mvT hZ (hw _ (List.mem_of_getElem? (i := 10) rfl))) (by decide) (backOf (W := 0) (rm2 l Z a0 hw [] into (26 : Int32) of cn w0 w1 w2 (own_wm of cn (own_ob sg fm (ln)) own_k0 cn.toInt) 26 hJ690 n0 zJ690 fJ690_1 (⟨by decide, by decide⟩) (own_out of cn (26 : Int32) (own_ob sg fm ln) 26 bof bcn (by decide)) (fun h h' i wd sh w h1 h2 h3 h4 => own_in of cn (26 : Int32) (own_ob sg fm ln) 26 bof bcn (by decide) h h' w0 w1 w2 hw012 i wd sh h1 h2 h3 w h4)) hZ (hw _ (List.mem_of_getElem? (i := 10) rfl)) (hw _ (List.mem_of_getElem? (i := 9) rfl)) (by decide) (by decide)) (g := (mkF m 744 #[.val (.long ql), .second, .val (.long qh), .second, .val (.int pf), .val (.int po), .val (.int pc), .val (.long low), .second, .val (.long high), .second, .val (.ref am), .val (.int ze), .val (.int ng), .val (.int sg), .val (.int of), .val (.int cn), .val (.ref into), .val (.long w0), .second, .val (.long w1), .second, .val (.long w2), .second] [(.long w2), (.long w1), (.long w0), (.int cn), (.int of), (.int (26 : Int32)), (.ref into)])) rfl (by rw [hml]; rfl) (argsL := [(.ref into), (.int (26 : Int32)), (.int of), (.int cn), (.long w0), (.long w1), (.long w2)]) (rest := []) (lenOf own_pd___BIIIJJJ_Z rfl) rfl (by show 2 * 0 + _ ≤ _; exact Nat.le_of_eq rfl) (hb hby at_744) (fun _ _ => ⟨rfl, e4, (by show cJ74 + 1 + 0 ≤ 16; omega), (by show kJ74 + 28 + 0 ≤ 128; omega)⟩)
                            dsimp only [Pt.U, Pt.locs, Pt.cells, Pt.slots] at X5 l5 y5 z5 st5 hQ5
                            try simp only [Nat.add_zero] at y5 z5
                            subst l5 y5 z5
                            obtain ⟨rfl, N5q, e5⟩ := hQ5
                            have N5 := Fr.app N4 N5q
                            refine own_W.step st5 ?_
                            show own_W p e (FrameEnd s) below room_1.cells room_1.slots (Q0 Z ql qh pf po pc h0 n0) T5 (mkF m 747 #[.val (.long ql), .second, .val (.long qh), .second, .val (.int pf), .val (.int po), .val (.int pc), .val (.long low), .second, .val (.long high), .second, .val (.ref am), .val (.int ze), .val (.int ng), .val (.int sg), .val (.int of), .val (.int cn), .val (.ref into), .val (.long w0), .second, .val (.long w1), .second, .val (.long w2), .second] [(.int (1 : Int32))])
                            have hc747 : ¬ ((1 : Int32) = (0 : Int32)) := by decide
                            refine own_ifNo X5 hx (hb hby at_747) ((if0 _ _).trans (feq hc747).1) (rfl : 747 + 3 = 750) ?_
                            refine own_aload X5 hx (hb hby at_750) (v := (.ref into)) rfl rfl (rfl : 750 + 2 = 752) ?_
                            refine own_bipush X5 hx (hb hby at_752) (27 : Int32) (by first | rfl | decide) (rfl : 752 + 2 = 754) ?_
                            refine own_iload X5 hx (hb hby at_754) (v := of) rfl (rfl : 754 + 2 = 756) ?_
                            refine own_iload X5 hx (hb hby at_756) (v := cn) rfl (rfl : 756 + 2 = 758) ?_
                            refine own_lload X5 hx (hb hby at_758) (v := w0) rfl (rfl : 758 + 2 = 760) ?_
                            refine own_lload X5 hx (hb hby at_760) (v := w1) rfl (rfl : 760 + 2 = 762) ?_
                            refine own_lload X5 hx (hb hby at_762) (v := w2) rfl (rfl : 762 + 2 = 764) ?_
                            obtain ⟨_, _, ⟨T6, L6, k6, n6⟩, -, X6, ⟨Lc6, hQ6, l6, y6, z6⟩, st6⟩ := Jvm.LawKit.callS X5 hx (y := (⟨"com/example/sumtide/sumtide/MagnitudesWriteBytesPinLaw", "at", "([BIIIJJJ)Z"⟩ : MethodName)) hown (mvT hZ (hw _ (List.mem_of_getElem? (i := 7) rfl))) (mvT hZ (hw _ (List.mem_of_getElem? (i := 8) rfl))) (mvT hZ (hw _ (List.mem_of_getElem? (i := 9) rfl))) (mvT hZ (hw _ (List.mem_of_getElem? (i := 10) rfl))) (by decide) (backOf (W := 0) (rm2 l Z a0 hw [] into (27 : Int32) of cn w0 w1 w2 (own_wm of cn (own_ob sg fm (ln)) own_k0 cn.toInt) 27 hJ690 n0 zJ690 fJ690_1 (⟨by decide, by decide⟩) (own_out of cn (27 : Int32) (own_ob sg fm ln) 27 bof bcn (by decide)) (fun h h' i wd sh w h1 h2 h3 h4 => own_in of cn (27 : Int32) (own_ob sg fm ln) 27 bof bcn (by decide) h h' w0 w1 w2 hw012 i wd sh h1 h2 h3 w h4)) hZ (hw _ (List.mem_of_getElem? (i := 10) rfl)) (hw _ (List.mem_of_getElem? (i := 9) rfl)) (by decide) (by decide)) (g := (mkF m 764 #[.val (.long ql), .second, .val (.long qh), .second, .val (.int pf), .val (.int po), .val (.int pc), .val (.long low), .second, .val (.long high), .second, .val (.ref am), .val (.int ze), .val (.int ng), .val (.int sg), .val (.int of), .val (.int cn), .val (.ref into), .val (.long w0), .second, .val (.long w1), .second, .val (.long w2), .second] [(.long w2), (.long w1), (.long w0), (.int cn), (.int of), (.int (27 : Int32)), (.ref into)])) rfl (by rw [hml]; rfl) (argsL := [(.ref into), (.int (27 : Int32)), (.int of), (.int cn), (.long w0), (.long w1), (.long w2)]) (rest := []) (lenOf own_pd___BIIIJJJ_Z rfl) rfl (by show 2 * 0 + _ ≤ _; exact Nat.le_of_eq rfl) (hb hby at_764) (fun _ _ => ⟨rfl, e5, (by show cJ74 + 1 + 0 ≤ 16; omega), (by show kJ74 + 28 + 0 ≤ 128; omega)⟩)
                            dsimp only [Pt.U, Pt.locs, Pt.cells, Pt.slots] at X6 l6 y6 z6 st6 hQ6
                            try simp only [Nat.add_zero] at y6 z6
                            subst l6 y6 z6
                            obtain ⟨rfl, N6q, e6⟩ := hQ6
                            have N6 := Fr.app N5 N6q
                            refine own_W.step st6 ?_
                            show own_W p e (FrameEnd s) below room_1.cells room_1.slots (Q0 Z ql qh pf po pc h0 n0) T6 (mkF m 767 #[.val (.long ql), .second, .val (.long qh), .second, .val (.int pf), .val (.int po), .val (.int pc), .val (.long low), .second, .val (.long high), .second, .val (.ref am), .val (.int ze), .val (.int ng), .val (.int sg), .val (.int of), .val (.int cn), .val (.ref into), .val (.long w0), .second, .val (.long w1), .second, .val (.long w2), .second] [(.int (1 : Int32))])
                            have hc767 : ¬ ((1 : Int32) = (0 : Int32)) := by decide
                            refine own_ifNo X6 hx (hb hby at_767) ((if0 _ _).trans (feq hc767).1) (rfl : 767 + 3 = 770) ?_
                            refine own_iconst X6 hx (hb hby at_770) (1 : Int32) (by first | rfl | decide) (rfl : 770 + 1 = 771) ?_
                            refine own_goto X6 hx (hb hby at_771) (pc' := 775) (by decide) (by decide) ?_
                            refine own_retN (t := .boolean) X6 hx hlk hret (by simp) (hb hby at_775) (z' := (1 : Int32)) (by decide) (by show cJ74 + 1 ≤ 16; omega) (by show kJ74 + 28 ≤ 128; omega) ?_
                            show Q0 Z ql qh pf po pc h0 n0 (some (.int (1 : Int32))) T6.heap _
                            rw [e6]
                            exact ⟨rfl, N6⟩
                          refine own_aload XJ610 hx (hb hby at_610) (v := (.ref into)) rfl rfl (rfl : 610 + 2 = 612) ?_
                          refine own_bipush XJ610 hx (hb hby at_612) (20 : Int32) (by first | rfl | decide) (rfl : 612 + 2 = 614) ?_
                          refine own_iload XJ610 hx (hb hby at_614) (v := of) rfl (rfl : 614 + 2 = 616) ?_
                          refine own_iload XJ610 hx (hb hby at_616) (v := cn) rfl (rfl : 616 + 2 = 618) ?_
                          refine own_lload XJ610 hx (hb hby at_618) (v := w0) rfl (rfl : 618 + 2 = 620) ?_
                          refine own_lload XJ610 hx (hb hby at_620) (v := w1) rfl (rfl : 620 + 2 = 622) ?_
                          refine own_lload XJ610 hx (hb hby at_622) (v := w2) rfl (rfl : 622 + 2 = 624) ?_
                          obtain ⟨_, _, ⟨T7, L7, k7, n7⟩, -, X7, ⟨Lc7, hQ7, l7, y7, z7⟩, st7⟩ := Jvm.LawKit.callS XJ610 hx (y := (⟨"com/example/sumtide/sumtide/MagnitudesWriteBytesPinLaw", "at", "([BIIIJJJ)Z"⟩ : MethodName)) hown (mvT hZ (hw _ (List.mem_of_getElem? (i := 7) rfl))) (mvT hZ (hw _ (List.mem_of_getElem? (i := 8) rfl))) (mvT hZ (hw _ (List.mem_of_getElem? (i := 9) rfl))) (mvT hZ (hw _ (List.mem_of_getElem? (i := 10) rfl))) (by decide) (backOf (W := 0) (rm2 l Z a0 hw [] into (20 : Int32) of cn w0 w1 w2 (own_wm of cn (own_ob sg fm (ln)) own_k0 cn.toInt) 20 hJ610 n0 zJ610 fJ610_1 (⟨by decide, by decide⟩) (own_out of cn (20 : Int32) (own_ob sg fm ln) 20 bof bcn (by decide)) (fun h h' i wd sh w h1 h2 h3 h4 => own_in of cn (20 : Int32) (own_ob sg fm ln) 20 bof bcn (by decide) h h' w0 w1 w2 hw012 i wd sh h1 h2 h3 w h4)) hZ (hw _ (List.mem_of_getElem? (i := 10) rfl)) (hw _ (List.mem_of_getElem? (i := 9) rfl)) (by decide) (by decide)) (g := (mkF m 624 #[.val (.long ql), .second, .val (.long qh), .second, .val (.int pf), .val (.int po), .val (.int pc), .val (.long low), .second, .val (.long high), .second, .val (.ref am), .val (.int ze), .val (.int ng), .val (.int sg), .val (.int of), .val (.int cn), .val (.ref into), .val (.long w0), .second, .val (.long w1), .second, .val (.long w2), .second] [(.long w2), (.long w1), (.long w0), (.int cn), (.int of), (.int (20 : Int32)), (.ref into)])) rfl (by rw [hml]; rfl) (argsL := [(.ref into), (.int (20 : Int32)), (.int of), (.int cn), (.long w0), (.long w1), (.long w2)]) (rest := []) (lenOf own_pd___BIIIJJJ_Z rfl) rfl (by show 2 * 0 + _ ≤ _; exact Nat.le_of_eq rfl) (hb hby at_624) (fun _ _ => ⟨rfl, eJ610, (by show cJ74 + 1 + 0 ≤ 16; omega), (by show kJ74 + 28 + 0 ≤ 128; omega)⟩)
                          dsimp only [Pt.U, Pt.locs, Pt.cells, Pt.slots] at X7 l7 y7 z7 st7 hQ7
                          try simp only [Nat.add_zero] at y7 z7
                          subst l7 y7 z7
                          obtain ⟨rfl, N7q, e7⟩ := hQ7
                          have N7 := Fr.app NJ610 N7q
                          refine own_W.step st7 ?_
                          show own_W p e (FrameEnd s) below room_1.cells room_1.slots (Q0 Z ql qh pf po pc h0 n0) T7 (mkF m 627 #[.val (.long ql), .second, .val (.long qh), .second, .val (.int pf), .val (.int po), .val (.int pc), .val (.long low), .second, .val (.long high), .second, .val (.ref am), .val (.int ze), .val (.int ng), .val (.int sg), .val (.int of), .val (.int cn), .val (.ref into), .val (.long w0), .second, .val (.long w1), .second, .val (.long w2), .second] [(.int (1 : Int32))])
                          have hc627 : ¬ ((1 : Int32) = (0 : Int32)) := by decide
                          refine own_ifNo X7 hx (hb hby at_627) ((if0 _ _).trans (feq hc627).1) (rfl : 627 + 3 = 630) ?_
                          refine own_aload X7 hx (hb hby at_630) (v := (.ref into)) rfl rfl (rfl : 630 + 2 = 632) ?_
                          refine own_bipush X7 hx (hb hby at_632) (21 : Int32) (by first | rfl | decide) (rfl : 632 + 2 = 634) ?_
                          refine own_iload X7 hx (hb hby at_634) (v := of) rfl (rfl : 634 + 2 = 636) ?_
                          refine own_iload X7 hx (hb hby at_636) (v := cn) rfl (rfl : 636 + 2 = 638) ?_
                          refine own_lload X7 hx (hb hby at_638) (v := w0) rfl (rfl : 638 + 2 = 640) ?_
                          refine own_lload X7 hx (hb hby at_640) (v := w1) rfl (rfl : 640 + 2 = 642) ?_
                          refine own_lload X7 hx (hb hby at_642) (v := w2) rfl (rfl : 642 + 2 = 644) ?_
                          obtain ⟨_, _, ⟨T8, L8, k8, n8⟩, -, X8, ⟨Lc8, hQ8, l8, y8, z8⟩, st8⟩ := Jvm.LawKit.callS X7 hx (y := (⟨"com/example/sumtide/sumtide/MagnitudesWriteBytesPinLaw", "at", "([BIIIJJJ)Z"⟩ : MethodName)) hown (mvT hZ (hw _ (List.mem_of_getElem? (i := 7) rfl))) (mvT hZ (hw _ (List.mem_of_getElem? (i := 8) rfl))) (mvT hZ (hw _ (List.mem_of_getElem? (i := 9) rfl))) (mvT hZ (hw _ (List.mem_of_getElem? (i := 10) rfl))) (by decide) (backOf (W := 0) (rm2 l Z a0 hw [] into (21 : Int32) of cn w0 w1 w2 (own_wm of cn (own_ob sg fm (ln)) own_k0 cn.toInt) 21 hJ610 n0 zJ610 fJ610_1 (⟨by decide, by decide⟩) (own_out of cn (21 : Int32) (own_ob sg fm ln) 21 bof bcn (by decide)) (fun h h' i wd sh w h1 h2 h3 h4 => own_in of cn (21 : Int32) (own_ob sg fm ln) 21 bof bcn (by decide) h h' w0 w1 w2 hw012 i wd sh h1 h2 h3 w h4)) hZ (hw _ (List.mem_of_getElem? (i := 10) rfl)) (hw _ (List.mem_of_getElem? (i := 9) rfl)) (by decide) (by decide)) (g := (mkF m 644 #[.val (.long ql), .second, .val (.long qh), .second, .val (.int pf), .val (.int po), .val (.int pc), .val (.long low), .second, .val (.long high), .second, .val (.ref am), .val (.int ze), .val (.int ng), .val (.int sg), .val (.int of), .val (.int cn), .val (.ref into), .val (.long w0), .second, .val (.long w1), .second, .val (.long w2), .second] [(.long w2), (.long w1), (.long w0), (.int cn), (.int of), (.int (21 : Int32)), (.ref into)])) rfl (by rw [hml]; rfl) (argsL := [(.ref into), (.int (21 : Int32)), (.int of), (.int cn), (.long w0), (.long w1), (.long w2)]) (rest := []) (lenOf own_pd___BIIIJJJ_Z rfl) rfl (by show 2 * 0 + _ ≤ _; exact Nat.le_of_eq rfl) (hb hby at_644) (fun _ _ => ⟨rfl, e7, (by show cJ74 + 1 + 0 ≤ 16; omega), (by show kJ74 + 28 + 0 ≤ 128; omega)⟩)
                          dsimp only [Pt.U, Pt.locs, Pt.cells, Pt.slots] at X8 l8 y8 z8 st8 hQ8
                          try simp only [Nat.add_zero] at y8 z8
                          subst l8 y8 z8
                          obtain ⟨rfl, N8q, e8⟩ := hQ8
                          have N8 := Fr.app N7 N8q
                          refine own_W.step st8 ?_
                          show own_W p e (FrameEnd s) below room_1.cells room_1.slots (Q0 Z ql qh pf po pc h0 n0) T8 (mkF m 647 #[.val (.long ql), .second, .val (.long qh), .second, .val (.int pf), .val (.int po), .val (.int pc), .val (.long low), .second, .val (.long high), .second, .val (.ref am), .val (.int ze), .val (.int ng), .val (.int sg), .val (.int of), .val (.int cn), .val (.ref into), .val (.long w0), .second, .val (.long w1), .second, .val (.long w2), .second] [(.int (1 : Int32))])
                          have hc647 : ¬ ((1 : Int32) = (0 : Int32)) := by decide
                          refine own_ifNo X8 hx (hb hby at_647) ((if0 _ _).trans (feq hc647).1) (rfl : 647 + 3 = 650) ?_
                          refine own_aload X8 hx (hb hby at_650) (v := (.ref into)) rfl rfl (rfl : 650 + 2 = 652) ?_
                          refine own_bipush X8 hx (hb hby at_652) (22 : Int32) (by first | rfl | decide) (rfl : 652 + 2 = 654) ?_
                          refine own_iload X8 hx (hb hby at_654) (v := of) rfl (rfl : 654 + 2 = 656) ?_
                          refine own_iload X8 hx (hb hby at_656) (v := cn) rfl (rfl : 656 + 2 = 658) ?_
                          refine own_lload X8 hx (hb hby at_658) (v := w0) rfl (rfl : 658 + 2 = 660) ?_
                          refine own_lload X8 hx (hb hby at_660) (v := w1) rfl (rfl : 660 + 2 = 662) ?_
                          refine own_lload X8 hx (hb hby at_662) (v := w2) rfl (rfl : 662 + 2 = 664) ?_
                          obtain ⟨_, _, ⟨T9, L9, k9, n9⟩, -, X9, ⟨Lc9, hQ9, l9, y9, z9⟩, st9⟩ := Jvm.LawKit.callS X8 hx (y := (⟨"com/example/sumtide/sumtide/MagnitudesWriteBytesPinLaw", "at", "([BIIIJJJ)Z"⟩ : MethodName)) hown (mvT hZ (hw _ (List.mem_of_getElem? (i := 7) rfl))) (mvT hZ (hw _ (List.mem_of_getElem? (i := 8) rfl))) (mvT hZ (hw _ (List.mem_of_getElem? (i := 9) rfl))) (mvT hZ (hw _ (List.mem_of_getElem? (i := 10) rfl))) (by decide) (backOf (W := 0) (rm2 l Z a0 hw [] into (22 : Int32) of cn w0 w1 w2 (own_wm of cn (own_ob sg fm (ln)) own_k0 cn.toInt) 22 hJ610 n0 zJ610 fJ610_1 (⟨by decide, by decide⟩) (own_out of cn (22 : Int32) (own_ob sg fm ln) 22 bof bcn (by decide)) (fun h h' i wd sh w h1 h2 h3 h4 => own_in of cn (22 : Int32) (own_ob sg fm ln) 22 bof bcn (by decide) h h' w0 w1 w2 hw012 i wd sh h1 h2 h3 w h4)) hZ (hw _ (List.mem_of_getElem? (i := 10) rfl)) (hw _ (List.mem_of_getElem? (i := 9) rfl)) (by decide) (by decide)) (g := (mkF m 664 #[.val (.long ql), .second, .val (.long qh), .second, .val (.int pf), .val (.int po), .val (.int pc), .val (.long low), .second, .val (.long high), .second, .val (.ref am), .val (.int ze), .val (.int ng), .val (.int sg), .val (.int of), .val (.int cn), .val (.ref into), .val (.long w0), .second, .val (.long w1), .second, .val (.long w2), .second] [(.long w2), (.long w1), (.long w0), (.int cn), (.int of), (.int (22 : Int32)), (.ref into)])) rfl (by rw [hml]; rfl) (argsL := [(.ref into), (.int (22 : Int32)), (.int of), (.int cn), (.long w0), (.long w1), (.long w2)]) (rest := []) (lenOf own_pd___BIIIJJJ_Z rfl) rfl (by show 2 * 0 + _ ≤ _; exact Nat.le_of_eq rfl) (hb hby at_664) (fun _ _ => ⟨rfl, e8, (by show cJ74 + 1 + 0 ≤ 16; omega), (by show kJ74 + 28 + 0 ≤ 128; omega)⟩)
                          dsimp only [Pt.U, Pt.locs, Pt.cells, Pt.slots] at X9 l9 y9 z9 st9 hQ9
                          try simp only [Nat.add_zero] at y9 z9
                          subst l9 y9 z9
                          obtain ⟨rfl, N9q, e9⟩ := hQ9
                          have N9 := Fr.app N8 N9q
                          refine own_W.step st9 ?_
                          show own_W p e (FrameEnd s) below room_1.cells room_1.slots (Q0 Z ql qh pf po pc h0 n0) T9 (mkF m 667 #[.val (.long ql), .second, .val (.long qh), .second, .val (.int pf), .val (.int po), .val (.int pc), .val (.long low), .second, .val (.long high), .second, .val (.ref am), .val (.int ze), .val (.int ng), .val (.int sg), .val (.int of), .val (.int cn), .val (.ref into), .val (.long w0), .second, .val (.long w1), .second, .val (.long w2), .second] [(.int (1 : Int32))])
                          have hc667 : ¬ ((1 : Int32) = (0 : Int32)) := by decide
                          refine own_ifNo X9 hx (hb hby at_667) ((if0 _ _).trans (feq hc667).1) (rfl : 667 + 3 = 670) ?_
                          refine own_aload X9 hx (hb hby at_670) (v := (.ref into)) rfl rfl (rfl : 670 + 2 = 672) ?_
                          refine own_bipush X9 hx (hb hby at_672) (23 : Int32) (by first | rfl | decide) (rfl : 672 + 2 = 674) ?_
                          refine own_iload X9 hx (hb hby at_674) (v := of) rfl (rfl : 674 + 2 = 676) ?_
                          refine own_iload X9 hx (hb hby at_676) (v := cn) rfl (rfl : 676 + 2 = 678) ?_
                          refine own_lload X9 hx (hb hby at_678) (v := w0) rfl (rfl : 678 + 2 = 680) ?_
                          refine own_lload X9 hx (hb hby at_680) (v := w1) rfl (rfl : 680 + 2 = 682) ?_
                          refine own_lload X9 hx (hb hby at_682) (v := w2) rfl (rfl : 682 + 2 = 684) ?_
                          obtain ⟨_, _, ⟨T10, L10, k10, n10⟩, -, X10, ⟨Lc10, hQ10, l10, y10, z10⟩, st10⟩ := Jvm.LawKit.callS X9 hx (y := (⟨"com/example/sumtide/sumtide/MagnitudesWriteBytesPinLaw", "at", "([BIIIJJJ)Z"⟩ : MethodName)) hown (mvT hZ (hw _ (List.mem_of_getElem? (i := 7) rfl))) (mvT hZ (hw _ (List.mem_of_getElem? (i := 8) rfl))) (mvT hZ (hw _ (List.mem_of_getElem? (i := 9) rfl))) (mvT hZ (hw _ (List.mem_of_getElem? (i := 10) rfl))) (by decide) (backOf (W := 0) (rm2 l Z a0 hw [] into (23 : Int32) of cn w0 w1 w2 (own_wm of cn (own_ob sg fm (ln)) own_k0 cn.toInt) 23 hJ610 n0 zJ610 fJ610_1 (⟨by decide, by decide⟩) (own_out of cn (23 : Int32) (own_ob sg fm ln) 23 bof bcn (by decide)) (fun h h' i wd sh w h1 h2 h3 h4 => own_in of cn (23 : Int32) (own_ob sg fm ln) 23 bof bcn (by decide) h h' w0 w1 w2 hw012 i wd sh h1 h2 h3 w h4)) hZ (hw _ (List.mem_of_getElem? (i := 10) rfl)) (hw _ (List.mem_of_getElem? (i := 9) rfl)) (by decide) (by decide)) (g := (mkF m 684 #[.val (.long ql), .second, .val (.long qh), .second, .val (.int pf), .val (.int po), .val (.int pc), .val (.long low), .second, .val (.long high), .second, .val (.ref am), .val (.int ze), .val (.int ng), .val (.int sg), .val (.int of), .val (.int cn), .val (.ref into), .val (.long w0), .second, .val (.long w1), .second, .val (.long w2), .second] [(.long w2), (.long w1), (.long w0), (.int cn), (.int of), (.int (23 : Int32)), (.ref into)])) rfl (by rw [hml]; rfl) (argsL := [(.ref into), (.int (23 : Int32)), (.int of), (.int cn), (.long w0), (.long w1), (.long w2)]) (rest := []) (lenOf own_pd___BIIIJJJ_Z rfl) rfl (by show 2 * 0 + _ ≤ _; exact Nat.le_of_eq rfl) (hb hby at_684) (fun _ _ => ⟨rfl, e9, (by show cJ74 + 1 + 0 ≤ 16; omega), (by show kJ74 + 28 + 0 ≤ 128; omega)⟩)
                          dsimp only [Pt.U, Pt.locs, Pt.cells, Pt.slots] at X10 l10 y10 z10 st10 hQ10
                          try simp only [Nat.add_zero] at y10 z10
                          subst l10 y10 z10
                          obtain ⟨rfl, N10q, e10⟩ := hQ10
                          have N10 := Fr.app N9 N10q
                          refine own_W.step st10 ?_
                          show own_W p e (FrameEnd s) below room_1.cells room_1.slots (Q0 Z ql qh pf po pc h0 n0) T10 (mkF m 687 #[.val (.long ql), .second, .val (.long qh), .second, .val (.int pf), .val (.int po), .val (.int pc), .val (.long low), .second, .val (.long high), .second, .val (.ref am), .val (.int ze), .val (.int ng), .val (.int sg), .val (.int of), .val (.int cn), .val (.ref into), .val (.long w0), .second, .val (.long w1), .second, .val (.long w2), .second] [(.int (1 : Int32))])
                          have hc687 : ¬ ((1 : Int32) = (0 : Int32)) := by decide
                          refine own_ifNo X10 hx (hb hby at_687) ((if0 _ _).trans (feq hc687).1) (rfl : 687 + 3 = 690) ?_
                          exact J690 _ _ _  X10 e10 N10 zJ610 fJ610_0 fJ610_1 
                        refine own_aload XJ530 hx (hb hby at_530) (v := (.ref into)) rfl rfl (rfl : 530 + 2 = 532) ?_
                        refine own_bipush XJ530 hx (hb hby at_532) (16 : Int32) (by first | rfl | decide) (rfl : 532 + 2 = 534) ?_
                        refine own_iload XJ530 hx (hb hby at_534) (v := of) rfl (rfl : 534 + 2 = 536) ?_
                        refine own_iload XJ530 hx (hb hby at_536) (v := cn) rfl (rfl : 536 + 2 = 538) ?_
                        refine own_lload XJ530 hx (hb hby at_538) (v := w0) rfl (rfl : 538 + 2 = 540) ?_
                        refine own_lload XJ530 hx (hb hby at_540) (v := w1) rfl (rfl : 540 + 2 = 542) ?_
                        refine own_lload XJ530 hx (hb hby at_542) (v := w2) rfl (rfl : 542 + 2 = 544) ?_
                        obtain ⟨_, _, ⟨T11, L11, k11, n11⟩, -, X11, ⟨Lc11, hQ11, l11, y11, z11⟩, st11⟩ := Jvm.LawKit.callS XJ530 hx (y := (⟨"com/example/sumtide/sumtide/MagnitudesWriteBytesPinLaw", "at", "([BIIIJJJ)Z"⟩ : MethodName)) hown (mvT hZ (hw _ (List.mem_of_getElem? (i := 7) rfl))) (mvT hZ (hw _ (List.mem_of_getElem? (i := 8) rfl))) (mvT hZ (hw _ (List.mem_of_getElem? (i := 9) rfl))) (mvT hZ (hw _ (List.mem_of_getElem? (i := 10) rfl))) (by decide) (backOf (W := 0) (rm2 l Z a0 hw [] into (16 : Int32) of cn w0 w1 w2 (own_wm of cn (own_ob sg fm (ln)) own_k0 cn.toInt) 16 hJ530 n0 zJ530 fJ530_1 (⟨by decide, by decide⟩) (own_out of cn (16 : Int32) (own_ob sg fm ln) 16 bof bcn (by decide)) (fun h h' i wd sh w h1 h2 h3 h4 => own_in of cn (16 : Int32) (own_ob sg fm ln) 16 bof bcn (by decide) h h' w0 w1 w2 hw012 i wd sh h1 h2 h3 w h4)) hZ (hw _ (List.mem_of_getElem? (i := 10) rfl)) (hw _ (List.mem_of_getElem? (i := 9) rfl)) (by decide) (by decide)) (g := (mkF m 544 #[.val (.long ql), .second, .val (.long qh), .second, .val (.int pf), .val (.int po), .val (.int pc), .val (.long low), .second, .val (.long high), .second, .val (.ref am), .val (.int ze), .val (.int ng), .val (.int sg), .val (.int of), .val (.int cn), .val (.ref into), .val (.long w0), .second, .val (.long w1), .second, .val (.long w2), .second] [(.long w2), (.long w1), (.long w0), (.int cn), (.int of), (.int (16 : Int32)), (.ref into)])) rfl (by rw [hml]; rfl) (argsL := [(.ref into), (.int (16 : Int32)), (.int of), (.int cn), (.long w0), (.long w1), (.long w2)]) (rest := []) (lenOf own_pd___BIIIJJJ_Z rfl) rfl (by show 2 * 0 + _ ≤ _; exact Nat.le_of_eq rfl) (hb hby at_544) (fun _ _ => ⟨rfl, eJ530, (by show cJ74 + 1 + 0 ≤ 16; omega), (by show kJ74 + 28 + 0 ≤ 128; omega)⟩)
                        dsimp only [Pt.U, Pt.locs, Pt.cells, Pt.slots] at X11 l11 y11 z11 st11 hQ11
                        try simp only [Nat.add_zero] at y11 z11
                        subst l11 y11 z11
                        obtain ⟨rfl, N11q, e11⟩ := hQ11
                        have N11 := Fr.app NJ530 N11q
                        refine own_W.step st11 ?_
                        show own_W p e (FrameEnd s) below room_1.cells room_1.slots (Q0 Z ql qh pf po pc h0 n0) T11 (mkF m 547 #[.val (.long ql), .second, .val (.long qh), .second, .val (.int pf), .val (.int po), .val (.int pc), .val (.long low), .second, .val (.long high), .second, .val (.ref am), .val (.int ze), .val (.int ng), .val (.int sg), .val (.int of), .val (.int cn), .val (.ref into), .val (.long w0), .second, .val (.long w1), .second, .val (.long w2), .second] [(.int (1 : Int32))])
                        have hc547 : ¬ ((1 : Int32) = (0 : Int32)) := by decide
                        refine own_ifNo X11 hx (hb hby at_547) ((if0 _ _).trans (feq hc547).1) (rfl : 547 + 3 = 550) ?_
                        refine own_aload X11 hx (hb hby at_550) (v := (.ref into)) rfl rfl (rfl : 550 + 2 = 552) ?_
                        refine own_bipush X11 hx (hb hby at_552) (17 : Int32) (by first | rfl | decide) (rfl : 552 + 2 = 554) ?_
                        refine own_iload X11 hx (hb hby at_554) (v := of) rfl (rfl : 554 + 2 = 556) ?_
                        refine own_iload X11 hx (hb hby at_556) (v := cn) rfl (rfl : 556 + 2 = 558) ?_
                        refine own_lload X11 hx (hb hby at_558) (v := w0) rfl (rfl : 558 + 2 = 560) ?_
                        refine own_lload X11 hx (hb hby at_560) (v := w1) rfl (rfl : 560 + 2 = 562) ?_
                        refine own_lload X11 hx (hb hby at_562) (v := w2) rfl (rfl : 562 + 2 = 564) ?_
                        obtain ⟨_, _, ⟨T12, L12, k12, n12⟩, -, X12, ⟨Lc12, hQ12, l12, y12, z12⟩, st12⟩ := Jvm.LawKit.callS X11 hx (y := (⟨"com/example/sumtide/sumtide/MagnitudesWriteBytesPinLaw", "at", "([BIIIJJJ)Z"⟩ : MethodName)) hown (mvT hZ (hw _ (List.mem_of_getElem? (i := 7) rfl))) (mvT hZ (hw _ (List.mem_of_getElem? (i := 8) rfl))) (mvT hZ (hw _ (List.mem_of_getElem? (i := 9) rfl))) (mvT hZ (hw _ (List.mem_of_getElem? (i := 10) rfl))) (by decide) (backOf (W := 0) (rm2 l Z a0 hw [] into (17 : Int32) of cn w0 w1 w2 (own_wm of cn (own_ob sg fm (ln)) own_k0 cn.toInt) 17 hJ530 n0 zJ530 fJ530_1 (⟨by decide, by decide⟩) (own_out of cn (17 : Int32) (own_ob sg fm ln) 17 bof bcn (by decide)) (fun h h' i wd sh w h1 h2 h3 h4 => own_in of cn (17 : Int32) (own_ob sg fm ln) 17 bof bcn (by decide) h h' w0 w1 w2 hw012 i wd sh h1 h2 h3 w h4)) hZ (hw _ (List.mem_of_getElem? (i := 10) rfl)) (hw _ (List.mem_of_getElem? (i := 9) rfl)) (by decide) (by decide)) (g := (mkF m 564 #[.val (.long ql), .second, .val (.long qh), .second, .val (.int pf), .val (.int po), .val (.int pc), .val (.long low), .second, .val (.long high), .second, .val (.ref am), .val (.int ze), .val (.int ng), .val (.int sg), .val (.int of), .val (.int cn), .val (.ref into), .val (.long w0), .second, .val (.long w1), .second, .val (.long w2), .second] [(.long w2), (.long w1), (.long w0), (.int cn), (.int of), (.int (17 : Int32)), (.ref into)])) rfl (by rw [hml]; rfl) (argsL := [(.ref into), (.int (17 : Int32)), (.int of), (.int cn), (.long w0), (.long w1), (.long w2)]) (rest := []) (lenOf own_pd___BIIIJJJ_Z rfl) rfl (by show 2 * 0 + _ ≤ _; exact Nat.le_of_eq rfl) (hb hby at_564) (fun _ _ => ⟨rfl, e11, (by show cJ74 + 1 + 0 ≤ 16; omega), (by show kJ74 + 28 + 0 ≤ 128; omega)⟩)
                        dsimp only [Pt.U, Pt.locs, Pt.cells, Pt.slots] at X12 l12 y12 z12 st12 hQ12
                        try simp only [Nat.add_zero] at y12 z12
                        subst l12 y12 z12
                        obtain ⟨rfl, N12q, e12⟩ := hQ12
                        have N12 := Fr.app N11 N12q
                        refine own_W.step st12 ?_
                        show own_W p e (FrameEnd s) below room_1.cells room_1.slots (Q0 Z ql qh pf po pc h0 n0) T12 (mkF m 567 #[.val (.long ql), .second, .val (.long qh), .second, .val (.int pf), .val (.int po), .val (.int pc), .val (.long low), .second, .val (.long high), .second, .val (.ref am), .val (.int ze), .val (.int ng), .val (.int sg), .val (.int of), .val (.int cn), .val (.ref into), .val (.long w0), .second, .val (.long w1), .second, .val (.long w2), .second] [(.int (1 : Int32))])
                        have hc567 : ¬ ((1 : Int32) = (0 : Int32)) := by decide
                        refine own_ifNo X12 hx (hb hby at_567) ((if0 _ _).trans (feq hc567).1) (rfl : 567 + 3 = 570) ?_
                        refine own_aload X12 hx (hb hby at_570) (v := (.ref into)) rfl rfl (rfl : 570 + 2 = 572) ?_
                        refine own_bipush X12 hx (hb hby at_572) (18 : Int32) (by first | rfl | decide) (rfl : 572 + 2 = 574) ?_
                        refine own_iload X12 hx (hb hby at_574) (v := of) rfl (rfl : 574 + 2 = 576) ?_
                        refine own_iload X12 hx (hb hby at_576) (v := cn) rfl (rfl : 576 + 2 = 578) ?_
                        refine own_lload X12 hx (hb hby at_578) (v := w0) rfl (rfl : 578 + 2 = 580) ?_
                        refine own_lload X12 hx (hb hby at_580) (v := w1) rfl (rfl : 580 + 2 = 582) ?_
                        refine own_lload X12 hx (hb hby at_582) (v := w2) rfl (rfl : 582 + 2 = 584) ?_
                        obtain ⟨_, _, ⟨T13, L13, k13, n13⟩, -, X13, ⟨Lc13, hQ13, l13, y13, z13⟩, st13⟩ := Jvm.LawKit.callS X12 hx (y := (⟨"com/example/sumtide/sumtide/MagnitudesWriteBytesPinLaw", "at", "([BIIIJJJ)Z"⟩ : MethodName)) hown (mvT hZ (hw _ (List.mem_of_getElem? (i := 7) rfl))) (mvT hZ (hw _ (List.mem_of_getElem? (i := 8) rfl))) (mvT hZ (hw _ (List.mem_of_getElem? (i := 9) rfl))) (mvT hZ (hw _ (List.mem_of_getElem? (i := 10) rfl))) (by decide) (backOf (W := 0) (rm2 l Z a0 hw [] into (18 : Int32) of cn w0 w1 w2 (own_wm of cn (own_ob sg fm (ln)) own_k0 cn.toInt) 18 hJ530 n0 zJ530 fJ530_1 (⟨by decide, by decide⟩) (own_out of cn (18 : Int32) (own_ob sg fm ln) 18 bof bcn (by decide)) (fun h h' i wd sh w h1 h2 h3 h4 => own_in of cn (18 : Int32) (own_ob sg fm ln) 18 bof bcn (by decide) h h' w0 w1 w2 hw012 i wd sh h1 h2 h3 w h4)) hZ (hw _ (List.mem_of_getElem? (i := 10) rfl)) (hw _ (List.mem_of_getElem? (i := 9) rfl)) (by decide) (by decide)) (g := (mkF m 584 #[.val (.long ql), .second, .val (.long qh), .second, .val (.int pf), .val (.int po), .val (.int pc), .val (.long low), .second, .val (.long high), .second, .val (.ref am), .val (.int ze), .val (.int ng), .val (.int sg), .val (.int of), .val (.int cn), .val (.ref into), .val (.long w0), .second, .val (.long w1), .second, .val (.long w2), .second] [(.long w2), (.long w1), (.long w0), (.int cn), (.int of), (.int (18 : Int32)), (.ref into)])) rfl (by rw [hml]; rfl) (argsL := [(.ref into), (.int (18 : Int32)), (.int of), (.int cn), (.long w0), (.long w1), (.long w2)]) (rest := []) (lenOf own_pd___BIIIJJJ_Z rfl) rfl (by show 2 * 0 + _ ≤ _; exact Nat.le_of_eq rfl) (hb hby at_584) (fun _ _ => ⟨rfl, e12, (by show cJ74 + 1 + 0 ≤ 16; omega), (by show kJ74 + 28 + 0 ≤ 128; omega)⟩)
                        dsimp only [Pt.U, Pt.locs, Pt.cells, Pt.slots] at X13 l13 y13 z13 st13 hQ13
                        try simp only [Nat.add_zero] at y13 z13
                        subst l13 y13 z13
                        obtain ⟨rfl, N13q, e13⟩ := hQ13
                        have N13 := Fr.app N12 N13q
                        refine own_W.step st13 ?_
                        show own_W p e (FrameEnd s) below room_1.cells room_1.slots (Q0 Z ql qh pf po pc h0 n0) T13 (mkF m 587 #[.val (.long ql), .second, .val (.long qh), .second, .val (.int pf), .val (.int po), .val (.int pc), .val (.long low), .second, .val (.long high), .second, .val (.ref am), .val (.int ze), .val (.int ng), .val (.int sg), .val (.int of), .val (.int cn), .val (.ref into), .val (.long w0), .second, .val (.long w1), .second, .val (.long w2), .second] [(.int (1 : Int32))])
                        have hc587 : ¬ ((1 : Int32) = (0 : Int32)) := by decide
                        refine own_ifNo X13 hx (hb hby at_587) ((if0 _ _).trans (feq hc587).1) (rfl : 587 + 3 = 590) ?_
                        refine own_aload X13 hx (hb hby at_590) (v := (.ref into)) rfl rfl (rfl : 590 + 2 = 592) ?_
                        refine own_bipush X13 hx (hb hby at_592) (19 : Int32) (by first | rfl | decide) (rfl : 592 + 2 = 594) ?_
                        refine own_iload X13 hx (hb hby at_594) (v := of) rfl (rfl : 594 + 2 = 596) ?_
                        refine own_iload X13 hx (hb hby at_596) (v := cn) rfl (rfl : 596 + 2 = 598) ?_
                        refine own_lload X13 hx (hb hby at_598) (v := w0) rfl (rfl : 598 + 2 = 600) ?_
                        refine own_lload X13 hx (hb hby at_600) (v := w1) rfl (rfl : 600 + 2 = 602) ?_
                        refine own_lload X13 hx (hb hby at_602) (v := w2) rfl (rfl : 602 + 2 = 604) ?_
                        obtain ⟨_, _, ⟨T14, L14, k14, n14⟩, -, X14, ⟨Lc14, hQ14, l14, y14, z14⟩, st14⟩ := Jvm.LawKit.callS X13 hx (y := (⟨"com/example/sumtide/sumtide/MagnitudesWriteBytesPinLaw", "at", "([BIIIJJJ)Z"⟩ : MethodName)) hown (mvT hZ (hw _ (List.mem_of_getElem? (i := 7) rfl))) (mvT hZ (hw _ (List.mem_of_getElem? (i := 8) rfl))) (mvT hZ (hw _ (List.mem_of_getElem? (i := 9) rfl))) (mvT hZ (hw _ (List.mem_of_getElem? (i := 10) rfl))) (by decide) (backOf (W := 0) (rm2 l Z a0 hw [] into (19 : Int32) of cn w0 w1 w2 (own_wm of cn (own_ob sg fm (ln)) own_k0 cn.toInt) 19 hJ530 n0 zJ530 fJ530_1 (⟨by decide, by decide⟩) (own_out of cn (19 : Int32) (own_ob sg fm ln) 19 bof bcn (by decide)) (fun h h' i wd sh w h1 h2 h3 h4 => own_in of cn (19 : Int32) (own_ob sg fm ln) 19 bof bcn (by decide) h h' w0 w1 w2 hw012 i wd sh h1 h2 h3 w h4)) hZ (hw _ (List.mem_of_getElem? (i := 10) rfl)) (hw _ (List.mem_of_getElem? (i := 9) rfl)) (by decide) (by decide)) (g := (mkF m 604 #[.val (.long ql), .second, .val (.long qh), .second, .val (.int pf), .val (.int po), .val (.int pc), .val (.long low), .second, .val (.long high), .second, .val (.ref am), .val (.int ze), .val (.int ng), .val (.int sg), .val (.int of), .val (.int cn), .val (.ref into), .val (.long w0), .second, .val (.long w1), .second, .val (.long w2), .second] [(.long w2), (.long w1), (.long w0), (.int cn), (.int of), (.int (19 : Int32)), (.ref into)])) rfl (by rw [hml]; rfl) (argsL := [(.ref into), (.int (19 : Int32)), (.int of), (.int cn), (.long w0), (.long w1), (.long w2)]) (rest := []) (lenOf own_pd___BIIIJJJ_Z rfl) rfl (by show 2 * 0 + _ ≤ _; exact Nat.le_of_eq rfl) (hb hby at_604) (fun _ _ => ⟨rfl, e13, (by show cJ74 + 1 + 0 ≤ 16; omega), (by show kJ74 + 28 + 0 ≤ 128; omega)⟩)
                        dsimp only [Pt.U, Pt.locs, Pt.cells, Pt.slots] at X14 l14 y14 z14 st14 hQ14
                        try simp only [Nat.add_zero] at y14 z14
                        subst l14 y14 z14
                        obtain ⟨rfl, N14q, e14⟩ := hQ14
                        have N14 := Fr.app N13 N14q
                        refine own_W.step st14 ?_
                        show own_W p e (FrameEnd s) below room_1.cells room_1.slots (Q0 Z ql qh pf po pc h0 n0) T14 (mkF m 607 #[.val (.long ql), .second, .val (.long qh), .second, .val (.int pf), .val (.int po), .val (.int pc), .val (.long low), .second, .val (.long high), .second, .val (.ref am), .val (.int ze), .val (.int ng), .val (.int sg), .val (.int of), .val (.int cn), .val (.ref into), .val (.long w0), .second, .val (.long w1), .second, .val (.long w2), .second] [(.int (1 : Int32))])
                        have hc607 : ¬ ((1 : Int32) = (0 : Int32)) := by decide
                        refine own_ifNo X14 hx (hb hby at_607) ((if0 _ _).trans (feq hc607).1) (rfl : 607 + 3 = 610) ?_
                        exact J610 _ _ _  X14 e14 N14 zJ530 fJ530_0 fJ530_1 
                      refine own_aload XJ450 hx (hb hby at_450) (v := (.ref into)) rfl rfl (rfl : 450 + 2 = 452) ?_
                      refine own_bipush XJ450 hx (hb hby at_452) (12 : Int32) (by first | rfl | decide) (rfl : 452 + 2 = 454) ?_
                      refine own_iload XJ450 hx (hb hby at_454) (v := of) rfl (rfl : 454 + 2 = 456) ?_
                      refine own_iload XJ450 hx (hb hby at_456) (v := cn) rfl (rfl : 456 + 2 = 458) ?_
                      refine own_lload XJ450 hx (hb hby at_458) (v := w0) rfl (rfl : 458 + 2 = 460) ?_
                      refine own_lload XJ450 hx (hb hby at_460) (v := w1) rfl (rfl : 460 + 2 = 462) ?_
                      refine own_lload XJ450 hx (hb hby at_462) (v := w2) rfl (rfl : 462 + 2 = 464) ?_
                      obtain ⟨_, _, ⟨T15, L15, k15, n15⟩, -, X15, ⟨Lc15, hQ15, l15, y15, z15⟩, st15⟩ := Jvm.LawKit.callS XJ450 hx (y := (⟨"com/example/sumtide/sumtide/MagnitudesWriteBytesPinLaw", "at", "([BIIIJJJ)Z"⟩ : MethodName)) hown (mvT hZ (hw _ (List.mem_of_getElem? (i := 7) rfl))) (mvT hZ (hw _ (List.mem_of_getElem? (i := 8) rfl))) (mvT hZ (hw _ (List.mem_of_getElem? (i := 9) rfl))) (mvT hZ (hw _ (List.mem_of_getElem? (i := 10) rfl))) (by decide) (backOf (W := 0) (rm2 l Z a0 hw [] into (12 : Int32) of cn w0 w1 w2 (own_wm of cn (own_ob sg fm (ln)) own_k0 cn.toInt) 12 hJ450 n0 zJ450 fJ450_1 (⟨by decide, by decide⟩) (own_out of cn (12 : Int32) (own_ob sg fm ln) 12 bof bcn (by decide)) (fun h h' i wd sh w h1 h2 h3 h4 => own_in of cn (12 : Int32) (own_ob sg fm ln) 12 bof bcn (by decide) h h' w0 w1 w2 hw012 i wd sh h1 h2 h3 w h4)) hZ (hw _ (List.mem_of_getElem? (i := 10) rfl)) (hw _ (List.mem_of_getElem? (i := 9) rfl)) (by decide) (by decide)) (g := (mkF m 464 #[.val (.long ql), .second, .val (.long qh), .second, .val (.int pf), .val (.int po), .val (.int pc), .val (.long low), .second, .val (.long high), .second, .val (.ref am), .val (.int ze), .val (.int ng), .val (.int sg), .val (.int of), .val (.int cn), .val (.ref into), .val (.long w0), .second, .val (.long w1), .second, .val (.long w2), .second] [(.long w2), (.long w1), (.long w0), (.int cn), (.int of), (.int (12 : Int32)), (.ref into)])) rfl (by rw [hml]; rfl) (argsL := [(.ref into), (.int (12 : Int32)), (.int of), (.int cn), (.long w0), (.long w1), (.long w2)]) (rest := []) (lenOf own_pd___BIIIJJJ_Z rfl) rfl (by show 2 * 0 + _ ≤ _; exact Nat.le_of_eq rfl) (hb hby at_464) (fun _ _ => ⟨rfl, eJ450, (by show cJ74 + 1 + 0 ≤ 16; omega), (by show kJ74 + 28 + 0 ≤ 128; omega)⟩)
                      dsimp only [Pt.U, Pt.locs, Pt.cells, Pt.slots] at X15 l15 y15 z15 st15 hQ15
                      try simp only [Nat.add_zero] at y15 z15
                      subst l15 y15 z15
                      obtain ⟨rfl, N15q, e15⟩ := hQ15
                      have N15 := Fr.app NJ450 N15q
                      refine own_W.step st15 ?_
                      show own_W p e (FrameEnd s) below room_1.cells room_1.slots (Q0 Z ql qh pf po pc h0 n0) T15 (mkF m 467 #[.val (.long ql), .second, .val (.long qh), .second, .val (.int pf), .val (.int po), .val (.int pc), .val (.long low), .second, .val (.long high), .second, .val (.ref am), .val (.int ze), .val (.int ng), .val (.int sg), .val (.int of), .val (.int cn), .val (.ref into), .val (.long w0), .second, .val (.long w1), .second, .val (.long w2), .second] [(.int (1 : Int32))])
                      have hc467 : ¬ ((1 : Int32) = (0 : Int32)) := by decide
                      refine own_ifNo X15 hx (hb hby at_467) ((if0 _ _).trans (feq hc467).1) (rfl : 467 + 3 = 470) ?_
                      refine own_aload X15 hx (hb hby at_470) (v := (.ref into)) rfl rfl (rfl : 470 + 2 = 472) ?_
                      refine own_bipush X15 hx (hb hby at_472) (13 : Int32) (by first | rfl | decide) (rfl : 472 + 2 = 474) ?_
                      refine own_iload X15 hx (hb hby at_474) (v := of) rfl (rfl : 474 + 2 = 476) ?_
                      refine own_iload X15 hx (hb hby at_476) (v := cn) rfl (rfl : 476 + 2 = 478) ?_
                      refine own_lload X15 hx (hb hby at_478) (v := w0) rfl (rfl : 478 + 2 = 480) ?_
                      refine own_lload X15 hx (hb hby at_480) (v := w1) rfl (rfl : 480 + 2 = 482) ?_
                      refine own_lload X15 hx (hb hby at_482) (v := w2) rfl (rfl : 482 + 2 = 484) ?_
                      obtain ⟨_, _, ⟨T16, L16, k16, n16⟩, -, X16, ⟨Lc16, hQ16, l16, y16, z16⟩, st16⟩ := Jvm.LawKit.callS X15 hx (y := (⟨"com/example/sumtide/sumtide/MagnitudesWriteBytesPinLaw", "at", "([BIIIJJJ)Z"⟩ : MethodName)) hown (mvT hZ (hw _ (List.mem_of_getElem? (i := 7) rfl))) (mvT hZ (hw _ (List.mem_of_getElem? (i := 8) rfl))) (mvT hZ (hw _ (List.mem_of_getElem? (i := 9) rfl))) (mvT hZ (hw _ (List.mem_of_getElem? (i := 10) rfl))) (by decide) (backOf (W := 0) (rm2 l Z a0 hw [] into (13 : Int32) of cn w0 w1 w2 (own_wm of cn (own_ob sg fm (ln)) own_k0 cn.toInt) 13 hJ450 n0 zJ450 fJ450_1 (⟨by decide, by decide⟩) (own_out of cn (13 : Int32) (own_ob sg fm ln) 13 bof bcn (by decide)) (fun h h' i wd sh w h1 h2 h3 h4 => own_in of cn (13 : Int32) (own_ob sg fm ln) 13 bof bcn (by decide) h h' w0 w1 w2 hw012 i wd sh h1 h2 h3 w h4)) hZ (hw _ (List.mem_of_getElem? (i := 10) rfl)) (hw _ (List.mem_of_getElem? (i := 9) rfl)) (by decide) (by decide)) (g := (mkF m 484 #[.val (.long ql), .second, .val (.long qh), .second, .val (.int pf), .val (.int po), .val (.int pc), .val (.long low), .second, .val (.long high), .second, .val (.ref am), .val (.int ze), .val (.int ng), .val (.int sg), .val (.int of), .val (.int cn), .val (.ref into), .val (.long w0), .second, .val (.long w1), .second, .val (.long w2), .second] [(.long w2), (.long w1), (.long w0), (.int cn), (.int of), (.int (13 : Int32)), (.ref into)])) rfl (by rw [hml]; rfl) (argsL := [(.ref into), (.int (13 : Int32)), (.int of), (.int cn), (.long w0), (.long w1), (.long w2)]) (rest := []) (lenOf own_pd___BIIIJJJ_Z rfl) rfl (by show 2 * 0 + _ ≤ _; exact Nat.le_of_eq rfl) (hb hby at_484) (fun _ _ => ⟨rfl, e15, (by show cJ74 + 1 + 0 ≤ 16; omega), (by show kJ74 + 28 + 0 ≤ 128; omega)⟩)
                      dsimp only [Pt.U, Pt.locs, Pt.cells, Pt.slots] at X16 l16 y16 z16 st16 hQ16
                      try simp only [Nat.add_zero] at y16 z16
                      subst l16 y16 z16
                      obtain ⟨rfl, N16q, e16⟩ := hQ16
                      have N16 := Fr.app N15 N16q
                      refine own_W.step st16 ?_
                      show own_W p e (FrameEnd s) below room_1.cells room_1.slots (Q0 Z ql qh pf po pc h0 n0) T16 (mkF m 487 #[.val (.long ql), .second, .val (.long qh), .second, .val (.int pf), .val (.int po), .val (.int pc), .val (.long low), .second, .val (.long high), .second, .val (.ref am), .val (.int ze), .val (.int ng), .val (.int sg), .val (.int of), .val (.int cn), .val (.ref into), .val (.long w0), .second, .val (.long w1), .second, .val (.long w2), .second] [(.int (1 : Int32))])
                      have hc487 : ¬ ((1 : Int32) = (0 : Int32)) := by decide
                      refine own_ifNo X16 hx (hb hby at_487) ((if0 _ _).trans (feq hc487).1) (rfl : 487 + 3 = 490) ?_
                      refine own_aload X16 hx (hb hby at_490) (v := (.ref into)) rfl rfl (rfl : 490 + 2 = 492) ?_
                      refine own_bipush X16 hx (hb hby at_492) (14 : Int32) (by first | rfl | decide) (rfl : 492 + 2 = 494) ?_
                      refine own_iload X16 hx (hb hby at_494) (v := of) rfl (rfl : 494 + 2 = 496) ?_
                      refine own_iload X16 hx (hb hby at_496) (v := cn) rfl (rfl : 496 + 2 = 498) ?_
                      refine own_lload X16 hx (hb hby at_498) (v := w0) rfl (rfl : 498 + 2 = 500) ?_
                      refine own_lload X16 hx (hb hby at_500) (v := w1) rfl (rfl : 500 + 2 = 502) ?_
                      refine own_lload X16 hx (hb hby at_502) (v := w2) rfl (rfl : 502 + 2 = 504) ?_
                      obtain ⟨_, _, ⟨T17, L17, k17, n17⟩, -, X17, ⟨Lc17, hQ17, l17, y17, z17⟩, st17⟩ := Jvm.LawKit.callS X16 hx (y := (⟨"com/example/sumtide/sumtide/MagnitudesWriteBytesPinLaw", "at", "([BIIIJJJ)Z"⟩ : MethodName)) hown (mvT hZ (hw _ (List.mem_of_getElem? (i := 7) rfl))) (mvT hZ (hw _ (List.mem_of_getElem? (i := 8) rfl))) (mvT hZ (hw _ (List.mem_of_getElem? (i := 9) rfl))) (mvT hZ (hw _ (List.mem_of_getElem? (i := 10) rfl))) (by decide) (backOf (W := 0) (rm2 l Z a0 hw [] into (14 : Int32) of cn w0 w1 w2 (own_wm of cn (own_ob sg fm (ln)) own_k0 cn.toInt) 14 hJ450 n0 zJ450 fJ450_1 (⟨by decide, by decide⟩) (own_out of cn (14 : Int32) (own_ob sg fm ln) 14 bof bcn (by decide)) (fun h h' i wd sh w h1 h2 h3 h4 => own_in of cn (14 : Int32) (own_ob sg fm ln) 14 bof bcn (by decide) h h' w0 w1 w2 hw012 i wd sh h1 h2 h3 w h4)) hZ (hw _ (List.mem_of_getElem? (i := 10) rfl)) (hw _ (List.mem_of_getElem? (i := 9) rfl)) (by decide) (by decide)) (g := (mkF m 504 #[.val (.long ql), .second, .val (.long qh), .second, .val (.int pf), .val (.int po), .val (.int pc), .val (.long low), .second, .val (.long high), .second, .val (.ref am), .val (.int ze), .val (.int ng), .val (.int sg), .val (.int of), .val (.int cn), .val (.ref into), .val (.long w0), .second, .val (.long w1), .second, .val (.long w2), .second] [(.long w2), (.long w1), (.long w0), (.int cn), (.int of), (.int (14 : Int32)), (.ref into)])) rfl (by rw [hml]; rfl) (argsL := [(.ref into), (.int (14 : Int32)), (.int of), (.int cn), (.long w0), (.long w1), (.long w2)]) (rest := []) (lenOf own_pd___BIIIJJJ_Z rfl) rfl (by show 2 * 0 + _ ≤ _; exact Nat.le_of_eq rfl) (hb hby at_504) (fun _ _ => ⟨rfl, e16, (by show cJ74 + 1 + 0 ≤ 16; omega), (by show kJ74 + 28 + 0 ≤ 128; omega)⟩)
                      dsimp only [Pt.U, Pt.locs, Pt.cells, Pt.slots] at X17 l17 y17 z17 st17 hQ17
                      try simp only [Nat.add_zero] at y17 z17
                      subst l17 y17 z17
                      obtain ⟨rfl, N17q, e17⟩ := hQ17
                      have N17 := Fr.app N16 N17q
                      refine own_W.step st17 ?_
                      show own_W p e (FrameEnd s) below room_1.cells room_1.slots (Q0 Z ql qh pf po pc h0 n0) T17 (mkF m 507 #[.val (.long ql), .second, .val (.long qh), .second, .val (.int pf), .val (.int po), .val (.int pc), .val (.long low), .second, .val (.long high), .second, .val (.ref am), .val (.int ze), .val (.int ng), .val (.int sg), .val (.int of), .val (.int cn), .val (.ref into), .val (.long w0), .second, .val (.long w1), .second, .val (.long w2), .second] [(.int (1 : Int32))])
                      have hc507 : ¬ ((1 : Int32) = (0 : Int32)) := by decide
                      refine own_ifNo X17 hx (hb hby at_507) ((if0 _ _).trans (feq hc507).1) (rfl : 507 + 3 = 510) ?_
                      refine own_aload X17 hx (hb hby at_510) (v := (.ref into)) rfl rfl (rfl : 510 + 2 = 512) ?_
                      refine own_bipush X17 hx (hb hby at_512) (15 : Int32) (by first | rfl | decide) (rfl : 512 + 2 = 514) ?_
                      refine own_iload X17 hx (hb hby at_514) (v := of) rfl (rfl : 514 + 2 = 516) ?_
                      refine own_iload X17 hx (hb hby at_516) (v := cn) rfl (rfl : 516 + 2 = 518) ?_
                      refine own_lload X17 hx (hb hby at_518) (v := w0) rfl (rfl : 518 + 2 = 520) ?_
                      refine own_lload X17 hx (hb hby at_520) (v := w1) rfl (rfl : 520 + 2 = 522) ?_
                      refine own_lload X17 hx (hb hby at_522) (v := w2) rfl (rfl : 522 + 2 = 524) ?_
                      obtain ⟨_, _, ⟨T18, L18, k18, n18⟩, -, X18, ⟨Lc18, hQ18, l18, y18, z18⟩, st18⟩ := Jvm.LawKit.callS X17 hx (y := (⟨"com/example/sumtide/sumtide/MagnitudesWriteBytesPinLaw", "at", "([BIIIJJJ)Z"⟩ : MethodName)) hown (mvT hZ (hw _ (List.mem_of_getElem? (i := 7) rfl))) (mvT hZ (hw _ (List.mem_of_getElem? (i := 8) rfl))) (mvT hZ (hw _ (List.mem_of_getElem? (i := 9) rfl))) (mvT hZ (hw _ (List.mem_of_getElem? (i := 10) rfl))) (by decide) (backOf (W := 0) (rm2 l Z a0 hw [] into (15 : Int32) of cn w0 w1 w2 (own_wm of cn (own_ob sg fm (ln)) own_k0 cn.toInt) 15 hJ450 n0 zJ450 fJ450_1 (⟨by decide, by decide⟩) (own_out of cn (15 : Int32) (own_ob sg fm ln) 15 bof bcn (by decide)) (fun h h' i wd sh w h1 h2 h3 h4 => own_in of cn (15 : Int32) (own_ob sg fm ln) 15 bof bcn (by decide) h h' w0 w1 w2 hw012 i wd sh h1 h2 h3 w h4)) hZ (hw _ (List.mem_of_getElem? (i := 10) rfl)) (hw _ (List.mem_of_getElem? (i := 9) rfl)) (by decide) (by decide)) (g := (mkF m 524 #[.val (.long ql), .second, .val (.long qh), .second, .val (.int pf), .val (.int po), .val (.int pc), .val (.long low), .second, .val (.long high), .second, .val (.ref am), .val (.int ze), .val (.int ng), .val (.int sg), .val (.int of), .val (.int cn), .val (.ref into), .val (.long w0), .second, .val (.long w1), .second, .val (.long w2), .second] [(.long w2), (.long w1), (.long w0), (.int cn), (.int of), (.int (15 : Int32)), (.ref into)])) rfl (by rw [hml]; rfl) (argsL := [(.ref into), (.int (15 : Int32)), (.int of), (.int cn), (.long w0), (.long w1), (.long w2)]) (rest := []) (lenOf own_pd___BIIIJJJ_Z rfl) rfl (by show 2 * 0 + _ ≤ _; exact Nat.le_of_eq rfl) (hb hby at_524) (fun _ _ => ⟨rfl, e17, (by show cJ74 + 1 + 0 ≤ 16; omega), (by show kJ74 + 28 + 0 ≤ 128; omega)⟩)
                      dsimp only [Pt.U, Pt.locs, Pt.cells, Pt.slots] at X18 l18 y18 z18 st18 hQ18
                      try simp only [Nat.add_zero] at y18 z18
                      subst l18 y18 z18
                      obtain ⟨rfl, N18q, e18⟩ := hQ18
                      have N18 := Fr.app N17 N18q
                      refine own_W.step st18 ?_
                      show own_W p e (FrameEnd s) below room_1.cells room_1.slots (Q0 Z ql qh pf po pc h0 n0) T18 (mkF m 527 #[.val (.long ql), .second, .val (.long qh), .second, .val (.int pf), .val (.int po), .val (.int pc), .val (.long low), .second, .val (.long high), .second, .val (.ref am), .val (.int ze), .val (.int ng), .val (.int sg), .val (.int of), .val (.int cn), .val (.ref into), .val (.long w0), .second, .val (.long w1), .second, .val (.long w2), .second] [(.int (1 : Int32))])
                      have hc527 : ¬ ((1 : Int32) = (0 : Int32)) := by decide
                      refine own_ifNo X18 hx (hb hby at_527) ((if0 _ _).trans (feq hc527).1) (rfl : 527 + 3 = 530) ?_
                      exact J530 _ _ _  X18 e18 N18 zJ450 fJ450_0 fJ450_1 
                    refine own_aload XJ370 hx (hb hby at_370) (v := (.ref into)) rfl rfl (rfl : 370 + 2 = 372) ?_
                    refine own_bipush XJ370 hx (hb hby at_372) (8 : Int32) (by first | rfl | decide) (rfl : 372 + 2 = 374) ?_
                    refine own_iload XJ370 hx (hb hby at_374) (v := of) rfl (rfl : 374 + 2 = 376) ?_
                    refine own_iload XJ370 hx (hb hby at_376) (v := cn) rfl (rfl : 376 + 2 = 378) ?_
                    refine own_lload XJ370 hx (hb hby at_378) (v := w0) rfl (rfl : 378 + 2 = 380) ?_
                    refine own_lload XJ370 hx (hb hby at_380) (v := w1) rfl (rfl : 380 + 2 = 382) ?_
                    refine own_lload XJ370 hx (hb hby at_382) (v := w2) rfl (rfl : 382 + 2 = 384) ?_
                    obtain ⟨_, _, ⟨T19, L19, k19, n19⟩, -, X19, ⟨Lc19, hQ19, l19, y19, z19⟩, st19⟩ := Jvm.LawKit.callS XJ370 hx (y := (⟨"com/example/sumtide/sumtide/MagnitudesWriteBytesPinLaw", "at", "([BIIIJJJ)Z"⟩ : MethodName)) hown (mvT hZ (hw _ (List.mem_of_getElem? (i := 7) rfl))) (mvT hZ (hw _ (List.mem_of_getElem? (i := 8) rfl))) (mvT hZ (hw _ (List.mem_of_getElem? (i := 9) rfl))) (mvT hZ (hw _ (List.mem_of_getElem? (i := 10) rfl))) (by decide) (backOf (W := 0) (rm2 l Z a0 hw [] into (8 : Int32) of cn w0 w1 w2 (own_wm of cn (own_ob sg fm (ln)) own_k0 cn.toInt) 8 hJ370 n0 zJ370 fJ370_1 (⟨by decide, by decide⟩) (own_out of cn (8 : Int32) (own_ob sg fm ln) 8 bof bcn (by decide)) (fun h h' i wd sh w h1 h2 h3 h4 => own_in of cn (8 : Int32) (own_ob sg fm ln) 8 bof bcn (by decide) h h' w0 w1 w2 hw012 i wd sh h1 h2 h3 w h4)) hZ (hw _ (List.mem_of_getElem? (i := 10) rfl)) (hw _ (List.mem_of_getElem? (i := 9) rfl)) (by decide) (by decide)) (g := (mkF m 384 #[.val (.long ql), .second, .val (.long qh), .second, .val (.int pf), .val (.int po), .val (.int pc), .val (.long low), .second, .val (.long high), .second, .val (.ref am), .val (.int ze), .val (.int ng), .val (.int sg), .val (.int of), .val (.int cn), .val (.ref into), .val (.long w0), .second, .val (.long w1), .second, .val (.long w2), .second] [(.long w2), (.long w1), (.long w0), (.int cn), (.int of), (.int (8 : Int32)), (.ref into)])) rfl (by rw [hml]; rfl) (argsL := [(.ref into), (.int (8 : Int32)), (.int of), (.int cn), (.long w0), (.long w1), (.long w2)]) (rest := []) (lenOf own_pd___BIIIJJJ_Z rfl) rfl (by show 2 * 0 + _ ≤ _; exact Nat.le_of_eq rfl) (hb hby at_384) (fun _ _ => ⟨rfl, eJ370, (by show cJ74 + 1 + 0 ≤ 16; omega), (by show kJ74 + 28 + 0 ≤ 128; omega)⟩)
                    dsimp only [Pt.U, Pt.locs, Pt.cells, Pt.slots] at X19 l19 y19 z19 st19 hQ19
                    try simp only [Nat.add_zero] at y19 z19
                    subst l19 y19 z19
                    obtain ⟨rfl, N19q, e19⟩ := hQ19
                    have N19 := Fr.app NJ370 N19q
                    refine own_W.step st19 ?_
                    show own_W p e (FrameEnd s) below room_1.cells room_1.slots (Q0 Z ql qh pf po pc h0 n0) T19 (mkF m 387 #[.val (.long ql), .second, .val (.long qh), .second, .val (.int pf), .val (.int po), .val (.int pc), .val (.long low), .second, .val (.long high), .second, .val (.ref am), .val (.int ze), .val (.int ng), .val (.int sg), .val (.int of), .val (.int cn), .val (.ref into), .val (.long w0), .second, .val (.long w1), .second, .val (.long w2), .second] [(.int (1 : Int32))])
                    have hc387 : ¬ ((1 : Int32) = (0 : Int32)) := by decide
                    refine own_ifNo X19 hx (hb hby at_387) ((if0 _ _).trans (feq hc387).1) (rfl : 387 + 3 = 390) ?_
                    refine own_aload X19 hx (hb hby at_390) (v := (.ref into)) rfl rfl (rfl : 390 + 2 = 392) ?_
                    refine own_bipush X19 hx (hb hby at_392) (9 : Int32) (by first | rfl | decide) (rfl : 392 + 2 = 394) ?_
                    refine own_iload X19 hx (hb hby at_394) (v := of) rfl (rfl : 394 + 2 = 396) ?_
                    refine own_iload X19 hx (hb hby at_396) (v := cn) rfl (rfl : 396 + 2 = 398) ?_
                    refine own_lload X19 hx (hb hby at_398) (v := w0) rfl (rfl : 398 + 2 = 400) ?_
                    refine own_lload X19 hx (hb hby at_400) (v := w1) rfl (rfl : 400 + 2 = 402) ?_
                    refine own_lload X19 hx (hb hby at_402) (v := w2) rfl (rfl : 402 + 2 = 404) ?_
                    obtain ⟨_, _, ⟨T20, L20, k20, n20⟩, -, X20, ⟨Lc20, hQ20, l20, y20, z20⟩, st20⟩ := Jvm.LawKit.callS X19 hx (y := (⟨"com/example/sumtide/sumtide/MagnitudesWriteBytesPinLaw", "at", "([BIIIJJJ)Z"⟩ : MethodName)) hown (mvT hZ (hw _ (List.mem_of_getElem? (i := 7) rfl))) (mvT hZ (hw _ (List.mem_of_getElem? (i := 8) rfl))) (mvT hZ (hw _ (List.mem_of_getElem? (i := 9) rfl))) (mvT hZ (hw _ (List.mem_of_getElem? (i := 10) rfl))) (by decide) (backOf (W := 0) (rm2 l Z a0 hw [] into (9 : Int32) of cn w0 w1 w2 (own_wm of cn (own_ob sg fm (ln)) own_k0 cn.toInt) 9 hJ370 n0 zJ370 fJ370_1 (⟨by decide, by decide⟩) (own_out of cn (9 : Int32) (own_ob sg fm ln) 9 bof bcn (by decide)) (fun h h' i wd sh w h1 h2 h3 h4 => own_in of cn (9 : Int32) (own_ob sg fm ln) 9 bof bcn (by decide) h h' w0 w1 w2 hw012 i wd sh h1 h2 h3 w h4)) hZ (hw _ (List.mem_of_getElem? (i := 10) rfl)) (hw _ (List.mem_of_getElem? (i := 9) rfl)) (by decide) (by decide)) (g := (mkF m 404 #[.val (.long ql), .second, .val (.long qh), .second, .val (.int pf), .val (.int po), .val (.int pc), .val (.long low), .second, .val (.long high), .second, .val (.ref am), .val (.int ze), .val (.int ng), .val (.int sg), .val (.int of), .val (.int cn), .val (.ref into), .val (.long w0), .second, .val (.long w1), .second, .val (.long w2), .second] [(.long w2), (.long w1), (.long w0), (.int cn), (.int of), (.int (9 : Int32)), (.ref into)])) rfl (by rw [hml]; rfl) (argsL := [(.ref into), (.int (9 : Int32)), (.int of), (.int cn), (.long w0), (.long w1), (.long w2)]) (rest := []) (lenOf own_pd___BIIIJJJ_Z rfl) rfl (by show 2 * 0 + _ ≤ _; exact Nat.le_of_eq rfl) (hb hby at_404) (fun _ _ => ⟨rfl, e19, (by show cJ74 + 1 + 0 ≤ 16; omega), (by show kJ74 + 28 + 0 ≤ 128; omega)⟩)
                    dsimp only [Pt.U, Pt.locs, Pt.cells, Pt.slots] at X20 l20 y20 z20 st20 hQ20
                    try simp only [Nat.add_zero] at y20 z20
                    subst l20 y20 z20
                    obtain ⟨rfl, N20q, e20⟩ := hQ20
                    have N20 := Fr.app N19 N20q
                    refine own_W.step st20 ?_
                    show own_W p e (FrameEnd s) below room_1.cells room_1.slots (Q0 Z ql qh pf po pc h0 n0) T20 (mkF m 407 #[.val (.long ql), .second, .val (.long qh), .second, .val (.int pf), .val (.int po), .val (.int pc), .val (.long low), .second, .val (.long high), .second, .val (.ref am), .val (.int ze), .val (.int ng), .val (.int sg), .val (.int of), .val (.int cn), .val (.ref into), .val (.long w0), .second, .val (.long w1), .second, .val (.long w2), .second] [(.int (1 : Int32))])
                    have hc407 : ¬ ((1 : Int32) = (0 : Int32)) := by decide
                    refine own_ifNo X20 hx (hb hby at_407) ((if0 _ _).trans (feq hc407).1) (rfl : 407 + 3 = 410) ?_
                    refine own_aload X20 hx (hb hby at_410) (v := (.ref into)) rfl rfl (rfl : 410 + 2 = 412) ?_
                    refine own_bipush X20 hx (hb hby at_412) (10 : Int32) (by first | rfl | decide) (rfl : 412 + 2 = 414) ?_
                    refine own_iload X20 hx (hb hby at_414) (v := of) rfl (rfl : 414 + 2 = 416) ?_
                    refine own_iload X20 hx (hb hby at_416) (v := cn) rfl (rfl : 416 + 2 = 418) ?_
                    refine own_lload X20 hx (hb hby at_418) (v := w0) rfl (rfl : 418 + 2 = 420) ?_
                    refine own_lload X20 hx (hb hby at_420) (v := w1) rfl (rfl : 420 + 2 = 422) ?_
                    refine own_lload X20 hx (hb hby at_422) (v := w2) rfl (rfl : 422 + 2 = 424) ?_
                    obtain ⟨_, _, ⟨T21, L21, k21, n21⟩, -, X21, ⟨Lc21, hQ21, l21, y21, z21⟩, st21⟩ := Jvm.LawKit.callS X20 hx (y := (⟨"com/example/sumtide/sumtide/MagnitudesWriteBytesPinLaw", "at", "([BIIIJJJ)Z"⟩ : MethodName)) hown (mvT hZ (hw _ (List.mem_of_getElem? (i := 7) rfl))) (mvT hZ (hw _ (List.mem_of_getElem? (i := 8) rfl))) (mvT hZ (hw _ (List.mem_of_getElem? (i := 9) rfl))) (mvT hZ (hw _ (List.mem_of_getElem? (i := 10) rfl))) (by decide) (backOf (W := 0) (rm2 l Z a0 hw [] into (10 : Int32) of cn w0 w1 w2 (own_wm of cn (own_ob sg fm (ln)) own_k0 cn.toInt) 10 hJ370 n0 zJ370 fJ370_1 (⟨by decide, by decide⟩) (own_out of cn (10 : Int32) (own_ob sg fm ln) 10 bof bcn (by decide)) (fun h h' i wd sh w h1 h2 h3 h4 => own_in of cn (10 : Int32) (own_ob sg fm ln) 10 bof bcn (by decide) h h' w0 w1 w2 hw012 i wd sh h1 h2 h3 w h4)) hZ (hw _ (List.mem_of_getElem? (i := 10) rfl)) (hw _ (List.mem_of_getElem? (i := 9) rfl)) (by decide) (by decide)) (g := (mkF m 424 #[.val (.long ql), .second, .val (.long qh), .second, .val (.int pf), .val (.int po), .val (.int pc), .val (.long low), .second, .val (.long high), .second, .val (.ref am), .val (.int ze), .val (.int ng), .val (.int sg), .val (.int of), .val (.int cn), .val (.ref into), .val (.long w0), .second, .val (.long w1), .second, .val (.long w2), .second] [(.long w2), (.long w1), (.long w0), (.int cn), (.int of), (.int (10 : Int32)), (.ref into)])) rfl (by rw [hml]; rfl) (argsL := [(.ref into), (.int (10 : Int32)), (.int of), (.int cn), (.long w0), (.long w1), (.long w2)]) (rest := []) (lenOf own_pd___BIIIJJJ_Z rfl) rfl (by show 2 * 0 + _ ≤ _; exact Nat.le_of_eq rfl) (hb hby at_424) (fun _ _ => ⟨rfl, e20, (by show cJ74 + 1 + 0 ≤ 16; omega), (by show kJ74 + 28 + 0 ≤ 128; omega)⟩)
                    dsimp only [Pt.U, Pt.locs, Pt.cells, Pt.slots] at X21 l21 y21 z21 st21 hQ21
                    try simp only [Nat.add_zero] at y21 z21
                    subst l21 y21 z21
                    obtain ⟨rfl, N21q, e21⟩ := hQ21
                    have N21 := Fr.app N20 N21q
                    refine own_W.step st21 ?_
                    show own_W p e (FrameEnd s) below room_1.cells room_1.slots (Q0 Z ql qh pf po pc h0 n0) T21 (mkF m 427 #[.val (.long ql), .second, .val (.long qh), .second, .val (.int pf), .val (.int po), .val (.int pc), .val (.long low), .second, .val (.long high), .second, .val (.ref am), .val (.int ze), .val (.int ng), .val (.int sg), .val (.int of), .val (.int cn), .val (.ref into), .val (.long w0), .second, .val (.long w1), .second, .val (.long w2), .second] [(.int (1 : Int32))])
                    have hc427 : ¬ ((1 : Int32) = (0 : Int32)) := by decide
                    refine own_ifNo X21 hx (hb hby at_427) ((if0 _ _).trans (feq hc427).1) (rfl : 427 + 3 = 430) ?_
                    refine own_aload X21 hx (hb hby at_430) (v := (.ref into)) rfl rfl (rfl : 430 + 2 = 432) ?_
                    refine own_bipush X21 hx (hb hby at_432) (11 : Int32) (by first | rfl | decide) (rfl : 432 + 2 = 434) ?_
                    refine own_iload X21 hx (hb hby at_434) (v := of) rfl (rfl : 434 + 2 = 436) ?_
                    refine own_iload X21 hx (hb hby at_436) (v := cn) rfl (rfl : 436 + 2 = 438) ?_
                    refine own_lload X21 hx (hb hby at_438) (v := w0) rfl (rfl : 438 + 2 = 440) ?_
                    refine own_lload X21 hx (hb hby at_440) (v := w1) rfl (rfl : 440 + 2 = 442) ?_
                    refine own_lload X21 hx (hb hby at_442) (v := w2) rfl (rfl : 442 + 2 = 444) ?_
                    obtain ⟨_, _, ⟨T22, L22, k22, n22⟩, -, X22, ⟨Lc22, hQ22, l22, y22, z22⟩, st22⟩ := Jvm.LawKit.callS X21 hx (y := (⟨"com/example/sumtide/sumtide/MagnitudesWriteBytesPinLaw", "at", "([BIIIJJJ)Z"⟩ : MethodName)) hown (mvT hZ (hw _ (List.mem_of_getElem? (i := 7) rfl))) (mvT hZ (hw _ (List.mem_of_getElem? (i := 8) rfl))) (mvT hZ (hw _ (List.mem_of_getElem? (i := 9) rfl))) (mvT hZ (hw _ (List.mem_of_getElem? (i := 10) rfl))) (by decide) (backOf (W := 0) (rm2 l Z a0 hw [] into (11 : Int32) of cn w0 w1 w2 (own_wm of cn (own_ob sg fm (ln)) own_k0 cn.toInt) 11 hJ370 n0 zJ370 fJ370_1 (⟨by decide, by decide⟩) (own_out of cn (11 : Int32) (own_ob sg fm ln) 11 bof bcn (by decide)) (fun h h' i wd sh w h1 h2 h3 h4 => own_in of cn (11 : Int32) (own_ob sg fm ln) 11 bof bcn (by decide) h h' w0 w1 w2 hw012 i wd sh h1 h2 h3 w h4)) hZ (hw _ (List.mem_of_getElem? (i := 10) rfl)) (hw _ (List.mem_of_getElem? (i := 9) rfl)) (by decide) (by decide)) (g := (mkF m 444 #[.val (.long ql), .second, .val (.long qh), .second, .val (.int pf), .val (.int po), .val (.int pc), .val (.long low), .second, .val (.long high), .second, .val (.ref am), .val (.int ze), .val (.int ng), .val (.int sg), .val (.int of), .val (.int cn), .val (.ref into), .val (.long w0), .second, .val (.long w1), .second, .val (.long w2), .second] [(.long w2), (.long w1), (.long w0), (.int cn), (.int of), (.int (11 : Int32)), (.ref into)])) rfl (by rw [hml]; rfl) (argsL := [(.ref into), (.int (11 : Int32)), (.int of), (.int cn), (.long w0), (.long w1), (.long w2)]) (rest := []) (lenOf own_pd___BIIIJJJ_Z rfl) rfl (by show 2 * 0 + _ ≤ _; exact Nat.le_of_eq rfl) (hb hby at_444) (fun _ _ => ⟨rfl, e21, (by show cJ74 + 1 + 0 ≤ 16; omega), (by show kJ74 + 28 + 0 ≤ 128; omega)⟩)
                    dsimp only [Pt.U, Pt.locs, Pt.cells, Pt.slots] at X22 l22 y22 z22 st22 hQ22
                    try simp only [Nat.add_zero] at y22 z22
                    subst l22 y22 z22
                    obtain ⟨rfl, N22q, e22⟩ := hQ22
                    have N22 := Fr.app N21 N22q
                    refine own_W.step st22 ?_
                    show own_W p e (FrameEnd s) below room_1.cells room_1.slots (Q0 Z ql qh pf po pc h0 n0) T22 (mkF m 447 #[.val (.long ql), .second, .val (.long qh), .second, .val (.int pf), .val (.int po), .val (.int pc), .val (.long low), .second, .val (.long high), .second, .val (.ref am), .val (.int ze), .val (.int ng), .val (.int sg), .val (.int of), .val (.int cn), .val (.ref into), .val (.long w0), .second, .val (.long w1), .second, .val (.long w2), .second] [(.int (1 : Int32))])
                    have hc447 : ¬ ((1 : Int32) = (0 : Int32)) := by decide
                    refine own_ifNo X22 hx (hb hby at_447) ((if0 _ _).trans (feq hc447).1) (rfl : 447 + 3 = 450) ?_
                    exact J450 _ _ _  X22 e22 N22 zJ370 fJ370_0 fJ370_1 
                  refine own_aload XJ292 hx (hb hby at_292) (v := (.ref into)) rfl rfl (rfl : 292 + 2 = 294) ?_
                  refine own_iconst XJ292 hx (hb hby at_294) (4 : Int32) (by first | rfl | decide) (rfl : 294 + 1 = 295) ?_
                  refine own_iload XJ292 hx (hb hby at_295) (v := of) rfl (rfl : 295 + 2 = 297) ?_
                  refine own_iload XJ292 hx (hb hby at_297) (v := cn) rfl (rfl : 297 + 2 = 299) ?_
                  refine own_lload XJ292 hx (hb hby at_299) (v := w0) rfl (rfl : 299 + 2 = 301) ?_
                  refine own_lload XJ292 hx (hb hby at_301) (v := w1) rfl (rfl : 301 + 2 = 303) ?_
                  refine own_lload XJ292 hx (hb hby at_303) (v := w2) rfl (rfl : 303 + 2 = 305) ?_
                  obtain ⟨_, _, ⟨T23, L23, k23, n23⟩, -, X23, ⟨Lc23, hQ23, l23, y23, z23⟩, st23⟩ := Jvm.LawKit.callS XJ292 hx (y := (⟨"com/example/sumtide/sumtide/MagnitudesWriteBytesPinLaw", "at", "([BIIIJJJ)Z"⟩ : MethodName)) hown (mvT hZ (hw _ (List.mem_of_getElem? (i := 7) rfl))) (mvT hZ (hw _ (List.mem_of_getElem? (i := 8) rfl))) (mvT hZ (hw _ (List.mem_of_getElem? (i := 9) rfl))) (mvT hZ (hw _ (List.mem_of_getElem? (i := 10) rfl))) (by decide) (backOf (W := 0) (rm2 l Z a0 hw [] into (4 : Int32) of cn w0 w1 w2 (own_wm of cn (own_ob sg fm (ln)) own_k0 cn.toInt) 4 hJ292 n0 zJ292 fJ292_1 (⟨by decide, by decide⟩) (own_out of cn (4 : Int32) (own_ob sg fm ln) 4 bof bcn (by decide)) (fun h h' i wd sh w h1 h2 h3 h4 => own_in of cn (4 : Int32) (own_ob sg fm ln) 4 bof bcn (by decide) h h' w0 w1 w2 hw012 i wd sh h1 h2 h3 w h4)) hZ (hw _ (List.mem_of_getElem? (i := 10) rfl)) (hw _ (List.mem_of_getElem? (i := 9) rfl)) (by decide) (by decide)) (g := (mkF m 305 #[.val (.long ql), .second, .val (.long qh), .second, .val (.int pf), .val (.int po), .val (.int pc), .val (.long low), .second, .val (.long high), .second, .val (.ref am), .val (.int ze), .val (.int ng), .val (.int sg), .val (.int of), .val (.int cn), .val (.ref into), .val (.long w0), .second, .val (.long w1), .second, .val (.long w2), .second] [(.long w2), (.long w1), (.long w0), (.int cn), (.int of), (.int (4 : Int32)), (.ref into)])) rfl (by rw [hml]; rfl) (argsL := [(.ref into), (.int (4 : Int32)), (.int of), (.int cn), (.long w0), (.long w1), (.long w2)]) (rest := []) (lenOf own_pd___BIIIJJJ_Z rfl) rfl (by show 2 * 0 + _ ≤ _; exact Nat.le_of_eq rfl) (hb hby at_305) (fun _ _ => ⟨rfl, eJ292, (by show cJ74 + 1 + 0 ≤ 16; omega), (by show kJ74 + 28 + 0 ≤ 128; omega)⟩)
                  dsimp only [Pt.U, Pt.locs, Pt.cells, Pt.slots] at X23 l23 y23 z23 st23 hQ23
                  try simp only [Nat.add_zero] at y23 z23
                  subst l23 y23 z23
                  obtain ⟨rfl, N23q, e23⟩ := hQ23
                  have N23 := Fr.app NJ292 N23q
                  refine own_W.step st23 ?_
                  show own_W p e (FrameEnd s) below room_1.cells room_1.slots (Q0 Z ql qh pf po pc h0 n0) T23 (mkF m 308 #[.val (.long ql), .second, .val (.long qh), .second, .val (.int pf), .val (.int po), .val (.int pc), .val (.long low), .second, .val (.long high), .second, .val (.ref am), .val (.int ze), .val (.int ng), .val (.int sg), .val (.int of), .val (.int cn), .val (.ref into), .val (.long w0), .second, .val (.long w1), .second, .val (.long w2), .second] [(.int (1 : Int32))])
                  have hc308 : ¬ ((1 : Int32) = (0 : Int32)) := by decide
                  refine own_ifNo X23 hx (hb hby at_308) ((if0 _ _).trans (feq hc308).1) (rfl : 308 + 3 = 311) ?_
                  refine own_aload X23 hx (hb hby at_311) (v := (.ref into)) rfl rfl (rfl : 311 + 2 = 313) ?_
                  refine own_iconst X23 hx (hb hby at_313) (5 : Int32) (by first | rfl | decide) (rfl : 313 + 1 = 314) ?_
                  refine own_iload X23 hx (hb hby at_314) (v := of) rfl (rfl : 314 + 2 = 316) ?_
                  refine own_iload X23 hx (hb hby at_316) (v := cn) rfl (rfl : 316 + 2 = 318) ?_
                  refine own_lload X23 hx (hb hby at_318) (v := w0) rfl (rfl : 318 + 2 = 320) ?_
                  refine own_lload X23 hx (hb hby at_320) (v := w1) rfl (rfl : 320 + 2 = 322) ?_
                  refine own_lload X23 hx (hb hby at_322) (v := w2) rfl (rfl : 322 + 2 = 324) ?_
                  obtain ⟨_, _, ⟨T24, L24, k24, n24⟩, -, X24, ⟨Lc24, hQ24, l24, y24, z24⟩, st24⟩ := Jvm.LawKit.callS X23 hx (y := (⟨"com/example/sumtide/sumtide/MagnitudesWriteBytesPinLaw", "at", "([BIIIJJJ)Z"⟩ : MethodName)) hown (mvT hZ (hw _ (List.mem_of_getElem? (i := 7) rfl))) (mvT hZ (hw _ (List.mem_of_getElem? (i := 8) rfl))) (mvT hZ (hw _ (List.mem_of_getElem? (i := 9) rfl))) (mvT hZ (hw _ (List.mem_of_getElem? (i := 10) rfl))) (by decide) (backOf (W := 0) (rm2 l Z a0 hw [] into (5 : Int32) of cn w0 w1 w2 (own_wm of cn (own_ob sg fm (ln)) own_k0 cn.toInt) 5 hJ292 n0 zJ292 fJ292_1 (⟨by decide, by decide⟩) (own_out of cn (5 : Int32) (own_ob sg fm ln) 5 bof bcn (by decide)) (fun h h' i wd sh w h1 h2 h3 h4 => own_in of cn (5 : Int32) (own_ob sg fm ln) 5 bof bcn (by decide) h h' w0 w1 w2 hw012 i wd sh h1 h2 h3 w h4)) hZ (hw _ (List.mem_of_getElem? (i := 10) rfl)) (hw _ (List.mem_of_getElem? (i := 9) rfl)) (by decide) (by decide)) (g := (mkF m 324 #[.val (.long ql), .second, .val (.long qh), .second, .val (.int pf), .val (.int po), .val (.int pc), .val (.long low), .second, .val (.long high), .second, .val (.ref am), .val (.int ze), .val (.int ng), .val (.int sg), .val (.int of), .val (.int cn), .val (.ref into), .val (.long w0), .second, .val (.long w1), .second, .val (.long w2), .second] [(.long w2), (.long w1), (.long w0), (.int cn), (.int of), (.int (5 : Int32)), (.ref into)])) rfl (by rw [hml]; rfl) (argsL := [(.ref into), (.int (5 : Int32)), (.int of), (.int cn), (.long w0), (.long w1), (.long w2)]) (rest := []) (lenOf own_pd___BIIIJJJ_Z rfl) rfl (by show 2 * 0 + _ ≤ _; exact Nat.le_of_eq rfl) (hb hby at_324) (fun _ _ => ⟨rfl, e23, (by show cJ74 + 1 + 0 ≤ 16; omega), (by show kJ74 + 28 + 0 ≤ 128; omega)⟩)
                  dsimp only [Pt.U, Pt.locs, Pt.cells, Pt.slots] at X24 l24 y24 z24 st24 hQ24
                  try simp only [Nat.add_zero] at y24 z24
                  subst l24 y24 z24
                  obtain ⟨rfl, N24q, e24⟩ := hQ24
                  have N24 := Fr.app N23 N24q
                  refine own_W.step st24 ?_
                  show own_W p e (FrameEnd s) below room_1.cells room_1.slots (Q0 Z ql qh pf po pc h0 n0) T24 (mkF m 327 #[.val (.long ql), .second, .val (.long qh), .second, .val (.int pf), .val (.int po), .val (.int pc), .val (.long low), .second, .val (.long high), .second, .val (.ref am), .val (.int ze), .val (.int ng), .val (.int sg), .val (.int of), .val (.int cn), .val (.ref into), .val (.long w0), .second, .val (.long w1), .second, .val (.long w2), .second] [(.int (1 : Int32))])
                  have hc327 : ¬ ((1 : Int32) = (0 : Int32)) := by decide
                  refine own_ifNo X24 hx (hb hby at_327) ((if0 _ _).trans (feq hc327).1) (rfl : 327 + 3 = 330) ?_
                  refine own_aload X24 hx (hb hby at_330) (v := (.ref into)) rfl rfl (rfl : 330 + 2 = 332) ?_
                  refine own_bipush X24 hx (hb hby at_332) (6 : Int32) (by first | rfl | decide) (rfl : 332 + 2 = 334) ?_
                  refine own_iload X24 hx (hb hby at_334) (v := of) rfl (rfl : 334 + 2 = 336) ?_
                  refine own_iload X24 hx (hb hby at_336) (v := cn) rfl (rfl : 336 + 2 = 338) ?_
                  refine own_lload X24 hx (hb hby at_338) (v := w0) rfl (rfl : 338 + 2 = 340) ?_
                  refine own_lload X24 hx (hb hby at_340) (v := w1) rfl (rfl : 340 + 2 = 342) ?_
                  refine own_lload X24 hx (hb hby at_342) (v := w2) rfl (rfl : 342 + 2 = 344) ?_
                  obtain ⟨_, _, ⟨T25, L25, k25, n25⟩, -, X25, ⟨Lc25, hQ25, l25, y25, z25⟩, st25⟩ := Jvm.LawKit.callS X24 hx (y := (⟨"com/example/sumtide/sumtide/MagnitudesWriteBytesPinLaw", "at", "([BIIIJJJ)Z"⟩ : MethodName)) hown (mvT hZ (hw _ (List.mem_of_getElem? (i := 7) rfl))) (mvT hZ (hw _ (List.mem_of_getElem? (i := 8) rfl))) (mvT hZ (hw _ (List.mem_of_getElem? (i := 9) rfl))) (mvT hZ (hw _ (List.mem_of_getElem? (i := 10) rfl))) (by decide) (backOf (W := 0) (rm2 l Z a0 hw [] into (6 : Int32) of cn w0 w1 w2 (own_wm of cn (own_ob sg fm (ln)) own_k0 cn.toInt) 6 hJ292 n0 zJ292 fJ292_1 (⟨by decide, by decide⟩) (own_out of cn (6 : Int32) (own_ob sg fm ln) 6 bof bcn (by decide)) (fun h h' i wd sh w h1 h2 h3 h4 => own_in of cn (6 : Int32) (own_ob sg fm ln) 6 bof bcn (by decide) h h' w0 w1 w2 hw012 i wd sh h1 h2 h3 w h4)) hZ (hw _ (List.mem_of_getElem? (i := 10) rfl)) (hw _ (List.mem_of_getElem? (i := 9) rfl)) (by decide) (by decide)) (g := (mkF m 344 #[.val (.long ql), .second, .val (.long qh), .second, .val (.int pf), .val (.int po), .val (.int pc), .val (.long low), .second, .val (.long high), .second, .val (.ref am), .val (.int ze), .val (.int ng), .val (.int sg), .val (.int of), .val (.int cn), .val (.ref into), .val (.long w0), .second, .val (.long w1), .second, .val (.long w2), .second] [(.long w2), (.long w1), (.long w0), (.int cn), (.int of), (.int (6 : Int32)), (.ref into)])) rfl (by rw [hml]; rfl) (argsL := [(.ref into), (.int (6 : Int32)), (.int of), (.int cn), (.long w0), (.long w1), (.long w2)]) (rest := []) (lenOf own_pd___BIIIJJJ_Z rfl) rfl (by show 2 * 0 + _ ≤ _; exact Nat.le_of_eq rfl) (hb hby at_344) (fun _ _ => ⟨rfl, e24, (by show cJ74 + 1 + 0 ≤ 16; omega), (by show kJ74 + 28 + 0 ≤ 128; omega)⟩)
                  dsimp only [Pt.U, Pt.locs, Pt.cells, Pt.slots] at X25 l25 y25 z25 st25 hQ25
                  try simp only [Nat.add_zero] at y25 z25
                  subst l25 y25 z25
                  obtain ⟨rfl, N25q, e25⟩ := hQ25
                  have N25 := Fr.app N24 N25q
                  refine own_W.step st25 ?_
                  show own_W p e (FrameEnd s) below room_1.cells room_1.slots (Q0 Z ql qh pf po pc h0 n0) T25 (mkF m 347 #[.val (.long ql), .second, .val (.long qh), .second, .val (.int pf), .val (.int po), .val (.int pc), .val (.long low), .second, .val (.long high), .second, .val (.ref am), .val (.int ze), .val (.int ng), .val (.int sg), .val (.int of), .val (.int cn), .val (.ref into), .val (.long w0), .second, .val (.long w1), .second, .val (.long w2), .second] [(.int (1 : Int32))])
                  have hc347 : ¬ ((1 : Int32) = (0 : Int32)) := by decide
                  refine own_ifNo X25 hx (hb hby at_347) ((if0 _ _).trans (feq hc347).1) (rfl : 347 + 3 = 350) ?_
                  refine own_aload X25 hx (hb hby at_350) (v := (.ref into)) rfl rfl (rfl : 350 + 2 = 352) ?_
                  refine own_bipush X25 hx (hb hby at_352) (7 : Int32) (by first | rfl | decide) (rfl : 352 + 2 = 354) ?_
                  refine own_iload X25 hx (hb hby at_354) (v := of) rfl (rfl : 354 + 2 = 356) ?_
                  refine own_iload X25 hx (hb hby at_356) (v := cn) rfl (rfl : 356 + 2 = 358) ?_
                  refine own_lload X25 hx (hb hby at_358) (v := w0) rfl (rfl : 358 + 2 = 360) ?_
                  refine own_lload X25 hx (hb hby at_360) (v := w1) rfl (rfl : 360 + 2 = 362) ?_
                  refine own_lload X25 hx (hb hby at_362) (v := w2) rfl (rfl : 362 + 2 = 364) ?_
                  obtain ⟨_, _, ⟨T26, L26, k26, n26⟩, -, X26, ⟨Lc26, hQ26, l26, y26, z26⟩, st26⟩ := Jvm.LawKit.callS X25 hx (y := (⟨"com/example/sumtide/sumtide/MagnitudesWriteBytesPinLaw", "at", "([BIIIJJJ)Z"⟩ : MethodName)) hown (mvT hZ (hw _ (List.mem_of_getElem? (i := 7) rfl))) (mvT hZ (hw _ (List.mem_of_getElem? (i := 8) rfl))) (mvT hZ (hw _ (List.mem_of_getElem? (i := 9) rfl))) (mvT hZ (hw _ (List.mem_of_getElem? (i := 10) rfl))) (by decide) (backOf (W := 0) (rm2 l Z a0 hw [] into (7 : Int32) of cn w0 w1 w2 (own_wm of cn (own_ob sg fm (ln)) own_k0 cn.toInt) 7 hJ292 n0 zJ292 fJ292_1 (⟨by decide, by decide⟩) (own_out of cn (7 : Int32) (own_ob sg fm ln) 7 bof bcn (by decide)) (fun h h' i wd sh w h1 h2 h3 h4 => own_in of cn (7 : Int32) (own_ob sg fm ln) 7 bof bcn (by decide) h h' w0 w1 w2 hw012 i wd sh h1 h2 h3 w h4)) hZ (hw _ (List.mem_of_getElem? (i := 10) rfl)) (hw _ (List.mem_of_getElem? (i := 9) rfl)) (by decide) (by decide)) (g := (mkF m 364 #[.val (.long ql), .second, .val (.long qh), .second, .val (.int pf), .val (.int po), .val (.int pc), .val (.long low), .second, .val (.long high), .second, .val (.ref am), .val (.int ze), .val (.int ng), .val (.int sg), .val (.int of), .val (.int cn), .val (.ref into), .val (.long w0), .second, .val (.long w1), .second, .val (.long w2), .second] [(.long w2), (.long w1), (.long w0), (.int cn), (.int of), (.int (7 : Int32)), (.ref into)])) rfl (by rw [hml]; rfl) (argsL := [(.ref into), (.int (7 : Int32)), (.int of), (.int cn), (.long w0), (.long w1), (.long w2)]) (rest := []) (lenOf own_pd___BIIIJJJ_Z rfl) rfl (by show 2 * 0 + _ ≤ _; exact Nat.le_of_eq rfl) (hb hby at_364) (fun _ _ => ⟨rfl, e25, (by show cJ74 + 1 + 0 ≤ 16; omega), (by show kJ74 + 28 + 0 ≤ 128; omega)⟩)
                  dsimp only [Pt.U, Pt.locs, Pt.cells, Pt.slots] at X26 l26 y26 z26 st26 hQ26
                  try simp only [Nat.add_zero] at y26 z26
                  subst l26 y26 z26
                  obtain ⟨rfl, N26q, e26⟩ := hQ26
                  have N26 := Fr.app N25 N26q
                  refine own_W.step st26 ?_
                  show own_W p e (FrameEnd s) below room_1.cells room_1.slots (Q0 Z ql qh pf po pc h0 n0) T26 (mkF m 367 #[.val (.long ql), .second, .val (.long qh), .second, .val (.int pf), .val (.int po), .val (.int pc), .val (.long low), .second, .val (.long high), .second, .val (.ref am), .val (.int ze), .val (.int ng), .val (.int sg), .val (.int of), .val (.int cn), .val (.ref into), .val (.long w0), .second, .val (.long w1), .second, .val (.long w2), .second] [(.int (1 : Int32))])
                  have hc367 : ¬ ((1 : Int32) = (0 : Int32)) := by decide
                  refine own_ifNo X26 hx (hb hby at_367) ((if0 _ _).trans (feq hc367).1) (rfl : 367 + 3 = 370) ?_
                  exact J370 _ _ _  X26 e26 N26 zJ292 fJ292_0 fJ292_1 
                refine own_aload X2 hx (hb hby at_216) (v := (.ref into)) rfl rfl (rfl : 216 + 2 = 218) ?_
                refine own_iconst X2 hx (hb hby at_218) (0 : Int32) (by first | rfl | decide) (rfl : 218 + 1 = 219) ?_
                refine own_iload X2 hx (hb hby at_219) (v := of) rfl (rfl : 219 + 2 = 221) ?_
                refine own_iload X2 hx (hb hby at_221) (v := cn) rfl (rfl : 221 + 2 = 223) ?_
                refine own_lload X2 hx (hb hby at_223) (v := w0) rfl (rfl : 223 + 2 = 225) ?_
                refine own_lload X2 hx (hb hby at_225) (v := w1) rfl (rfl : 225 + 2 = 227) ?_
                refine own_lload X2 hx (hb hby at_227) (v := w2) rfl (rfl : 227 + 2 = 229) ?_
                obtain ⟨_, _, ⟨T27, L27, k27, n27⟩, -, X27, ⟨Lc27, hQ27, l27, y27, z27⟩, st27⟩ := Jvm.LawKit.callS X2 hx (y := (⟨"com/example/sumtide/sumtide/MagnitudesWriteBytesPinLaw", "at", "([BIIIJJJ)Z"⟩ : MethodName)) hown (mvT hZ (hw _ (List.mem_of_getElem? (i := 7) rfl))) (mvT hZ (hw _ (List.mem_of_getElem? (i := 8) rfl))) (mvT hZ (hw _ (List.mem_of_getElem? (i := 9) rfl))) (mvT hZ (hw _ (List.mem_of_getElem? (i := 10) rfl))) (by decide) (backOf (W := 0) (rm2 l Z a0 hw [] into (0 : Int32) of cn w0 w1 w2 (own_wm of cn (own_ob sg fm (ln)) own_k0 cn.toInt) 0 T2.heap n0 z2c fq2_0 (⟨by decide, by decide⟩) (own_out of cn (0 : Int32) (own_ob sg fm ln) 0 bof bcn (by decide)) (fun h h' i wd sh w h1 h2 h3 h4 => own_in of cn (0 : Int32) (own_ob sg fm ln) 0 bof bcn (by decide) h h' w0 w1 w2 hw012 i wd sh h1 h2 h3 w h4)) hZ (hw _ (List.mem_of_getElem? (i := 10) rfl)) (hw _ (List.mem_of_getElem? (i := 9) rfl)) (by decide) (by decide)) (g := (mkF m 229 #[.val (.long ql), .second, .val (.long qh), .second, .val (.int pf), .val (.int po), .val (.int pc), .val (.long low), .second, .val (.long high), .second, .val (.ref am), .val (.int ze), .val (.int ng), .val (.int sg), .val (.int of), .val (.int cn), .val (.ref into), .val (.long w0), .second, .val (.long w1), .second, .val (.long w2), .second] [(.long w2), (.long w1), (.long w0), (.int cn), (.int of), (.int (0 : Int32)), (.ref into)])) rfl (by rw [hml]; rfl) (argsL := [(.ref into), (.int (0 : Int32)), (.int of), (.int cn), (.long w0), (.long w1), (.long w2)]) (rest := []) (lenOf own_pd___BIIIJJJ_Z rfl) rfl (by show 2 * 0 + _ ≤ _; exact Nat.le_of_eq rfl) (hb hby at_229) (fun _ _ => ⟨rfl, rfl, (by show cJ74 + 1 + 0 ≤ 16; omega), (by show kJ74 + 28 + 0 ≤ 128; omega)⟩)
                dsimp only [Pt.U, Pt.locs, Pt.cells, Pt.slots] at X27 l27 y27 z27 st27 hQ27
                try simp only [Nat.add_zero] at y27 z27
                subst l27 y27 z27
                obtain ⟨rfl, N27q, e27⟩ := hQ27
                have N27 := Fr.app N2 N27q
                refine own_W.step st27 ?_
                show own_W p e (FrameEnd s) below room_1.cells room_1.slots (Q0 Z ql qh pf po pc h0 n0) T27 (mkF m 232 #[.val (.long ql), .second, .val (.long qh), .second, .val (.int pf), .val (.int po), .val (.int pc), .val (.long low), .second, .val (.long high), .second, .val (.ref am), .val (.int ze), .val (.int ng), .val (.int sg), .val (.int of), .val (.int cn), .val (.ref into), .val (.long w0), .second, .val (.long w1), .second, .val (.long w2), .second] [(.int (1 : Int32))])
                have hc232 : ¬ ((1 : Int32) = (0 : Int32)) := by decide
                refine own_ifNo X27 hx (hb hby at_232) ((if0 _ _).trans (feq hc232).1) (rfl : 232 + 3 = 235) ?_
                refine own_aload X27 hx (hb hby at_235) (v := (.ref into)) rfl rfl (rfl : 235 + 2 = 237) ?_
                refine own_iconst X27 hx (hb hby at_237) (1 : Int32) (by first | rfl | decide) (rfl : 237 + 1 = 238) ?_
                refine own_iload X27 hx (hb hby at_238) (v := of) rfl (rfl : 238 + 2 = 240) ?_
                refine own_iload X27 hx (hb hby at_240) (v := cn) rfl (rfl : 240 + 2 = 242) ?_
                refine own_lload X27 hx (hb hby at_242) (v := w0) rfl (rfl : 242 + 2 = 244) ?_
                refine own_lload X27 hx (hb hby at_244) (v := w1) rfl (rfl : 244 + 2 = 246) ?_
                refine own_lload X27 hx (hb hby at_246) (v := w2) rfl (rfl : 246 + 2 = 248) ?_
                obtain ⟨_, _, ⟨T28, L28, k28, n28⟩, -, X28, ⟨Lc28, hQ28, l28, y28, z28⟩, st28⟩ := Jvm.LawKit.callS X27 hx (y := (⟨"com/example/sumtide/sumtide/MagnitudesWriteBytesPinLaw", "at", "([BIIIJJJ)Z"⟩ : MethodName)) hown (mvT hZ (hw _ (List.mem_of_getElem? (i := 7) rfl))) (mvT hZ (hw _ (List.mem_of_getElem? (i := 8) rfl))) (mvT hZ (hw _ (List.mem_of_getElem? (i := 9) rfl))) (mvT hZ (hw _ (List.mem_of_getElem? (i := 10) rfl))) (by decide) (backOf (W := 0) (rm2 l Z a0 hw [] into (1 : Int32) of cn w0 w1 w2 (own_wm of cn (own_ob sg fm (ln)) own_k0 cn.toInt) 1 T2.heap n0 z2c fq2_0 (⟨by decide, by decide⟩) (own_out of cn (1 : Int32) (own_ob sg fm ln) 1 bof bcn (by decide)) (fun h h' i wd sh w h1 h2 h3 h4 => own_in of cn (1 : Int32) (own_ob sg fm ln) 1 bof bcn (by decide) h h' w0 w1 w2 hw012 i wd sh h1 h2 h3 w h4)) hZ (hw _ (List.mem_of_getElem? (i := 10) rfl)) (hw _ (List.mem_of_getElem? (i := 9) rfl)) (by decide) (by decide)) (g := (mkF m 248 #[.val (.long ql), .second, .val (.long qh), .second, .val (.int pf), .val (.int po), .val (.int pc), .val (.long low), .second, .val (.long high), .second, .val (.ref am), .val (.int ze), .val (.int ng), .val (.int sg), .val (.int of), .val (.int cn), .val (.ref into), .val (.long w0), .second, .val (.long w1), .second, .val (.long w2), .second] [(.long w2), (.long w1), (.long w0), (.int cn), (.int of), (.int (1 : Int32)), (.ref into)])) rfl (by rw [hml]; rfl) (argsL := [(.ref into), (.int (1 : Int32)), (.int of), (.int cn), (.long w0), (.long w1), (.long w2)]) (rest := []) (lenOf own_pd___BIIIJJJ_Z rfl) rfl (by show 2 * 0 + _ ≤ _; exact Nat.le_of_eq rfl) (hb hby at_248) (fun _ _ => ⟨rfl, e27, (by show cJ74 + 1 + 0 ≤ 16; omega), (by show kJ74 + 28 + 0 ≤ 128; omega)⟩)
                dsimp only [Pt.U, Pt.locs, Pt.cells, Pt.slots] at X28 l28 y28 z28 st28 hQ28
                try simp only [Nat.add_zero] at y28 z28
                subst l28 y28 z28
                obtain ⟨rfl, N28q, e28⟩ := hQ28
                have N28 := Fr.app N27 N28q
                refine own_W.step st28 ?_
                show own_W p e (FrameEnd s) below room_1.cells room_1.slots (Q0 Z ql qh pf po pc h0 n0) T28 (mkF m 251 #[.val (.long ql), .second, .val (.long qh), .second, .val (.int pf), .val (.int po), .val (.int pc), .val (.long low), .second, .val (.long high), .second, .val (.ref am), .val (.int ze), .val (.int ng), .val (.int sg), .val (.int of), .val (.int cn), .val (.ref into), .val (.long w0), .second, .val (.long w1), .second, .val (.long w2), .second] [(.int (1 : Int32))])
                have hc251 : ¬ ((1 : Int32) = (0 : Int32)) := by decide
                refine own_ifNo X28 hx (hb hby at_251) ((if0 _ _).trans (feq hc251).1) (rfl : 251 + 3 = 254) ?_
                refine own_aload X28 hx (hb hby at_254) (v := (.ref into)) rfl rfl (rfl : 254 + 2 = 256) ?_
                refine own_iconst X28 hx (hb hby at_256) (2 : Int32) (by first | rfl | decide) (rfl : 256 + 1 = 257) ?_
                refine own_iload X28 hx (hb hby at_257) (v := of) rfl (rfl : 257 + 2 = 259) ?_
                refine own_iload X28 hx (hb hby at_259) (v := cn) rfl (rfl : 259 + 2 = 261) ?_
                refine own_lload X28 hx (hb hby at_261) (v := w0) rfl (rfl : 261 + 2 = 263) ?_
                refine own_lload X28 hx (hb hby at_263) (v := w1) rfl (rfl : 263 + 2 = 265) ?_
                refine own_lload X28 hx (hb hby at_265) (v := w2) rfl (rfl : 265 + 2 = 267) ?_
                obtain ⟨_, _, ⟨T29, L29, k29, n29⟩, -, X29, ⟨Lc29, hQ29, l29, y29, z29⟩, st29⟩ := Jvm.LawKit.callS X28 hx (y := (⟨"com/example/sumtide/sumtide/MagnitudesWriteBytesPinLaw", "at", "([BIIIJJJ)Z"⟩ : MethodName)) hown (mvT hZ (hw _ (List.mem_of_getElem? (i := 7) rfl))) (mvT hZ (hw _ (List.mem_of_getElem? (i := 8) rfl))) (mvT hZ (hw _ (List.mem_of_getElem? (i := 9) rfl))) (mvT hZ (hw _ (List.mem_of_getElem? (i := 10) rfl))) (by decide) (backOf (W := 0) (rm2 l Z a0 hw [] into (2 : Int32) of cn w0 w1 w2 (own_wm of cn (own_ob sg fm (ln)) own_k0 cn.toInt) 2 T2.heap n0 z2c fq2_0 (⟨by decide, by decide⟩) (own_out of cn (2 : Int32) (own_ob sg fm ln) 2 bof bcn (by decide)) (fun h h' i wd sh w h1 h2 h3 h4 => own_in of cn (2 : Int32) (own_ob sg fm ln) 2 bof bcn (by decide) h h' w0 w1 w2 hw012 i wd sh h1 h2 h3 w h4)) hZ (hw _ (List.mem_of_getElem? (i := 10) rfl)) (hw _ (List.mem_of_getElem? (i := 9) rfl)) (by decide) (by decide)) (g := (mkF m 267 #[.val (.long ql), .second, .val (.long qh), .second, .val (.int pf), .val (.int po), .val (.int pc), .val (.long low), .second, .val (.long high), .second, .val (.ref am), .val (.int ze), .val (.int ng), .val (.int sg), .val (.int of), .val (.int cn), .val (.ref into), .val (.long w0), .second, .val (.long w1), .second, .val (.long w2), .second] [(.long w2), (.long w1), (.long w0), (.int cn), (.int of), (.int (2 : Int32)), (.ref into)])) rfl (by rw [hml]; rfl) (argsL := [(.ref into), (.int (2 : Int32)), (.int of), (.int cn), (.long w0), (.long w1), (.long w2)]) (rest := []) (lenOf own_pd___BIIIJJJ_Z rfl) rfl (by show 2 * 0 + _ ≤ _; exact Nat.le_of_eq rfl) (hb hby at_267) (fun _ _ => ⟨rfl, e28, (by show cJ74 + 1 + 0 ≤ 16; omega), (by show kJ74 + 28 + 0 ≤ 128; omega)⟩)
                dsimp only [Pt.U, Pt.locs, Pt.cells, Pt.slots] at X29 l29 y29 z29 st29 hQ29
                try simp only [Nat.add_zero] at y29 z29
                subst l29 y29 z29
                obtain ⟨rfl, N29q, e29⟩ := hQ29
                have N29 := Fr.app N28 N29q
                refine own_W.step st29 ?_
                show own_W p e (FrameEnd s) below room_1.cells room_1.slots (Q0 Z ql qh pf po pc h0 n0) T29 (mkF m 270 #[.val (.long ql), .second, .val (.long qh), .second, .val (.int pf), .val (.int po), .val (.int pc), .val (.long low), .second, .val (.long high), .second, .val (.ref am), .val (.int ze), .val (.int ng), .val (.int sg), .val (.int of), .val (.int cn), .val (.ref into), .val (.long w0), .second, .val (.long w1), .second, .val (.long w2), .second] [(.int (1 : Int32))])
                have hc270 : ¬ ((1 : Int32) = (0 : Int32)) := by decide
                refine own_ifNo X29 hx (hb hby at_270) ((if0 _ _).trans (feq hc270).1) (rfl : 270 + 3 = 273) ?_
                refine own_aload X29 hx (hb hby at_273) (v := (.ref into)) rfl rfl (rfl : 273 + 2 = 275) ?_
                refine own_iconst X29 hx (hb hby at_275) (3 : Int32) (by first | rfl | decide) (rfl : 275 + 1 = 276) ?_
                refine own_iload X29 hx (hb hby at_276) (v := of) rfl (rfl : 276 + 2 = 278) ?_
                refine own_iload X29 hx (hb hby at_278) (v := cn) rfl (rfl : 278 + 2 = 280) ?_
                refine own_lload X29 hx (hb hby at_280) (v := w0) rfl (rfl : 280 + 2 = 282) ?_
                refine own_lload X29 hx (hb hby at_282) (v := w1) rfl (rfl : 282 + 2 = 284) ?_
                refine own_lload X29 hx (hb hby at_284) (v := w2) rfl (rfl : 284 + 2 = 286) ?_
                obtain ⟨_, _, ⟨T30, L30, k30, n30⟩, -, X30, ⟨Lc30, hQ30, l30, y30, z30⟩, st30⟩ := Jvm.LawKit.callS X29 hx (y := (⟨"com/example/sumtide/sumtide/MagnitudesWriteBytesPinLaw", "at", "([BIIIJJJ)Z"⟩ : MethodName)) hown (mvT hZ (hw _ (List.mem_of_getElem? (i := 7) rfl))) (mvT hZ (hw _ (List.mem_of_getElem? (i := 8) rfl))) (mvT hZ (hw _ (List.mem_of_getElem? (i := 9) rfl))) (mvT hZ (hw _ (List.mem_of_getElem? (i := 10) rfl))) (by decide) (backOf (W := 0) (rm2 l Z a0 hw [] into (3 : Int32) of cn w0 w1 w2 (own_wm of cn (own_ob sg fm (ln)) own_k0 cn.toInt) 3 T2.heap n0 z2c fq2_0 (⟨by decide, by decide⟩) (own_out of cn (3 : Int32) (own_ob sg fm ln) 3 bof bcn (by decide)) (fun h h' i wd sh w h1 h2 h3 h4 => own_in of cn (3 : Int32) (own_ob sg fm ln) 3 bof bcn (by decide) h h' w0 w1 w2 hw012 i wd sh h1 h2 h3 w h4)) hZ (hw _ (List.mem_of_getElem? (i := 10) rfl)) (hw _ (List.mem_of_getElem? (i := 9) rfl)) (by decide) (by decide)) (g := (mkF m 286 #[.val (.long ql), .second, .val (.long qh), .second, .val (.int pf), .val (.int po), .val (.int pc), .val (.long low), .second, .val (.long high), .second, .val (.ref am), .val (.int ze), .val (.int ng), .val (.int sg), .val (.int of), .val (.int cn), .val (.ref into), .val (.long w0), .second, .val (.long w1), .second, .val (.long w2), .second] [(.long w2), (.long w1), (.long w0), (.int cn), (.int of), (.int (3 : Int32)), (.ref into)])) rfl (by rw [hml]; rfl) (argsL := [(.ref into), (.int (3 : Int32)), (.int of), (.int cn), (.long w0), (.long w1), (.long w2)]) (rest := []) (lenOf own_pd___BIIIJJJ_Z rfl) rfl (by show 2 * 0 + _ ≤ _; exact Nat.le_of_eq rfl) (hb hby at_286) (fun _ _ => ⟨rfl, e29, (by show cJ74 + 1 + 0 ≤ 16; omega), (by show kJ74 + 28 + 0 ≤ 128; omega)⟩)
                dsimp only [Pt.U, Pt.locs, Pt.cells, Pt.slots] at X30 l30 y30 z30 st30 hQ30
                try simp only [Nat.add_zero] at y30 z30
                subst l30 y30 z30
                obtain ⟨rfl, N30q, e30⟩ := hQ30
                have N30 := Fr.app N29 N30q
                refine own_W.step st30 ?_
                show own_W p e (FrameEnd s) below room_1.cells room_1.slots (Q0 Z ql qh pf po pc h0 n0) T30 (mkF m 289 #[.val (.long ql), .second, .val (.long qh), .second, .val (.int pf), .val (.int po), .val (.int pc), .val (.long low), .second, .val (.long high), .second, .val (.ref am), .val (.int ze), .val (.int ng), .val (.int sg), .val (.int of), .val (.int cn), .val (.ref into), .val (.long w0), .second, .val (.long w1), .second, .val (.long w2), .second] [(.int (1 : Int32))])
                have hc289 : ¬ ((1 : Int32) = (0 : Int32)) := by decide
                refine own_ifNo X30 hx (hb hby at_289) ((if0 _ _).trans (feq hc289).1) (rfl : 289 + 3 = 292) ?_
                exact J292 _ _ _  X30 e30 N30 z2c f2_A_am fq2_0 
              by_cases hc168 : ng = (0 : Int32)
              · skip
                refine own_ifYes X2 hx (hb hby at_168) ((if0 _ _).trans (teq hc168).1) (pc' := 205) (by decide) (by decide) ?_
                refine own_lload X2 hx (hb hby at_205) (v := low) rfl (rfl : 205 + 2 = 207) ?_
                refine own_lstore X2 hx (hb hby at_207) (l' := #[.val (.long ql), .second, .val (.long qh), .second, .val (.int pf), .val (.int po), .val (.int pc), .val (.long low), .second, .val (.long high), .second, .val (.ref am), .val (.int ze), .val (.int ng), .val (.int sg), .val (.int of), .val (.int cn), .val (.ref into), .val (.long low), .second, .unset, .unset, .unset, .unset]) rfl (rfl : 207 + 2 = 209) ?_
                refine own_lload X2 hx (hb hby at_209) (v := high) rfl (rfl : 209 + 2 = 211) ?_
                refine own_lstore X2 hx (hb hby at_211) (l' := #[.val (.long ql), .second, .val (.long qh), .second, .val (.int pf), .val (.int po), .val (.int pc), .val (.long low), .second, .val (.long high), .second, .val (.ref am), .val (.int ze), .val (.int ng), .val (.int sg), .val (.int of), .val (.int cn), .val (.ref into), .val (.long low), .second, .val (.long high), .second, .unset, .unset]) rfl (rfl : 211 + 2 = 213) ?_
                refine own_lconst X2 hx (hb hby at_213) (0 : Int64) (by first | rfl | decide) (rfl : 213 + 1 = 214) ?_
                refine own_lstore X2 hx (hb hby at_214) (l' := #[.val (.long ql), .second, .val (.long qh), .second, .val (.int pf), .val (.int po), .val (.int pc), .val (.long low), .second, .val (.long high), .second, .val (.ref am), .val (.int ze), .val (.int ng), .val (.int sg), .val (.int of), .val (.int cn), .val (.ref into), .val (.long low), .second, .val (.long high), .second, .val (.long (0 : Int64)), .second]) rfl (rfl : 214 + 2 = 216) ?_
                exact J216 (low) (high) ((0 : Int64))   (own_pos hmag sg (hsg.2 hc168))
              · skip
                refine own_ifNo X2 hx (hb hby at_168) ((if0 _ _).trans (feq hc168).1) (rfl : 168 + 3 = 171) ?_
                refine own_lload X2 hx (hb hby at_171) (v := low) rfl (rfl : 171 + 2 = 173) ?_
                refine own_lneg X2 hx (hb hby at_173) (rfl : 173 + 1 = 174) ?_
                refine own_lstore X2 hx (hb hby at_174) (l' := #[.val (.long ql), .second, .val (.long qh), .second, .val (.int pf), .val (.int po), .val (.int pc), .val (.long low), .second, .val (.long high), .second, .val (.ref am), .val (.int ze), .val (.int ng), .val (.int sg), .val (.int of), .val (.int cn), .val (.ref into), .val (.long (-low)), .second, .unset, .unset, .unset, .unset]) rfl (rfl : 174 + 2 = 176) ?_
                refine own_lload X2 hx (hb hby at_176) (v := low) rfl (rfl : 176 + 2 = 178) ?_
                refine own_lconst X2 hx (hb hby at_178) (0 : Int64) (by first | rfl | decide) (rfl : 178 + 1 = 179) ?_
                refine own_lcmp X2 hx (hb hby at_179) (rfl : 179 + 1 = 180) ?_
                have J195 : ∀ (wx : Int64), ∀ (hwx : (low = (0 : Int64) ∧ wx = -high) ∨ (¬ low = (0 : Int64) ∧ wx = high ^^^ (-1 : Int64))), own_W p e (FrameEnd s) below room_1.cells room_1.slots (Q0 Z ql qh pf po pc h0 n0) T2 (mkF m 195 #[.val (.long ql), .second, .val (.long qh), .second, .val (.int pf), .val (.int po), .val (.int pc), .val (.long low), .second, .val (.long high), .second, .val (.ref am), .val (.int ze), .val (.int ng), .val (.int sg), .val (.int of), .val (.int cn), .val (.ref into), .val (.long (-low)), .second, .unset, .unset, .unset, .unset] [(.long wx)]) := by
                  intro wx hwx
                  refine own_lstore X2 hx (hb hby at_195) (l' := #[.val (.long ql), .second, .val (.long qh), .second, .val (.int pf), .val (.int po), .val (.int pc), .val (.long low), .second, .val (.long high), .second, .val (.ref am), .val (.int ze), .val (.int ng), .val (.int sg), .val (.int of), .val (.int cn), .val (.ref into), .val (.long (-low)), .second, .val (.long wx), .second, .unset, .unset]) rfl (rfl : 195 + 2 = 197) ?_
                  refine own_ldc2Long X2 hx hown (mvT hZ (hw _ (List.mem_of_getElem? (i := 11) rfl))) (hb hby at_197) (rfl : 197 + 3 = 200) ?_
                  refine own_lstore X2 hx (hb hby at_200) (l' := #[.val (.long ql), .second, .val (.long qh), .second, .val (.int pf), .val (.int po), .val (.int pc), .val (.long low), .second, .val (.long high), .second, .val (.ref am), .val (.int ze), .val (.int ng), .val (.int sg), .val (.int of), .val (.int cn), .val (.ref into), .val (.long (-low)), .second, .val (.long wx), .second, .val (.long (-1 : Int64)), .second]) rfl (rfl : 200 + 2 = 202) ?_
                  refine own_goto X2 hx (hb hby at_202) (pc' := 216) (by decide) (by decide) ?_
                  exact J216 ((-low)) (wx) ((-1 : Int64))   (own_negw hmag sg (hsg.1 hc168) ((hze.resolve_left fun q => absurd (q.1.symm.trans (hng.resolve_left hc168).2) (by decide)).2) _ _ _ (by rcases hwx with ⟨q1, q2⟩ | ⟨q1, q2⟩ <;> rw [q2] <;> first | exact own_w0 low high q1 (fun q => ((hze.resolve_left fun q => absurd (q.1.symm.trans (hng.resolve_left hc168).2) (by decide)).2) ⟨q1, q⟩) | exact own_w1 low high q1))
                by_cases hc180 : low = (0 : Int64)
                · skip
                  refine own_ifNo X2 hx (hb hby at_180) (XT.ll_ne_f hc180) (rfl : 180 + 3 = 183) ?_
                  refine own_lload X2 hx (hb hby at_183) (v := high) rfl (rfl : 183 + 2 = 185) ?_
                  refine own_lneg X2 hx (hb hby at_185) (rfl : 185 + 1 = 186) ?_
                  refine own_goto X2 hx (hb hby at_186) (pc' := 195) (by decide) (by decide) ?_
                  exact J195 ((-high))   (Or.inl ⟨hc180, rfl⟩)
                · skip
                  refine own_ifYes X2 hx (hb hby at_180) (XT.ll_ne_t hc180) (pc' := 189) (by decide) (by decide) ?_
                  refine own_lload X2 hx (hb hby at_189) (v := high) rfl (rfl : 189 + 2 = 191) ?_
                  refine own_ldc2Long X2 hx hown (mvT hZ (hw _ (List.mem_of_getElem? (i := 11) rfl))) (hb hby at_191) (rfl : 191 + 3 = 194) ?_
                  refine own_lxor X2 hx (hb hby at_194) (rfl : 194 + 1 = 195) ?_
                  exact J195 ((high ^^^ (-1 : Int64)))   (Or.inr ⟨hc180, rfl⟩)
            by_cases hc112 : ze = (0 : Int32)
            · skip
              refine own_ifYes XJ74 hx (hb hby at_112) ((if0 _ _).trans (teq hc112).1) (pc' := 119) (by decide) (by decide) ?_
              refine own_iload XJ74 hx (hb hby at_119) (v := ng) rfl (rfl : 119 + 2 = 121) ?_
              by_cases hc121 : ng = (0 : Int32)
              · skip
                refine own_ifYes XJ74 hx (hb hby at_121) ((if0 _ _).trans (teq hc121).1) (pc' := 128) (by decide) (by decide) ?_
                refine own_iconst XJ74 hx (hb hby at_128) (1 : Int32) (by first | rfl | decide) (rfl : 128 + 1 = 129) ?_
                exact J129 ((1 : Int32))   (⟨fun q => absurd hc121 q, fun _ => by decide⟩)
              · skip
                refine own_ifNo XJ74 hx (hb hby at_121) ((if0 _ _).trans (feq hc121).1) (rfl : 121 + 3 = 124) ?_
                refine own_iconst XJ74 hx (hb hby at_124) (-1 : Int32) (by first | rfl | decide) (rfl : 124 + 1 = 125) ?_
                refine own_goto XJ74 hx (hb hby at_125) (pc' := 129) (by decide) (by decide) ?_
                exact J129 ((-1 : Int32))   (⟨fun _ => by decide, fun q => absurd q hc121⟩)
            · skip
              refine own_ifNo XJ74 hx (hb hby at_112) ((if0 _ _).trans (feq hc112).1) (rfl : 112 + 3 = 115) ?_
              refine own_iconst XJ74 hx (hb hby at_115) (0 : Int32) (by first | rfl | decide) (rfl : 115 + 1 = 116) ?_
              refine own_goto XJ74 hx (hb hby at_116) (pc' := 129) (by decide) (by decide) ?_
              exact J129 ((0 : Int32))   (⟨fun q => absurd ((hng.resolve_left q).2) hc112, fun _ => by decide⟩)
          by_cases hc93 : ze = (0 : Int32)
          · skip
            refine own_ifNo XJ74 hx (hb hby at_93) ((if0 _ _).trans (teq hc93).2) (rfl : 93 + 3 = 96) ?_
            refine own_iload XJ74 hx (hb hby at_96) (v := pf) rfl (rfl : 96 + 2 = 98) ?_
            refine own_iconst XJ74 hx (hb hby at_98) (1 : Int32) (by first | rfl | decide) (rfl : 98 + 1 = 99) ?_
            refine own_iand XJ74 hx (hb hby at_99) (rfl : 99 + 1 = 100) ?_
            by_cases hc100 : (pf &&& (1 : Int32)) = (0 : Int32)
            · skip
              refine own_ifYes XJ74 hx (hb hby at_100) ((if0 _ _).trans (teq hc100).1) (pc' := 107) (by decide) (by decide) ?_
              refine own_iconst XJ74 hx (hb hby at_107) (0 : Int32) (by first | rfl | decide) (rfl : 107 + 1 = 108) ?_
              exact J108 ((0 : Int32))   (Or.inl rfl)
            · skip
              refine own_ifNo XJ74 hx (hb hby at_100) ((if0 _ _).trans (feq hc100).1) (rfl : 100 + 3 = 103) ?_
              refine own_iconst XJ74 hx (hb hby at_103) (1 : Int32) (by first | rfl | decide) (rfl : 103 + 1 = 104) ?_
              refine own_goto XJ74 hx (hb hby at_104) (pc' := 108) (by decide) (by decide) ?_
              exact J108 ((1 : Int32))   (Or.inr ⟨rfl, hc93⟩)
          · skip
            refine own_ifYes XJ74 hx (hb hby at_93) ((if0 _ _).trans (feq hc93).2) (pc' := 107) (by decide) (by decide) ?_
            refine own_iconst XJ74 hx (hb hby at_107) (0 : Int32) (by first | rfl | decide) (rfl : 107 + 1 = 108) ?_
            exact J108 ((0 : Int32))   (Or.inl rfl)
        by_cases hc81 : (low ||| high) = (0 : Int64)
        · skip
          refine own_ifNo XJ74 hx (hb hby at_81) (XT.ll_ne_f hc81) (rfl : 81 + 3 = 84) ?_
          refine own_iconst XJ74 hx (hb hby at_84) (1 : Int32) (by first | rfl | decide) (rfl : 84 + 1 = 85) ?_
          refine own_goto XJ74 hx (hb hby at_85) (pc' := 89) (by decide) (by decide) ?_
          exact J89 ((1 : Int32))   (Or.inl ⟨rfl, (own_or0 low high).mp hc81⟩)
        · skip
          refine own_ifYes XJ74 hx (hb hby at_81) (XT.ll_ne_t hc81) (pc' := 88) (by decide) (by decide) ?_
          refine own_iconst XJ74 hx (hb hby at_88) (0 : Int32) (by first | rfl | decide) (rfl : 88 + 1 = 89) ?_
          exact J89 ((0 : Int32))   (Or.inr ⟨rfl, fun q => hc81 ((own_or0 low high).mpr q)⟩)
      refine own_lload X0 hx (hb hby at_28) (v := high) rfl (rfl : 28 + 2 = 30) ?_
      refine own_lconst X0 hx (hb hby at_30) (0 : Int64) (by first | rfl | decide) (rfl : 30 + 1 = 31) ?_
      refine own_lcmp X0 hx (hb hby at_31) (rfl : 31 + 1 = 32) ?_
      by_cases hc32 : high = (0 : Int64)
      · skip
        refine own_ifYes X0 hx (hb hby at_32) (XT.ll_eq_t hc32) (pc' := 51) (by decide) (by decide) ?_
        refine own_lload X0 hx (hb hby at_51) (v := low) rfl (rfl : 51 + 2 = 53) ?_
        refine own_lconst X0 hx (hb hby at_53) (0 : Int64) (by first | rfl | decide) (rfl : 53 + 1 = 54) ?_
        refine own_lcmp X0 hx (hb hby at_54) (rfl : 54 + 1 = 55) ?_
        by_cases hc55 : low = (0 : Int64)
        · skip
          refine own_ifYes X0 hx (hb hby at_55) (XT.ll_eq_t hc55) (pc' := 69) (by decide) (by decide) ?_
          refine own_iconst X0 hx (hb hby at_69) (0 : Int32) (by first | rfl | decide) (rfl : 69 + 1 = 70) ?_
          obtain ⟨T31, h31, k31, X31, e31, E31, A31, st31⟩ := newP X0 hx hZ (hw _ (List.mem_of_getElem? (i := 0) rfl)) e0 (g := (mkF m 70 #[.val (.long ql), .second, .val (.long qh), .second, .val (.int pf), .val (.int po), .val (.int pc), .val (.long low), .second, .val (.long high), .second, .unset, .unset, .unset, .unset, .unset, .unset, .unset, .unset, .unset, .unset, .unset, .unset, .unset] [(.int (0 : Int32))])) rfl (hb hby at_70) rfl (by decide) (cap := 0) (by decide) (by decide) (by decide) (by decide)
          obtain ⟨b31, g31⟩ : ∃ z, z = h0.size := ⟨_, rfl⟩
          rw [← g31] at A31 st31
          refine own_W.step st31 ?_
          have g_b31 : n0 ≤ b31 := Nat.le_trans Z0 (Nat.le_of_eq g31.symm)
          have z31 : n0 ≤ h31.size := Nat.le_trans Z0 E31.1
          have V31 : own_A Z h31 b31 .long (0) (fun z => .long (own_k0L z)) := own_A.new A31 (by decide) (by decide)
          show own_W p e (FrameEnd s) below room_1.cells room_1.slots (Q0 Z ql qh pf po pc h0 n0) T31 (mkF m 72 #[.val (.long ql), .second, .val (.long qh), .second, .val (.int pf), .val (.int po), .val (.int pc), .val (.long low), .second, .val (.long high), .second, .unset, .unset, .unset, .unset, .unset, .unset, .unset, .unset, .unset, .unset, .unset, .unset, .unset] [(.ref b31)])
          refine own_astore X31 hx (hb hby at_72) (l' := #[.val (.long ql), .second, .val (.long qh), .second, .val (.int pf), .val (.int po), .val (.int pc), .val (.long low), .second, .val (.long high), .second, .val (.ref b31), .unset, .unset, .unset, .unset, .unset, .unset, .unset, .unset, .unset, .unset, .unset, .unset]) rfl rfl (rfl : 72 + 2 = 74) ?_
          exact J74 (b31) (0) (own_k0L) _ _ _ _ _  (by first | omega | decide) (by first | omega | decide) X31 e31 N0 z31 V31 (Or.inr (Or.inr ⟨hc32, hc55, rfl⟩))
        · skip
          refine own_ifNo X0 hx (hb hby at_55) (XT.ll_eq_f hc55) (rfl : 55 + 3 = 58) ?_
          refine own_iconst X0 hx (hb hby at_58) (1 : Int32) (by first | rfl | decide) (rfl : 58 + 1 = 59) ?_
          obtain ⟨T32, h32, k32, X32, e32, E32, A32, st32⟩ := newP X0 hx hZ (hw _ (List.mem_of_getElem? (i := 0) rfl)) e0 (g := (mkF m 59 #[.val (.long ql), .second, .val (.long qh), .second, .val (.int pf), .val (.int po), .val (.int pc), .val (.long low), .second, .val (.long high), .second, .unset, .unset, .unset, .unset, .unset, .unset, .unset, .unset, .unset, .unset, .unset, .unset, .unset] [(.int (1 : Int32))])) rfl (hb hby at_59) rfl (by decide) (cap := 1) (by decide) (by decide) (by decide) (by decide)
          obtain ⟨b32, g32⟩ : ∃ z, z = h0.size := ⟨_, rfl⟩
          rw [← g32] at A32 st32
          refine own_W.step st32 ?_
          have g_b32 : n0 ≤ b32 := Nat.le_trans Z0 (Nat.le_of_eq g32.symm)
          have z32 : n0 ≤ h32.size := Nat.le_trans Z0 E32.1
          have V32 : own_A Z h32 b32 .long (1) (fun z => .long (own_k0L z)) := own_A.new A32 (by decide) (by decide)
          show own_W p e (FrameEnd s) below room_1.cells room_1.slots (Q0 Z ql qh pf po pc h0 n0) T32 (mkF m 61 #[.val (.long ql), .second, .val (.long qh), .second, .val (.int pf), .val (.int po), .val (.int pc), .val (.long low), .second, .val (.long high), .second, .unset, .unset, .unset, .unset, .unset, .unset, .unset, .unset, .unset, .unset, .unset, .unset, .unset] [(.ref b32)])
          refine own_dup X32 hx (hb hby at_61) rfl (rfl : 61 + 1 = 62) ?_
          refine own_iconst X32 hx (hb hby at_62) (0 : Int32) (by first | rfl | decide) (rfl : 62 + 1 = 63) ?_
          refine own_lload X32 hx (hb hby at_63) (v := low) rfl (rfl : 63 + 2 = 65) ?_
          have hi33 : own_In (0 : Int32) (0) (1) := ⟨by decide, by decide⟩
          obtain ⟨T33, h33, X33, e33, W33, V33, st33⟩ := own_stJ X32 hx hZ e32 V32 hi33 (g := (mkF m 65 #[.val (.long ql), .second, .val (.long qh), .second, .val (.int pf), .val (.int po), .val (.int pc), .val (.long low), .second, .val (.long high), .second, .unset, .unset, .unset, .unset, .unset, .unset, .unset, .unset, .unset, .unset, .unset, .unset, .unset] [(.long low), (.int (0 : Int32)), (.ref b32), (.ref b32)])) rfl rfl (hb hby at_65)
          refine own_W.step st33 ?_
          have N33 := Fr.snoc X33 N0 g_b32
          have U33 : own_A Z h33 b32 .long (1) (fun z => .long (own_up own_k0L 0 low z)) := V33.congr (fun z _ => by unfold own_up; split <;> rfl)
          have z33 : n0 ≤ h33.size := by rw [W33.size]; exact z32
          show own_W p e (FrameEnd s) below room_1.cells room_1.slots (Q0 Z ql qh pf po pc h0 n0) T33 (mkF m 66 #[.val (.long ql), .second, .val (.long qh), .second, .val (.int pf), .val (.int po), .val (.int pc), .val (.long low), .second, .val (.long high), .second, .unset, .unset, .unset, .unset, .unset, .unset, .unset, .unset, .unset, .unset, .unset, .unset, .unset] [(.ref b32)])
          refine own_goto X33 hx (hb hby at_66) (pc' := 72) (by decide) (by decide) ?_
          refine own_astore X33 hx (hb hby at_72) (l' := #[.val (.long ql), .second, .val (.long qh), .second, .val (.int pf), .val (.int po), .val (.int pc), .val (.long low), .second, .val (.long high), .second, .val (.ref b32), .unset, .unset, .unset, .unset, .unset, .unset, .unset, .unset, .unset, .unset, .unset, .unset]) rfl rfl (rfl : 72 + 2 = 74) ?_
          exact J74 (b32) (1) (own_up own_k0L 0 low) _ _ _ _ _  (by first | omega | decide) (by first | omega | decide) X33 e33 N33 z33 U33 (Or.inr (Or.inl ⟨hc32, hc55, rfl, rfl⟩))
      · skip
        refine own_ifNo X0 hx (hb hby at_32) (XT.ll_eq_f hc32) (rfl : 32 + 3 = 35) ?_
        refine own_iconst X0 hx (hb hby at_35) (2 : Int32) (by first | rfl | decide) (rfl : 35 + 1 = 36) ?_
        obtain ⟨T34, h34, k34, X34, e34, E34, A34, st34⟩ := newP X0 hx hZ (hw _ (List.mem_of_getElem? (i := 0) rfl)) e0 (g := (mkF m 36 #[.val (.long ql), .second, .val (.long qh), .second, .val (.int pf), .val (.int po), .val (.int pc), .val (.long low), .second, .val (.long high), .second, .unset, .unset, .unset, .unset, .unset, .unset, .unset, .unset, .unset, .unset, .unset, .unset, .unset] [(.int (2 : Int32))])) rfl (hb hby at_36) rfl (by decide) (cap := 2) (by decide) (by decide) (by decide) (by decide)
        obtain ⟨b34, g34⟩ : ∃ z, z = h0.size := ⟨_, rfl⟩
        rw [← g34] at A34 st34
        refine own_W.step st34 ?_
        have g_b34 : n0 ≤ b34 := Nat.le_trans Z0 (Nat.le_of_eq g34.symm)
        have z34 : n0 ≤ h34.size := Nat.le_trans Z0 E34.1
        have V34 : own_A Z h34 b34 .long (2) (fun z => .long (own_k0L z)) := own_A.new A34 (by decide) (by decide)
        show own_W p e (FrameEnd s) below room_1.cells room_1.slots (Q0 Z ql qh pf po pc h0 n0) T34 (mkF m 38 #[.val (.long ql), .second, .val (.long qh), .second, .val (.int pf), .val (.int po), .val (.int pc), .val (.long low), .second, .val (.long high), .second, .unset, .unset, .unset, .unset, .unset, .unset, .unset, .unset, .unset, .unset, .unset, .unset, .unset] [(.ref b34)])
        refine own_dup X34 hx (hb hby at_38) rfl (rfl : 38 + 1 = 39) ?_
        refine own_iconst X34 hx (hb hby at_39) (0 : Int32) (by first | rfl | decide) (rfl : 39 + 1 = 40) ?_
        refine own_lload X34 hx (hb hby at_40) (v := low) rfl (rfl : 40 + 2 = 42) ?_
        have hi35 : own_In (0 : Int32) (0) (2) := ⟨by decide, by decide⟩
        obtain ⟨T35, h35, X35, e35, W35, V35, st35⟩ := own_stJ X34 hx hZ e34 V34 hi35 (g := (mkF m 42 #[.val (.long ql), .second, .val (.long qh), .second, .val (.int pf), .val (.int po), .val (.int pc), .val (.long low), .second, .val (.long high), .second, .unset, .unset, .unset, .unset, .unset, .unset, .unset, .unset, .unset, .unset, .unset, .unset, .unset] [(.long low), (.int (0 : Int32)), (.ref b34), (.ref b34)])) rfl rfl (hb hby at_42)
        refine own_W.step st35 ?_
        have N35 := Fr.snoc X35 N0 g_b34
        have U35 : own_A Z h35 b34 .long (2) (fun z => .long (own_up own_k0L 0 low z)) := V35.congr (fun z _ => by unfold own_up; split <;> rfl)
        have z35 : n0 ≤ h35.size := by rw [W35.size]; exact z34
        show own_W p e (FrameEnd s) below room_1.cells room_1.slots (Q0 Z ql qh pf po pc h0 n0) T35 (mkF m 43 #[.val (.long ql), .second, .val (.long qh), .second, .val (.int pf), .val (.int po), .val (.int pc), .val (.long low), .second, .val (.long high), .second, .unset, .unset, .unset, .unset, .unset, .unset, .unset, .unset, .unset, .unset, .unset, .unset, .unset] [(.ref b34)])
        refine own_dup X35 hx (hb hby at_43) rfl (rfl : 43 + 1 = 44) ?_
        refine own_iconst X35 hx (hb hby at_44) (1 : Int32) (by first | rfl | decide) (rfl : 44 + 1 = 45) ?_
        refine own_lload X35 hx (hb hby at_45) (v := high) rfl (rfl : 45 + 2 = 47) ?_
        have hi36 : own_In (1 : Int32) (1) (2) := ⟨by decide, by decide⟩
        obtain ⟨T36, h36, X36, e36, W36, V36, st36⟩ := own_stJ X35 hx hZ e35 U35 hi36 (g := (mkF m 47 #[.val (.long ql), .second, .val (.long qh), .second, .val (.int pf), .val (.int po), .val (.int pc), .val (.long low), .second, .val (.long high), .second, .unset, .unset, .unset, .unset, .unset, .unset, .unset, .unset, .unset, .unset, .unset, .unset, .unset] [(.long high), (.int (1 : Int32)), (.ref b34), (.ref b34)])) rfl rfl (hb hby at_47)
        refine own_W.step st36 ?_
        have N36 := Fr.snoc X36 N35 g_b34
        have U36 : own_A Z h36 b34 .long (2) (fun z => .long (own_up (own_up own_k0L 0 low) 1 high z)) := V36.congr (fun z _ => by unfold own_up; split <;> rfl)
        have z36 : n0 ≤ h36.size := by rw [W36.size]; exact z35
        show own_W p e (FrameEnd s) below room_1.cells room_1.slots (Q0 Z ql qh pf po pc h0 n0) T36 (mkF m 48 #[.val (.long ql), .second, .val (.long qh), .second, .val (.int pf), .val (.int po), .val (.int pc), .val (.long low), .second, .val (.long high), .second, .unset, .unset, .unset, .unset, .unset, .unset, .unset, .unset, .unset, .unset, .unset, .unset, .unset] [(.ref b34)])
        refine own_goto X36 hx (hb hby at_48) (pc' := 72) (by decide) (by decide) ?_
        refine own_astore X36 hx (hb hby at_72) (l' := #[.val (.long ql), .second, .val (.long qh), .second, .val (.int pf), .val (.int po), .val (.int pc), .val (.long low), .second, .val (.long high), .second, .val (.ref b34), .unset, .unset, .unset, .unset, .unset, .unset, .unset, .unset, .unset, .unset, .unset, .unset]) rfl rfl (rfl : 72 + 2 = 74) ?_
        exact J74 (b34) (2) (own_up (own_up own_k0L 0 low) 1 high) _ _ _ _ _  (by first | omega | decide) (by first | omega | decide) X36 e36 N36 z36 U36 (Or.inl ⟨hc32, rfl, rfl, rfl⟩)
    by_cases hc18 : (pf &&& (4 : Int32)) = (0 : Int32)
    · skip
      refine own_ifYes X0 hx (hb hby at_18) ((if0 _ _).trans (teq hc18).1) (pc' := 25) (by decide) (by decide) ?_
      refine own_lloadN X0 hx (hb hby at_25) (v := qh) rfl (rfl : 25 + 1 = 26) ?_
      exact J26 (qh)   
    · skip
      refine own_ifNo X0 hx (hb hby at_18) ((if0 _ _).trans (feq hc18).1) (rfl : 18 + 3 = 21) ?_
      refine own_lconst X0 hx (hb hby at_21) (0 : Int64) (by first | rfl | decide) (rfl : 21 + 1 = 22) ?_
      refine own_goto X0 hx (hb hby at_22) (pc' := 26) (by decide) (by decide) ?_
      exact J26 ((0 : Int64))   
  by_cases hc4 : (pf &&& (2 : Int32)) = (0 : Int32)
  · skip
    refine own_ifYes X0 hx (hb hby at_4) ((if0 _ _).trans (teq hc4).1) (pc' := 11) (by decide) (by decide) ?_
    refine own_lloadN X0 hx (hb hby at_11) (v := ql) rfl (rfl : 11 + 1 = 12) ?_
    exact J12 (ql)   
  · skip
    refine own_ifNo X0 hx (hb hby at_4) ((if0 _ _).trans (feq hc4).1) (rfl : 4 + 3 = 7) ?_
    refine own_lconst X0 hx (hb hby at_7) (0 : Int64) (by first | rfl | decide) (rfl : 7 + 1 = 8) ?_
    refine own_goto X0 hx (hb hby at_8) (pc' := 12) (by decide) (by decide) ?_
    exact J12 ((0 : Int64))   
set_option maxRecDepth 65536 in
set_option maxHeartbeats 40000000 in
theorem comes_1 {Post : Tables → Env → Array Value → State → Outcome → State → Prop} (hpost : ∀ tb e args s v u, (limb_1_1.after args s (.returned v) u = true ∧ limb_1_2.after args s (.returned v) u = true ∧ True) → FrameEnd s (.returned v) u (Jvm.fieldLocs frame_1_writes args s ++ Jvm.arrayLocs frame_1_arrays args s ++ Jvm.staticLocs frame_1_statics s) 16 128 → Post tb e args s (.returned v) u) :
    ArmFor flags0 classFile x code maxLocals ret World_1 tables_1 room_1 Calls_1 rest_1 Pre_1 Post := by
  intro l hfl _ _ p e ha hc hk s m args below hf hA hF happ hP
  obtain ⟨hcalls, hrest, hpre⟩ := hP
  obtain ⟨-, -, -, hnamed, -, -, -, hat⟩ := (Spec.applies_iff hf).mp happ
  obtain ⟨hg, hn⟩ := and_e (Cond.before_iff.mp (show (Jvm.Cond.and given_1 narrow_1).before args s = true from hpre))
  obtain ⟨hg0, hr0⟩ := and_e hg
  obtain ⟨hg1, hr1⟩ := and_e hr0
  obtain ⟨hg2, hr2⟩ := and_e hr1
  obtain ⟨hg3, hr3⟩ := and_e hr2
  obtain ⟨hg4, hr4⟩ := and_e hr3
  obtain ⟨w0, w1, w2, w3, w4, rfl⟩ : ∃ w0 w1 w2 w3 w4 : Value, args = #[w0, w1, w2, w3, w4] := by
    have hs : args.size = 5 := by simpa [Cond.value, given_1] using hg0
    obtain ⟨L⟩ := args
    match L, hs with
    | [w0, w1, w2, w3, w4], _ => exact ⟨w0, w1, w2, w3, w4, rfl⟩
  have hw := fun d (hd : d ∈ tables_1) => atoms_spec (ws := Jvm.Cond.code x code maxLocals ret :: tables_1) hat d (List.mem_cons_of_mem _ hd)
  obtain ⟨i0, ei0⟩ := isL_v hg1
  obtain rfl : w0 = (.long i0) := Option.some.inj ei0
  obtain ⟨i1, ei1⟩ := isL_v hg2
  obtain rfl : w1 = (.long i1) := Option.some.inj ei1
  obtain ⟨i2, ei2⟩ := is_v hg3
  obtain rfl : w2 = (.int i2) := Option.some.inj ei2
  obtain ⟨i3, ei3⟩ := is_v hg4
  obtain rfl : w3 = (.int i3) := Option.some.inj ei3
  obtain ⟨i4, ei4⟩ := is_v hr4
  obtain rfl : w4 = (.int i4) := Option.some.inj ei4
  obtain ⟨n, o, h1, h2, h3, _, L, rfl, ⟨rfl, N⟩, hq⟩ := rm0 l s _ hw tables_1 i0 i1 i2 i3 i4 s.heap s.heap.size (Nat.le_refl _) p e ha hc hk s m _ below hf ((Spec.applies_iff_loose hf).mp happ).1 ⟨rfl, State.Warmed39.refl s, rfl⟩ trivial
  refine ⟨n, _, h1, h2, h3, hpost _ _ _ _ _ _ ⟨Cond.after_iff.mpr rfl, Cond.after_iff.mpr (eq_i res_at (Term.int_eval (1)) rfl), trivial⟩ ⟨hq.1, hq.2.1, (hq.2.2.sift fun y hy => Or.inr (N y hy)).mono (by decide) (by decide)⟩⟩
theorem main_1_1 : Claimed_1_1 := comes_1 fun _ _ _ _ _ _ h hF => ⟨h.1, hF⟩
theorem main_1_2 : Claimed_1_2 := comes_1 fun _ _ _ _ _ _ h hF => ⟨h.2.1, hF⟩
end Jvm.Pilot.@@N@@
namespace Jvm.Pilot.@@N@@
open Jvm Jvm.ClassFile Sem Op Lib Jvm.Free Jvm.Stand Jvm.Pilot.@@N@@.Jvm.D
/-! MADE BY PROGRAM (witnessworld.py) out of the Statement's table words and the real class files: 11 classes; the members and pool entries that the words name. The judged class is class 1, her method 1. -/
namespace start1
open Jvm.ClassFile
def u (s : String) : CpInfo := .utf8 (stringToUtf16 s)
/-- a pool by its gaps: so many unusable entries, then the entry; so many at the end -/
def gap : Nat → List CpInfo → List CpInfo
  | 0, r => r
  | n + 1, r => .unusable :: gap n r
def poolList (es : List (Nat × CpInfo)) (last : Nat) : List CpInfo := es.foldr (fun e r => gap e.1 (e.2 :: r)) (gap last [])
def pool (es : List (Nat × CpInfo)) (last : Nat) : Array CpInfo := ⟨poolList es last⟩
def fileOf (pool : Array CpInfo) (this : Nat) (attrs : Array Attribute := #[]) (ms : Array MethodInfo := #[]) (fl : Nat := 33) (sup : Nat := 0) (ifs : Array Nat := #[]) (fds : Array FieldInfo := #[]) : ClassFile where
  minorVersion := 0
  majorVersion := 65
  constantPool := pool
  accessFlags := fl
  thisClass := this
  superClass := sup
  interfaces := ifs
  fields := fds
  methods := ms
  attributes := attrs
def plain (name : String) (sup : Option ClassId) : Class where
  name := name
  kind := .ordinary
  loader := none
  accessFlags := 33
  super := sup
  interfaces := #[]
  cf := none
  fields := #[]
  methods := #[]
  instanceTypes := #[]
  staticTypes := #[]
  resolved := #[]
  callSites := []
  init := .initialized
  statics := none
  mirror := none

def pool0 : Array CpInfo := pool [(5, u "<init>"), (0, u "()V"), (1, .class_ 10), (1, u "java/lang/Object")] 113

def k0m0 : Method := { name := "<init>", desc := "()V", sig := { parameters := [], returnType := none }, accessFlags := 1, code := none }
/-- java/lang/Object -/
def k0 : Class := { plain "java/lang/Object" none with
  accessFlags := 33
  interfaces := #[]
  cf := some (fileOf pool0 8 #[] #[{ accessFlags := 1, nameIndex := 5, descriptorIndex := 6, attributes := #[] }] 33 0 #[] #[])
  fields := #[]
  methods := #[k0m0]
  instanceTypes := #[]
  staticTypes := #[]
  resolved := Array.replicate 124 none
  statics := none }

def pool1 : Array CpInfo := pool [(2, .class_ 4), (1, u "java/lang/Object"), (0, u "<init>"), (0, u "()V"), (0, .integer 2147483647), (0, .methodref 9 10), (0, .class_ 11), (0, .nameAndType 12 13), (0, u "com/example/sumtide/sumtide/Magnitudes"), (0, u "writeBytes"), (0, u "(I[J[BII)V"), (0, .long 18446744073709551615), (1, .methodref 17 18), (0, .class_ 19), (0, .nameAndType 20 21), (0, u "com/example/sumtide/sumtide/MagnitudesWriteBytesPinLaw"), (0, u "at"), (0, u "([BIIIJJJ)Z"), (2, u "law"), (0, u "(JJIII)Z")] 7

def k1m0 : Method := { name := "<init>", desc := "()V", sig := { parameters := [], returnType := none }, accessFlags := 1, code := none }
def k1c1 : Code := { maxStack := 10, maxLocals := 24, code := code, exceptionTable := #[], attributes := #[] }
def k1m1 : Method := { name := "law", desc := "(JJIII)Z", sig := { parameters := [.long, .long, .int, .int, .int], returnType := some .boolean }, accessFlags := 9, code := some k1c1 }
def k1c2 : Code := { maxStack := 4, maxLocals := 15, code := method_3_code, exceptionTable := #[], attributes := #[] }
def k1m2 : Method := { name := "at", desc := "([BIIIJJJ)Z", sig := { parameters := [(.array .byte), .int, .int, .int, .long, .long, .long], returnType := some .boolean }, accessFlags := 10, code := some k1c2 }
/-- com/example/sumtide/sumtide/MagnitudesWriteBytesPinLaw -/
def k1 : Class := { plain "com/example/sumtide/sumtide/MagnitudesWriteBytesPinLaw" (some 0) with
  accessFlags := 49
  interfaces := #[]
  cf := some (fileOf pool1 17 #[] #[{ accessFlags := 1, nameIndex := 5, descriptorIndex := 6, attributes := #[] }, { accessFlags := 9, nameIndex := 24, descriptorIndex := 25, attributes := #[] }, { accessFlags := 10, nameIndex := 20, descriptorIndex := 21, attributes := #[] }] 49 2 #[] #[])
  fields := #[]
  methods := #[k1m0, k1m1, k1m2]
  instanceTypes := #[]
  staticTypes := #[]
  resolved := Array.replicate 33 none
  statics := none }

def pool2 : Array CpInfo := pool [(4, .class_ 6), (1, u "java/lang/Object"), (0, u "<init>"), (0, u "()V"), (7, .class_ 18), (1, u "com/example/sumtide/sumtide/Magnitudes"), (0, u "ZERO"), (0, u "[J"), (87, u "WORD_BITS"), (0, u "I"), (2, u "WORD_SHIFT"), (14, u "writeBytes"), (0, u "(I[J[BII)V")] 16

def k2m0 : Method := { name := "<init>", desc := "()V", sig := { parameters := [], returnType := none }, accessFlags := 2, code := none }
def k2c1 : Code := { maxStack := 5, maxLocals := 9, code := prog_20_method_6_code, exceptionTable := #[], attributes := #[] }
def k2m1 : Method := { name := "writeBytes", desc := "(I[J[BII)V", sig := { parameters := [.int, (.array .long), (.array .byte), .int, .int], returnType := none }, accessFlags := 8, code := some k2c1 }
/-- com/example/sumtide/sumtide/Magnitudes -/
def k2 : Class := { plain "com/example/sumtide/sumtide/Magnitudes" (some 0) with
  accessFlags := 48
  interfaces := #[]
  cf := some (fileOf pool2 16 #[] #[{ accessFlags := 2, nameIndex := 7, descriptorIndex := 8, attributes := #[] }, { accessFlags := 8, nameIndex := 127, descriptorIndex := 128, attributes := #[] }] 48 4 #[] #[{ accessFlags := 24, nameIndex := 19, descriptorIndex := 20, attributes := #[] }, { accessFlags := 26, nameIndex := 108, descriptorIndex := 109, attributes := #[] }, { accessFlags := 26, nameIndex := 112, descriptorIndex := 109, attributes := #[] }])
  fields := #[{ name := "ZERO", type := (.array .long), accessFlags := 24, slot := 0, constantValue := 0 }, { name := "WORD_BITS", type := .int, accessFlags := 26, slot := 1, constantValue := 0 }, { name := "WORD_SHIFT", type := .int, accessFlags := 26, slot := 2, constantValue := 0 }]
  methods := #[k2m0, k2m1]
  instanceTypes := #[]
  staticTypes := #[(.array .long), .int, .int]
  resolved := Array.replicate 145 none
  statics := none }

def pool3 : Array CpInfo := pool [(1, u "java/lang/Cloneable"), (0, .class_ 1), (0, u "java/lang/Object"), (0, .class_ 3)] 3

/-- java/lang/Cloneable -/
def k3 : Class := { plain "java/lang/Cloneable" (some 0) with
  accessFlags := 1537
  interfaces := #[]
  cf := some (fileOf pool3 2 #[] #[] 1537 4 #[] #[])
  fields := #[]
  methods := #[]
  instanceTypes := #[]
  staticTypes := #[]
  resolved := Array.replicate 8 none
  statics := none }

def pool4 : Array CpInfo := pool [(1, u "java/io/Serializable"), (0, .class_ 1), (0, u "java/lang/Object"), (0, .class_ 3)] 3

/-- java/io/Serializable -/
def k4 : Class := { plain "java/io/Serializable" (some 0) with
  accessFlags := 1537
  interfaces := #[]
  cf := some (fileOf pool4 2 #[] #[] 1537 4 #[] #[])
  fields := #[]
  methods := #[]
  instanceTypes := #[]
  staticTypes := #[]
  resolved := Array.replicate 8 none
  statics := none }

/-- the primitive byte -/
def k5 : Class := { plain "byte" none with kind := .primitive 'B', accessFlags := 0x411 }
/-- [B -/
def k6 : Class := { plain "[B" (some 0) with kind := .array 5 .byte, interfaces := #[3, 4], accessFlags := 1041 }

/-- the primitive int -/
def k7 : Class := { plain "int" none with kind := .primitive 'I', accessFlags := 0x411 }
/-- [I -/
def k8 : Class := { plain "[I" (some 0) with kind := .array 7 .int, interfaces := #[3, 4], accessFlags := 1041 }

/-- the primitive long -/
def k9 : Class := { plain "long" none with kind := .primitive 'J', accessFlags := 0x411 }
/-- [J -/
def k10 : Class := { plain "[J" (some 0) with kind := .array 9 .long, interfaces := #[3, 4], accessFlags := 1041 }

def heap : Heap := #[]
def classes : Array Class := #[k0, k1, k2, k3, k4, k5, k6, k7, k8, k9, k10]
def interned : List (Array UInt16 × Addr) := []
def slotsUsed : Nat := 0
def theMethod : MethodId := ⟨1, 1⟩
def args0 : Array Value := #[.long 7, .long 7, .int 5, .int 5, .int 5]
def aboutOver (below : List Frame) : State where
  vm := { classes := classes, interned := interned.toArray }
  heap := heap
  slotsUsed := slotsUsed
  threads := #[{ frames := .invoking theMethod args0 :: below }]
def below0 : List Frame := [.native { method := ⟨0, 0⟩, args := #[] }]
def about1 : State := aboutOver below0
def p0 : Program := .bare "" "" ""
def e0 : Env := launch0.env 0 0 0
theorem w_frames : about1.frames = Frame.invoking theMethod args0 :: below0 := rfl
set_option maxRecDepth 65536 in
theorem w_args : argsFit about1.vm theMethod args0 = true := by decide +kernel
set_option maxRecDepth 65536 in
theorem w_heap : heapFits about1 = true := by decide +kernel
set_option maxRecDepth 65536 in
theorem w_runnable : about1.curStatus? = some .runnable := by decide +kernel
set_option maxRecDepth 65536 in
theorem w_alone : about1.alone = true := by decide +kernel
set_option maxRecDepth 65536 in
theorem w_named : about1.methodNamed? x = some theMethod := by decide +kernel
set_option maxRecDepth 65536 in
theorem w_hears : about1.hears theMethod below0 = true := by decide +kernel
set_option maxRecDepth 65536 in
theorem w_ripe : about1.ripe theMethod args0 below0 = true := by decide +kernel
theorem w_running : about1.status = .running := rfl
set_option maxRecDepth 65536 in
theorem w_room : about1.hasRoom e0.platform room_1 = true :=
  launch0.hasRoom_least _ room_1 (by decide +kernel) (by decide +kernel) (by decide +kernel) (by decide +kernel) (by decide +kernel) (by decide +kernel)
theorem allAtoms_all (ts : List Jvm.Cond) (a : Array Jvm.Value) (st : Jvm.State) : (allAtoms ts).before a st = ts.all (fun c => c.before a st) := by
  induction ts with
  | nil => rfl
  | cons c t ih =>
    show (Jvm.Cond.and c (allAtoms t)).before a st = _
    rw [Jvm.Cond.before_and, ih, List.all_cons]
def words1 : List Jvm.Cond := Jvm.Cond.code x code maxLocals ret :: tables_1
/-- a 'code' word, met by the world's own term for the bytes: nothing is compared byte by byte -/
theorem code_word {y : MethodName} {bytes : ByteArray} {mx : Nat} {rt : Option FieldType} {a : Array Value} {s : State} {m : MethodId} {meth : Method} {c : Code} (h1 : s.methodNamed? y = some m) (h2 : s.vm.method? m = some meth) (h3 : meth.code = some c) (h4 : c.code = bytes)
    (h5 : (c.maxLocals == mx && c.exceptionTable.isEmpty && decide (c.maxStack ≤ mostOperands) && decide (meth.sig.returnType = rt) && !meth.locks && decide (parseMethodDescriptor y.desc = some meth.sig)) = true) : (Jvm.Cond.code y bytes mx rt).before a s = true := by
  simp only [Bool.and_eq_true, beq_iff_eq, Bool.not_eq_true', decide_eq_true_eq] at h5
  obtain ⟨⟨⟨⟨⟨g1, g2⟩, g3⟩, g4⟩, g5⟩, g6⟩ := h5
  simp [Cond.before, Cond.holds, Cond.value, h1, h2, h3, h4, g1, g2, g3, g4, g5, g6]
def isCode : Jvm.Cond → Bool
  | .code _ _ _ _ => true
  | _ => false
theorem all_split {L : List Jvm.Cond} {P : Jvm.Cond → Bool} (h1 : L.all (fun c => isCode c || P c) = true) (h2 : ∀ c ∈ L.filter isCode, P c = true) : L.all P = true := by
  refine List.all_eq_true.mpr fun c hc => ?_
  have h := List.all_eq_true.mp h1 c hc
  rcases Bool.eq_false_or_eq_true (isCode c) with hi | hi
  · exact h2 c (List.mem_filter.mpr ⟨hc, hi⟩)
  · simpa [hi] using h
set_option maxRecDepth 65536 in
theorem w_c0 : (Jvm.Cond.code x code maxLocals ret).before args0 about1 = true := code_word (m := ⟨1, 1⟩) (meth := k1m1) (c := k1c1) (by decide +kernel) rfl rfl rfl (by decide +kernel)
set_option maxRecDepth 65536 in
theorem w_c1 : (Jvm.Cond.code ({ cls := "com/example/sumtide/sumtide/Magnitudes", name := "writeBytes", desc := "(I[J[BII)V" } : Jvm.MethodName) prog_20_method_6_code (9 : Nat) (Option.none : Option Jvm.ClassFile.FieldType)).before args0 about1 = true := code_word (m := ⟨2, 1⟩) (meth := k2m1) (c := k2c1) (by decide +kernel) rfl rfl rfl (by decide +kernel)
set_option maxRecDepth 65536 in
theorem w_c2 : (Jvm.Cond.code ({ cls := "com/example/sumtide/sumtide/MagnitudesWriteBytesPinLaw", name := "at", desc := "([BIIIJJJ)Z" } : Jvm.MethodName) method_3_code (15 : Nat) (Option.some Jvm.ClassFile.FieldType.boolean)).before args0 about1 = true := code_word (m := ⟨1, 2⟩) (meth := k1m2) (c := k1c2) (by decide +kernel) rfl rfl rfl (by decide +kernel)
def codes1 : List Jvm.Cond := [Jvm.Cond.code x code maxLocals ret, Jvm.Cond.code ({ cls := "com/example/sumtide/sumtide/Magnitudes", name := "writeBytes", desc := "(I[J[BII)V" } : Jvm.MethodName) prog_20_method_6_code (9 : Nat) (Option.none : Option Jvm.ClassFile.FieldType), Jvm.Cond.code ({ cls := "com/example/sumtide/sumtide/MagnitudesWriteBytesPinLaw", name := "at", desc := "([BIIIJJJ)Z" } : Jvm.MethodName) method_3_code (15 : Nat) (Option.some Jvm.ClassFile.FieldType.boolean)]
set_option maxRecDepth 65536 in
theorem codes_eq : words1.filter isCode = codes1 := rfl
theorem w_codes : ∀ c ∈ words1.filter isCode, c.before args0 about1 = true := by
  rw [codes_eq]
  intro c hc
  simp only [codes1, List.mem_cons, List.not_mem_nil, or_false] at hc
  rcases hc with rfl | rfl | rfl
  · exact w_c0
  · exact w_c1
  · exact w_c2
set_option maxRecDepth 65536 in
theorem w_t1 : words1.all (fun c => isCode c || c.before args0 about1) = true := by decide +kernel
theorem w_tables : (allAtoms (Jvm.Cond.code x code maxLocals ret :: tables_1)).before args0 about1 = true := by
  rw [allAtoms_all]
  show words1.all (fun c => c.before args0 about1) = true
  refine all_split ?_ w_codes
  rw [w_t1]
set_option maxRecDepth 65536 in
theorem w_case : (Jvm.Cond.and given_1 narrow_1).before args0 about1 = true := by decide +kernel
theorem w_applies : (headSpec (Jvm.Cond.code x code maxLocals ret :: tables_1) room_1).applies x e0.platform about1 = true :=
  (Spec.applies_iff w_frames).mpr ⟨w_running, w_runnable, w_alone, w_named, w_hears, w_ripe, w_room, w_tables⟩
theorem atStart : AtStart classFile x code maxLocals ret World_1 tables_1 room_1 Calls_1 rest_1 Pre_1 launch0 p0 e0 about1 theMethod args0 below0 :=
  ⟨lists_1, trivial, launch0.admits_env _ _ _, launch0.least_env, fairChoices_fair.cas, fairChoices_fair.clock, w_frames, w_args, w_heap, w_applies, trivial, trivial, w_case⟩
end start1
theorem witness_1 : WitnessClaimed_1 := ⟨start1.p0, start1.e0, start1.about1, start1.theMethod, start1.args0, start1.below0, start1.atStart⟩
end Jvm.Pilot.@@N@@
