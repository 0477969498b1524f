import JvmDerived
import JvmDerived.Pilot.@@N@@Statement
import JvmDerived.Pilot.@@N@@Code
set_option linter.unusedVariables false
set_option linter.unusedSimpArgs false
namespace Jvm.Pilot.@@N@@
open Jvm Jvm.ClassFile Sem Op Lib Jvm.Free Jvm.Stand Jvm.LawKit Jvm.RoadKit Bundle Jvm.Pilot.@@N@@.Jvm.D
/-! 0. one goal for a walk: from T with the frame g on top the run comes back with what Q says -/
def own_W (p : Program) (e : Env) (En : Outcome → State → List Loc → Nat → Nat → Prop) (below : List Frame) (kc ks : Nat) (Q : Option Value → Heap → List Loc → Prop) (T : State) (g : JFrame) : Prop :=
  ∃ s₂ o, Steps p.tables e below (T.setTop g) s₂ ∧ s₂.status = .running ∧ Ended s₂ below o ∧ ∃ v L, o = .returned v ∧ Q v s₂.heap L ∧ En o s₂ L kc ks
section OwnW
variable {En : Outcome → State → List Loc → Nat → Nat → Prop} {p : Program} {l : Launch} {e : Env} {R : Room} {s : State} {m : MethodId} {args : Array Value} {below : List Frame} {meth : Method} {c : Code} {T T' : State} {locs : List Loc} {cells slots kc ks : Nat} {Q : Option Value → Heap → List Loc → Prop} {g g' : JFrame} {pc pc' : Nat} {Ls : Array Slot} {st rest : List Value} {Z : State} {h h' : Heap} {a b : Addr} {sl : Nat}
theorem own_W.step (k : ∀ t, Steps p.tables e below (T'.setTop g') t → Steps p.tables e below (T.setTop g) t) (w : own_W p e En below kc ks Q T' g') : own_W p e En below kc ks Q T g := by
  obtain ⟨s2, o, h1, h2⟩ := w
  exact ⟨s2, o, k _ h1, h2⟩
theorem own_W.steps (k : Steps p.tables e below (T.setTop g) (T'.setTop g')) (w : own_W p e En below kc ks Q T' g') : own_W p e En below kc ks Q T g := by
  obtain ⟨s2, o, h1, h2⟩ := w
  exact ⟨s2, o, k.trans h1, h2⟩
theorem own_leave (X : Stand p l e R s m args below meth c T locs cells slots) (hlk : meth.locks = false) {v : Option Value} (hv : meth.sig.returnType = none → v = none) (hc : cells ≤ kc) (hs : slots ≤ ks)
    (k : ∀ fs, (∀ (f : JFrame) (acts : List Action), f.method = m → f.locked = none → f.entered = [] → (doReturn e (T.setTop f) acts v).1 = T.setFrames fs) → Steps p.tables e below (T.setTop g) (T.setFrames fs)) (hQ : Q v T.heap locs) : own_W p e (FrameEnd s) below kc ks Q T g := by
  obtain ⟨fs, hr, hrun, hended, hW, hsame⟩ := X.leave (v := v) hv hlk
  exact ⟨_, _, k fs hr, hrun, hended, v, locs, rfl, hQ, ⟨_, rfl⟩, hW, hsame.mono hc hs⟩
theorem own_retV (X : Stand p l e R s m args below meth c T locs cells slots) (hx : p.tables.exec = Jvm.exec) (hlk : meth.locks = false) (hret : meth.sig.returnType = none) (hd : decode c.code pc = .ok (.return_, 1)) (hc : cells ≤ kc) (hs : slots ≤ ks) (hQ : Q none T.heap locs) : own_W p e (FrameEnd s) below kc ks Q T (mkF m pc Ls []) :=
  own_leave X hlk (fun _ => rfl) hc hs (fun fs hr => X.returnOut hx hret hd hr) hQ
theorem own_retN {t : FieldType} (X : Stand p l e R s m args below meth c T locs cells slots) (hx : p.tables.exec = Jvm.exec) (hlk : meth.locks = false) (hret : meth.sig.returnType = some t) (ht : t = .boolean ∨ t = .byte ∨ t = .char ∨ t = .short) (hd : decode c.code pc = .ok (.ireturn, 1)) {z z' : Int32} (hz : nar t z = z') (hc : cells ≤ kc) (hs : slots ≤ ks) (hQ : Q (some (.int z')) T.heap locs) : own_W p e (FrameEnd s) below kc ks Q T (mkF m pc Ls (.int z :: rest)) := by
  subst hz
  exact own_leave X hlk (fun q => by rw [hret] at q; cases q) hc hs (fun fs hr => retN X hx hret ht hd hr) hQ
theorem own_retI (X : Stand p l e R s m args below meth c T locs cells slots) (hx : p.tables.exec = Jvm.exec) (hlk : meth.locks = false) (hret : meth.sig.returnType = some .int) (hd : decode c.code pc = .ok (.ireturn, 1)) {z : Int32} (hc : cells ≤ kc) (hs : slots ≤ ks) (hQ : Q (some (.int z)) T.heap locs) : own_W p e (FrameEnd s) below kc ks Q T (mkF m pc Ls (.int z :: rest)) :=
  own_leave X hlk (fun q => by rw [hret] at q; cases q) hc hs (fun fs hr => retOut X hx (t := .int) (w := .int z) (i := .ireturn) hret rfl (Or.inl ⟨rfl, Or.inl rfl, z, rfl⟩) hd hr) hQ
theorem own_retJ (X : Stand p l e R s m args below meth c T locs cells slots) (hx : p.tables.exec = Jvm.exec) (hlk : meth.locks = false) (hret : meth.sig.returnType = some .long) (hd : decode c.code pc = .ok (.lreturn, 1)) {z : Int64} (hc : cells ≤ kc) (hs : slots ≤ ks) (hQ : Q (some (.long z)) T.heap locs) : own_W p e (FrameEnd s) below kc ks Q T (mkF m pc Ls (.long z :: rest)) :=
  own_leave X hlk (fun q => by rw [hret] at q; cases q) hc hs (fun fs hr => retOut X hx (t := .long) (w := .long z) (i := .lreturn) hret rfl (Or.inr (Or.inl ⟨rfl, rfl, z, rfl⟩)) hd hr) hQ
theorem own_retA {t : FieldType} (X : Stand p l e R s m args below meth c T locs cells slots) (hx : p.tables.exec = Jvm.exec) (hlk : meth.locks = false) (hret : meth.sig.returnType = some t) (hn : narrow t (.ref a) = .ref a) (ht : t.isReference = true) (hd : decode c.code pc = .ok (.areturn, 1)) (hc : cells ≤ kc) (hs : slots ≤ ks) (hQ : Q (some (.ref a)) T.heap locs) : own_W p e (FrameEnd s) below kc ks Q T (mkF m pc Ls (.ref a :: rest)) :=
  own_leave X hlk (fun q => by rw [hret] at q; cases q) hc hs (fun fs hr => retOut X hx (t := t) (w := .ref a) (i := .areturn) hret hn (Or.inr (Or.inr (Or.inr (Or.inr ⟨rfl, ht, rfl⟩)))) hd hr) hQ
theorem own_iload (X : Stand p l e R s m args below meth c T locs cells slots) (hx : p.tables.exec = Jvm.exec) {k : Nat} {v : Int32} (hd : decode c.code pc = .ok (.iload k, 2)) (hl : Ls[k]? = some (.val (.int v))) (hp : pc + 2 = pc') (w : own_W p e En below kc ks Q T (mkF m pc' Ls (.int v :: st))) : own_W p e En below kc ks Q T (mkF m pc Ls (st)) := by
  subst hp; exact own_W.step (fun _ q => XS.iload X.here hx rfl hd hl q) w
theorem own_iloadN (X : Stand p l e R s m args below meth c T locs cells slots) (hx : p.tables.exec = Jvm.exec) {k : Fin 4} {v : Int32} (hd : decode c.code pc = .ok (.iload_n k, 1)) (hl : Ls[k.val]? = some (.val (.int v))) (hp : pc + 1 = pc') (w : own_W p e En below kc ks Q T (mkF m pc' Ls (.int v :: st))) : own_W p e En below kc ks Q T (mkF m pc Ls (st)) := by
  subst hp; exact own_W.step (fun _ q => XS.iloadN X.here hx rfl hd hl q) w
theorem own_lload (X : Stand p l e R s m args below meth c T locs cells slots) (hx : p.tables.exec = Jvm.exec) {k : Nat} {v : Int64} (hd : decode c.code pc = .ok (.lload k, 2)) (hl : Ls[k]? = some (.val (.long v))) (hp : pc + 2 = pc') (w : own_W p e En below kc ks Q T (mkF m pc' Ls (.long v :: st))) : own_W p e En below kc ks Q T (mkF m pc Ls (st)) := by
  subst hp; exact own_W.step (fun _ q => XS.lload X.here hx rfl hd hl q) w
theorem own_lloadN (X : Stand p l e R s m args below meth c T locs cells slots) (hx : p.tables.exec = Jvm.exec) {k : Fin 4} {v : Int64} (hd : decode c.code pc = .ok (.lload_n k, 1)) (hl : Ls[k.val]? = some (.val (.long v))) (hp : pc + 1 = pc') (w : own_W p e En below kc ks Q T (mkF m pc' Ls (.long v :: st))) : own_W p e En below kc ks Q T (mkF m pc Ls (st)) := by
  subst hp; exact own_W.step (fun _ q => XS.lloadN X.here hx rfl hd hl q) w
theorem own_aload (X : Stand p l e R s m args below meth c T locs cells slots) (hx : p.tables.exec = Jvm.exec) {k : Nat} {v : Value} (hd : decode c.code pc = .ok (.aload k, 2)) (hl : Ls[k]? = some (.val v)) (hv : v.isRef = true) (hp : pc + 2 = pc') (w : own_W p e En below kc ks Q T (mkF m pc' Ls (v :: st))) : own_W p e En below kc ks Q T (mkF m pc Ls (st)) := by
  subst hp; exact own_W.step (fun _ q => XS.aload X.here hx rfl hd hl hv q) w
theorem own_aloadN (X : Stand p l e R s m args below meth c T locs cells slots) (hx : p.tables.exec = Jvm.exec) {k : Fin 4} {v : Value} (hd : decode c.code pc = .ok (.aload_n k, 1)) (hl : Ls[k.val]? = some (.val v)) (hv : v.isRef = true) (hp : pc + 1 = pc') (w : own_W p e En below kc ks Q T (mkF m pc' Ls (v :: st))) : own_W p e En below kc ks Q T (mkF m pc Ls (st)) := by
  subst hp; exact own_W.step (fun _ q => XS.aloadN X.here hx rfl hd hl hv q) w
theorem own_istore (X : Stand p l e R s m args below meth c T locs cells slots) (hx : p.tables.exec = Jvm.exec) {k : Nat} {v : Int32} {l' : Array Slot} (hd : decode c.code pc = .ok (.istore k, 2)) (hl : storeLocals Ls k (.int v) = some l') (hp : pc + 2 = pc') (w : own_W p e En below kc ks Q T (mkF m pc' l' (st))) : own_W p e En below kc ks Q T (mkF m pc Ls (.int v :: st)) := by
  subst hp; exact own_W.step (fun _ q => XS.istore X.here hx rfl hd rfl hl q) w
theorem own_istoreN (X : Stand p l e R s m args below meth c T locs cells slots) (hx : p.tables.exec = Jvm.exec) {k : Fin 4} {v : Int32} {l' : Array Slot} (hd : decode c.code pc = .ok (.istore_n k, 1)) (hl : storeLocals Ls k.val (.int v) = some l') (hp : pc + 1 = pc') (w : own_W p e En below kc ks Q T (mkF m pc' l' (st))) : own_W p e En below kc ks Q T (mkF m pc Ls (.int v :: st)) := by
  subst hp; exact own_W.step (fun _ q => XS.istoreN X.here hx rfl hd rfl hl q) w
theorem own_lstore (X : Stand p l e R s m args below meth c T locs cells slots) (hx : p.tables.exec = Jvm.exec) {k : Nat} {v : Int64} {l' : Array Slot} (hd : decode c.code pc = .ok (.lstore k, 2)) (hl : storeLocals Ls k (.long v) = some l') (hp : pc + 2 = pc') (w : own_W p e En below kc ks Q T (mkF m pc' l' (st))) : own_W p e En below kc ks Q T (mkF m pc Ls (.long v :: st)) := by
  subst hp; exact own_W.step (fun _ q => XS.lstore X.here hx rfl hd rfl hl q) w
theorem own_lstoreN (X : Stand p l e R s m args below meth c T locs cells slots) (hx : p.tables.exec = Jvm.exec) {k : Fin 4} {v : Int64} {l' : Array Slot} (hd : decode c.code pc = .ok (.lstore_n k, 1)) (hl : storeLocals Ls k.val (.long v) = some l') (hp : pc + 1 = pc') (w : own_W p e En below kc ks Q T (mkF m pc' l' (st))) : own_W p e En below kc ks Q T (mkF m pc Ls (.long v :: st)) := by
  subst hp; exact own_W.step (fun _ q => XS.lstoreN X.here hx rfl hd rfl hl q) w
theorem own_astore (X : Stand p l e R s m args below meth c T locs cells slots) (hx : p.tables.exec = Jvm.exec) {k : Nat} {v : Value} {l' : Array Slot} (hd : decode c.code pc = .ok (.astore k, 2)) (hv : v.isRef = true) (hl : storeLocals Ls k v = some l') (hp : pc + 2 = pc') (w : own_W p e En below kc ks Q T (mkF m pc' l' (st))) : own_W p e En below kc ks Q T (mkF m pc Ls (v :: st)) := by
  subst hp; exact own_W.step (fun _ q => XS.astore X.here hx rfl hd rfl hv hl q) w
theorem own_astoreN (X : Stand p l e R s m args below meth c T locs cells slots) (hx : p.tables.exec = Jvm.exec) {k : Fin 4} {v : Value} {l' : Array Slot} (hd : decode c.code pc = .ok (.astore_n k, 1)) (hv : v.isRef = true) (hl : storeLocals Ls k.val v = some l') (hp : pc + 1 = pc') (w : own_W p e En below kc ks Q T (mkF m pc' l' (st))) : own_W p e En below kc ks Q T (mkF m pc Ls (v :: st)) := by
  subst hp; exact own_W.step (fun _ q => XS.astoreN X.here hx rfl hd rfl hv hl q) w
theorem own_iconst (X : Stand p l e R s m args below meth c T locs cells slots) (hx : p.tables.exec = Jvm.exec) {i : Int} (hd : decode c.code pc = .ok (.iconst i, 1)) (v : Int32) (hv : Int32.ofInt i = v) (hp : pc + 1 = pc') (w : own_W p e En below kc ks Q T (mkF m pc' Ls (.int v :: st))) : own_W p e En below kc ks Q T (mkF m pc Ls (st)) := by
  subst hp; exact own_W.step (fun _ q => XT.iconstV X.here hx rfl v hd hv q) w
theorem own_bipush (X : Stand p l e R s m args below meth c T locs cells slots) (hx : p.tables.exec = Jvm.exec) {i : Int} (hd : decode c.code pc = .ok (.bipush i, 2)) (v : Int32) (hv : (Int8.ofInt i).toInt32 = v) (hp : pc + 2 = pc') (w : own_W p e En below kc ks Q T (mkF m pc' Ls (.int v :: st))) : own_W p e En below kc ks Q T (mkF m pc Ls (st)) := by
  subst hp; exact own_W.step (fun _ q => XT.bipushV X.here hx rfl v hd hv q) w
theorem own_sipush (X : Stand p l e R s m args below meth c T locs cells slots) (hx : p.tables.exec = Jvm.exec) {i : Int} (hd : decode c.code pc = .ok (.sipush i, 3)) (v : Int32) (hv : (Int16.ofInt i).toInt32 = v) (hp : pc + 3 = pc') (w : own_W p e En below kc ks Q T (mkF m pc' Ls (.int v :: st))) : own_W p e En below kc ks Q T (mkF m pc Ls (st)) := by
  subst hp; exact own_W.step (fun _ q => XT.sipushV X.here hx rfl v hd hv q) w
theorem own_lconst (X : Stand p l e R s m args below meth c T locs cells slots) (hx : p.tables.exec = Jvm.exec) {k : Fin 2} (hd : decode c.code pc = .ok (.lconst k, 1)) (v : Int64) (hv : Int64.ofNat k = v) (hp : pc + 1 = pc') (w : own_W p e En below kc ks Q T (mkF m pc' Ls (.long v :: st))) : own_W p e En below kc ks Q T (mkF m pc Ls (st)) := by
  subst hp; exact own_W.step (fun _ q => XT.lconstV X.here hx rfl v hd hv q) w
theorem own_aconstNull (X : Stand p l e R s m args below meth c T locs cells slots) (hx : p.tables.exec = Jvm.exec)  (hd : decode c.code pc = .ok (.aconst_null, 1))  (hp : pc + 1 = pc') (w : own_W p e En below kc ks Q T (mkF m pc' Ls (.null :: st))) : own_W p e En below kc ks Q T (mkF m pc Ls (st)) := by
  subst hp; exact own_W.step (fun _ q => XS.aconstNull X.here hx rfl hd q) w
theorem own_ldcInt (X : Stand p l e R s m args below meth c T locs cells slots) (hx : p.tables.exec = Jvm.exec) {own : String} {index : Nat} {v : Int32} (hown : s.vm.findClass own = some m.cls) (hk : (Jvm.Cond.constant own index v).before args s = true) (hd : decode c.code pc = .ok (.ldc index, 2)) (hp : pc + 2 = pc') (w : own_W p e En below kc ks Q T (mkF m pc' Ls (.int v :: st))) : own_W p e En below kc ks Q T (mkF m pc Ls st) := by
  subst hp; exact own_W.step (X.ldcInt hx hown hk (g := mkF m pc Ls st) rfl hd) w
theorem own_ldcwInt (X : Stand p l e R s m args below meth c T locs cells slots) (hx : p.tables.exec = Jvm.exec) {own : String} {index : Nat} {v : Int32} (hown : s.vm.findClass own = some m.cls) (hk : (Jvm.Cond.constant own index v).before args s = true) (hd : decode c.code pc = .ok (.ldc_w index, 3)) (hp : pc + 3 = pc') (w : own_W p e En below kc ks Q T (mkF m pc' Ls (.int v :: st))) : own_W p e En below kc ks Q T (mkF m pc Ls st) := by
  subst hp; exact own_W.step (X.ldcwInt hx hown hk (g := mkF m pc Ls st) rfl hd) w
theorem own_ldc2Long (X : Stand p l e R s m args below meth c T locs cells slots) (hx : p.tables.exec = Jvm.exec) {own : String} {index : Nat} {v : Int64} (hown : s.vm.findClass own = some m.cls) (hk : (Jvm.Cond.constantLong own index v).before args s = true) (hd : decode c.code pc = .ok (.ldc2_w index, 3)) (hp : pc + 3 = pc') (w : own_W p e En below kc ks Q T (mkF m pc' Ls (.long v :: st))) : own_W p e En below kc ks Q T (mkF m pc Ls st) := by
  subst hp; exact own_W.step (X.ldc2Long hx hown hk (g := mkF m pc Ls st) rfl hd) w
theorem own_iadd (X : Stand p l e R s m args below meth c T locs cells slots) (hx : p.tables.exec = Jvm.exec) {x y : Int32} (hd : decode c.code pc = .ok (.iadd, 1))  (hp : pc + 1 = pc') (w : own_W p e En below kc ks Q T (mkF m pc' Ls (.int (x + y) :: st))) : own_W p e En below kc ks Q T (mkF m pc Ls (.int y :: .int x :: st)) := by
  subst hp; exact own_W.step (fun _ q => XS.iadd X.here hx rfl hd rfl q) w
theorem own_ladd (X : Stand p l e R s m args below meth c T locs cells slots) (hx : p.tables.exec = Jvm.exec) {x y : Int64} (hd : decode c.code pc = .ok (.ladd, 1))  (hp : pc + 1 = pc') (w : own_W p e En below kc ks Q T (mkF m pc' Ls (.long (x + y) :: st))) : own_W p e En below kc ks Q T (mkF m pc Ls (.long y :: .long x :: st)) := by
  subst hp; exact own_W.step (fun _ q => XS.ladd X.here hx rfl hd rfl q) w
theorem own_isub (X : Stand p l e R s m args below meth c T locs cells slots) (hx : p.tables.exec = Jvm.exec) {x y : Int32} (hd : decode c.code pc = .ok (.isub, 1))  (hp : pc + 1 = pc') (w : own_W p e En below kc ks Q T (mkF m pc' Ls (.int (x - y) :: st))) : own_W p e En below kc ks Q T (mkF m pc Ls (.int y :: .int x :: st)) := by
  subst hp; exact own_W.step (fun _ q => XS.isub X.here hx rfl hd rfl q) w
theorem own_lsub (X : Stand p l e R s m args below meth c T locs cells slots) (hx : p.tables.exec = Jvm.exec) {x y : Int64} (hd : decode c.code pc = .ok (.lsub, 1))  (hp : pc + 1 = pc') (w : own_W p e En below kc ks Q T (mkF m pc' Ls (.long (x - y) :: st))) : own_W p e En below kc ks Q T (mkF m pc Ls (.long y :: .long x :: st)) := by
  subst hp; exact own_W.step (fun _ q => XS.lsub X.here hx rfl hd rfl q) w
theorem own_imul (X : Stand p l e R s m args below meth c T locs cells slots) (hx : p.tables.exec = Jvm.exec) {x y : Int32} (hd : decode c.code pc = .ok (.imul, 1))  (hp : pc + 1 = pc') (w : own_W p e En below kc ks Q T (mkF m pc' Ls (.int (x * y) :: st))) : own_W p e En below kc ks Q T (mkF m pc Ls (.int y :: .int x :: st)) := by
  subst hp; exact own_W.step (fun _ q => XS.imul X.here hx rfl hd rfl q) w
theorem own_lmul (X : Stand p l e R s m args below meth c T locs cells slots) (hx : p.tables.exec = Jvm.exec) {x y : Int64} (hd : decode c.code pc = .ok (.lmul, 1))  (hp : pc + 1 = pc') (w : own_W p e En below kc ks Q T (mkF m pc' Ls (.long (x * y) :: st))) : own_W p e En below kc ks Q T (mkF m pc Ls (.long y :: .long x :: st)) := by
  subst hp; exact own_W.step (fun _ q => XS.lmul X.here hx rfl hd rfl q) w
theorem own_iand (X : Stand p l e R s m args below meth c T locs cells slots) (hx : p.tables.exec = Jvm.exec) {x y : Int32} (hd : decode c.code pc = .ok (.iand, 1))  (hp : pc + 1 = pc') (w : own_W p e En below kc ks Q T (mkF m pc' Ls (.int (x &&& y) :: st))) : own_W p e En below kc ks Q T (mkF m pc Ls (.int y :: .int x :: st)) := by
  subst hp; exact own_W.step (fun _ q => XS.iand X.here hx rfl hd rfl q) w
theorem own_land (X : Stand p l e R s m args below meth c T locs cells slots) (hx : p.tables.exec = Jvm.exec) {x y : Int64} (hd : decode c.code pc = .ok (.land, 1))  (hp : pc + 1 = pc') (w : own_W p e En below kc ks Q T (mkF m pc' Ls (.long (x &&& y) :: st))) : own_W p e En below kc ks Q T (mkF m pc Ls (.long y :: .long x :: st)) := by
  subst hp; exact own_W.step (fun _ q => XS.land X.here hx rfl hd rfl q) w
theorem own_ior (X : Stand p l e R s m args below meth c T locs cells slots) (hx : p.tables.exec = Jvm.exec) {x y : Int32} (hd : decode c.code pc = .ok (.ior, 1))  (hp : pc + 1 = pc') (w : own_W p e En below kc ks Q T (mkF m pc' Ls (.int (x ||| y) :: st))) : own_W p e En below kc ks Q T (mkF m pc Ls (.int y :: .int x :: st)) := by
  subst hp; exact own_W.step (fun _ q => XS.ior X.here hx rfl hd rfl q) w
theorem own_lor (X : Stand p l e R s m args below meth c T locs cells slots) (hx : p.tables.exec = Jvm.exec) {x y : Int64} (hd : decode c.code pc = .ok (.lor, 1))  (hp : pc + 1 = pc') (w : own_W p e En below kc ks Q T (mkF m pc' Ls (.long (x ||| y) :: st))) : own_W p e En below kc ks Q T (mkF m pc Ls (.long y :: .long x :: st)) := by
  subst hp; exact own_W.step (fun _ q => XS.lor X.here hx rfl hd rfl q) w
theorem own_ixor (X : Stand p l e R s m args below meth c T locs cells slots) (hx : p.tables.exec = Jvm.exec) {x y : Int32} (hd : decode c.code pc = .ok (.ixor, 1))  (hp : pc + 1 = pc') (w : own_W p e En below kc ks Q T (mkF m pc' Ls (.int (x ^^^ y) :: st))) : own_W p e En below kc ks Q T (mkF m pc Ls (.int y :: .int x :: st)) := by
  subst hp; exact own_W.step (fun _ q => XS.ixor X.here hx rfl hd rfl q) w
theorem own_lxor (X : Stand p l e R s m args below meth c T locs cells slots) (hx : p.tables.exec = Jvm.exec) {x y : Int64} (hd : decode c.code pc = .ok (.lxor, 1))  (hp : pc + 1 = pc') (w : own_W p e En below kc ks Q T (mkF m pc' Ls (.long (x ^^^ y) :: st))) : own_W p e En below kc ks Q T (mkF m pc Ls (.long y :: .long x :: st)) := by
  subst hp; exact own_W.step (fun _ q => XS.lxor X.here hx rfl hd rfl q) w
theorem own_idiv (X : Stand p l e R s m args below meth c T locs cells slots) (hx : p.tables.exec = Jvm.exec) {x y : Int32} (hd : decode c.code pc = .ok (.idiv, 1)) (hy : y ≠ 0) (hp : pc + 1 = pc') (w : own_W p e En below kc ks Q T (mkF m pc' Ls (.int (x / y) :: st))) : own_W p e En below kc ks Q T (mkF m pc Ls (.int y :: .int x :: st)) := by
  subst hp; exact own_W.step (fun _ q => XS.idiv X.here hx rfl hd rfl hy q) w
theorem own_ldiv (X : Stand p l e R s m args below meth c T locs cells slots) (hx : p.tables.exec = Jvm.exec) {x y : Int64} (hd : decode c.code pc = .ok (.ldiv, 1)) (hy : y ≠ 0) (hp : pc + 1 = pc') (w : own_W p e En below kc ks Q T (mkF m pc' Ls (.long (x / y) :: st))) : own_W p e En below kc ks Q T (mkF m pc Ls (.long y :: .long x :: st)) := by
  subst hp; exact own_W.step (fun _ q => XS.ldiv X.here hx rfl hd rfl hy q) w
theorem own_irem (X : Stand p l e R s m args below meth c T locs cells slots) (hx : p.tables.exec = Jvm.exec) {x y : Int32} (hd : decode c.code pc = .ok (.irem, 1)) (hy : y ≠ 0) (hp : pc + 1 = pc') (w : own_W p e En below kc ks Q T (mkF m pc' Ls (.int (x % y) :: st))) : own_W p e En below kc ks Q T (mkF m pc Ls (.int y :: .int x :: st)) := by
  subst hp; exact own_W.step (fun _ q => iremM X hx rfl hd rfl hy q) w
theorem own_lrem (X : Stand p l e R s m args below meth c T locs cells slots) (hx : p.tables.exec = Jvm.exec) {x y : Int64} (hd : decode c.code pc = .ok (.lrem, 1)) (hy : y ≠ 0) (hp : pc + 1 = pc') (w : own_W p e En below kc ks Q T (mkF m pc' Ls (.long (x % y) :: st))) : own_W p e En below kc ks Q T (mkF m pc Ls (.long y :: .long x :: st)) := by
  subst hp; exact own_W.step (fun _ q => XS.lrem X.here hx rfl hd rfl hy (by rw [lrem_mod]; exact q)) w
theorem own_ineg (X : Stand p l e R s m args below meth c T locs cells slots) (hx : p.tables.exec = Jvm.exec) {x : Int32} (hd : decode c.code pc = .ok (.ineg, 1))  (hp : pc + 1 = pc') (w : own_W p e En below kc ks Q T (mkF m pc' Ls (.int (-x) :: st))) : own_W p e En below kc ks Q T (mkF m pc Ls (.int x :: st)) := by
  subst hp; exact own_W.step (fun _ q => XS.ineg X.here hx rfl hd rfl q) w
theorem own_lneg (X : Stand p l e R s m args below meth c T locs cells slots) (hx : p.tables.exec = Jvm.exec) {x : Int64} (hd : decode c.code pc = .ok (.lneg, 1))  (hp : pc + 1 = pc') (w : own_W p e En below kc ks Q T (mkF m pc' Ls (.long (-x) :: st))) : own_W p e En below kc ks Q T (mkF m pc Ls (.long x :: st)) := by
  subst hp; exact own_W.step (fun _ q => XS.lneg X.here hx rfl hd rfl q) w
theorem own_i2l (X : Stand p l e R s m args below meth c T locs cells slots) (hx : p.tables.exec = Jvm.exec) {x : Int32} (hd : decode c.code pc = .ok (.i2l, 1))  (hp : pc + 1 = pc') (w : own_W p e En below kc ks Q T (mkF m pc' Ls (.long (x.toInt64) :: st))) : own_W p e En below kc ks Q T (mkF m pc Ls (.int x :: st)) := by
  subst hp; exact own_W.step (fun _ q => XS.i2l X.here hx rfl hd rfl q) w
theorem own_l2i (X : Stand p l e R s m args below meth c T locs cells slots) (hx : p.tables.exec = Jvm.exec) {x : Int64} (hd : decode c.code pc = .ok (.l2i, 1))  (hp : pc + 1 = pc') (w : own_W p e En below kc ks Q T (mkF m pc' Ls (.int (x.toInt32) :: st))) : own_W p e En below kc ks Q T (mkF m pc Ls (.long x :: st)) := by
  subst hp; exact own_W.step (fun _ q => XS.l2i X.here hx rfl hd rfl q) w
theorem own_i2b (X : Stand p l e R s m args below meth c T locs cells slots) (hx : p.tables.exec = Jvm.exec) {x : Int32} (hd : decode c.code pc = .ok (.i2b, 1))  (hp : pc + 1 = pc') (w : own_W p e En below kc ks Q T (mkF m pc' Ls (.int (x.toInt8.toInt32) :: st))) : own_W p e En below kc ks Q T (mkF m pc Ls (.int x :: st)) := by
  subst hp; exact own_W.step (fun _ q => XS.i2b X.here hx rfl hd rfl q) w
theorem own_i2s (X : Stand p l e R s m args below meth c T locs cells slots) (hx : p.tables.exec = Jvm.exec) {x : Int32} (hd : decode c.code pc = .ok (.i2s, 1))  (hp : pc + 1 = pc') (w : own_W p e En below kc ks Q T (mkF m pc' Ls (.int (x.toInt16.toInt32) :: st))) : own_W p e En below kc ks Q T (mkF m pc Ls (.int x :: st)) := by
  subst hp; exact own_W.step (fun _ q => XS.i2s X.here hx rfl hd rfl q) w
theorem own_i2c (X : Stand p l e R s m args below meth c T locs cells slots) (hx : p.tables.exec = Jvm.exec) {x : Int32} (hd : decode c.code pc = .ok (.i2c, 1))  (hp : pc + 1 = pc') (w : own_W p e En below kc ks Q T (mkF m pc' Ls (.int (x.toUInt32.toUInt16.toUInt32.toInt32) :: st))) : own_W p e En below kc ks Q T (mkF m pc Ls (.int x :: st)) := by
  subst hp; exact own_W.step (fun _ q => XS.i2c X.here hx rfl hd rfl q) w
theorem own_ishl (X : Stand p l e R s m args below meth c T locs cells slots) (hx : p.tables.exec = Jvm.exec) {x y : Int32} (hd : decode c.code pc = .ok (.ishl, 1))  (hp : pc + 1 = pc') (w : own_W p e En below kc ks Q T (mkF m pc' Ls (.int (x <<< (y &&& 31)) :: st))) : own_W p e En below kc ks Q T (mkF m pc Ls (.int y :: .int x :: st)) := by
  subst hp; exact own_W.step (fun _ q => XS.ishl X.here hx rfl hd rfl q) w
theorem own_ishr (X : Stand p l e R s m args below meth c T locs cells slots) (hx : p.tables.exec = Jvm.exec) {x y : Int32} (hd : decode c.code pc = .ok (.ishr, 1))  (hp : pc + 1 = pc') (w : own_W p e En below kc ks Q T (mkF m pc' Ls (.int (x >>> (y &&& 31)) :: st))) : own_W p e En below kc ks Q T (mkF m pc Ls (.int y :: .int x :: st)) := by
  subst hp; exact own_W.step (fun _ q => XS.ishr X.here hx rfl hd rfl q) w
theorem own_iushr (X : Stand p l e R s m args below meth c T locs cells slots) (hx : p.tables.exec = Jvm.exec) {x y : Int32} (hd : decode c.code pc = .ok (.iushr, 1))  (hp : pc + 1 = pc') (w : own_W p e En below kc ks Q T (mkF m pc' Ls (.int ((x.toUInt32 >>> (y &&& 31).toUInt32).toInt32) :: st))) : own_W p e En below kc ks Q T (mkF m pc Ls (.int y :: .int x :: st)) := by
  subst hp; exact own_W.step (fun _ q => XS.iushr X.here hx rfl hd rfl q) w
theorem own_lshl (X : Stand p l e R s m args below meth c T locs cells slots) (hx : p.tables.exec = Jvm.exec) {x : Int64} {y : Int32} (hd : decode c.code pc = .ok (.lshl, 1))  (hp : pc + 1 = pc') (w : own_W p e En below kc ks Q T (mkF m pc' Ls (.long (x <<< (y &&& 0x3f).toInt64) :: st))) : own_W p e En below kc ks Q T (mkF m pc Ls (.int y :: .long x :: st)) := by
  subst hp; exact own_W.step (fun _ q => XS.lshl X.here hx rfl hd rfl q) w
theorem own_lshr (X : Stand p l e R s m args below meth c T locs cells slots) (hx : p.tables.exec = Jvm.exec) {x : Int64} {y : Int32} (hd : decode c.code pc = .ok (.lshr, 1))  (hp : pc + 1 = pc') (w : own_W p e En below kc ks Q T (mkF m pc' Ls (.long (x >>> (y &&& 0x3f).toInt64) :: st))) : own_W p e En below kc ks Q T (mkF m pc Ls (.int y :: .long x :: st)) := by
  subst hp; exact own_W.step (fun _ q => XS.lshr X.here hx rfl hd rfl q) w
theorem own_lushr (X : Stand p l e R s m args below meth c T locs cells slots) (hx : p.tables.exec = Jvm.exec) {x : Int64} {y : Int32} (hd : decode c.code pc = .ok (.lushr, 1))  (hp : pc + 1 = pc') (w : own_W p e En below kc ks Q T (mkF m pc' Ls (.long ((x.toUInt64 >>> (y &&& 0x3f).toInt64.toUInt64).toInt64) :: st))) : own_W p e En below kc ks Q T (mkF m pc Ls (.int y :: .long x :: st)) := by
  subst hp; exact own_W.step (fun _ q => XS.lushr X.here hx rfl hd rfl q) w
theorem own_lcmp (X : Stand p l e R s m args below meth c T locs cells slots) (hx : p.tables.exec = Jvm.exec) {x y : Int64} (hd : decode c.code pc = .ok (.lcmp, 1))  (hp : pc + 1 = pc') (w : own_W p e En below kc ks Q T (mkF m pc' Ls (.int (XT.cmpL x y) :: st))) : own_W p e En below kc ks Q T (mkF m pc Ls (.long y :: .long x :: st)) := by
  subst hp; exact own_W.step (fun _ q => XT.lcmp X.here hx rfl hd rfl q) w
theorem own_iinc (X : Stand p l e R s m args below meth c T locs cells slots) (hx : p.tables.exec = Jvm.exec) {k : Nat} {cst : Int} (hd : decode c.code pc = .ok (.iinc k cst, 3)) (v : Int32) (hv : Int32.ofInt cst = v) {x : Int32} {l' : Array Slot} (hl : Ls[k]? = some (.val (.int x))) (hl' : storeLocals Ls k (.int (x + v)) = some l') (hp : pc + 3 = pc') (w : own_W p e En below kc ks Q T (mkF m pc' l' (st))) : own_W p e En below kc ks Q T (mkF m pc Ls (st)) := by
  subst hp; exact own_W.step (fun _ q => XT.iincV X.here hx rfl v hd hv hl hl' q) w
theorem own_dup (X : Stand p l e R s m args below meth c T locs cells slots) (hx : p.tables.exec = Jvm.exec) {x : Value} (hd : decode c.code pc = .ok (.dup, 1)) (hc : x.category = 1) (hp : pc + 1 = pc') (w : own_W p e En below kc ks Q T (mkF m pc' Ls (x :: x :: st))) : own_W p e En below kc ks Q T (mkF m pc Ls (x :: st)) := by
  subst hp; exact own_W.step (fun _ q => XS.dup X.here hx rfl hd rfl hc q) w
theorem own_pop (X : Stand p l e R s m args below meth c T locs cells slots) (hx : p.tables.exec = Jvm.exec) {x : Value} (hd : decode c.code pc = .ok (.pop, 1)) (hc : x.category = 1) (hp : pc + 1 = pc') (w : own_W p e En below kc ks Q T (mkF m pc' Ls (st))) : own_W p e En below kc ks Q T (mkF m pc Ls (x :: st)) := by
  subst hp; exact own_W.step (fun _ q => XS.pop X.here hx rfl hd rfl hc q) w
theorem own_dupX1 (X : Stand p l e R s m args below meth c T locs cells slots) (hx : p.tables.exec = Jvm.exec) {x y : Value} (hd : decode c.code pc = .ok (.dup_x1, 1)) (hc : x.category = 1) (hc2 : y.category = 1) (hp : pc + 1 = pc') (w : own_W p e En below kc ks Q T (mkF m pc' Ls (x :: y :: x :: st))) : own_W p e En below kc ks Q T (mkF m pc Ls (x :: y :: st)) := by
  subst hp; exact own_W.step (fun _ q => XS.dupX1 X.here hx rfl hd rfl hc hc2 q) w
theorem own_dup2 (X : Stand p l e R s m args below meth c T locs cells slots) (hx : p.tables.exec = Jvm.exec) {x y : Value} (hd : decode c.code pc = .ok (.dup2, 1)) (hc : x.category = 1) (hc2 : y.category = 1) (hp : pc + 1 = pc') (w : own_W p e En below kc ks Q T (mkF m pc' Ls (x :: y :: x :: y :: st))) : own_W p e En below kc ks Q T (mkF m pc Ls (x :: y :: st)) := by
  subst hp; exact own_W.step (fun _ q => XT.dup2 X.here hx rfl hd rfl hc hc2 q) w
theorem own_dup2L (X : Stand p l e R s m args below meth c T locs cells slots) (hx : p.tables.exec = Jvm.exec) {x : Int64} (hd : decode c.code pc = .ok (.dup2, 1))  (hp : pc + 1 = pc') (w : own_W p e En below kc ks Q T (mkF m pc' Ls (.long x :: .long x :: st))) : own_W p e En below kc ks Q T (mkF m pc Ls (.long x :: st)) := by
  subst hp; exact own_W.step (fun _ q => XT.dup2L X.here hx rfl hd rfl q) w
theorem own_goto (X : Stand p l e R s m args below meth c T locs cells slots) (hx : p.tables.exec = Jvm.exec) {o : Int} (hd : decode c.code pc = .ok (.goto o, 3)) {pc' : Nat} (ho : 0 ≤ (pc : Int) + o) (hp : ((pc : Int) + o).toNat = pc') (w : own_W p e En below kc ks Q T (mkF m pc' Ls st)) : own_W p e En below kc ks Q T (mkF m pc Ls st) :=
  own_W.step (fun _ q => XS.goto X.here hx rfl rfl hd ho hp q) w
theorem own_ifYes (X : Stand p l e R s m args below meth c T locs cells slots) (hx : p.tables.exec = Jvm.exec) {cd : Jvm.ClassFile.Cond} {x : Int32} {o : Int} (hd : decode c.code pc = .ok (.ifCond cd o, 3)) (hc : ifCond.holds cd x = true) {pc' : Nat} (ho : 0 ≤ (pc : Int) + o) (hp : ((pc : Int) + o).toNat = pc') (w : own_W p e En below kc ks Q T (mkF m pc' Ls st)) : own_W p e En below kc ks Q T (mkF m pc Ls (.int x :: st)) :=
  own_W.step (fun _ q => XS.ifYes X.here hx rfl rfl hd rfl hc ho hp q) w
theorem own_ifNo (X : Stand p l e R s m args below meth c T locs cells slots) (hx : p.tables.exec = Jvm.exec) {cd : Jvm.ClassFile.Cond} {x : Int32} {o : Int} (hd : decode c.code pc = .ok (.ifCond cd o, 3)) (hc : ifCond.holds cd x = false) (hp : pc + 3 = pc') (w : own_W p e En below kc ks Q T (mkF m pc' Ls st)) : own_W p e En below kc ks Q T (mkF m pc Ls (.int x :: st)) := by
  subst hp; exact own_W.step (fun _ q => XS.ifNo X.here hx rfl hd rfl hc q) w
theorem own_icmpYes (X : Stand p l e R s m args below meth c T locs cells slots) (hx : p.tables.exec = Jvm.exec) {cd : Jvm.ClassFile.Cond} {x y : Int32} {o : Int} (hd : decode c.code pc = .ok (.if_icmp cd o, 3)) (hc : if_icmp.holds cd x y = true) {pc' : Nat} (ho : 0 ≤ (pc : Int) + o) (hp : ((pc : Int) + o).toNat = pc') (w : own_W p e En below kc ks Q T (mkF m pc' Ls st)) : own_W p e En below kc ks Q T (mkF m pc Ls (.int y :: .int x :: st)) :=
  own_W.step (fun _ q => XS.icmpYes X.here hx rfl rfl hd rfl hc ho hp q) w
theorem own_icmpNo (X : Stand p l e R s m args below meth c T locs cells slots) (hx : p.tables.exec = Jvm.exec) {cd : Jvm.ClassFile.Cond} {x y : Int32} {o : Int} (hd : decode c.code pc = .ok (.if_icmp cd o, 3)) (hc : if_icmp.holds cd x y = false) (hp : pc + 3 = pc') (w : own_W p e En below kc ks Q T (mkF m pc' Ls st)) : own_W p e En below kc ks Q T (mkF m pc Ls (.int y :: .int x :: st)) := by
  subst hp; exact own_W.step (fun _ q => XS.icmpNo X.here hx rfl hd rfl hc q) w
theorem own_ifnullYes (X : Stand p l e R s m args below meth c T locs cells slots) (hx : p.tables.exec = Jvm.exec) {o : Int} (hd : decode c.code pc = .ok (.ifnull o, 3)) {pc' : Nat} (ho : 0 ≤ (pc : Int) + o) (hp : ((pc : Int) + o).toNat = pc') (w : own_W p e En below kc ks Q T (mkF m pc' Ls st)) : own_W p e En below kc ks Q T (mkF m pc Ls (.null :: st)) :=
  own_W.step (fun _ q => XS.ifnullYes X.here hx rfl rfl hd rfl ho hp q) w
theorem own_ifnullNo (X : Stand p l e R s m args below meth c T locs cells slots) (hx : p.tables.exec = Jvm.exec) {o : Int} (hd : decode c.code pc = .ok (.ifnull o, 3)) (hp : pc + 3 = pc') (w : own_W p e En below kc ks Q T (mkF m pc' Ls st)) : own_W p e En below kc ks Q T (mkF m pc Ls (.ref b :: st)) := by
  subst hp; exact own_W.step (fun _ q => XS.ifnullNo X.here hx rfl hd rfl q) w
theorem own_ifnonnullYes (X : Stand p l e R s m args below meth c T locs cells slots) (hx : p.tables.exec = Jvm.exec) {o : Int} (hd : decode c.code pc = .ok (.ifnonnull o, 3)) {pc' : Nat} (ho : 0 ≤ (pc : Int) + o) (hp : ((pc : Int) + o).toNat = pc') (w : own_W p e En below kc ks Q T (mkF m pc' Ls st)) : own_W p e En below kc ks Q T (mkF m pc Ls (.ref b :: st)) :=
  own_W.step (fun _ q => XS.ifnonnullYes X.here hx rfl rfl hd rfl ho hp q) w
theorem own_ifnonnullNo (X : Stand p l e R s m args below meth c T locs cells slots) (hx : p.tables.exec = Jvm.exec) {o : Int} (hd : decode c.code pc = .ok (.ifnonnull o, 3)) (hp : pc + 3 = pc') (w : own_W p e En below kc ks Q T (mkF m pc' Ls st)) : own_W p e En below kc ks Q T (mkF m pc Ls (.null :: st)) := by
  subst hp; exact own_W.step (fun _ q => XS.ifnonnullNo X.here hx rfl hd rfl q) w
/-- an array: its kind, its length, what each place holds -/
def own_A (Z : State) (h : Heap) (a : Addr) (ty : FieldType) (n : Nat) (f : Nat → Value) : Prop := ∃ c : Cell, Arr Z h a c ty ∧ c.slots.size = n ∧ n < 2 ^ 31 ∧ (∀ i, i < n → c.slots[i]? = some (f i)) ∧ ∀ i, i < n → fits ty (f i) = true
/-- the int j names the place i, which lies in an array of n places -/
def own_In (j : Int32) (i n : Nat) : Prop := j.toInt = (i : Int) ∧ i < n
variable {ty : FieldType} {n i : Nat} {f f' : Nat → Value} {j : Int32}
def own_k0 (_ : Nat) : Int32 := 0
def own_k0L (_ : Nat) : Int64 := 0
def own_up {α : Type} (f : Nat → α) (k : Nat) (x : α) (z : Nat) : α := if z = k then x else f z
theorem own_up_same {α : Type} (f : Nat → α) (k : Nat) (x : α) : own_up f k x k = x := if_pos rfl
theorem own_up_other {α : Type} (f : Nat → α) (k : Nat) (x : α) (z : Nat) (q : z ≠ k) : own_up f k x z = f z := if_neg q
theorem own_In.nat (q : own_In j i n) : j.toNatClampNeg = i := by
  show j.toInt.toNat = i
  rw [q.1]; rfl
theorem own_In.inb {cl : Cell} (q : own_In j i n) (S : cl.slots.size = n) : ¬ (j < 0 ∨ cl.slots.size ≤ j.toNatClampNeg) := by
  rw [q.nat, S]
  have q1 := q.1
  have q2 := q.2
  rintro (r | r)
  · rw [Int32.lt_iff_toInt_lt] at r
    have z : (0 : Int32).toInt = 0 := rfl
    omega
  · omega
theorem own_A.lt (F : own_A Z h a ty n f) : a < h.size := by obtain ⟨c, A, -⟩ := F; exact A.lt
theorem own_A.len (F : own_A Z h a ty n f) : n < 2 ^ 31 := by obtain ⟨c, -, -, q, -, -⟩ := F; exact q
theorem own_A.ext (F : own_A Z h a ty n f) (E : Ext h h') : own_A Z h' a ty n f := by obtain ⟨c, A, r⟩ := F; exact ⟨c, A.ext E, r⟩
theorem own_A.other {v : Value} (F : own_A Z h b ty n f) (W : Wr h h' a sl v) (q : b ≠ a) : own_A Z h' b ty n f := by obtain ⟨c, A, r⟩ := F; exact ⟨c, A.other W q, r⟩
theorem own_A.keep {ws : List Addr} (F : own_A Z h a ty n f) (K : Keep h h' ws) (q : a ∉ ws) : own_A Z h' a ty n f := by obtain ⟨c, A, r⟩ := F; exact ⟨c, ⟨K.2.1 a c A.1 q, A.2⟩, r⟩
theorem own_A.congr (F : own_A Z h a ty n f) (q : ∀ i, i < n → f i = f' i) : own_A Z h a ty n f' := by
  obtain ⟨c, A, r1, r2, r3, r4⟩ := F
  exact ⟨c, A, r1, r2, fun i hi => by rw [r3 i hi, q i hi], fun i hi => by rw [← q i hi]; exact r4 i hi⟩
theorem own_A.fit (F : own_A Z h a ty n f) {i : Nat} (hi : i < n) : fits ty (f i) = true := by obtain ⟨c, A, r1, r2, r3, r4⟩ := F; exact r4 i hi
theorem own_A.new {k : ClassId} {z : Int32} (A : Arr Z h a (newA k ty z) ty) (q : ¬ z < 0) (hn : z.toNatClampNeg = n) : own_A Z h a ty n (fun _ => defaultValue ty) := by
  subst hn
  refine ⟨_, A, sz_new _ _ _, (back32 q).2, fun i hi => ?_, fun i _ => by cases ty <;> rfl⟩
  show (Array.replicate z.toNatClampNeg (defaultValue ty))[i]? = _
  rw [Array.getElem?_replicate, if_pos hi]
theorem own_A.put {cl : Cell} {v : Value} (A : Arr Z h a cl ty) (S : cl.slots.size = n) (hn : n < 2 ^ 31) (H : ∀ i, i < n → cl.slots[i]? = some (f i)) (G : ∀ i, i < n → fits ty (f i) = true) (hv : fits ty v = true) (q : own_In j i n) (W : Wr h h' a j.toNatClampNeg v) : own_A Z h' a ty n (fun z => if z = i then v else f z) := by
  refine ⟨_, A.same W, by rw [sz_set]; exact S, hn, fun k hk => ?_, fun k hk => ?_⟩
  rotate_left
  · show fits ty (if k = i then v else f k) = true
    by_cases e : k = i
    · rw [if_pos e]; exact hv
    · rw [if_neg e]; exact G k hk
  show (cl.slots.setIfInBounds j.toNatClampNeg v)[k]? = some (if k = i then v else f k)
  rw [q.nat, Array.getElem?_setIfInBounds]
  by_cases e : i = k
  · subst e
    rw [if_pos rfl, if_pos (by rw [S]; exact hk), if_pos rfl]
  · rw [if_neg e, if_neg (fun z => e z.symm), H k hk]
theorem own_stI (X : Stand p l e R s m args below meth c T locs cells slots) (hx : p.tables.exec = Jvm.exec) (hZ : Z.Warmed39 s.vm) (eT : T.heap = h) (F : own_A Z h a .int n f) {x : Int32} (hi : own_In j i n) {g : JFrame} (hg : g.method = m) {rest : List Value} (hs : g.stack = .int x :: .int j :: .ref a :: rest) (hd : decode c.code g.pc = .ok (.iastore, 1)) :
    ∃ T' h', Stand p l e R s m args below meth c T' (locs ++ [⟨a, j.toNatClampNeg⟩]) cells slots ∧ T'.heap = h' ∧ Wr h h' a j.toNatClampNeg (.int (x)) ∧ own_A Z h' a .int n (fun z => if z = i then .int (x) else f z) ∧ ∀ target, Steps p.tables e below (T'.setTop { g with pc := g.pc + 1, stack := rest }) target → Steps p.tables e below (T.setTop g) target := by
  obtain ⟨cl, A, S, hn, H, G⟩ := F
  obtain ⟨T', h', X', e', W', st'⟩ := stI X hx hZ eT A (hi.inb S) hg hs hd
  exact ⟨T', h', X', e', W', own_A.put A S hn H G rfl hi W', st'⟩
theorem own_stJ (X : Stand p l e R s m args below meth c T locs cells slots) (hx : p.tables.exec = Jvm.exec) (hZ : Z.Warmed39 s.vm) (eT : T.heap = h) (F : own_A Z h a .long n f) {x : Int64} (hi : own_In j i n) {g : JFrame} (hg : g.method = m) {rest : List Value} (hs : g.stack = .long x :: .int j :: .ref a :: rest) (hd : decode c.code g.pc = .ok (.lastore, 1)) :
    ∃ T' h', Stand p l e R s m args below meth c T' (locs ++ [⟨a, j.toNatClampNeg⟩]) cells slots ∧ T'.heap = h' ∧ Wr h h' a j.toNatClampNeg (.long (x)) ∧ own_A Z h' a .long n (fun z => if z = i then .long (x) else f z) ∧ ∀ target, Steps p.tables e below (T'.setTop { g with pc := g.pc + 1, stack := rest }) target → Steps p.tables e below (T.setTop g) target := by
  obtain ⟨cl, A, S, hn, H, G⟩ := F
  obtain ⟨T', h', X', e', W', st'⟩ := stJ X hx hZ eT A (hi.inb S) hg hs hd
  exact ⟨T', h', X', e', W', own_A.put A S hn H G rfl hi W', st'⟩
theorem own_stB (X : Stand p l e R s m args below meth c T locs cells slots) (hx : p.tables.exec = Jvm.exec) (hZ : Z.Warmed39 s.vm) (eT : T.heap = h) (F : own_A Z h a .byte n f) {x : Int32} (hi : own_In j i n) {g : JFrame} (hg : g.method = m) {rest : List Value} (hs : g.stack = .int x :: .int j :: .ref a :: rest) (hd : decode c.code g.pc = .ok (.bastore, 1)) :
    ∃ T' h', Stand p l e R s m args below meth c T' (locs ++ [⟨a, j.toNatClampNeg⟩]) cells slots ∧ T'.heap = h' ∧ Wr h h' a j.toNatClampNeg (.int (x.toInt8.toInt32)) ∧ own_A Z h' a .byte n (fun z => if z = i then .int (x.toInt8.toInt32) else f z) ∧ ∀ target, Steps p.tables e below (T'.setTop { g with pc := g.pc + 1, stack := rest }) target → Steps p.tables e below (T.setTop g) target := by
  obtain ⟨cl, A, S, hn, H, G⟩ := F
  obtain ⟨T', h', X', e', W', st'⟩ := stB X hx hZ eT A (hi.inb S) hg hs hd
  exact ⟨T', h', X', e', W', own_A.put A S hn H G (fits_nar_byte _) hi W', st'⟩
theorem own_iaload (X : Stand p l e R s m args below meth c T locs cells slots) (hx : p.tables.exec = Jvm.exec) (hZ : Z.Warmed39 s.vm) (eT : T.heap = h) (F : own_A Z h a .int n f) (hi : own_In j i n) {v : Int32} (hv : f i = .int v) {g : JFrame} (hg : g.method = m) {rest : List Value} (hs : g.stack = .int j :: .ref a :: rest) (hd : decode c.code g.pc = .ok (.iaload, 1)) (w : own_W p e En below kc ks Q T { g with pc := g.pc + 1, stack := .int v :: rest }) : own_W p e En below kc ks Q T g := by
  obtain ⟨cl, A, S, hn, H, -⟩ := F
  exact own_W.step (X.iaload hx (j := j) (v := .int v) (by rw [eT]; exact A.1) (State.isArrayOf_alike hZ.alike A.2.1) A.2.2 (hi.inb S) (by rw [hi.nat, H i hi.2, hv]) (g := g) hg hs hd) w
theorem own_laload (X : Stand p l e R s m args below meth c T locs cells slots) (hx : p.tables.exec = Jvm.exec) (hZ : Z.Warmed39 s.vm) (eT : T.heap = h) (F : own_A Z h a .long n f) (hi : own_In j i n) {v : Int64} (hv : f i = .long v) {g : JFrame} (hg : g.method = m) {rest : List Value} (hs : g.stack = .int j :: .ref a :: rest) (hd : decode c.code g.pc = .ok (.laload, 1)) (w : own_W p e En below kc ks Q T { g with pc := g.pc + 1, stack := .long v :: rest }) : own_W p e En below kc ks Q T g := by
  obtain ⟨cl, A, S, hn, H, -⟩ := F
  exact own_W.step (X.laload hx (j := j) (v := .long v) (by rw [eT]; exact A.1) (State.isArrayOf_alike hZ.alike A.2.1) A.2.2 (hi.inb S) (by rw [hi.nat, H i hi.2, hv]) (g := g) hg hs hd) w
theorem own_baload (X : Stand p l e R s m args below meth c T locs cells slots) (hx : p.tables.exec = Jvm.exec) (hZ : Z.Warmed39 s.vm) (eT : T.heap = h) (F : own_A Z h a .byte n f) (hi : own_In j i n) {v : Int32} (hv : f i = .int v) {g : JFrame} (hg : g.method = m) {rest : List Value} (hs : g.stack = .int j :: .ref a :: rest) (hd : decode c.code g.pc = .ok (.baload, 1)) (w : own_W p e En below kc ks Q T { g with pc := g.pc + 1, stack := .int v :: rest }) : own_W p e En below kc ks Q T g := by
  obtain ⟨cl, A, S, hn, H, -⟩ := F
  exact own_W.step (X.baloadBytes hx (j := j) (v := .int v) (by rw [eT]; exact A.1) (State.isArrayOf_alike hZ.alike A.2.1) A.2.2 (hi.inb S) (by rw [hi.nat, H i hi.2, hv]) (g := g) hg hs hd) w
theorem own_alen (X : Stand p l e R s m args below meth c T locs cells slots) (hx : p.tables.exec = Jvm.exec) (hZ : Z.Warmed39 s.vm) (eT : T.heap = h) (F : own_A Z h a ty n f) {z : Int32} (hz : n.toInt32 = z) {g : JFrame} (hg : g.method = m) {rest : List Value} (hs : g.stack = .ref a :: rest) (hd : decode c.code g.pc = .ok (.arraylength, 1)) (w : own_W p e En below kc ks Q T { g with pc := g.pc + 1, stack := .int z :: rest }) : own_W p e En below kc ks Q T g := by
  obtain ⟨cl, A, S, hn, H, -⟩ := F
  subst hz S
  exact own_W.step (X.arraylength hx (by rw [eT]; exact A.1) (State.isArrayOf_alike hZ.alike A.2.1) (g := g) hg hs hd) w

/-- a constructor whose entry is resolved already (a nest mate's private one) -/
theorem own_ready {a0 : Array Value} {own : String} {index : Nat} {y : MethodName} (hZ : Z.Warmed39 s.vm) (hown : s.vm.findClass own = some m.cls) (hy : y.cls ≠ "java/lang/invoke/MethodHandle" ∧ y.cls ≠ "java/lang/invoke/VarHandle") (w : (Jvm.Cond.methodRef own index y).before a0 Z = true) (wi : (Jvm.Cond.instanceMethod y).before a0 Z = true) (ev : Env) :
    ∀ (U : State) (r : MethodId), s.WarmedH U.vm → s.methodNamed? y = some r → namesResolved U.vm m.cls index r.cls ∧ U.vm.methodReady m.cls index r := by
  intro U r hW hn
  obtain ⟨mk, methM, hnZ, -⟩ := Cond.instanceMethod_spec wi
  have hZU : Z.Warmed39 U.vm := wtrans hZ hW
  have h1 := Cond.methodRef_warmed39 hZU hnZ hy w
  have e0 : (Z.setVm s.vm).methodNamed? y = Z.methodNamed? y := State.methodNamed?_setVm hZ.alike y
  have e1 : s.methodNamed? y = (Z.setVm s.vm).methodNamed? y := rfl
  have e2 : mk = r := by rw [e1, e0, hnZ] at hn; exact Option.some.inj hn
  subst e2
  have e3 : (Z.setVm U.vm).methodNamed? y = some mk := by rw [State.methodNamed?_setVm hZU.alike y]; exact hnZ
  have hcur : (Z.setVm U.vm).vm.findClass own = some m.cls := by
    show U.vm.findClass own = _
    rw [hW.alike.findClass]; exact hown
  obtain ⟨m', c', hm, hready, hfind, hnr⟩ := Cond.methodRef_named ev hcur h1
  cases hm.symm.trans (State.methodFound?_of_named e3 hy)
  cases hfind.symm.trans (findClass_of_methodNamed e3)
  exact ⟨hnr, hready⟩
theorem own_specialRef (X : Stand p l e R s m args below meth c T locs cells slots) (hexec : p.tables.exec = Jvm.exec) (hZ : Z.Warmed39 s.vm) {a0 : Array Value} {own : String} {index : Nat} {y : MethodName} (hy1 : y.name = "<init>") (hown : s.vm.findClass own = some m.cls) (w : (Jvm.Cond.methodRef own index y).before a0 Z = true) (wi : (Jvm.Cond.instanceMethod y).before a0 Z = true)
    {bytes : ByteArray} {maxL : Nat} (wc : (Jvm.Cond.code y bytes maxL none).before a0 Z = true) (hy : y.cls ≠ "java/lang/invoke/MethodHandle" ∧ y.cls ≠ "java/lang/invoke/VarHandle")
    {W : Nat} {Pre : Pt → Array Value → Prop} {Post : Pt → Array Value → Option Value → Pt → Prop} (hK : Back l R p e below s args y 3 W Pre Post)
    {g : JFrame} (hg : g.method = m) (hsize : g.locals.size = c.maxLocals) {s₀ : State} (hcome : Steps p.tables e below s₀ (T.setTop g)) {a : Addr} {argsL rest : List Value}
    (hlen : ∀ sig, parseMethodDescriptor y.desc = some sig → argsL.length = sig.parameters.length) (hstack : g.stack = argsL.reverse ++ .ref a :: rest) (hW : 2 * g.monitorRoom + (rest.map fun v => v.category).sum ≤ W)
    (hdg : decode c.code g.pc = .ok (.invokespecial index, 3)) (hpre : ∀ vm₁, s.WarmedH vm₁ → Pre ⟨T.setVm vm₁, locs, cells, slots⟩ (.ref a :: argsL).toArray) :
    ∃ (v : Option Value) (vm₁ : Vm) (B : Pt), s.WarmedH vm₁ ∧ Stand p l e R s m args below meth c B.U B.locs B.cells B.slots ∧ Post ⟨T.setVm vm₁, locs, cells, slots⟩ (.ref a :: argsL).toArray v B ∧
      Steps p.tables e below s₀ (B.U.setTop { g with pc := g.pc + 3, stack := v.toList ++ rest }) :=
  (SCall.of_ready hexec hy1 (mvT hZ wi) (mvT hZ wc) (own_ready hZ hown hy w wi e)) X hK hg hsize hcome hlen hstack hW hdg hpre
theorem own_selP {a0 : Array Value} {y : MethodName} {n : Nat} (wp : (Jvm.Cond.privateMethod y).before a0 Z = true) (wi : (Jvm.Cond.instanceMethod y).before a0 Z = true) (wn : (Jvm.Cond.instantiable y.cls n).before a0 Z = true) (hy : y.cls ≠ "java/lang/invoke/MethodHandle" ∧ y.cls ≠ "java/lang/invoke/VarHandle") : (Jvm.Cond.selects y.cls y y).before a0 Z = true := by
  obtain ⟨mk, methM, hn, hm, hst, hab⟩ := Cond.instanceMethod_spec wi
  obtain ⟨c, k, hc, hk, -, hi, -⟩ := Cond.instantiable_spec wn
  have hcls : Z.vm.findClass y.cls = some mk.cls := findClass_of_methodNamed hn
  cases hc.symm.trans hcls
  have hf := State.methodFound?_of_named hn hy
  have hs : selectMethod {} Z.vm mk.cls mk = .method mk := selectMethod_private hm (Cond.privateMethod_at wp mk methM hn hm)
  have hki : k.isInterface = false := (Bool.or_eq_false_iff.mp hi).1
  simp [Cond.before, Cond.holds, Cond.value, hcls, hf, hn, hs, hk, hki]
end OwnW

/-! 1. plain law -/
theorem own_i8 (x : Int32) : x.toInt8.toInt32.toInt8.toInt32 = x.toInt8.toInt32 := by rw [Int8.toInt8_toInt32]
theorem own_b8 {x y : Int32} (h : (x.toInt - y.toInt) % 256 = 0) : x.toInt8.toInt32 = y.toInt8.toInt32 := by
  have e1 := c_i2b x
  have e2 := c_i2b y
  apply Int32.toInt_inj.mp
  omega
def own_ush (x : Int64) (k : Int32) : Int64 := (x.toUInt64 >>> (k &&& 0x3f).toInt64.toUInt64).toInt64
def own_shr (x : Int64) (k : Int32) : Int64 := x >>> (k &&& 0x3f).toInt64
theorem own_us8 (x : Int64) (k : Int32) (h : k = 0 ∨ k = 8 ∨ k = 16 ∨ k = 24 ∨ k = 32 ∨ k = 40 ∨ k = 48 ∨ k = 56) : (own_ush x k).toInt32.toInt8.toInt32 = (own_shr x k).toInt32.toInt8.toInt32 := by
  apply own_b8
  have e1 := c_l2i (own_ush x k)
  have e2 := c_l2i (own_shr x k)
  unfold own_ush own_shr at *
  rcases h with rfl | rfl | rfl | rfl | rfl | rfl | rfl | rfl
  · have q : (x.toUInt64 >>> ((0 : Int32) &&& 0x3f).toInt64.toUInt64).toInt64 = x := by
      apply Int64.toBitVec_inj.mp
      show x.toBitVec >>> (_ : Nat) = x.toBitVec
      exact BitVec.ushiftRight_zero _
    have q2 := c_lshr x (0 : Int32) 0 (by decide)
    rw [q] at e1 ⊢
    omega
  · have q1 := c_lushr x (8 : Int32) 8 (by decide) (by decide)
    have q2 := c_lshr x (8 : Int32) 8 (by decide)
    omega
  · have q1 := c_lushr x (16 : Int32) 16 (by decide) (by decide)
    have q2 := c_lshr x (16 : Int32) 16 (by decide)
    omega
  · have q1 := c_lushr x (24 : Int32) 24 (by decide) (by decide)
    have q2 := c_lshr x (24 : Int32) 24 (by decide)
    omega
  · have q1 := c_lushr x (32 : Int32) 32 (by decide) (by decide)
    have q2 := c_lshr x (32 : Int32) 32 (by decide)
    omega
  · have q1 := c_lushr x (40 : Int32) 40 (by decide) (by decide)
    have q2 := c_lshr x (40 : Int32) 40 (by decide)
    omega
  · have q1 := c_lushr x (48 : Int32) 48 (by decide) (by decide)
    have q2 := c_lshr x (48 : Int32) 48 (by decide)
    omega
  · have q1 := c_lushr x (56 : Int32) 56 (by decide) (by decide)
    have q2 := c_lshr x (56 : Int32) 56 (by decide)
    omega
theorem own_fill0 {sv : Int32} (hsv8 : sv.toInt8.toInt32 = sv) (z : Nat) : (if z = 0 then Value.int (sv.toInt8.toInt32) else .int (own_k0 z)) = .int (if z < 1 then sv else (0 : Int32)) := by
  by_cases q : z = 0
  · rw [if_pos q, if_pos (by omega), hsv8]
  · rw [if_neg q, if_neg (by omega)]
    rfl
theorem own_fill {sv : Int32} (hsv8 : sv.toInt8.toInt32 = sv) (k z : Nat) : (if z = k then Value.int (sv.toInt8.toInt32) else .int (if z < k then sv else (0 : Int32))) = .int (if z < k + 1 then sv else (0 : Int32)) := by
  by_cases q : z = k
  · rw [if_pos q, if_pos (by omega), hsv8]
  · rw [if_neg q]
    by_cases r : z < k
    · rw [if_pos r, if_pos (by omega)]
    · rw [if_neg r, if_neg (by omega)]
def own_sel (h l : Int64) (k : Int32) : Int64 := if k < (64 : Int32) then own_ush l k else own_ush h (k - (64 : Int32))
def own_bt (h l : Int64) (k : Int32) : Int32 := (own_sel h l k).toInt32.toInt8.toInt32
def own_byteOf (h l : Int64) (k : Int32) : Int32 := if k < (8 : Int32) then (own_shr l ((8 : Int32) * k)).toInt32.toInt8.toInt32 else (own_shr h ((8 : Int32) * (k - (8 : Int32)))).toInt32.toInt8.toInt32
def own_wr (h l : Int64) (off cnt : Int32) (fa : Nat → Int32) (n : Int) (z : Nat) : Int32 := if off.toInt ≤ (z : Int) ∧ (z : Int) < off.toInt + n then own_bt h l ((8 : Int32) * (cnt - (1 : Int32) - Int32.ofInt ((z : Int) - off.toInt))) else fa z
theorem own_w0 (h l : Int64) (off cnt : Int32) (fa : Nat → Int32) (z : Nat) : fa z = own_wr h l off cnt fa (0 : Int32).toInt z := by
  unfold own_wr
  rw [if_neg (by rw [show (0 : Int32).toInt = 0 from rfl]; omega)]
theorem own_wstep (h l : Int64) (off cnt i : Int32) (fa : Nat → Int32) (x : Int32) (z k : Nat) (hk : (k : Int) = off.toInt + i.toInt) (hi : 0 ≤ i.toInt) (hx : x = own_bt h l ((8 : Int32) * (cnt - (1 : Int32) - i))) : (if z = k then Value.int x else .int (own_wr h l off cnt fa i.toInt z)) = .int (own_wr h l off cnt fa (i.toInt + 1) z) := by
  by_cases q : z = k
  · rw [if_pos q, hx]
    unfold own_wr
    have e : (z : Int) - off.toInt = i.toInt := by omega
    rw [if_pos (by omega), e, Int32.ofInt_toInt]
  · rw [if_neg q]
    unfold own_wr
    by_cases r : off.toInt ≤ (z : Int) ∧ (z : Int) < off.toInt + i.toInt
    · rw [if_pos r, if_pos (by omega)]
    · rw [if_neg r, if_neg (by omega)]
theorem own_inc (i : Int32) (h : 0 ≤ i.toInt ∧ i.toInt < 100) : (i + (1 : Int32)).toInt = i.toInt + 1 := by
  have e := c_iadd i (1 : Int32)
  have r := rng32 (i + (1 : Int32))
  have t1 : (1 : Int32).toInt = 1 := by decide
  omega
theorem own_cnt (x : Int32) : 1 ≤ ((x &&& (15 : Int32)) + (1 : Int32)).toInt ∧ ((x &&& (15 : Int32)) + (1 : Int32)).toInt ≤ 16 := by
  have e1 := c_mask x (15 : Int32) 4 (by decide) (by decide)
  have e2 := c_iadd (x &&& (15 : Int32)) (1 : Int32)
  have r := rng32 ((x &&& (15 : Int32)) + (1 : Int32))
  have t1 : (1 : Int32).toInt = 1 := by decide
  omega
theorem own_off (x : Int32) : 0 ≤ (x &&& (3 : Int32)).toInt ∧ (x &&& (3 : Int32)).toInt ≤ 3 := by
  have e1 := c_mask x (3 : Int32) 2 (by decide) (by decide)
  omega
theorem own_o (x : Int32) : 0 ≤ ((x &&& (2147483647 : Int32)) % (20 : Int32)).toInt ∧ ((x &&& (2147483647 : Int32)) % (20 : Int32)).toInt < 20 := by
  have e1 := c_mask x (2147483647 : Int32) 31 (by decide) (by decide)
  have e2 := c_irem (x &&& (2147483647 : Int32)) (20 : Int32) 20 (by decide)
  omega
theorem own_same (h l : Int64) (k : Int32) (hk : 0 ≤ k.toInt ∧ k.toInt < 16) : own_bt h l ((8 : Int32) * k) = own_byteOf h l k := by
  have q : k = Int32.ofInt k.toInt := (Int32.ofInt_toInt k).symm
  have c : k.toInt = 0 ∨ k.toInt = 1 ∨ k.toInt = 2 ∨ k.toInt = 3 ∨ k.toInt = 4 ∨ k.toInt = 5 ∨ k.toInt = 6 ∨ k.toInt = 7 ∨ k.toInt = 8 ∨ k.toInt = 9 ∨ k.toInt = 10 ∨ k.toInt = 11 ∨ k.toInt = 12 ∨ k.toInt = 13 ∨ k.toInt = 14 ∨ k.toInt = 15 := by omega
  unfold own_bt own_sel own_byteOf
  rcases c with c | c | c | c | c | c | c | c | c | c | c | c | c | c | c | c <;> rw [c] at q <;> subst q <;> first | (rw [if_pos (by decide), if_pos (by decide)]; exact own_us8 _ _ (by decide)) | (rw [if_neg (by decide), if_neg (by decide)]; exact own_us8 _ _ (by decide))
/-- the place o, when all is written -/
theorem own_in (h l : Int64) (off cnt o : Int32) (fa : Nat → Int32) (ho : 0 ≤ o.toInt) (hoff : 0 ≤ off.toInt ∧ off.toInt ≤ 3) (hc : 1 ≤ cnt.toInt ∧ cnt.toInt ≤ 16) (h1 : ¬ (o < off)) (h2 : o < off + cnt) : own_byteOf h l (cnt - (1 : Int32) - (o - off)) = own_wr h l off cnt fa cnt.toInt o.toInt.toNat := by
  have e1 := c_iadd off cnt
  have r1 := rng32 (off + cnt)
  have e2 := c_isub o off
  have r2 := rng32 (o - off)
  have e3 := c_isub cnt (1 : Int32)
  have r3 := rng32 (cnt - (1 : Int32))
  have e4 := c_isub (cnt - (1 : Int32)) (o - off)
  have r4 := rng32 (cnt - (1 : Int32) - (o - off))
  have t1 : (1 : Int32).toInt = 1 := by decide
  rw [Int32.lt_iff_toInt_lt] at h1 h2
  have v2 : (o - off).toInt = o.toInt - off.toInt := by omega
  unfold own_wr
  rw [if_pos (by omega)]
  have e : ((o.toInt.toNat : Nat) : Int) - off.toInt = (o - off).toInt := by omega
  rw [e, Int32.ofInt_toInt]
  exact (own_same h l _ (by omega)).symm
theorem own_out (h l : Int64) (off cnt o : Int32) (fa : Nat → Int32) (ho : 0 ≤ o.toInt) (hoff : 0 ≤ off.toInt ∧ off.toInt ≤ 3) (hc : 1 ≤ cnt.toInt ∧ cnt.toInt ≤ 16) (h1 : o < off ∨ ¬ (o < off + cnt)) : fa o.toInt.toNat = own_wr h l off cnt fa cnt.toInt o.toInt.toNat := by
  have e1 := c_iadd off cnt
  have r1 := rng32 (off + cnt)
  simp only [Int32.lt_iff_toInt_lt] at h1
  unfold own_wr
  rw [if_neg (by omega)]
theorem d2_0 : decode method_3_code 0 = .ok (.iload 4, 2) := by decide +kernel
theorem d2_2 : decode method_3_code 2 = .ok (.bipush 8, 2) := by decide +kernel
theorem d2_4 : decode method_3_code 4 = .ok (.if_icmp .ge 13, 3) := by decide +kernel
theorem d2_7 : decode method_3_code 7 = .ok (.lload_n 2, 1) := by decide +kernel
theorem d2_8 : decode method_3_code 8 = .ok (.bipush 8, 2) := by decide +kernel
theorem d2_10 : decode method_3_code 10 = .ok (.iload 4, 2) := by decide +kernel
theorem d2_12 : decode method_3_code 12 = .ok (.imul, 1) := by decide +kernel
theorem d2_13 : decode method_3_code 13 = .ok (.lshr, 1) := by decide +kernel
theorem d2_14 : decode method_3_code 14 = .ok (.l2i, 1) := by decide +kernel
theorem d2_15 : decode method_3_code 15 = .ok (.i2b, 1) := by decide +kernel
theorem d2_16 : decode method_3_code 16 = .ok (.ireturn, 1) := by decide +kernel
theorem d2_17 : decode method_3_code 17 = .ok (.lload_n 0, 1) := by decide +kernel
theorem d2_18 : decode method_3_code 18 = .ok (.bipush 8, 2) := by decide +kernel
theorem d2_20 : decode method_3_code 20 = .ok (.iload 4, 2) := by decide +kernel
theorem d2_22 : decode method_3_code 22 = .ok (.bipush 8, 2) := by decide +kernel
theorem d2_24 : decode method_3_code 24 = .ok (.isub, 1) := by decide +kernel
theorem d2_25 : decode method_3_code 25 = .ok (.imul, 1) := by decide +kernel
theorem d2_26 : decode method_3_code 26 = .ok (.lshr, 1) := by decide +kernel
theorem d2_27 : decode method_3_code 27 = .ok (.l2i, 1) := by decide +kernel
theorem d2_28 : decode method_3_code 28 = .ok (.i2b, 1) := by decide +kernel
theorem d2_29 : decode method_3_code 29 = .ok (.ireturn, 1) := by decide +kernel
theorem own_pn_com_example_sumtide_sumtide_Int128WriteBytesPinLaw : plainName "com/example/sumtide/sumtide/Int128WriteBytesPinLaw" = true := by first | (simp [plainName, overriddenIn]; done) | decide +kernel
theorem ef_2 (m : MethodId) (qh : Int64) (ql : Int64) (pk : Int32) : entryFrame m #[(.long qh), (.long ql), (.int pk)] 5 = mkF m 0 #[.val (.long qh), .second, .val (.long ql), .second, .val (.int pk)] [] := by first | (simp [entryFrame, mkF, argsToLocals, Value.category]; done) | rfl
def Q2 (Z : State) (qh : Int64) (ql : Int64) (pk : Int32)  (h0 : Heap) (n0 : Nat) (v : Option Value) (h : Heap) (L : List Loc) : Prop := v = some (.int (own_byteOf qh ql pk)) ∧ Fr n0 L ∧ h = h0
set_option maxRecDepth 65536 in
set_option maxHeartbeats 40000000 in
theorem rm2 (l : Launch) (Z : State) (a0 : Array Value) (hw : ∀ d ∈ tables_1, d.before a0 Z = true) (ws : List Jvm.Cond) (qh : Int64) (ql : Int64) (pk : Int32)  (h0 : Heap) (n0 : Nat) (Z0 : n0 ≤ h0.size)  :
    MetFree l (⟨"com/example/sumtide/sumtide/Int128WriteBytesPinLaw", "byteOf", "(JJI)B"⟩ : MethodName) (head1 (Jvm.Cond.code (⟨"com/example/sumtide/sumtide/Int128WriteBytesPinLaw", "byteOf", "(JJI)B"⟩ : MethodName) method_3_code 5 (some .byte) :: ws) ({ frames := 0, cells := 0, slots := 0, locals := 0 } : Room)) (fun avs U => avs = #[(.long qh), (.long ql), (.int pk)] ∧ Z.Warmed39 U.vm ∧ U.heap = h0) (fun _ _ _ _ _ => True) (fun _ U o U' => ∃ v L, o = .returned v ∧ Q2 Z qh ql pk h0 n0 v U'.heap L ∧ FrameEnd U o U' L ({ frames := 0, cells := 0, slots := 0, locals := 0 } : Room).cells ({ frames := 0, cells := 0, slots := 0, locals := 0 } : Room).slots) := by
  refine MetFree.of_bodySF (plainFor_of_name own_pn_com_example_sumtide_sumtide_Int128WriteBytesPinLaw) hisR ?_
  intro p e s m args below meth c s₁ Bd hml0 hP hK
  obtain ⟨rfl, hZ, hh⟩ := hP
  have hx := Bd.exec
  have hby := Bd.bytes
  have hml : c.maxLocals = 5 := hml0
  have hown : s.vm.findClass "com/example/sumtide/sumtide/Int128WriteBytesPinLaw" = some m.cls := findClass_of_methodNamed Bd.named
  have hnm := (name_of_methodNamed Bd.named Bd.method).1
  have hlk := Bd.notSynchronized
  have hret := Bd.returns
  have X0 : Stand p l e ({ frames := 0, cells := 0, slots := 0, locals := 0 } : Room) s m #[(.long qh), (.long ql), (.int pk)] below meth c s₁ [] 0 0 := Stand.of_body Bd
  have e0 : s₁.heap = h0 := by rw [← hh, Bd.state]; rfl
  have N0 := Fr.nil n0
  show own_W p e (FrameEnd s) below ({ frames := 0, cells := 0, slots := 0, locals := 0 } : Room).cells ({ frames := 0, cells := 0, slots := 0, locals := 0 } : Room).slots (Q2 Z qh ql pk h0 n0) s₁ (entryFrame m #[(.long qh), (.long ql), (.int pk)] 5)
  rw [ef_2]
  refine own_iload X0 hx (hb hby d2_0) (v := pk) rfl (rfl : 0 + 2 = 2) ?_
  refine own_bipush X0 hx (hb hby d2_2) (8 : Int32) (by first | rfl | decide) (rfl : 2 + 2 = 4) ?_
  by_cases hc4 : pk < (8 : Int32)
  · skip
    refine own_icmpNo X0 hx (hb hby d2_4) (tlt hc4).2.1 (rfl : 4 + 3 = 7) ?_
    refine own_lloadN X0 hx (hb hby d2_7) (v := ql) rfl (rfl : 7 + 1 = 8) ?_
    refine own_bipush X0 hx (hb hby d2_8) (8 : Int32) (by first | rfl | decide) (rfl : 8 + 2 = 10) ?_
    refine own_iload X0 hx (hb hby d2_10) (v := pk) rfl (rfl : 10 + 2 = 12) ?_
    refine own_imul X0 hx (hb hby d2_12) (rfl : 12 + 1 = 13) ?_
    refine own_lshr X0 hx (hb hby d2_13) (rfl : 13 + 1 = 14) ?_
    refine own_l2i X0 hx (hb hby d2_14) (rfl : 14 + 1 = 15) ?_
    refine own_i2b X0 hx (hb hby d2_15) (rfl : 15 + 1 = 16) ?_
    refine own_retN (t := .byte) X0 hx hlk hret (by simp) (hb hby d2_16) (z' := (((ql >>> (((8 : Int32) * pk) &&& 0x3f).toInt64).toInt32).toInt8.toInt32)) (own_i8 _) (by decide) (by decide) ?_
    show Q2 Z qh ql pk h0 n0 (some (.int (((ql >>> (((8 : Int32) * pk) &&& 0x3f).toInt64).toInt32).toInt8.toInt32))) s₁.heap _
    rw [e0]
    exact ⟨by simp only [own_byteOf, own_shr, if_pos hc4], N0, rfl⟩
  · skip
    refine own_icmpYes X0 hx (hb hby d2_4) (flt hc4).2.1 (pc' := 17) (by decide) (by decide) ?_
    refine own_lloadN X0 hx (hb hby d2_17) (v := qh) rfl (rfl : 17 + 1 = 18) ?_
    refine own_bipush X0 hx (hb hby d2_18) (8 : Int32) (by first | rfl | decide) (rfl : 18 + 2 = 20) ?_
    refine own_iload X0 hx (hb hby d2_20) (v := pk) rfl (rfl : 20 + 2 = 22) ?_
    refine own_bipush X0 hx (hb hby d2_22) (8 : Int32) (by first | rfl | decide) (rfl : 22 + 2 = 24) ?_
    refine own_isub X0 hx (hb hby d2_24) (rfl : 24 + 1 = 25) ?_
    refine own_imul X0 hx (hb hby d2_25) (rfl : 25 + 1 = 26) ?_
    refine own_lshr X0 hx (hb hby d2_26) (rfl : 26 + 1 = 27) ?_
    refine own_l2i X0 hx (hb hby d2_27) (rfl : 27 + 1 = 28) ?_
    refine own_i2b X0 hx (hb hby d2_28) (rfl : 28 + 1 = 29) ?_
    refine own_retN (t := .byte) X0 hx hlk hret (by simp) (hb hby d2_29) (z' := (((qh >>> (((8 : Int32) * (pk - (8 : Int32))) &&& 0x3f).toInt64).toInt32).toInt8.toInt32)) (own_i8 _) (by decide) (by decide) ?_
    show Q2 Z qh ql pk h0 n0 (some (.int (((qh >>> (((8 : Int32) * (pk - (8 : Int32))) &&& 0x3f).toInt64).toInt32).toInt8.toInt32))) s₁.heap _
    rw [e0]
    exact ⟨by simp only [own_byteOf, own_shr, if_neg hc4], N0, rfl⟩
theorem d1_0 : decode prog_19_method_21_code 0 = .ok (.iconst 0, 1) := by decide +kernel
theorem d1_1 : decode prog_19_method_21_code 1 = .ok (.istore 7, 2) := by decide +kernel
theorem d1_3 : decode prog_19_method_21_code 3 = .ok (.iload 7, 2) := by decide +kernel
theorem d1_5 : decode prog_19_method_21_code 5 = .ok (.iload 6, 2) := by decide +kernel
theorem d1_7 : decode prog_19_method_21_code 7 = .ok (.if_icmp .ge 52, 3) := by decide +kernel
theorem d1_10 : decode prog_19_method_21_code 10 = .ok (.bipush 8, 2) := by decide +kernel
theorem d1_12 : decode prog_19_method_21_code 12 = .ok (.iload 6, 2) := by decide +kernel
theorem d1_14 : decode prog_19_method_21_code 14 = .ok (.iconst 1, 1) := by decide +kernel
theorem d1_15 : decode prog_19_method_21_code 15 = .ok (.isub, 1) := by decide +kernel
theorem d1_16 : decode prog_19_method_21_code 16 = .ok (.iload 7, 2) := by decide +kernel
theorem d1_18 : decode prog_19_method_21_code 18 = .ok (.isub, 1) := by decide +kernel
theorem d1_19 : decode prog_19_method_21_code 19 = .ok (.imul, 1) := by decide +kernel
theorem d1_20 : decode prog_19_method_21_code 20 = .ok (.istore 8, 2) := by decide +kernel
theorem d1_22 : decode prog_19_method_21_code 22 = .ok (.aload 4, 2) := by decide +kernel
theorem d1_24 : decode prog_19_method_21_code 24 = .ok (.iload 5, 2) := by decide +kernel
theorem d1_26 : decode prog_19_method_21_code 26 = .ok (.iload 7, 2) := by decide +kernel
theorem d1_28 : decode prog_19_method_21_code 28 = .ok (.iadd, 1) := by decide +kernel
theorem d1_29 : decode prog_19_method_21_code 29 = .ok (.iload 8, 2) := by decide +kernel
theorem d1_31 : decode prog_19_method_21_code 31 = .ok (.bipush 64, 2) := by decide +kernel
theorem d1_33 : decode prog_19_method_21_code 33 = .ok (.if_icmp .ge 10, 3) := by decide +kernel
theorem d1_36 : decode prog_19_method_21_code 36 = .ok (.lload_n 2, 1) := by decide +kernel
theorem d1_37 : decode prog_19_method_21_code 37 = .ok (.iload 8, 2) := by decide +kernel
theorem d1_39 : decode prog_19_method_21_code 39 = .ok (.lushr, 1) := by decide +kernel
theorem d1_40 : decode prog_19_method_21_code 40 = .ok (.goto 10, 3) := by decide +kernel
theorem d1_43 : decode prog_19_method_21_code 43 = .ok (.lload_n 0, 1) := by decide +kernel
theorem d1_44 : decode prog_19_method_21_code 44 = .ok (.iload 8, 2) := by decide +kernel
theorem d1_46 : decode prog_19_method_21_code 46 = .ok (.bipush 64, 2) := by decide +kernel
theorem d1_48 : decode prog_19_method_21_code 48 = .ok (.isub, 1) := by decide +kernel
theorem d1_49 : decode prog_19_method_21_code 49 = .ok (.lushr, 1) := by decide +kernel
theorem d1_50 : decode prog_19_method_21_code 50 = .ok (.l2i, 1) := by decide +kernel
theorem d1_51 : decode prog_19_method_21_code 51 = .ok (.i2b, 1) := by decide +kernel
theorem d1_52 : decode prog_19_method_21_code 52 = .ok (.bastore, 1) := by decide +kernel
theorem d1_53 : decode prog_19_method_21_code 53 = .ok (.iinc 7 1, 3) := by decide +kernel
theorem d1_56 : decode prog_19_method_21_code 56 = .ok (.goto (-53), 3) := by decide +kernel
theorem d1_59 : decode prog_19_method_21_code 59 = .ok (.return_, 1) := by decide +kernel
theorem own_pn_com_example_sumtide_sumtide_Int128 : plainName "com/example/sumtide/sumtide/Int128" = true := by first | (simp [plainName, overriddenIn]; done) | decide +kernel
theorem ef_1 (m : MethodId) (qh : Int64) (ql : Int64) (ar : Addr) (po : Int32) (pn : Int32) : entryFrame m #[(.long qh), (.long ql), (.ref ar), (.int po), (.int pn)] 9 = mkF m 0 #[.val (.long qh), .second, .val (.long ql), .second, .val (.ref ar), .val (.int po), .val (.int pn), .unset, .unset] [] := by first | (simp [entryFrame, mkF, argsToLocals, Value.category]; done) | rfl
def Q1 (Z : State) (qh : Int64) (ql : Int64) (ar : Addr) (po : Int32) (pn : Int32) (fa : Nat → Int32) (h0 : Heap) (n0 : Nat) (v : Option Value) (h : Heap) (L : List Loc) : Prop := v = none ∧ Fr n0 L ∧ Keep h0 h [ar] ∧ own_A Z h ar .byte (20) (fun z => .int (own_wr qh ql po pn fa pn.toInt z))
set_option maxRecDepth 65536 in
set_option maxHeartbeats 40000000 in
theorem rm1 (l : Launch) (Z : State) (a0 : Array Value) (hw : ∀ d ∈ tables_1, d.before a0 Z = true) (ws : List Jvm.Cond) (qh : Int64) (ql : Int64) (ar : Addr) (po : Int32) (pn : Int32) (fa : Nat → Int32) (h0 : Heap) (n0 : Nat) (Z0 : n0 ≤ h0.size) (f_A_ar : own_A Z h0 ar .byte (20) (fun z => .int (fa z))) (g_ar : n0 ≤ ar) (bo : 0 ≤ po.toInt ∧ po.toInt ≤ 3) (bn : 1 ≤ pn.toInt ∧ pn.toInt ≤ 16) :
    MetFree l (⟨"com/example/sumtide/sumtide/Int128", "writeBytes", "(JJ[BII)V"⟩ : MethodName) (head1 (Jvm.Cond.code (⟨"com/example/sumtide/sumtide/Int128", "writeBytes", "(JJ[BII)V"⟩ : MethodName) prog_19_method_21_code 9 none :: ws) ({ frames := 0, cells := 0, slots := 0, locals := 0 } : Room)) (fun avs U => avs = #[(.long qh), (.long ql), (.ref ar), (.int po), (.int pn)] ∧ Z.Warmed39 U.vm ∧ U.heap = h0) (fun _ _ _ _ _ => True) (fun _ U o U' => ∃ v L, o = .returned v ∧ Q1 Z qh ql ar po pn fa h0 n0 v U'.heap L ∧ FrameEnd U o U' L ({ frames := 0, cells := 0, slots := 0, locals := 0 } : Room).cells ({ frames := 0, cells := 0, slots := 0, locals := 0 } : Room).slots) := by
  refine MetFree.of_bodySF (plainFor_of_name own_pn_com_example_sumtide_sumtide_Int128) hisR ?_
  intro p e s m args below meth c s₁ Bd hml0 hP hK
  obtain ⟨rfl, hZ, hh⟩ := hP
  have hx := Bd.exec
  have hby := Bd.bytes
  have hml : c.maxLocals = 9 := hml0
  have hown : s.vm.findClass "com/example/sumtide/sumtide/Int128" = some m.cls := findClass_of_methodNamed Bd.named
  have hnm := (name_of_methodNamed Bd.named Bd.method).1
  have hlk := Bd.notSynchronized
  have hret := Bd.returns
  have X0 : Stand p l e ({ frames := 0, cells := 0, slots := 0, locals := 0 } : Room) s m #[(.long qh), (.long ql), (.ref ar), (.int po), (.int pn)] below meth c s₁ [] 0 0 := Stand.of_body Bd
  have e0 : s₁.heap = h0 := by rw [← hh, Bd.state]; rfl
  have N0 := Fr.nil n0
  show own_W p e (FrameEnd s) below ({ frames := 0, cells := 0, slots := 0, locals := 0 } : Room).cells ({ frames := 0, cells := 0, slots := 0, locals := 0 } : Room).slots (Q1 Z qh ql ar po pn fa h0 n0) s₁ (entryFrame m #[(.long qh), (.long ql), (.ref ar), (.int po), (.int pn)] 9)
  rw [ef_1]
  have K0 : Keep h0 h0 [ar] := Keep.refl h0 _
  have A0 : own_A Z h0 ar .byte (20) (fun z => .int (own_wr qh ql po pn fa (0 : Int32).toInt z)) := f_A_ar.congr (fun z _ => congrArg Value.int (own_w0 qh ql po pn fa z))
  refine own_iconst X0 hx (hb hby d1_0) (0 : Int32) (by first | rfl | decide) (rfl : 0 + 1 = 1) ?_
  refine own_istore X0 hx (hb hby d1_1) (l' := #[.val (.long qh), .second, .val (.long ql), .second, .val (.ref ar), .val (.int po), .val (.int pn), .val (.int (0 : Int32)), .unset]) rfl (rfl : 1 + 2 = 3) ?_
  refine own_iload X0 hx (hb hby d1_3) (v := (0 : Int32)) rfl (rfl : 3 + 2 = 5) ?_
  refine own_iload X0 hx (hb hby d1_5) (v := pn) rfl (rfl : 5 + 2 = 7) ?_
  have hc7 : (0 : Int32) < pn := by rw [Int32.lt_iff_toInt_lt, show (0 : Int32).toInt = 0 from rfl]; omega
  refine own_icmpNo X0 hx (hb hby d1_7) (tlt hc7).2.1 (rfl : 7 + 3 = 10) ?_
  refine own_bipush X0 hx (hb hby d1_10) (8 : Int32) (by first | rfl | decide) (rfl : 10 + 2 = 12) ?_
  refine own_iload X0 hx (hb hby d1_12) (v := pn) rfl (rfl : 12 + 2 = 14) ?_
  refine own_iconst X0 hx (hb hby d1_14) (1 : Int32) (by first | rfl | decide) (rfl : 14 + 1 = 15) ?_
  refine own_isub X0 hx (hb hby d1_15) (rfl : 15 + 1 = 16) ?_
  refine own_iload X0 hx (hb hby d1_16) (v := (0 : Int32)) rfl (rfl : 16 + 2 = 18) ?_
  refine own_isub X0 hx (hb hby d1_18) (rfl : 18 + 1 = 19) ?_
  refine own_imul X0 hx (hb hby d1_19) (rfl : 19 + 1 = 20) ?_
  refine own_istore X0 hx (hb hby d1_20) (l' := #[.val (.long qh), .second, .val (.long ql), .second, .val (.ref ar), .val (.int po), .val (.int pn), .val (.int (0 : Int32)), .val (.int ((8 : Int32) * ((pn - (1 : Int32)) - (0 : Int32))))]) rfl (rfl : 20 + 2 = 22) ?_
  obtain ⟨sh, hsh⟩ : ∃ z : Int32, z = ((8 : Int32) * ((pn - (1 : Int32)) - (0 : Int32))) := ⟨_, rfl⟩
  rw [← hsh]
  show own_W p e (FrameEnd s) below ({ frames := 0, cells := 0, slots := 0, locals := 0 } : Room).cells ({ frames := 0, cells := 0, slots := 0, locals := 0 } : Room).slots (Q1 Z qh ql ar po pn fa h0 n0) s₁ (mkF m 22 #[.val (.long qh), .second, .val (.long ql), .second, .val (.ref ar), .val (.int po), .val (.int pn), .val (.int (0 : Int32)), .val (.int sh)] [])
  have hbi : 0 ≤ (0 : Int32).toInt ∧ (0 : Int32).toInt ≤ pn.toInt := (show 0 ≤ (0 : Int32).toInt ∧ (0 : Int32).toInt ≤ pn.toInt from ⟨by decide, by show 0 ≤ _; omega⟩)
  have hlt := hc7
  rw [Int32.lt_iff_toInt_lt] at hlt
  have eoi := c_iadd po (0 : Int32)
  have roi := rng32 (po + (0 : Int32))
  have J3 : ∀ (fuel : Nat) (ii : Int32) (sx : Int32) (TJ3 : State) (hJ3 : Heap) (LJ3 : List Loc), ((pn.toInt - ii.toInt).toNat < fuel) → ∀ (XJ3 : Stand p l e ({ frames := 0, cells := 0, slots := 0, locals := 0 } : Room) s m #[(.long qh), (.long ql), (.ref ar), (.int po), (.int pn)] below meth c TJ3 LJ3 0 0), ∀ (eJ3 : TJ3.heap = hJ3), ∀ (NJ3 : Fr n0 LJ3), ∀ (zJ3 : n0 ≤ hJ3.size), ∀ (fJ3_0 : own_A Z hJ3 ar .byte (20) (fun z => .int (own_wr qh ql po pn fa ii.toInt z))), ∀ (fJ3_1 : Keep h0 hJ3 [ar]), ∀ (hii : 0 ≤ ii.toInt ∧ ii.toInt ≤ pn.toInt), own_W p e (FrameEnd s) below ({ frames := 0, cells := 0, slots := 0, locals := 0 } : Room).cells ({ frames := 0, cells := 0, slots := 0, locals := 0 } : Room).slots (Q1 Z qh ql ar po pn fa h0 n0) TJ3 (mkF m 3 #[.val (.long qh), .second, .val (.long ql), .second, .val (.ref ar), .val (.int po), .val (.int pn), .val (.int ii), .val (.int sx)] []) := by
    intro fuel
    induction fuel with
    | zero => intro ii sx TJ3 hJ3 LJ3 hfuel; exact absurd hfuel (Nat.not_lt_zero _)
    | succ fuel ih =>
      intro ii sx TJ3 hJ3 LJ3 hfuel XJ3 eJ3 NJ3 zJ3 fJ3_0 fJ3_1 hii
      refine own_iload XJ3 hx (hb hby d1_3) (v := ii) rfl (rfl : 3 + 2 = 5) ?_
      refine own_iload XJ3 hx (hb hby d1_5) (v := pn) rfl (rfl : 5 + 2 = 7) ?_
      by_cases hc7 : ii < pn
      · skip
        refine own_icmpNo XJ3 hx (hb hby d1_7) (tlt hc7).2.1 (rfl : 7 + 3 = 10) ?_
        refine own_bipush XJ3 hx (hb hby d1_10) (8 : Int32) (by first | rfl | decide) (rfl : 10 + 2 = 12) ?_
        refine own_iload XJ3 hx (hb hby d1_12) (v := pn) rfl (rfl : 12 + 2 = 14) ?_
        refine own_iconst XJ3 hx (hb hby d1_14) (1 : Int32) (by first | rfl | decide) (rfl : 14 + 1 = 15) ?_
        refine own_isub XJ3 hx (hb hby d1_15) (rfl : 15 + 1 = 16) ?_
        refine own_iload XJ3 hx (hb hby d1_16) (v := ii) rfl (rfl : 16 + 2 = 18) ?_
        refine own_isub XJ3 hx (hb hby d1_18) (rfl : 18 + 1 = 19) ?_
        refine own_imul XJ3 hx (hb hby d1_19) (rfl : 19 + 1 = 20) ?_
        refine own_istore XJ3 hx (hb hby d1_20) (l' := #[.val (.long qh), .second, .val (.long ql), .second, .val (.ref ar), .val (.int po), .val (.int pn), .val (.int ii), .val (.int ((8 : Int32) * ((pn - (1 : Int32)) - ii)))]) rfl (rfl : 20 + 2 = 22) ?_
        obtain ⟨sh, hsh⟩ : ∃ z : Int32, z = ((8 : Int32) * ((pn - (1 : Int32)) - ii)) := ⟨_, rfl⟩
        rw [← hsh]
        show own_W p e (FrameEnd s) below ({ frames := 0, cells := 0, slots := 0, locals := 0 } : Room).cells ({ frames := 0, cells := 0, slots := 0, locals := 0 } : Room).slots (Q1 Z qh ql ar po pn fa h0 n0) TJ3 (mkF m 22 #[.val (.long qh), .second, .val (.long ql), .second, .val (.ref ar), .val (.int po), .val (.int pn), .val (.int ii), .val (.int sh)] [])
        have hbi : 0 ≤ ii.toInt ∧ ii.toInt ≤ pn.toInt := hii
        have hlt := hc7
        rw [Int32.lt_iff_toInt_lt] at hlt
        have eoi := c_iadd po ii
        have roi := rng32 (po + ii)
        refine own_aload XJ3 hx (hb hby d1_22) (v := (.ref ar)) rfl rfl (rfl : 22 + 2 = 24) ?_
        refine own_iload XJ3 hx (hb hby d1_24) (v := po) rfl (rfl : 24 + 2 = 26) ?_
        refine own_iload XJ3 hx (hb hby d1_26) (v := ii) rfl (rfl : 26 + 2 = 28) ?_
        refine own_iadd XJ3 hx (hb hby d1_28) (rfl : 28 + 1 = 29) ?_
        refine own_iload XJ3 hx (hb hby d1_29) (v := sh) rfl (rfl : 29 + 2 = 31) ?_
        refine own_bipush XJ3 hx (hb hby d1_31) (64 : Int32) (by first | rfl | decide) (rfl : 31 + 2 = 33) ?_
        have J50 : ∀ (bv : Int64), ∀ (hbv : bv = own_sel qh ql sh), own_W p e (FrameEnd s) below ({ frames := 0, cells := 0, slots := 0, locals := 0 } : Room).cells ({ frames := 0, cells := 0, slots := 0, locals := 0 } : Room).slots (Q1 Z qh ql ar po pn fa h0 n0) TJ3 (mkF m 50 #[.val (.long qh), .second, .val (.long ql), .second, .val (.ref ar), .val (.int po), .val (.int pn), .val (.int ii), .val (.int sh)] [(.long bv), (.int (po + ii)), (.ref ar)]) := by
          intro bv hbv
          refine own_l2i XJ3 hx (hb hby d1_50) (rfl : 50 + 1 = 51) ?_
          refine own_i2b XJ3 hx (hb hby d1_51) (rfl : 51 + 1 = 52) ?_
          have hi1 : own_In (po + ii) ((po + ii).toInt.toNat) (20) := ⟨by omega, by omega⟩
          obtain ⟨T1, h1, X1, e1, W1, V1, st1⟩ := own_stB XJ3 hx hZ eJ3 fJ3_0 hi1 (g := (mkF m 52 #[.val (.long qh), .second, .val (.long ql), .second, .val (.ref ar), .val (.int po), .val (.int pn), .val (.int ii), .val (.int sh)] [(.int ((bv.toInt32).toInt8.toInt32)), (.int (po + ii)), (.ref ar)])) rfl rfl (hb hby d1_52)
          refine own_W.step st1 ?_
          have N1 := Fr.snoc X1 NJ3 g_ar
          have f1_K : Keep h0 h1 [ar] := fJ3_1.wr W1 (Or.inl (by simp))
          have U1 : own_A Z h1 ar .byte (20) (fun z => .int (own_wr qh ql po pn fa (ii.toInt + 1) z)) := V1.congr (fun z _ => own_wstep qh ql po pn ii fa _ z (po + ii).toInt.toNat (by omega) hbi.1 (by rw [own_i8, hbv, hsh]; rfl))
          have z1 : n0 ≤ h1.size := by rw [W1.size]; exact zJ3
          show own_W p e (FrameEnd s) below ({ frames := 0, cells := 0, slots := 0, locals := 0 } : Room).cells ({ frames := 0, cells := 0, slots := 0, locals := 0 } : Room).slots (Q1 Z qh ql ar po pn fa h0 n0) T1 (mkF m 53 #[.val (.long qh), .second, .val (.long ql), .second, .val (.ref ar), .val (.int po), .val (.int pn), .val (.int ii), .val (.int sh)] [])
          refine own_iinc X1 hx (hb hby d1_53) (1 : Int32) rfl (x := ii) rfl (l' := #[.val (.long qh), .second, .val (.long ql), .second, .val (.ref ar), .val (.int po), .val (.int pn), .val (.int (ii + (1 : Int32))), .val (.int sh)]) rfl (rfl : 53 + 3 = 56) ?_
          refine own_goto X1 hx (hb hby d1_56) (pc' := 3) (by decide) (by decide) ?_
          exact ih  ((ii + (1 : Int32))) (sh) _ _ _ (by rw [(own_inc ii ⟨hbi.1, by omega⟩)]; omega) X1 e1 N1 z1 (by rw [own_inc ii ⟨hbi.1, by omega⟩]; exact U1) f1_K (by rw [(own_inc ii ⟨hbi.1, by omega⟩)]; omega)
        by_cases hc33 : sh < (64 : Int32)
        · skip
          refine own_icmpNo XJ3 hx (hb hby d1_33) (tlt hc33).2.1 (rfl : 33 + 3 = 36) ?_
          refine own_lloadN XJ3 hx (hb hby d1_36) (v := ql) rfl (rfl : 36 + 1 = 37) ?_
          refine own_iload XJ3 hx (hb hby d1_37) (v := sh) rfl (rfl : 37 + 2 = 39) ?_
          refine own_lushr XJ3 hx (hb hby d1_39) (rfl : 39 + 1 = 40) ?_
          refine own_goto XJ3 hx (hb hby d1_40) (pc' := 50) (by decide) (by decide) ?_
          exact J50 (((ql.toUInt64 >>> (sh &&& 0x3f).toInt64.toUInt64).toInt64))   (by simp only [own_sel, own_ush, if_pos hc33])
        · skip
          refine own_icmpYes XJ3 hx (hb hby d1_33) (flt hc33).2.1 (pc' := 43) (by decide) (by decide) ?_
          refine own_lloadN XJ3 hx (hb hby d1_43) (v := qh) rfl (rfl : 43 + 1 = 44) ?_
          refine own_iload XJ3 hx (hb hby d1_44) (v := sh) rfl (rfl : 44 + 2 = 46) ?_
          refine own_bipush XJ3 hx (hb hby d1_46) (64 : Int32) (by first | rfl | decide) (rfl : 46 + 2 = 48) ?_
          refine own_isub XJ3 hx (hb hby d1_48) (rfl : 48 + 1 = 49) ?_
          refine own_lushr XJ3 hx (hb hby d1_49) (rfl : 49 + 1 = 50) ?_
          exact J50 (((qh.toUInt64 >>> ((sh - (64 : Int32)) &&& 0x3f).toInt64.toUInt64).toInt64))   (by simp only [own_sel, own_ush, if_neg hc33])
      · skip
        refine own_icmpYes XJ3 hx (hb hby d1_7) (flt hc7).2.1 (pc' := 59) (by decide) (by decide) ?_
        refine own_retV XJ3 hx hlk hret (hb hby d1_59) (by decide) (by decide) ?_
        show Q1 Z qh ql ar po pn fa h0 n0 none TJ3.heap _
        rw [eJ3]
        exact ⟨rfl, NJ3, fJ3_1, (by
              have e : ii.toInt = pn.toInt := by have z := hc7; rw [Int32.lt_iff_toInt_lt] at z; omega
              rw [← e]; exact fJ3_0)⟩
  refine own_aload X0 hx (hb hby d1_22) (v := (.ref ar)) rfl rfl (rfl : 22 + 2 = 24) ?_
  refine own_iload X0 hx (hb hby d1_24) (v := po) rfl (rfl : 24 + 2 = 26) ?_
  refine own_iload X0 hx (hb hby d1_26) (v := (0 : Int32)) rfl (rfl : 26 + 2 = 28) ?_
  refine own_iadd X0 hx (hb hby d1_28) (rfl : 28 + 1 = 29) ?_
  refine own_iload X0 hx (hb hby d1_29) (v := sh) rfl (rfl : 29 + 2 = 31) ?_
  refine own_bipush X0 hx (hb hby d1_31) (64 : Int32) (by first | rfl | decide) (rfl : 31 + 2 = 33) ?_
  have J50 : ∀ (bv : Int64), ∀ (hbv : bv = own_sel qh ql sh), own_W p e (FrameEnd s) below ({ frames := 0, cells := 0, slots := 0, locals := 0 } : Room).cells ({ frames := 0, cells := 0, slots := 0, locals := 0 } : Room).slots (Q1 Z qh ql ar po pn fa h0 n0) s₁ (mkF m 50 #[.val (.long qh), .second, .val (.long ql), .second, .val (.ref ar), .val (.int po), .val (.int pn), .val (.int (0 : Int32)), .val (.int sh)] [(.long bv), (.int (po + (0 : Int32))), (.ref ar)]) := by
    intro bv hbv
    refine own_l2i X0 hx (hb hby d1_50) (rfl : 50 + 1 = 51) ?_
    refine own_i2b X0 hx (hb hby d1_51) (rfl : 51 + 1 = 52) ?_
    have hi2 : own_In (po + (0 : Int32)) ((po + (0 : Int32)).toInt.toNat) (20) := ⟨by omega, by omega⟩
    obtain ⟨T2, h2, X2, e2, W2, V2, st2⟩ := own_stB X0 hx hZ e0 A0 hi2 (g := (mkF m 52 #[.val (.long qh), .second, .val (.long ql), .second, .val (.ref ar), .val (.int po), .val (.int pn), .val (.int (0 : Int32)), .val (.int sh)] [(.int ((bv.toInt32).toInt8.toInt32)), (.int (po + (0 : Int32))), (.ref ar)])) rfl rfl (hb hby d1_52)
    refine own_W.step st2 ?_
    have N2 := Fr.snoc X2 N0 g_ar
    have f2_K : Keep h0 h2 [ar] := K0.wr W2 (Or.inl (by simp))
    have U2 : own_A Z h2 ar .byte (20) (fun z => .int (own_wr qh ql po pn fa ((0 : Int32).toInt + 1) z)) := V2.congr (fun z _ => own_wstep qh ql po pn (0 : Int32) fa _ z (po + (0 : Int32)).toInt.toNat (by omega) hbi.1 (by rw [own_i8, hbv, hsh]; rfl))
    have z2 : n0 ≤ h2.size := by rw [W2.size]; exact Z0
    show own_W p e (FrameEnd s) below ({ frames := 0, cells := 0, slots := 0, locals := 0 } : Room).cells ({ frames := 0, cells := 0, slots := 0, locals := 0 } : Room).slots (Q1 Z qh ql ar po pn fa h0 n0) T2 (mkF m 53 #[.val (.long qh), .second, .val (.long ql), .second, .val (.ref ar), .val (.int po), .val (.int pn), .val (.int (0 : Int32)), .val (.int sh)] [])
    refine own_iinc X2 hx (hb hby d1_53) (1 : Int32) rfl (x := (0 : Int32)) rfl (l' := #[.val (.long qh), .second, .val (.long ql), .second, .val (.ref ar), .val (.int po), .val (.int pn), .val (.int ((0 : Int32) + (1 : Int32))), .val (.int sh)]) rfl (rfl : 53 + 3 = 56) ?_
    refine own_goto X2 hx (hb hby d1_56) (pc' := 3) (by decide) (by decide) ?_
    exact J3 ((pn.toInt - (((0 : Int32) + (1 : Int32))).toInt).toNat + 1) (((0 : Int32) + (1 : Int32))) (sh) _ _ _ (Nat.lt_succ_self _) X2 e2 N2 z2 (by rw [own_inc (0 : Int32) ⟨hbi.1, by omega⟩]; exact U2) f2_K (by rw [(own_inc (0 : Int32) ⟨hbi.1, by omega⟩)]; omega)
  by_cases hc33 : sh < (64 : Int32)
  · skip
    refine own_icmpNo X0 hx (hb hby d1_33) (tlt hc33).2.1 (rfl : 33 + 3 = 36) ?_
    refine own_lloadN X0 hx (hb hby d1_36) (v := ql) rfl (rfl : 36 + 1 = 37) ?_
    refine own_iload X0 hx (hb hby d1_37) (v := sh) rfl (rfl : 37 + 2 = 39) ?_
    refine own_lushr X0 hx (hb hby d1_39) (rfl : 39 + 1 = 40) ?_
    refine own_goto X0 hx (hb hby d1_40) (pc' := 50) (by decide) (by decide) ?_
    exact J50 (((ql.toUInt64 >>> (sh &&& 0x3f).toInt64.toUInt64).toInt64))   (by simp only [own_sel, own_ush, if_pos hc33])
  · skip
    refine own_icmpYes X0 hx (hb hby d1_33) (flt hc33).2.1 (pc' := 43) (by decide) (by decide) ?_
    refine own_lloadN X0 hx (hb hby d1_43) (v := qh) rfl (rfl : 43 + 1 = 44) ?_
    refine own_iload X0 hx (hb hby d1_44) (v := sh) rfl (rfl : 44 + 2 = 46) ?_
    refine own_bipush X0 hx (hb hby d1_46) (64 : Int32) (by first | rfl | decide) (rfl : 46 + 2 = 48) ?_
    refine own_isub X0 hx (hb hby d1_48) (rfl : 48 + 1 = 49) ?_
    refine own_lushr X0 hx (hb hby d1_49) (rfl : 49 + 1 = 50) ?_
    exact J50 (((qh.toUInt64 >>> ((sh - (64 : Int32)) &&& 0x3f).toInt64.toUInt64).toInt64))   (by simp only [own_sel, own_ush, if_neg hc33])
theorem own_pd__JJ_BII_V : parseMethodDescriptor "(JJ[BII)V" = some ⟨[.long, .long, (.array .byte), .int, .int], none⟩ := by decide +kernel
theorem own_pd__JJI_B : parseMethodDescriptor "(JJI)B" = some ⟨[.long, .long, .int], some .byte⟩ := by decide +kernel
theorem ef_0 (m : MethodId) (qh : Int64) (ql : Int64) (pc : Int32) (pf : Int32) (px : Int32) (ps : Int32) : entryFrame m #[(.long qh), (.long ql), (.int pc), (.int pf), (.int px), (.int ps)] maxLocals = mkF m 0 #[.val (.long qh), .second, .val (.long ql), .second, .val (.int pc), .val (.int pf), .val (.int px), .val (.int ps), .unset, .unset, .unset, .unset, .unset, .unset, .unset] [] := by first | (simp [entryFrame, mkF, argsToLocals, Value.category, maxLocals]; done) | rfl
def Q0 (Z : State) (qh : Int64) (ql : Int64) (pc : Int32) (pf : Int32) (px : Int32) (ps : Int32)  (h0 : Heap) (n0 : Nat) (v : Option Value) (h : Heap) (L : List Loc) : Prop := v = some (.int 1) ∧ Fr n0 L
set_option maxRecDepth 65536 in
set_option maxHeartbeats 40000000 in
theorem rm0 (l : Launch) (Z : State) (a0 : Array Value) (hw : ∀ d ∈ tables_1, d.before a0 Z = true) (ws : List Jvm.Cond) (qh : Int64) (ql : Int64) (pc : Int32) (pf : Int32) (px : Int32) (ps : Int32)  (h0 : Heap) (n0 : Nat) (Z0 : n0 ≤ h0.size)  :
    MetFree l x (head1 (Jvm.Cond.code x code maxLocals ret :: ws) room_1) (fun avs U => avs = #[(.long qh), (.long ql), (.int pc), (.int pf), (.int px), (.int ps)] ∧ Z.Warmed39 U.vm ∧ U.heap = h0) (fun _ _ _ _ _ => True) (fun _ U o U' => ∃ v L, o = .returned v ∧ Q0 Z qh ql pc pf px ps h0 n0 v U'.heap L ∧ FrameEnd U o U' L room_1.cells room_1.slots) := by
  refine MetFree.of_bodySF (plainFor_of_name own_pn_com_example_sumtide_sumtide_Int128WriteBytesPinLaw) hisR ?_
  intro p e s m args below meth c s₁ Bd hml0 hP hK
  obtain ⟨rfl, hZ, hh⟩ := hP
  have hx := Bd.exec
  have hby := Bd.bytes
  have hml : c.maxLocals = 15 := hml0
  have hown : s.vm.findClass "com/example/sumtide/sumtide/Int128WriteBytesPinLaw" = some m.cls := findClass_of_methodNamed Bd.named
  have hnm := (name_of_methodNamed Bd.named Bd.method).1
  have hlk := Bd.notSynchronized
  have hret := Bd.returns
  have X0 : Stand p l e room_1 s m #[(.long qh), (.long ql), (.int pc), (.int pf), (.int px), (.int ps)] below meth c s₁ [] 0 0 := Stand.of_body Bd
  have e0 : s₁.heap = h0 := by rw [← hh, Bd.state]; rfl
  have N0 := Fr.nil n0
  show own_W p e (FrameEnd s) below room_1.cells room_1.slots (Q0 Z qh ql pc pf px ps h0 n0) s₁ (entryFrame m #[(.long qh), (.long ql), (.int pc), (.int pf), (.int px), (.int ps)] maxLocals)
  rw [ef_0]
  refine own_iload X0 hx (hb hby at_0) (v := pc) rfl (rfl : 0 + 2 = 2) ?_
  refine own_bipush X0 hx (hb hby at_2) (15 : Int32) (by first | rfl | decide) (rfl : 2 + 2 = 4) ?_
  refine own_iand X0 hx (hb hby at_4) (rfl : 4 + 1 = 5) ?_
  refine own_iconst X0 hx (hb hby at_5) (1 : Int32) (by first | rfl | decide) (rfl : 5 + 1 = 6) ?_
  refine own_iadd X0 hx (hb hby at_6) (rfl : 6 + 1 = 7) ?_
  refine own_istore X0 hx (hb hby at_7) (l' := #[.val (.long qh), .second, .val (.long ql), .second, .val (.int pc), .val (.int pf), .val (.int px), .val (.int ps), .val (.int ((pc &&& (15 : Int32)) + (1 : Int32))), .unset, .unset, .unset, .unset, .unset, .unset]) rfl (rfl : 7 + 2 = 9) ?_
  obtain ⟨cn, hcn⟩ : ∃ z : Int32, z = ((pc &&& (15 : Int32)) + (1 : Int32)) := ⟨_, rfl⟩
  rw [← hcn]
  show own_W p e (FrameEnd s) below room_1.cells room_1.slots (Q0 Z qh ql pc pf px ps h0 n0) s₁ (mkF m 9 #[.val (.long qh), .second, .val (.long ql), .second, .val (.int pc), .val (.int pf), .val (.int px), .val (.int ps), .val (.int cn), .unset, .unset, .unset, .unset, .unset, .unset] [])
  have bcn := own_cnt pc
  rw [← hcn] at bcn
  refine own_iload X0 hx (hb hby at_9) (v := pf) rfl (rfl : 9 + 2 = 11) ?_
  refine own_iconst X0 hx (hb hby at_11) (3 : Int32) (by first | rfl | decide) (rfl : 11 + 1 = 12) ?_
  refine own_iand X0 hx (hb hby at_12) (rfl : 12 + 1 = 13) ?_
  refine own_istore X0 hx (hb hby at_13) (l' := #[.val (.long qh), .second, .val (.long ql), .second, .val (.int pc), .val (.int pf), .val (.int px), .val (.int ps), .val (.int cn), .val (.int (pf &&& (3 : Int32))), .unset, .unset, .unset, .unset, .unset]) rfl (rfl : 13 + 2 = 15) ?_
  obtain ⟨of, hof⟩ : ∃ z : Int32, z = (pf &&& (3 : Int32)) := ⟨_, rfl⟩
  rw [← hof]
  show own_W p e (FrameEnd s) below room_1.cells room_1.slots (Q0 Z qh ql pc pf px ps h0 n0) s₁ (mkF m 15 #[.val (.long qh), .second, .val (.long ql), .second, .val (.int pc), .val (.int pf), .val (.int px), .val (.int ps), .val (.int cn), .val (.int of), .unset, .unset, .unset, .unset, .unset] [])
  have bof := own_off pf
  rw [← hof] at bof
  refine own_iload X0 hx (hb hby at_15) (v := px) rfl (rfl : 15 + 2 = 17) ?_
  refine own_ldcInt X0 hx hown (mvT hZ (hw _ (List.mem_of_getElem? (i := 0) rfl))) (hb hby at_17) (rfl : 17 + 2 = 19) ?_
  refine own_iand X0 hx (hb hby at_19) (rfl : 19 + 1 = 20) ?_
  refine own_bipush X0 hx (hb hby at_20) (20 : Int32) (by first | rfl | decide) (rfl : 20 + 2 = 22) ?_
  refine own_irem X0 hx (hb hby at_22) (by decide) (rfl : 22 + 1 = 23) ?_
  refine own_istore X0 hx (hb hby at_23) (l' := #[.val (.long qh), .second, .val (.long ql), .second, .val (.int pc), .val (.int pf), .val (.int px), .val (.int ps), .val (.int cn), .val (.int of), .val (.int ((px &&& (2147483647 : Int32)) % (20 : Int32))), .unset, .unset, .unset, .unset]) rfl (rfl : 23 + 2 = 25) ?_
  obtain ⟨oo, hoo⟩ : ∃ z : Int32, z = ((px &&& (2147483647 : Int32)) % (20 : Int32)) := ⟨_, rfl⟩
  rw [← hoo]
  show own_W p e (FrameEnd s) below room_1.cells room_1.slots (Q0 Z qh ql pc pf px ps h0 n0) s₁ (mkF m 25 #[.val (.long qh), .second, .val (.long ql), .second, .val (.int pc), .val (.int pf), .val (.int px), .val (.int ps), .val (.int cn), .val (.int of), .val (.int oo), .unset, .unset, .unset, .unset] [])
  have boo := own_o px
  rw [← hoo] at boo
  refine own_iload X0 hx (hb hby at_25) (v := ps) rfl (rfl : 25 + 2 = 27) ?_
  refine own_i2b X0 hx (hb hby at_27) (rfl : 27 + 1 = 28) ?_
  refine own_istore X0 hx (hb hby at_28) (l' := #[.val (.long qh), .second, .val (.long ql), .second, .val (.int pc), .val (.int pf), .val (.int px), .val (.int ps), .val (.int cn), .val (.int of), .val (.int oo), .val (.int (ps.toInt8.toInt32)), .unset, .unset, .unset]) rfl (rfl : 28 + 2 = 30) ?_
  obtain ⟨sv, hsv⟩ : ∃ z : Int32, z = (ps.toInt8.toInt32) := ⟨_, rfl⟩
  rw [← hsv]
  show own_W p e (FrameEnd s) below room_1.cells room_1.slots (Q0 Z qh ql pc pf px ps h0 n0) s₁ (mkF m 30 #[.val (.long qh), .second, .val (.long ql), .second, .val (.int pc), .val (.int pf), .val (.int px), .val (.int ps), .val (.int cn), .val (.int of), .val (.int oo), .val (.int sv), .unset, .unset, .unset] [])
  have hsv8 : sv.toInt8.toInt32 = sv := by rw [hsv]; exact own_i8 _
  refine own_bipush X0 hx (hb hby at_30) (20 : Int32) (by first | rfl | decide) (rfl : 30 + 2 = 32) ?_
  obtain ⟨T1, h1, k1, X1, e1, E1, A1, st1⟩ := newP X0 hx hZ (hw _ (List.mem_of_getElem? (i := 1) rfl)) e0 (g := (mkF m 32 #[.val (.long qh), .second, .val (.long ql), .second, .val (.int pc), .val (.int pf), .val (.int px), .val (.int ps), .val (.int cn), .val (.int of), .val (.int oo), .val (.int sv), .unset, .unset, .unset] [(.int (20 : Int32))])) rfl (hb hby at_32) rfl (by decide) (cap := 20) (by decide) (by decide) (by decide) (by decide)
  obtain ⟨arr, g1⟩ : ∃ z, z = h0.size := ⟨_, rfl⟩
  rw [← g1] at A1 st1
  refine own_W.step st1 ?_
  have g_arr : n0 ≤ arr := Nat.le_trans Z0 (Nat.le_of_eq g1.symm)
  have z1 : n0 ≤ h1.size := Nat.le_trans Z0 E1.1
  have V1 : own_A Z h1 arr .byte (20) (fun z => .int (own_k0 z)) := own_A.new A1 (by decide) (by decide)
  show own_W p e (FrameEnd s) below room_1.cells room_1.slots (Q0 Z qh ql pc pf px ps h0 n0) T1 (mkF m 34 #[.val (.long qh), .second, .val (.long ql), .second, .val (.int pc), .val (.int pf), .val (.int px), .val (.int ps), .val (.int cn), .val (.int of), .val (.int oo), .val (.int sv), .unset, .unset, .unset] [(.ref arr)])
  refine own_dup X1 hx (hb hby at_34) rfl (rfl : 34 + 1 = 35) ?_
  refine own_iconst X1 hx (hb hby at_35) (0 : Int32) (by first | rfl | decide) (rfl : 35 + 1 = 36) ?_
  refine own_iload X1 hx (hb hby at_36) (v := sv) rfl (rfl : 36 + 2 = 38) ?_
  have hi2 : own_In (0 : Int32) (0) (20) := ⟨by decide, by decide⟩
  obtain ⟨T2, h2, X2, e2, W2, V2, st2⟩ := own_stB X1 hx hZ e1 V1 hi2 (g := (mkF m 38 #[.val (.long qh), .second, .val (.long ql), .second, .val (.int pc), .val (.int pf), .val (.int px), .val (.int ps), .val (.int cn), .val (.int of), .val (.int oo), .val (.int sv), .unset, .unset, .unset] [(.int sv), (.int (0 : Int32)), (.ref arr), (.ref arr)])) rfl rfl (hb hby at_38)
  refine own_W.step st2 ?_
  have N2 := Fr.snoc X2 N0 g_arr
  have U2 : own_A Z h2 arr .byte (20) (fun z => .int (if z < 1 then sv else (0 : Int32))) := V2.congr (fun z _ => own_fill0 hsv8  z)
  have z2 : n0 ≤ h2.size := by rw [W2.size]; exact z1
  show own_W p e (FrameEnd s) below room_1.cells room_1.slots (Q0 Z qh ql pc pf px ps h0 n0) T2 (mkF m 39 #[.val (.long qh), .second, .val (.long ql), .second, .val (.int pc), .val (.int pf), .val (.int px), .val (.int ps), .val (.int cn), .val (.int of), .val (.int oo), .val (.int sv), .unset, .unset, .unset] [(.ref arr)])
  refine own_dup X2 hx (hb hby at_39) rfl (rfl : 39 + 1 = 40) ?_
  refine own_iconst X2 hx (hb hby at_40) (1 : Int32) (by first | rfl | decide) (rfl : 40 + 1 = 41) ?_
  refine own_iload X2 hx (hb hby at_41) (v := sv) rfl (rfl : 41 + 2 = 43) ?_
  have hi3 : own_In (1 : Int32) (1) (20) := ⟨by decide, by decide⟩
  obtain ⟨T3, h3, X3, e3, W3, V3, st3⟩ := own_stB X2 hx hZ e2 U2 hi3 (g := (mkF m 43 #[.val (.long qh), .second, .val (.long ql), .second, .val (.int pc), .val (.int pf), .val (.int px), .val (.int ps), .val (.int cn), .val (.int of), .val (.int oo), .val (.int sv), .unset, .unset, .unset] [(.int sv), (.int (1 : Int32)), (.ref arr), (.ref arr)])) rfl rfl (hb hby at_43)
  refine own_W.step st3 ?_
  have N3 := Fr.snoc X3 N2 g_arr
  have U3 : own_A Z h3 arr .byte (20) (fun z => .int (if z < 2 then sv else (0 : Int32))) := V3.congr (fun z _ => own_fill hsv8 1 z)
  have z3 : n0 ≤ h3.size := by rw [W3.size]; exact z2
  show own_W p e (FrameEnd s) below room_1.cells room_1.slots (Q0 Z qh ql pc pf px ps h0 n0) T3 (mkF m 44 #[.val (.long qh), .second, .val (.long ql), .second, .val (.int pc), .val (.int pf), .val (.int px), .val (.int ps), .val (.int cn), .val (.int of), .val (.int oo), .val (.int sv), .unset, .unset, .unset] [(.ref arr)])
  refine own_dup X3 hx (hb hby at_44) rfl (rfl : 44 + 1 = 45) ?_
  refine own_iconst X3 hx (hb hby at_45) (2 : Int32) (by first | rfl | decide) (rfl : 45 + 1 = 46) ?_
  refine own_iload X3 hx (hb hby at_46) (v := sv) rfl (rfl : 46 + 2 = 48) ?_
  have hi4 : own_In (2 : Int32) (2) (20) := ⟨by decide, by decide⟩
  obtain ⟨T4, h4, X4, e4, W4, V4, st4⟩ := own_stB X3 hx hZ e3 U3 hi4 (g := (mkF m 48 #[.val (.long qh), .second, .val (.long ql), .second, .val (.int pc), .val (.int pf), .val (.int px), .val (.int ps), .val (.int cn), .val (.int of), .val (.int oo), .val (.int sv), .unset, .unset, .unset] [(.int sv), (.int (2 : Int32)), (.ref arr), (.ref arr)])) rfl rfl (hb hby at_48)
  refine own_W.step st4 ?_
  have N4 := Fr.snoc X4 N3 g_arr
  have U4 : own_A Z h4 arr .byte (20) (fun z => .int (if z < 3 then sv else (0 : Int32))) := V4.congr (fun z _ => own_fill hsv8 2 z)
  have z4 : n0 ≤ h4.size := by rw [W4.size]; exact z3
  show own_W p e (FrameEnd s) below room_1.cells room_1.slots (Q0 Z qh ql pc pf px ps h0 n0) T4 (mkF m 49 #[.val (.long qh), .second, .val (.long ql), .second, .val (.int pc), .val (.int pf), .val (.int px), .val (.int ps), .val (.int cn), .val (.int of), .val (.int oo), .val (.int sv), .unset, .unset, .unset] [(.ref arr)])
  refine own_dup X4 hx (hb hby at_49) rfl (rfl : 49 + 1 = 50) ?_
  refine own_iconst X4 hx (hb hby at_50) (3 : Int32) (by first | rfl | decide) (rfl : 50 + 1 = 51) ?_
  refine own_iload X4 hx (hb hby at_51) (v := sv) rfl (rfl : 51 + 2 = 53) ?_
  have hi5 : own_In (3 : Int32) (3) (20) := ⟨by decide, by decide⟩
  obtain ⟨T5, h5, X5, e5, W5, V5, st5⟩ := own_stB X4 hx hZ e4 U4 hi5 (g := (mkF m 53 #[.val (.long qh), .second, .val (.long ql), .second, .val (.int pc), .val (.int pf), .val (.int px), .val (.int ps), .val (.int cn), .val (.int of), .val (.int oo), .val (.int sv), .unset, .unset, .unset] [(.int sv), (.int (3 : Int32)), (.ref arr), (.ref arr)])) rfl rfl (hb hby at_53)
  refine own_W.step st5 ?_
  have N5 := Fr.snoc X5 N4 g_arr
  have U5 : own_A Z h5 arr .byte (20) (fun z => .int (if z < 4 then sv else (0 : Int32))) := V5.congr (fun z _ => own_fill hsv8 3 z)
  have z5 : n0 ≤ h5.size := by rw [W5.size]; exact z4
  show own_W p e (FrameEnd s) below room_1.cells room_1.slots (Q0 Z qh ql pc pf px ps h0 n0) T5 (mkF m 54 #[.val (.long qh), .second, .val (.long ql), .second, .val (.int pc), .val (.int pf), .val (.int px), .val (.int ps), .val (.int cn), .val (.int of), .val (.int oo), .val (.int sv), .unset, .unset, .unset] [(.ref arr)])
  refine own_dup X5 hx (hb hby at_54) rfl (rfl : 54 + 1 = 55) ?_
  refine own_iconst X5 hx (hb hby at_55) (4 : Int32) (by first | rfl | decide) (rfl : 55 + 1 = 56) ?_
  refine own_iload X5 hx (hb hby at_56) (v := sv) rfl (rfl : 56 + 2 = 58) ?_
  have hi6 : own_In (4 : Int32) (4) (20) := ⟨by decide, by decide⟩
  obtain ⟨T6, h6, X6, e6, W6, V6, st6⟩ := own_stB X5 hx hZ e5 U5 hi6 (g := (mkF m 58 #[.val (.long qh), .second, .val (.long ql), .second, .val (.int pc), .val (.int pf), .val (.int px), .val (.int ps), .val (.int cn), .val (.int of), .val (.int oo), .val (.int sv), .unset, .unset, .unset] [(.int sv), (.int (4 : Int32)), (.ref arr), (.ref arr)])) rfl rfl (hb hby at_58)
  refine own_W.step st6 ?_
  have N6 := Fr.snoc X6 N5 g_arr
  have U6 : own_A Z h6 arr .byte (20) (fun z => .int (if z < 5 then sv else (0 : Int32))) := V6.congr (fun z _ => own_fill hsv8 4 z)
  have z6 : n0 ≤ h6.size := by rw [W6.size]; exact z5
  show own_W p e (FrameEnd s) below room_1.cells room_1.slots (Q0 Z qh ql pc pf px ps h0 n0) T6 (mkF m 59 #[.val (.long qh), .second, .val (.long ql), .second, .val (.int pc), .val (.int pf), .val (.int px), .val (.int ps), .val (.int cn), .val (.int of), .val (.int oo), .val (.int sv), .unset, .unset, .unset] [(.ref arr)])
  refine own_dup X6 hx (hb hby at_59) rfl (rfl : 59 + 1 = 60) ?_
  refine own_iconst X6 hx (hb hby at_60) (5 : Int32) (by first | rfl | decide) (rfl : 60 + 1 = 61) ?_
  refine own_iload X6 hx (hb hby at_61) (v := sv) rfl (rfl : 61 + 2 = 63) ?_
  have hi7 : own_In (5 : Int32) (5) (20) := ⟨by decide, by decide⟩
  obtain ⟨T7, h7, X7, e7, W7, V7, st7⟩ := own_stB X6 hx hZ e6 U6 hi7 (g := (mkF m 63 #[.val (.long qh), .second, .val (.long ql), .second, .val (.int pc), .val (.int pf), .val (.int px), .val (.int ps), .val (.int cn), .val (.int of), .val (.int oo), .val (.int sv), .unset, .unset, .unset] [(.int sv), (.int (5 : Int32)), (.ref arr), (.ref arr)])) rfl rfl (hb hby at_63)
  refine own_W.step st7 ?_
  have N7 := Fr.snoc X7 N6 g_arr
  have U7 : own_A Z h7 arr .byte (20) (fun z => .int (if z < 6 then sv else (0 : Int32))) := V7.congr (fun z _ => own_fill hsv8 5 z)
  have z7 : n0 ≤ h7.size := by rw [W7.size]; exact z6
  show own_W p e (FrameEnd s) below room_1.cells room_1.slots (Q0 Z qh ql pc pf px ps h0 n0) T7 (mkF m 64 #[.val (.long qh), .second, .val (.long ql), .second, .val (.int pc), .val (.int pf), .val (.int px), .val (.int ps), .val (.int cn), .val (.int of), .val (.int oo), .val (.int sv), .unset, .unset, .unset] [(.ref arr)])
  refine own_dup X7 hx (hb hby at_64) rfl (rfl : 64 + 1 = 65) ?_
  refine own_bipush X7 hx (hb hby at_65) (6 : Int32) (by first | rfl | decide) (rfl : 65 + 2 = 67) ?_
  refine own_iload X7 hx (hb hby at_67) (v := sv) rfl (rfl : 67 + 2 = 69) ?_
  have hi8 : own_In (6 : Int32) (6) (20) := ⟨by decide, by decide⟩
  obtain ⟨T8, h8, X8, e8, W8, V8, st8⟩ := own_stB X7 hx hZ e7 U7 hi8 (g := (mkF m 69 #[.val (.long qh), .second, .val (.long ql), .second, .val (.int pc), .val (.int pf), .val (.int px), .val (.int ps), .val (.int cn), .val (.int of), .val (.int oo), .val (.int sv), .unset, .unset, .unset] [(.int sv), (.int (6 : Int32)), (.ref arr), (.ref arr)])) rfl rfl (hb hby at_69)
  refine own_W.step st8 ?_
  have N8 := Fr.snoc X8 N7 g_arr
  have U8 : own_A Z h8 arr .byte (20) (fun z => .int (if z < 7 then sv else (0 : Int32))) := V8.congr (fun z _ => own_fill hsv8 6 z)
  have z8 : n0 ≤ h8.size := by rw [W8.size]; exact z7
  show own_W p e (FrameEnd s) below room_1.cells room_1.slots (Q0 Z qh ql pc pf px ps h0 n0) T8 (mkF m 70 #[.val (.long qh), .second, .val (.long ql), .second, .val (.int pc), .val (.int pf), .val (.int px), .val (.int ps), .val (.int cn), .val (.int of), .val (.int oo), .val (.int sv), .unset, .unset, .unset] [(.ref arr)])
  refine own_dup X8 hx (hb hby at_70) rfl (rfl : 70 + 1 = 71) ?_
  refine own_bipush X8 hx (hb hby at_71) (7 : Int32) (by first | rfl | decide) (rfl : 71 + 2 = 73) ?_
  refine own_iload X8 hx (hb hby at_73) (v := sv) rfl (rfl : 73 + 2 = 75) ?_
  have hi9 : own_In (7 : Int32) (7) (20) := ⟨by decide, by decide⟩
  obtain ⟨T9, h9, X9, e9, W9, V9, st9⟩ := own_stB X8 hx hZ e8 U8 hi9 (g := (mkF m 75 #[.val (.long qh), .second, .val (.long ql), .second, .val (.int pc), .val (.int pf), .val (.int px), .val (.int ps), .val (.int cn), .val (.int of), .val (.int oo), .val (.int sv), .unset, .unset, .unset] [(.int sv), (.int (7 : Int32)), (.ref arr), (.ref arr)])) rfl rfl (hb hby at_75)
  refine own_W.step st9 ?_
  have N9 := Fr.snoc X9 N8 g_arr
  have U9 : own_A Z h9 arr .byte (20) (fun z => .int (if z < 8 then sv else (0 : Int32))) := V9.congr (fun z _ => own_fill hsv8 7 z)
  have z9 : n0 ≤ h9.size := by rw [W9.size]; exact z8
  show own_W p e (FrameEnd s) below room_1.cells room_1.slots (Q0 Z qh ql pc pf px ps h0 n0) T9 (mkF m 76 #[.val (.long qh), .second, .val (.long ql), .second, .val (.int pc), .val (.int pf), .val (.int px), .val (.int ps), .val (.int cn), .val (.int of), .val (.int oo), .val (.int sv), .unset, .unset, .unset] [(.ref arr)])
  refine own_dup X9 hx (hb hby at_76) rfl (rfl : 76 + 1 = 77) ?_
  refine own_bipush X9 hx (hb hby at_77) (8 : Int32) (by first | rfl | decide) (rfl : 77 + 2 = 79) ?_
  refine own_iload X9 hx (hb hby at_79) (v := sv) rfl (rfl : 79 + 2 = 81) ?_
  have hi10 : own_In (8 : Int32) (8) (20) := ⟨by decide, by decide⟩
  obtain ⟨T10, h10, X10, e10, W10, V10, st10⟩ := own_stB X9 hx hZ e9 U9 hi10 (g := (mkF m 81 #[.val (.long qh), .second, .val (.long ql), .second, .val (.int pc), .val (.int pf), .val (.int px), .val (.int ps), .val (.int cn), .val (.int of), .val (.int oo), .val (.int sv), .unset, .unset, .unset] [(.int sv), (.int (8 : Int32)), (.ref arr), (.ref arr)])) rfl rfl (hb hby at_81)
  refine own_W.step st10 ?_
  have N10 := Fr.snoc X10 N9 g_arr
  have U10 : own_A Z h10 arr .byte (20) (fun z => .int (if z < 9 then sv else (0 : Int32))) := V10.congr (fun z _ => own_fill hsv8 8 z)
  have z10 : n0 ≤ h10.size := by rw [W10.size]; exact z9
  show own_W p e (FrameEnd s) below room_1.cells room_1.slots (Q0 Z qh ql pc pf px ps h0 n0) T10 (mkF m 82 #[.val (.long qh), .second, .val (.long ql), .second, .val (.int pc), .val (.int pf), .val (.int px), .val (.int ps), .val (.int cn), .val (.int of), .val (.int oo), .val (.int sv), .unset, .unset, .unset] [(.ref arr)])
  refine own_dup X10 hx (hb hby at_82) rfl (rfl : 82 + 1 = 83) ?_
  refine own_bipush X10 hx (hb hby at_83) (9 : Int32) (by first | rfl | decide) (rfl : 83 + 2 = 85) ?_
  refine own_iload X10 hx (hb hby at_85) (v := sv) rfl (rfl : 85 + 2 = 87) ?_
  have hi11 : own_In (9 : Int32) (9) (20) := ⟨by decide, by decide⟩
  obtain ⟨T11, h11, X11, e11, W11, V11, st11⟩ := own_stB X10 hx hZ e10 U10 hi11 (g := (mkF m 87 #[.val (.long qh), .second, .val (.long ql), .second, .val (.int pc), .val (.int pf), .val (.int px), .val (.int ps), .val (.int cn), .val (.int of), .val (.int oo), .val (.int sv), .unset, .unset, .unset] [(.int sv), (.int (9 : Int32)), (.ref arr), (.ref arr)])) rfl rfl (hb hby at_87)
  refine own_W.step st11 ?_
  have N11 := Fr.snoc X11 N10 g_arr
  have U11 : own_A Z h11 arr .byte (20) (fun z => .int (if z < 10 then sv else (0 : Int32))) := V11.congr (fun z _ => own_fill hsv8 9 z)
  have z11 : n0 ≤ h11.size := by rw [W11.size]; exact z10
  show own_W p e (FrameEnd s) below room_1.cells room_1.slots (Q0 Z qh ql pc pf px ps h0 n0) T11 (mkF m 88 #[.val (.long qh), .second, .val (.long ql), .second, .val (.int pc), .val (.int pf), .val (.int px), .val (.int ps), .val (.int cn), .val (.int of), .val (.int oo), .val (.int sv), .unset, .unset, .unset] [(.ref arr)])
  refine own_dup X11 hx (hb hby at_88) rfl (rfl : 88 + 1 = 89) ?_
  refine own_bipush X11 hx (hb hby at_89) (10 : Int32) (by first | rfl | decide) (rfl : 89 + 2 = 91) ?_
  refine own_iload X11 hx (hb hby at_91) (v := sv) rfl (rfl : 91 + 2 = 93) ?_
  have hi12 : own_In (10 : Int32) (10) (20) := ⟨by decide, by decide⟩
  obtain ⟨T12, h12, X12, e12, W12, V12, st12⟩ := own_stB X11 hx hZ e11 U11 hi12 (g := (mkF m 93 #[.val (.long qh), .second, .val (.long ql), .second, .val (.int pc), .val (.int pf), .val (.int px), .val (.int ps), .val (.int cn), .val (.int of), .val (.int oo), .val (.int sv), .unset, .unset, .unset] [(.int sv), (.int (10 : Int32)), (.ref arr), (.ref arr)])) rfl rfl (hb hby at_93)
  refine own_W.step st12 ?_
  have N12 := Fr.snoc X12 N11 g_arr
  have U12 : own_A Z h12 arr .byte (20) (fun z => .int (if z < 11 then sv else (0 : Int32))) := V12.congr (fun z _ => own_fill hsv8 10 z)
  have z12 : n0 ≤ h12.size := by rw [W12.size]; exact z11
  show own_W p e (FrameEnd s) below room_1.cells room_1.slots (Q0 Z qh ql pc pf px ps h0 n0) T12 (mkF m 94 #[.val (.long qh), .second, .val (.long ql), .second, .val (.int pc), .val (.int pf), .val (.int px), .val (.int ps), .val (.int cn), .val (.int of), .val (.int oo), .val (.int sv), .unset, .unset, .unset] [(.ref arr)])
  refine own_dup X12 hx (hb hby at_94) rfl (rfl : 94 + 1 = 95) ?_
  refine own_bipush X12 hx (hb hby at_95) (11 : Int32) (by first | rfl | decide) (rfl : 95 + 2 = 97) ?_
  refine own_iload X12 hx (hb hby at_97) (v := sv) rfl (rfl : 97 + 2 = 99) ?_
  have hi13 : own_In (11 : Int32) (11) (20) := ⟨by decide, by decide⟩
  obtain ⟨T13, h13, X13, e13, W13, V13, st13⟩ := own_stB X12 hx hZ e12 U12 hi13 (g := (mkF m 99 #[.val (.long qh), .second, .val (.long ql), .second, .val (.int pc), .val (.int pf), .val (.int px), .val (.int ps), .val (.int cn), .val (.int of), .val (.int oo), .val (.int sv), .unset, .unset, .unset] [(.int sv), (.int (11 : Int32)), (.ref arr), (.ref arr)])) rfl rfl (hb hby at_99)
  refine own_W.step st13 ?_
  have N13 := Fr.snoc X13 N12 g_arr
  have U13 : own_A Z h13 arr .byte (20) (fun z => .int (if z < 12 then sv else (0 : Int32))) := V13.congr (fun z _ => own_fill hsv8 11 z)
  have z13 : n0 ≤ h13.size := by rw [W13.size]; exact z12
  show own_W p e (FrameEnd s) below room_1.cells room_1.slots (Q0 Z qh ql pc pf px ps h0 n0) T13 (mkF m 100 #[.val (.long qh), .second, .val (.long ql), .second, .val (.int pc), .val (.int pf), .val (.int px), .val (.int ps), .val (.int cn), .val (.int of), .val (.int oo), .val (.int sv), .unset, .unset, .unset] [(.ref arr)])
  refine own_dup X13 hx (hb hby at_100) rfl (rfl : 100 + 1 = 101) ?_
  refine own_bipush X13 hx (hb hby at_101) (12 : Int32) (by first | rfl | decide) (rfl : 101 + 2 = 103) ?_
  refine own_iload X13 hx (hb hby at_103) (v := sv) rfl (rfl : 103 + 2 = 105) ?_
  have hi14 : own_In (12 : Int32) (12) (20) := ⟨by decide, by decide⟩
  obtain ⟨T14, h14, X14, e14, W14, V14, st14⟩ := own_stB X13 hx hZ e13 U13 hi14 (g := (mkF m 105 #[.val (.long qh), .second, .val (.long ql), .second, .val (.int pc), .val (.int pf), .val (.int px), .val (.int ps), .val (.int cn), .val (.int of), .val (.int oo), .val (.int sv), .unset, .unset, .unset] [(.int sv), (.int (12 : Int32)), (.ref arr), (.ref arr)])) rfl rfl (hb hby at_105)
  refine own_W.step st14 ?_
  have N14 := Fr.snoc X14 N13 g_arr
  have U14 : own_A Z h14 arr .byte (20) (fun z => .int (if z < 13 then sv else (0 : Int32))) := V14.congr (fun z _ => own_fill hsv8 12 z)
  have z14 : n0 ≤ h14.size := by rw [W14.size]; exact z13
  show own_W p e (FrameEnd s) below room_1.cells room_1.slots (Q0 Z qh ql pc pf px ps h0 n0) T14 (mkF m 106 #[.val (.long qh), .second, .val (.long ql), .second, .val (.int pc), .val (.int pf), .val (.int px), .val (.int ps), .val (.int cn), .val (.int of), .val (.int oo), .val (.int sv), .unset, .unset, .unset] [(.ref arr)])
  refine own_dup X14 hx (hb hby at_106) rfl (rfl : 106 + 1 = 107) ?_
  refine own_bipush X14 hx (hb hby at_107) (13 : Int32) (by first | rfl | decide) (rfl : 107 + 2 = 109) ?_
  refine own_iload X14 hx (hb hby at_109) (v := sv) rfl (rfl : 109 + 2 = 111) ?_
  have hi15 : own_In (13 : Int32) (13) (20) := ⟨by decide, by decide⟩
  obtain ⟨T15, h15, X15, e15, W15, V15, st15⟩ := own_stB X14 hx hZ e14 U14 hi15 (g := (mkF m 111 #[.val (.long qh), .second, .val (.long ql), .second, .val (.int pc), .val (.int pf), .val (.int px), .val (.int ps), .val (.int cn), .val (.int of), .val (.int oo), .val (.int sv), .unset, .unset, .unset] [(.int sv), (.int (13 : Int32)), (.ref arr), (.ref arr)])) rfl rfl (hb hby at_111)
  refine own_W.step st15 ?_
  have N15 := Fr.snoc X15 N14 g_arr
  have U15 : own_A Z h15 arr .byte (20) (fun z => .int (if z < 14 then sv else (0 : Int32))) := V15.congr (fun z _ => own_fill hsv8 13 z)
  have z15 : n0 ≤ h15.size := by rw [W15.size]; exact z14
  show own_W p e (FrameEnd s) below room_1.cells room_1.slots (Q0 Z qh ql pc pf px ps h0 n0) T15 (mkF m 112 #[.val (.long qh), .second, .val (.long ql), .second, .val (.int pc), .val (.int pf), .val (.int px), .val (.int ps), .val (.int cn), .val (.int of), .val (.int oo), .val (.int sv), .unset, .unset, .unset] [(.ref arr)])
  refine own_dup X15 hx (hb hby at_112) rfl (rfl : 112 + 1 = 113) ?_
  refine own_bipush X15 hx (hb hby at_113) (14 : Int32) (by first | rfl | decide) (rfl : 113 + 2 = 115) ?_
  refine own_iload X15 hx (hb hby at_115) (v := sv) rfl (rfl : 115 + 2 = 117) ?_
  have hi16 : own_In (14 : Int32) (14) (20) := ⟨by decide, by decide⟩
  obtain ⟨T16, h16, X16, e16, W16, V16, st16⟩ := own_stB X15 hx hZ e15 U15 hi16 (g := (mkF m 117 #[.val (.long qh), .second, .val (.long ql), .second, .val (.int pc), .val (.int pf), .val (.int px), .val (.int ps), .val (.int cn), .val (.int of), .val (.int oo), .val (.int sv), .unset, .unset, .unset] [(.int sv), (.int (14 : Int32)), (.ref arr), (.ref arr)])) rfl rfl (hb hby at_117)
  refine own_W.step st16 ?_
  have N16 := Fr.snoc X16 N15 g_arr
  have U16 : own_A Z h16 arr .byte (20) (fun z => .int (if z < 15 then sv else (0 : Int32))) := V16.congr (fun z _ => own_fill hsv8 14 z)
  have z16 : n0 ≤ h16.size := by rw [W16.size]; exact z15
  show own_W p e (FrameEnd s) below room_1.cells room_1.slots (Q0 Z qh ql pc pf px ps h0 n0) T16 (mkF m 118 #[.val (.long qh), .second, .val (.long ql), .second, .val (.int pc), .val (.int pf), .val (.int px), .val (.int ps), .val (.int cn), .val (.int of), .val (.int oo), .val (.int sv), .unset, .unset, .unset] [(.ref arr)])
  refine own_dup X16 hx (hb hby at_118) rfl (rfl : 118 + 1 = 119) ?_
  refine own_bipush X16 hx (hb hby at_119) (15 : Int32) (by first | rfl | decide) (rfl : 119 + 2 = 121) ?_
  refine own_iload X16 hx (hb hby at_121) (v := sv) rfl (rfl : 121 + 2 = 123) ?_
  have hi17 : own_In (15 : Int32) (15) (20) := ⟨by decide, by decide⟩
  obtain ⟨T17, h17, X17, e17, W17, V17, st17⟩ := own_stB X16 hx hZ e16 U16 hi17 (g := (mkF m 123 #[.val (.long qh), .second, .val (.long ql), .second, .val (.int pc), .val (.int pf), .val (.int px), .val (.int ps), .val (.int cn), .val (.int of), .val (.int oo), .val (.int sv), .unset, .unset, .unset] [(.int sv), (.int (15 : Int32)), (.ref arr), (.ref arr)])) rfl rfl (hb hby at_123)
  refine own_W.step st17 ?_
  have N17 := Fr.snoc X17 N16 g_arr
  have U17 : own_A Z h17 arr .byte (20) (fun z => .int (if z < 16 then sv else (0 : Int32))) := V17.congr (fun z _ => own_fill hsv8 15 z)
  have z17 : n0 ≤ h17.size := by rw [W17.size]; exact z16
  show own_W p e (FrameEnd s) below room_1.cells room_1.slots (Q0 Z qh ql pc pf px ps h0 n0) T17 (mkF m 124 #[.val (.long qh), .second, .val (.long ql), .second, .val (.int pc), .val (.int pf), .val (.int px), .val (.int ps), .val (.int cn), .val (.int of), .val (.int oo), .val (.int sv), .unset, .unset, .unset] [(.ref arr)])
  refine own_dup X17 hx (hb hby at_124) rfl (rfl : 124 + 1 = 125) ?_
  refine own_bipush X17 hx (hb hby at_125) (16 : Int32) (by first | rfl | decide) (rfl : 125 + 2 = 127) ?_
  refine own_iload X17 hx (hb hby at_127) (v := sv) rfl (rfl : 127 + 2 = 129) ?_
  have hi18 : own_In (16 : Int32) (16) (20) := ⟨by decide, by decide⟩
  obtain ⟨T18, h18, X18, e18, W18, V18, st18⟩ := own_stB X17 hx hZ e17 U17 hi18 (g := (mkF m 129 #[.val (.long qh), .second, .val (.long ql), .second, .val (.int pc), .val (.int pf), .val (.int px), .val (.int ps), .val (.int cn), .val (.int of), .val (.int oo), .val (.int sv), .unset, .unset, .unset] [(.int sv), (.int (16 : Int32)), (.ref arr), (.ref arr)])) rfl rfl (hb hby at_129)
  refine own_W.step st18 ?_
  have N18 := Fr.snoc X18 N17 g_arr
  have U18 : own_A Z h18 arr .byte (20) (fun z => .int (if z < 17 then sv else (0 : Int32))) := V18.congr (fun z _ => own_fill hsv8 16 z)
  have z18 : n0 ≤ h18.size := by rw [W18.size]; exact z17
  show own_W p e (FrameEnd s) below room_1.cells room_1.slots (Q0 Z qh ql pc pf px ps h0 n0) T18 (mkF m 130 #[.val (.long qh), .second, .val (.long ql), .second, .val (.int pc), .val (.int pf), .val (.int px), .val (.int ps), .val (.int cn), .val (.int of), .val (.int oo), .val (.int sv), .unset, .unset, .unset] [(.ref arr)])
  refine own_dup X18 hx (hb hby at_130) rfl (rfl : 130 + 1 = 131) ?_
  refine own_bipush X18 hx (hb hby at_131) (17 : Int32) (by first | rfl | decide) (rfl : 131 + 2 = 133) ?_
  refine own_iload X18 hx (hb hby at_133) (v := sv) rfl (rfl : 133 + 2 = 135) ?_
  have hi19 : own_In (17 : Int32) (17) (20) := ⟨by decide, by decide⟩
  obtain ⟨T19, h19, X19, e19, W19, V19, st19⟩ := own_stB X18 hx hZ e18 U18 hi19 (g := (mkF m 135 #[.val (.long qh), .second, .val (.long ql), .second, .val (.int pc), .val (.int pf), .val (.int px), .val (.int ps), .val (.int cn), .val (.int of), .val (.int oo), .val (.int sv), .unset, .unset, .unset] [(.int sv), (.int (17 : Int32)), (.ref arr), (.ref arr)])) rfl rfl (hb hby at_135)
  refine own_W.step st19 ?_
  have N19 := Fr.snoc X19 N18 g_arr
  have U19 : own_A Z h19 arr .byte (20) (fun z => .int (if z < 18 then sv else (0 : Int32))) := V19.congr (fun z _ => own_fill hsv8 17 z)
  have z19 : n0 ≤ h19.size := by rw [W19.size]; exact z18
  show own_W p e (FrameEnd s) below room_1.cells room_1.slots (Q0 Z qh ql pc pf px ps h0 n0) T19 (mkF m 136 #[.val (.long qh), .second, .val (.long ql), .second, .val (.int pc), .val (.int pf), .val (.int px), .val (.int ps), .val (.int cn), .val (.int of), .val (.int oo), .val (.int sv), .unset, .unset, .unset] [(.ref arr)])
  refine own_dup X19 hx (hb hby at_136) rfl (rfl : 136 + 1 = 137) ?_
  refine own_bipush X19 hx (hb hby at_137) (18 : Int32) (by first | rfl | decide) (rfl : 137 + 2 = 139) ?_
  refine own_iload X19 hx (hb hby at_139) (v := sv) rfl (rfl : 139 + 2 = 141) ?_
  have hi20 : own_In (18 : Int32) (18) (20) := ⟨by decide, by decide⟩
  obtain ⟨T20, h20, X20, e20, W20, V20, st20⟩ := own_stB X19 hx hZ e19 U19 hi20 (g := (mkF m 141 #[.val (.long qh), .second, .val (.long ql), .second, .val (.int pc), .val (.int pf), .val (.int px), .val (.int ps), .val (.int cn), .val (.int of), .val (.int oo), .val (.int sv), .unset, .unset, .unset] [(.int sv), (.int (18 : Int32)), (.ref arr), (.ref arr)])) rfl rfl (hb hby at_141)
  refine own_W.step st20 ?_
  have N20 := Fr.snoc X20 N19 g_arr
  have U20 : own_A Z h20 arr .byte (20) (fun z => .int (if z < 19 then sv else (0 : Int32))) := V20.congr (fun z _ => own_fill hsv8 18 z)
  have z20 : n0 ≤ h20.size := by rw [W20.size]; exact z19
  show own_W p e (FrameEnd s) below room_1.cells room_1.slots (Q0 Z qh ql pc pf px ps h0 n0) T20 (mkF m 142 #[.val (.long qh), .second, .val (.long ql), .second, .val (.int pc), .val (.int pf), .val (.int px), .val (.int ps), .val (.int cn), .val (.int of), .val (.int oo), .val (.int sv), .unset, .unset, .unset] [(.ref arr)])
  refine own_dup X20 hx (hb hby at_142) rfl (rfl : 142 + 1 = 143) ?_
  refine own_bipush X20 hx (hb hby at_143) (19 : Int32) (by first | rfl | decide) (rfl : 143 + 2 = 145) ?_
  refine own_iload X20 hx (hb hby at_145) (v := sv) rfl (rfl : 145 + 2 = 147) ?_
  have hi21 : own_In (19 : Int32) (19) (20) := ⟨by decide, by decide⟩
  obtain ⟨T21, h21, X21, e21, W21, V21, st21⟩ := own_stB X20 hx hZ e20 U20 hi21 (g := (mkF m 147 #[.val (.long qh), .second, .val (.long ql), .second, .val (.int pc), .val (.int pf), .val (.int px), .val (.int ps), .val (.int cn), .val (.int of), .val (.int oo), .val (.int sv), .unset, .unset, .unset] [(.int sv), (.int (19 : Int32)), (.ref arr), (.ref arr)])) rfl rfl (hb hby at_147)
  refine own_W.step st21 ?_
  have N21 := Fr.snoc X21 N20 g_arr
  have U21 : own_A Z h21 arr .byte (20) (fun z => .int (if z < 20 then sv else (0 : Int32))) := V21.congr (fun z _ => own_fill hsv8 19 z)
  have z21 : n0 ≤ h21.size := by rw [W21.size]; exact z20
  show own_W p e (FrameEnd s) below room_1.cells room_1.slots (Q0 Z qh ql pc pf px ps h0 n0) T21 (mkF m 148 #[.val (.long qh), .second, .val (.long ql), .second, .val (.int pc), .val (.int pf), .val (.int px), .val (.int ps), .val (.int cn), .val (.int of), .val (.int oo), .val (.int sv), .unset, .unset, .unset] [(.ref arr)])
  refine own_astore X21 hx (hb hby at_148) (l' := #[.val (.long qh), .second, .val (.long ql), .second, .val (.int pc), .val (.int pf), .val (.int px), .val (.int ps), .val (.int cn), .val (.int of), .val (.int oo), .val (.int sv), .val (.ref arr), .unset, .unset]) rfl rfl (rfl : 148 + 2 = 150) ?_
  refine own_lloadN X21 hx (hb hby at_150) (v := qh) rfl (rfl : 150 + 1 = 151) ?_
  refine own_lloadN X21 hx (hb hby at_151) (v := ql) rfl (rfl : 151 + 1 = 152) ?_
  refine own_aload X21 hx (hb hby at_152) (v := (.ref arr)) rfl rfl (rfl : 152 + 2 = 154) ?_
  refine own_iload X21 hx (hb hby at_154) (v := of) rfl (rfl : 154 + 2 = 156) ?_
  refine own_iload X21 hx (hb hby at_156) (v := cn) rfl (rfl : 156 + 2 = 158) ?_
  obtain ⟨_, _, ⟨T22, L22, k22, n22⟩, -, X22, ⟨Lc22, hQ22, l22, y22, z22⟩, st22⟩ := Jvm.LawKit.callS X21 hx (y := (⟨"com/example/sumtide/sumtide/Int128", "writeBytes", "(JJ[BII)V"⟩ : MethodName)) hown (mvT hZ (hw _ (List.mem_of_getElem? (i := 2) rfl))) (mvT hZ (hw _ (List.mem_of_getElem? (i := 3) rfl))) (mvT hZ (hw _ (List.mem_of_getElem? (i := 4) rfl))) (mvT hZ (hw _ (List.mem_of_getElem? (i := 5) rfl))) (by decide) (backOf (W := 0) (rm1 l Z a0 hw [] qh ql arr of cn (fun z => (if z < 20 then sv else (0 : Int32))) h21 n0 z21 U21 g_arr (bof) (bcn)) hZ (hw _ (List.mem_of_getElem? (i := 5) rfl)) (hw _ (List.mem_of_getElem? (i := 4) rfl)) (by decide) (by decide)) (g := (mkF m 158 #[.val (.long qh), .second, .val (.long ql), .second, .val (.int pc), .val (.int pf), .val (.int px), .val (.int ps), .val (.int cn), .val (.int of), .val (.int oo), .val (.int sv), .val (.ref arr), .unset, .unset] [(.int cn), (.int of), (.ref arr), (.long ql), (.long qh)])) rfl (by rw [hml]; rfl) (argsL := [(.long qh), (.long ql), (.ref arr), (.int of), (.int cn)]) (rest := []) (lenOf own_pd__JJ_BII_V rfl) rfl (by show 2 * 0 + _ ≤ _; exact Nat.le_of_eq rfl) (hb hby at_158) (fun _ _ => ⟨rfl, e21, (by decide : 1 + 0 ≤ _), (by decide : 20 + 0 ≤ _)⟩)
  dsimp only [Pt.U, Pt.locs, Pt.cells, Pt.slots] at X22 l22 y22 z22 st22 hQ22
  subst l22 y22 z22
  obtain ⟨rfl, N22q, K22, fq22_0⟩ := hQ22
  have N22 := Fr.app N21 N22q
  have z22c : n0 ≤ T22.heap.size := Nat.le_trans z21 K22.1
  refine own_W.step st22 ?_
  show own_W p e (FrameEnd s) below room_1.cells room_1.slots (Q0 Z qh ql pc pf px ps h0 n0) T22 (mkF m 161 #[.val (.long qh), .second, .val (.long ql), .second, .val (.int pc), .val (.int pf), .val (.int px), .val (.int ps), .val (.int cn), .val (.int of), .val (.int oo), .val (.int sv), .val (.ref arr), .unset, .unset] [])
  refine own_iload X22 hx (hb hby at_161) (v := oo) rfl (rfl : 161 + 2 = 163) ?_
  refine own_iload X22 hx (hb hby at_163) (v := of) rfl (rfl : 163 + 2 = 165) ?_
  have J206 : ∀ (ex : Int32) (s14 : Slot) (TJ206 : State) (hJ206 : Heap) (LJ206 : List Loc), ∀ (XJ206 : Stand p l e room_1 s m #[(.long qh), (.long ql), (.int pc), (.int pf), (.int px), (.int ps)] below meth c TJ206 LJ206 1 20), ∀ (eJ206 : TJ206.heap = hJ206), ∀ (NJ206 : Fr n0 LJ206), ∀ (zJ206 : n0 ≤ hJ206.size), ∀ (fJ206_0 : own_A Z hJ206 arr .byte (20) (fun z => .int (own_wr qh ql of cn (fun z => (if z < 20 then sv else (0 : Int32))) cn.toInt z))), ∀ (hex : ex = own_wr qh ql of cn (fun z => (if z < 20 then sv else (0 : Int32))) cn.toInt oo.toInt.toNat), own_W p e (FrameEnd s) below room_1.cells room_1.slots (Q0 Z qh ql pc pf px ps h0 n0) TJ206 (mkF m 206 #[.val (.long qh), .second, .val (.long ql), .second, .val (.int pc), .val (.int pf), .val (.int px), .val (.int ps), .val (.int cn), .val (.int of), .val (.int oo), .val (.int sv), .val (.ref arr), .val (.int ex), s14] []) := by
    intro ex s14 TJ206 hJ206 LJ206 XJ206 eJ206 NJ206 zJ206 fJ206_0 hex
    refine own_aload XJ206 hx (hb hby at_206) (v := (.ref arr)) rfl rfl (rfl : 206 + 2 = 208) ?_
    refine own_iload XJ206 hx (hb hby at_208) (v := oo) rfl (rfl : 208 + 2 = 210) ?_
    have hi23 : own_In oo (oo.toInt.toNat) (20) := ⟨by omega, by omega⟩
    refine own_baload XJ206 hx hZ eJ206 fJ206_0 hi23 (v := (own_wr qh ql of cn (fun z => (if z < 20 then sv else (0 : Int32))) cn.toInt oo.toInt.toNat)) rfl (g := (mkF m 210 #[.val (.long qh), .second, .val (.long ql), .second, .val (.int pc), .val (.int pf), .val (.int px), .val (.int ps), .val (.int cn), .val (.int of), .val (.int oo), .val (.int sv), .val (.ref arr), .val (.int ex), s14] [(.int oo), (.ref arr)])) rfl rfl (hb hby at_210) ?_
    show own_W p e (FrameEnd s) below room_1.cells room_1.slots (Q0 Z qh ql pc pf px ps h0 n0) TJ206 (mkF m 211 #[.val (.long qh), .second, .val (.long ql), .second, .val (.int pc), .val (.int pf), .val (.int px), .val (.int ps), .val (.int cn), .val (.int of), .val (.int oo), .val (.int sv), .val (.ref arr), .val (.int ex), s14] [(.int (own_wr qh ql of cn (fun z => (if z < 20 then sv else (0 : Int32))) cn.toInt oo.toInt.toNat))])
    refine own_iload XJ206 hx (hb hby at_211) (v := ex) rfl (rfl : 211 + 2 = 213) ?_
    have hc213 : (own_wr qh ql of cn (fun z => (if z < 20 then sv else (0 : Int32))) cn.toInt oo.toInt.toNat) = ex := hex.symm
    refine own_icmpNo XJ206 hx (hb hby at_213) (teq hc213).2 (rfl : 213 + 3 = 216) ?_
    refine own_iconst XJ206 hx (hb hby at_216) (1 : Int32) (by first | rfl | decide) (rfl : 216 + 1 = 217) ?_
    refine own_goto XJ206 hx (hb hby at_217) (pc' := 221) (by decide) (by decide) ?_
    refine own_retN (t := .boolean) XJ206 hx hlk hret (by simp) (hb hby at_221) (z' := (1 : Int32)) (by decide) (by decide) (by decide) ?_
    show Q0 Z qh ql pc pf px ps h0 n0 (some (.int (1 : Int32))) TJ206.heap _
    rw [eJ206]
    exact ⟨rfl, NJ206⟩
  by_cases hc165 : oo < of
  · skip
    refine own_icmpYes X22 hx (hb hby at_165) (tlt hc165).1 (pc' := 178) (by decide) (by decide) ?_
    refine own_iload X22 hx (hb hby at_178) (v := sv) rfl (rfl : 178 + 2 = 180) ?_
    refine own_istore X22 hx (hb hby at_180) (l' := #[.val (.long qh), .second, .val (.long ql), .second, .val (.int pc), .val (.int pf), .val (.int px), .val (.int ps), .val (.int cn), .val (.int of), .val (.int oo), .val (.int sv), .val (.ref arr), .val (.int sv), .unset]) rfl (rfl : 180 + 2 = 182) ?_
    refine own_goto X22 hx (hb hby at_182) (pc' := 206) (by decide) (by decide) ?_
    exact J206 (sv) (.unset) _ _ _  X22 rfl N22 z22c fq22_0 ((show sv = (fun z => (if z < 20 then sv else (0 : Int32))) oo.toInt.toNat by dsimp only; rw [if_pos (by omega)]).trans (own_out qh ql of cn oo (fun z => (if z < 20 then sv else (0 : Int32))) boo.1 bof bcn (Or.inl hc165)))
  · skip
    refine own_icmpNo X22 hx (hb hby at_165) (flt hc165).1 (rfl : 165 + 3 = 168) ?_
    refine own_iload X22 hx (hb hby at_168) (v := oo) rfl (rfl : 168 + 2 = 170) ?_
    refine own_iload X22 hx (hb hby at_170) (v := of) rfl (rfl : 170 + 2 = 172) ?_
    refine own_iload X22 hx (hb hby at_172) (v := cn) rfl (rfl : 172 + 2 = 174) ?_
    refine own_iadd X22 hx (hb hby at_174) (rfl : 174 + 1 = 175) ?_
    by_cases hc175 : oo < (of + cn)
    · skip
      refine own_icmpYes X22 hx (hb hby at_175) (tlt hc175).1 (pc' := 185) (by decide) (by decide) ?_
      refine own_iload X22 hx (hb hby at_185) (v := cn) rfl (rfl : 185 + 2 = 187) ?_
      refine own_iconst X22 hx (hb hby at_187) (1 : Int32) (by first | rfl | decide) (rfl : 187 + 1 = 188) ?_
      refine own_isub X22 hx (hb hby at_188) (rfl : 188 + 1 = 189) ?_
      refine own_iload X22 hx (hb hby at_189) (v := oo) rfl (rfl : 189 + 2 = 191) ?_
      refine own_iload X22 hx (hb hby at_191) (v := of) rfl (rfl : 191 + 2 = 193) ?_
      refine own_isub X22 hx (hb hby at_193) (rfl : 193 + 1 = 194) ?_
      refine own_isub X22 hx (hb hby at_194) (rfl : 194 + 1 = 195) ?_
      refine own_istore X22 hx (hb hby at_195) (l' := #[.val (.long qh), .second, .val (.long ql), .second, .val (.int pc), .val (.int pf), .val (.int px), .val (.int ps), .val (.int cn), .val (.int of), .val (.int oo), .val (.int sv), .val (.ref arr), .unset, .val (.int ((cn - (1 : Int32)) - (oo - of)))]) rfl (rfl : 195 + 2 = 197) ?_
      refine own_lloadN X22 hx (hb hby at_197) (v := qh) rfl (rfl : 197 + 1 = 198) ?_
      refine own_lloadN X22 hx (hb hby at_198) (v := ql) rfl (rfl : 198 + 1 = 199) ?_
      refine own_iload X22 hx (hb hby at_199) (v := ((cn - (1 : Int32)) - (oo - of))) rfl (rfl : 199 + 2 = 201) ?_
      obtain ⟨_, _, ⟨T24, L24, k24, n24⟩, -, X24, ⟨Lc24, hQ24, l24, y24, z24⟩, st24⟩ := Jvm.LawKit.callS X22 hx (y := (⟨"com/example/sumtide/sumtide/Int128WriteBytesPinLaw", "byteOf", "(JJI)B"⟩ : MethodName)) hown (mvT hZ (hw _ (List.mem_of_getElem? (i := 6) rfl))) (mvT hZ (hw _ (List.mem_of_getElem? (i := 7) rfl))) (mvT hZ (hw _ (List.mem_of_getElem? (i := 8) rfl))) (mvT hZ (hw _ (List.mem_of_getElem? (i := 9) rfl))) (by decide) (backOf (W := 0) (rm2 l Z a0 hw [] qh ql ((cn - (1 : Int32)) - (oo - of))  T22.heap n0 z22c ) hZ (hw _ (List.mem_of_getElem? (i := 9) rfl)) (hw _ (List.mem_of_getElem? (i := 8) rfl)) (by decide) (by decide)) (g := (mkF m 201 #[.val (.long qh), .second, .val (.long ql), .second, .val (.int pc), .val (.int pf), .val (.int px), .val (.int ps), .val (.int cn), .val (.int of), .val (.int oo), .val (.int sv), .val (.ref arr), .unset, .val (.int ((cn - (1 : Int32)) - (oo - of)))] [(.int ((cn - (1 : Int32)) - (oo - of))), (.long ql), (.long qh)])) rfl (by rw [hml]; rfl) (argsL := [(.long qh), (.long ql), (.int ((cn - (1 : Int32)) - (oo - of)))]) (rest := []) (lenOf own_pd__JJI_B rfl) rfl (by show 2 * 0 + _ ≤ _; exact Nat.le_of_eq rfl) (hb hby at_201) (fun _ _ => ⟨rfl, rfl, (by decide : 1 + 0 ≤ _), (by decide : 20 + 0 ≤ _)⟩)
      dsimp only [Pt.U, Pt.locs, Pt.cells, Pt.slots] at X24 l24 y24 z24 st24 hQ24
      subst l24 y24 z24
      obtain ⟨rfl, N24q, e24⟩ := hQ24
      have N24 := Fr.app N22 N24q
      refine own_W.step st24 ?_
      show own_W p e (FrameEnd s) below room_1.cells room_1.slots (Q0 Z qh ql pc pf px ps h0 n0) T24 (mkF m 204 #[.val (.long qh), .second, .val (.long ql), .second, .val (.int pc), .val (.int pf), .val (.int px), .val (.int ps), .val (.int cn), .val (.int of), .val (.int oo), .val (.int sv), .val (.ref arr), .unset, .val (.int ((cn - (1 : Int32)) - (oo - of)))] [(.int (own_byteOf qh ql ((cn - (1 : Int32)) - (oo - of))))])
      refine own_istore X24 hx (hb hby at_204) (l' := #[.val (.long qh), .second, .val (.long ql), .second, .val (.int pc), .val (.int pf), .val (.int px), .val (.int ps), .val (.int cn), .val (.int of), .val (.int oo), .val (.int sv), .val (.ref arr), .val (.int (own_byteOf qh ql ((cn - (1 : Int32)) - (oo - of)))), .val (.int ((cn - (1 : Int32)) - (oo - of)))]) rfl (rfl : 204 + 2 = 206) ?_
      exact J206 ((own_byteOf qh ql ((cn - (1 : Int32)) - (oo - of)))) (.val (.int ((cn - (1 : Int32)) - (oo - of)))) _ _ _  X24 e24 N24 z22c fq22_0 (own_in qh ql of cn oo (fun z => (if z < 20 then sv else (0 : Int32))) boo.1 bof bcn hc165 hc175)
    · skip
      refine own_icmpNo X22 hx (hb hby at_175) (flt hc175).1 (rfl : 175 + 3 = 178) ?_
      refine own_iload X22 hx (hb hby at_178) (v := sv) rfl (rfl : 178 + 2 = 180) ?_
      refine own_istore X22 hx (hb hby at_180) (l' := #[.val (.long qh), .second, .val (.long ql), .second, .val (.int pc), .val (.int pf), .val (.int px), .val (.int ps), .val (.int cn), .val (.int of), .val (.int oo), .val (.int sv), .val (.ref arr), .val (.int sv), .unset]) rfl (rfl : 180 + 2 = 182) ?_
      refine own_goto X22 hx (hb hby at_182) (pc' := 206) (by decide) (by decide) ?_
      exact J206 (sv) (.unset) _ _ _  X22 rfl N22 z22c fq22_0 ((show sv = (fun z => (if z < 20 then sv else (0 : Int32))) oo.toInt.toNat by dsimp only; rw [if_pos (by omega)]).trans (own_out qh ql of cn oo (fun z => (if z < 20 then sv else (0 : Int32))) boo.1 bof bcn (Or.inr hc175)))
set_option maxRecDepth 65536 in
set_option maxHeartbeats 40000000 in
theorem comes_1 {Post : Tables → Env → Array Value → State → Outcome → State → Prop} (hpost : ∀ tb e args s v u, (limb_1_1.after args s (.returned v) u = true ∧ limb_1_2.after args s (.returned v) u = true ∧ True) → FrameEnd s (.returned v) u (Jvm.fieldLocs frame_1_writes args s ++ Jvm.arrayLocs frame_1_arrays args s ++ Jvm.staticLocs frame_1_statics s) 16 128 → Post tb e args s (.returned v) u) :
    ArmFor flags0 classFile x code maxLocals ret World_1 tables_1 room_1 Calls_1 rest_1 Pre_1 Post := by
  intro l hfl _ _ p e ha hc hk s m args below hf hA hF happ hP
  obtain ⟨hcalls, hrest, hpre⟩ := hP
  obtain ⟨-, -, -, hnamed, -, -, -, hat⟩ := (Spec.applies_iff hf).mp happ
  obtain ⟨hg, hn⟩ := and_e (Cond.before_iff.mp (show (Jvm.Cond.and given_1 narrow_1).before args s = true from hpre))
  obtain ⟨hg0, hr0⟩ := and_e hg
  obtain ⟨hg1, hr1⟩ := and_e hr0
  obtain ⟨hg2, hr2⟩ := and_e hr1
  obtain ⟨hg3, hr3⟩ := and_e hr2
  obtain ⟨hg4, hr4⟩ := and_e hr3
  obtain ⟨hg5, hr5⟩ := and_e hr4
  obtain ⟨w0, w1, w2, w3, w4, w5, rfl⟩ : ∃ w0 w1 w2 w3 w4 w5 : Value, args = #[w0, w1, w2, w3, w4, w5] := by
    have hs : args.size = 6 := by simpa [Cond.value, given_1] using hg0
    obtain ⟨L⟩ := args
    match L, hs with
    | [w0, w1, w2, w3, w4, w5], _ => exact ⟨w0, w1, w2, w3, w4, w5, rfl⟩
  have hw := fun d (hd : d ∈ tables_1) => atoms_spec (ws := Jvm.Cond.code x code maxLocals ret :: tables_1) hat d (List.mem_cons_of_mem _ hd)
  obtain ⟨i0, ei0⟩ := isL_v hg1
  obtain rfl : w0 = (.long i0) := Option.some.inj ei0
  obtain ⟨i1, ei1⟩ := isL_v hg2
  obtain rfl : w1 = (.long i1) := Option.some.inj ei1
  obtain ⟨i2, ei2⟩ := is_v hg3
  obtain rfl : w2 = (.int i2) := Option.some.inj ei2
  obtain ⟨i3, ei3⟩ := is_v hg4
  obtain rfl : w3 = (.int i3) := Option.some.inj ei3
  obtain ⟨i4, ei4⟩ := is_v hg5
  obtain rfl : w4 = (.int i4) := Option.some.inj ei4
  obtain ⟨i5, ei5⟩ := is_v hr5
  obtain rfl : w5 = (.int i5) := Option.some.inj ei5
  obtain ⟨n, o, h1, h2, h3, _, L, rfl, ⟨rfl, N⟩, hq⟩ := rm0 l s _ hw tables_1 i0 i1 i2 i3 i4 i5 s.heap s.heap.size (Nat.le_refl _) p e ha hc hk s m _ below hf ((Spec.applies_iff_loose hf).mp happ).1 ⟨rfl, State.Warmed39.refl s, rfl⟩ trivial
  refine ⟨n, _, h1, h2, h3, hpost _ _ _ _ _ _ ⟨Cond.after_iff.mpr rfl, Cond.after_iff.mpr (eq_i res_at (Term.int_eval (1)) rfl), trivial⟩ ⟨hq.1, hq.2.1, (hq.2.2.sift fun y hy => Or.inr (N y hy)).mono (by decide) (by decide)⟩⟩
theorem main_1_1 : Claimed_1_1 := comes_1 fun _ _ _ _ _ _ h hF => ⟨h.1, hF⟩
theorem main_1_2 : Claimed_1_2 := comes_1 fun _ _ _ _ _ _ h hF => ⟨h.2.1, hF⟩
end Jvm.Pilot.@@N@@
namespace Jvm.Pilot.@@N@@
open Jvm Jvm.ClassFile Sem Op Lib Jvm.Free Jvm.Stand Jvm.Pilot.@@N@@.Jvm.D
/-! MADE BY PROGRAM (witnessworld.py) out of the Statement's table words and the real class files: 9 classes; the members and pool entries that the words name. The judged class is class 1, her method 1. -/
namespace start1
open Jvm.ClassFile
def u (s : String) : CpInfo := .utf8 (stringToUtf16 s)
/-- a pool by its gaps: so many unusable entries, then the entry; so many at the end -/
def gap : Nat → List CpInfo → List CpInfo
  | 0, r => r
  | n + 1, r => .unusable :: gap n r
def poolList (es : List (Nat × CpInfo)) (last : Nat) : List CpInfo := es.foldr (fun e r => gap e.1 (e.2 :: r)) (gap last [])
def pool (es : List (Nat × CpInfo)) (last : Nat) : Array CpInfo := ⟨poolList es last⟩
def fileOf (pool : Array CpInfo) (this : Nat) (attrs : Array Attribute := #[]) (ms : Array MethodInfo := #[]) (fl : Nat := 33) (sup : Nat := 0) (ifs : Array Nat := #[]) (fds : Array FieldInfo := #[]) : ClassFile where
  minorVersion := 0
  majorVersion := 65
  constantPool := pool
  accessFlags := fl
  thisClass := this
  superClass := sup
  interfaces := ifs
  fields := fds
  methods := ms
  attributes := attrs
def plain (name : String) (sup : Option ClassId) : Class where
  name := name
  kind := .ordinary
  loader := none
  accessFlags := 33
  super := sup
  interfaces := #[]
  cf := none
  fields := #[]
  methods := #[]
  instanceTypes := #[]
  staticTypes := #[]
  resolved := #[]
  callSites := []
  init := .initialized
  statics := none
  mirror := none

def pool0 : Array CpInfo := pool [(5, u "<init>"), (0, u "()V"), (1, .class_ 10), (1, u "java/lang/Object")] 113

def k0m0 : Method := { name := "<init>", desc := "()V", sig := { parameters := [], returnType := none }, accessFlags := 1, code := none }
/-- java/lang/Object -/
def k0 : Class := { plain "java/lang/Object" none with
  accessFlags := 33
  interfaces := #[]
  cf := some (fileOf pool0 8 #[] #[{ accessFlags := 1, nameIndex := 5, descriptorIndex := 6, attributes := #[] }] 33 0 #[] #[])
  fields := #[]
  methods := #[k0m0]
  instanceTypes := #[]
  staticTypes := #[]
  resolved := Array.replicate 124 none
  statics := none }

def pool1 : Array CpInfo := pool [(2, .class_ 4), (1, u "java/lang/Object"), (0, u "<init>"), (0, u "()V"), (0, .integer 2147483647), (0, .methodref 9 10), (0, .class_ 11), (0, .nameAndType 12 13), (0, u "com/example/sumtide/sumtide/Int128"), (0, u "writeBytes"), (0, u "(JJ[BII)V"), (0, .methodref 15 16), (0, .class_ 17), (0, .nameAndType 18 19), (0, u "com/example/sumtide/sumtide/Int128WriteBytesPinLaw"), (0, u "byteOf"), (0, u "(JJI)B"), (2, u "law"), (0, u "(JJIIII)Z")] 5

def k1m0 : Method := { name := "<init>", desc := "()V", sig := { parameters := [], returnType := none }, accessFlags := 1, code := none }
def k1c1 : Code := { maxStack := 7, maxLocals := 15, code := code, exceptionTable := #[], attributes := #[] }
def k1m1 : Method := { name := "law", desc := "(JJIIII)Z", sig := { parameters := [.long, .long, .int, .int, .int, .int], returnType := some .boolean }, accessFlags := 9, code := some k1c1 }
def k1c2 : Code := { maxStack := 5, maxLocals := 5, code := method_3_code, exceptionTable := #[], attributes := #[] }
def k1m2 : Method := { name := "byteOf", desc := "(JJI)B", sig := { parameters := [.long, .long, .int], returnType := some .byte }, accessFlags := 10, code := some k1c2 }
/-- com/example/sumtide/sumtide/Int128WriteBytesPinLaw -/
def k1 : Class := { plain "com/example/sumtide/sumtide/Int128WriteBytesPinLaw" (some 0) with
  accessFlags := 49
  interfaces := #[]
  cf := some (fileOf pool1 15 #[] #[{ accessFlags := 1, nameIndex := 5, descriptorIndex := 6, attributes := #[] }, { accessFlags := 9, nameIndex := 22, descriptorIndex := 23, attributes := #[] }, { accessFlags := 10, nameIndex := 18, descriptorIndex := 19, attributes := #[] }] 49 2 #[] #[])
  fields := #[]
  methods := #[k1m0, k1m1, k1m2]
  instanceTypes := #[]
  staticTypes := #[]
  resolved := Array.replicate 29 none
  statics := none }

def pool2 : Array CpInfo := pool [(4, .class_ 6), (1, u "java/lang/Object"), (0, u "<init>"), (0, u "()V"), (0, .class_ 10), (0, u "com/example/sumtide/sumtide/Int128"), (100, u "LONG_SIGN"), (0, u "I"), (24, u "writeBytes"), (0, u "(JJ[BII)V")] 2

def k2m0 : Method := { name := "<init>", desc := "()V", sig := { parameters := [], returnType := none }, accessFlags := 2, code := none }
def k2c1 : Code := { maxStack := 6, maxLocals := 9, code := prog_19_method_21_code, exceptionTable := #[], attributes := #[] }
def k2m1 : Method := { name := "writeBytes", desc := "(JJ[BII)V", sig := { parameters := [.long, .long, (.array .byte), .int, .int], returnType := none }, accessFlags := 8, code := some k2c1 }
/-- com/example/sumtide/sumtide/Int128 -/
def k2 : Class := { plain "com/example/sumtide/sumtide/Int128" (some 0) with
  accessFlags := 48
  interfaces := #[]
  cf := some (fileOf pool2 9 #[] #[{ accessFlags := 2, nameIndex := 7, descriptorIndex := 8, attributes := #[] }, { accessFlags := 8, nameIndex := 137, descriptorIndex := 138, attributes := #[] }] 48 4 #[] #[{ accessFlags := 26, nameIndex := 111, descriptorIndex := 112, attributes := #[] }])
  fields := #[{ name := "LONG_SIGN", type := .int, accessFlags := 26, slot := 0, constantValue := 0 }]
  methods := #[k2m0, k2m1]
  instanceTypes := #[]
  staticTypes := #[.int]
  resolved := Array.replicate 141 none
  statics := none }

def pool3 : Array CpInfo := pool [(1, u "java/lang/Cloneable"), (0, .class_ 1), (0, u "java/lang/Object"), (0, .class_ 3)] 3

/-- java/lang/Cloneable -/
def k3 : Class := { plain "java/lang/Cloneable" (some 0) with
  accessFlags := 1537
  interfaces := #[]
  cf := some (fileOf pool3 2 #[] #[] 1537 4 #[] #[])
  fields := #[]
  methods := #[]
  instanceTypes := #[]
  staticTypes := #[]
  resolved := Array.replicate 8 none
  statics := none }

def pool4 : Array CpInfo := pool [(1, u "java/io/Serializable"), (0, .class_ 1), (0, u "java/lang/Object"), (0, .class_ 3)] 3

/-- java/io/Serializable -/
def k4 : Class := { plain "java/io/Serializable" (some 0) with
  accessFlags := 1537
  interfaces := #[]
  cf := some (fileOf pool4 2 #[] #[] 1537 4 #[] #[])
  fields := #[]
  methods := #[]
  instanceTypes := #[]
  staticTypes := #[]
  resolved := Array.replicate 8 none
  statics := none }

/-- the primitive byte -/
def k5 : Class := { plain "byte" none with kind := .primitive 'B', accessFlags := 0x411 }
/-- [B -/
def k6 : Class := { plain "[B" (some 0) with kind := .array 5 .byte, interfaces := #[3, 4], accessFlags := 1041 }

/-- the primitive int -/
def k7 : Class := { plain "int" none with kind := .primitive 'I', accessFlags := 0x411 }
/-- [I -/
def k8 : Class := { plain "[I" (some 0) with kind := .array 7 .int, interfaces := #[3, 4], accessFlags := 1041 }

def heap : Heap := #[]
def classes : Array Class := #[k0, k1, k2, k3, k4, k5, k6, k7, k8]
def interned : List (Array UInt16 × Addr) := []
def slotsUsed : Nat := 0
def theMethod : MethodId := ⟨1, 1⟩
def args0 : Array Value := #[.long 7, .long 7, .int 5, .int 5, .int 5, .int 5]
def aboutOver (below : List Frame) : State where
  vm := { classes := classes, interned := interned.toArray }
  heap := heap
  slotsUsed := slotsUsed
  threads := #[{ frames := .invoking theMethod args0 :: below }]
def below0 : List Frame := [.native { method := ⟨0, 0⟩, args := #[] }]
def about1 : State := aboutOver below0
def p0 : Program := .bare "" "" ""
def e0 : Env := launch0.env 0 0 0
theorem w_frames : about1.frames = Frame.invoking theMethod args0 :: below0 := rfl
set_option maxRecDepth 65536 in
theorem w_args : argsFit about1.vm theMethod args0 = true := by decide +kernel
set_option maxRecDepth 65536 in
theorem w_heap : heapFits about1 = true := by decide +kernel
set_option maxRecDepth 65536 in
theorem w_runnable : about1.curStatus? = some .runnable := by decide +kernel
set_option maxRecDepth 65536 in
theorem w_alone : about1.alone = true := by decide +kernel
set_option maxRecDepth 65536 in
theorem w_named : about1.methodNamed? x = some theMethod := by decide +kernel
set_option maxRecDepth 65536 in
theorem w_hears : about1.hears theMethod below0 = true := by decide +kernel
set_option maxRecDepth 65536 in
theorem w_ripe : about1.ripe theMethod args0 below0 = true := by decide +kernel
theorem w_running : about1.status = .running := rfl
set_option maxRecDepth 65536 in
theorem w_room : about1.hasRoom e0.platform room_1 = true :=
  launch0.hasRoom_least _ room_1 (by decide +kernel) (by decide +kernel) (by decide +kernel) (by decide +kernel) (by decide +kernel) (by decide +kernel)
theorem allAtoms_all (ts : List Jvm.Cond) (a : Array Jvm.Value) (st : Jvm.State) : (allAtoms ts).before a st = ts.all (fun c => c.before a st) := by
  induction ts with
  | nil => rfl
  | cons c t ih =>
    show (Jvm.Cond.and c (allAtoms t)).before a st = _
    rw [Jvm.Cond.before_and, ih, List.all_cons]
def words1 : List Jvm.Cond := Jvm.Cond.code x code maxLocals ret :: tables_1
/-- a 'code' word, met by the world's own term for the bytes: nothing is compared byte by byte -/
theorem code_word {y : MethodName} {bytes : ByteArray} {mx : Nat} {rt : Option FieldType} {a : Array Value} {s : State} {m : MethodId} {meth : Method} {c : Code} (h1 : s.methodNamed? y = some m) (h2 : s.vm.method? m = some meth) (h3 : meth.code = some c) (h4 : c.code = bytes)
    (h5 : (c.maxLocals == mx && c.exceptionTable.isEmpty && decide (c.maxStack ≤ mostOperands) && decide (meth.sig.returnType = rt) && !meth.locks && decide (parseMethodDescriptor y.desc = some meth.sig)) = true) : (Jvm.Cond.code y bytes mx rt).before a s = true := by
  simp only [Bool.and_eq_true, beq_iff_eq, Bool.not_eq_true', decide_eq_true_eq] at h5
  obtain ⟨⟨⟨⟨⟨g1, g2⟩, g3⟩, g4⟩, g5⟩, g6⟩ := h5
  simp [Cond.before, Cond.holds, Cond.value, h1, h2, h3, h4, g1, g2, g3, g4, g5, g6]
def isCode : Jvm.Cond → Bool
  | .code _ _ _ _ => true
  | _ => false
theorem all_split {L : List Jvm.Cond} {P : Jvm.Cond → Bool} (h1 : L.all (fun c => isCode c || P c) = true) (h2 : ∀ c ∈ L.filter isCode, P c = true) : L.all P = true := by
  refine List.all_eq_true.mpr fun c hc => ?_
  have h := List.all_eq_true.mp h1 c hc
  rcases Bool.eq_false_or_eq_true (isCode c) with hi | hi
  · exact h2 c (List.mem_filter.mpr ⟨hc, hi⟩)
  · simpa [hi] using h
set_option maxRecDepth 65536 in
theorem w_c0 : (Jvm.Cond.code x code maxLocals ret).before args0 about1 = true := code_word (m := ⟨1, 1⟩) (meth := k1m1) (c := k1c1) (by decide +kernel) rfl rfl rfl (by decide +kernel)
set_option maxRecDepth 65536 in
theorem w_c1 : (Jvm.Cond.code ({ cls := "com/example/sumtide/sumtide/Int128", name := "writeBytes", desc := "(JJ[BII)V" } : Jvm.MethodName) prog_19_method_21_code (9 : Nat) (Option.none : Option Jvm.ClassFile.FieldType)).before args0 about1 = true := code_word (m := ⟨2, 1⟩) (meth := k2m1) (c := k2c1) (by decide +kernel) rfl rfl rfl (by decide +kernel)
set_option maxRecDepth 65536 in
theorem w_c2 : (Jvm.Cond.code ({ cls := "com/example/sumtide/sumtide/Int128WriteBytesPinLaw", name := "byteOf", desc := "(JJI)B" } : Jvm.MethodName) method_3_code (5 : Nat) (Option.some Jvm.ClassFile.FieldType.byte)).before args0 about1 = true := code_word (m := ⟨1, 2⟩) (meth := k1m2) (c := k1c2) (by decide +kernel) rfl rfl rfl (by decide +kernel)
def codes1 : List Jvm.Cond := [Jvm.Cond.code x code maxLocals ret, Jvm.Cond.code ({ cls := "com/example/sumtide/sumtide/Int128", name := "writeBytes", desc := "(JJ[BII)V" } : Jvm.MethodName) prog_19_method_21_code (9 : Nat) (Option.none : Option Jvm.ClassFile.FieldType), Jvm.Cond.code ({ cls := "com/example/sumtide/sumtide/Int128WriteBytesPinLaw", name := "byteOf", desc := "(JJI)B" } : Jvm.MethodName) method_3_code (5 : Nat) (Option.some Jvm.ClassFile.FieldType.byte)]
set_option maxRecDepth 65536 in
theorem codes_eq : words1.filter isCode = codes1 := rfl
theorem w_codes : ∀ c ∈ words1.filter isCode, c.before args0 about1 = true := by
  rw [codes_eq]
  intro c hc
  simp only [codes1, List.mem_cons, List.not_mem_nil, or_false] at hc
  rcases hc with rfl | rfl | rfl
  · exact w_c0
  · exact w_c1
  · exact w_c2
set_option maxRecDepth 65536 in
theorem w_t1 : words1.all (fun c => isCode c || c.before args0 about1) = true := by decide +kernel
theorem w_tables : (allAtoms (Jvm.Cond.code x code maxLocals ret :: tables_1)).before args0 about1 = true := by
  rw [allAtoms_all]
  show words1.all (fun c => c.before args0 about1) = true
  refine all_split ?_ w_codes
  rw [w_t1]
set_option maxRecDepth 65536 in
theorem w_case : (Jvm.Cond.and given_1 narrow_1).before args0 about1 = true := by decide +kernel
theorem w_applies : (headSpec (Jvm.Cond.code x code maxLocals ret :: tables_1) room_1).applies x e0.platform about1 = true :=
  (Spec.applies_iff w_frames).mpr ⟨w_running, w_runnable, w_alone, w_named, w_hears, w_ripe, w_room, w_tables⟩
theorem atStart : AtStart classFile x code maxLocals ret World_1 tables_1 room_1 Calls_1 rest_1 Pre_1 launch0 p0 e0 about1 theMethod args0 below0 :=
  ⟨lists_1, trivial, launch0.admits_env _ _ _, launch0.least_env, fairChoices_fair.cas, fairChoices_fair.clock, w_frames, w_args, w_heap, w_applies, trivial, trivial, w_case⟩
end start1
theorem witness_1 : WitnessClaimed_1 := ⟨start1.p0, start1.e0, start1.about1, start1.theMethod, start1.args0, start1.below0, start1.atStart⟩
end Jvm.Pilot.@@N@@
