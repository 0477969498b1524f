import JvmDerived
import JvmDerived.Pilot.@@N@@Statement
import JvmDerived.Pilot.@@N@@Code
set_option linter.unusedVariables false
set_option linter.unusedSimpArgs false
namespace Jvm.Pilot.@@N@@
open Jvm Jvm.ClassFile Sem Op Lib Jvm.Free Jvm.Stand Jvm.LawKit Jvm.RoadKit Bundle Jvm.Pilot.@@N@@.Jvm.D
/-! 0. one goal for a walk: from T with the frame g on top the run comes back with what Q says -/
def own_W (p : Program) (e : Env) (En : Outcome → State → List Loc → Nat → Nat → Prop) (below : List Frame) (kc ks : Nat) (Q : Option Value → Heap → List Loc → Prop) (T : State) (g : JFrame) : Prop :=
  ∃ s₂ o, Steps p.tables e below (T.setTop g) s₂ ∧ s₂.status = .running ∧ Ended s₂ below o ∧ ∃ v L, o = .returned v ∧ Q v s₂.heap L ∧ En o s₂ L kc ks
section OwnW
variable {En : Outcome → State → List Loc → Nat → Nat → Prop} {p : Program} {l : Launch} {e : Env} {R : Room} {s : State} {m : MethodId} {args : Array Value} {below : List Frame} {meth : Method} {c : Code} {T T' : State} {locs : List Loc} {cells slots kc ks : Nat} {Q : Option Value → Heap → List Loc → Prop} {g g' : JFrame} {pc pc' : Nat} {Ls : Array Slot} {st rest : List Value} {Z : State} {h h' : Heap} {a b : Addr} {sl : Nat}
theorem own_W.step (k : ∀ t, Steps p.tables e below (T'.setTop g') t → Steps p.tables e below (T.setTop g) t) (w : own_W p e En below kc ks Q T' g') : own_W p e En below kc ks Q T g := by
  obtain ⟨s2, o, h1, h2⟩ := w
  exact ⟨s2, o, k _ h1, h2⟩
theorem own_W.steps (k : Steps p.tables e below (T.setTop g) (T'.setTop g')) (w : own_W p e En below kc ks Q T' g') : own_W p e En below kc ks Q T g := by
  obtain ⟨s2, o, h1, h2⟩ := w
  exact ⟨s2, o, k.trans h1, h2⟩
theorem own_leave (X : Stand p l e R s m args below meth c T locs cells slots) (hlk : meth.locks = false) {v : Option Value} (hv : meth.sig.returnType = none → v = none) (hc : cells ≤ kc) (hs : slots ≤ ks)
    (k : ∀ fs, (∀ (f : JFrame) (acts : List Action), f.method = m → f.locked = none → f.entered = [] → (doReturn e (T.setTop f) acts v).1 = T.setFrames fs) → Steps p.tables e below (T.setTop g) (T.setFrames fs)) (hQ : Q v T.heap locs) : own_W p e (FrameEnd s) below kc ks Q T g := by
  obtain ⟨fs, hr, hrun, hended, hW, hsame⟩ := X.leave (v := v) hv hlk
  exact ⟨_, _, k fs hr, hrun, hended, v, locs, rfl, hQ, ⟨_, rfl⟩, hW, hsame.mono hc hs⟩
theorem own_retV (X : Stand p l e R s m args below meth c T locs cells slots) (hx : p.tables.exec = Jvm.exec) (hlk : meth.locks = false) (hret : meth.sig.returnType = none) (hd : decode c.code pc = .ok (.return_, 1)) (hc : cells ≤ kc) (hs : slots ≤ ks) (hQ : Q none T.heap locs) : own_W p e (FrameEnd s) below kc ks Q T (mkF m pc Ls []) :=
  own_leave X hlk (fun _ => rfl) hc hs (fun fs hr => X.returnOut hx hret hd hr) hQ
theorem own_retN {t : FieldType} (X : Stand p l e R s m args below meth c T locs cells slots) (hx : p.tables.exec = Jvm.exec) (hlk : meth.locks = false) (hret : meth.sig.returnType = some t) (ht : t = .boolean ∨ t = .byte ∨ t = .char ∨ t = .short) (hd : decode c.code pc = .ok (.ireturn, 1)) {z z' : Int32} (hz : nar t z = z') (hc : cells ≤ kc) (hs : slots ≤ ks) (hQ : Q (some (.int z')) T.heap locs) : own_W p e (FrameEnd s) below kc ks Q T (mkF m pc Ls (.int z :: rest)) := by
  subst hz
  exact own_leave X hlk (fun q => by rw [hret] at q; cases q) hc hs (fun fs hr => retN X hx hret ht hd hr) hQ
theorem own_retI (X : Stand p l e R s m args below meth c T locs cells slots) (hx : p.tables.exec = Jvm.exec) (hlk : meth.locks = false) (hret : meth.sig.returnType = some .int) (hd : decode c.code pc = .ok (.ireturn, 1)) {z : Int32} (hc : cells ≤ kc) (hs : slots ≤ ks) (hQ : Q (some (.int z)) T.heap locs) : own_W p e (FrameEnd s) below kc ks Q T (mkF m pc Ls (.int z :: rest)) :=
  own_leave X hlk (fun q => by rw [hret] at q; cases q) hc hs (fun fs hr => retOut X hx (t := .int) (w := .int z) (i := .ireturn) hret rfl (Or.inl ⟨rfl, Or.inl rfl, z, rfl⟩) hd hr) hQ
theorem own_retJ (X : Stand p l e R s m args below meth c T locs cells slots) (hx : p.tables.exec = Jvm.exec) (hlk : meth.locks = false) (hret : meth.sig.returnType = some .long) (hd : decode c.code pc = .ok (.lreturn, 1)) {z : Int64} (hc : cells ≤ kc) (hs : slots ≤ ks) (hQ : Q (some (.long z)) T.heap locs) : own_W p e (FrameEnd s) below kc ks Q T (mkF m pc Ls (.long z :: rest)) :=
  own_leave X hlk (fun q => by rw [hret] at q; cases q) hc hs (fun fs hr => retOut X hx (t := .long) (w := .long z) (i := .lreturn) hret rfl (Or.inr (Or.inl ⟨rfl, rfl, z, rfl⟩)) hd hr) hQ
theorem own_retA {t : FieldType} (X : Stand p l e R s m args below meth c T locs cells slots) (hx : p.tables.exec = Jvm.exec) (hlk : meth.locks = false) (hret : meth.sig.returnType = some t) (hn : narrow t (.ref a) = .ref a) (ht : t.isReference = true) (hd : decode c.code pc = .ok (.areturn, 1)) (hc : cells ≤ kc) (hs : slots ≤ ks) (hQ : Q (some (.ref a)) T.heap locs) : own_W p e (FrameEnd s) below kc ks Q T (mkF m pc Ls (.ref a :: rest)) :=
  own_leave X hlk (fun q => by rw [hret] at q; cases q) hc hs (fun fs hr => retOut X hx (t := t) (w := .ref a) (i := .areturn) hret hn (Or.inr (Or.inr (Or.inr (Or.inr ⟨rfl, ht, rfl⟩)))) hd hr) hQ
theorem own_iload (X : Stand p l e R s m args below meth c T locs cells slots) (hx : p.tables.exec = Jvm.exec) {k : Nat} {v : Int32} (hd : decode c.code pc = .ok (.iload k, 2)) (hl : Ls[k]? = some (.val (.int v))) (hp : pc + 2 = pc') (w : own_W p e En below kc ks Q T (mkF m pc' Ls (.int v :: st))) : own_W p e En below kc ks Q T (mkF m pc Ls (st)) := by
  subst hp; exact own_W.step (fun _ q => XS.iload X.here hx rfl hd hl q) w
theorem own_iloadN (X : Stand p l e R s m args below meth c T locs cells slots) (hx : p.tables.exec = Jvm.exec) {k : Fin 4} {v : Int32} (hd : decode c.code pc = .ok (.iload_n k, 1)) (hl : Ls[k.val]? = some (.val (.int v))) (hp : pc + 1 = pc') (w : own_W p e En below kc ks Q T (mkF m pc' Ls (.int v :: st))) : own_W p e En below kc ks Q T (mkF m pc Ls (st)) := by
  subst hp; exact own_W.step (fun _ q => XS.iloadN X.here hx rfl hd hl q) w
theorem own_lload (X : Stand p l e R s m args below meth c T locs cells slots) (hx : p.tables.exec = Jvm.exec) {k : Nat} {v : Int64} (hd : decode c.code pc = .ok (.lload k, 2)) (hl : Ls[k]? = some (.val (.long v))) (hp : pc + 2 = pc') (w : own_W p e En below kc ks Q T (mkF m pc' Ls (.long v :: st))) : own_W p e En below kc ks Q T (mkF m pc Ls (st)) := by
  subst hp; exact own_W.step (fun _ q => XS.lload X.here hx rfl hd hl q) w
theorem own_lloadN (X : Stand p l e R s m args below meth c T locs cells slots) (hx : p.tables.exec = Jvm.exec) {k : Fin 4} {v : Int64} (hd : decode c.code pc = .ok (.lload_n k, 1)) (hl : Ls[k.val]? = some (.val (.long v))) (hp : pc + 1 = pc') (w : own_W p e En below kc ks Q T (mkF m pc' Ls (.long v :: st))) : own_W p e En below kc ks Q T (mkF m pc Ls (st)) := by
  subst hp; exact own_W.step (fun _ q => XS.lloadN X.here hx rfl hd hl q) w
theorem own_aload (X : Stand p l e R s m args below meth c T locs cells slots) (hx : p.tables.exec = Jvm.exec) {k : Nat} {v : Value} (hd : decode c.code pc = .ok (.aload k, 2)) (hl : Ls[k]? = some (.val v)) (hv : v.isRef = true) (hp : pc + 2 = pc') (w : own_W p e En below kc ks Q T (mkF m pc' Ls (v :: st))) : own_W p e En below kc ks Q T (mkF m pc Ls (st)) := by
  subst hp; exact own_W.step (fun _ q => XS.aload X.here hx rfl hd hl hv q) w
theorem own_aloadN (X : Stand p l e R s m args below meth c T locs cells slots) (hx : p.tables.exec = Jvm.exec) {k : Fin 4} {v : Value} (hd : decode c.code pc = .ok (.aload_n k, 1)) (hl : Ls[k.val]? = some (.val v)) (hv : v.isRef = true) (hp : pc + 1 = pc') (w : own_W p e En below kc ks Q T (mkF m pc' Ls (v :: st))) : own_W p e En below kc ks Q T (mkF m pc Ls (st)) := by
  subst hp; exact own_W.step (fun _ q => XS.aloadN X.here hx rfl hd hl hv q) w
theorem own_istore (X : Stand p l e R s m args below meth c T locs cells slots) (hx : p.tables.exec = Jvm.exec) {k : Nat} {v : Int32} {l' : Array Slot} (hd : decode c.code pc = .ok (.istore k, 2)) (hl : storeLocals Ls k (.int v) = some l') (hp : pc + 2 = pc') (w : own_W p e En below kc ks Q T (mkF m pc' l' (st))) : own_W p e En below kc ks Q T (mkF m pc Ls (.int v :: st)) := by
  subst hp; exact own_W.step (fun _ q => XS.istore X.here hx rfl hd rfl hl q) w
theorem own_istoreN (X : Stand p l e R s m args below meth c T locs cells slots) (hx : p.tables.exec = Jvm.exec) {k : Fin 4} {v : Int32} {l' : Array Slot} (hd : decode c.code pc = .ok (.istore_n k, 1)) (hl : storeLocals Ls k.val (.int v) = some l') (hp : pc + 1 = pc') (w : own_W p e En below kc ks Q T (mkF m pc' l' (st))) : own_W p e En below kc ks Q T (mkF m pc Ls (.int v :: st)) := by
  subst hp; exact own_W.step (fun _ q => XS.istoreN X.here hx rfl hd rfl hl q) w
theorem own_lstore (X : Stand p l e R s m args below meth c T locs cells slots) (hx : p.tables.exec = Jvm.exec) {k : Nat} {v : Int64} {l' : Array Slot} (hd : decode c.code pc = .ok (.lstore k, 2)) (hl : storeLocals Ls k (.long v) = some l') (hp : pc + 2 = pc') (w : own_W p e En below kc ks Q T (mkF m pc' l' (st))) : own_W p e En below kc ks Q T (mkF m pc Ls (.long v :: st)) := by
  subst hp; exact own_W.step (fun _ q => XS.lstore X.here hx rfl hd rfl hl q) w
theorem own_lstoreN (X : Stand p l e R s m args below meth c T locs cells slots) (hx : p.tables.exec = Jvm.exec) {k : Fin 4} {v : Int64} {l' : Array Slot} (hd : decode c.code pc = .ok (.lstore_n k, 1)) (hl : storeLocals Ls k.val (.long v) = some l') (hp : pc + 1 = pc') (w : own_W p e En below kc ks Q T (mkF m pc' l' (st))) : own_W p e En below kc ks Q T (mkF m pc Ls (.long v :: st)) := by
  subst hp; exact own_W.step (fun _ q => XS.lstoreN X.here hx rfl hd rfl hl q) w
theorem own_astore (X : Stand p l e R s m args below meth c T locs cells slots) (hx : p.tables.exec = Jvm.exec) {k : Nat} {v : Value} {l' : Array Slot} (hd : decode c.code pc = .ok (.astore k, 2)) (hv : v.isRef = true) (hl : storeLocals Ls k v = some l') (hp : pc + 2 = pc') (w : own_W p e En below kc ks Q T (mkF m pc' l' (st))) : own_W p e En below kc ks Q T (mkF m pc Ls (v :: st)) := by
  subst hp; exact own_W.step (fun _ q => XS.astore X.here hx rfl hd rfl hv hl q) w
theorem own_astoreN (X : Stand p l e R s m args below meth c T locs cells slots) (hx : p.tables.exec = Jvm.exec) {k : Fin 4} {v : Value} {l' : Array Slot} (hd : decode c.code pc = .ok (.astore_n k, 1)) (hv : v.isRef = true) (hl : storeLocals Ls k.val v = some l') (hp : pc + 1 = pc') (w : own_W p e En below kc ks Q T (mkF m pc' l' (st))) : own_W p e En below kc ks Q T (mkF m pc Ls (v :: st)) := by
  subst hp; exact own_W.step (fun _ q => XS.astoreN X.here hx rfl hd rfl hv hl q) w
theorem own_iconst (X : Stand p l e R s m args below meth c T locs cells slots) (hx : p.tables.exec = Jvm.exec) {i : Int} (hd : decode c.code pc = .ok (.iconst i, 1)) (v : Int32) (hv : Int32.ofInt i = v) (hp : pc + 1 = pc') (w : own_W p e En below kc ks Q T (mkF m pc' Ls (.int v :: st))) : own_W p e En below kc ks Q T (mkF m pc Ls (st)) := by
  subst hp; exact own_W.step (fun _ q => XT.iconstV X.here hx rfl v hd hv q) w
theorem own_bipush (X : Stand p l e R s m args below meth c T locs cells slots) (hx : p.tables.exec = Jvm.exec) {i : Int} (hd : decode c.code pc = .ok (.bipush i, 2)) (v : Int32) (hv : (Int8.ofInt i).toInt32 = v) (hp : pc + 2 = pc') (w : own_W p e En below kc ks Q T (mkF m pc' Ls (.int v :: st))) : own_W p e En below kc ks Q T (mkF m pc Ls (st)) := by
  subst hp; exact own_W.step (fun _ q => XT.bipushV X.here hx rfl v hd hv q) w
theorem own_sipush (X : Stand p l e R s m args below meth c T locs cells slots) (hx : p.tables.exec = Jvm.exec) {i : Int} (hd : decode c.code pc = .ok (.sipush i, 3)) (v : Int32) (hv : (Int16.ofInt i).toInt32 = v) (hp : pc + 3 = pc') (w : own_W p e En below kc ks Q T (mkF m pc' Ls (.int v :: st))) : own_W p e En below kc ks Q T (mkF m pc Ls (st)) := by
  subst hp; exact own_W.step (fun _ q => XT.sipushV X.here hx rfl v hd hv q) w
theorem own_lconst (X : Stand p l e R s m args below meth c T locs cells slots) (hx : p.tables.exec = Jvm.exec) {k : Fin 2} (hd : decode c.code pc = .ok (.lconst k, 1)) (v : Int64) (hv : Int64.ofNat k = v) (hp : pc + 1 = pc') (w : own_W p e En below kc ks Q T (mkF m pc' Ls (.long v :: st))) : own_W p e En below kc ks Q T (mkF m pc Ls (st)) := by
  subst hp; exact own_W.step (fun _ q => XT.lconstV X.here hx rfl v hd hv q) w
theorem own_aconstNull (X : Stand p l e R s m args below meth c T locs cells slots) (hx : p.tables.exec = Jvm.exec)  (hd : decode c.code pc = .ok (.aconst_null, 1))  (hp : pc + 1 = pc') (w : own_W p e En below kc ks Q T (mkF m pc' Ls (.null :: st))) : own_W p e En below kc ks Q T (mkF m pc Ls (st)) := by
  subst hp; exact own_W.step (fun _ q => XS.aconstNull X.here hx rfl hd q) w
theorem own_ldcInt (X : Stand p l e R s m args below meth c T locs cells slots) (hx : p.tables.exec = Jvm.exec) {own : String} {index : Nat} {v : Int32} (hown : s.vm.findClass own = some m.cls) (hk : (Jvm.Cond.constant own index v).before args s = true) (hd : decode c.code pc = .ok (.ldc index, 2)) (hp : pc + 2 = pc') (w : own_W p e En below kc ks Q T (mkF m pc' Ls (.int v :: st))) : own_W p e En below kc ks Q T (mkF m pc Ls st) := by
  subst hp; exact own_W.step (X.ldcInt hx hown hk (g := mkF m pc Ls st) rfl hd) w
theorem own_ldcwInt (X : Stand p l e R s m args below meth c T locs cells slots) (hx : p.tables.exec = Jvm.exec) {own : String} {index : Nat} {v : Int32} (hown : s.vm.findClass own = some m.cls) (hk : (Jvm.Cond.constant own index v).before args s = true) (hd : decode c.code pc = .ok (.ldc_w index, 3)) (hp : pc + 3 = pc') (w : own_W p e En below kc ks Q T (mkF m pc' Ls (.int v :: st))) : own_W p e En below kc ks Q T (mkF m pc Ls st) := by
  subst hp; exact own_W.step (X.ldcwInt hx hown hk (g := mkF m pc Ls st) rfl hd) w
theorem own_ldc2Long (X : Stand p l e R s m args below meth c T locs cells slots) (hx : p.tables.exec = Jvm.exec) {own : String} {index : Nat} {v : Int64} (hown : s.vm.findClass own = some m.cls) (hk : (Jvm.Cond.constantLong own index v).before args s = true) (hd : decode c.code pc = .ok (.ldc2_w index, 3)) (hp : pc + 3 = pc') (w : own_W p e En below kc ks Q T (mkF m pc' Ls (.long v :: st))) : own_W p e En below kc ks Q T (mkF m pc Ls st) := by
  subst hp; exact own_W.step (X.ldc2Long hx hown hk (g := mkF m pc Ls st) rfl hd) w
theorem own_iadd (X : Stand p l e R s m args below meth c T locs cells slots) (hx : p.tables.exec = Jvm.exec) {x y : Int32} (hd : decode c.code pc = .ok (.iadd, 1))  (hp : pc + 1 = pc') (w : own_W p e En below kc ks Q T (mkF m pc' Ls (.int (x + y) :: st))) : own_W p e En below kc ks Q T (mkF m pc Ls (.int y :: .int x :: st)) := by
  subst hp; exact own_W.step (fun _ q => XS.iadd X.here hx rfl hd rfl q) w
theorem own_ladd (X : Stand p l e R s m args below meth c T locs cells slots) (hx : p.tables.exec = Jvm.exec) {x y : Int64} (hd : decode c.code pc = .ok (.ladd, 1))  (hp : pc + 1 = pc') (w : own_W p e En below kc ks Q T (mkF m pc' Ls (.long (x + y) :: st))) : own_W p e En below kc ks Q T (mkF m pc Ls (.long y :: .long x :: st)) := by
  subst hp; exact own_W.step (fun _ q => XS.ladd X.here hx rfl hd rfl q) w
theorem own_isub (X : Stand p l e R s m args below meth c T locs cells slots) (hx : p.tables.exec = Jvm.exec) {x y : Int32} (hd : decode c.code pc = .ok (.isub, 1))  (hp : pc + 1 = pc') (w : own_W p e En below kc ks Q T (mkF m pc' Ls (.int (x - y) :: st))) : own_W p e En below kc ks Q T (mkF m pc Ls (.int y :: .int x :: st)) := by
  subst hp; exact own_W.step (fun _ q => XS.isub X.here hx rfl hd rfl q) w
theorem own_lsub (X : Stand p l e R s m args below meth c T locs cells slots) (hx : p.tables.exec = Jvm.exec) {x y : Int64} (hd : decode c.code pc = .ok (.lsub, 1))  (hp : pc + 1 = pc') (w : own_W p e En below kc ks Q T (mkF m pc' Ls (.long (x - y) :: st))) : own_W p e En below kc ks Q T (mkF m pc Ls (.long y :: .long x :: st)) := by
  subst hp; exact own_W.step (fun _ q => XS.lsub X.here hx rfl hd rfl q) w
theorem own_imul (X : Stand p l e R s m args below meth c T locs cells slots) (hx : p.tables.exec = Jvm.exec) {x y : Int32} (hd : decode c.code pc = .ok (.imul, 1))  (hp : pc + 1 = pc') (w : own_W p e En below kc ks Q T (mkF m pc' Ls (.int (x * y) :: st))) : own_W p e En below kc ks Q T (mkF m pc Ls (.int y :: .int x :: st)) := by
  subst hp; exact own_W.step (fun _ q => XS.imul X.here hx rfl hd rfl q) w
theorem own_lmul (X : Stand p l e R s m args below meth c T locs cells slots) (hx : p.tables.exec = Jvm.exec) {x y : Int64} (hd : decode c.code pc = .ok (.lmul, 1))  (hp : pc + 1 = pc') (w : own_W p e En below kc ks Q T (mkF m pc' Ls (.long (x * y) :: st))) : own_W p e En below kc ks Q T (mkF m pc Ls (.long y :: .long x :: st)) := by
  subst hp; exact own_W.step (fun _ q => XS.lmul X.here hx rfl hd rfl q) w
theorem own_iand (X : Stand p l e R s m args below meth c T locs cells slots) (hx : p.tables.exec = Jvm.exec) {x y : Int32} (hd : decode c.code pc = .ok (.iand, 1))  (hp : pc + 1 = pc') (w : own_W p e En below kc ks Q T (mkF m pc' Ls (.int (x &&& y) :: st))) : own_W p e En below kc ks Q T (mkF m pc Ls (.int y :: .int x :: st)) := by
  subst hp; exact own_W.step (fun _ q => XS.iand X.here hx rfl hd rfl q) w
theorem own_land (X : Stand p l e R s m args below meth c T locs cells slots) (hx : p.tables.exec = Jvm.exec) {x y : Int64} (hd : decode c.code pc = .ok (.land, 1))  (hp : pc + 1 = pc') (w : own_W p e En below kc ks Q T (mkF m pc' Ls (.long (x &&& y) :: st))) : own_W p e En below kc ks Q T (mkF m pc Ls (.long y :: .long x :: st)) := by
  subst hp; exact own_W.step (fun _ q => XS.land X.here hx rfl hd rfl q) w
theorem own_ior (X : Stand p l e R s m args below meth c T locs cells slots) (hx : p.tables.exec = Jvm.exec) {x y : Int32} (hd : decode c.code pc = .ok (.ior, 1))  (hp : pc + 1 = pc') (w : own_W p e En below kc ks Q T (mkF m pc' Ls (.int (x ||| y) :: st))) : own_W p e En below kc ks Q T (mkF m pc Ls (.int y :: .int x :: st)) := by
  subst hp; exact own_W.step (fun _ q => XS.ior X.here hx rfl hd rfl q) w
theorem own_lor (X : Stand p l e R s m args below meth c T locs cells slots) (hx : p.tables.exec = Jvm.exec) {x y : Int64} (hd : decode c.code pc = .ok (.lor, 1))  (hp : pc + 1 = pc') (w : own_W p e En below kc ks Q T (mkF m pc' Ls (.long (x ||| y) :: st))) : own_W p e En below kc ks Q T (mkF m pc Ls (.long y :: .long x :: st)) := by
  subst hp; exact own_W.step (fun _ q => XS.lor X.here hx rfl hd rfl q) w
theorem own_ixor (X : Stand p l e R s m args below meth c T locs cells slots) (hx : p.tables.exec = Jvm.exec) {x y : Int32} (hd : decode c.code pc = .ok (.ixor, 1))  (hp : pc + 1 = pc') (w : own_W p e En below kc ks Q T (mkF m pc' Ls (.int (x ^^^ y) :: st))) : own_W p e En below kc ks Q T (mkF m pc Ls (.int y :: .int x :: st)) := by
  subst hp; exact own_W.step (fun _ q => XS.ixor X.here hx rfl hd rfl q) w
theorem own_lxor (X : Stand p l e R s m args below meth c T locs cells slots) (hx : p.tables.exec = Jvm.exec) {x y : Int64} (hd : decode c.code pc = .ok (.lxor, 1))  (hp : pc + 1 = pc') (w : own_W p e En below kc ks Q T (mkF m pc' Ls (.long (x ^^^ y) :: st))) : own_W p e En below kc ks Q T (mkF m pc Ls (.long y :: .long x :: st)) := by
  subst hp; exact own_W.step (fun _ q => XS.lxor X.here hx rfl hd rfl q) w
theorem own_idiv (X : Stand p l e R s m args below meth c T locs cells slots) (hx : p.tables.exec = Jvm.exec) {x y : Int32} (hd : decode c.code pc = .ok (.idiv, 1)) (hy : y ≠ 0) (hp : pc + 1 = pc') (w : own_W p e En below kc ks Q T (mkF m pc' Ls (.int (x / y) :: st))) : own_W p e En below kc ks Q T (mkF m pc Ls (.int y :: .int x :: st)) := by
  subst hp; exact own_W.step (fun _ q => XS.idiv X.here hx rfl hd rfl hy q) w
theorem own_ldiv (X : Stand p l e R s m args below meth c T locs cells slots) (hx : p.tables.exec = Jvm.exec) {x y : Int64} (hd : decode c.code pc = .ok (.ldiv, 1)) (hy : y ≠ 0) (hp : pc + 1 = pc') (w : own_W p e En below kc ks Q T (mkF m pc' Ls (.long (x / y) :: st))) : own_W p e En below kc ks Q T (mkF m pc Ls (.long y :: .long x :: st)) := by
  subst hp; exact own_W.step (fun _ q => XS.ldiv X.here hx rfl hd rfl hy q) w
theorem own_irem (X : Stand p l e R s m args below meth c T locs cells slots) (hx : p.tables.exec = Jvm.exec) {x y : Int32} (hd : decode c.code pc = .ok (.irem, 1)) (hy : y ≠ 0) (hp : pc + 1 = pc') (w : own_W p e En below kc ks Q T (mkF m pc' Ls (.int (x % y) :: st))) : own_W p e En below kc ks Q T (mkF m pc Ls (.int y :: .int x :: st)) := by
  subst hp; exact own_W.step (fun _ q => iremM X hx rfl hd rfl hy q) w
theorem own_lrem (X : Stand p l e R s m args below meth c T locs cells slots) (hx : p.tables.exec = Jvm.exec) {x y : Int64} (hd : decode c.code pc = .ok (.lrem, 1)) (hy : y ≠ 0) (hp : pc + 1 = pc') (w : own_W p e En below kc ks Q T (mkF m pc' Ls (.long (x % y) :: st))) : own_W p e En below kc ks Q T (mkF m pc Ls (.long y :: .long x :: st)) := by
  subst hp; exact own_W.step (fun _ q => XS.lrem X.here hx rfl hd rfl hy (by rw [lrem_mod]; exact q)) w
theorem own_ineg (X : Stand p l e R s m args below meth c T locs cells slots) (hx : p.tables.exec = Jvm.exec) {x : Int32} (hd : decode c.code pc = .ok (.ineg, 1))  (hp : pc + 1 = pc') (w : own_W p e En below kc ks Q T (mkF m pc' Ls (.int (-x) :: st))) : own_W p e En below kc ks Q T (mkF m pc Ls (.int x :: st)) := by
  subst hp; exact own_W.step (fun _ q => XS.ineg X.here hx rfl hd rfl q) w
theorem own_lneg (X : Stand p l e R s m args below meth c T locs cells slots) (hx : p.tables.exec = Jvm.exec) {x : Int64} (hd : decode c.code pc = .ok (.lneg, 1))  (hp : pc + 1 = pc') (w : own_W p e En below kc ks Q T (mkF m pc' Ls (.long (-x) :: st))) : own_W p e En below kc ks Q T (mkF m pc Ls (.long x :: st)) := by
  subst hp; exact own_W.step (fun _ q => XS.lneg X.here hx rfl hd rfl q) w
theorem own_i2l (X : Stand p l e R s m args below meth c T locs cells slots) (hx : p.tables.exec = Jvm.exec) {x : Int32} (hd : decode c.code pc = .ok (.i2l, 1))  (hp : pc + 1 = pc') (w : own_W p e En below kc ks Q T (mkF m pc' Ls (.long (x.toInt64) :: st))) : own_W p e En below kc ks Q T (mkF m pc Ls (.int x :: st)) := by
  subst hp; exact own_W.step (fun _ q => XS.i2l X.here hx rfl hd rfl q) w
theorem own_l2i (X : Stand p l e R s m args below meth c T locs cells slots) (hx : p.tables.exec = Jvm.exec) {x : Int64} (hd : decode c.code pc = .ok (.l2i, 1))  (hp : pc + 1 = pc') (w : own_W p e En below kc ks Q T (mkF m pc' Ls (.int (x.toInt32) :: st))) : own_W p e En below kc ks Q T (mkF m pc Ls (.long x :: st)) := by
  subst hp; exact own_W.step (fun _ q => XS.l2i X.here hx rfl hd rfl q) w
theorem own_i2b (X : Stand p l e R s m args below meth c T locs cells slots) (hx : p.tables.exec = Jvm.exec) {x : Int32} (hd : decode c.code pc = .ok (.i2b, 1))  (hp : pc + 1 = pc') (w : own_W p e En below kc ks Q T (mkF m pc' Ls (.int (x.toInt8.toInt32) :: st))) : own_W p e En below kc ks Q T (mkF m pc Ls (.int x :: st)) := by
  subst hp; exact own_W.step (fun _ q => XS.i2b X.here hx rfl hd rfl q) w
theorem own_i2s (X : Stand p l e R s m args below meth c T locs cells slots) (hx : p.tables.exec = Jvm.exec) {x : Int32} (hd : decode c.code pc = .ok (.i2s, 1))  (hp : pc + 1 = pc') (w : own_W p e En below kc ks Q T (mkF m pc' Ls (.int (x.toInt16.toInt32) :: st))) : own_W p e En below kc ks Q T (mkF m pc Ls (.int x :: st)) := by
  subst hp; exact own_W.step (fun _ q => XS.i2s X.here hx rfl hd rfl q) w
theorem own_i2c (X : Stand p l e R s m args below meth c T locs cells slots) (hx : p.tables.exec = Jvm.exec) {x : Int32} (hd : decode c.code pc = .ok (.i2c, 1))  (hp : pc + 1 = pc') (w : own_W p e En below kc ks Q T (mkF m pc' Ls (.int (x.toUInt32.toUInt16.toUInt32.toInt32) :: st))) : own_W p e En below kc ks Q T (mkF m pc Ls (.int x :: st)) := by
  subst hp; exact own_W.step (fun _ q => XS.i2c X.here hx rfl hd rfl q) w
theorem own_ishl (X : Stand p l e R s m args below meth c T locs cells slots) (hx : p.tables.exec = Jvm.exec) {x y : Int32} (hd : decode c.code pc = .ok (.ishl, 1))  (hp : pc + 1 = pc') (w : own_W p e En below kc ks Q T (mkF m pc' Ls (.int (x <<< (y &&& 31)) :: st))) : own_W p e En below kc ks Q T (mkF m pc Ls (.int y :: .int x :: st)) := by
  subst hp; exact own_W.step (fun _ q => XS.ishl X.here hx rfl hd rfl q) w
theorem own_ishr (X : Stand p l e R s m args below meth c T locs cells slots) (hx : p.tables.exec = Jvm.exec) {x y : Int32} (hd : decode c.code pc = .ok (.ishr, 1))  (hp : pc + 1 = pc') (w : own_W p e En below kc ks Q T (mkF m pc' Ls (.int (x >>> (y &&& 31)) :: st))) : own_W p e En below kc ks Q T (mkF m pc Ls (.int y :: .int x :: st)) := by
  subst hp; exact own_W.step (fun _ q => XS.ishr X.here hx rfl hd rfl q) w
theorem own_iushr (X : Stand p l e R s m args below meth c T locs cells slots) (hx : p.tables.exec = Jvm.exec) {x y : Int32} (hd : decode c.code pc = .ok (.iushr, 1))  (hp : pc + 1 = pc') (w : own_W p e En below kc ks Q T (mkF m pc' Ls (.int ((x.toUInt32 >>> (y &&& 31).toUInt32).toInt32) :: st))) : own_W p e En below kc ks Q T (mkF m pc Ls (.int y :: .int x :: st)) := by
  subst hp; exact own_W.step (fun _ q => XS.iushr X.here hx rfl hd rfl q) w
theorem own_lshl (X : Stand p l e R s m args below meth c T locs cells slots) (hx : p.tables.exec = Jvm.exec) {x : Int64} {y : Int32} (hd : decode c.code pc = .ok (.lshl, 1))  (hp : pc + 1 = pc') (w : own_W p e En below kc ks Q T (mkF m pc' Ls (.long (x <<< (y &&& 0x3f).toInt64) :: st))) : own_W p e En below kc ks Q T (mkF m pc Ls (.int y :: .long x :: st)) := by
  subst hp; exact own_W.step (fun _ q => XS.lshl X.here hx rfl hd rfl q) w
theorem own_lshr (X : Stand p l e R s m args below meth c T locs cells slots) (hx : p.tables.exec = Jvm.exec) {x : Int64} {y : Int32} (hd : decode c.code pc = .ok (.lshr, 1))  (hp : pc + 1 = pc') (w : own_W p e En below kc ks Q T (mkF m pc' Ls (.long (x >>> (y &&& 0x3f).toInt64) :: st))) : own_W p e En below kc ks Q T (mkF m pc Ls (.int y :: .long x :: st)) := by
  subst hp; exact own_W.step (fun _ q => XS.lshr X.here hx rfl hd rfl q) w
theorem own_lushr (X : Stand p l e R s m args below meth c T locs cells slots) (hx : p.tables.exec = Jvm.exec) {x : Int64} {y : Int32} (hd : decode c.code pc = .ok (.lushr, 1))  (hp : pc + 1 = pc') (w : own_W p e En below kc ks Q T (mkF m pc' Ls (.long ((x.toUInt64 >>> (y &&& 0x3f).toInt64.toUInt64).toInt64) :: st))) : own_W p e En below kc ks Q T (mkF m pc Ls (.int y :: .long x :: st)) := by
  subst hp; exact own_W.step (fun _ q => XS.lushr X.here hx rfl hd rfl q) w
theorem own_lcmp (X : Stand p l e R s m args below meth c T locs cells slots) (hx : p.tables.exec = Jvm.exec) {x y : Int64} (hd : decode c.code pc = .ok (.lcmp, 1))  (hp : pc + 1 = pc') (w : own_W p e En below kc ks Q T (mkF m pc' Ls (.int (XT.cmpL x y) :: st))) : own_W p e En below kc ks Q T (mkF m pc Ls (.long y :: .long x :: st)) := by
  subst hp; exact own_W.step (fun _ q => XT.lcmp X.here hx rfl hd rfl q) w
theorem own_iinc (X : Stand p l e R s m args below meth c T locs cells slots) (hx : p.tables.exec = Jvm.exec) {k : Nat} {cst : Int} (hd : decode c.code pc = .ok (.iinc k cst, 3)) (v : Int32) (hv : Int32.ofInt cst = v) {x : Int32} {l' : Array Slot} (hl : Ls[k]? = some (.val (.int x))) (hl' : storeLocals Ls k (.int (x + v)) = some l') (hp : pc + 3 = pc') (w : own_W p e En below kc ks Q T (mkF m pc' l' (st))) : own_W p e En below kc ks Q T (mkF m pc Ls (st)) := by
  subst hp; exact own_W.step (fun _ q => XT.iincV X.here hx rfl v hd hv hl hl' q) w
theorem own_dup (X : Stand p l e R s m args below meth c T locs cells slots) (hx : p.tables.exec = Jvm.exec) {x : Value} (hd : decode c.code pc = .ok (.dup, 1)) (hc : x.category = 1) (hp : pc + 1 = pc') (w : own_W p e En below kc ks Q T (mkF m pc' Ls (x :: x :: st))) : own_W p e En below kc ks Q T (mkF m pc Ls (x :: st)) := by
  subst hp; exact own_W.step (fun _ q => XS.dup X.here hx rfl hd rfl hc q) w
theorem own_pop (X : Stand p l e R s m args below meth c T locs cells slots) (hx : p.tables.exec = Jvm.exec) {x : Value} (hd : decode c.code pc = .ok (.pop, 1)) (hc : x.category = 1) (hp : pc + 1 = pc') (w : own_W p e En below kc ks Q T (mkF m pc' Ls (st))) : own_W p e En below kc ks Q T (mkF m pc Ls (x :: st)) := by
  subst hp; exact own_W.step (fun _ q => XS.pop X.here hx rfl hd rfl hc q) w
theorem own_dupX1 (X : Stand p l e R s m args below meth c T locs cells slots) (hx : p.tables.exec = Jvm.exec) {x y : Value} (hd : decode c.code pc = .ok (.dup_x1, 1)) (hc : x.category = 1) (hc2 : y.category = 1) (hp : pc + 1 = pc') (w : own_W p e En below kc ks Q T (mkF m pc' Ls (x :: y :: x :: st))) : own_W p e En below kc ks Q T (mkF m pc Ls (x :: y :: st)) := by
  subst hp; exact own_W.step (fun _ q => XS.dupX1 X.here hx rfl hd rfl hc hc2 q) w
theorem own_dup2 (X : Stand p l e R s m args below meth c T locs cells slots) (hx : p.tables.exec = Jvm.exec) {x y : Value} (hd : decode c.code pc = .ok (.dup2, 1)) (hc : x.category = 1) (hc2 : y.category = 1) (hp : pc + 1 = pc') (w : own_W p e En below kc ks Q T (mkF m pc' Ls (x :: y :: x :: y :: st))) : own_W p e En below kc ks Q T (mkF m pc Ls (x :: y :: st)) := by
  subst hp; exact own_W.step (fun _ q => XT.dup2 X.here hx rfl hd rfl hc hc2 q) w
theorem own_dup2L (X : Stand p l e R s m args below meth c T locs cells slots) (hx : p.tables.exec = Jvm.exec) {x : Int64} (hd : decode c.code pc = .ok (.dup2, 1))  (hp : pc + 1 = pc') (w : own_W p e En below kc ks Q T (mkF m pc' Ls (.long x :: .long x :: st))) : own_W p e En below kc ks Q T (mkF m pc Ls (.long x :: st)) := by
  subst hp; exact own_W.step (fun _ q => XT.dup2L X.here hx rfl hd rfl q) w
theorem own_goto (X : Stand p l e R s m args below meth c T locs cells slots) (hx : p.tables.exec = Jvm.exec) {o : Int} (hd : decode c.code pc = .ok (.goto o, 3)) {pc' : Nat} (ho : 0 ≤ (pc : Int) + o) (hp : ((pc : Int) + o).toNat = pc') (w : own_W p e En below kc ks Q T (mkF m pc' Ls st)) : own_W p e En below kc ks Q T (mkF m pc Ls st) :=
  own_W.step (fun _ q => XS.goto X.here hx rfl rfl hd ho hp q) w
theorem own_ifYes (X : Stand p l e R s m args below meth c T locs cells slots) (hx : p.tables.exec = Jvm.exec) {cd : Jvm.ClassFile.Cond} {x : Int32} {o : Int} (hd : decode c.code pc = .ok (.ifCond cd o, 3)) (hc : ifCond.holds cd x = true) {pc' : Nat} (ho : 0 ≤ (pc : Int) + o) (hp : ((pc : Int) + o).toNat = pc') (w : own_W p e En below kc ks Q T (mkF m pc' Ls st)) : own_W p e En below kc ks Q T (mkF m pc Ls (.int x :: st)) :=
  own_W.step (fun _ q => XS.ifYes X.here hx rfl rfl hd rfl hc ho hp q) w
theorem own_ifNo (X : Stand p l e R s m args below meth c T locs cells slots) (hx : p.tables.exec = Jvm.exec) {cd : Jvm.ClassFile.Cond} {x : Int32} {o : Int} (hd : decode c.code pc = .ok (.ifCond cd o, 3)) (hc : ifCond.holds cd x = false) (hp : pc + 3 = pc') (w : own_W p e En below kc ks Q T (mkF m pc' Ls st)) : own_W p e En below kc ks Q T (mkF m pc Ls (.int x :: st)) := by
  subst hp; exact own_W.step (fun _ q => XS.ifNo X.here hx rfl hd rfl hc q) w
theorem own_icmpYes (X : Stand p l e R s m args below meth c T locs cells slots) (hx : p.tables.exec = Jvm.exec) {cd : Jvm.ClassFile.Cond} {x y : Int32} {o : Int} (hd : decode c.code pc = .ok (.if_icmp cd o, 3)) (hc : if_icmp.holds cd x y = true) {pc' : Nat} (ho : 0 ≤ (pc : Int) + o) (hp : ((pc : Int) + o).toNat = pc') (w : own_W p e En below kc ks Q T (mkF m pc' Ls st)) : own_W p e En below kc ks Q T (mkF m pc Ls (.int y :: .int x :: st)) :=
  own_W.step (fun _ q => XS.icmpYes X.here hx rfl rfl hd rfl hc ho hp q) w
theorem own_icmpNo (X : Stand p l e R s m args below meth c T locs cells slots) (hx : p.tables.exec = Jvm.exec) {cd : Jvm.ClassFile.Cond} {x y : Int32} {o : Int} (hd : decode c.code pc = .ok (.if_icmp cd o, 3)) (hc : if_icmp.holds cd x y = false) (hp : pc + 3 = pc') (w : own_W p e En below kc ks Q T (mkF m pc' Ls st)) : own_W p e En below kc ks Q T (mkF m pc Ls (.int y :: .int x :: st)) := by
  subst hp; exact own_W.step (fun _ q => XS.icmpNo X.here hx rfl hd rfl hc q) w
theorem own_ifnullYes (X : Stand p l e R s m args below meth c T locs cells slots) (hx : p.tables.exec = Jvm.exec) {o : Int} (hd : decode c.code pc = .ok (.ifnull o, 3)) {pc' : Nat} (ho : 0 ≤ (pc : Int) + o) (hp : ((pc : Int) + o).toNat = pc') (w : own_W p e En below kc ks Q T (mkF m pc' Ls st)) : own_W p e En below kc ks Q T (mkF m pc Ls (.null :: st)) :=
  own_W.step (fun _ q => XS.ifnullYes X.here hx rfl rfl hd rfl ho hp q) w
theorem own_ifnullNo (X : Stand p l e R s m args below meth c T locs cells slots) (hx : p.tables.exec = Jvm.exec) {o : Int} (hd : decode c.code pc = .ok (.ifnull o, 3)) (hp : pc + 3 = pc') (w : own_W p e En below kc ks Q T (mkF m pc' Ls st)) : own_W p e En below kc ks Q T (mkF m pc Ls (.ref b :: st)) := by
  subst hp; exact own_W.step (fun _ q => XS.ifnullNo X.here hx rfl hd rfl q) w
theorem own_ifnonnullYes (X : Stand p l e R s m args below meth c T locs cells slots) (hx : p.tables.exec = Jvm.exec) {o : Int} (hd : decode c.code pc = .ok (.ifnonnull o, 3)) {pc' : Nat} (ho : 0 ≤ (pc : Int) + o) (hp : ((pc : Int) + o).toNat = pc') (w : own_W p e En below kc ks Q T (mkF m pc' Ls st)) : own_W p e En below kc ks Q T (mkF m pc Ls (.ref b :: st)) :=
  own_W.step (fun _ q => XS.ifnonnullYes X.here hx rfl rfl hd rfl ho hp q) w
theorem own_ifnonnullNo (X : Stand p l e R s m args below meth c T locs cells slots) (hx : p.tables.exec = Jvm.exec) {o : Int} (hd : decode c.code pc = .ok (.ifnonnull o, 3)) (hp : pc + 3 = pc') (w : own_W p e En below kc ks Q T (mkF m pc' Ls st)) : own_W p e En below kc ks Q T (mkF m pc Ls (.null :: st)) := by
  subst hp; exact own_W.step (fun _ q => XS.ifnonnullNo X.here hx rfl hd rfl q) w
/-- an array: its kind, its length, what each place holds -/
def own_A (Z : State) (h : Heap) (a : Addr) (ty : FieldType) (n : Nat) (f : Nat → Value) : Prop := ∃ c : Cell, Arr Z h a c ty ∧ c.slots.size = n ∧ n < 2 ^ 31 ∧ (∀ i, i < n → c.slots[i]? = some (f i)) ∧ ∀ i, i < n → fits ty (f i) = true
/-- the int j names the place i, which lies in an array of n places -/
def own_In (j : Int32) (i n : Nat) : Prop := j.toInt = (i : Int) ∧ i < n
variable {ty : FieldType} {n i : Nat} {f f' : Nat → Value} {j : Int32}
def own_k0 (_ : Nat) : Int32 := 0
def own_k0L (_ : Nat) : Int64 := 0
def own_up {α : Type} (f : Nat → α) (k : Nat) (x : α) (z : Nat) : α := if z = k then x else f z
theorem own_up_same {α : Type} (f : Nat → α) (k : Nat) (x : α) : own_up f k x k = x := if_pos rfl
theorem own_up_other {α : Type} (f : Nat → α) (k : Nat) (x : α) (z : Nat) (q : z ≠ k) : own_up f k x z = f z := if_neg q
theorem own_In.nat (q : own_In j i n) : j.toNatClampNeg = i := by
  show j.toInt.toNat = i
  rw [q.1]; rfl
theorem own_In.inb {cl : Cell} (q : own_In j i n) (S : cl.slots.size = n) : ¬ (j < 0 ∨ cl.slots.size ≤ j.toNatClampNeg) := by
  rw [q.nat, S]
  have q1 := q.1
  have q2 := q.2
  rintro (r | r)
  · rw [Int32.lt_iff_toInt_lt] at r
    have z : (0 : Int32).toInt = 0 := rfl
    omega
  · omega
theorem own_A.lt (F : own_A Z h a ty n f) : a < h.size := by obtain ⟨c, A, -⟩ := F; exact A.lt
theorem own_A.len (F : own_A Z h a ty n f) : n < 2 ^ 31 := by obtain ⟨c, -, -, q, -, -⟩ := F; exact q
theorem own_A.ext (F : own_A Z h a ty n f) (E : Ext h h') : own_A Z h' a ty n f := by obtain ⟨c, A, r⟩ := F; exact ⟨c, A.ext E, r⟩
theorem own_A.other {v : Value} (F : own_A Z h b ty n f) (W : Wr h h' a sl v) (q : b ≠ a) : own_A Z h' b ty n f := by obtain ⟨c, A, r⟩ := F; exact ⟨c, A.other W q, r⟩
theorem own_A.keep {ws : List Addr} (F : own_A Z h a ty n f) (K : Keep h h' ws) (q : a ∉ ws) : own_A Z h' a ty n f := by obtain ⟨c, A, r⟩ := F; exact ⟨c, ⟨K.2.1 a c A.1 q, A.2⟩, r⟩
theorem own_A.congr (F : own_A Z h a ty n f) (q : ∀ i, i < n → f i = f' i) : own_A Z h a ty n f' := by
  obtain ⟨c, A, r1, r2, r3, r4⟩ := F
  exact ⟨c, A, r1, r2, fun i hi => by rw [r3 i hi, q i hi], fun i hi => by rw [← q i hi]; exact r4 i hi⟩
theorem own_A.fit (F : own_A Z h a ty n f) {i : Nat} (hi : i < n) : fits ty (f i) = true := by obtain ⟨c, A, r1, r2, r3, r4⟩ := F; exact r4 i hi
theorem own_A.new {k : ClassId} {z : Int32} (A : Arr Z h a (newA k ty z) ty) (q : ¬ z < 0) (hn : z.toNatClampNeg = n) : own_A Z h a ty n (fun _ => defaultValue ty) := by
  subst hn
  refine ⟨_, A, sz_new _ _ _, (back32 q).2, fun i hi => ?_, fun i _ => by cases ty <;> rfl⟩
  show (Array.replicate z.toNatClampNeg (defaultValue ty))[i]? = _
  rw [Array.getElem?_replicate, if_pos hi]
theorem own_A.put {cl : Cell} {v : Value} (A : Arr Z h a cl ty) (S : cl.slots.size = n) (hn : n < 2 ^ 31) (H : ∀ i, i < n → cl.slots[i]? = some (f i)) (G : ∀ i, i < n → fits ty (f i) = true) (hv : fits ty v = true) (q : own_In j i n) (W : Wr h h' a j.toNatClampNeg v) : own_A Z h' a ty n (fun z => if z = i then v else f z) := by
  refine ⟨_, A.same W, by rw [sz_set]; exact S, hn, fun k hk => ?_, fun k hk => ?_⟩
  rotate_left
  · show fits ty (if k = i then v else f k) = true
    by_cases e : k = i
    · rw [if_pos e]; exact hv
    · rw [if_neg e]; exact G k hk
  show (cl.slots.setIfInBounds j.toNatClampNeg v)[k]? = some (if k = i then v else f k)
  rw [q.nat, Array.getElem?_setIfInBounds]
  by_cases e : i = k
  · subst e
    rw [if_pos rfl, if_pos (by rw [S]; exact hk), if_pos rfl]
  · rw [if_neg e, if_neg (fun z => e z.symm), H k hk]
theorem own_stI (X : Stand p l e R s m args below meth c T locs cells slots) (hx : p.tables.exec = Jvm.exec) (hZ : Z.Warmed39 s.vm) (eT : T.heap = h) (F : own_A Z h a .int n f) {x : Int32} (hi : own_In j i n) {g : JFrame} (hg : g.method = m) {rest : List Value} (hs : g.stack = .int x :: .int j :: .ref a :: rest) (hd : decode c.code g.pc = .ok (.iastore, 1)) :
    ∃ T' h', Stand p l e R s m args below meth c T' (locs ++ [⟨a, j.toNatClampNeg⟩]) cells slots ∧ T'.heap = h' ∧ Wr h h' a j.toNatClampNeg (.int (x)) ∧ own_A Z h' a .int n (fun z => if z = i then .int (x) else f z) ∧ ∀ target, Steps p.tables e below (T'.setTop { g with pc := g.pc + 1, stack := rest }) target → Steps p.tables e below (T.setTop g) target := by
  obtain ⟨cl, A, S, hn, H, G⟩ := F
  obtain ⟨T', h', X', e', W', st'⟩ := stI X hx hZ eT A (hi.inb S) hg hs hd
  exact ⟨T', h', X', e', W', own_A.put A S hn H G rfl hi W', st'⟩
theorem own_stJ (X : Stand p l e R s m args below meth c T locs cells slots) (hx : p.tables.exec = Jvm.exec) (hZ : Z.Warmed39 s.vm) (eT : T.heap = h) (F : own_A Z h a .long n f) {x : Int64} (hi : own_In j i n) {g : JFrame} (hg : g.method = m) {rest : List Value} (hs : g.stack = .long x :: .int j :: .ref a :: rest) (hd : decode c.code g.pc = .ok (.lastore, 1)) :
    ∃ T' h', Stand p l e R s m args below meth c T' (locs ++ [⟨a, j.toNatClampNeg⟩]) cells slots ∧ T'.heap = h' ∧ Wr h h' a j.toNatClampNeg (.long (x)) ∧ own_A Z h' a .long n (fun z => if z = i then .long (x) else f z) ∧ ∀ target, Steps p.tables e below (T'.setTop { g with pc := g.pc + 1, stack := rest }) target → Steps p.tables e below (T.setTop g) target := by
  obtain ⟨cl, A, S, hn, H, G⟩ := F
  obtain ⟨T', h', X', e', W', st'⟩ := stJ X hx hZ eT A (hi.inb S) hg hs hd
  exact ⟨T', h', X', e', W', own_A.put A S hn H G rfl hi W', st'⟩
theorem own_stB (X : Stand p l e R s m args below meth c T locs cells slots) (hx : p.tables.exec = Jvm.exec) (hZ : Z.Warmed39 s.vm) (eT : T.heap = h) (F : own_A Z h a .byte n f) {x : Int32} (hi : own_In j i n) {g : JFrame} (hg : g.method = m) {rest : List Value} (hs : g.stack = .int x :: .int j :: .ref a :: rest) (hd : decode c.code g.pc = .ok (.bastore, 1)) :
    ∃ T' h', Stand p l e R s m args below meth c T' (locs ++ [⟨a, j.toNatClampNeg⟩]) cells slots ∧ T'.heap = h' ∧ Wr h h' a j.toNatClampNeg (.int (x.toInt8.toInt32)) ∧ own_A Z h' a .byte n (fun z => if z = i then .int (x.toInt8.toInt32) else f z) ∧ ∀ target, Steps p.tables e below (T'.setTop { g with pc := g.pc + 1, stack := rest }) target → Steps p.tables e below (T.setTop g) target := by
  obtain ⟨cl, A, S, hn, H, G⟩ := F
  obtain ⟨T', h', X', e', W', st'⟩ := stB X hx hZ eT A (hi.inb S) hg hs hd
  exact ⟨T', h', X', e', W', own_A.put A S hn H G (fits_nar_byte _) hi W', st'⟩
theorem own_iaload (X : Stand p l e R s m args below meth c T locs cells slots) (hx : p.tables.exec = Jvm.exec) (hZ : Z.Warmed39 s.vm) (eT : T.heap = h) (F : own_A Z h a .int n f) (hi : own_In j i n) {v : Int32} (hv : f i = .int v) {g : JFrame} (hg : g.method = m) {rest : List Value} (hs : g.stack = .int j :: .ref a :: rest) (hd : decode c.code g.pc = .ok (.iaload, 1)) (w : own_W p e En below kc ks Q T { g with pc := g.pc + 1, stack := .int v :: rest }) : own_W p e En below kc ks Q T g := by
  obtain ⟨cl, A, S, hn, H, -⟩ := F
  exact own_W.step (X.iaload hx (j := j) (v := .int v) (by rw [eT]; exact A.1) (State.isArrayOf_alike hZ.alike A.2.1) A.2.2 (hi.inb S) (by rw [hi.nat, H i hi.2, hv]) (g := g) hg hs hd) w
theorem own_laload (X : Stand p l e R s m args below meth c T locs cells slots) (hx : p.tables.exec = Jvm.exec) (hZ : Z.Warmed39 s.vm) (eT : T.heap = h) (F : own_A Z h a .long n f) (hi : own_In j i n) {v : Int64} (hv : f i = .long v) {g : JFrame} (hg : g.method = m) {rest : List Value} (hs : g.stack = .int j :: .ref a :: rest) (hd : decode c.code g.pc = .ok (.laload, 1)) (w : own_W p e En below kc ks Q T { g with pc := g.pc + 1, stack := .long v :: rest }) : own_W p e En below kc ks Q T g := by
  obtain ⟨cl, A, S, hn, H, -⟩ := F
  exact own_W.step (X.laload hx (j := j) (v := .long v) (by rw [eT]; exact A.1) (State.isArrayOf_alike hZ.alike A.2.1) A.2.2 (hi.inb S) (by rw [hi.nat, H i hi.2, hv]) (g := g) hg hs hd) w
theorem own_baload (X : Stand p l e R s m args below meth c T locs cells slots) (hx : p.tables.exec = Jvm.exec) (hZ : Z.Warmed39 s.vm) (eT : T.heap = h) (F : own_A Z h a .byte n f) (hi : own_In j i n) {v : Int32} (hv : f i = .int v) {g : JFrame} (hg : g.method = m) {rest : List Value} (hs : g.stack = .int j :: .ref a :: rest) (hd : decode c.code g.pc = .ok (.baload, 1)) (w : own_W p e En below kc ks Q T { g with pc := g.pc + 1, stack := .int v :: rest }) : own_W p e En below kc ks Q T g := by
  obtain ⟨cl, A, S, hn, H, -⟩ := F
  exact own_W.step (X.baloadBytes hx (j := j) (v := .int v) (by rw [eT]; exact A.1) (State.isArrayOf_alike hZ.alike A.2.1) A.2.2 (hi.inb S) (by rw [hi.nat, H i hi.2, hv]) (g := g) hg hs hd) w
theorem own_alen (X : Stand p l e R s m args below meth c T locs cells slots) (hx : p.tables.exec = Jvm.exec) (hZ : Z.Warmed39 s.vm) (eT : T.heap = h) (F : own_A Z h a ty n f) {z : Int32} (hz : n.toInt32 = z) {g : JFrame} (hg : g.method = m) {rest : List Value} (hs : g.stack = .ref a :: rest) (hd : decode c.code g.pc = .ok (.arraylength, 1)) (w : own_W p e En below kc ks Q T { g with pc := g.pc + 1, stack := .int z :: rest }) : own_W p e En below kc ks Q T g := by
  obtain ⟨cl, A, S, hn, H, -⟩ := F
  subst hz S
  exact own_W.step (X.arraylength hx (by rw [eT]; exact A.1) (State.isArrayOf_alike hZ.alike A.2.1) (g := g) hg hs hd) w

/-- a constructor whose entry is resolved already (a nest mate's private one) -/
theorem own_ready {a0 : Array Value} {own : String} {index : Nat} {y : MethodName} (hZ : Z.Warmed39 s.vm) (hown : s.vm.findClass own = some m.cls) (hy : y.cls ≠ "java/lang/invoke/MethodHandle" ∧ y.cls ≠ "java/lang/invoke/VarHandle") (w : (Jvm.Cond.methodRef own index y).before a0 Z = true) (wi : (Jvm.Cond.instanceMethod y).before a0 Z = true) (ev : Env) :
    ∀ (U : State) (r : MethodId), s.WarmedH U.vm → s.methodNamed? y = some r → namesResolved U.vm m.cls index r.cls ∧ U.vm.methodReady m.cls index r := by
  intro U r hW hn
  obtain ⟨mk, methM, hnZ, -⟩ := Cond.instanceMethod_spec wi
  have hZU : Z.Warmed39 U.vm := wtrans hZ hW
  have h1 := Cond.methodRef_warmed39 hZU hnZ hy w
  have e0 : (Z.setVm s.vm).methodNamed? y = Z.methodNamed? y := State.methodNamed?_setVm hZ.alike y
  have e1 : s.methodNamed? y = (Z.setVm s.vm).methodNamed? y := rfl
  have e2 : mk = r := by rw [e1, e0, hnZ] at hn; exact Option.some.inj hn
  subst e2
  have e3 : (Z.setVm U.vm).methodNamed? y = some mk := by rw [State.methodNamed?_setVm hZU.alike y]; exact hnZ
  have hcur : (Z.setVm U.vm).vm.findClass own = some m.cls := by
    show U.vm.findClass own = _
    rw [hW.alike.findClass]; exact hown
  obtain ⟨m', c', hm, hready, hfind, hnr⟩ := Cond.methodRef_named ev hcur h1
  cases hm.symm.trans (State.methodFound?_of_named e3 hy)
  cases hfind.symm.trans (findClass_of_methodNamed e3)
  exact ⟨hnr, hready⟩
theorem own_specialRef (X : Stand p l e R s m args below meth c T locs cells slots) (hexec : p.tables.exec = Jvm.exec) (hZ : Z.Warmed39 s.vm) {a0 : Array Value} {own : String} {index : Nat} {y : MethodName} (hy1 : y.name = "<init>") (hown : s.vm.findClass own = some m.cls) (w : (Jvm.Cond.methodRef own index y).before a0 Z = true) (wi : (Jvm.Cond.instanceMethod y).before a0 Z = true)
    {bytes : ByteArray} {maxL : Nat} (wc : (Jvm.Cond.code y bytes maxL none).before a0 Z = true) (hy : y.cls ≠ "java/lang/invoke/MethodHandle" ∧ y.cls ≠ "java/lang/invoke/VarHandle")
    {W : Nat} {Pre : Pt → Array Value → Prop} {Post : Pt → Array Value → Option Value → Pt → Prop} (hK : Back l R p e below s args y 3 W Pre Post)
    {g : JFrame} (hg : g.method = m) (hsize : g.locals.size = c.maxLocals) {s₀ : State} (hcome : Steps p.tables e below s₀ (T.setTop g)) {a : Addr} {argsL rest : List Value}
    (hlen : ∀ sig, parseMethodDescriptor y.desc = some sig → argsL.length = sig.parameters.length) (hstack : g.stack = argsL.reverse ++ .ref a :: rest) (hW : 2 * g.monitorRoom + (rest.map fun v => v.category).sum ≤ W)
    (hdg : decode c.code g.pc = .ok (.invokespecial index, 3)) (hpre : ∀ vm₁, s.WarmedH vm₁ → Pre ⟨T.setVm vm₁, locs, cells, slots⟩ (.ref a :: argsL).toArray) :
    ∃ (v : Option Value) (vm₁ : Vm) (B : Pt), s.WarmedH vm₁ ∧ Stand p l e R s m args below meth c B.U B.locs B.cells B.slots ∧ Post ⟨T.setVm vm₁, locs, cells, slots⟩ (.ref a :: argsL).toArray v B ∧
      Steps p.tables e below s₀ (B.U.setTop { g with pc := g.pc + 3, stack := v.toList ++ rest }) :=
  (SCall.of_ready hexec hy1 (mvT hZ wi) (mvT hZ wc) (own_ready hZ hown hy w wi e)) X hK hg hsize hcome hlen hstack hW hdg hpre
theorem own_selP {a0 : Array Value} {y : MethodName} {n : Nat} (wp : (Jvm.Cond.privateMethod y).before a0 Z = true) (wi : (Jvm.Cond.instanceMethod y).before a0 Z = true) (wn : (Jvm.Cond.instantiable y.cls n).before a0 Z = true) (hy : y.cls ≠ "java/lang/invoke/MethodHandle" ∧ y.cls ≠ "java/lang/invoke/VarHandle") : (Jvm.Cond.selects y.cls y y).before a0 Z = true := by
  obtain ⟨mk, methM, hn, hm, hst, hab⟩ := Cond.instanceMethod_spec wi
  obtain ⟨c, k, hc, hk, -, hi, -⟩ := Cond.instantiable_spec wn
  have hcls : Z.vm.findClass y.cls = some mk.cls := findClass_of_methodNamed hn
  cases hc.symm.trans hcls
  have hf := State.methodFound?_of_named hn hy
  have hs : selectMethod {} Z.vm mk.cls mk = .method mk := selectMethod_private hm (Cond.privateMethod_at wp mk methM hn hm)
  have hki : k.isInterface = false := (Bool.or_eq_false_iff.mp hi).1
  simp [Cond.before, Cond.holds, Cond.value, hcls, hf, hn, hs, hk, hki]
end OwnW

/-! 1. plain law -/
def own_pow (k : Int32) : Int64 := (1 : Int64) <<< (k &&& 0x3f).toInt64
def own_ref (n : Int64) (k : Int32) (q : Int64) (r : Int32) : Int32 :=
  if r = (0 : Int32) then 0 else
  if q = (0 : Int64) then (if (n / own_pow k) % (2 : Int64) = (1 : Int64) then 1 else 0) else
  if q < (1 : Int64) then 0 else
  if (9223372036854775807 : Int64) / own_pow k < q then 0 else
  if n - n % own_pow k < q * own_pow k then 0 else 1
def own_pos (n : Int64) (k : Int32) (q : Int64) : Int32 :=
  if k < (1 : Int32) then 0 else
  if k < (63 : Int32) then
    (if q = (0 : Int64) then (if ((n >>> (k &&& 0x3f).toInt64) &&& (1 : Int64)) = (1 : Int64) then 1 else 0) else
     if q < (1 : Int64) then 0 else
     if (n >>> (k &&& 0x3f).toInt64) < q then 0 else 1)
  else 0
def own_rg (k : Int32) : Int32 := if k < (1 : Int32) then 0 else if (62 : Int32) < k then 0 else 1
theorem own_kbv (k : Int32) (h : 0 ≤ k.toInt) : (k.toBitVec.toNat : Int) = k.toInt := by
  have e : k.toInt = k.toBitVec.toInt := rfl
  rw [e] at h ⊢
  rw [BitVec.toInt_eq_toNat_cond] at h ⊢
  have := k.toBitVec.isLt
  split at h
  · rw [if_pos (by assumption)]
  · omega
theorem own_powV (k : Int32) (h : 1 ≤ k.toInt ∧ k.toInt ≤ 62) : (own_pow k).toInt = 2 ^ k.toInt.toNat := by
  have e := own_kbv k (by omega)
  have hk : k.toBitVec.toNat % 64 = k.toInt.toNat := by omega
  have q := c_lshl (1 : Int64) k k.toInt.toNat hk
  have r := rng64 (own_pow k)
  have b1 : (2 : Nat) ^ k.toInt.toNat ≤ 2 ^ 62 := Nat.pow_le_pow_right (by decide) (by omega)
  have t : (1 : Int64).toInt = 1 := by decide
  rw [t] at q
  have q' : ((own_pow k).toInt - 1 * ((2 ^ k.toInt.toNat : Nat) : Int)) % 18446744073709551616 = 0 := q
  have c : ((2 : Int) ^ k.toInt.toNat) = ((2 ^ k.toInt.toNat : Nat) : Int) := by simp
  rw [c]
  generalize (2 ^ k.toInt.toNat : Nat) = P at *
  omega
theorem own_pow_ne (k : Int32) : own_pow k ≠ 0 := by
  have key : ∀ i : Fin 64, (1 : Int64) <<< (Int64.ofNat i.val) ≠ 0 := by decide +kernel
  have hk := (sm64 k (k.toBitVec.toNat % 64) rfl)
  have e : (k &&& 0x3f).toInt64 = Int64.ofNat (k.toBitVec.toNat % 64) := by
    apply Int64.toBitVec_inj.mp
    rw [hk.1]
    rfl
  unfold own_pow
  rw [e]
  exact key ⟨k.toBitVec.toNat % 64, hk.2⟩
theorem own_n (q : Int64) : 0 ≤ (q &&& (9223372036854775807 : Int64)).toInt := by
  rw [c_maskL q (9223372036854775807 : Int64) 63 (by decide) (by decide)]
  omega
theorem own_agree (n : Int64) (k : Int32) (q : Int64) (r : Int32) (hn : 0 ≤ n.toInt) (hr : r = own_rg k) : own_pos n k q = own_ref n k q r := by
  subst hr
  have t0 : (0 : Int64).toInt = 0 := by decide
  have t1 : (1 : Int64).toInt = 1 := by decide
  have t2 : (2 : Int64).toInt = 2 := by decide
  have s1 : (1 : Int32).toInt = 1 := by decide
  have s62 : (62 : Int32).toInt = 62 := by decide
  have s63 : (63 : Int32).toInt = 63 := by decide
  have tM : (9223372036854775807 : Int64).toInt = 9223372036854775807 := by decide
  unfold own_pos own_ref own_rg
  by_cases h1 : k < (1 : Int32)
  · simp only [if_pos h1]; rfl
  · simp only [if_neg h1]
    by_cases h2 : (62 : Int32) < k
    · have h3 : ¬ k < (63 : Int32) := by rw [Int32.lt_iff_toInt_lt] at h2 ⊢; omega
      simp only [if_pos h2, if_neg h3]; rfl
    · have h3 : k < (63 : Int32) := by rw [Int32.lt_iff_toInt_lt] at h2 ⊢; omega
      have hk : 1 ≤ k.toInt ∧ k.toInt ≤ 62 := by rw [Int32.lt_iff_toInt_lt] at h1 h2; omega
      simp only [if_neg h2, if_pos h3]
      have hP := own_powV k hk
      have hkk : k.toBitVec.toNat % 64 = k.toInt.toNat := by have e := own_kbv k (by omega); omega
      have hs := c_lshr n k k.toInt.toNat hkk
      have c : ((2 : Int) ^ k.toInt.toNat) = ((2 ^ k.toInt.toNat : Nat) : Int) := by simp
      rw [← c, ← hP] at hs
      have hpos : 0 < (own_pow k).toInt := by rw [hP]; exact Int.pow_pos (by decide)
      have hm1 : own_pow k ≠ -1 := fun z => by rw [z] at hpos; exact absurd hpos (by decide)
      have hd := (c_ldiv n (own_pow k) _ rfl hm1).1 hn
      have hdM := (c_ldiv (9223372036854775807 : Int64) (own_pow k) _ rfl hm1).1 (by decide)
      have hsd : n >>> (k &&& 0x3f).toInt64 = n / own_pow k := by apply Int64.toInt_inj.mp; rw [hs, hd]
      rw [hsd]
      have hdn : 0 ≤ (n / own_pow k).toInt := by rw [hd]; exact Int.ediv_nonneg hn (by omega)
      rw [if_neg (show ¬ ((1 : Int32) = 0) by decide)]
      by_cases h4 : q = (0 : Int64)
      · simp only [if_pos h4]
        have m1 : ((n / own_pow k) &&& (1 : Int64)) = (n / own_pow k) % (2 : Int64) := by
          apply Int64.toInt_inj.mp
          rw [c_maskL (n / own_pow k) (1 : Int64) 1 (by decide) (by decide), Int64.toInt_mod, t2, Int.tmod_eq_emod_of_nonneg hdn]
          rfl
        rw [m1]
      · simp only [if_neg h4]
        by_cases h5 : q < (1 : Int64)
        · simp only [if_pos h5]
        · simp only [if_neg h5]
          have hq : 1 ≤ q.toInt := by rw [Int64.lt_iff_toInt_lt] at h5; omega
          have rn := rng64 n
          have hmd : (n % own_pow k).toInt = n.toInt % (own_pow k).toInt := by rw [Int64.toInt_mod, Int.tmod_eq_emod_of_nonneg hn]
          have hdm := Int.mul_ediv_add_emod n.toInt (own_pow k).toInt
          have hl := Int.emod_lt_of_pos n.toInt hpos
          have hg := Int.emod_nonneg n.toInt (show (own_pow k).toInt ≠ 0 by omega)
          by_cases h6 : (9223372036854775807 : Int64) / own_pow k < q
          · simp only [if_pos h6]
            rw [if_pos]
            rw [Int64.lt_iff_toInt_lt, hdM, tM] at h6
            rw [Int64.lt_iff_toInt_lt, hd]
            have : n.toInt / (own_pow k).toInt ≤ 9223372036854775807 / (own_pow k).toInt := Int.ediv_le_ediv hpos (by omega)
            omega
          · simp only [if_neg h6]
            rw [Int64.lt_iff_toInt_lt, hdM, tM] at h6
            have h7 : q.toInt * (own_pow k).toInt ≤ 9223372036854775807 := by
              have a1 : q.toInt * (own_pow k).toInt ≤ (9223372036854775807 / (own_pow k).toInt) * (own_pow k).toInt := Int.mul_le_mul_of_nonneg_right (by omega) (by omega)
              have a2 := Int.ediv_mul_le 9223372036854775807 (show (own_pow k).toInt ≠ 0 by omega)
              omega
            have h8 : 0 ≤ q.toInt * (own_pow k).toInt := Int.mul_nonneg (by omega) (by omega)
            have e1 := c_lmul q (own_pow k)
            have e2 := rng64 (q * own_pow k)
            have e3 := c_lsub n (n % own_pow k)
            have e4 := rng64 (n - n % own_pow k)
            have v1 : (q * own_pow k).toInt = q.toInt * (own_pow k).toInt := by omega
            have h10 : 0 ≤ (own_pow k).toInt * (n.toInt / (own_pow k).toInt) := Int.mul_nonneg (by omega) (Int.ediv_nonneg hn (by omega))
            have v2 : (n - n % own_pow k).toInt = (own_pow k).toInt * (n.toInt / (own_pow k).toInt) := by omega
            by_cases h9 : n / own_pow k < q
            · simp only [if_pos h9]
              rw [if_pos]
              rw [Int64.lt_iff_toInt_lt, v1, v2]
              rw [Int64.lt_iff_toInt_lt, hd] at h9
              rw [Int.mul_comm]
              exact Int.mul_lt_mul_of_pos_right h9 hpos
            · simp only [if_neg h9]
              rw [if_neg]
              rw [Int64.lt_iff_toInt_lt, v1, v2]
              rw [Int64.lt_iff_toInt_lt, hd] at h9
              rw [Int.mul_comm (own_pow k).toInt]
              exact Int.not_lt.mpr (Int.mul_le_mul_of_nonneg_right (by omega) (by omega))
theorem d1_0 : decode method_3_code 0 = .ok (.iload 5, 2) := by decide +kernel
theorem d1_2 : decode method_3_code 2 = .ok (.ifCond .ne 5, 3) := by decide +kernel
theorem d1_5 : decode method_3_code 5 = .ok (.iconst 0, 1) := by decide +kernel
theorem d1_6 : decode method_3_code 6 = .ok (.ireturn, 1) := by decide +kernel
theorem d1_7 : decode method_3_code 7 = .ok (.lconst 1, 1) := by decide +kernel
theorem d1_8 : decode method_3_code 8 = .ok (.iload_n 2, 1) := by decide +kernel
theorem d1_9 : decode method_3_code 9 = .ok (.lshl, 1) := by decide +kernel
theorem d1_10 : decode method_3_code 10 = .ok (.lstore 6, 2) := by decide +kernel
theorem d1_12 : decode method_3_code 12 = .ok (.lload_n 0, 1) := by decide +kernel
theorem d1_13 : decode method_3_code 13 = .ok (.lload 6, 2) := by decide +kernel
theorem d1_15 : decode method_3_code 15 = .ok (.ldiv, 1) := by decide +kernel
theorem d1_16 : decode method_3_code 16 = .ok (.lstore 8, 2) := by decide +kernel
theorem d1_18 : decode method_3_code 18 = .ok (.lload_n 3, 1) := by decide +kernel
theorem d1_19 : decode method_3_code 19 = .ok (.lconst 0, 1) := by decide +kernel
theorem d1_20 : decode method_3_code 20 = .ok (.lcmp, 1) := by decide +kernel
theorem d1_21 : decode method_3_code 21 = .ok (.ifCond .ne 20, 3) := by decide +kernel
theorem d1_24 : decode method_3_code 24 = .ok (.lload 8, 2) := by decide +kernel
theorem d1_26 : decode method_3_code 26 = .ok (.ldc2_w 28, 3) := by decide +kernel
theorem d1_29 : decode method_3_code 29 = .ok (.lrem, 1) := by decide +kernel
theorem d1_30 : decode method_3_code 30 = .ok (.lconst 1, 1) := by decide +kernel
theorem d1_31 : decode method_3_code 31 = .ok (.lcmp, 1) := by decide +kernel
theorem d1_32 : decode method_3_code 32 = .ok (.ifCond .ne 7, 3) := by decide +kernel
theorem d1_35 : decode method_3_code 35 = .ok (.iconst 1, 1) := by decide +kernel
theorem d1_36 : decode method_3_code 36 = .ok (.goto 4, 3) := by decide +kernel
theorem d1_39 : decode method_3_code 39 = .ok (.iconst 0, 1) := by decide +kernel
theorem d1_40 : decode method_3_code 40 = .ok (.ireturn, 1) := by decide +kernel
theorem d1_41 : decode method_3_code 41 = .ok (.lload_n 3, 1) := by decide +kernel
theorem d1_42 : decode method_3_code 42 = .ok (.lconst 1, 1) := by decide +kernel
theorem d1_43 : decode method_3_code 43 = .ok (.lcmp, 1) := by decide +kernel
theorem d1_44 : decode method_3_code 44 = .ok (.ifCond .ge 5, 3) := by decide +kernel
theorem d1_47 : decode method_3_code 47 = .ok (.iconst 0, 1) := by decide +kernel
theorem d1_48 : decode method_3_code 48 = .ok (.ireturn, 1) := by decide +kernel
theorem d1_49 : decode method_3_code 49 = .ok (.lload_n 3, 1) := by decide +kernel
theorem d1_50 : decode method_3_code 50 = .ok (.ldc2_w 9, 3) := by decide +kernel
theorem d1_53 : decode method_3_code 53 = .ok (.lload 6, 2) := by decide +kernel
theorem d1_55 : decode method_3_code 55 = .ok (.ldiv, 1) := by decide +kernel
theorem d1_56 : decode method_3_code 56 = .ok (.lcmp, 1) := by decide +kernel
theorem d1_57 : decode method_3_code 57 = .ok (.ifCond .le 5, 3) := by decide +kernel
theorem d1_60 : decode method_3_code 60 = .ok (.iconst 0, 1) := by decide +kernel
theorem d1_61 : decode method_3_code 61 = .ok (.ireturn, 1) := by decide +kernel
theorem d1_62 : decode method_3_code 62 = .ok (.lload_n 3, 1) := by decide +kernel
theorem d1_63 : decode method_3_code 63 = .ok (.lload 6, 2) := by decide +kernel
theorem d1_65 : decode method_3_code 65 = .ok (.lmul, 1) := by decide +kernel
theorem d1_66 : decode method_3_code 66 = .ok (.lstore 10, 2) := by decide +kernel
theorem d1_68 : decode method_3_code 68 = .ok (.lload_n 0, 1) := by decide +kernel
theorem d1_69 : decode method_3_code 69 = .ok (.lload_n 0, 1) := by decide +kernel
theorem d1_70 : decode method_3_code 70 = .ok (.lload 6, 2) := by decide +kernel
theorem d1_72 : decode method_3_code 72 = .ok (.lrem, 1) := by decide +kernel
theorem d1_73 : decode method_3_code 73 = .ok (.lsub, 1) := by decide +kernel
theorem d1_74 : decode method_3_code 74 = .ok (.lstore 12, 2) := by decide +kernel
theorem d1_76 : decode method_3_code 76 = .ok (.lload 10, 2) := by decide +kernel
theorem d1_78 : decode method_3_code 78 = .ok (.lload 12, 2) := by decide +kernel
theorem d1_80 : decode method_3_code 80 = .ok (.lcmp, 1) := by decide +kernel
theorem d1_81 : decode method_3_code 81 = .ok (.ifCond .gt 7, 3) := by decide +kernel
theorem d1_84 : decode method_3_code 84 = .ok (.iconst 1, 1) := by decide +kernel
theorem d1_85 : decode method_3_code 85 = .ok (.goto 4, 3) := by decide +kernel
theorem d1_88 : decode method_3_code 88 = .ok (.iconst 0, 1) := by decide +kernel
theorem d1_89 : decode method_3_code 89 = .ok (.ireturn, 1) := by decide +kernel
theorem own_pn_com_example_sumtide_sumtide_HaarBasisIsPositionPinLaw : plainName "com/example/sumtide/sumtide/HaarBasisIsPositionPinLaw" = true := by first | (simp [plainName, overriddenIn]; done) | decide +kernel
theorem ef_1 (m : MethodId) (qn : Int64) (pk : Int32) (qp : Int64) (pr : Int32) : entryFrame m #[(.long qn), (.int pk), (.long qp), (.int pr)] 14 = mkF m 0 #[.val (.long qn), .second, .val (.int pk), .val (.long qp), .second, .val (.int pr), .unset, .unset, .unset, .unset, .unset, .unset, .unset, .unset] [] := by first | (simp [entryFrame, mkF, argsToLocals, Value.category]; done) | rfl
def Q1 (Z : State) (qn : Int64) (pk : Int32) (qp : Int64) (pr : Int32)  (h0 : Heap) (n0 : Nat) (v : Option Value) (h : Heap) (L : List Loc) : Prop := v = some (.int (own_ref qn pk qp pr)) ∧ Fr n0 L ∧ h = h0
set_option maxRecDepth 65536 in
set_option maxHeartbeats 40000000 in
theorem rm1 (l : Launch) (Z : State) (a0 : Array Value) (hw : ∀ d ∈ tables_1, d.before a0 Z = true) (ws : List Jvm.Cond) (qn : Int64) (pk : Int32) (qp : Int64) (pr : Int32)  (h0 : Heap) (n0 : Nat) (Z0 : n0 ≤ h0.size)  :
    MetFree l (⟨"com/example/sumtide/sumtide/HaarBasisIsPositionPinLaw", "reference", "(JIJZ)Z"⟩ : MethodName) (head1 (Jvm.Cond.code (⟨"com/example/sumtide/sumtide/HaarBasisIsPositionPinLaw", "reference", "(JIJZ)Z"⟩ : MethodName) method_3_code 14 (some .boolean) :: ws) ({ frames := 0, cells := 0, slots := 0, locals := 0 } : Room)) (fun avs U => avs = #[(.long qn), (.int pk), (.long qp), (.int pr)] ∧ Z.Warmed39 U.vm ∧ U.heap = h0) (fun _ _ _ _ _ => True) (fun _ U o U' => ∃ v L, o = .returned v ∧ Q1 Z qn pk qp pr h0 n0 v U'.heap L ∧ FrameEnd U o U' L ({ frames := 0, cells := 0, slots := 0, locals := 0 } : Room).cells ({ frames := 0, cells := 0, slots := 0, locals := 0 } : Room).slots) := by
  refine MetFree.of_bodySF (plainFor_of_name own_pn_com_example_sumtide_sumtide_HaarBasisIsPositionPinLaw) hisR ?_
  intro p e s m args below meth c s₁ Bd hml0 hP hK
  obtain ⟨rfl, hZ, hh⟩ := hP
  have hx := Bd.exec
  have hby := Bd.bytes
  have hml : c.maxLocals = 14 := hml0
  have hown : s.vm.findClass "com/example/sumtide/sumtide/HaarBasisIsPositionPinLaw" = some m.cls := findClass_of_methodNamed Bd.named
  have hnm := (name_of_methodNamed Bd.named Bd.method).1
  have hlk := Bd.notSynchronized
  have hret := Bd.returns
  have X0 : Stand p l e ({ frames := 0, cells := 0, slots := 0, locals := 0 } : Room) s m #[(.long qn), (.int pk), (.long qp), (.int pr)] below meth c s₁ [] 0 0 := Stand.of_body Bd
  have e0 : s₁.heap = h0 := by rw [← hh, Bd.state]; rfl
  have N0 := Fr.nil n0
  show own_W p e (FrameEnd s) below ({ frames := 0, cells := 0, slots := 0, locals := 0 } : Room).cells ({ frames := 0, cells := 0, slots := 0, locals := 0 } : Room).slots (Q1 Z qn pk qp pr h0 n0) s₁ (entryFrame m #[(.long qn), (.int pk), (.long qp), (.int pr)] 14)
  rw [ef_1]
  refine own_iload X0 hx (hb hby d1_0) (v := pr) rfl (rfl : 0 + 2 = 2) ?_
  by_cases hc2 : pr = (0 : Int32)
  · skip
    refine own_ifNo X0 hx (hb hby d1_2) ((if0 _ _).trans (teq hc2).2) (rfl : 2 + 3 = 5) ?_
    refine own_iconst X0 hx (hb hby d1_5) (0 : Int32) (by first | rfl | decide) (rfl : 5 + 1 = 6) ?_
    refine own_retN (t := .boolean) X0 hx hlk hret (by simp) (hb hby d1_6) (z' := (0 : Int32)) (by decide) (by decide) (by decide) ?_
    show Q1 Z qn pk qp pr h0 n0 (some (.int (0 : Int32))) s₁.heap _
    rw [e0]
    exact ⟨congrArg (fun z => some (Value.int z)) (by unfold own_ref own_pow; rw [if_pos hc2]), N0, rfl⟩
  · skip
    refine own_ifYes X0 hx (hb hby d1_2) ((if0 _ _).trans (feq hc2).2) (pc' := 7) (by decide) (by decide) ?_
    refine own_lconst X0 hx (hb hby d1_7) (1 : Int64) (by first | rfl | decide) (rfl : 7 + 1 = 8) ?_
    refine own_iloadN X0 hx (hb hby d1_8) (v := pk) rfl (rfl : 8 + 1 = 9) ?_
    refine own_lshl X0 hx (hb hby d1_9) (rfl : 9 + 1 = 10) ?_
    refine own_lstore X0 hx (hb hby d1_10) (l' := #[.val (.long qn), .second, .val (.int pk), .val (.long qp), .second, .val (.int pr), .val (.long ((1 : Int64) <<< (pk &&& 0x3f).toInt64)), .second, .unset, .unset, .unset, .unset, .unset, .unset]) rfl (rfl : 10 + 2 = 12) ?_
    refine own_lloadN X0 hx (hb hby d1_12) (v := qn) rfl (rfl : 12 + 1 = 13) ?_
    refine own_lload X0 hx (hb hby d1_13) (v := ((1 : Int64) <<< (pk &&& 0x3f).toInt64)) rfl (rfl : 13 + 2 = 15) ?_
    refine own_ldiv X0 hx (hb hby d1_15) (own_pow_ne pk) (rfl : 15 + 1 = 16) ?_
    refine own_lstore X0 hx (hb hby d1_16) (l' := #[.val (.long qn), .second, .val (.int pk), .val (.long qp), .second, .val (.int pr), .val (.long ((1 : Int64) <<< (pk &&& 0x3f).toInt64)), .second, .val (.long (qn / ((1 : Int64) <<< (pk &&& 0x3f).toInt64))), .second, .unset, .unset, .unset, .unset]) rfl (rfl : 16 + 2 = 18) ?_
    refine own_lloadN X0 hx (hb hby d1_18) (v := qp) rfl (rfl : 18 + 1 = 19) ?_
    refine own_lconst X0 hx (hb hby d1_19) (0 : Int64) (by first | rfl | decide) (rfl : 19 + 1 = 20) ?_
    refine own_lcmp X0 hx (hb hby d1_20) (rfl : 20 + 1 = 21) ?_
    by_cases hc21 : qp = (0 : Int64)
    · skip
      refine own_ifNo X0 hx (hb hby d1_21) (XT.ll_ne_f hc21) (rfl : 21 + 3 = 24) ?_
      refine own_lload X0 hx (hb hby d1_24) (v := (qn / ((1 : Int64) <<< (pk &&& 0x3f).toInt64))) rfl (rfl : 24 + 2 = 26) ?_
      refine own_ldc2Long X0 hx hown (mvT hZ (hw _ (List.mem_of_getElem? (i := 12) rfl))) (hb hby d1_26) (rfl : 26 + 3 = 29) ?_
      refine own_lrem X0 hx (hb hby d1_29) (by decide) (rfl : 29 + 1 = 30) ?_
      refine own_lconst X0 hx (hb hby d1_30) (1 : Int64) (by first | rfl | decide) (rfl : 30 + 1 = 31) ?_
      refine own_lcmp X0 hx (hb hby d1_31) (rfl : 31 + 1 = 32) ?_
      by_cases hc32 : ((qn / ((1 : Int64) <<< (pk &&& 0x3f).toInt64)) % (2 : Int64)) = (1 : Int64)
      · skip
        refine own_ifNo X0 hx (hb hby d1_32) (XT.ll_ne_f hc32) (rfl : 32 + 3 = 35) ?_
        refine own_iconst X0 hx (hb hby d1_35) (1 : Int32) (by first | rfl | decide) (rfl : 35 + 1 = 36) ?_
        refine own_goto X0 hx (hb hby d1_36) (pc' := 40) (by decide) (by decide) ?_
        refine own_retN (t := .boolean) X0 hx hlk hret (by simp) (hb hby d1_40) (z' := (1 : Int32)) (by decide) (by decide) (by decide) ?_
        show Q1 Z qn pk qp pr h0 n0 (some (.int (1 : Int32))) s₁.heap _
        rw [e0]
        exact ⟨congrArg (fun z => some (Value.int z)) (by unfold own_ref own_pow; rw [if_neg hc2, if_pos hc21, if_pos hc32]), N0, rfl⟩
      · skip
        refine own_ifYes X0 hx (hb hby d1_32) (XT.ll_ne_t hc32) (pc' := 39) (by decide) (by decide) ?_
        refine own_iconst X0 hx (hb hby d1_39) (0 : Int32) (by first | rfl | decide) (rfl : 39 + 1 = 40) ?_
        refine own_retN (t := .boolean) X0 hx hlk hret (by simp) (hb hby d1_40) (z' := (0 : Int32)) (by decide) (by decide) (by decide) ?_
        show Q1 Z qn pk qp pr h0 n0 (some (.int (0 : Int32))) s₁.heap _
        rw [e0]
        exact ⟨congrArg (fun z => some (Value.int z)) (by unfold own_ref own_pow; rw [if_neg hc2, if_pos hc21, if_neg hc32]), N0, rfl⟩
    · skip
      refine own_ifYes X0 hx (hb hby d1_21) (XT.ll_ne_t hc21) (pc' := 41) (by decide) (by decide) ?_
      refine own_lloadN X0 hx (hb hby d1_41) (v := qp) rfl (rfl : 41 + 1 = 42) ?_
      refine own_lconst X0 hx (hb hby d1_42) (1 : Int64) (by first | rfl | decide) (rfl : 42 + 1 = 43) ?_
      refine own_lcmp X0 hx (hb hby d1_43) (rfl : 43 + 1 = 44) ?_
      by_cases hc44 : qp < (1 : Int64)
      · skip
        refine own_ifNo X0 hx (hb hby d1_44) (XT.ll_ge_f hc44) (rfl : 44 + 3 = 47) ?_
        refine own_iconst X0 hx (hb hby d1_47) (0 : Int32) (by first | rfl | decide) (rfl : 47 + 1 = 48) ?_
        refine own_retN (t := .boolean) X0 hx hlk hret (by simp) (hb hby d1_48) (z' := (0 : Int32)) (by decide) (by decide) (by decide) ?_
        show Q1 Z qn pk qp pr h0 n0 (some (.int (0 : Int32))) s₁.heap _
        rw [e0]
        exact ⟨congrArg (fun z => some (Value.int z)) (by unfold own_ref own_pow; rw [if_neg hc2, if_neg hc21, if_pos hc44]), N0, rfl⟩
      · skip
        refine own_ifYes X0 hx (hb hby d1_44) (XT.ll_ge_t hc44) (pc' := 49) (by decide) (by decide) ?_
        refine own_lloadN X0 hx (hb hby d1_49) (v := qp) rfl (rfl : 49 + 1 = 50) ?_
        refine own_ldc2Long X0 hx hown (mvT hZ (hw _ (List.mem_of_getElem? (i := 0) rfl))) (hb hby d1_50) (rfl : 50 + 3 = 53) ?_
        refine own_lload X0 hx (hb hby d1_53) (v := ((1 : Int64) <<< (pk &&& 0x3f).toInt64)) rfl (rfl : 53 + 2 = 55) ?_
        refine own_ldiv X0 hx (hb hby d1_55) (own_pow_ne pk) (rfl : 55 + 1 = 56) ?_
        refine own_lcmp X0 hx (hb hby d1_56) (rfl : 56 + 1 = 57) ?_
        by_cases hc57 : ((9223372036854775807 : Int64) / ((1 : Int64) <<< (pk &&& 0x3f).toInt64)) < qp
        · skip
          refine own_ifNo X0 hx (hb hby d1_57) (XT.ll_le_f hc57) (rfl : 57 + 3 = 60) ?_
          refine own_iconst X0 hx (hb hby d1_60) (0 : Int32) (by first | rfl | decide) (rfl : 60 + 1 = 61) ?_
          refine own_retN (t := .boolean) X0 hx hlk hret (by simp) (hb hby d1_61) (z' := (0 : Int32)) (by decide) (by decide) (by decide) ?_
          show Q1 Z qn pk qp pr h0 n0 (some (.int (0 : Int32))) s₁.heap _
          rw [e0]
          exact ⟨congrArg (fun z => some (Value.int z)) (by unfold own_ref own_pow; rw [if_neg hc2, if_neg hc21, if_neg hc44, if_pos hc57]), N0, rfl⟩
        · skip
          refine own_ifYes X0 hx (hb hby d1_57) (XT.ll_le_t hc57) (pc' := 62) (by decide) (by decide) ?_
          refine own_lloadN X0 hx (hb hby d1_62) (v := qp) rfl (rfl : 62 + 1 = 63) ?_
          refine own_lload X0 hx (hb hby d1_63) (v := ((1 : Int64) <<< (pk &&& 0x3f).toInt64)) rfl (rfl : 63 + 2 = 65) ?_
          refine own_lmul X0 hx (hb hby d1_65) (rfl : 65 + 1 = 66) ?_
          refine own_lstore X0 hx (hb hby d1_66) (l' := #[.val (.long qn), .second, .val (.int pk), .val (.long qp), .second, .val (.int pr), .val (.long ((1 : Int64) <<< (pk &&& 0x3f).toInt64)), .second, .val (.long (qn / ((1 : Int64) <<< (pk &&& 0x3f).toInt64))), .second, .val (.long (qp * ((1 : Int64) <<< (pk &&& 0x3f).toInt64))), .second, .unset, .unset]) rfl (rfl : 66 + 2 = 68) ?_
          refine own_lloadN X0 hx (hb hby d1_68) (v := qn) rfl (rfl : 68 + 1 = 69) ?_
          refine own_lloadN X0 hx (hb hby d1_69) (v := qn) rfl (rfl : 69 + 1 = 70) ?_
          refine own_lload X0 hx (hb hby d1_70) (v := ((1 : Int64) <<< (pk &&& 0x3f).toInt64)) rfl (rfl : 70 + 2 = 72) ?_
          refine own_lrem X0 hx (hb hby d1_72) (own_pow_ne pk) (rfl : 72 + 1 = 73) ?_
          refine own_lsub X0 hx (hb hby d1_73) (rfl : 73 + 1 = 74) ?_
          refine own_lstore X0 hx (hb hby d1_74) (l' := #[.val (.long qn), .second, .val (.int pk), .val (.long qp), .second, .val (.int pr), .val (.long ((1 : Int64) <<< (pk &&& 0x3f).toInt64)), .second, .val (.long (qn / ((1 : Int64) <<< (pk &&& 0x3f).toInt64))), .second, .val (.long (qp * ((1 : Int64) <<< (pk &&& 0x3f).toInt64))), .second, .val (.long (qn - (qn % ((1 : Int64) <<< (pk &&& 0x3f).toInt64)))), .second]) rfl (rfl : 74 + 2 = 76) ?_
          refine own_lload X0 hx (hb hby d1_76) (v := (qp * ((1 : Int64) <<< (pk &&& 0x3f).toInt64))) rfl (rfl : 76 + 2 = 78) ?_
          refine own_lload X0 hx (hb hby d1_78) (v := (qn - (qn % ((1 : Int64) <<< (pk &&& 0x3f).toInt64)))) rfl (rfl : 78 + 2 = 80) ?_
          refine own_lcmp X0 hx (hb hby d1_80) (rfl : 80 + 1 = 81) ?_
          by_cases hc81 : (qn - (qn % ((1 : Int64) <<< (pk &&& 0x3f).toInt64))) < (qp * ((1 : Int64) <<< (pk &&& 0x3f).toInt64))
          · skip
            refine own_ifYes X0 hx (hb hby d1_81) (XT.ll_gt_t hc81) (pc' := 88) (by decide) (by decide) ?_
            refine own_iconst X0 hx (hb hby d1_88) (0 : Int32) (by first | rfl | decide) (rfl : 88 + 1 = 89) ?_
            refine own_retN (t := .boolean) X0 hx hlk hret (by simp) (hb hby d1_89) (z' := (0 : Int32)) (by decide) (by decide) (by decide) ?_
            show Q1 Z qn pk qp pr h0 n0 (some (.int (0 : Int32))) s₁.heap _
            rw [e0]
            exact ⟨congrArg (fun z => some (Value.int z)) (by unfold own_ref own_pow; rw [if_neg hc2, if_neg hc21, if_neg hc44, if_neg hc57, if_pos hc81]), N0, rfl⟩
          · skip
            refine own_ifNo X0 hx (hb hby d1_81) (XT.ll_gt_f hc81) (rfl : 81 + 3 = 84) ?_
            refine own_iconst X0 hx (hb hby d1_84) (1 : Int32) (by first | rfl | decide) (rfl : 84 + 1 = 85) ?_
            refine own_goto X0 hx (hb hby d1_85) (pc' := 89) (by decide) (by decide) ?_
            refine own_retN (t := .boolean) X0 hx hlk hret (by simp) (hb hby d1_89) (z' := (1 : Int32)) (by decide) (by decide) (by decide) ?_
            show Q1 Z qn pk qp pr h0 n0 (some (.int (1 : Int32))) s₁.heap _
            rw [e0]
            exact ⟨congrArg (fun z => some (Value.int z)) (by unfold own_ref own_pow; rw [if_neg hc2, if_neg hc21, if_neg hc44, if_neg hc57, if_neg hc81]), N0, rfl⟩
theorem d2_0 : decode prog_12_method_11_code 0 = .ok (.iload_n 2, 1) := by decide +kernel
theorem d2_1 : decode prog_12_method_11_code 1 = .ok (.iconst 1, 1) := by decide +kernel
theorem d2_2 : decode prog_12_method_11_code 2 = .ok (.if_icmp .lt 9, 3) := by decide +kernel
theorem d2_5 : decode prog_12_method_11_code 5 = .ok (.iload_n 2, 1) := by decide +kernel
theorem d2_6 : decode prog_12_method_11_code 6 = .ok (.bipush 63, 2) := by decide +kernel
theorem d2_8 : decode prog_12_method_11_code 8 = .ok (.if_icmp .lt 5, 3) := by decide +kernel
theorem d2_11 : decode prog_12_method_11_code 11 = .ok (.iconst 0, 1) := by decide +kernel
theorem d2_12 : decode prog_12_method_11_code 12 = .ok (.ireturn, 1) := by decide +kernel
theorem d2_13 : decode prog_12_method_11_code 13 = .ok (.lload_n 3, 1) := by decide +kernel
theorem d2_14 : decode prog_12_method_11_code 14 = .ok (.lconst 0, 1) := by decide +kernel
theorem d2_15 : decode prog_12_method_11_code 15 = .ok (.lcmp, 1) := by decide +kernel
theorem d2_16 : decode prog_12_method_11_code 16 = .ok (.ifCond .ne 19, 3) := by decide +kernel
theorem d2_19 : decode prog_12_method_11_code 19 = .ok (.lload_n 0, 1) := by decide +kernel
theorem d2_20 : decode prog_12_method_11_code 20 = .ok (.iload_n 2, 1) := by decide +kernel
theorem d2_21 : decode prog_12_method_11_code 21 = .ok (.lshr, 1) := by decide +kernel
theorem d2_22 : decode prog_12_method_11_code 22 = .ok (.lconst 1, 1) := by decide +kernel
theorem d2_23 : decode prog_12_method_11_code 23 = .ok (.land, 1) := by decide +kernel
theorem d2_24 : decode prog_12_method_11_code 24 = .ok (.lconst 1, 1) := by decide +kernel
theorem d2_25 : decode prog_12_method_11_code 25 = .ok (.lcmp, 1) := by decide +kernel
theorem d2_26 : decode prog_12_method_11_code 26 = .ok (.ifCond .ne 7, 3) := by decide +kernel
theorem d2_29 : decode prog_12_method_11_code 29 = .ok (.iconst 1, 1) := by decide +kernel
theorem d2_30 : decode prog_12_method_11_code 30 = .ok (.goto 4, 3) := by decide +kernel
theorem d2_33 : decode prog_12_method_11_code 33 = .ok (.iconst 0, 1) := by decide +kernel
theorem d2_34 : decode prog_12_method_11_code 34 = .ok (.ireturn, 1) := by decide +kernel
theorem d2_35 : decode prog_12_method_11_code 35 = .ok (.lload_n 3, 1) := by decide +kernel
theorem d2_36 : decode prog_12_method_11_code 36 = .ok (.lconst 1, 1) := by decide +kernel
theorem d2_37 : decode prog_12_method_11_code 37 = .ok (.lcmp, 1) := by decide +kernel
theorem d2_38 : decode prog_12_method_11_code 38 = .ok (.ifCond .lt 15, 3) := by decide +kernel
theorem d2_41 : decode prog_12_method_11_code 41 = .ok (.lload_n 3, 1) := by decide +kernel
theorem d2_42 : decode prog_12_method_11_code 42 = .ok (.lload_n 0, 1) := by decide +kernel
theorem d2_43 : decode prog_12_method_11_code 43 = .ok (.iload_n 2, 1) := by decide +kernel
theorem d2_44 : decode prog_12_method_11_code 44 = .ok (.lshr, 1) := by decide +kernel
theorem d2_45 : decode prog_12_method_11_code 45 = .ok (.lcmp, 1) := by decide +kernel
theorem d2_46 : decode prog_12_method_11_code 46 = .ok (.ifCond .gt 7, 3) := by decide +kernel
theorem d2_49 : decode prog_12_method_11_code 49 = .ok (.iconst 1, 1) := by decide +kernel
theorem d2_50 : decode prog_12_method_11_code 50 = .ok (.goto 4, 3) := by decide +kernel
theorem d2_53 : decode prog_12_method_11_code 53 = .ok (.iconst 0, 1) := by decide +kernel
theorem d2_54 : decode prog_12_method_11_code 54 = .ok (.ireturn, 1) := by decide +kernel
theorem own_pn_com_example_sumtide_sumtide_HaarBasis : plainName "com/example/sumtide/sumtide/HaarBasis" = true := by first | (simp [plainName, overriddenIn]; done) | decide +kernel
theorem ef_2 (m : MethodId) (qn : Int64) (pk : Int32) (qp : Int64) : entryFrame m #[(.long qn), (.int pk), (.long qp)] 5 = mkF m 0 #[.val (.long qn), .second, .val (.int pk), .val (.long qp), .second] [] := by first | (simp [entryFrame, mkF, argsToLocals, Value.category]; done) | rfl
def Q2 (Z : State) (qn : Int64) (pk : Int32) (qp : Int64)  (h0 : Heap) (n0 : Nat) (v : Option Value) (h : Heap) (L : List Loc) : Prop := v = some (.int (own_pos qn pk qp)) ∧ Fr n0 L ∧ h = h0
set_option maxRecDepth 65536 in
set_option maxHeartbeats 40000000 in
theorem rm2 (l : Launch) (Z : State) (a0 : Array Value) (hw : ∀ d ∈ tables_1, d.before a0 Z = true) (ws : List Jvm.Cond) (qn : Int64) (pk : Int32) (qp : Int64)  (h0 : Heap) (n0 : Nat) (Z0 : n0 ≤ h0.size)  :
    MetFree l (⟨"com/example/sumtide/sumtide/HaarBasis", "isPosition", "(JIJ)Z"⟩ : MethodName) (head1 (Jvm.Cond.code (⟨"com/example/sumtide/sumtide/HaarBasis", "isPosition", "(JIJ)Z"⟩ : MethodName) prog_12_method_11_code 5 (some .boolean) :: ws) ({ frames := 0, cells := 0, slots := 0, locals := 0 } : Room)) (fun avs U => avs = #[(.long qn), (.int pk), (.long qp)] ∧ Z.Warmed39 U.vm ∧ U.heap = h0) (fun _ _ _ _ _ => True) (fun _ U o U' => ∃ v L, o = .returned v ∧ Q2 Z qn pk qp h0 n0 v U'.heap L ∧ FrameEnd U o U' L ({ frames := 0, cells := 0, slots := 0, locals := 0 } : Room).cells ({ frames := 0, cells := 0, slots := 0, locals := 0 } : Room).slots) := by
  refine MetFree.of_bodySF (plainFor_of_name own_pn_com_example_sumtide_sumtide_HaarBasis) hisR ?_
  intro p e s m args below meth c s₁ Bd hml0 hP hK
  obtain ⟨rfl, hZ, hh⟩ := hP
  have hx := Bd.exec
  have hby := Bd.bytes
  have hml : c.maxLocals = 5 := hml0
  have hown : s.vm.findClass "com/example/sumtide/sumtide/HaarBasis" = some m.cls := findClass_of_methodNamed Bd.named
  have hnm := (name_of_methodNamed Bd.named Bd.method).1
  have hlk := Bd.notSynchronized
  have hret := Bd.returns
  have X0 : Stand p l e ({ frames := 0, cells := 0, slots := 0, locals := 0 } : Room) s m #[(.long qn), (.int pk), (.long qp)] below meth c s₁ [] 0 0 := Stand.of_body Bd
  have e0 : s₁.heap = h0 := by rw [← hh, Bd.state]; rfl
  have N0 := Fr.nil n0
  show own_W p e (FrameEnd s) below ({ frames := 0, cells := 0, slots := 0, locals := 0 } : Room).cells ({ frames := 0, cells := 0, slots := 0, locals := 0 } : Room).slots (Q2 Z qn pk qp h0 n0) s₁ (entryFrame m #[(.long qn), (.int pk), (.long qp)] 5)
  rw [ef_2]
  refine own_iloadN X0 hx (hb hby d2_0) (v := pk) rfl (rfl : 0 + 1 = 1) ?_
  refine own_iconst X0 hx (hb hby d2_1) (1 : Int32) (by first | rfl | decide) (rfl : 1 + 1 = 2) ?_
  by_cases hc2 : pk < (1 : Int32)
  · skip
    refine own_icmpYes X0 hx (hb hby d2_2) (tlt hc2).1 (pc' := 11) (by decide) (by decide) ?_
    refine own_iconst X0 hx (hb hby d2_11) (0 : Int32) (by first | rfl | decide) (rfl : 11 + 1 = 12) ?_
    refine own_retN (t := .boolean) X0 hx hlk hret (by simp) (hb hby d2_12) (z' := (0 : Int32)) (by decide) (by decide) (by decide) ?_
    show Q2 Z qn pk qp h0 n0 (some (.int (0 : Int32))) s₁.heap _
    rw [e0]
    exact ⟨congrArg (fun z => some (Value.int z)) (by unfold own_pos; rw [if_pos hc2]), N0, rfl⟩
  · skip
    refine own_icmpNo X0 hx (hb hby d2_2) (flt hc2).1 (rfl : 2 + 3 = 5) ?_
    refine own_iloadN X0 hx (hb hby d2_5) (v := pk) rfl (rfl : 5 + 1 = 6) ?_
    refine own_bipush X0 hx (hb hby d2_6) (63 : Int32) (by first | rfl | decide) (rfl : 6 + 2 = 8) ?_
    by_cases hc8 : pk < (63 : Int32)
    · skip
      refine own_icmpYes X0 hx (hb hby d2_8) (tlt hc8).1 (pc' := 13) (by decide) (by decide) ?_
      refine own_lloadN X0 hx (hb hby d2_13) (v := qp) rfl (rfl : 13 + 1 = 14) ?_
      refine own_lconst X0 hx (hb hby d2_14) (0 : Int64) (by first | rfl | decide) (rfl : 14 + 1 = 15) ?_
      refine own_lcmp X0 hx (hb hby d2_15) (rfl : 15 + 1 = 16) ?_
      by_cases hc16 : qp = (0 : Int64)
      · skip
        refine own_ifNo X0 hx (hb hby d2_16) (XT.ll_ne_f hc16) (rfl : 16 + 3 = 19) ?_
        refine own_lloadN X0 hx (hb hby d2_19) (v := qn) rfl (rfl : 19 + 1 = 20) ?_
        refine own_iloadN X0 hx (hb hby d2_20) (v := pk) rfl (rfl : 20 + 1 = 21) ?_
        refine own_lshr X0 hx (hb hby d2_21) (rfl : 21 + 1 = 22) ?_
        refine own_lconst X0 hx (hb hby d2_22) (1 : Int64) (by first | rfl | decide) (rfl : 22 + 1 = 23) ?_
        refine own_land X0 hx (hb hby d2_23) (rfl : 23 + 1 = 24) ?_
        refine own_lconst X0 hx (hb hby d2_24) (1 : Int64) (by first | rfl | decide) (rfl : 24 + 1 = 25) ?_
        refine own_lcmp X0 hx (hb hby d2_25) (rfl : 25 + 1 = 26) ?_
        by_cases hc26 : ((qn >>> (pk &&& 0x3f).toInt64) &&& (1 : Int64)) = (1 : Int64)
        · skip
          refine own_ifNo X0 hx (hb hby d2_26) (XT.ll_ne_f hc26) (rfl : 26 + 3 = 29) ?_
          refine own_iconst X0 hx (hb hby d2_29) (1 : Int32) (by first | rfl | decide) (rfl : 29 + 1 = 30) ?_
          refine own_goto X0 hx (hb hby d2_30) (pc' := 34) (by decide) (by decide) ?_
          refine own_retN (t := .boolean) X0 hx hlk hret (by simp) (hb hby d2_34) (z' := (1 : Int32)) (by decide) (by decide) (by decide) ?_
          show Q2 Z qn pk qp h0 n0 (some (.int (1 : Int32))) s₁.heap _
          rw [e0]
          exact ⟨congrArg (fun z => some (Value.int z)) (by unfold own_pos; rw [if_neg hc2, if_pos hc8, if_pos hc16, if_pos hc26]), N0, rfl⟩
        · skip
          refine own_ifYes X0 hx (hb hby d2_26) (XT.ll_ne_t hc26) (pc' := 33) (by decide) (by decide) ?_
          refine own_iconst X0 hx (hb hby d2_33) (0 : Int32) (by first | rfl | decide) (rfl : 33 + 1 = 34) ?_
          refine own_retN (t := .boolean) X0 hx hlk hret (by simp) (hb hby d2_34) (z' := (0 : Int32)) (by decide) (by decide) (by decide) ?_
          show Q2 Z qn pk qp h0 n0 (some (.int (0 : Int32))) s₁.heap _
          rw [e0]
          exact ⟨congrArg (fun z => some (Value.int z)) (by unfold own_pos; rw [if_neg hc2, if_pos hc8, if_pos hc16, if_neg hc26]), N0, rfl⟩
      · skip
        refine own_ifYes X0 hx (hb hby d2_16) (XT.ll_ne_t hc16) (pc' := 35) (by decide) (by decide) ?_
        refine own_lloadN X0 hx (hb hby d2_35) (v := qp) rfl (rfl : 35 + 1 = 36) ?_
        refine own_lconst X0 hx (hb hby d2_36) (1 : Int64) (by first | rfl | decide) (rfl : 36 + 1 = 37) ?_
        refine own_lcmp X0 hx (hb hby d2_37) (rfl : 37 + 1 = 38) ?_
        by_cases hc38 : qp < (1 : Int64)
        · skip
          refine own_ifYes X0 hx (hb hby d2_38) (XT.ll_lt_t hc38) (pc' := 53) (by decide) (by decide) ?_
          refine own_iconst X0 hx (hb hby d2_53) (0 : Int32) (by first | rfl | decide) (rfl : 53 + 1 = 54) ?_
          refine own_retN (t := .boolean) X0 hx hlk hret (by simp) (hb hby d2_54) (z' := (0 : Int32)) (by decide) (by decide) (by decide) ?_
          show Q2 Z qn pk qp h0 n0 (some (.int (0 : Int32))) s₁.heap _
          rw [e0]
          exact ⟨congrArg (fun z => some (Value.int z)) (by unfold own_pos; rw [if_neg hc2, if_pos hc8, if_neg hc16, if_pos hc38]), N0, rfl⟩
        · skip
          refine own_ifNo X0 hx (hb hby d2_38) (XT.ll_lt_f hc38) (rfl : 38 + 3 = 41) ?_
          refine own_lloadN X0 hx (hb hby d2_41) (v := qp) rfl (rfl : 41 + 1 = 42) ?_
          refine own_lloadN X0 hx (hb hby d2_42) (v := qn) rfl (rfl : 42 + 1 = 43) ?_
          refine own_iloadN X0 hx (hb hby d2_43) (v := pk) rfl (rfl : 43 + 1 = 44) ?_
          refine own_lshr X0 hx (hb hby d2_44) (rfl : 44 + 1 = 45) ?_
          refine own_lcmp X0 hx (hb hby d2_45) (rfl : 45 + 1 = 46) ?_
          by_cases hc46 : (qn >>> (pk &&& 0x3f).toInt64) < qp
          · skip
            refine own_ifYes X0 hx (hb hby d2_46) (XT.ll_gt_t hc46) (pc' := 53) (by decide) (by decide) ?_
            refine own_iconst X0 hx (hb hby d2_53) (0 : Int32) (by first | rfl | decide) (rfl : 53 + 1 = 54) ?_
            refine own_retN (t := .boolean) X0 hx hlk hret (by simp) (hb hby d2_54) (z' := (0 : Int32)) (by decide) (by decide) (by decide) ?_
            show Q2 Z qn pk qp h0 n0 (some (.int (0 : Int32))) s₁.heap _
            rw [e0]
            exact ⟨congrArg (fun z => some (Value.int z)) (by unfold own_pos; rw [if_neg hc2, if_pos hc8, if_neg hc16, if_neg hc38, if_pos hc46]), N0, rfl⟩
          · skip
            refine own_ifNo X0 hx (hb hby d2_46) (XT.ll_gt_f hc46) (rfl : 46 + 3 = 49) ?_
            refine own_iconst X0 hx (hb hby d2_49) (1 : Int32) (by first | rfl | decide) (rfl : 49 + 1 = 50) ?_
            refine own_goto X0 hx (hb hby d2_50) (pc' := 54) (by decide) (by decide) ?_
            refine own_retN (t := .boolean) X0 hx hlk hret (by simp) (hb hby d2_54) (z' := (1 : Int32)) (by decide) (by decide) (by decide) ?_
            show Q2 Z qn pk qp h0 n0 (some (.int (1 : Int32))) s₁.heap _
            rw [e0]
            exact ⟨congrArg (fun z => some (Value.int z)) (by unfold own_pos; rw [if_neg hc2, if_pos hc8, if_neg hc16, if_neg hc38, if_neg hc46]), N0, rfl⟩
    · skip
      refine own_icmpNo X0 hx (hb hby d2_8) (flt hc8).1 (rfl : 8 + 3 = 11) ?_
      refine own_iconst X0 hx (hb hby d2_11) (0 : Int32) (by first | rfl | decide) (rfl : 11 + 1 = 12) ?_
      refine own_retN (t := .boolean) X0 hx hlk hret (by simp) (hb hby d2_12) (z' := (0 : Int32)) (by decide) (by decide) (by decide) ?_
      show Q2 Z qn pk qp h0 n0 (some (.int (0 : Int32))) s₁.heap _
      rw [e0]
      exact ⟨congrArg (fun z => some (Value.int z)) (by unfold own_pos; rw [if_neg hc2, if_neg hc8]), N0, rfl⟩
theorem own_pd__JIJZ_Z : parseMethodDescriptor "(JIJZ)Z" = some ⟨[.long, .int, .long, .boolean], some .boolean⟩ := by decide +kernel
theorem own_pd__JIJ_Z : parseMethodDescriptor "(JIJ)Z" = some ⟨[.long, .int, .long], some .boolean⟩ := by decide +kernel
theorem ef_0 (m : MethodId) (qc : Int64) (pl : Int32) (qp : Int64) (ps : Int32) : entryFrame m #[(.long qc), (.int pl), (.long qp), (.int ps)] maxLocals = mkF m 0 #[.val (.long qc), .second, .val (.int pl), .val (.long qp), .second, .val (.int ps), .unset, .unset, .unset, .unset, .unset, .unset, .unset, .unset, .unset, .unset, .unset] [] := by first | (simp [entryFrame, mkF, argsToLocals, Value.category, maxLocals]; done) | rfl
def Q0 (Z : State) (qc : Int64) (pl : Int32) (qp : Int64) (ps : Int32)  (h0 : Heap) (n0 : Nat) (v : Option Value) (h : Heap) (L : List Loc) : Prop := v = some (.int 1) ∧ Fr n0 L
set_option maxRecDepth 65536 in
set_option maxHeartbeats 40000000 in
theorem rm0 (l : Launch) (Z : State) (a0 : Array Value) (hw : ∀ d ∈ tables_1, d.before a0 Z = true) (ws : List Jvm.Cond) (qc : Int64) (pl : Int32) (qp : Int64) (ps : Int32)  (h0 : Heap) (n0 : Nat) (Z0 : n0 ≤ h0.size)  :
    MetFree l x (head1 (Jvm.Cond.code x code maxLocals ret :: ws) room_1) (fun avs U => avs = #[(.long qc), (.int pl), (.long qp), (.int ps)] ∧ Z.Warmed39 U.vm ∧ U.heap = h0) (fun _ _ _ _ _ => True) (fun _ U o U' => ∃ v L, o = .returned v ∧ Q0 Z qc pl qp ps h0 n0 v U'.heap L ∧ FrameEnd U o U' L room_1.cells room_1.slots) := by
  refine MetFree.of_bodySF (plainFor_of_name own_pn_com_example_sumtide_sumtide_HaarBasisIsPositionPinLaw) hisR ?_
  intro p e s m args below meth c s₁ Bd hml0 hP hK
  obtain ⟨rfl, hZ, hh⟩ := hP
  have hx := Bd.exec
  have hby := Bd.bytes
  have hml : c.maxLocals = 17 := hml0
  have hown : s.vm.findClass "com/example/sumtide/sumtide/HaarBasisIsPositionPinLaw" = some m.cls := findClass_of_methodNamed Bd.named
  have hnm := (name_of_methodNamed Bd.named Bd.method).1
  have hlk := Bd.notSynchronized
  have hret := Bd.returns
  have X0 : Stand p l e room_1 s m #[(.long qc), (.int pl), (.long qp), (.int ps)] below meth c s₁ [] 0 0 := Stand.of_body Bd
  have e0 : s₁.heap = h0 := by rw [← hh, Bd.state]; rfl
  have N0 := Fr.nil n0
  show own_W p e (FrameEnd s) below room_1.cells room_1.slots (Q0 Z qc pl qp ps h0 n0) s₁ (entryFrame m #[(.long qc), (.int pl), (.long qp), (.int ps)] maxLocals)
  rw [ef_0]
  refine own_lloadN X0 hx (hb hby at_0) (v := qc) rfl (rfl : 0 + 1 = 1) ?_
  refine own_ldc2Long X0 hx hown (mvT hZ (hw _ (List.mem_of_getElem? (i := 0) rfl))) (hb hby at_1) (rfl : 1 + 3 = 4) ?_
  refine own_land X0 hx (hb hby at_4) (rfl : 4 + 1 = 5) ?_
  refine own_lstore X0 hx (hb hby at_5) (l' := #[.val (.long qc), .second, .val (.int pl), .val (.long qp), .second, .val (.int ps), .val (.long (qc &&& (9223372036854775807 : Int64))), .second, .unset, .unset, .unset, .unset, .unset, .unset, .unset, .unset, .unset]) rfl (rfl : 5 + 2 = 7) ?_
  obtain ⟨nn, hnn⟩ : ∃ z : Int64, z = (qc &&& (9223372036854775807 : Int64)) := ⟨_, rfl⟩
  rw [← hnn]
  show own_W p e (FrameEnd s) below room_1.cells room_1.slots (Q0 Z qc pl qp ps h0 n0) s₁ (mkF m 7 #[.val (.long qc), .second, .val (.int pl), .val (.long qp), .second, .val (.int ps), .val (.long nn), .second, .unset, .unset, .unset, .unset, .unset, .unset, .unset, .unset, .unset] [])
  refine own_iload X0 hx (hb hby at_7) (v := ps) rfl (rfl : 7 + 2 = 9) ?_
  refine own_iconst X0 hx (hb hby at_9) (2 : Int32) (by first | rfl | decide) (rfl : 9 + 1 = 10) ?_
  refine own_ishr X0 hx (hb hby at_10) (rfl : 10 + 1 = 11) ?_
  refine own_iconst X0 hx (hb hby at_11) (1 : Int32) (by first | rfl | decide) (rfl : 11 + 1 = 12) ?_
  refine own_iand X0 hx (hb hby at_12) (rfl : 12 + 1 = 13) ?_
  have J33 : ∀ (lev : Int32), own_W p e (FrameEnd s) below room_1.cells room_1.slots (Q0 Z qc pl qp ps h0 n0) s₁ (mkF m 33 #[.val (.long qc), .second, .val (.int pl), .val (.long qp), .second, .val (.int ps), .val (.long nn), .second, .val (.int lev), .unset, .unset, .unset, .unset, .unset, .unset, .unset, .unset] []) := by
    intro lev 
    refine own_iload X0 hx (hb hby at_33) (v := lev) rfl (rfl : 33 + 2 = 35) ?_
    refine own_iconst X0 hx (hb hby at_35) (1 : Int32) (by first | rfl | decide) (rfl : 35 + 1 = 36) ?_
    have J51 : ∀ (rg : Int32), ∀ (hrg : rg = own_rg lev), own_W p e (FrameEnd s) below room_1.cells room_1.slots (Q0 Z qc pl qp ps h0 n0) s₁ (mkF m 51 #[.val (.long qc), .second, .val (.int pl), .val (.long qp), .second, .val (.int ps), .val (.long nn), .second, .val (.int lev), .unset, .unset, .unset, .unset, .unset, .unset, .unset, .unset] [(.int rg)]) := by
      intro rg hrg
      refine own_istore X0 hx (hb hby at_51) (l' := #[.val (.long qc), .second, .val (.int pl), .val (.long qp), .second, .val (.int ps), .val (.long nn), .second, .val (.int lev), .val (.int rg), .unset, .unset, .unset, .unset, .unset, .unset, .unset]) rfl (rfl : 51 + 2 = 53) ?_
      refine own_lconst X0 hx (hb hby at_53) (0 : Int64) (by first | rfl | decide) (rfl : 53 + 1 = 54) ?_
      refine own_lstore X0 hx (hb hby at_54) (l' := #[.val (.long qc), .second, .val (.int pl), .val (.long qp), .second, .val (.int ps), .val (.long nn), .second, .val (.int lev), .val (.int rg), .val (.long (0 : Int64)), .second, .unset, .unset, .unset, .unset, .unset]) rfl (rfl : 54 + 2 = 56) ?_
      refine own_iload X0 hx (hb hby at_56) (v := rg) rfl (rfl : 56 + 2 = 58) ?_
      have J70 : ∀ (near : Int64), own_W p e (FrameEnd s) below room_1.cells room_1.slots (Q0 Z qc pl qp ps h0 n0) s₁ (mkF m 70 #[.val (.long qc), .second, .val (.int pl), .val (.long qp), .second, .val (.int ps), .val (.long nn), .second, .val (.int lev), .val (.int rg), .val (.long near), .second, .unset, .unset, .unset, .unset, .unset] []) := by
        intro near 
        refine own_iload X0 hx (hb hby at_70) (v := ps) rfl (rfl : 70 + 2 = 72) ?_
        refine own_iconst X0 hx (hb hby at_72) (3 : Int32) (by first | rfl | decide) (rfl : 72 + 1 = 73) ?_
        refine own_iand X0 hx (hb hby at_73) (rfl : 73 + 1 = 74) ?_
        refine own_istore X0 hx (hb hby at_74) (l' := #[.val (.long qc), .second, .val (.int pl), .val (.long qp), .second, .val (.int ps), .val (.long nn), .second, .val (.int lev), .val (.int rg), .val (.long near), .second, .val (.int (ps &&& (3 : Int32))), .unset, .unset, .unset, .unset]) rfl (rfl : 74 + 2 = 76) ?_
        refine own_iload X0 hx (hb hby at_76) (v := (ps &&& (3 : Int32))) rfl (rfl : 76 + 2 = 78) ?_
        have J125 : ∀ (plc : Int64), own_W p e (FrameEnd s) below room_1.cells room_1.slots (Q0 Z qc pl qp ps h0 n0) s₁ (mkF m 125 #[.val (.long qc), .second, .val (.int pl), .val (.long qp), .second, .val (.int ps), .val (.long nn), .second, .val (.int lev), .val (.int rg), .val (.long near), .second, .val (.int (ps &&& (3 : Int32))), .val (.long plc), .second, .unset, .unset] []) := by
          intro plc 
          refine own_lload X0 hx (hb hby at_125) (v := nn) rfl (rfl : 125 + 2 = 127) ?_
          refine own_iload X0 hx (hb hby at_127) (v := lev) rfl (rfl : 127 + 2 = 129) ?_
          refine own_lload X0 hx (hb hby at_129) (v := plc) rfl (rfl : 129 + 2 = 131) ?_
          refine own_iload X0 hx (hb hby at_131) (v := rg) rfl (rfl : 131 + 2 = 133) ?_
          obtain ⟨_, _, ⟨T1, L1, k1, n1⟩, -, X1, ⟨Lc1, hQ1, l1, y1, z1⟩, st1⟩ := Jvm.LawKit.callS X0 hx (y := (⟨"com/example/sumtide/sumtide/HaarBasisIsPositionPinLaw", "reference", "(JIJZ)Z"⟩ : MethodName)) hown (mvT hZ (hw _ (List.mem_of_getElem? (i := 2) rfl))) (mvT hZ (hw _ (List.mem_of_getElem? (i := 3) rfl))) (mvT hZ (hw _ (List.mem_of_getElem? (i := 4) rfl))) (mvT hZ (hw _ (List.mem_of_getElem? (i := 5) rfl))) (by decide) (backOf (W := 0) (rm1 l Z a0 hw [] nn lev plc rg  h0 n0 Z0 ) hZ (hw _ (List.mem_of_getElem? (i := 5) rfl)) (hw _ (List.mem_of_getElem? (i := 4) rfl)) (by decide) (by decide)) (g := (mkF m 133 #[.val (.long qc), .second, .val (.int pl), .val (.long qp), .second, .val (.int ps), .val (.long nn), .second, .val (.int lev), .val (.int rg), .val (.long near), .second, .val (.int (ps &&& (3 : Int32))), .val (.long plc), .second, .unset, .unset] [(.int rg), (.long plc), (.int lev), (.long nn)])) rfl (by rw [hml]; rfl) (argsL := [(.long nn), (.int lev), (.long plc), (.int rg)]) (rest := []) (lenOf own_pd__JIJZ_Z rfl) rfl (by show 2 * 0 + _ ≤ _; exact Nat.le_of_eq rfl) (hb hby at_133) (fun _ _ => ⟨rfl, e0, (by decide : 0 + 0 ≤ _), (by decide : 0 + 0 ≤ _)⟩)
          dsimp only [Pt.U, Pt.locs, Pt.cells, Pt.slots] at X1 l1 y1 z1 st1 hQ1
          subst l1 y1 z1
          obtain ⟨rfl, N1q, e1⟩ := hQ1
          have N1 := Fr.app N0 N1q
          refine own_W.step st1 ?_
          show own_W p e (FrameEnd s) below room_1.cells room_1.slots (Q0 Z qc pl qp ps h0 n0) T1 (mkF m 136 #[.val (.long qc), .second, .val (.int pl), .val (.long qp), .second, .val (.int ps), .val (.long nn), .second, .val (.int lev), .val (.int rg), .val (.long near), .second, .val (.int (ps &&& (3 : Int32))), .val (.long plc), .second, .unset, .unset] [(.int (own_ref nn lev plc rg))])
          refine own_istore X1 hx (hb hby at_136) (l' := #[.val (.long qc), .second, .val (.int pl), .val (.long qp), .second, .val (.int ps), .val (.long nn), .second, .val (.int lev), .val (.int rg), .val (.long near), .second, .val (.int (ps &&& (3 : Int32))), .val (.long plc), .second, .val (.int (own_ref nn lev plc rg)), .unset]) rfl (rfl : 136 + 2 = 138) ?_
          refine own_lload X1 hx (hb hby at_138) (v := nn) rfl (rfl : 138 + 2 = 140) ?_
          refine own_iload X1 hx (hb hby at_140) (v := lev) rfl (rfl : 140 + 2 = 142) ?_
          refine own_lload X1 hx (hb hby at_142) (v := plc) rfl (rfl : 142 + 2 = 144) ?_
          obtain ⟨_, _, ⟨T2, L2, k2, n2⟩, -, X2, ⟨Lc2, hQ2, l2, y2, z2⟩, st2⟩ := Jvm.LawKit.callS X1 hx (y := (⟨"com/example/sumtide/sumtide/HaarBasis", "isPosition", "(JIJ)Z"⟩ : MethodName)) hown (mvT hZ (hw _ (List.mem_of_getElem? (i := 6) rfl))) (mvT hZ (hw _ (List.mem_of_getElem? (i := 7) rfl))) (mvT hZ (hw _ (List.mem_of_getElem? (i := 8) rfl))) (mvT hZ (hw _ (List.mem_of_getElem? (i := 9) rfl))) (by decide) (backOf (W := 0) (rm2 l Z a0 hw [] nn lev plc  h0 n0 Z0 ) hZ (hw _ (List.mem_of_getElem? (i := 9) rfl)) (hw _ (List.mem_of_getElem? (i := 8) rfl)) (by decide) (by decide)) (g := (mkF m 144 #[.val (.long qc), .second, .val (.int pl), .val (.long qp), .second, .val (.int ps), .val (.long nn), .second, .val (.int lev), .val (.int rg), .val (.long near), .second, .val (.int (ps &&& (3 : Int32))), .val (.long plc), .second, .val (.int (own_ref nn lev plc rg)), .unset] [(.long plc), (.int lev), (.long nn)])) rfl (by rw [hml]; rfl) (argsL := [(.long nn), (.int lev), (.long plc)]) (rest := []) (lenOf own_pd__JIJ_Z rfl) rfl (by show 2 * 0 + _ ≤ _; exact Nat.le_of_eq rfl) (hb hby at_144) (fun _ _ => ⟨rfl, e1, (by decide : 0 + 0 ≤ _), (by decide : 0 + 0 ≤ _)⟩)
          dsimp only [Pt.U, Pt.locs, Pt.cells, Pt.slots] at X2 l2 y2 z2 st2 hQ2
          subst l2 y2 z2
          obtain ⟨rfl, N2q, e2⟩ := hQ2
          have N2 := Fr.app N1 N2q
          refine own_W.step st2 ?_
          show own_W p e (FrameEnd s) below room_1.cells room_1.slots (Q0 Z qc pl qp ps h0 n0) T2 (mkF m 147 #[.val (.long qc), .second, .val (.int pl), .val (.long qp), .second, .val (.int ps), .val (.long nn), .second, .val (.int lev), .val (.int rg), .val (.long near), .second, .val (.int (ps &&& (3 : Int32))), .val (.long plc), .second, .val (.int (own_ref nn lev plc rg)), .unset] [(.int (own_pos nn lev plc))])
          refine own_istore X2 hx (hb hby at_147) (l' := #[.val (.long qc), .second, .val (.int pl), .val (.long qp), .second, .val (.int ps), .val (.long nn), .second, .val (.int lev), .val (.int rg), .val (.long near), .second, .val (.int (ps &&& (3 : Int32))), .val (.long plc), .second, .val (.int (own_ref nn lev plc rg)), .val (.int (own_pos nn lev plc))]) rfl (rfl : 147 + 2 = 149) ?_
          refine own_iload X2 hx (hb hby at_149) (v := (own_pos nn lev plc)) rfl (rfl : 149 + 2 = 151) ?_
          refine own_iload X2 hx (hb hby at_151) (v := (own_ref nn lev plc rg)) rfl (rfl : 151 + 2 = 153) ?_
          have hc153 : (own_pos nn lev plc) = (own_ref nn lev plc rg) := own_agree nn lev plc rg (hnn ▸ own_n qc) hrg
          refine own_icmpNo X2 hx (hb hby at_153) (teq hc153).2 (rfl : 153 + 3 = 156) ?_
          refine own_iconst X2 hx (hb hby at_156) (1 : Int32) (by first | rfl | decide) (rfl : 156 + 1 = 157) ?_
          refine own_goto X2 hx (hb hby at_157) (pc' := 161) (by decide) (by decide) ?_
          refine own_retN (t := .boolean) X2 hx hlk hret (by simp) (hb hby at_161) (z' := (1 : Int32)) (by decide) (by decide) (by decide) ?_
          show Q0 Z qc pl qp ps h0 n0 (some (.int (1 : Int32))) T2.heap _
          rw [e2]
          exact ⟨rfl, N2⟩
        by_cases hc78 : (ps &&& (3 : Int32)) = (0 : Int32)
        · skip
          refine own_ifNo X0 hx (hb hby at_78) ((if0 _ _).trans (teq hc78).2) (rfl : 78 + 3 = 81) ?_
          refine own_lloadN X0 hx (hb hby at_81) (v := qp) rfl (rfl : 81 + 1 = 82) ?_
          refine own_lstore X0 hx (hb hby at_82) (l' := #[.val (.long qc), .second, .val (.int pl), .val (.long qp), .second, .val (.int ps), .val (.long nn), .second, .val (.int lev), .val (.int rg), .val (.long near), .second, .val (.int (ps &&& (3 : Int32))), .val (.long qp), .second, .unset, .unset]) rfl (rfl : 82 + 2 = 84) ?_
          refine own_goto X0 hx (hb hby at_84) (pc' := 125) (by decide) (by decide) ?_
          exact J125 (qp)   
        · skip
          refine own_ifYes X0 hx (hb hby at_78) ((if0 _ _).trans (feq hc78).2) (pc' := 87) (by decide) (by decide) ?_
          refine own_iload X0 hx (hb hby at_87) (v := (ps &&& (3 : Int32))) rfl (rfl : 87 + 2 = 89) ?_
          refine own_iconst X0 hx (hb hby at_89) (1 : Int32) (by first | rfl | decide) (rfl : 89 + 1 = 90) ?_
          by_cases hc90 : (ps &&& (3 : Int32)) = (1 : Int32)
          · skip
            refine own_icmpNo X0 hx (hb hby at_90) (teq hc90).2 (rfl : 90 + 3 = 93) ?_
            refine own_lconst X0 hx (hb hby at_93) (0 : Int64) (by first | rfl | decide) (rfl : 93 + 1 = 94) ?_
            refine own_lstore X0 hx (hb hby at_94) (l' := #[.val (.long qc), .second, .val (.int pl), .val (.long qp), .second, .val (.int ps), .val (.long nn), .second, .val (.int lev), .val (.int rg), .val (.long near), .second, .val (.int (ps &&& (3 : Int32))), .val (.long (0 : Int64)), .second, .unset, .unset]) rfl (rfl : 94 + 2 = 96) ?_
            refine own_goto X0 hx (hb hby at_96) (pc' := 125) (by decide) (by decide) ?_
            exact J125 ((0 : Int64))   
          · skip
            refine own_icmpYes X0 hx (hb hby at_90) (feq hc90).2 (pc' := 99) (by decide) (by decide) ?_
            refine own_iload X0 hx (hb hby at_99) (v := (ps &&& (3 : Int32))) rfl (rfl : 99 + 2 = 101) ?_
            refine own_iconst X0 hx (hb hby at_101) (2 : Int32) (by first | rfl | decide) (rfl : 101 + 1 = 102) ?_
            by_cases hc102 : (ps &&& (3 : Int32)) = (2 : Int32)
            · skip
              refine own_icmpNo X0 hx (hb hby at_102) (teq hc102).2 (rfl : 102 + 3 = 105) ?_
              refine own_lload X0 hx (hb hby at_105) (v := near) rfl (rfl : 105 + 2 = 107) ?_
              refine own_lloadN X0 hx (hb hby at_107) (v := qp) rfl (rfl : 107 + 1 = 108) ?_
              refine own_ldc2Long X0 hx hown (mvT hZ (hw _ (List.mem_of_getElem? (i := 11) rfl))) (hb hby at_108) (rfl : 108 + 3 = 111) ?_
              refine own_lrem X0 hx (hb hby at_111) (by decide) (rfl : 111 + 1 = 112) ?_
              refine own_ladd X0 hx (hb hby at_112) (rfl : 112 + 1 = 113) ?_
              refine own_lstore X0 hx (hb hby at_113) (l' := #[.val (.long qc), .second, .val (.int pl), .val (.long qp), .second, .val (.int ps), .val (.long nn), .second, .val (.int lev), .val (.int rg), .val (.long near), .second, .val (.int (ps &&& (3 : Int32))), .val (.long (near + (qp % (3 : Int64)))), .second, .unset, .unset]) rfl (rfl : 113 + 2 = 115) ?_
              refine own_goto X0 hx (hb hby at_115) (pc' := 125) (by decide) (by decide) ?_
              exact J125 ((near + (qp % (3 : Int64))))   
            · skip
              refine own_icmpYes X0 hx (hb hby at_102) (feq hc102).2 (pc' := 118) (by decide) (by decide) ?_
              refine own_lloadN X0 hx (hb hby at_118) (v := qp) rfl (rfl : 118 + 1 = 119) ?_
              refine own_ldc2Long X0 hx hown (mvT hZ (hw _ (List.mem_of_getElem? (i := 10) rfl))) (hb hby at_119) (rfl : 119 + 3 = 122) ?_
              refine own_land X0 hx (hb hby at_122) (rfl : 122 + 1 = 123) ?_
              refine own_lstore X0 hx (hb hby at_123) (l' := #[.val (.long qc), .second, .val (.int pl), .val (.long qp), .second, .val (.int ps), .val (.long nn), .second, .val (.int lev), .val (.int rg), .val (.long near), .second, .val (.int (ps &&& (3 : Int32))), .val (.long (qp &&& (7 : Int64))), .second, .unset, .unset]) rfl (rfl : 123 + 2 = 125) ?_
              exact J125 ((qp &&& (7 : Int64)))   
      by_cases hc58 : rg = (0 : Int32)
      · skip
        refine own_ifYes X0 hx (hb hby at_58) ((if0 _ _).trans (teq hc58).1) (pc' := 70) (by decide) (by decide) ?_
        exact J70 ((0 : Int64))   
      · skip
        refine own_ifNo X0 hx (hb hby at_58) ((if0 _ _).trans (feq hc58).1) (rfl : 58 + 3 = 61) ?_
        refine own_lload X0 hx (hb hby at_61) (v := nn) rfl (rfl : 61 + 2 = 63) ?_
        refine own_lconst X0 hx (hb hby at_63) (1 : Int64) (by first | rfl | decide) (rfl : 63 + 1 = 64) ?_
        refine own_iload X0 hx (hb hby at_64) (v := lev) rfl (rfl : 64 + 2 = 66) ?_
        refine own_lshl X0 hx (hb hby at_66) (rfl : 66 + 1 = 67) ?_
        refine own_ldiv X0 hx (hb hby at_67) (own_pow_ne lev) (rfl : 67 + 1 = 68) ?_
        refine own_lstore X0 hx (hb hby at_68) (l' := #[.val (.long qc), .second, .val (.int pl), .val (.long qp), .second, .val (.int ps), .val (.long nn), .second, .val (.int lev), .val (.int rg), .val (.long (nn / ((1 : Int64) <<< (lev &&& 0x3f).toInt64))), .second, .unset, .unset, .unset, .unset, .unset]) rfl (rfl : 68 + 2 = 70) ?_
        exact J70 ((nn / ((1 : Int64) <<< (lev &&& 0x3f).toInt64)))   
    by_cases hc36 : lev < (1 : Int32)
    · skip
      refine own_icmpYes X0 hx (hb hby at_36) (tlt hc36).1 (pc' := 50) (by decide) (by decide) ?_
      refine own_iconst X0 hx (hb hby at_50) (0 : Int32) (by first | rfl | decide) (rfl : 50 + 1 = 51) ?_
      exact J51 ((0 : Int32))   (by simp only [own_rg, if_pos hc36])
    · skip
      refine own_icmpNo X0 hx (hb hby at_36) (flt hc36).1 (rfl : 36 + 3 = 39) ?_
      refine own_iload X0 hx (hb hby at_39) (v := lev) rfl (rfl : 39 + 2 = 41) ?_
      refine own_bipush X0 hx (hb hby at_41) (62 : Int32) (by first | rfl | decide) (rfl : 41 + 2 = 43) ?_
      by_cases hc43 : (62 : Int32) < lev
      · skip
        refine own_icmpYes X0 hx (hb hby at_43) (tlt hc43).2.2.1 (pc' := 50) (by decide) (by decide) ?_
        refine own_iconst X0 hx (hb hby at_50) (0 : Int32) (by first | rfl | decide) (rfl : 50 + 1 = 51) ?_
        exact J51 ((0 : Int32))   (by simp only [own_rg, if_neg hc36, if_pos hc43])
      · skip
        refine own_icmpNo X0 hx (hb hby at_43) (flt hc43).2.2.1 (rfl : 43 + 3 = 46) ?_
        refine own_iconst X0 hx (hb hby at_46) (1 : Int32) (by first | rfl | decide) (rfl : 46 + 1 = 47) ?_
        refine own_goto X0 hx (hb hby at_47) (pc' := 51) (by decide) (by decide) ?_
        exact J51 ((1 : Int32))   (by simp only [own_rg, if_neg hc36, if_neg hc43])
  by_cases hc13 : ((ps >>> ((2 : Int32) &&& 31)) &&& (1 : Int32)) = (0 : Int32)
  · skip
    refine own_ifNo X0 hx (hb hby at_13) ((if0 _ _).trans (teq hc13).2) (rfl : 13 + 3 = 16) ?_
    refine own_iconst X0 hx (hb hby at_16) (1 : Int32) (by first | rfl | decide) (rfl : 16 + 1 = 17) ?_
    refine own_iloadN X0 hx (hb hby at_17) (v := pl) rfl (rfl : 17 + 1 = 18) ?_
    refine own_ldcInt X0 hx hown (mvT hZ (hw _ (List.mem_of_getElem? (i := 1) rfl))) (hb hby at_18) (rfl : 18 + 2 = 20) ?_
    refine own_iand X0 hx (hb hby at_20) (rfl : 20 + 1 = 21) ?_
    refine own_bipush X0 hx (hb hby at_21) (62 : Int32) (by first | rfl | decide) (rfl : 21 + 2 = 23) ?_
    refine own_irem X0 hx (hb hby at_23) (by decide) (rfl : 23 + 1 = 24) ?_
    refine own_iadd X0 hx (hb hby at_24) (rfl : 24 + 1 = 25) ?_
    refine own_istore X0 hx (hb hby at_25) (l' := #[.val (.long qc), .second, .val (.int pl), .val (.long qp), .second, .val (.int ps), .val (.long nn), .second, .val (.int ((1 : Int32) + ((pl &&& (2147483647 : Int32)) % (62 : Int32)))), .unset, .unset, .unset, .unset, .unset, .unset, .unset, .unset]) rfl (rfl : 25 + 2 = 27) ?_
    refine own_goto X0 hx (hb hby at_27) (pc' := 33) (by decide) (by decide) ?_
    exact J33 (((1 : Int32) + ((pl &&& (2147483647 : Int32)) % (62 : Int32))))   
  · skip
    refine own_ifYes X0 hx (hb hby at_13) ((if0 _ _).trans (feq hc13).2) (pc' := 30) (by decide) (by decide) ?_
    refine own_iloadN X0 hx (hb hby at_30) (v := pl) rfl (rfl : 30 + 1 = 31) ?_
    refine own_istore X0 hx (hb hby at_31) (l' := #[.val (.long qc), .second, .val (.int pl), .val (.long qp), .second, .val (.int ps), .val (.long nn), .second, .val (.int pl), .unset, .unset, .unset, .unset, .unset, .unset, .unset, .unset]) rfl (rfl : 31 + 2 = 33) ?_
    exact J33 (pl)   
set_option maxRecDepth 65536 in
set_option maxHeartbeats 40000000 in
theorem comes_1 {Post : Tables → Env → Array Value → State → Outcome → State → Prop} (hpost : ∀ tb e args s v u, (limb_1_1.after args s (.returned v) u = true ∧ limb_1_2.after args s (.returned v) u = true ∧ True) → FrameEnd s (.returned v) u (Jvm.fieldLocs frame_1_writes args s ++ Jvm.arrayLocs frame_1_arrays args s ++ Jvm.staticLocs frame_1_statics s) 0 0 → Post tb e args s (.returned v) u) :
    ArmFor flags0 classFile x code maxLocals ret World_1 tables_1 room_1 Calls_1 rest_1 Pre_1 Post := by
  intro l hfl _ _ p e ha hc hk s m args below hf hA hF happ hP
  obtain ⟨hcalls, hrest, hpre⟩ := hP
  obtain ⟨-, -, -, hnamed, -, -, -, hat⟩ := (Spec.applies_iff hf).mp happ
  obtain ⟨hg, hn⟩ := and_e (Cond.before_iff.mp (show (Jvm.Cond.and given_1 narrow_1).before args s = true from hpre))
  obtain ⟨hg0, hr0⟩ := and_e hg
  obtain ⟨hg1, hr1⟩ := and_e hr0
  obtain ⟨hg2, hr2⟩ := and_e hr1
  obtain ⟨hg3, hr3⟩ := and_e hr2
  obtain ⟨w0, w1, w2, w3, rfl⟩ : ∃ w0 w1 w2 w3 : Value, args = #[w0, w1, w2, w3] := by
    have hs : args.size = 4 := by simpa [Cond.value, given_1] using hg0
    obtain ⟨L⟩ := args
    match L, hs with
    | [w0, w1, w2, w3], _ => exact ⟨w0, w1, w2, w3, rfl⟩
  have hw := fun d (hd : d ∈ tables_1) => atoms_spec (ws := Jvm.Cond.code x code maxLocals ret :: tables_1) hat d (List.mem_cons_of_mem _ hd)
  obtain ⟨i0, ei0⟩ := isL_v hg1
  obtain rfl : w0 = (.long i0) := Option.some.inj ei0
  obtain ⟨i1, ei1⟩ := is_v hg2
  obtain rfl : w1 = (.int i1) := Option.some.inj ei1
  obtain ⟨i2, ei2⟩ := isL_v hg3
  obtain rfl : w2 = (.long i2) := Option.some.inj ei2
  obtain ⟨i3, ei3⟩ := is_v hr3
  obtain rfl : w3 = (.int i3) := Option.some.inj ei3
  obtain ⟨n, o, h1, h2, h3, _, L, rfl, ⟨rfl, N⟩, hq⟩ := rm0 l s _ hw tables_1 i0 i1 i2 i3 s.heap s.heap.size (Nat.le_refl _) p e ha hc hk s m _ below hf ((Spec.applies_iff_loose hf).mp happ).1 ⟨rfl, State.Warmed39.refl s, rfl⟩ trivial
  refine ⟨n, _, h1, h2, h3, hpost _ _ _ _ _ _ ⟨Cond.after_iff.mpr rfl, Cond.after_iff.mpr (eq_i res_at (Term.int_eval (1)) rfl), trivial⟩ ⟨hq.1, hq.2.1, (hq.2.2.sift fun y hy => Or.inr (N y hy)).mono (by decide) (by decide)⟩⟩
theorem main_1_1 : Claimed_1_1 := comes_1 fun _ _ _ _ _ _ h hF => ⟨h.1, hF⟩
theorem main_1_2 : Claimed_1_2 := comes_1 fun _ _ _ _ _ _ h hF => ⟨h.2.1, hF⟩
end Jvm.Pilot.@@N@@
namespace Jvm.Pilot.@@N@@
open Jvm Jvm.ClassFile Sem Op Lib Jvm.Free Jvm.Stand Jvm.Pilot.@@N@@.Jvm.D
/-! MADE BY PROGRAM (witnessworld.py) out of the Statement's table words and the real class files: 9 classes; the members and pool entries that the words name. The judged class is class 1, her method 1. -/
namespace start1
open Jvm.ClassFile
def u (s : String) : CpInfo := .utf8 (stringToUtf16 s)
/-- a pool by its gaps: so many unusable entries, then the entry; so many at the end -/
def gap : Nat → List CpInfo → List CpInfo
  | 0, r => r
  | n + 1, r => .unusable :: gap n r
def poolList (es : List (Nat × CpInfo)) (last : Nat) : List CpInfo := es.foldr (fun e r => gap e.1 (e.2 :: r)) (gap last [])
def pool (es : List (Nat × CpInfo)) (last : Nat) : Array CpInfo := ⟨poolList es last⟩
def fileOf (pool : Array CpInfo) (this : Nat) (attrs : Array Attribute := #[]) (ms : Array MethodInfo := #[]) (fl : Nat := 33) (sup : Nat := 0) (ifs : Array Nat := #[]) (fds : Array FieldInfo := #[]) : ClassFile where
  minorVersion := 0
  majorVersion := 65
  constantPool := pool
  accessFlags := fl
  thisClass := this
  superClass := sup
  interfaces := ifs
  fields := fds
  methods := ms
  attributes := attrs
def plain (name : String) (sup : Option ClassId) : Class where
  name := name
  kind := .ordinary
  loader := none
  accessFlags := 33
  super := sup
  interfaces := #[]
  cf := none
  fields := #[]
  methods := #[]
  instanceTypes := #[]
  staticTypes := #[]
  resolved := #[]
  callSites := []
  init := .initialized
  statics := none
  mirror := none

def pool0 : Array CpInfo := pool [(5, u "<init>"), (0, u "()V"), (1, .class_ 10), (1, u "java/lang/Object")] 113

def k0m0 : Method := { name := "<init>", desc := "()V", sig := { parameters := [], returnType := none }, accessFlags := 1, code := none }
/-- java/lang/Object -/
def k0 : Class := { plain "java/lang/Object" none with
  accessFlags := 33
  interfaces := #[]
  cf := some (fileOf pool0 8 #[] #[{ accessFlags := 1, nameIndex := 5, descriptorIndex := 6, attributes := #[] }] 33 0 #[] #[])
  fields := #[]
  methods := #[k0m0]
  instanceTypes := #[]
  staticTypes := #[]
  resolved := Array.replicate 124 none
  statics := none }

def pool1 : Array CpInfo := pool [(2, .class_ 4), (1, u "java/lang/Object"), (0, u "<init>"), (0, u "()V"), (2, .long 9223372036854775807), (1, .integer 2147483647), (0, .long 3), (1, .long 7), (1, .methodref 17 18), (0, .class_ 19), (0, .nameAndType 20 21), (0, u "com/example/sumtide/sumtide/HaarBasisIsPositionPinLaw"), (0, u "reference"), (0, u "(JIJZ)Z"), (0, .methodref 23 24), (0, .class_ 25), (0, .nameAndType 26 27), (0, u "com/example/sumtide/sumtide/HaarBasis"), (0, u "isPosition"), (0, u "(JIJ)Z"), (0, .long 2), (3, u "law"), (0, u "(JIJI)Z")] 3

def k1m0 : Method := { name := "<init>", desc := "()V", sig := { parameters := [], returnType := none }, accessFlags := 2, code := none }
def k1c1 : Code := { maxStack := 6, maxLocals := 17, code := code, exceptionTable := #[], attributes := #[] }
def k1m1 : Method := { name := "law", desc := "(JIJI)Z", sig := { parameters := [.long, .int, .long, .int], returnType := some .boolean }, accessFlags := 9, code := some k1c1 }
def k1c2 : Code := { maxStack := 6, maxLocals := 14, code := method_3_code, exceptionTable := #[], attributes := #[] }
def k1m2 : Method := { name := "reference", desc := "(JIJZ)Z", sig := { parameters := [.long, .int, .long, .boolean], returnType := some .boolean }, accessFlags := 10, code := some k1c2 }
/-- com/example/sumtide/sumtide/HaarBasisIsPositionPinLaw -/
def k1 : Class := { plain "com/example/sumtide/sumtide/HaarBasisIsPositionPinLaw" (some 0) with
  accessFlags := 49
  interfaces := #[]
  cf := some (fileOf pool1 17 #[] #[{ accessFlags := 2, nameIndex := 5, descriptorIndex := 6, attributes := #[] }, { accessFlags := 9, nameIndex := 32, descriptorIndex := 33, attributes := #[] }, { accessFlags := 10, nameIndex := 20, descriptorIndex := 21, attributes := #[] }] 49 2 #[] #[])
  fields := #[]
  methods := #[k1m0, k1m1, k1m2]
  instanceTypes := #[]
  staticTypes := #[]
  resolved := Array.replicate 37 none
  statics := none }

def pool2 : Array CpInfo := pool [(6, .class_ 8), (1, u "java/lang/Object"), (0, u "<init>"), (0, u "()V"), (0, .class_ 12), (0, u "com/example/sumtide/sumtide/HaarBasis"), (55, .class_ 69), (0, u "com/example/sumtide/sumtide/HaarBasis$Term"), (87, u "MAX_CELLS"), (0, u "J"), (1, u "MAX_WINDOWED_CELLS"), (0, u "ROOT"), (2, u "WAITING"), (0, u "I"), (1, u "POSITIONS_PER_COEFFICIENT"), (12, u "isPosition"), (0, u "(JIJ)Z")] 17

def k2m0 : Method := { name := "<init>", desc := "()V", sig := { parameters := [], returnType := none }, accessFlags := 2, code := none }
def k2c1 : Code := { maxStack := 5, maxLocals := 5, code := prog_12_method_11_code, exceptionTable := #[], attributes := #[] }
def k2m1 : Method := { name := "isPosition", desc := "(JIJ)Z", sig := { parameters := [.long, .int, .long], returnType := some .boolean }, accessFlags := 8, code := some k2c1 }
/-- com/example/sumtide/sumtide/HaarBasis -/
def k2 : Class := { plain "com/example/sumtide/sumtide/HaarBasis" (some 0) with
  accessFlags := 48
  interfaces := #[]
  cf := some (fileOf pool2 11 #[.nestMembers #[68]] #[{ accessFlags := 2, nameIndex := 9, descriptorIndex := 10, attributes := #[] }, { accessFlags := 8, nameIndex := 180, descriptorIndex := 181, attributes := #[] }] 48 6 #[] #[{ accessFlags := 24, nameIndex := 157, descriptorIndex := 158, attributes := #[] }, { accessFlags := 24, nameIndex := 160, descriptorIndex := 158, attributes := #[] }, { accessFlags := 24, nameIndex := 161, descriptorIndex := 158, attributes := #[] }, { accessFlags := 24, nameIndex := 164, descriptorIndex := 165, attributes := #[] }, { accessFlags := 26, nameIndex := 167, descriptorIndex := 165, attributes := #[] }])
  fields := #[{ name := "MAX_CELLS", type := .long, accessFlags := 24, slot := 0, constantValue := 0 }, { name := "MAX_WINDOWED_CELLS", type := .long, accessFlags := 24, slot := 1, constantValue := 0 }, { name := "ROOT", type := .long, accessFlags := 24, slot := 2, constantValue := 0 }, { name := "WAITING", type := .int, accessFlags := 24, slot := 3, constantValue := 0 }, { name := "POSITIONS_PER_COEFFICIENT", type := .int, accessFlags := 26, slot := 4, constantValue := 0 }]
  methods := #[k2m0, k2m1]
  instanceTypes := #[]
  staticTypes := #[.long, .long, .long, .int, .int]
  resolved := Array.replicate 199 none
  statics := none }

def pool3 : Array CpInfo := pool [(1, u "java/lang/Cloneable"), (0, .class_ 1), (0, u "java/lang/Object"), (0, .class_ 3)] 3

/-- java/lang/Cloneable -/
def k3 : Class := { plain "java/lang/Cloneable" (some 0) with
  accessFlags := 1537
  interfaces := #[]
  cf := some (fileOf pool3 2 #[] #[] 1537 4 #[] #[])
  fields := #[]
  methods := #[]
  instanceTypes := #[]
  staticTypes := #[]
  resolved := Array.replicate 8 none
  statics := none }

def pool4 : Array CpInfo := pool [(1, u "java/io/Serializable"), (0, .class_ 1), (0, u "java/lang/Object"), (0, .class_ 3)] 3

/-- java/io/Serializable -/
def k4 : Class := { plain "java/io/Serializable" (some 0) with
  accessFlags := 1537
  interfaces := #[]
  cf := some (fileOf pool4 2 #[] #[] 1537 4 #[] #[])
  fields := #[]
  methods := #[]
  instanceTypes := #[]
  staticTypes := #[]
  resolved := Array.replicate 8 none
  statics := none }

/-- the primitive byte -/
def k5 : Class := { plain "byte" none with kind := .primitive 'B', accessFlags := 0x411 }
/-- [B -/
def k6 : Class := { plain "[B" (some 0) with kind := .array 5 .byte, interfaces := #[3, 4], accessFlags := 1041 }

/-- the primitive int -/
def k7 : Class := { plain "int" none with kind := .primitive 'I', accessFlags := 0x411 }
/-- [I -/
def k8 : Class := { plain "[I" (some 0) with kind := .array 7 .int, interfaces := #[3, 4], accessFlags := 1041 }

def heap : Heap := #[]
def classes : Array Class := #[k0, k1, k2, k3, k4, k5, k6, k7, k8]
def interned : List (Array UInt16 × Addr) := []
def slotsUsed : Nat := 0
def theMethod : MethodId := ⟨1, 1⟩
def args0 : Array Value := #[.long 5, .int 3, .long 1, .int 2]
def aboutOver (below : List Frame) : State where
  vm := { classes := classes, interned := interned.toArray }
  heap := heap
  slotsUsed := slotsUsed
  threads := #[{ frames := .invoking theMethod args0 :: below }]
def below0 : List Frame := [.native { method := ⟨0, 0⟩, args := #[] }]
def about1 : State := aboutOver below0
def p0 : Program := .bare "" "" ""
def e0 : Env := launch0.env 0 0 0
theorem w_frames : about1.frames = Frame.invoking theMethod args0 :: below0 := rfl
set_option maxRecDepth 65536 in
theorem w_args : argsFit about1.vm theMethod args0 = true := by decide +kernel
set_option maxRecDepth 65536 in
theorem w_heap : heapFits about1 = true := by decide +kernel
set_option maxRecDepth 65536 in
theorem w_runnable : about1.curStatus? = some .runnable := by decide +kernel
set_option maxRecDepth 65536 in
theorem w_alone : about1.alone = true := by decide +kernel
set_option maxRecDepth 65536 in
theorem w_named : about1.methodNamed? x = some theMethod := by decide +kernel
set_option maxRecDepth 65536 in
theorem w_hears : about1.hears theMethod below0 = true := by decide +kernel
set_option maxRecDepth 65536 in
theorem w_ripe : about1.ripe theMethod args0 below0 = true := by decide +kernel
theorem w_running : about1.status = .running := rfl
set_option maxRecDepth 65536 in
theorem w_room : about1.hasRoom e0.platform room_1 = true :=
  launch0.hasRoom_least _ room_1 (by decide +kernel) (by decide +kernel) (by decide +kernel) (by decide +kernel) (by decide +kernel) (by decide +kernel)
theorem allAtoms_all (ts : List Jvm.Cond) (a : Array Jvm.Value) (st : Jvm.State) : (allAtoms ts).before a st = ts.all (fun c => c.before a st) := by
  induction ts with
  | nil => rfl
  | cons c t ih =>
    show (Jvm.Cond.and c (allAtoms t)).before a st = _
    rw [Jvm.Cond.before_and, ih, List.all_cons]
def words1 : List Jvm.Cond := Jvm.Cond.code x code maxLocals ret :: tables_1
/-- a 'code' word, met by the world's own term for the bytes: nothing is compared byte by byte -/
theorem code_word {y : MethodName} {bytes : ByteArray} {mx : Nat} {rt : Option FieldType} {a : Array Value} {s : State} {m : MethodId} {meth : Method} {c : Code} (h1 : s.methodNamed? y = some m) (h2 : s.vm.method? m = some meth) (h3 : meth.code = some c) (h4 : c.code = bytes)
    (h5 : (c.maxLocals == mx && c.exceptionTable.isEmpty && decide (c.maxStack ≤ mostOperands) && decide (meth.sig.returnType = rt) && !meth.locks && decide (parseMethodDescriptor y.desc = some meth.sig)) = true) : (Jvm.Cond.code y bytes mx rt).before a s = true := by
  simp only [Bool.and_eq_true, beq_iff_eq, Bool.not_eq_true', decide_eq_true_eq] at h5
  obtain ⟨⟨⟨⟨⟨g1, g2⟩, g3⟩, g4⟩, g5⟩, g6⟩ := h5
  simp [Cond.before, Cond.holds, Cond.value, h1, h2, h3, h4, g1, g2, g3, g4, g5, g6]
def isCode : Jvm.Cond → Bool
  | .code _ _ _ _ => true
  | _ => false
theorem all_split {L : List Jvm.Cond} {P : Jvm.Cond → Bool} (h1 : L.all (fun c => isCode c || P c) = true) (h2 : ∀ c ∈ L.filter isCode, P c = true) : L.all P = true := by
  refine List.all_eq_true.mpr fun c hc => ?_
  have h := List.all_eq_true.mp h1 c hc
  rcases Bool.eq_false_or_eq_true (isCode c) with hi | hi
  · exact h2 c (List.mem_filter.mpr ⟨hc, hi⟩)
  · simpa [hi] using h
set_option maxRecDepth 65536 in
theorem w_c0 : (Jvm.Cond.code x code maxLocals ret).before args0 about1 = true := code_word (m := ⟨1, 1⟩) (meth := k1m1) (c := k1c1) (by decide +kernel) rfl rfl rfl (by decide +kernel)
set_option maxRecDepth 65536 in
theorem w_c1 : (Jvm.Cond.code ({ cls := "com/example/sumtide/sumtide/HaarBasisIsPositionPinLaw", name := "reference", desc := "(JIJZ)Z" } : Jvm.MethodName) method_3_code (14 : Nat) (Option.some Jvm.ClassFile.FieldType.boolean)).before args0 about1 = true := code_word (m := ⟨1, 2⟩) (meth := k1m2) (c := k1c2) (by decide +kernel) rfl rfl rfl (by decide +kernel)
set_option maxRecDepth 65536 in
theorem w_c2 : (Jvm.Cond.code ({ cls := "com/example/sumtide/sumtide/HaarBasis", name := "isPosition", desc := "(JIJ)Z" } : Jvm.MethodName) prog_12_method_11_code (5 : Nat) (Option.some Jvm.ClassFile.FieldType.boolean)).before args0 about1 = true := code_word (m := ⟨2, 1⟩) (meth := k2m1) (c := k2c1) (by decide +kernel) rfl rfl rfl (by decide +kernel)
def codes1 : List Jvm.Cond := [Jvm.Cond.code x code maxLocals ret, Jvm.Cond.code ({ cls := "com/example/sumtide/sumtide/HaarBasisIsPositionPinLaw", name := "reference", desc := "(JIJZ)Z" } : Jvm.MethodName) method_3_code (14 : Nat) (Option.some Jvm.ClassFile.FieldType.boolean), Jvm.Cond.code ({ cls := "com/example/sumtide/sumtide/HaarBasis", name := "isPosition", desc := "(JIJ)Z" } : Jvm.MethodName) prog_12_method_11_code (5 : Nat) (Option.some Jvm.ClassFile.FieldType.boolean)]
set_option maxRecDepth 65536 in
theorem codes_eq : words1.filter isCode = codes1 := rfl
theorem w_codes : ∀ c ∈ words1.filter isCode, c.before args0 about1 = true := by
  rw [codes_eq]
  intro c hc
  simp only [codes1, List.mem_cons, List.not_mem_nil, or_false] at hc
  rcases hc with rfl | rfl | rfl
  · exact w_c0
  · exact w_c1
  · exact w_c2
set_option maxRecDepth 65536 in
theorem w_t1 : words1.all (fun c => isCode c || c.before args0 about1) = true := by decide +kernel
theorem w_tables : (allAtoms (Jvm.Cond.code x code maxLocals ret :: tables_1)).before args0 about1 = true := by
  rw [allAtoms_all]
  show words1.all (fun c => c.before args0 about1) = true
  refine all_split ?_ w_codes
  rw [w_t1]
set_option maxRecDepth 65536 in
theorem w_case : (Jvm.Cond.and given_1 narrow_1).before args0 about1 = true := by decide +kernel
theorem w_applies : (headSpec (Jvm.Cond.code x code maxLocals ret :: tables_1) room_1).applies x e0.platform about1 = true :=
  (Spec.applies_iff w_frames).mpr ⟨w_running, w_runnable, w_alone, w_named, w_hears, w_ripe, w_room, w_tables⟩
theorem atStart : AtStart classFile x code maxLocals ret World_1 tables_1 room_1 Calls_1 rest_1 Pre_1 launch0 p0 e0 about1 theMethod args0 below0 :=
  ⟨lists_1, trivial, launch0.admits_env _ _ _, launch0.least_env, fairChoices_fair.cas, fairChoices_fair.clock, w_frames, w_args, w_heap, w_applies, trivial, trivial, w_case⟩
end start1
theorem witness_1 : WitnessClaimed_1 := ⟨start1.p0, start1.e0, start1.about1, start1.theMethod, start1.args0, start1.below0, start1.atStart⟩
end Jvm.Pilot.@@N@@
