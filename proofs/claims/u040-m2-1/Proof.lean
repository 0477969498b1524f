import JvmDerived
import JvmDerived.Pilot.@@N@@Statement
import JvmDerived.Pilot.@@N@@Code
set_option linter.unusedVariables false
set_option linter.unusedSimpArgs false
namespace Jvm.Pilot.@@N@@
open Jvm Jvm.ClassFile Sem Op Lib Jvm.Free Jvm.Stand Jvm.LawKit Jvm.RoadKit Bundle Jvm.Pilot.@@N@@.Jvm.D
/-! 0. one goal for a walk: from T with the frame g on top the run comes back with what Q says -/
def own_W (p : Program) (e : Env) (En : Outcome → State → List Loc → Nat → Nat → Prop) (below : List Frame) (kc ks : Nat) (Q : Option Value → Heap → List Loc → Prop) (T : State) (g : JFrame) : Prop :=
  ∃ s₂ o, Steps p.tables e below (T.setTop g) s₂ ∧ s₂.status = .running ∧ Ended s₂ below o ∧ ∃ v L, o = .returned v ∧ Q v s₂.heap L ∧ En o s₂ L kc ks
section OwnW
variable {En : Outcome → State → List Loc → Nat → Nat → Prop} {p : Program} {l : Launch} {e : Env} {R : Room} {s : State} {m : MethodId} {args : Array Value} {below : List Frame} {meth : Method} {c : Code} {T T' : State} {locs : List Loc} {cells slots kc ks : Nat} {Q : Option Value → Heap → List Loc → Prop} {g g' : JFrame} {pc pc' : Nat} {Ls : Array Slot} {st rest : List Value} {Z : State} {h h' : Heap} {a b : Addr} {sl : Nat}
theorem own_W.step (k : ∀ t, Steps p.tables e below (T'.setTop g') t → Steps p.tables e below (T.setTop g) t) (w : own_W p e En below kc ks Q T' g') : own_W p e En below kc ks Q T g := by
  obtain ⟨s2, o, h1, h2⟩ := w
  exact ⟨s2, o, k _ h1, h2⟩
theorem own_W.steps (k : Steps p.tables e below (T.setTop g) (T'.setTop g')) (w : own_W p e En below kc ks Q T' g') : own_W p e En below kc ks Q T g := by
  obtain ⟨s2, o, h1, h2⟩ := w
  exact ⟨s2, o, k.trans h1, h2⟩
theorem own_leave (X : Stand p l e R s m args below meth c T locs cells slots) (hlk : meth.locks = false) {v : Option Value} (hv : meth.sig.returnType = none → v = none) (hc : cells ≤ kc) (hs : slots ≤ ks)
    (k : ∀ fs, (∀ (f : JFrame) (acts : List Action), f.method = m → f.locked = none → f.entered = [] → (doReturn e (T.setTop f) acts v).1 = T.setFrames fs) → Steps p.tables e below (T.setTop g) (T.setFrames fs)) (hQ : Q v T.heap locs) : own_W p e (FrameEnd s) below kc ks Q T g := by
  obtain ⟨fs, hr, hrun, hended, hW, hsame⟩ := X.leave (v := v) hv hlk
  exact ⟨_, _, k fs hr, hrun, hended, v, locs, rfl, hQ, ⟨_, rfl⟩, hW, hsame.mono hc hs⟩
theorem own_retV (X : Stand p l e R s m args below meth c T locs cells slots) (hx : p.tables.exec = Jvm.exec) (hlk : meth.locks = false) (hret : meth.sig.returnType = none) (hd : decode c.code pc = .ok (.return_, 1)) (hc : cells ≤ kc) (hs : slots ≤ ks) (hQ : Q none T.heap locs) : own_W p e (FrameEnd s) below kc ks Q T (mkF m pc Ls []) :=
  own_leave X hlk (fun _ => rfl) hc hs (fun fs hr => X.returnOut hx hret hd hr) hQ
theorem own_retN {t : FieldType} (X : Stand p l e R s m args below meth c T locs cells slots) (hx : p.tables.exec = Jvm.exec) (hlk : meth.locks = false) (hret : meth.sig.returnType = some t) (ht : t = .boolean ∨ t = .byte ∨ t = .char ∨ t = .short) (hd : decode c.code pc = .ok (.ireturn, 1)) {z z' : Int32} (hz : nar t z = z') (hc : cells ≤ kc) (hs : slots ≤ ks) (hQ : Q (some (.int z')) T.heap locs) : own_W p e (FrameEnd s) below kc ks Q T (mkF m pc Ls (.int z :: rest)) := by
  subst hz
  exact own_leave X hlk (fun q => by rw [hret] at q; cases q) hc hs (fun fs hr => retN X hx hret ht hd hr) hQ
theorem own_retI (X : Stand p l e R s m args below meth c T locs cells slots) (hx : p.tables.exec = Jvm.exec) (hlk : meth.locks = false) (hret : meth.sig.returnType = some .int) (hd : decode c.code pc = .ok (.ireturn, 1)) {z : Int32} (hc : cells ≤ kc) (hs : slots ≤ ks) (hQ : Q (some (.int z)) T.heap locs) : own_W p e (FrameEnd s) below kc ks Q T (mkF m pc Ls (.int z :: rest)) :=
  own_leave X hlk (fun q => by rw [hret] at q; cases q) hc hs (fun fs hr => retOut X hx (t := .int) (w := .int z) (i := .ireturn) hret rfl (Or.inl ⟨rfl, Or.inl rfl, z, rfl⟩) hd hr) hQ
theorem own_retJ (X : Stand p l e R s m args below meth c T locs cells slots) (hx : p.tables.exec = Jvm.exec) (hlk : meth.locks = false) (hret : meth.sig.returnType = some .long) (hd : decode c.code pc = .ok (.lreturn, 1)) {z : Int64} (hc : cells ≤ kc) (hs : slots ≤ ks) (hQ : Q (some (.long z)) T.heap locs) : own_W p e (FrameEnd s) below kc ks Q T (mkF m pc Ls (.long z :: rest)) :=
  own_leave X hlk (fun q => by rw [hret] at q; cases q) hc hs (fun fs hr => retOut X hx (t := .long) (w := .long z) (i := .lreturn) hret rfl (Or.inr (Or.inl ⟨rfl, rfl, z, rfl⟩)) hd hr) hQ
theorem own_retA {t : FieldType} (X : Stand p l e R s m args below meth c T locs cells slots) (hx : p.tables.exec = Jvm.exec) (hlk : meth.locks = false) (hret : meth.sig.returnType = some t) (hn : narrow t (.ref a) = .ref a) (ht : t.isReference = true) (hd : decode c.code pc = .ok (.areturn, 1)) (hc : cells ≤ kc) (hs : slots ≤ ks) (hQ : Q (some (.ref a)) T.heap locs) : own_W p e (FrameEnd s) below kc ks Q T (mkF m pc Ls (.ref a :: rest)) :=
  own_leave X hlk (fun q => by rw [hret] at q; cases q) hc hs (fun fs hr => retOut X hx (t := t) (w := .ref a) (i := .areturn) hret hn (Or.inr (Or.inr (Or.inr (Or.inr ⟨rfl, ht, rfl⟩)))) hd hr) hQ
theorem own_iload (X : Stand p l e R s m args below meth c T locs cells slots) (hx : p.tables.exec = Jvm.exec) {k : Nat} {v : Int32} (hd : decode c.code pc = .ok (.iload k, 2)) (hl : Ls[k]? = some (.val (.int v))) (hp : pc + 2 = pc') (w : own_W p e En below kc ks Q T (mkF m pc' Ls (.int v :: st))) : own_W p e En below kc ks Q T (mkF m pc Ls (st)) := by
  subst hp; exact own_W.step (fun _ q => XS.iload X.here hx rfl hd hl q) w
theorem own_iloadN (X : Stand p l e R s m args below meth c T locs cells slots) (hx : p.tables.exec = Jvm.exec) {k : Fin 4} {v : Int32} (hd : decode c.code pc = .ok (.iload_n k, 1)) (hl : Ls[k.val]? = some (.val (.int v))) (hp : pc + 1 = pc') (w : own_W p e En below kc ks Q T (mkF m pc' Ls (.int v :: st))) : own_W p e En below kc ks Q T (mkF m pc Ls (st)) := by
  subst hp; exact own_W.step (fun _ q => XS.iloadN X.here hx rfl hd hl q) w
theorem own_lload (X : Stand p l e R s m args below meth c T locs cells slots) (hx : p.tables.exec = Jvm.exec) {k : Nat} {v : Int64} (hd : decode c.code pc = .ok (.lload k, 2)) (hl : Ls[k]? = some (.val (.long v))) (hp : pc + 2 = pc') (w : own_W p e En below kc ks Q T (mkF m pc' Ls (.long v :: st))) : own_W p e En below kc ks Q T (mkF m pc Ls (st)) := by
  subst hp; exact own_W.step (fun _ q => XS.lload X.here hx rfl hd hl q) w
theorem own_lloadN (X : Stand p l e R s m args below meth c T locs cells slots) (hx : p.tables.exec = Jvm.exec) {k : Fin 4} {v : Int64} (hd : decode c.code pc = .ok (.lload_n k, 1)) (hl : Ls[k.val]? = some (.val (.long v))) (hp : pc + 1 = pc') (w : own_W p e En below kc ks Q T (mkF m pc' Ls (.long v :: st))) : own_W p e En below kc ks Q T (mkF m pc Ls (st)) := by
  subst hp; exact own_W.step (fun _ q => XS.lloadN X.here hx rfl hd hl q) w
theorem own_aload (X : Stand p l e R s m args below meth c T locs cells slots) (hx : p.tables.exec = Jvm.exec) {k : Nat} {v : Value} (hd : decode c.code pc = .ok (.aload k, 2)) (hl : Ls[k]? = some (.val v)) (hv : v.isRef = true) (hp : pc + 2 = pc') (w : own_W p e En below kc ks Q T (mkF m pc' Ls (v :: st))) : own_W p e En below kc ks Q T (mkF m pc Ls (st)) := by
  subst hp; exact own_W.step (fun _ q => XS.aload X.here hx rfl hd hl hv q) w
theorem own_aloadN (X : Stand p l e R s m args below meth c T locs cells slots) (hx : p.tables.exec = Jvm.exec) {k : Fin 4} {v : Value} (hd : decode c.code pc = .ok (.aload_n k, 1)) (hl : Ls[k.val]? = some (.val v)) (hv : v.isRef = true) (hp : pc + 1 = pc') (w : own_W p e En below kc ks Q T (mkF m pc' Ls (v :: st))) : own_W p e En below kc ks Q T (mkF m pc Ls (st)) := by
  subst hp; exact own_W.step (fun _ q => XS.aloadN X.here hx rfl hd hl hv q) w
theorem own_istore (X : Stand p l e R s m args below meth c T locs cells slots) (hx : p.tables.exec = Jvm.exec) {k : Nat} {v : Int32} {l' : Array Slot} (hd : decode c.code pc = .ok (.istore k, 2)) (hl : storeLocals Ls k (.int v) = some l') (hp : pc + 2 = pc') (w : own_W p e En below kc ks Q T (mkF m pc' l' (st))) : own_W p e En below kc ks Q T (mkF m pc Ls (.int v :: st)) := by
  subst hp; exact own_W.step (fun _ q => XS.istore X.here hx rfl hd rfl hl q) w
theorem own_istoreN (X : Stand p l e R s m args below meth c T locs cells slots) (hx : p.tables.exec = Jvm.exec) {k : Fin 4} {v : Int32} {l' : Array Slot} (hd : decode c.code pc = .ok (.istore_n k, 1)) (hl : storeLocals Ls k.val (.int v) = some l') (hp : pc + 1 = pc') (w : own_W p e En below kc ks Q T (mkF m pc' l' (st))) : own_W p e En below kc ks Q T (mkF m pc Ls (.int v :: st)) := by
  subst hp; exact own_W.step (fun _ q => XS.istoreN X.here hx rfl hd rfl hl q) w
theorem own_lstore (X : Stand p l e R s m args below meth c T locs cells slots) (hx : p.tables.exec = Jvm.exec) {k : Nat} {v : Int64} {l' : Array Slot} (hd : decode c.code pc = .ok (.lstore k, 2)) (hl : storeLocals Ls k (.long v) = some l') (hp : pc + 2 = pc') (w : own_W p e En below kc ks Q T (mkF m pc' l' (st))) : own_W p e En below kc ks Q T (mkF m pc Ls (.long v :: st)) := by
  subst hp; exact own_W.step (fun _ q => XS.lstore X.here hx rfl hd rfl hl q) w
theorem own_lstoreN (X : Stand p l e R s m args below meth c T locs cells slots) (hx : p.tables.exec = Jvm.exec) {k : Fin 4} {v : Int64} {l' : Array Slot} (hd : decode c.code pc = .ok (.lstore_n k, 1)) (hl : storeLocals Ls k.val (.long v) = some l') (hp : pc + 1 = pc') (w : own_W p e En below kc ks Q T (mkF m pc' l' (st))) : own_W p e En below kc ks Q T (mkF m pc Ls (.long v :: st)) := by
  subst hp; exact own_W.step (fun _ q => XS.lstoreN X.here hx rfl hd rfl hl q) w
theorem own_astore (X : Stand p l e R s m args below meth c T locs cells slots) (hx : p.tables.exec = Jvm.exec) {k : Nat} {v : Value} {l' : Array Slot} (hd : decode c.code pc = .ok (.astore k, 2)) (hv : v.isRef = true) (hl : storeLocals Ls k v = some l') (hp : pc + 2 = pc') (w : own_W p e En below kc ks Q T (mkF m pc' l' (st))) : own_W p e En below kc ks Q T (mkF m pc Ls (v :: st)) := by
  subst hp; exact own_W.step (fun _ q => XS.astore X.here hx rfl hd rfl hv hl q) w
theorem own_astoreN (X : Stand p l e R s m args below meth c T locs cells slots) (hx : p.tables.exec = Jvm.exec) {k : Fin 4} {v : Value} {l' : Array Slot} (hd : decode c.code pc = .ok (.astore_n k, 1)) (hv : v.isRef = true) (hl : storeLocals Ls k.val v = some l') (hp : pc + 1 = pc') (w : own_W p e En below kc ks Q T (mkF m pc' l' (st))) : own_W p e En below kc ks Q T (mkF m pc Ls (v :: st)) := by
  subst hp; exact own_W.step (fun _ q => XS.astoreN X.here hx rfl hd rfl hv hl q) w
theorem own_iconst (X : Stand p l e R s m args below meth c T locs cells slots) (hx : p.tables.exec = Jvm.exec) {i : Int} (hd : decode c.code pc = .ok (.iconst i, 1)) (v : Int32) (hv : Int32.ofInt i = v) (hp : pc + 1 = pc') (w : own_W p e En below kc ks Q T (mkF m pc' Ls (.int v :: st))) : own_W p e En below kc ks Q T (mkF m pc Ls (st)) := by
  subst hp; exact own_W.step (fun _ q => XT.iconstV X.here hx rfl v hd hv q) w
theorem own_bipush (X : Stand p l e R s m args below meth c T locs cells slots) (hx : p.tables.exec = Jvm.exec) {i : Int} (hd : decode c.code pc = .ok (.bipush i, 2)) (v : Int32) (hv : (Int8.ofInt i).toInt32 = v) (hp : pc + 2 = pc') (w : own_W p e En below kc ks Q T (mkF m pc' Ls (.int v :: st))) : own_W p e En below kc ks Q T (mkF m pc Ls (st)) := by
  subst hp; exact own_W.step (fun _ q => XT.bipushV X.here hx rfl v hd hv q) w
theorem own_sipush (X : Stand p l e R s m args below meth c T locs cells slots) (hx : p.tables.exec = Jvm.exec) {i : Int} (hd : decode c.code pc = .ok (.sipush i, 3)) (v : Int32) (hv : (Int16.ofInt i).toInt32 = v) (hp : pc + 3 = pc') (w : own_W p e En below kc ks Q T (mkF m pc' Ls (.int v :: st))) : own_W p e En below kc ks Q T (mkF m pc Ls (st)) := by
  subst hp; exact own_W.step (fun _ q => XT.sipushV X.here hx rfl v hd hv q) w
theorem own_lconst (X : Stand p l e R s m args below meth c T locs cells slots) (hx : p.tables.exec = Jvm.exec) {k : Fin 2} (hd : decode c.code pc = .ok (.lconst k, 1)) (v : Int64) (hv : Int64.ofNat k = v) (hp : pc + 1 = pc') (w : own_W p e En below kc ks Q T (mkF m pc' Ls (.long v :: st))) : own_W p e En below kc ks Q T (mkF m pc Ls (st)) := by
  subst hp; exact own_W.step (fun _ q => XT.lconstV X.here hx rfl v hd hv q) w
theorem own_aconstNull (X : Stand p l e R s m args below meth c T locs cells slots) (hx : p.tables.exec = Jvm.exec)  (hd : decode c.code pc = .ok (.aconst_null, 1))  (hp : pc + 1 = pc') (w : own_W p e En below kc ks Q T (mkF m pc' Ls (.null :: st))) : own_W p e En below kc ks Q T (mkF m pc Ls (st)) := by
  subst hp; exact own_W.step (fun _ q => XS.aconstNull X.here hx rfl hd q) w
theorem own_ldcInt (X : Stand p l e R s m args below meth c T locs cells slots) (hx : p.tables.exec = Jvm.exec) {own : String} {index : Nat} {v : Int32} (hown : s.vm.findClass own = some m.cls) (hk : (Jvm.Cond.constant own index v).before args s = true) (hd : decode c.code pc = .ok (.ldc index, 2)) (hp : pc + 2 = pc') (w : own_W p e En below kc ks Q T (mkF m pc' Ls (.int v :: st))) : own_W p e En below kc ks Q T (mkF m pc Ls st) := by
  subst hp; exact own_W.step (X.ldcInt hx hown hk (g := mkF m pc Ls st) rfl hd) w
theorem own_ldcwInt (X : Stand p l e R s m args below meth c T locs cells slots) (hx : p.tables.exec = Jvm.exec) {own : String} {index : Nat} {v : Int32} (hown : s.vm.findClass own = some m.cls) (hk : (Jvm.Cond.constant own index v).before args s = true) (hd : decode c.code pc = .ok (.ldc_w index, 3)) (hp : pc + 3 = pc') (w : own_W p e En below kc ks Q T (mkF m pc' Ls (.int v :: st))) : own_W p e En below kc ks Q T (mkF m pc Ls st) := by
  subst hp; exact own_W.step (X.ldcwInt hx hown hk (g := mkF m pc Ls st) rfl hd) w
theorem own_ldc2Long (X : Stand p l e R s m args below meth c T locs cells slots) (hx : p.tables.exec = Jvm.exec) {own : String} {index : Nat} {v : Int64} (hown : s.vm.findClass own = some m.cls) (hk : (Jvm.Cond.constantLong own index v).before args s = true) (hd : decode c.code pc = .ok (.ldc2_w index, 3)) (hp : pc + 3 = pc') (w : own_W p e En below kc ks Q T (mkF m pc' Ls (.long v :: st))) : own_W p e En below kc ks Q T (mkF m pc Ls st) := by
  subst hp; exact own_W.step (X.ldc2Long hx hown hk (g := mkF m pc Ls st) rfl hd) w
theorem own_iadd (X : Stand p l e R s m args below meth c T locs cells slots) (hx : p.tables.exec = Jvm.exec) {x y : Int32} (hd : decode c.code pc = .ok (.iadd, 1))  (hp : pc + 1 = pc') (w : own_W p e En below kc ks Q T (mkF m pc' Ls (.int (x + y) :: st))) : own_W p e En below kc ks Q T (mkF m pc Ls (.int y :: .int x :: st)) := by
  subst hp; exact own_W.step (fun _ q => XS.iadd X.here hx rfl hd rfl q) w
theorem own_ladd (X : Stand p l e R s m args below meth c T locs cells slots) (hx : p.tables.exec = Jvm.exec) {x y : Int64} (hd : decode c.code pc = .ok (.ladd, 1))  (hp : pc + 1 = pc') (w : own_W p e En below kc ks Q T (mkF m pc' Ls (.long (x + y) :: st))) : own_W p e En below kc ks Q T (mkF m pc Ls (.long y :: .long x :: st)) := by
  subst hp; exact own_W.step (fun _ q => XS.ladd X.here hx rfl hd rfl q) w
theorem own_isub (X : Stand p l e R s m args below meth c T locs cells slots) (hx : p.tables.exec = Jvm.exec) {x y : Int32} (hd : decode c.code pc = .ok (.isub, 1))  (hp : pc + 1 = pc') (w : own_W p e En below kc ks Q T (mkF m pc' Ls (.int (x - y) :: st))) : own_W p e En below kc ks Q T (mkF m pc Ls (.int y :: .int x :: st)) := by
  subst hp; exact own_W.step (fun _ q => XS.isub X.here hx rfl hd rfl q) w
theorem own_lsub (X : Stand p l e R s m args below meth c T locs cells slots) (hx : p.tables.exec = Jvm.exec) {x y : Int64} (hd : decode c.code pc = .ok (.lsub, 1))  (hp : pc + 1 = pc') (w : own_W p e En below kc ks Q T (mkF m pc' Ls (.long (x - y) :: st))) : own_W p e En below kc ks Q T (mkF m pc Ls (.long y :: .long x :: st)) := by
  subst hp; exact own_W.step (fun _ q => XS.lsub X.here hx rfl hd rfl q) w
theorem own_imul (X : Stand p l e R s m args below meth c T locs cells slots) (hx : p.tables.exec = Jvm.exec) {x y : Int32} (hd : decode c.code pc = .ok (.imul, 1))  (hp : pc + 1 = pc') (w : own_W p e En below kc ks Q T (mkF m pc' Ls (.int (x * y) :: st))) : own_W p e En below kc ks Q T (mkF m pc Ls (.int y :: .int x :: st)) := by
  subst hp; exact own_W.step (fun _ q => XS.imul X.here hx rfl hd rfl q) w
theorem own_lmul (X : Stand p l e R s m args below meth c T locs cells slots) (hx : p.tables.exec = Jvm.exec) {x y : Int64} (hd : decode c.code pc = .ok (.lmul, 1))  (hp : pc + 1 = pc') (w : own_W p e En below kc ks Q T (mkF m pc' Ls (.long (x * y) :: st))) : own_W p e En below kc ks Q T (mkF m pc Ls (.long y :: .long x :: st)) := by
  subst hp; exact own_W.step (fun _ q => XS.lmul X.here hx rfl hd rfl q) w
theorem own_iand (X : Stand p l e R s m args below meth c T locs cells slots) (hx : p.tables.exec = Jvm.exec) {x y : Int32} (hd : decode c.code pc = .ok (.iand, 1))  (hp : pc + 1 = pc') (w : own_W p e En below kc ks Q T (mkF m pc' Ls (.int (x &&& y) :: st))) : own_W p e En below kc ks Q T (mkF m pc Ls (.int y :: .int x :: st)) := by
  subst hp; exact own_W.step (fun _ q => XS.iand X.here hx rfl hd rfl q) w
theorem own_land (X : Stand p l e R s m args below meth c T locs cells slots) (hx : p.tables.exec = Jvm.exec) {x y : Int64} (hd : decode c.code pc = .ok (.land, 1))  (hp : pc + 1 = pc') (w : own_W p e En below kc ks Q T (mkF m pc' Ls (.long (x &&& y) :: st))) : own_W p e En below kc ks Q T (mkF m pc Ls (.long y :: .long x :: st)) := by
  subst hp; exact own_W.step (fun _ q => XS.land X.here hx rfl hd rfl q) w
theorem own_ior (X : Stand p l e R s m args below meth c T locs cells slots) (hx : p.tables.exec = Jvm.exec) {x y : Int32} (hd : decode c.code pc = .ok (.ior, 1))  (hp : pc + 1 = pc') (w : own_W p e En below kc ks Q T (mkF m pc' Ls (.int (x ||| y) :: st))) : own_W p e En below kc ks Q T (mkF m pc Ls (.int y :: .int x :: st)) := by
  subst hp; exact own_W.step (fun _ q => XS.ior X.here hx rfl hd rfl q) w
theorem own_lor (X : Stand p l e R s m args below meth c T locs cells slots) (hx : p.tables.exec = Jvm.exec) {x y : Int64} (hd : decode c.code pc = .ok (.lor, 1))  (hp : pc + 1 = pc') (w : own_W p e En below kc ks Q T (mkF m pc' Ls (.long (x ||| y) :: st))) : own_W p e En below kc ks Q T (mkF m pc Ls (.long y :: .long x :: st)) := by
  subst hp; exact own_W.step (fun _ q => XS.lor X.here hx rfl hd rfl q) w
theorem own_ixor (X : Stand p l e R s m args below meth c T locs cells slots) (hx : p.tables.exec = Jvm.exec) {x y : Int32} (hd : decode c.code pc = .ok (.ixor, 1))  (hp : pc + 1 = pc') (w : own_W p e En below kc ks Q T (mkF m pc' Ls (.int (x ^^^ y) :: st))) : own_W p e En below kc ks Q T (mkF m pc Ls (.int y :: .int x :: st)) := by
  subst hp; exact own_W.step (fun _ q => XS.ixor X.here hx rfl hd rfl q) w
theorem own_lxor (X : Stand p l e R s m args below meth c T locs cells slots) (hx : p.tables.exec = Jvm.exec) {x y : Int64} (hd : decode c.code pc = .ok (.lxor, 1))  (hp : pc + 1 = pc') (w : own_W p e En below kc ks Q T (mkF m pc' Ls (.long (x ^^^ y) :: st))) : own_W p e En below kc ks Q T (mkF m pc Ls (.long y :: .long x :: st)) := by
  subst hp; exact own_W.step (fun _ q => XS.lxor X.here hx rfl hd rfl q) w
theorem own_idiv (X : Stand p l e R s m args below meth c T locs cells slots) (hx : p.tables.exec = Jvm.exec) {x y : Int32} (hd : decode c.code pc = .ok (.idiv, 1)) (hy : y ≠ 0) (hp : pc + 1 = pc') (w : own_W p e En below kc ks Q T (mkF m pc' Ls (.int (x / y) :: st))) : own_W p e En below kc ks Q T (mkF m pc Ls (.int y :: .int x :: st)) := by
  subst hp; exact own_W.step (fun _ q => XS.idiv X.here hx rfl hd rfl hy q) w
theorem own_ldiv (X : Stand p l e R s m args below meth c T locs cells slots) (hx : p.tables.exec = Jvm.exec) {x y : Int64} (hd : decode c.code pc = .ok (.ldiv, 1)) (hy : y ≠ 0) (hp : pc + 1 = pc') (w : own_W p e En below kc ks Q T (mkF m pc' Ls (.long (x / y) :: st))) : own_W p e En below kc ks Q T (mkF m pc Ls (.long y :: .long x :: st)) := by
  subst hp; exact own_W.step (fun _ q => XS.ldiv X.here hx rfl hd rfl hy q) w
theorem own_irem (X : Stand p l e R s m args below meth c T locs cells slots) (hx : p.tables.exec = Jvm.exec) {x y : Int32} (hd : decode c.code pc = .ok (.irem, 1)) (hy : y ≠ 0) (hp : pc + 1 = pc') (w : own_W p e En below kc ks Q T (mkF m pc' Ls (.int (x % y) :: st))) : own_W p e En below kc ks Q T (mkF m pc Ls (.int y :: .int x :: st)) := by
  subst hp; exact own_W.step (fun _ q => iremM X hx rfl hd rfl hy q) w
theorem own_lrem (X : Stand p l e R s m args below meth c T locs cells slots) (hx : p.tables.exec = Jvm.exec) {x y : Int64} (hd : decode c.code pc = .ok (.lrem, 1)) (hy : y ≠ 0) (hp : pc + 1 = pc') (w : own_W p e En below kc ks Q T (mkF m pc' Ls (.long (x % y) :: st))) : own_W p e En below kc ks Q T (mkF m pc Ls (.long y :: .long x :: st)) := by
  subst hp; exact own_W.step (fun _ q => XS.lrem X.here hx rfl hd rfl hy (by rw [lrem_mod]; exact q)) w
theorem own_ineg (X : Stand p l e R s m args below meth c T locs cells slots) (hx : p.tables.exec = Jvm.exec) {x : Int32} (hd : decode c.code pc = .ok (.ineg, 1))  (hp : pc + 1 = pc') (w : own_W p e En below kc ks Q T (mkF m pc' Ls (.int (-x) :: st))) : own_W p e En below kc ks Q T (mkF m pc Ls (.int x :: st)) := by
  subst hp; exact own_W.step (fun _ q => XS.ineg X.here hx rfl hd rfl q) w
theorem own_lneg (X : Stand p l e R s m args below meth c T locs cells slots) (hx : p.tables.exec = Jvm.exec) {x : Int64} (hd : decode c.code pc = .ok (.lneg, 1))  (hp : pc + 1 = pc') (w : own_W p e En below kc ks Q T (mkF m pc' Ls (.long (-x) :: st))) : own_W p e En below kc ks Q T (mkF m pc Ls (.long x :: st)) := by
  subst hp; exact own_W.step (fun _ q => XS.lneg X.here hx rfl hd rfl q) w
theorem own_i2l (X : Stand p l e R s m args below meth c T locs cells slots) (hx : p.tables.exec = Jvm.exec) {x : Int32} (hd : decode c.code pc = .ok (.i2l, 1))  (hp : pc + 1 = pc') (w : own_W p e En below kc ks Q T (mkF m pc' Ls (.long (x.toInt64) :: st))) : own_W p e En below kc ks Q T (mkF m pc Ls (.int x :: st)) := by
  subst hp; exact own_W.step (fun _ q => XS.i2l X.here hx rfl hd rfl q) w
theorem own_l2i (X : Stand p l e R s m args below meth c T locs cells slots) (hx : p.tables.exec = Jvm.exec) {x : Int64} (hd : decode c.code pc = .ok (.l2i, 1))  (hp : pc + 1 = pc') (w : own_W p e En below kc ks Q T (mkF m pc' Ls (.int (x.toInt32) :: st))) : own_W p e En below kc ks Q T (mkF m pc Ls (.long x :: st)) := by
  subst hp; exact own_W.step (fun _ q => XS.l2i X.here hx rfl hd rfl q) w
theorem own_i2b (X : Stand p l e R s m args below meth c T locs cells slots) (hx : p.tables.exec = Jvm.exec) {x : Int32} (hd : decode c.code pc = .ok (.i2b, 1))  (hp : pc + 1 = pc') (w : own_W p e En below kc ks Q T (mkF m pc' Ls (.int (x.toInt8.toInt32) :: st))) : own_W p e En below kc ks Q T (mkF m pc Ls (.int x :: st)) := by
  subst hp; exact own_W.step (fun _ q => XS.i2b X.here hx rfl hd rfl q) w
theorem own_i2s (X : Stand p l e R s m args below meth c T locs cells slots) (hx : p.tables.exec = Jvm.exec) {x : Int32} (hd : decode c.code pc = .ok (.i2s, 1))  (hp : pc + 1 = pc') (w : own_W p e En below kc ks Q T (mkF m pc' Ls (.int (x.toInt16.toInt32) :: st))) : own_W p e En below kc ks Q T (mkF m pc Ls (.int x :: st)) := by
  subst hp; exact own_W.step (fun _ q => XS.i2s X.here hx rfl hd rfl q) w
theorem own_i2c (X : Stand p l e R s m args below meth c T locs cells slots) (hx : p.tables.exec = Jvm.exec) {x : Int32} (hd : decode c.code pc = .ok (.i2c, 1))  (hp : pc + 1 = pc') (w : own_W p e En below kc ks Q T (mkF m pc' Ls (.int (x.toUInt32.toUInt16.toUInt32.toInt32) :: st))) : own_W p e En below kc ks Q T (mkF m pc Ls (.int x :: st)) := by
  subst hp; exact own_W.step (fun _ q => XS.i2c X.here hx rfl hd rfl q) w
theorem own_ishl (X : Stand p l e R s m args below meth c T locs cells slots) (hx : p.tables.exec = Jvm.exec) {x y : Int32} (hd : decode c.code pc = .ok (.ishl, 1))  (hp : pc + 1 = pc') (w : own_W p e En below kc ks Q T (mkF m pc' Ls (.int (x <<< (y &&& 31)) :: st))) : own_W p e En below kc ks Q T (mkF m pc Ls (.int y :: .int x :: st)) := by
  subst hp; exact own_W.step (fun _ q => XS.ishl X.here hx rfl hd rfl q) w
theorem own_ishr (X : Stand p l e R s m args below meth c T locs cells slots) (hx : p.tables.exec = Jvm.exec) {x y : Int32} (hd : decode c.code pc = .ok (.ishr, 1))  (hp : pc + 1 = pc') (w : own_W p e En below kc ks Q T (mkF m pc' Ls (.int (x >>> (y &&& 31)) :: st))) : own_W p e En below kc ks Q T (mkF m pc Ls (.int y :: .int x :: st)) := by
  subst hp; exact own_W.step (fun _ q => XS.ishr X.here hx rfl hd rfl q) w
theorem own_iushr (X : Stand p l e R s m args below meth c T locs cells slots) (hx : p.tables.exec = Jvm.exec) {x y : Int32} (hd : decode c.code pc = .ok (.iushr, 1))  (hp : pc + 1 = pc') (w : own_W p e En below kc ks Q T (mkF m pc' Ls (.int ((x.toUInt32 >>> (y &&& 31).toUInt32).toInt32) :: st))) : own_W p e En below kc ks Q T (mkF m pc Ls (.int y :: .int x :: st)) := by
  subst hp; exact own_W.step (fun _ q => XS.iushr X.here hx rfl hd rfl q) w
theorem own_lshl (X : Stand p l e R s m args below meth c T locs cells slots) (hx : p.tables.exec = Jvm.exec) {x : Int64} {y : Int32} (hd : decode c.code pc = .ok (.lshl, 1))  (hp : pc + 1 = pc') (w : own_W p e En below kc ks Q T (mkF m pc' Ls (.long (x <<< (y &&& 0x3f).toInt64) :: st))) : own_W p e En below kc ks Q T (mkF m pc Ls (.int y :: .long x :: st)) := by
  subst hp; exact own_W.step (fun _ q => XS.lshl X.here hx rfl hd rfl q) w
theorem own_lshr (X : Stand p l e R s m args below meth c T locs cells slots) (hx : p.tables.exec = Jvm.exec) {x : Int64} {y : Int32} (hd : decode c.code pc = .ok (.lshr, 1))  (hp : pc + 1 = pc') (w : own_W p e En below kc ks Q T (mkF m pc' Ls (.long (x >>> (y &&& 0x3f).toInt64) :: st))) : own_W p e En below kc ks Q T (mkF m pc Ls (.int y :: .long x :: st)) := by
  subst hp; exact own_W.step (fun _ q => XS.lshr X.here hx rfl hd rfl q) w
theorem own_lushr (X : Stand p l e R s m args below meth c T locs cells slots) (hx : p.tables.exec = Jvm.exec) {x : Int64} {y : Int32} (hd : decode c.code pc = .ok (.lushr, 1))  (hp : pc + 1 = pc') (w : own_W p e En below kc ks Q T (mkF m pc' Ls (.long ((x.toUInt64 >>> (y &&& 0x3f).toInt64.toUInt64).toInt64) :: st))) : own_W p e En below kc ks Q T (mkF m pc Ls (.int y :: .long x :: st)) := by
  subst hp; exact own_W.step (fun _ q => XS.lushr X.here hx rfl hd rfl q) w
theorem own_lcmp (X : Stand p l e R s m args below meth c T locs cells slots) (hx : p.tables.exec = Jvm.exec) {x y : Int64} (hd : decode c.code pc = .ok (.lcmp, 1))  (hp : pc + 1 = pc') (w : own_W p e En below kc ks Q T (mkF m pc' Ls (.int (XT.cmpL x y) :: st))) : own_W p e En below kc ks Q T (mkF m pc Ls (.long y :: .long x :: st)) := by
  subst hp; exact own_W.step (fun _ q => XT.lcmp X.here hx rfl hd rfl q) w
theorem own_iinc (X : Stand p l e R s m args below meth c T locs cells slots) (hx : p.tables.exec = Jvm.exec) {k : Nat} {cst : Int} (hd : decode c.code pc = .ok (.iinc k cst, 3)) (v : Int32) (hv : Int32.ofInt cst = v) {x : Int32} {l' : Array Slot} (hl : Ls[k]? = some (.val (.int x))) (hl' : storeLocals Ls k (.int (x + v)) = some l') (hp : pc + 3 = pc') (w : own_W p e En below kc ks Q T (mkF m pc' l' (st))) : own_W p e En below kc ks Q T (mkF m pc Ls (st)) := by
  subst hp; exact own_W.step (fun _ q => XT.iincV X.here hx rfl v hd hv hl hl' q) w
theorem own_dup (X : Stand p l e R s m args below meth c T locs cells slots) (hx : p.tables.exec = Jvm.exec) {x : Value} (hd : decode c.code pc = .ok (.dup, 1)) (hc : x.category = 1) (hp : pc + 1 = pc') (w : own_W p e En below kc ks Q T (mkF m pc' Ls (x :: x :: st))) : own_W p e En below kc ks Q T (mkF m pc Ls (x :: st)) := by
  subst hp; exact own_W.step (fun _ q => XS.dup X.here hx rfl hd rfl hc q) w
theorem own_pop (X : Stand p l e R s m args below meth c T locs cells slots) (hx : p.tables.exec = Jvm.exec) {x : Value} (hd : decode c.code pc = .ok (.pop, 1)) (hc : x.category = 1) (hp : pc + 1 = pc') (w : own_W p e En below kc ks Q T (mkF m pc' Ls (st))) : own_W p e En below kc ks Q T (mkF m pc Ls (x :: st)) := by
  subst hp; exact own_W.step (fun _ q => XS.pop X.here hx rfl hd rfl hc q) w
theorem own_dupX1 (X : Stand p l e R s m args below meth c T locs cells slots) (hx : p.tables.exec = Jvm.exec) {x y : Value} (hd : decode c.code pc = .ok (.dup_x1, 1)) (hc : x.category = 1) (hc2 : y.category = 1) (hp : pc + 1 = pc') (w : own_W p e En below kc ks Q T (mkF m pc' Ls (x :: y :: x :: st))) : own_W p e En below kc ks Q T (mkF m pc Ls (x :: y :: st)) := by
  subst hp; exact own_W.step (fun _ q => XS.dupX1 X.here hx rfl hd rfl hc hc2 q) w
theorem own_dup2 (X : Stand p l e R s m args below meth c T locs cells slots) (hx : p.tables.exec = Jvm.exec) {x y : Value} (hd : decode c.code pc = .ok (.dup2, 1)) (hc : x.category = 1) (hc2 : y.category = 1) (hp : pc + 1 = pc') (w : own_W p e En below kc ks Q T (mkF m pc' Ls (x :: y :: x :: y :: st))) : own_W p e En below kc ks Q T (mkF m pc Ls (x :: y :: st)) := by
  subst hp; exact own_W.step (fun _ q => XT.dup2 X.here hx rfl hd rfl hc hc2 q) w
theorem own_dup2L (X : Stand p l e R s m args below meth c T locs cells slots) (hx : p.tables.exec = Jvm.exec) {x : Int64} (hd : decode c.code pc = .ok (.dup2, 1))  (hp : pc + 1 = pc') (w : own_W p e En below kc ks Q T (mkF m pc' Ls (.long x :: .long x :: st))) : own_W p e En below kc ks Q T (mkF m pc Ls (.long x :: st)) := by
  subst hp; exact own_W.step (fun _ q => XT.dup2L X.here hx rfl hd rfl q) w
theorem own_goto (X : Stand p l e R s m args below meth c T locs cells slots) (hx : p.tables.exec = Jvm.exec) {o : Int} (hd : decode c.code pc = .ok (.goto o, 3)) {pc' : Nat} (ho : 0 ≤ (pc : Int) + o) (hp : ((pc : Int) + o).toNat = pc') (w : own_W p e En below kc ks Q T (mkF m pc' Ls st)) : own_W p e En below kc ks Q T (mkF m pc Ls st) :=
  own_W.step (fun _ q => XS.goto X.here hx rfl rfl hd ho hp q) w
theorem own_ifYes (X : Stand p l e R s m args below meth c T locs cells slots) (hx : p.tables.exec = Jvm.exec) {cd : Jvm.ClassFile.Cond} {x : Int32} {o : Int} (hd : decode c.code pc = .ok (.ifCond cd o, 3)) (hc : ifCond.holds cd x = true) {pc' : Nat} (ho : 0 ≤ (pc : Int) + o) (hp : ((pc : Int) + o).toNat = pc') (w : own_W p e En below kc ks Q T (mkF m pc' Ls st)) : own_W p e En below kc ks Q T (mkF m pc Ls (.int x :: st)) :=
  own_W.step (fun _ q => XS.ifYes X.here hx rfl rfl hd rfl hc ho hp q) w
theorem own_ifNo (X : Stand p l e R s m args below meth c T locs cells slots) (hx : p.tables.exec = Jvm.exec) {cd : Jvm.ClassFile.Cond} {x : Int32} {o : Int} (hd : decode c.code pc = .ok (.ifCond cd o, 3)) (hc : ifCond.holds cd x = false) (hp : pc + 3 = pc') (w : own_W p e En below kc ks Q T (mkF m pc' Ls st)) : own_W p e En below kc ks Q T (mkF m pc Ls (.int x :: st)) := by
  subst hp; exact own_W.step (fun _ q => XS.ifNo X.here hx rfl hd rfl hc q) w
theorem own_icmpYes (X : Stand p l e R s m args below meth c T locs cells slots) (hx : p.tables.exec = Jvm.exec) {cd : Jvm.ClassFile.Cond} {x y : Int32} {o : Int} (hd : decode c.code pc = .ok (.if_icmp cd o, 3)) (hc : if_icmp.holds cd x y = true) {pc' : Nat} (ho : 0 ≤ (pc : Int) + o) (hp : ((pc : Int) + o).toNat = pc') (w : own_W p e En below kc ks Q T (mkF m pc' Ls st)) : own_W p e En below kc ks Q T (mkF m pc Ls (.int y :: .int x :: st)) :=
  own_W.step (fun _ q => XS.icmpYes X.here hx rfl rfl hd rfl hc ho hp q) w
theorem own_icmpNo (X : Stand p l e R s m args below meth c T locs cells slots) (hx : p.tables.exec = Jvm.exec) {cd : Jvm.ClassFile.Cond} {x y : Int32} {o : Int} (hd : decode c.code pc = .ok (.if_icmp cd o, 3)) (hc : if_icmp.holds cd x y = false) (hp : pc + 3 = pc') (w : own_W p e En below kc ks Q T (mkF m pc' Ls st)) : own_W p e En below kc ks Q T (mkF m pc Ls (.int y :: .int x :: st)) := by
  subst hp; exact own_W.step (fun _ q => XS.icmpNo X.here hx rfl hd rfl hc q) w
theorem own_ifnullYes (X : Stand p l e R s m args below meth c T locs cells slots) (hx : p.tables.exec = Jvm.exec) {o : Int} (hd : decode c.code pc = .ok (.ifnull o, 3)) {pc' : Nat} (ho : 0 ≤ (pc : Int) + o) (hp : ((pc : Int) + o).toNat = pc') (w : own_W p e En below kc ks Q T (mkF m pc' Ls st)) : own_W p e En below kc ks Q T (mkF m pc Ls (.null :: st)) :=
  own_W.step (fun _ q => XS.ifnullYes X.here hx rfl rfl hd rfl ho hp q) w
theorem own_ifnullNo (X : Stand p l e R s m args below meth c T locs cells slots) (hx : p.tables.exec = Jvm.exec) {o : Int} (hd : decode c.code pc = .ok (.ifnull o, 3)) (hp : pc + 3 = pc') (w : own_W p e En below kc ks Q T (mkF m pc' Ls st)) : own_W p e En below kc ks Q T (mkF m pc Ls (.ref b :: st)) := by
  subst hp; exact own_W.step (fun _ q => XS.ifnullNo X.here hx rfl hd rfl q) w
theorem own_ifnonnullYes (X : Stand p l e R s m args below meth c T locs cells slots) (hx : p.tables.exec = Jvm.exec) {o : Int} (hd : decode c.code pc = .ok (.ifnonnull o, 3)) {pc' : Nat} (ho : 0 ≤ (pc : Int) + o) (hp : ((pc : Int) + o).toNat = pc') (w : own_W p e En below kc ks Q T (mkF m pc' Ls st)) : own_W p e En below kc ks Q T (mkF m pc Ls (.ref b :: st)) :=
  own_W.step (fun _ q => XS.ifnonnullYes X.here hx rfl rfl hd rfl ho hp q) w
theorem own_ifnonnullNo (X : Stand p l e R s m args below meth c T locs cells slots) (hx : p.tables.exec = Jvm.exec) {o : Int} (hd : decode c.code pc = .ok (.ifnonnull o, 3)) (hp : pc + 3 = pc') (w : own_W p e En below kc ks Q T (mkF m pc' Ls st)) : own_W p e En below kc ks Q T (mkF m pc Ls (.null :: st)) := by
  subst hp; exact own_W.step (fun _ q => XS.ifnonnullNo X.here hx rfl hd rfl q) w
/-- an array: its kind, its length, what each place holds -/
def own_A (Z : State) (h : Heap) (a : Addr) (ty : FieldType) (n : Nat) (f : Nat → Value) : Prop := ∃ c : Cell, Arr Z h a c ty ∧ c.slots.size = n ∧ n < 2 ^ 31 ∧ (∀ i, i < n → c.slots[i]? = some (f i)) ∧ ∀ i, i < n → fits ty (f i) = true
/-- the int j names the place i, which lies in an array of n places -/
def own_In (j : Int32) (i n : Nat) : Prop := j.toInt = (i : Int) ∧ i < n
variable {ty : FieldType} {n i : Nat} {f f' : Nat → Value} {j : Int32}
def own_k0 (_ : Nat) : Int32 := 0
def own_k0L (_ : Nat) : Int64 := 0
def own_up {α : Type} (f : Nat → α) (k : Nat) (x : α) (z : Nat) : α := if z = k then x else f z
theorem own_up_same {α : Type} (f : Nat → α) (k : Nat) (x : α) : own_up f k x k = x := if_pos rfl
theorem own_up_other {α : Type} (f : Nat → α) (k : Nat) (x : α) (z : Nat) (q : z ≠ k) : own_up f k x z = f z := if_neg q
theorem own_In.nat (q : own_In j i n) : j.toNatClampNeg = i := by
  show j.toInt.toNat = i
  rw [q.1]; rfl
theorem own_In.inb {cl : Cell} (q : own_In j i n) (S : cl.slots.size = n) : ¬ (j < 0 ∨ cl.slots.size ≤ j.toNatClampNeg) := by
  rw [q.nat, S]
  have q1 := q.1
  have q2 := q.2
  rintro (r | r)
  · rw [Int32.lt_iff_toInt_lt] at r
    have z : (0 : Int32).toInt = 0 := rfl
    omega
  · omega
theorem own_A.lt (F : own_A Z h a ty n f) : a < h.size := by obtain ⟨c, A, -⟩ := F; exact A.lt
theorem own_A.len (F : own_A Z h a ty n f) : n < 2 ^ 31 := by obtain ⟨c, -, -, q, -, -⟩ := F; exact q
theorem own_A.ext (F : own_A Z h a ty n f) (E : Ext h h') : own_A Z h' a ty n f := by obtain ⟨c, A, r⟩ := F; exact ⟨c, A.ext E, r⟩
theorem own_A.other {v : Value} (F : own_A Z h b ty n f) (W : Wr h h' a sl v) (q : b ≠ a) : own_A Z h' b ty n f := by obtain ⟨c, A, r⟩ := F; exact ⟨c, A.other W q, r⟩
theorem own_A.keep {ws : List Addr} (F : own_A Z h a ty n f) (K : Keep h h' ws) (q : a ∉ ws) : own_A Z h' a ty n f := by obtain ⟨c, A, r⟩ := F; exact ⟨c, ⟨K.2.1 a c A.1 q, A.2⟩, r⟩
theorem own_A.congr (F : own_A Z h a ty n f) (q : ∀ i, i < n → f i = f' i) : own_A Z h a ty n f' := by
  obtain ⟨c, A, r1, r2, r3, r4⟩ := F
  exact ⟨c, A, r1, r2, fun i hi => by rw [r3 i hi, q i hi], fun i hi => by rw [← q i hi]; exact r4 i hi⟩
theorem own_A.fit (F : own_A Z h a ty n f) {i : Nat} (hi : i < n) : fits ty (f i) = true := by obtain ⟨c, A, r1, r2, r3, r4⟩ := F; exact r4 i hi
theorem own_A.new {k : ClassId} {z : Int32} (A : Arr Z h a (newA k ty z) ty) (q : ¬ z < 0) (hn : z.toNatClampNeg = n) : own_A Z h a ty n (fun _ => defaultValue ty) := by
  subst hn
  refine ⟨_, A, sz_new _ _ _, (back32 q).2, fun i hi => ?_, fun i _ => by cases ty <;> rfl⟩
  show (Array.replicate z.toNatClampNeg (defaultValue ty))[i]? = _
  rw [Array.getElem?_replicate, if_pos hi]
theorem own_A.put {cl : Cell} {v : Value} (A : Arr Z h a cl ty) (S : cl.slots.size = n) (hn : n < 2 ^ 31) (H : ∀ i, i < n → cl.slots[i]? = some (f i)) (G : ∀ i, i < n → fits ty (f i) = true) (hv : fits ty v = true) (q : own_In j i n) (W : Wr h h' a j.toNatClampNeg v) : own_A Z h' a ty n (fun z => if z = i then v else f z) := by
  refine ⟨_, A.same W, by rw [sz_set]; exact S, hn, fun k hk => ?_, fun k hk => ?_⟩
  rotate_left
  · show fits ty (if k = i then v else f k) = true
    by_cases e : k = i
    · rw [if_pos e]; exact hv
    · rw [if_neg e]; exact G k hk
  show (cl.slots.setIfInBounds j.toNatClampNeg v)[k]? = some (if k = i then v else f k)
  rw [q.nat, Array.getElem?_setIfInBounds]
  by_cases e : i = k
  · subst e
    rw [if_pos rfl, if_pos (by rw [S]; exact hk), if_pos rfl]
  · rw [if_neg e, if_neg (fun z => e z.symm), H k hk]
theorem own_stI (X : Stand p l e R s m args below meth c T locs cells slots) (hx : p.tables.exec = Jvm.exec) (hZ : Z.Warmed39 s.vm) (eT : T.heap = h) (F : own_A Z h a .int n f) {x : Int32} (hi : own_In j i n) {g : JFrame} (hg : g.method = m) {rest : List Value} (hs : g.stack = .int x :: .int j :: .ref a :: rest) (hd : decode c.code g.pc = .ok (.iastore, 1)) :
    ∃ T' h', Stand p l e R s m args below meth c T' (locs ++ [⟨a, j.toNatClampNeg⟩]) cells slots ∧ T'.heap = h' ∧ Wr h h' a j.toNatClampNeg (.int (x)) ∧ own_A Z h' a .int n (fun z => if z = i then .int (x) else f z) ∧ ∀ target, Steps p.tables e below (T'.setTop { g with pc := g.pc + 1, stack := rest }) target → Steps p.tables e below (T.setTop g) target := by
  obtain ⟨cl, A, S, hn, H, G⟩ := F
  obtain ⟨T', h', X', e', W', st'⟩ := stI X hx hZ eT A (hi.inb S) hg hs hd
  exact ⟨T', h', X', e', W', own_A.put A S hn H G rfl hi W', st'⟩
theorem own_stJ (X : Stand p l e R s m args below meth c T locs cells slots) (hx : p.tables.exec = Jvm.exec) (hZ : Z.Warmed39 s.vm) (eT : T.heap = h) (F : own_A Z h a .long n f) {x : Int64} (hi : own_In j i n) {g : JFrame} (hg : g.method = m) {rest : List Value} (hs : g.stack = .long x :: .int j :: .ref a :: rest) (hd : decode c.code g.pc = .ok (.lastore, 1)) :
    ∃ T' h', Stand p l e R s m args below meth c T' (locs ++ [⟨a, j.toNatClampNeg⟩]) cells slots ∧ T'.heap = h' ∧ Wr h h' a j.toNatClampNeg (.long (x)) ∧ own_A Z h' a .long n (fun z => if z = i then .long (x) else f z) ∧ ∀ target, Steps p.tables e below (T'.setTop { g with pc := g.pc + 1, stack := rest }) target → Steps p.tables e below (T.setTop g) target := by
  obtain ⟨cl, A, S, hn, H, G⟩ := F
  obtain ⟨T', h', X', e', W', st'⟩ := stJ X hx hZ eT A (hi.inb S) hg hs hd
  exact ⟨T', h', X', e', W', own_A.put A S hn H G rfl hi W', st'⟩
theorem own_stB (X : Stand p l e R s m args below meth c T locs cells slots) (hx : p.tables.exec = Jvm.exec) (hZ : Z.Warmed39 s.vm) (eT : T.heap = h) (F : own_A Z h a .byte n f) {x : Int32} (hi : own_In j i n) {g : JFrame} (hg : g.method = m) {rest : List Value} (hs : g.stack = .int x :: .int j :: .ref a :: rest) (hd : decode c.code g.pc = .ok (.bastore, 1)) :
    ∃ T' h', Stand p l e R s m args below meth c T' (locs ++ [⟨a, j.toNatClampNeg⟩]) cells slots ∧ T'.heap = h' ∧ Wr h h' a j.toNatClampNeg (.int (x.toInt8.toInt32)) ∧ own_A Z h' a .byte n (fun z => if z = i then .int (x.toInt8.toInt32) else f z) ∧ ∀ target, Steps p.tables e below (T'.setTop { g with pc := g.pc + 1, stack := rest }) target → Steps p.tables e below (T.setTop g) target := by
  obtain ⟨cl, A, S, hn, H, G⟩ := F
  obtain ⟨T', h', X', e', W', st'⟩ := stB X hx hZ eT A (hi.inb S) hg hs hd
  exact ⟨T', h', X', e', W', own_A.put A S hn H G (fits_nar_byte _) hi W', st'⟩
theorem own_iaload (X : Stand p l e R s m args below meth c T locs cells slots) (hx : p.tables.exec = Jvm.exec) (hZ : Z.Warmed39 s.vm) (eT : T.heap = h) (F : own_A Z h a .int n f) (hi : own_In j i n) {v : Int32} (hv : f i = .int v) {g : JFrame} (hg : g.method = m) {rest : List Value} (hs : g.stack = .int j :: .ref a :: rest) (hd : decode c.code g.pc = .ok (.iaload, 1)) (w : own_W p e En below kc ks Q T { g with pc := g.pc + 1, stack := .int v :: rest }) : own_W p e En below kc ks Q T g := by
  obtain ⟨cl, A, S, hn, H, -⟩ := F
  exact own_W.step (X.iaload hx (j := j) (v := .int v) (by rw [eT]; exact A.1) (State.isArrayOf_alike hZ.alike A.2.1) A.2.2 (hi.inb S) (by rw [hi.nat, H i hi.2, hv]) (g := g) hg hs hd) w
theorem own_laload (X : Stand p l e R s m args below meth c T locs cells slots) (hx : p.tables.exec = Jvm.exec) (hZ : Z.Warmed39 s.vm) (eT : T.heap = h) (F : own_A Z h a .long n f) (hi : own_In j i n) {v : Int64} (hv : f i = .long v) {g : JFrame} (hg : g.method = m) {rest : List Value} (hs : g.stack = .int j :: .ref a :: rest) (hd : decode c.code g.pc = .ok (.laload, 1)) (w : own_W p e En below kc ks Q T { g with pc := g.pc + 1, stack := .long v :: rest }) : own_W p e En below kc ks Q T g := by
  obtain ⟨cl, A, S, hn, H, -⟩ := F
  exact own_W.step (X.laload hx (j := j) (v := .long v) (by rw [eT]; exact A.1) (State.isArrayOf_alike hZ.alike A.2.1) A.2.2 (hi.inb S) (by rw [hi.nat, H i hi.2, hv]) (g := g) hg hs hd) w
theorem own_baload (X : Stand p l e R s m args below meth c T locs cells slots) (hx : p.tables.exec = Jvm.exec) (hZ : Z.Warmed39 s.vm) (eT : T.heap = h) (F : own_A Z h a .byte n f) (hi : own_In j i n) {v : Int32} (hv : f i = .int v) {g : JFrame} (hg : g.method = m) {rest : List Value} (hs : g.stack = .int j :: .ref a :: rest) (hd : decode c.code g.pc = .ok (.baload, 1)) (w : own_W p e En below kc ks Q T { g with pc := g.pc + 1, stack := .int v :: rest }) : own_W p e En below kc ks Q T g := by
  obtain ⟨cl, A, S, hn, H, -⟩ := F
  exact own_W.step (X.baloadBytes hx (j := j) (v := .int v) (by rw [eT]; exact A.1) (State.isArrayOf_alike hZ.alike A.2.1) A.2.2 (hi.inb S) (by rw [hi.nat, H i hi.2, hv]) (g := g) hg hs hd) w
theorem own_alen (X : Stand p l e R s m args below meth c T locs cells slots) (hx : p.tables.exec = Jvm.exec) (hZ : Z.Warmed39 s.vm) (eT : T.heap = h) (F : own_A Z h a ty n f) {z : Int32} (hz : n.toInt32 = z) {g : JFrame} (hg : g.method = m) {rest : List Value} (hs : g.stack = .ref a :: rest) (hd : decode c.code g.pc = .ok (.arraylength, 1)) (w : own_W p e En below kc ks Q T { g with pc := g.pc + 1, stack := .int z :: rest }) : own_W p e En below kc ks Q T g := by
  obtain ⟨cl, A, S, hn, H, -⟩ := F
  subst hz S
  exact own_W.step (X.arraylength hx (by rw [eT]; exact A.1) (State.isArrayOf_alike hZ.alike A.2.1) (g := g) hg hs hd) w

/-- a constructor whose entry is resolved already (a nest mate's private one) -/
theorem own_ready {a0 : Array Value} {own : String} {index : Nat} {y : MethodName} (hZ : Z.Warmed39 s.vm) (hown : s.vm.findClass own = some m.cls) (hy : y.cls ≠ "java/lang/invoke/MethodHandle" ∧ y.cls ≠ "java/lang/invoke/VarHandle") (w : (Jvm.Cond.methodRef own index y).before a0 Z = true) (wi : (Jvm.Cond.instanceMethod y).before a0 Z = true) (ev : Env) :
    ∀ (U : State) (r : MethodId), s.WarmedH U.vm → s.methodNamed? y = some r → namesResolved U.vm m.cls index r.cls ∧ U.vm.methodReady m.cls index r := by
  intro U r hW hn
  obtain ⟨mk, methM, hnZ, -⟩ := Cond.instanceMethod_spec wi
  have hZU : Z.Warmed39 U.vm := wtrans hZ hW
  have h1 := Cond.methodRef_warmed39 hZU hnZ hy w
  have e0 : (Z.setVm s.vm).methodNamed? y = Z.methodNamed? y := State.methodNamed?_setVm hZ.alike y
  have e1 : s.methodNamed? y = (Z.setVm s.vm).methodNamed? y := rfl
  have e2 : mk = r := by rw [e1, e0, hnZ] at hn; exact Option.some.inj hn
  subst e2
  have e3 : (Z.setVm U.vm).methodNamed? y = some mk := by rw [State.methodNamed?_setVm hZU.alike y]; exact hnZ
  have hcur : (Z.setVm U.vm).vm.findClass own = some m.cls := by
    show U.vm.findClass own = _
    rw [hW.alike.findClass]; exact hown
  obtain ⟨m', c', hm, hready, hfind, hnr⟩ := Cond.methodRef_named ev hcur h1
  cases hm.symm.trans (State.methodFound?_of_named e3 hy)
  cases hfind.symm.trans (findClass_of_methodNamed e3)
  exact ⟨hnr, hready⟩
theorem own_specialRef (X : Stand p l e R s m args below meth c T locs cells slots) (hexec : p.tables.exec = Jvm.exec) (hZ : Z.Warmed39 s.vm) {a0 : Array Value} {own : String} {index : Nat} {y : MethodName} (hy1 : y.name = "<init>") (hown : s.vm.findClass own = some m.cls) (w : (Jvm.Cond.methodRef own index y).before a0 Z = true) (wi : (Jvm.Cond.instanceMethod y).before a0 Z = true)
    {bytes : ByteArray} {maxL : Nat} (wc : (Jvm.Cond.code y bytes maxL none).before a0 Z = true) (hy : y.cls ≠ "java/lang/invoke/MethodHandle" ∧ y.cls ≠ "java/lang/invoke/VarHandle")
    {W : Nat} {Pre : Pt → Array Value → Prop} {Post : Pt → Array Value → Option Value → Pt → Prop} (hK : Back l R p e below s args y 3 W Pre Post)
    {g : JFrame} (hg : g.method = m) (hsize : g.locals.size = c.maxLocals) {s₀ : State} (hcome : Steps p.tables e below s₀ (T.setTop g)) {a : Addr} {argsL rest : List Value}
    (hlen : ∀ sig, parseMethodDescriptor y.desc = some sig → argsL.length = sig.parameters.length) (hstack : g.stack = argsL.reverse ++ .ref a :: rest) (hW : 2 * g.monitorRoom + (rest.map fun v => v.category).sum ≤ W)
    (hdg : decode c.code g.pc = .ok (.invokespecial index, 3)) (hpre : ∀ vm₁, s.WarmedH vm₁ → Pre ⟨T.setVm vm₁, locs, cells, slots⟩ (.ref a :: argsL).toArray) :
    ∃ (v : Option Value) (vm₁ : Vm) (B : Pt), s.WarmedH vm₁ ∧ Stand p l e R s m args below meth c B.U B.locs B.cells B.slots ∧ Post ⟨T.setVm vm₁, locs, cells, slots⟩ (.ref a :: argsL).toArray v B ∧
      Steps p.tables e below s₀ (B.U.setTop { g with pc := g.pc + 3, stack := v.toList ++ rest }) :=
  (SCall.of_ready hexec hy1 (mvT hZ wi) (mvT hZ wc) (own_ready hZ hown hy w wi e)) X hK hg hsize hcome hlen hstack hW hdg hpre
theorem own_selP {a0 : Array Value} {y : MethodName} {n : Nat} (wp : (Jvm.Cond.privateMethod y).before a0 Z = true) (wi : (Jvm.Cond.instanceMethod y).before a0 Z = true) (wn : (Jvm.Cond.instantiable y.cls n).before a0 Z = true) (hy : y.cls ≠ "java/lang/invoke/MethodHandle" ∧ y.cls ≠ "java/lang/invoke/VarHandle") : (Jvm.Cond.selects y.cls y y).before a0 Z = true := by
  obtain ⟨mk, methM, hn, hm, hst, hab⟩ := Cond.instanceMethod_spec wi
  obtain ⟨c, k, hc, hk, -, hi, -⟩ := Cond.instantiable_spec wn
  have hcls : Z.vm.findClass y.cls = some mk.cls := findClass_of_methodNamed hn
  cases hc.symm.trans hcls
  have hf := State.methodFound?_of_named hn hy
  have hs : selectMethod {} Z.vm mk.cls mk = .method mk := selectMethod_private hm (Cond.privateMethod_at wp mk methM hn hm)
  have hki : k.isInterface = false := (Bool.or_eq_false_iff.mp hi).1
  simp [Cond.before, Cond.holds, Cond.value, hcls, hf, hn, hs, hk, hki]
end OwnW

/-! the matching's arrays as functions -/
def own_cst (x : Int32) (_ : Nat) : Int32 := x
def own_fl (f : Nat → Int32) (x : Int32) (k : Int) (z : Nat) : Int32 := if (z : Int) < k then x else f z
theorem own_fl0 (f : Nat → Int32) (x : Int32) (z : Nat) : f z = own_fl f x (0 : Int32).toInt z := by
  unfold own_fl
  rw [if_neg (by rw [show (0 : Int32).toInt = 0 from rfl]; omega)]
theorem own_fls (f : Nat → Int32) (x : Int32) (i k : Int) (z : Nat) (hk : k = i + 1) (j : Nat) (hj : (j : Int) = i) : (if z = j then Value.int x else .int (own_fl f x i z)) = .int (own_fl f x k z) := by
  subst hk
  unfold own_fl
  by_cases q : z = j
  · rw [if_pos q, if_pos (by omega)]
  · rw [if_neg q]
    by_cases r : (z : Int) < i
    · rw [if_pos r, if_pos (by omega)]
    · rw [if_neg r, if_neg (by omega)]
theorem own_fle (f : Nat → Int32) (x : Int32) (i : Int) (n z : Nat) (hz : z < n) (hi : (n : Int) ≤ i) : own_fl f x i z = own_cst x z := by
  unfold own_fl own_cst
  rw [if_pos (by omega)]
theorem own_inc (i : Int32) (h : 0 ≤ i.toInt ∧ i.toInt < 1000) : (i + (1 : Int32)).toInt = i.toInt + 1 := by
  have e := c_iadd i (1 : Int32)
  have r := rng32 (i + (1 : Int32))
  have t1 : (1 : Int32).toInt = 1 := by decide
  omega
theorem own_dec (i : Int32) (h : 1 ≤ i.toInt ∧ i.toInt < 1000) : (i - (1 : Int32)).toInt = i.toInt - 1 := by
  have e := c_isub i (1 : Int32)
  have r := rng32 (i - (1 : Int32))
  have t1 : (1 : Int32).toInt = 1 := by decide
  omega
theorem own_2 (i : Int32) (h : 0 ≤ i.toInt ∧ i.toInt < 1000) : ((2 : Int32) * i).toInt = 2 * i.toInt := by
  have e := c_imul (2 : Int32) i
  have r := rng32 ((2 : Int32) * i)
  have t1 : (2 : Int32).toInt = 2 := by decide
  rw [t1] at e
  omega
theorem own_21 (i : Int32) (h : 0 ≤ i.toInt ∧ i.toInt < 1000) : ((2 : Int32) * i + (1 : Int32)).toInt = 2 * i.toInt + 1 := by
  have e := own_2 i h
  have a := c_iadd ((2 : Int32) * i) (1 : Int32)
  have r := rng32 ((2 : Int32) * i + (1 : Int32))
  have t1 : (1 : Int32).toInt = 1 := by decide
  omega
theorem own_I2 {j : Int32} {k n m : Nat} (h : own_In j k n) (hn : n ≤ 100) (hm : 2 * n ≤ m) : own_In ((2 : Int32) * j) (2 * k) m := by
  have h1 := h.1
  have h2 := h.2
  refine ⟨?_, by omega⟩
  rw [own_2 j (by omega)]
  omega
theorem own_I21 {j : Int32} {k n m : Nat} (h : own_In j k n) (hn : n ≤ 100) (hm : 2 * n ≤ m) : own_In ((2 : Int32) * j + (1 : Int32)) (2 * k + 1) m := by
  have h1 := h.1
  have h2 := h.2
  refine ⟨?_, by omega⟩
  rw [own_21 j (by omega)]
  omega
theorem own_Iw {j : Int32} {k n m : Nat} (h : own_In j k n) (hm : n ≤ m) : own_In j k m := ⟨h.1, by have := h.2; omega⟩
theorem own_Id {j : Int32} {k q n m : Nat} (h : own_In j k n) (hq : q + 1 = k) (hn : n ≤ 100) (hm : n ≤ m) : own_In (j - (1 : Int32)) q m := by
  have h1 := h.1
  have h2 := h.2
  refine ⟨?_, by omega⟩
  rw [own_dec j (by omega)]
  omega
def own_at (fE fP : Nat → Int32) (x pz : Nat) : Int32 := if fP x = (-1 : Int32) then (-1 : Int32) else fE pz
def own_mate (fN : Nat → Int32) (p : Nat) (w : Int32) : Int32 := if fN (2 * p) = w then fN (2 * p + 1) else fN (2 * p)
def own_free (y : Int32) : Int32 := if y = (-1 : Int32) then 1 else 0
def own_ne4 (a b c d : Addr) : Prop := a ≠ b ∧ a ≠ c ∧ a ≠ d ∧ b ≠ c ∧ b ≠ d ∧ c ≠ d
/-! the matching of no, one, two edges -/
def own_S0 (n : Nat) (us : Int32) (fP : Nat → Int32) : Prop := us.toInt = 0 ∧ ∀ z : Nat, z < n → fP z = (-1 : Int32)
def own_S1 (n : Nat) (us : Int32) (fE fN fP : Nat → Int32) (e a b : Int32) : Prop := us.toInt = 1 ∧ fE 0 = e ∧ fN 0 = a ∧ fN 1 = b ∧ ∀ z : Nat, z < n → (((z : Int) = a.toInt ∨ (z : Int) = b.toInt) → fP z = (0 : Int32)) ∧ (¬ ((z : Int) = a.toInt ∨ (z : Int) = b.toInt) → fP z = (-1 : Int32))
def own_S2 (n : Nat) (us : Int32) (fE fN fP : Nat → Int32) (e a b e' a' b' : Int32) : Prop := us.toInt = 2 ∧ fE 0 = e ∧ fE 1 = e' ∧ fN 0 = a ∧ fN 1 = b ∧ fN 2 = a' ∧ fN 3 = b' ∧ ∀ z : Nat, z < n → (((z : Int) = a.toInt ∨ (z : Int) = b.toInt) → fP z = (0 : Int32)) ∧ (((z : Int) = a'.toInt ∨ (z : Int) = b'.toInt) → fP z = (1 : Int32)) ∧ (¬ ((z : Int) = a.toInt ∨ (z : Int) = b.toInt) → ¬ ((z : Int) = a'.toInt ∨ (z : Int) = b'.toInt) → fP z = (-1 : Int32))
theorem own_us0 {x : Int32} (h : x.toInt = 0) : x = (0 : Int32) := Int32.toInt_inj.mp (by rw [h]; rfl)
theorem own_us1 {x : Int32} (h : x.toInt = 1) : x = (1 : Int32) := Int32.toInt_inj.mp (by rw [h]; decide)
theorem own_s0 (n : Nat) : own_S0 n (0 : Int32) (own_cst (-1 : Int32)) := ⟨rfl, fun _ _ => rfl⟩
theorem own_add0 {n : Nat} {us : Int32} {fE fN fP : Nat → Int32} (h : own_S0 n us fP) (e a b : Int32) {xa xb : Nat} (ha : own_In a xa n) (hb : own_In b xb n) : own_S1 n (us + (1 : Int32)) (own_up fE 0 e) (own_up (own_up fN (2 * 0) a) (2 * 0 + 1) b) (own_up (own_up fP xa us) xb us) e a b := by
  obtain ⟨h1, h2⟩ := h
  have u := own_us0 h1
  refine ⟨by rw [own_inc us (by omega)]; omega, rfl, rfl, rfl, fun z hz => ?_⟩
  have q := h2 z hz
  have ha1 := ha.1
  have hb1 := hb.1
  subst u
  unfold own_up
  constructor
  · intro r
    by_cases r1 : z = xb
    · rw [if_pos r1]
    · rw [if_neg r1, if_pos (by omega)]
  · intro r
    rw [if_neg (by omega), if_neg (by omega), q]
theorem own_add1 {n : Nat} {us : Int32} {fE fN fP : Nat → Int32} {e0 a0 b0 : Int32} (h : own_S1 n us fE fN fP e0 a0 b0) (e a b : Int32) {xa xb : Nat} (ha : own_In a xa n) (hb : own_In b xb n) (d : a0.toInt ≠ a.toInt ∧ a0.toInt ≠ b.toInt ∧ b0.toInt ≠ a.toInt ∧ b0.toInt ≠ b.toInt) : own_S2 n (us + (1 : Int32)) (own_up fE 1 e) (own_up (own_up fN (2 * 1) a) (2 * 1 + 1) b) (own_up (own_up fP xa us) xb us) e0 a0 b0 e a b := by
  obtain ⟨h1, h2, h3, h4, h5⟩ := h
  have u := own_us1 h1
  refine ⟨by rw [own_inc us (by omega)]; omega, h2, rfl, h3, h4, rfl, rfl, fun z hz => ?_⟩
  obtain ⟨q1, q2⟩ := h5 z hz
  have ha1 := ha.1
  have hb1 := hb.1
  subst u
  unfold own_up
  refine ⟨fun r => ?_, fun r => ?_, fun r s => ?_⟩
  · rw [if_neg (by omega), if_neg (by omega), q1 r]
  · by_cases r1 : z = xb
    · rw [if_pos r1]
    · rw [if_neg r1, if_pos (by omega)]
  · rw [if_neg (by omega), if_neg (by omega), q2 r]
theorem own_rm1 {n : Nat} {us : Int32} {fE fN fP : Nat → Int32} {e a b : Int32} (h : own_S1 n us fE fN fP e a b) {ya yb : Nat} (ha : own_In a ya n) (hb : own_In b yb n) : own_S0 n (us - (1 : Int32)) (own_up (own_up fP ya (-1 : Int32)) yb (-1 : Int32)) := by
  obtain ⟨h1, h2, h3, h4, h5⟩ := h
  refine ⟨by rw [own_dec us (by omega)]; omega, fun z hz => ?_⟩
  obtain ⟨q1, q2⟩ := h5 z hz
  have ha1 := ha.1
  have hb1 := hb.1
  unfold own_up
  by_cases r1 : z = yb
  · rw [if_pos r1]
  · rw [if_neg r1]
    by_cases r2 : z = ya
    · rw [if_pos r2]
    · rw [if_neg r2, q2 (by omega)]
theorem own_rm2l {n : Nat} {us : Int32} {fE fN fP : Nat → Int32} {e a b e' a' b' : Int32} (h : own_S2 n us fE fN fP e a b e' a' b') {ya yb : Nat} (ha : own_In a' ya n) (hb : own_In b' yb n) (d : a.toInt ≠ a'.toInt ∧ a.toInt ≠ b'.toInt ∧ b.toInt ≠ a'.toInt ∧ b.toInt ≠ b'.toInt) : own_S1 n (us - (1 : Int32)) fE fN (own_up (own_up fP ya (-1 : Int32)) yb (-1 : Int32)) e a b := by
  obtain ⟨h1, h2, h3, h4, h5, h6, h7, h8⟩ := h
  refine ⟨by rw [own_dec us (by omega)]; omega, h2, h4, h5, fun z hz => ?_⟩
  obtain ⟨q1, q2, q3⟩ := h8 z hz
  have ha1 := ha.1
  have hb1 := hb.1
  unfold own_up
  refine ⟨fun r => ?_, fun r => ?_⟩
  · rw [if_neg (by omega), if_neg (by omega), q1 r]
  · by_cases r1 : z = yb
    · rw [if_pos r1]
    · rw [if_neg r1]
      by_cases r2 : z = ya
      · rw [if_pos r2]
      · rw [if_neg r2, q3 r (by omega)]
theorem own_rm2m {n : Nat} {us : Int32} {fE fN fP : Nat → Int32} {e a b e' a' b' : Int32} (h : own_S2 n us fE fN fP e a b e' a' b') {xa ya yb za zb : Nat} (hx : fP xa = (0 : Int32)) (ha : own_In a ya n) (hb : own_In b yb n) (ha' : own_In a' za n) (hb' : own_In b' zb n) : own_S1 n (us - (1 : Int32)) (own_up fE 0 (fE 1)) (own_up (own_up fN (2 * 0) (fN (2 * 1))) (2 * 0 + 1) (fN (2 * 1 + 1))) (own_up (own_up (own_up (own_up fP ya (-1 : Int32)) yb (-1 : Int32)) za (fP xa)) zb (fP xa)) e' a' b' := by
  obtain ⟨h1, h2, h3, h4, h5, h6, h7, h8⟩ := h
  refine ⟨by rw [own_dec us (by omega)]; omega, h3, h6, h7, fun z hz => ?_⟩
  obtain ⟨q1, q2, q3⟩ := h8 z hz
  have y1 := ha.1
  have y2 := hb.1
  have y3 := ha'.1
  have y4 := hb'.1
  rw [hx]
  unfold own_up
  refine ⟨fun r => ?_, fun r => ?_⟩
  · by_cases r1 : z = zb
    · rw [if_pos r1]
    · rw [if_neg r1, if_pos (by omega)]
  · rw [if_neg (by omega), if_neg (by omega)]
    by_cases r1 : z = yb
    · rw [if_pos r1]
    · rw [if_neg r1]
      by_cases r2 : z = ya
      · rw [if_pos r2]
      · rw [if_neg r2, q3 (by omega) r]
theorem own_in_of {x : Int32} {n : Nat} (h0 : 0 ≤ x.toInt) (h1 : x.toInt < (n : Int)) : own_In x x.toInt.toNat n := ⟨by omega, by omega⟩
/-! the law's numbers -/
theorem own_rr (p : Int32) : 0 ≤ ((p &&& (2147483647 : Int32)) % (6 : Int32)).toInt ∧ ((p &&& (2147483647 : Int32)) % (6 : Int32)).toInt < 6 := by
  have pe1 := c_mask p (2147483647 : Int32) 31 (by decide) (by decide)
  have pe2 := c_irem (p &&& (2147483647 : Int32)) (6 : Int32) 6 (by decide)
  omega
theorem own_v (r k : Int32) (hr : 0 ≤ r.toInt ∧ r.toInt < 6) (hk : 0 ≤ k.toInt ∧ k.toInt ≤ 5) : ((r + k) % (6 : Int32)).toInt = (r.toInt + k.toInt) % 6 := by
  have pe1 := c_iadd r k
  have r1 := rng32 (r + k)
  have pe2 := c_irem (r + k) (6 : Int32) 6 (by decide)
  rw [pe2.1 (by omega)]
  omega
theorem own_v3 (r p : Int32) (hr : 0 ≤ r.toInt ∧ r.toInt < 6) : ((r + (3 : Int32) + (p &&& (1 : Int32))) % (6 : Int32)).toInt = (r.toInt + 3) % 6 ∨ ((r + (3 : Int32) + (p &&& (1 : Int32))) % (6 : Int32)).toInt = (r.toInt + 4) % 6 := by
  have e0 := c_mask p (1 : Int32) 1 (by decide) (by decide)
  have t3 : (3 : Int32).toInt = 3 := by decide
  have pe1 := c_iadd r (3 : Int32)
  have r1 := rng32 (r + (3 : Int32))
  have pe2 := c_iadd (r + (3 : Int32)) (p &&& (1 : Int32))
  have r2 := rng32 (r + (3 : Int32) + (p &&& (1 : Int32)))
  have e3 := c_irem (r + (3 : Int32) + (p &&& (1 : Int32))) (6 : Int32) 6 (by decide)
  rw [e3.1 (by omega)]
  omega
theorem own_md (p : Int32) : (p &&& (3 : Int32)) = (0 : Int32) ∨ (p &&& (3 : Int32)) = (1 : Int32) ∨ (p &&& (3 : Int32)) = (2 : Int32) ∨ (p &&& (3 : Int32)) = (3 : Int32) := by
  have e := c_mask p (3 : Int32) 2 (by decide) (by decide)
  have t0 : (0 : Int32).toInt = 0 := by decide
  have t1 : (1 : Int32).toInt = 1 := by decide
  have t2 : (2 : Int32).toInt = 2 := by decide
  have t3 : (3 : Int32).toInt = 3 := by decide
  simp only [← Int32.toInt_inj]
  omega
/-- four vertices, all unlike -/
def own_D (a b c d : Int) : Prop := (0 ≤ a ∧ a < 6) ∧ (0 ≤ b ∧ b < 6) ∧ (0 ≤ c ∧ c < 6) ∧ (0 ≤ d ∧ d < 6) ∧ a ≠ b ∧ a ≠ c ∧ a ≠ d ∧ b ≠ c ∧ b ≠ d ∧ c ≠ d
/-- what 'at' finds: e for the vertices x and y if the edge is there -/
def own_F (fE fP : Nat → Int32) (v0 v1 v2 v3 pe1 pe2 c1 c2 : Int32) : Prop := ∀ z : Nat, z < 6 →
  (¬ c1 = 0 → ((z : Int) = v0.toInt ∨ (z : Int) = v1.toInt) → ∃ k, own_In (fP z) k 16 ∧ fE k = pe1) ∧ (¬ c2 = 0 → ((z : Int) = v2.toInt ∨ (z : Int) = v3.toInt) → ∃ k, own_In (fP z) k 16 ∧ fE k = pe2) ∧
  (¬ (¬ c1 = 0 ∧ ((z : Int) = v0.toInt ∨ (z : Int) = v1.toInt)) → ¬ (¬ c2 = 0 ∧ ((z : Int) = v2.toInt ∨ (z : Int) = v3.toInt)) → fP z = (-1 : Int32))
def own_ab (a b x y : Int32) : Prop := (a = x ∧ b = y) ∨ (a = y ∧ b = x)
theorem own_F2 {us : Int32} {fE fN fP : Nat → Int32} {pe1 a1 b1 pe2 a2 b2 v0 v1 v2 v3 : Int32} (h : own_S2 6 us fE fN fP pe1 a1 b1 pe2 a2 b2) (h1 : own_ab a1 b1 v0 v1) (h2 : own_ab a2 b2 v2 v3) : own_F fE fP v0 v1 v2 v3 pe1 pe2 1 1 := by
  obtain ⟨q1, q2, q3, -, -, -, -, q8⟩ := h
  intro z hz
  obtain ⟨r1, r2, r3⟩ := q8 z hz
  have w1 : ((z : Int) = v0.toInt ∨ (z : Int) = v1.toInt) ↔ ((z : Int) = a1.toInt ∨ (z : Int) = b1.toInt) := by rcases h1 with ⟨rfl, rfl⟩ | ⟨rfl, rfl⟩ <;> omega
  have w2 : ((z : Int) = v2.toInt ∨ (z : Int) = v3.toInt) ↔ ((z : Int) = a2.toInt ∨ (z : Int) = b2.toInt) := by rcases h2 with ⟨rfl, rfl⟩ | ⟨rfl, rfl⟩ <;> omega
  rw [w1, w2]
  refine ⟨fun _ y => ⟨0, ⟨by rw [r1 y]; rfl, by decide⟩, q2⟩, fun _ y => ⟨1, ⟨by rw [r2 y]; decide, by decide⟩, q3⟩, fun y1 y2 => r3 (fun y => y1 ⟨by decide, y⟩) (fun y => y2 ⟨by decide, y⟩)⟩
theorem own_F1 {us : Int32} {fE fN fP : Nat → Int32} {pe1 a1 b1 v0 v1 : Int32} (h : own_S1 6 us fE fN fP pe1 a1 b1) (h1 : own_ab a1 b1 v0 v1) (v2 v3 pe2 : Int32) : own_F fE fP v0 v1 v2 v3 pe1 pe2 1 0 := by
  obtain ⟨q1, q2, -, -, q8⟩ := h
  intro z hz
  obtain ⟨r1, r3⟩ := q8 z hz
  have w1 : ((z : Int) = v0.toInt ∨ (z : Int) = v1.toInt) ↔ ((z : Int) = a1.toInt ∨ (z : Int) = b1.toInt) := by rcases h1 with ⟨rfl, rfl⟩ | ⟨rfl, rfl⟩ <;> omega
  rw [w1]
  refine ⟨fun _ y => ⟨0, ⟨by rw [r1 y]; rfl, by decide⟩, q2⟩, fun y => absurd rfl y, fun y1 _ => r3 (fun y => y1 ⟨by decide, y⟩)⟩
theorem own_Fb {us : Int32} {fE fN fP : Nat → Int32} {pe2 a2 b2 v2 v3 : Int32} (h : own_S1 6 us fE fN fP pe2 a2 b2) (h2 : own_ab a2 b2 v2 v3) (v0 v1 pe1 : Int32) : own_F fE fP v0 v1 v2 v3 pe1 pe2 0 1 := by
  obtain ⟨q1, q2, -, -, q8⟩ := h
  intro z hz
  obtain ⟨r1, r3⟩ := q8 z hz
  have w1 : ((z : Int) = v2.toInt ∨ (z : Int) = v3.toInt) ↔ ((z : Int) = a2.toInt ∨ (z : Int) = b2.toInt) := by rcases h2 with ⟨rfl, rfl⟩ | ⟨rfl, rfl⟩ <;> omega
  rw [w1]
  refine ⟨fun y => absurd rfl y, fun _ y => ⟨0, ⟨by rw [r1 y]; rfl, by decide⟩, q2⟩, fun _ y1 => r3 (fun y => y1 ⟨by decide, y⟩)⟩
theorem own_F0 {us : Int32} {fP : Nat → Int32} (h : own_S0 6 us fP) (fE : Nat → Int32) (v0 v1 v2 v3 pe1 pe2 : Int32) : own_F fE fP v0 v1 v2 v3 pe1 pe2 0 0 := fun z hz => ⟨fun y => absurd rfl y, fun y => absurd rfl y, fun _ _ => h.2 z hz⟩
theorem own_Fba {us : Int32} {fE fN fP : Nat → Int32} {pe2 a2 b2 pe1 a1 b1 v0 v1 v2 v3 : Int32} (h : own_S2 6 us fE fN fP pe2 a2 b2 pe1 a1 b1) (h1 : own_ab a1 b1 v0 v1) (h2 : own_ab a2 b2 v2 v3) : own_F fE fP v0 v1 v2 v3 pe1 pe2 1 1 := fun z hz => by
  obtain ⟨x1, x2, x3⟩ := own_F2 h h2 h1 z hz
  exact ⟨x2, x1, fun y1 y2 => x3 y2 y1⟩
theorem own_law {fE fP : Nat → Int32} {v0 v1 v2 v3 pe1 pe2 c1 c2 q ex : Int32} (h : own_F fE fP v0 v1 v2 v3 pe1 pe2 c1 c2) (hq : 0 ≤ q.toInt ∧ q.toInt < 6)
    (hex : (¬ c1 = 0 ∧ (q = v0 ∨ q = v1) ∧ ex = pe1) ∨ (¬ (¬ c1 = 0 ∧ (q = v0 ∨ q = v1)) ∧ ¬ c2 = 0 ∧ (q = v2 ∨ q = v3) ∧ ex = pe2) ∨ (¬ (¬ c1 = 0 ∧ (q = v0 ∨ q = v1)) ∧ ¬ (¬ c2 = 0 ∧ (q = v2 ∨ q = v3)) ∧ ex = (-1 : Int32))) :
    ∃ pz, (fP q.toInt.toNat = (-1 : Int32) ∨ own_In (fP q.toInt.toNat) pz 16) ∧ own_at fE fP q.toInt.toNat pz = ex := by
  obtain ⟨x1, x2, x3⟩ := h q.toInt.toNat (by omega)
  have e : ((q.toInt.toNat : Nat) : Int) = q.toInt := by omega
  rw [e, Int32.toInt_inj, Int32.toInt_inj] at x1 x3
  rw [e, Int32.toInt_inj, Int32.toInt_inj] at x2
  rw [Int32.toInt_inj, Int32.toInt_inj] at x3
  have key : ∀ k, own_In (fP q.toInt.toNat) k 16 → own_at fE fP q.toInt.toNat k = fE k := fun k hk => by
    unfold own_at
    rw [if_neg]
    intro z
    have := hk.1
    rw [z, show (-1 : Int32).toInt = -1 from by decide] at this
    omega
  rcases hex with ⟨y1, y2, rfl⟩ | ⟨y0, y1, y2, rfl⟩ | ⟨y0, y1, rfl⟩
  · obtain ⟨k, hk, rfl⟩ := x1 y1 y2
    exact ⟨k, Or.inr hk, key k hk⟩
  · obtain ⟨k, hk, rfl⟩ := x2 y1 y2
    exact ⟨k, Or.inr hk, key k hk⟩
  · have z := x3 y0 y1
    exact ⟨0, Or.inl z, by unfold own_at; rw [if_pos z]⟩
theorem d3_0 : decode jdk_65_method_103_code 0 = .ok (.iconst 0, 1) := by decide +kernel
theorem d3_1 : decode jdk_65_method_103_code 1 = .ok (.istore_n 2, 1) := by decide +kernel
theorem d3_2 : decode jdk_65_method_103_code 2 = .ok (.aload_n 0, 1) := by decide +kernel
theorem d3_3 : decode jdk_65_method_103_code 3 = .ok (.arraylength, 1) := by decide +kernel
theorem d3_4 : decode jdk_65_method_103_code 4 = .ok (.istore_n 3, 1) := by decide +kernel
theorem d3_5 : decode jdk_65_method_103_code 5 = .ok (.iload_n 2, 1) := by decide +kernel
theorem d3_6 : decode jdk_65_method_103_code 6 = .ok (.iload_n 3, 1) := by decide +kernel
theorem d3_7 : decode jdk_65_method_103_code 7 = .ok (.if_icmp .ge 13, 3) := by decide +kernel
theorem d3_10 : decode jdk_65_method_103_code 10 = .ok (.aload_n 0, 1) := by decide +kernel
theorem d3_11 : decode jdk_65_method_103_code 11 = .ok (.iload_n 2, 1) := by decide +kernel
theorem d3_12 : decode jdk_65_method_103_code 12 = .ok (.iload_n 1, 1) := by decide +kernel
theorem d3_13 : decode jdk_65_method_103_code 13 = .ok (.iastore, 1) := by decide +kernel
theorem d3_14 : decode jdk_65_method_103_code 14 = .ok (.iinc 2 1, 3) := by decide +kernel
theorem d3_17 : decode jdk_65_method_103_code 17 = .ok (.goto (-12), 3) := by decide +kernel
theorem d3_20 : decode jdk_65_method_103_code 20 = .ok (.return_, 1) := by decide +kernel
theorem own_pn_java_util_Arrays : plainName "java/util/Arrays" = true := by first | (simp [plainName, overriddenIn]; done) | decide +kernel
theorem ef_3 (m : MethodId) (ar : Addr) (pv : Int32) : entryFrame m #[(.ref ar), (.int pv)] 4 = mkF m 0 #[.val (.ref ar), .val (.int pv), .unset, .unset] [] := by first | (simp [entryFrame, mkF, argsToLocals, Value.category]; done) | rfl
def Q3 (Z : State) (ar : Addr) (pv : Int32) (nn : Nat) (fa : Nat → Int32) (h0 : Heap) (n0 : Nat) (v : Option Value) (h : Heap) (L : List Loc) : Prop := v = none ∧ Fr n0 L ∧ Keep h0 h [ar] ∧ own_A Z h ar .int (nn) (fun z => .int (own_cst pv z))
set_option maxRecDepth 65536 in
set_option maxHeartbeats 40000000 in
theorem rm3 (l : Launch) (Z : State) (a0 : Array Value) (hw : ∀ d ∈ tables_1, d.before a0 Z = true) (ws : List Jvm.Cond) (ar : Addr) (pv : Int32) (nn : Nat) (fa : Nat → Int32) (h0 : Heap) (n0 : Nat) (Z0 : n0 ≤ h0.size) (f_A_ar : own_A Z h0 ar .int (nn) (fun z => .int (fa z))) (g_ar : n0 ≤ ar) (hn : nn ≤ 64) :
    MetFree l (⟨"java/util/Arrays", "fill", "([II)V"⟩ : MethodName) (head1 (Jvm.Cond.code (⟨"java/util/Arrays", "fill", "([II)V"⟩ : MethodName) jdk_65_method_103_code 4 none :: ws) ({ frames := 0, cells := 0, slots := 0, locals := 0 } : Room)) (fun avs U => avs = #[(.ref ar), (.int pv)] ∧ Z.Warmed39 U.vm ∧ U.heap = h0) (fun _ _ _ _ _ => True) (fun _ U o U' => ∃ v L, o = .returned v ∧ Q3 Z ar pv nn fa h0 n0 v U'.heap L ∧ FrameEnd U o U' L ({ frames := 0, cells := 0, slots := 0, locals := 0 } : Room).cells ({ frames := 0, cells := 0, slots := 0, locals := 0 } : Room).slots) := by
  refine MetFree.of_bodySF (plainFor_of_name own_pn_java_util_Arrays) hisR ?_
  intro p e s m args below meth c s₁ Bd hml0 hP hK
  obtain ⟨rfl, hZ, hh⟩ := hP
  have hx := Bd.exec
  have hby := Bd.bytes
  have hml : c.maxLocals = 4 := hml0
  have hown : s.vm.findClass "java/util/Arrays" = some m.cls := findClass_of_methodNamed Bd.named
  have hnm := (name_of_methodNamed Bd.named Bd.method).1
  have hlk := Bd.notSynchronized
  have hret := Bd.returns
  have X0 : Stand p l e ({ frames := 0, cells := 0, slots := 0, locals := 0 } : Room) s m #[(.ref ar), (.int pv)] below meth c s₁ [] 0 0 := Stand.of_body Bd
  have e0 : s₁.heap = h0 := by rw [← hh, Bd.state]; rfl
  have N0 := Fr.nil n0
  show own_W p e (FrameEnd s) below ({ frames := 0, cells := 0, slots := 0, locals := 0 } : Room).cells ({ frames := 0, cells := 0, slots := 0, locals := 0 } : Room).slots (Q3 Z ar pv nn fa h0 n0) s₁ (entryFrame m #[(.ref ar), (.int pv)] 4)
  rw [ef_3]
  have K0 : Keep h0 h0 [ar] := Keep.refl h0 _
  have A0 : own_A Z h0 ar .int (nn) (fun z => .int (own_fl fa pv (0 : Int32).toInt z)) := f_A_ar.congr (fun z _ => congrArg Value.int (own_fl0 fa pv z))
  have hlen : (Int32.ofNat nn).toInt = (nn : Int) := Int32.toInt_ofNat_of_lt (by omega)
  refine own_iconst X0 hx (hb hby d3_0) (0 : Int32) (by first | rfl | decide) (rfl : 0 + 1 = 1) ?_
  refine own_istoreN X0 hx (hb hby d3_1) (l' := #[.val (.ref ar), .val (.int pv), .val (.int (0 : Int32)), .unset]) rfl (rfl : 1 + 1 = 2) ?_
  refine own_aloadN X0 hx (hb hby d3_2) (v := (.ref ar)) rfl rfl (rfl : 2 + 1 = 3) ?_
  refine own_alen X0 hx hZ e0 A0 (z := (Int32.ofNat (nn))) rfl (g := (mkF m 3 #[.val (.ref ar), .val (.int pv), .val (.int (0 : Int32)), .unset] [(.ref ar)])) rfl rfl (hb hby d3_3) ?_
  show own_W p e (FrameEnd s) below ({ frames := 0, cells := 0, slots := 0, locals := 0 } : Room).cells ({ frames := 0, cells := 0, slots := 0, locals := 0 } : Room).slots (Q3 Z ar pv nn fa h0 n0) s₁ (mkF m 4 #[.val (.ref ar), .val (.int pv), .val (.int (0 : Int32)), .unset] [(.int (Int32.ofNat (nn)))])
  refine own_istoreN X0 hx (hb hby d3_4) (l' := #[.val (.ref ar), .val (.int pv), .val (.int (0 : Int32)), .val (.int (Int32.ofNat (nn)))]) rfl (rfl : 4 + 1 = 5) ?_
  have J5 : ∀ (fuel : Nat) (ii : Int32) (TJ5 : State) (hJ5 : Heap) (LJ5 : List Loc), (((nn : Int) - ii.toInt).toNat < fuel) → ∀ (XJ5 : Stand p l e ({ frames := 0, cells := 0, slots := 0, locals := 0 } : Room) s m #[(.ref ar), (.int pv)] below meth c TJ5 LJ5 0 0), ∀ (eJ5 : TJ5.heap = hJ5), ∀ (NJ5 : Fr n0 LJ5), ∀ (zJ5 : n0 ≤ hJ5.size), ∀ (fJ5_0 : own_A Z hJ5 ar .int (nn) (fun z => .int (own_fl fa pv ii.toInt z))), ∀ (fJ5_1 : Keep h0 hJ5 [ar]), ∀ (hii : 0 ≤ ii.toInt ∧ ii.toInt ≤ (nn : Int)), own_W p e (FrameEnd s) below ({ frames := 0, cells := 0, slots := 0, locals := 0 } : Room).cells ({ frames := 0, cells := 0, slots := 0, locals := 0 } : Room).slots (Q3 Z ar pv nn fa h0 n0) TJ5 (mkF m 5 #[.val (.ref ar), .val (.int pv), .val (.int ii), .val (.int (Int32.ofNat (nn)))] []) := by
    intro fuel
    induction fuel with
    | zero => intro ii TJ5 hJ5 LJ5 hfuel; exact absurd hfuel (Nat.not_lt_zero _)
    | succ fuel ih =>
      intro ii TJ5 hJ5 LJ5 hfuel XJ5 eJ5 NJ5 zJ5 fJ5_0 fJ5_1 hii
      refine own_iloadN XJ5 hx (hb hby d3_5) (v := ii) rfl (rfl : 5 + 1 = 6) ?_
      refine own_iloadN XJ5 hx (hb hby d3_6) (v := (Int32.ofNat (nn))) rfl (rfl : 6 + 1 = 7) ?_
      by_cases hc7 : ii < (Int32.ofNat (nn))
      · skip
        refine own_icmpNo XJ5 hx (hb hby d3_7) (tlt hc7).2.1 (rfl : 7 + 3 = 10) ?_
        refine own_aloadN XJ5 hx (hb hby d3_10) (v := (.ref ar)) rfl rfl (rfl : 10 + 1 = 11) ?_
        refine own_iloadN XJ5 hx (hb hby d3_11) (v := ii) rfl (rfl : 11 + 1 = 12) ?_
        refine own_iloadN XJ5 hx (hb hby d3_12) (v := pv) rfl (rfl : 12 + 1 = 13) ?_
        have hi2 : own_In ii (ii.toInt.toNat) (nn) := by have z := hc7; rw [Int32.lt_iff_toInt_lt, hlen] at z; exact ⟨by omega, by omega⟩
        obtain ⟨T2, h2, X2, e2, W2, V2, st2⟩ := own_stI XJ5 hx hZ eJ5 fJ5_0 hi2 (g := (mkF m 13 #[.val (.ref ar), .val (.int pv), .val (.int ii), .val (.int (Int32.ofNat (nn)))] [(.int pv), (.int ii), (.ref ar)])) rfl rfl (hb hby d3_13)
        refine own_W.step st2 ?_
        have N2 := Fr.snoc X2 NJ5 g_ar
        have f2_K : Keep h0 h2 [ar] := fJ5_1.wr W2 (Or.inl (by simp))
        have U2 : own_A Z h2 ar .int (nn) (fun z => .int (own_fl fa pv (ii + (1 : Int32)).toInt z)) := V2.congr (fun z _ => own_fls fa pv ii.toInt _ z (own_inc ii (by have z := hc7; rw [Int32.lt_iff_toInt_lt, hlen] at z; omega)) _ (by omega))
        have z2 : n0 ≤ h2.size := by rw [W2.size]; exact zJ5
        show own_W p e (FrameEnd s) below ({ frames := 0, cells := 0, slots := 0, locals := 0 } : Room).cells ({ frames := 0, cells := 0, slots := 0, locals := 0 } : Room).slots (Q3 Z ar pv nn fa h0 n0) T2 (mkF m 14 #[.val (.ref ar), .val (.int pv), .val (.int ii), .val (.int (Int32.ofNat (nn)))] [])
        refine own_iinc X2 hx (hb hby d3_14) (1 : Int32) rfl (x := ii) rfl (l' := #[.val (.ref ar), .val (.int pv), .val (.int (ii + (1 : Int32))), .val (.int (Int32.ofNat (nn)))]) rfl (rfl : 14 + 3 = 17) ?_
        refine own_goto X2 hx (hb hby d3_17) (pc' := 5) (by decide) (by decide) ?_
        exact ih  ((ii + (1 : Int32))) _ _ _ (by have z := hc7; rw [Int32.lt_iff_toInt_lt, hlen] at z; rw [own_inc ii (by have z := hc7; rw [Int32.lt_iff_toInt_lt, hlen] at z; omega)]; omega) X2 e2 N2 z2 U2 f2_K (by rw [own_inc ii (by have z := hc7; rw [Int32.lt_iff_toInt_lt, hlen] at z; omega)]; have z := hc7; rw [Int32.lt_iff_toInt_lt, hlen] at z; omega)
      · skip
        refine own_icmpYes XJ5 hx (hb hby d3_7) (flt hc7).2.1 (pc' := 20) (by decide) (by decide) ?_
        refine own_retV XJ5 hx hlk hret (hb hby d3_20) (by decide) (by decide) ?_
        show Q3 Z ar pv nn fa h0 n0 none TJ5.heap _
        rw [eJ5]
        exact ⟨rfl, NJ5, fJ5_1, (fJ5_0.congr (fun z hz => congrArg Value.int (own_fle fa pv ii.toInt nn z hz (by have z := hc7; rw [Int32.lt_iff_toInt_lt, hlen] at z; omega))))⟩
  exact J5 (((nn : Int) - ((0 : Int32)).toInt).toNat + 1) ((0 : Int32)) _ _ _ (Nat.lt_succ_self _) X0 e0 N0 Z0 A0 K0 (⟨by decide, by show (0 : Int) ≤ _; omega⟩)
theorem own_pd___II_V : parseMethodDescriptor "([II)V" = some ⟨[(.array .int), .int], none⟩ := by decide +kernel
theorem d1_0 : decode prog_15_method_1_code 0 = .ok (.aload_n 0, 1) := by decide +kernel
theorem d1_1 : decode prog_15_method_1_code 1 = .ok (.invokespecial 1, 3) := by decide +kernel
theorem d1_4 : decode prog_15_method_1_code 4 = .ok (.aload_n 0, 1) := by decide +kernel
theorem d1_5 : decode prog_15_method_1_code 5 = .ok (.bipush 16, 2) := by decide +kernel
theorem d1_7 : decode prog_15_method_1_code 7 = .ok (.newarray .int, 2) := by decide +kernel
theorem d1_9 : decode prog_15_method_1_code 9 = .ok (.putfield 9, 3) := by decide +kernel
theorem d1_12 : decode prog_15_method_1_code 12 = .ok (.aload_n 0, 1) := by decide +kernel
theorem d1_13 : decode prog_15_method_1_code 13 = .ok (.bipush 32, 2) := by decide +kernel
theorem d1_15 : decode prog_15_method_1_code 15 = .ok (.newarray .int, 2) := by decide +kernel
theorem d1_17 : decode prog_15_method_1_code 17 = .ok (.putfield 13, 3) := by decide +kernel
theorem d1_20 : decode prog_15_method_1_code 20 = .ok (.aload_n 0, 1) := by decide +kernel
theorem d1_21 : decode prog_15_method_1_code 21 = .ok (.iload_n 1, 1) := by decide +kernel
theorem d1_22 : decode prog_15_method_1_code 22 = .ok (.newarray .int, 2) := by decide +kernel
theorem d1_24 : decode prog_15_method_1_code 24 = .ok (.putfield 16, 3) := by decide +kernel
theorem d1_27 : decode prog_15_method_1_code 27 = .ok (.aload_n 0, 1) := by decide +kernel
theorem d1_28 : decode prog_15_method_1_code 28 = .ok (.getfield 16, 3) := by decide +kernel
theorem d1_31 : decode prog_15_method_1_code 31 = .ok (.iconst (-1), 1) := by decide +kernel
theorem d1_32 : decode prog_15_method_1_code 32 = .ok (.invokestatic 19, 3) := by decide +kernel
theorem d1_35 : decode prog_15_method_1_code 35 = .ok (.return_, 1) := by decide +kernel
theorem own_pn_com_example_handfast_handfast_algorithm_Matching : plainName "com/example/handfast/handfast/algorithm/Matching" = true := by first | (simp [plainName, overriddenIn]; done) | decide +kernel
theorem ef_1 (m : MethodId) (ob : Addr) (pn : Int32) : entryFrame m #[(.ref ob), (.int pn)] 2 = mkF m 0 #[.val (.ref ob), .val (.int pn)] [] := by first | (simp [entryFrame, mkF, argsToLocals, Value.category]; done) | rfl
def Q1 (Z : State) (ob : Addr) (pn : Int32) (nn : Nat) (h0 : Heap) (n0 : Nat) (v : Option Value) (h : Heap) (L : List Loc) : Prop := ∃ (ae : Addr) (an : Addr) (ap : Addr), v = none ∧ Fr n0 L ∧ Keep h0 h [ob] ∧ h0.size ≤ ae ∧ h0.size ≤ an ∧ h0.size ≤ ap ∧ Exa Z h ob "com/example/handfast/handfast/algorithm/Matching" ∧ Fld Z h ob "com/example/handfast/handfast/algorithm/Matching" "edges" "[I" (.ref ae) ∧ Fld Z h ob "com/example/handfast/handfast/algorithm/Matching" "ends" "[I" (.ref an) ∧ Fld Z h ob "com/example/handfast/handfast/algorithm/Matching" "placeAt" "[I" (.ref ap) ∧ Fld Z h ob "com/example/handfast/handfast/algorithm/Matching" "size" "I" (.int (0 : Int32)) ∧ Fld Z h ob "com/example/handfast/handfast/algorithm/Matching" "members" "Lcom/example/handfast/handfast/model/NumberSet;" .null ∧ own_A Z h ae .int (16) (fun z => .int (own_k0 z)) ∧ own_A Z h an .int (32) (fun z => .int (own_k0 z)) ∧ own_A Z h ap .int (nn) (fun z => .int (own_cst (-1 : Int32) z)) ∧ (own_ne4 ob ae an ap)
set_option maxRecDepth 65536 in
set_option maxHeartbeats 40000000 in
theorem rm1 (l : Launch) (Z : State) (a0 : Array Value) (hw : ∀ d ∈ tables_1, d.before a0 Z = true) (ws : List Jvm.Cond) (ob : Addr) (pn : Int32) (nn : Nat) (h0 : Heap) (n0 : Nat) (Z0 : n0 ≤ h0.size) (f_E_ob : Exa Z h0 ob "com/example/handfast/handfast/algorithm/Matching") (f_F_ob_edges : Fld Z h0 ob "com/example/handfast/handfast/algorithm/Matching" "edges" "[I" .null) (f_F_ob_ends : Fld Z h0 ob "com/example/handfast/handfast/algorithm/Matching" "ends" "[I" .null) (f_F_ob_placeAt : Fld Z h0 ob "com/example/handfast/handfast/algorithm/Matching" "placeAt" "[I" .null) (f_F_ob_size : Fld Z h0 ob "com/example/handfast/handfast/algorithm/Matching" "size" "I" (.int (0 : Int32))) (f_F_ob_members : Fld Z h0 ob "com/example/handfast/handfast/algorithm/Matching" "members" "Lcom/example/handfast/handfast/model/NumberSet;" .null) (g_ob : n0 ≤ ob) (hpn : own_In pn nn 65) (hcap : nn ≤ 6) :
    MetFree l (⟨"com/example/handfast/handfast/algorithm/Matching", "<init>", "(I)V"⟩ : MethodName) (head1 (Jvm.Cond.code (⟨"com/example/handfast/handfast/algorithm/Matching", "<init>", "(I)V"⟩ : MethodName) prog_15_method_1_code 2 none :: ws) ({ frames := 1, cells := 3, slots := 54, locals := 15 } : Room)) (fun avs U => avs = #[(.ref ob), (.int pn)] ∧ Z.Warmed39 U.vm ∧ U.heap = h0) (fun _ _ _ _ _ => True) (fun _ U o U' => ∃ v L, o = .returned v ∧ Q1 Z ob pn nn h0 n0 v U'.heap L ∧ FrameEnd U o U' L ({ frames := 1, cells := 3, slots := 54, locals := 15 } : Room).cells ({ frames := 1, cells := 3, slots := 54, locals := 15 } : Room).slots) := by
  refine MetFree.of_bodySF (plainFor_of_name own_pn_com_example_handfast_handfast_algorithm_Matching) hisR ?_
  intro p e s m args below meth c s₁ Bd hml0 hP hK
  obtain ⟨rfl, hZ, hh⟩ := hP
  have hx := Bd.exec
  have hby := Bd.bytes
  have hml : c.maxLocals = 2 := hml0
  have hown : s.vm.findClass "com/example/handfast/handfast/algorithm/Matching" = some m.cls := findClass_of_methodNamed Bd.named
  have hnm := (name_of_methodNamed Bd.named Bd.method).1
  have hlk := Bd.notSynchronized
  have hret := Bd.returns
  have X0 : Stand p l e ({ frames := 1, cells := 3, slots := 54, locals := 15 } : Room) s m #[(.ref ob), (.int pn)] below meth c s₁ [] 0 0 := Stand.of_body Bd
  have e0 : s₁.heap = h0 := by rw [← hh, Bd.state]; rfl
  have N0 := Fr.nil n0
  show own_W p e (FrameEnd s) below ({ frames := 1, cells := 3, slots := 54, locals := 15 } : Room).cells ({ frames := 1, cells := 3, slots := 54, locals := 15 } : Room).slots (Q1 Z ob pn nn h0 n0) s₁ (entryFrame m #[(.ref ob), (.int pn)] 2)
  rw [ef_1]
  have K0 : Keep h0 h0 [ob] := Keep.refl h0 _
  refine own_aloadN X0 hx (hb hby d1_0) (v := (.ref ob)) rfl rfl (rfl : 0 + 1 = 1) ?_
  obtain ⟨T1, X1, e1, st1⟩ := initO X0 hx hZ hown (hw _ (List.mem_of_getElem? (i := 7) rfl)) (hw _ (List.mem_of_getElem? (i := 8) rfl)) (hw _ (List.mem_of_getElem? (i := 9) rfl)) e0 (g := (mkF m 1 #[.val (.ref ob), .val (.int pn)] [(.ref ob)])) rfl (by rw [hml]; rfl) rfl (hb hby d1_1) (by decide) (W := 0) (by show 2 * 0 + _ ≤ _; exact Nat.le_of_eq rfl) (by decide)
  refine own_W.step st1 ?_
  show own_W p e (FrameEnd s) below ({ frames := 1, cells := 3, slots := 54, locals := 15 } : Room).cells ({ frames := 1, cells := 3, slots := 54, locals := 15 } : Room).slots (Q1 Z ob pn nn h0 n0) T1 (mkF m 4 #[.val (.ref ob), .val (.int pn)] [])
  refine own_aloadN X1 hx (hb hby d1_4) (v := (.ref ob)) rfl rfl (rfl : 4 + 1 = 5) ?_
  refine own_bipush X1 hx (hb hby d1_5) (16 : Int32) (by first | rfl | decide) (rfl : 5 + 2 = 7) ?_
  obtain ⟨T2, h2, k2, X2, e2, E2, A2, st2⟩ := newP X1 hx hZ (hw _ (List.mem_of_getElem? (i := 10) rfl)) e1 (g := (mkF m 7 #[.val (.ref ob), .val (.int pn)] [(.int (16 : Int32)), (.ref ob)])) rfl (hb hby d1_7) rfl (by decide) (cap := 16) (by decide) (by decide) (by decide) (by decide)
  obtain ⟨be, g2⟩ : ∃ z, z = h0.size := ⟨_, rfl⟩
  rw [← g2] at A2 st2
  refine own_W.step st2 ?_
  have ne_ob_be : ob ≠ be := Nat.ne_of_lt (Nat.lt_of_lt_of_le f_E_ob.lt (Nat.le_of_eq g2.symm))
  have sz_be : h0.size ≤ be := Nat.le_trans K0.1 (Nat.le_of_eq g2.symm)
  have g_be : n0 ≤ be := Nat.le_trans Z0 (Nat.le_of_eq g2.symm)
  have f2_E_ob : Exa Z h2 ob "com/example/handfast/handfast/algorithm/Matching" := f_E_ob.ext E2
  have f2_F_ob_edges : Fld Z h2 ob "com/example/handfast/handfast/algorithm/Matching" "edges" "[I" .null := f_F_ob_edges.ext E2
  have f2_F_ob_ends : Fld Z h2 ob "com/example/handfast/handfast/algorithm/Matching" "ends" "[I" .null := f_F_ob_ends.ext E2
  have f2_F_ob_placeAt : Fld Z h2 ob "com/example/handfast/handfast/algorithm/Matching" "placeAt" "[I" .null := f_F_ob_placeAt.ext E2
  have f2_F_ob_size : Fld Z h2 ob "com/example/handfast/handfast/algorithm/Matching" "size" "I" (.int (0 : Int32)) := f_F_ob_size.ext E2
  have f2_F_ob_members : Fld Z h2 ob "com/example/handfast/handfast/algorithm/Matching" "members" "Lcom/example/handfast/handfast/model/NumberSet;" .null := f_F_ob_members.ext E2
  have f2_K : Keep h0 h2 [ob] := K0.ext E2
  have z2 : n0 ≤ h2.size := Nat.le_trans Z0 E2.1
  have V2 : own_A Z h2 be .int (16) (fun z => .int (own_k0 z)) := own_A.new A2 (by decide) (by decide)
  show own_W p e (FrameEnd s) below ({ frames := 1, cells := 3, slots := 54, locals := 15 } : Room).cells ({ frames := 1, cells := 3, slots := 54, locals := 15 } : Room).slots (Q1 Z ob pn nn h0 n0) T2 (mkF m 9 #[.val (.ref ob), .val (.int pn)] [(.ref be), (.ref ob)])
  obtain ⟨T3, h3, X3, e3, W3, st3⟩ := putF X2 hx hZ hown (host := "") (Or.inl (hw _ (List.mem_of_getElem? (i := 11) rfl))) Via.refl e2 f2_F_ob_edges f2_E_ob (Or.inl (hw _ (List.mem_of_getElem? (i := 12) rfl))) (hw _ (List.mem_of_getElem? (i := 2) rfl)) (ty := (.array .int)) (by decide) rfl rfl (g := (mkF m 9 #[.val (.ref ob), .val (.int pn)] [(.ref be), (.ref ob)])) rfl rfl (hb hby d1_9)
  refine own_W.step st3 ?_
  have N3 := Fr.snoc X3 N0 g_ob
  have f3_E_ob : Exa Z h3 ob "com/example/handfast/handfast/algorithm/Matching" := f2_E_ob.wr W3
  have f3_F_ob_ends : Fld Z h3 ob "com/example/handfast/handfast/algorithm/Matching" "ends" "[I" .null := f2_F_ob_ends.other W3 (Or.inr (slot_ne (Or.inl (hw _ (List.mem_of_getElem? (i := 14) rfl))) (Or.inl (hw _ (List.mem_of_getElem? (i := 12) rfl))) (by decide) (t := (.array .int)) (t' := (.array .int)) (by decide) (by decide)))
  have f3_F_ob_placeAt : Fld Z h3 ob "com/example/handfast/handfast/algorithm/Matching" "placeAt" "[I" .null := f2_F_ob_placeAt.other W3 (Or.inr (slot_ne (Or.inr (hw _ (List.mem_of_getElem? (i := 16) rfl))) (Or.inl (hw _ (List.mem_of_getElem? (i := 12) rfl))) (by decide) (t := (.array .int)) (t' := (.array .int)) (by decide) (by decide)))
  have f3_F_ob_size : Fld Z h3 ob "com/example/handfast/handfast/algorithm/Matching" "size" "I" (.int (0 : Int32)) := f2_F_ob_size.other W3 (Or.inr (slot_ne (Or.inl (hw _ (List.mem_of_getElem? (i := 27) rfl))) (Or.inl (hw _ (List.mem_of_getElem? (i := 12) rfl))) (by decide) (t := .int) (t' := (.array .int)) (by decide) (by decide)))
  have f3_F_ob_members : Fld Z h3 ob "com/example/handfast/handfast/algorithm/Matching" "members" "Lcom/example/handfast/handfast/model/NumberSet;" .null := f2_F_ob_members.other W3 (Or.inr (slot_ne (Or.inl (hw _ (List.mem_of_getElem? (i := 29) rfl))) (Or.inl (hw _ (List.mem_of_getElem? (i := 12) rfl))) (by decide) (t := (.object "com/example/handfast/handfast/model/NumberSet")) (t' := (.array .int)) (by decide) (by decide)))
  have f3_K : Keep h0 h3 [ob] := f2_K.wr W3 (Or.inl (by simp))
  have f3_A_be : own_A Z h3 be .int (16) (fun z => .int (own_k0 z)) := V2.other W3 (Ne.symm ne_ob_be)
  have fw3 : Fld Z h3 ob "com/example/handfast/handfast/algorithm/Matching" "edges" "[I" (.ref be) := f2_F_ob_edges.same W3
  have z3 : n0 ≤ h3.size := by rw [W3.size]; exact z2
  show own_W p e (FrameEnd s) below ({ frames := 1, cells := 3, slots := 54, locals := 15 } : Room).cells ({ frames := 1, cells := 3, slots := 54, locals := 15 } : Room).slots (Q1 Z ob pn nn h0 n0) T3 (mkF m 12 #[.val (.ref ob), .val (.int pn)] [])
  refine own_aloadN X3 hx (hb hby d1_12) (v := (.ref ob)) rfl rfl (rfl : 12 + 1 = 13) ?_
  refine own_bipush X3 hx (hb hby d1_13) (32 : Int32) (by first | rfl | decide) (rfl : 13 + 2 = 15) ?_
  obtain ⟨T4, h4, k4, X4, e4, E4, A4, st4⟩ := newP X3 hx hZ (hw _ (List.mem_of_getElem? (i := 10) rfl)) e3 (g := (mkF m 15 #[.val (.ref ob), .val (.int pn)] [(.int (32 : Int32)), (.ref ob)])) rfl (hb hby d1_15) rfl (by decide) (cap := 32) (by decide) (by decide) (by decide) (by decide)
  obtain ⟨bn, g4⟩ : ∃ z, z = h3.size := ⟨_, rfl⟩
  rw [← g4] at A4 st4
  refine own_W.step st4 ?_
  have ne_ob_bn : ob ≠ bn := Nat.ne_of_lt (Nat.lt_of_lt_of_le f3_E_ob.lt (Nat.le_of_eq g4.symm))
  have ne_be_bn : be ≠ bn := Nat.ne_of_lt (Nat.lt_of_lt_of_le f3_A_be.lt (Nat.le_of_eq g4.symm))
  have sz_bn : h0.size ≤ bn := Nat.le_trans f3_K.1 (Nat.le_of_eq g4.symm)
  have g_bn : n0 ≤ bn := Nat.le_trans z3 (Nat.le_of_eq g4.symm)
  have f4_E_ob : Exa Z h4 ob "com/example/handfast/handfast/algorithm/Matching" := f3_E_ob.ext E4
  have f4_F_ob_edges : Fld Z h4 ob "com/example/handfast/handfast/algorithm/Matching" "edges" "[I" (.ref be) := fw3.ext E4
  have f4_F_ob_ends : Fld Z h4 ob "com/example/handfast/handfast/algorithm/Matching" "ends" "[I" .null := f3_F_ob_ends.ext E4
  have f4_F_ob_placeAt : Fld Z h4 ob "com/example/handfast/handfast/algorithm/Matching" "placeAt" "[I" .null := f3_F_ob_placeAt.ext E4
  have f4_F_ob_size : Fld Z h4 ob "com/example/handfast/handfast/algorithm/Matching" "size" "I" (.int (0 : Int32)) := f3_F_ob_size.ext E4
  have f4_F_ob_members : Fld Z h4 ob "com/example/handfast/handfast/algorithm/Matching" "members" "Lcom/example/handfast/handfast/model/NumberSet;" .null := f3_F_ob_members.ext E4
  have f4_K : Keep h0 h4 [ob] := f3_K.ext E4
  have f4_A_be : own_A Z h4 be .int (16) (fun z => .int (own_k0 z)) := f3_A_be.ext E4
  have z4 : n0 ≤ h4.size := Nat.le_trans z3 E4.1
  have V4 : own_A Z h4 bn .int (32) (fun z => .int (own_k0 z)) := own_A.new A4 (by decide) (by decide)
  show own_W p e (FrameEnd s) below ({ frames := 1, cells := 3, slots := 54, locals := 15 } : Room).cells ({ frames := 1, cells := 3, slots := 54, locals := 15 } : Room).slots (Q1 Z ob pn nn h0 n0) T4 (mkF m 17 #[.val (.ref ob), .val (.int pn)] [(.ref bn), (.ref ob)])
  obtain ⟨T5, h5, X5, e5, W5, st5⟩ := putF X4 hx hZ hown (host := "") (Or.inl (hw _ (List.mem_of_getElem? (i := 13) rfl))) Via.refl e4 f4_F_ob_ends f4_E_ob (Or.inl (hw _ (List.mem_of_getElem? (i := 14) rfl))) (hw _ (List.mem_of_getElem? (i := 2) rfl)) (ty := (.array .int)) (by decide) rfl rfl (g := (mkF m 17 #[.val (.ref ob), .val (.int pn)] [(.ref bn), (.ref ob)])) rfl rfl (hb hby d1_17)
  refine own_W.step st5 ?_
  have N5 := Fr.snoc X5 N3 g_ob
  have f5_E_ob : Exa Z h5 ob "com/example/handfast/handfast/algorithm/Matching" := f4_E_ob.wr W5
  have f5_F_ob_edges : Fld Z h5 ob "com/example/handfast/handfast/algorithm/Matching" "edges" "[I" (.ref be) := f4_F_ob_edges.other W5 (Or.inr (slot_ne (Or.inl (hw _ (List.mem_of_getElem? (i := 12) rfl))) (Or.inl (hw _ (List.mem_of_getElem? (i := 14) rfl))) (by decide) (t := (.array .int)) (t' := (.array .int)) (by decide) (by decide)))
  have f5_F_ob_placeAt : Fld Z h5 ob "com/example/handfast/handfast/algorithm/Matching" "placeAt" "[I" .null := f4_F_ob_placeAt.other W5 (Or.inr (slot_ne (Or.inr (hw _ (List.mem_of_getElem? (i := 16) rfl))) (Or.inl (hw _ (List.mem_of_getElem? (i := 14) rfl))) (by decide) (t := (.array .int)) (t' := (.array .int)) (by decide) (by decide)))
  have f5_F_ob_size : Fld Z h5 ob "com/example/handfast/handfast/algorithm/Matching" "size" "I" (.int (0 : Int32)) := f4_F_ob_size.other W5 (Or.inr (slot_ne (Or.inl (hw _ (List.mem_of_getElem? (i := 27) rfl))) (Or.inl (hw _ (List.mem_of_getElem? (i := 14) rfl))) (by decide) (t := .int) (t' := (.array .int)) (by decide) (by decide)))
  have f5_F_ob_members : Fld Z h5 ob "com/example/handfast/handfast/algorithm/Matching" "members" "Lcom/example/handfast/handfast/model/NumberSet;" .null := f4_F_ob_members.other W5 (Or.inr (slot_ne (Or.inl (hw _ (List.mem_of_getElem? (i := 29) rfl))) (Or.inl (hw _ (List.mem_of_getElem? (i := 14) rfl))) (by decide) (t := (.object "com/example/handfast/handfast/model/NumberSet")) (t' := (.array .int)) (by decide) (by decide)))
  have f5_K : Keep h0 h5 [ob] := f4_K.wr W5 (Or.inl (by simp))
  have f5_A_be : own_A Z h5 be .int (16) (fun z => .int (own_k0 z)) := f4_A_be.other W5 (Ne.symm ne_ob_be)
  have f5_A_bn : own_A Z h5 bn .int (32) (fun z => .int (own_k0 z)) := V4.other W5 (Ne.symm ne_ob_bn)
  have fw5 : Fld Z h5 ob "com/example/handfast/handfast/algorithm/Matching" "ends" "[I" (.ref bn) := f4_F_ob_ends.same W5
  have z5 : n0 ≤ h5.size := by rw [W5.size]; exact z4
  show own_W p e (FrameEnd s) below ({ frames := 1, cells := 3, slots := 54, locals := 15 } : Room).cells ({ frames := 1, cells := 3, slots := 54, locals := 15 } : Room).slots (Q1 Z ob pn nn h0 n0) T5 (mkF m 20 #[.val (.ref ob), .val (.int pn)] [])
  refine own_aloadN X5 hx (hb hby d1_20) (v := (.ref ob)) rfl rfl (rfl : 20 + 1 = 21) ?_
  refine own_iloadN X5 hx (hb hby d1_21) (v := pn) rfl (rfl : 21 + 1 = 22) ?_
  obtain ⟨T6, h6, k6, X6, e6, E6, A6, st6⟩ := newP X5 hx hZ (hw _ (List.mem_of_getElem? (i := 10) rfl)) e5 (g := (mkF m 22 #[.val (.ref ob), .val (.int pn)] [(.int pn), (.ref ob)])) rfl (hb hby d1_22) rfl (by rw [Int32.lt_iff_toInt_lt, hpn.1]; show ¬ _ < (0 : Int); omega) (cap := 6) (by rw [hpn.nat]; exact hcap) (by decide) (by decide) (by decide)
  obtain ⟨bp, g6⟩ : ∃ z, z = h5.size := ⟨_, rfl⟩
  rw [← g6] at A6 st6
  refine own_W.step st6 ?_
  have ne_ob_bp : ob ≠ bp := Nat.ne_of_lt (Nat.lt_of_lt_of_le f5_E_ob.lt (Nat.le_of_eq g6.symm))
  have ne_be_bp : be ≠ bp := Nat.ne_of_lt (Nat.lt_of_lt_of_le f5_A_be.lt (Nat.le_of_eq g6.symm))
  have ne_bn_bp : bn ≠ bp := Nat.ne_of_lt (Nat.lt_of_lt_of_le f5_A_bn.lt (Nat.le_of_eq g6.symm))
  have sz_bp : h0.size ≤ bp := Nat.le_trans f5_K.1 (Nat.le_of_eq g6.symm)
  have g_bp : n0 ≤ bp := Nat.le_trans z5 (Nat.le_of_eq g6.symm)
  have f6_E_ob : Exa Z h6 ob "com/example/handfast/handfast/algorithm/Matching" := f5_E_ob.ext E6
  have f6_F_ob_edges : Fld Z h6 ob "com/example/handfast/handfast/algorithm/Matching" "edges" "[I" (.ref be) := f5_F_ob_edges.ext E6
  have f6_F_ob_ends : Fld Z h6 ob "com/example/handfast/handfast/algorithm/Matching" "ends" "[I" (.ref bn) := fw5.ext E6
  have f6_F_ob_placeAt : Fld Z h6 ob "com/example/handfast/handfast/algorithm/Matching" "placeAt" "[I" .null := f5_F_ob_placeAt.ext E6
  have f6_F_ob_size : Fld Z h6 ob "com/example/handfast/handfast/algorithm/Matching" "size" "I" (.int (0 : Int32)) := f5_F_ob_size.ext E6
  have f6_F_ob_members : Fld Z h6 ob "com/example/handfast/handfast/algorithm/Matching" "members" "Lcom/example/handfast/handfast/model/NumberSet;" .null := f5_F_ob_members.ext E6
  have f6_K : Keep h0 h6 [ob] := f5_K.ext E6
  have f6_A_be : own_A Z h6 be .int (16) (fun z => .int (own_k0 z)) := f5_A_be.ext E6
  have f6_A_bn : own_A Z h6 bn .int (32) (fun z => .int (own_k0 z)) := f5_A_bn.ext E6
  have z6 : n0 ≤ h6.size := Nat.le_trans z5 E6.1
  have V6 : own_A Z h6 bp .int (nn) (fun z => .int (own_k0 z)) := own_A.new A6 (by rw [Int32.lt_iff_toInt_lt, hpn.1]; show ¬ _ < (0 : Int); omega) hpn.nat
  show own_W p e (FrameEnd s) below ({ frames := 1, cells := 3, slots := 54, locals := 15 } : Room).cells ({ frames := 1, cells := 3, slots := 54, locals := 15 } : Room).slots (Q1 Z ob pn nn h0 n0) T6 (mkF m 24 #[.val (.ref ob), .val (.int pn)] [(.ref bp), (.ref ob)])
  obtain ⟨T7, h7, X7, e7, W7, st7⟩ := putF X6 hx hZ hown (host := "") (Or.inl (hw _ (List.mem_of_getElem? (i := 15) rfl))) Via.refl e6 f6_F_ob_placeAt f6_E_ob (Or.inr ⟨(hw _ (List.mem_of_getElem? (i := 16) rfl)), rfl, hnm⟩) (hw _ (List.mem_of_getElem? (i := 2) rfl)) (ty := (.array .int)) (by decide) rfl rfl (g := (mkF m 24 #[.val (.ref ob), .val (.int pn)] [(.ref bp), (.ref ob)])) rfl rfl (hb hby d1_24)
  refine own_W.step st7 ?_
  have N7 := Fr.snoc X7 N5 g_ob
  have f7_E_ob : Exa Z h7 ob "com/example/handfast/handfast/algorithm/Matching" := f6_E_ob.wr W7
  have f7_F_ob_edges : Fld Z h7 ob "com/example/handfast/handfast/algorithm/Matching" "edges" "[I" (.ref be) := f6_F_ob_edges.other W7 (Or.inr (slot_ne (Or.inl (hw _ (List.mem_of_getElem? (i := 12) rfl))) (Or.inr (hw _ (List.mem_of_getElem? (i := 16) rfl))) (by decide) (t := (.array .int)) (t' := (.array .int)) (by decide) (by decide)))
  have f7_F_ob_ends : Fld Z h7 ob "com/example/handfast/handfast/algorithm/Matching" "ends" "[I" (.ref bn) := f6_F_ob_ends.other W7 (Or.inr (slot_ne (Or.inl (hw _ (List.mem_of_getElem? (i := 14) rfl))) (Or.inr (hw _ (List.mem_of_getElem? (i := 16) rfl))) (by decide) (t := (.array .int)) (t' := (.array .int)) (by decide) (by decide)))
  have f7_F_ob_size : Fld Z h7 ob "com/example/handfast/handfast/algorithm/Matching" "size" "I" (.int (0 : Int32)) := f6_F_ob_size.other W7 (Or.inr (slot_ne (Or.inl (hw _ (List.mem_of_getElem? (i := 27) rfl))) (Or.inr (hw _ (List.mem_of_getElem? (i := 16) rfl))) (by decide) (t := .int) (t' := (.array .int)) (by decide) (by decide)))
  have f7_F_ob_members : Fld Z h7 ob "com/example/handfast/handfast/algorithm/Matching" "members" "Lcom/example/handfast/handfast/model/NumberSet;" .null := f6_F_ob_members.other W7 (Or.inr (slot_ne (Or.inl (hw _ (List.mem_of_getElem? (i := 29) rfl))) (Or.inr (hw _ (List.mem_of_getElem? (i := 16) rfl))) (by decide) (t := (.object "com/example/handfast/handfast/model/NumberSet")) (t' := (.array .int)) (by decide) (by decide)))
  have f7_K : Keep h0 h7 [ob] := f6_K.wr W7 (Or.inl (by simp))
  have f7_A_be : own_A Z h7 be .int (16) (fun z => .int (own_k0 z)) := f6_A_be.other W7 (Ne.symm ne_ob_be)
  have f7_A_bn : own_A Z h7 bn .int (32) (fun z => .int (own_k0 z)) := f6_A_bn.other W7 (Ne.symm ne_ob_bn)
  have f7_A_bp : own_A Z h7 bp .int (nn) (fun z => .int (own_k0 z)) := V6.other W7 (Ne.symm ne_ob_bp)
  have fw7 : Fld Z h7 ob "com/example/handfast/handfast/algorithm/Matching" "placeAt" "[I" (.ref bp) := f6_F_ob_placeAt.same W7
  have z7 : n0 ≤ h7.size := by rw [W7.size]; exact z6
  show own_W p e (FrameEnd s) below ({ frames := 1, cells := 3, slots := 54, locals := 15 } : Room).cells ({ frames := 1, cells := 3, slots := 54, locals := 15 } : Room).slots (Q1 Z ob pn nn h0 n0) T7 (mkF m 27 #[.val (.ref ob), .val (.int pn)] [])
  refine own_aloadN X7 hx (hb hby d1_27) (v := (.ref ob)) rfl rfl (rfl : 27 + 1 = 28) ?_
  obtain ⟨T8, X8, e8, st8⟩ := getF X7 hx hZ hown (host := "") (Or.inl (hw _ (List.mem_of_getElem? (i := 15) rfl))) Via.refl e7 fw7 (g := (mkF m 28 #[.val (.ref ob), .val (.int pn)] [(.ref ob)])) rfl rfl (hb hby d1_28)
  refine own_W.step st8 ?_
  show own_W p e (FrameEnd s) below ({ frames := 1, cells := 3, slots := 54, locals := 15 } : Room).cells ({ frames := 1, cells := 3, slots := 54, locals := 15 } : Room).slots (Q1 Z ob pn nn h0 n0) T8 (mkF m 31 #[.val (.ref ob), .val (.int pn)] [(.ref bp)])
  refine own_iconst X8 hx (hb hby d1_31) (-1 : Int32) (by first | rfl | decide) (rfl : 31 + 1 = 32) ?_
  obtain ⟨_, _, ⟨T9, L9, k9, n9⟩, -, X9, ⟨Lc9, hQ9, l9, y9, z9⟩, st9⟩ := Jvm.LawKit.callS X8 hx (y := (⟨"java/util/Arrays", "fill", "([II)V"⟩ : MethodName)) hown (mvT hZ (hw _ (List.mem_of_getElem? (i := 17) rfl))) (mvT hZ (hw _ (List.mem_of_getElem? (i := 18) rfl))) (mvT hZ (hw _ (List.mem_of_getElem? (i := 19) rfl))) (mvT hZ (hw _ (List.mem_of_getElem? (i := 20) rfl))) (by decide) (backOf (W := 0) (rm3 l Z a0 hw [] bp (-1 : Int32) (nn) own_k0 h7 n0 z7 f7_A_bp g_bp (by omega)) hZ (hw _ (List.mem_of_getElem? (i := 20) rfl)) (hw _ (List.mem_of_getElem? (i := 19) rfl)) (by decide) (by decide)) (g := (mkF m 32 #[.val (.ref ob), .val (.int pn)] [(.int (-1 : Int32)), (.ref bp)])) rfl (by rw [hml]; rfl) (argsL := [(.ref bp), (.int (-1 : Int32))]) (rest := []) (lenOf own_pd___II_V rfl) rfl (by show 2 * 0 + _ ≤ _; exact Nat.le_of_eq rfl) (hb hby d1_32) (fun _ _ => ⟨rfl, e8, (by decide : 3 + 0 ≤ _), (by decide : 54 + 0 ≤ _)⟩)
  dsimp only [Pt.U, Pt.locs, Pt.cells, Pt.slots] at X9 l9 y9 z9 st9 hQ9
  subst l9 y9 z9
  obtain ⟨rfl, N9q, K9, fq9_0⟩ := hQ9
  have N9 := Fr.app N7 N9q
  have f9_E_ob : Exa Z T9.heap ob "com/example/handfast/handfast/algorithm/Matching" := f7_E_ob.keep K9
  have f9_F_ob_edges : Fld Z T9.heap ob "com/example/handfast/handfast/algorithm/Matching" "edges" "[I" (.ref be) := f7_F_ob_edges.keep K9 (ninS ne_ob_bp nin0)
  have f9_F_ob_ends : Fld Z T9.heap ob "com/example/handfast/handfast/algorithm/Matching" "ends" "[I" (.ref bn) := f7_F_ob_ends.keep K9 (ninS ne_ob_bp nin0)
  have f9_F_ob_placeAt : Fld Z T9.heap ob "com/example/handfast/handfast/algorithm/Matching" "placeAt" "[I" (.ref bp) := fw7.keep K9 (ninS ne_ob_bp nin0)
  have f9_F_ob_size : Fld Z T9.heap ob "com/example/handfast/handfast/algorithm/Matching" "size" "I" (.int (0 : Int32)) := f7_F_ob_size.keep K9 (ninS ne_ob_bp nin0)
  have f9_F_ob_members : Fld Z T9.heap ob "com/example/handfast/handfast/algorithm/Matching" "members" "Lcom/example/handfast/handfast/model/NumberSet;" .null := f7_F_ob_members.keep K9 (ninS ne_ob_bp nin0)
  have f9_K : Keep h0 T9.heap [ob] := f7_K.trans K9 (allS (Or.inr sz_bp) all0)
  have f9_A_be : own_A Z T9.heap be .int (16) (fun z => .int (own_k0 z)) := f7_A_be.keep K9 (ninS ne_be_bp nin0)
  have f9_A_bn : own_A Z T9.heap bn .int (32) (fun z => .int (own_k0 z)) := f7_A_bn.keep K9 (ninS ne_bn_bp nin0)
  have z9c : n0 ≤ T9.heap.size := Nat.le_trans z7 K9.1
  refine own_W.step st9 ?_
  show own_W p e (FrameEnd s) below ({ frames := 1, cells := 3, slots := 54, locals := 15 } : Room).cells ({ frames := 1, cells := 3, slots := 54, locals := 15 } : Room).slots (Q1 Z ob pn nn h0 n0) T9 (mkF m 35 #[.val (.ref ob), .val (.int pn)] [])
  refine own_retV X9 hx hlk hret (hb hby d1_35) (by decide) (by decide) ?_
  show Q1 Z ob pn nn h0 n0 none T9.heap _
  skip
  exact ⟨be, bn, bp, rfl, N9, f9_K, sz_be, sz_bn, sz_bp, f9_E_ob, f9_F_ob_edges, f9_F_ob_ends, f9_F_ob_placeAt, f9_F_ob_size, f9_F_ob_members, f9_A_be, f9_A_bn, fq9_0, ⟨ne_ob_be, ne_ob_bn, ne_ob_bp, ne_be_bn, ne_be_bp, ne_bn_bp⟩⟩
theorem d4_0 : decode prog_15_method_8_code 0 = .ok (.aload_n 0, 1) := by decide +kernel
theorem d4_1 : decode prog_15_method_8_code 1 = .ok (.getfield 25, 3) := by decide +kernel
theorem d4_4 : decode prog_15_method_8_code 4 = .ok (.aload_n 0, 1) := by decide +kernel
theorem d4_5 : decode prog_15_method_8_code 5 = .ok (.getfield 9, 3) := by decide +kernel
theorem d4_8 : decode prog_15_method_8_code 8 = .ok (.arraylength, 1) := by decide +kernel
theorem d4_9 : decode prog_15_method_8_code 9 = .ok (.if_icmp .ne 37, 3) := by decide +kernel
theorem d4_46 : decode prog_15_method_8_code 46 = .ok (.aload_n 0, 1) := by decide +kernel
theorem d4_47 : decode prog_15_method_8_code 47 = .ok (.getfield 9, 3) := by decide +kernel
theorem d4_50 : decode prog_15_method_8_code 50 = .ok (.aload_n 0, 1) := by decide +kernel
theorem d4_51 : decode prog_15_method_8_code 51 = .ok (.getfield 25, 3) := by decide +kernel
theorem d4_54 : decode prog_15_method_8_code 54 = .ok (.iload_n 1, 1) := by decide +kernel
theorem d4_55 : decode prog_15_method_8_code 55 = .ok (.iastore, 1) := by decide +kernel
theorem d4_56 : decode prog_15_method_8_code 56 = .ok (.aload_n 0, 1) := by decide +kernel
theorem d4_57 : decode prog_15_method_8_code 57 = .ok (.getfield 13, 3) := by decide +kernel
theorem d4_60 : decode prog_15_method_8_code 60 = .ok (.iconst 2, 1) := by decide +kernel
theorem d4_61 : decode prog_15_method_8_code 61 = .ok (.aload_n 0, 1) := by decide +kernel
theorem d4_62 : decode prog_15_method_8_code 62 = .ok (.getfield 25, 3) := by decide +kernel
theorem d4_65 : decode prog_15_method_8_code 65 = .ok (.imul, 1) := by decide +kernel
theorem d4_66 : decode prog_15_method_8_code 66 = .ok (.iload_n 2, 1) := by decide +kernel
theorem d4_67 : decode prog_15_method_8_code 67 = .ok (.iastore, 1) := by decide +kernel
theorem d4_68 : decode prog_15_method_8_code 68 = .ok (.aload_n 0, 1) := by decide +kernel
theorem d4_69 : decode prog_15_method_8_code 69 = .ok (.getfield 13, 3) := by decide +kernel
theorem d4_72 : decode prog_15_method_8_code 72 = .ok (.iconst 2, 1) := by decide +kernel
theorem d4_73 : decode prog_15_method_8_code 73 = .ok (.aload_n 0, 1) := by decide +kernel
theorem d4_74 : decode prog_15_method_8_code 74 = .ok (.getfield 25, 3) := by decide +kernel
theorem d4_77 : decode prog_15_method_8_code 77 = .ok (.imul, 1) := by decide +kernel
theorem d4_78 : decode prog_15_method_8_code 78 = .ok (.iconst 1, 1) := by decide +kernel
theorem d4_79 : decode prog_15_method_8_code 79 = .ok (.iadd, 1) := by decide +kernel
theorem d4_80 : decode prog_15_method_8_code 80 = .ok (.iload_n 3, 1) := by decide +kernel
theorem d4_81 : decode prog_15_method_8_code 81 = .ok (.iastore, 1) := by decide +kernel
theorem d4_82 : decode prog_15_method_8_code 82 = .ok (.aload_n 0, 1) := by decide +kernel
theorem d4_83 : decode prog_15_method_8_code 83 = .ok (.getfield 16, 3) := by decide +kernel
theorem d4_86 : decode prog_15_method_8_code 86 = .ok (.iload_n 2, 1) := by decide +kernel
theorem d4_87 : decode prog_15_method_8_code 87 = .ok (.aload_n 0, 1) := by decide +kernel
theorem d4_88 : decode prog_15_method_8_code 88 = .ok (.getfield 25, 3) := by decide +kernel
theorem d4_91 : decode prog_15_method_8_code 91 = .ok (.iastore, 1) := by decide +kernel
theorem d4_92 : decode prog_15_method_8_code 92 = .ok (.aload_n 0, 1) := by decide +kernel
theorem d4_93 : decode prog_15_method_8_code 93 = .ok (.getfield 16, 3) := by decide +kernel
theorem d4_96 : decode prog_15_method_8_code 96 = .ok (.iload_n 3, 1) := by decide +kernel
theorem d4_97 : decode prog_15_method_8_code 97 = .ok (.aload_n 0, 1) := by decide +kernel
theorem d4_98 : decode prog_15_method_8_code 98 = .ok (.getfield 25, 3) := by decide +kernel
theorem d4_101 : decode prog_15_method_8_code 101 = .ok (.iastore, 1) := by decide +kernel
theorem d4_102 : decode prog_15_method_8_code 102 = .ok (.aload_n 0, 1) := by decide +kernel
theorem d4_103 : decode prog_15_method_8_code 103 = .ok (.getfield 33, 3) := by decide +kernel
theorem d4_106 : decode prog_15_method_8_code 106 = .ok (.ifnull 12, 3) := by decide +kernel
theorem d4_118 : decode prog_15_method_8_code 118 = .ok (.aload_n 0, 1) := by decide +kernel
theorem d4_119 : decode prog_15_method_8_code 119 = .ok (.dup, 1) := by decide +kernel
theorem d4_120 : decode prog_15_method_8_code 120 = .ok (.getfield 25, 3) := by decide +kernel
theorem d4_123 : decode prog_15_method_8_code 123 = .ok (.iconst 1, 1) := by decide +kernel
theorem d4_124 : decode prog_15_method_8_code 124 = .ok (.iadd, 1) := by decide +kernel
theorem d4_125 : decode prog_15_method_8_code 125 = .ok (.putfield 25, 3) := by decide +kernel
theorem d4_128 : decode prog_15_method_8_code 128 = .ok (.return_, 1) := by decide +kernel
theorem ef_4 (m : MethodId) (ob : Addr) (p1 : Int32) (p2 : Int32) (p3 : Int32) : entryFrame m #[(.ref ob), (.int p1), (.int p2), (.int p3)] 4 = mkF m 0 #[.val (.ref ob), .val (.int p1), .val (.int p2), .val (.int p3)] [] := by first | (simp [entryFrame, mkF, argsToLocals, Value.category]; done) | rfl
def Q4 (Z : State) (ob : Addr) (p1 : Int32) (p2 : Int32) (p3 : Int32) (ae : Addr) (an : Addr) (ap : Addr) (us : Int32) (nn : Nat) (fE : Nat → Int32) (fN : Nat → Int32) (fP : Nat → Int32) (kk : Nat) (xa : Nat) (xb : Nat) (h0 : Heap) (n0 : Nat) (v : Option Value) (h : Heap) (L : List Loc) : Prop := v = none ∧ Fr n0 L ∧ Keep h0 h [ob, ae, an, ap] ∧ Exa Z h ob "com/example/handfast/handfast/algorithm/Matching" ∧ Fld Z h ob "com/example/handfast/handfast/algorithm/Matching" "edges" "[I" (.ref ae) ∧ Fld Z h ob "com/example/handfast/handfast/algorithm/Matching" "ends" "[I" (.ref an) ∧ Fld Z h ob "com/example/handfast/handfast/algorithm/Matching" "placeAt" "[I" (.ref ap) ∧ Fld Z h ob "com/example/handfast/handfast/algorithm/Matching" "size" "I" (.int (us + (1 : Int32))) ∧ Fld Z h ob "com/example/handfast/handfast/algorithm/Matching" "members" "Lcom/example/handfast/handfast/model/NumberSet;" .null ∧ own_A Z h ae .int (16) (fun z => .int (own_up fE kk p1 z)) ∧ own_A Z h an .int (32) (fun z => .int (own_up (own_up fN (2 * kk) p2) (2 * kk + 1) p3 z)) ∧ own_A Z h ap .int (nn) (fun z => .int (own_up (own_up fP xa us) xb us z))
set_option maxRecDepth 65536 in
set_option maxHeartbeats 40000000 in
theorem rm4 (l : Launch) (Z : State) (a0 : Array Value) (hw : ∀ d ∈ tables_1, d.before a0 Z = true) (ws : List Jvm.Cond) (ob : Addr) (p1 : Int32) (p2 : Int32) (p3 : Int32) (ae : Addr) (an : Addr) (ap : Addr) (us : Int32) (nn : Nat) (fE : Nat → Int32) (fN : Nat → Int32) (fP : Nat → Int32) (kk : Nat) (xa : Nat) (xb : Nat) (h0 : Heap) (n0 : Nat) (Z0 : n0 ≤ h0.size) (f_E_ob : Exa Z h0 ob "com/example/handfast/handfast/algorithm/Matching") (f_F_ob_edges : Fld Z h0 ob "com/example/handfast/handfast/algorithm/Matching" "edges" "[I" (.ref ae)) (f_F_ob_ends : Fld Z h0 ob "com/example/handfast/handfast/algorithm/Matching" "ends" "[I" (.ref an)) (f_F_ob_placeAt : Fld Z h0 ob "com/example/handfast/handfast/algorithm/Matching" "placeAt" "[I" (.ref ap)) (f_F_ob_size : Fld Z h0 ob "com/example/handfast/handfast/algorithm/Matching" "size" "I" (.int us)) (f_F_ob_members : Fld Z h0 ob "com/example/handfast/handfast/algorithm/Matching" "members" "Lcom/example/handfast/handfast/model/NumberSet;" .null) (f_A_ae : own_A Z h0 ae .int (16) (fun z => .int (fE z))) (f_A_an : own_A Z h0 an .int (32) (fun z => .int (fN z))) (f_A_ap : own_A Z h0 ap .int (nn) (fun z => .int (fP z))) (g_ob : n0 ≤ ob) (g_ae : n0 ≤ ae) (g_an : n0 ≤ an) (g_ap : n0 ≤ ap) (hne : own_ne4 ob ae an ap) (hk : own_In us kk 8) (hxa : own_In p2 xa nn) (hxb : own_In p3 xb nn) :
    MetFree l (⟨"com/example/handfast/handfast/algorithm/Matching", "add", "(III)V"⟩ : MethodName) (head1 (Jvm.Cond.code (⟨"com/example/handfast/handfast/algorithm/Matching", "add", "(III)V"⟩ : MethodName) prog_15_method_8_code 4 none :: ws) ({ frames := 0, cells := 0, slots := 0, locals := 0 } : Room)) (fun avs U => avs = #[(.ref ob), (.int p1), (.int p2), (.int p3)] ∧ Z.Warmed39 U.vm ∧ U.heap = h0) (fun _ _ _ _ _ => True) (fun _ U o U' => ∃ v L, o = .returned v ∧ Q4 Z ob p1 p2 p3 ae an ap us nn fE fN fP kk xa xb h0 n0 v U'.heap L ∧ FrameEnd U o U' L ({ frames := 0, cells := 0, slots := 0, locals := 0 } : Room).cells ({ frames := 0, cells := 0, slots := 0, locals := 0 } : Room).slots) := by
  refine MetFree.of_bodySF (plainFor_of_name own_pn_com_example_handfast_handfast_algorithm_Matching) hisR ?_
  intro p e s m args below meth c s₁ Bd hml0 hP hK
  obtain ⟨rfl, hZ, hh⟩ := hP
  have hx := Bd.exec
  have hby := Bd.bytes
  have hml : c.maxLocals = 4 := hml0
  have hown : s.vm.findClass "com/example/handfast/handfast/algorithm/Matching" = some m.cls := findClass_of_methodNamed Bd.named
  have hnm := (name_of_methodNamed Bd.named Bd.method).1
  have hlk := Bd.notSynchronized
  have hret := Bd.returns
  have X0 : Stand p l e ({ frames := 0, cells := 0, slots := 0, locals := 0 } : Room) s m #[(.ref ob), (.int p1), (.int p2), (.int p3)] below meth c s₁ [] 0 0 := Stand.of_body Bd
  have e0 : s₁.heap = h0 := by rw [← hh, Bd.state]; rfl
  have N0 := Fr.nil n0
  show own_W p e (FrameEnd s) below ({ frames := 0, cells := 0, slots := 0, locals := 0 } : Room).cells ({ frames := 0, cells := 0, slots := 0, locals := 0 } : Room).slots (Q4 Z ob p1 p2 p3 ae an ap us nn fE fN fP kk xa xb h0 n0) s₁ (entryFrame m #[(.ref ob), (.int p1), (.int p2), (.int p3)] 4)
  rw [ef_4]
  have K0 : Keep h0 h0 [ob, ae, an, ap] := Keep.refl h0 _
  refine own_aloadN X0 hx (hb hby d4_0) (v := (.ref ob)) rfl rfl (rfl : 0 + 1 = 1) ?_
  obtain ⟨T1, X1, e1, st1⟩ := getF X0 hx hZ hown (host := "") (Or.inl (hw _ (List.mem_of_getElem? (i := 26) rfl))) Via.refl e0 f_F_ob_size (g := (mkF m 1 #[.val (.ref ob), .val (.int p1), .val (.int p2), .val (.int p3)] [(.ref ob)])) rfl rfl (hb hby d4_1)
  refine own_W.step st1 ?_
  show own_W p e (FrameEnd s) below ({ frames := 0, cells := 0, slots := 0, locals := 0 } : Room).cells ({ frames := 0, cells := 0, slots := 0, locals := 0 } : Room).slots (Q4 Z ob p1 p2 p3 ae an ap us nn fE fN fP kk xa xb h0 n0) T1 (mkF m 4 #[.val (.ref ob), .val (.int p1), .val (.int p2), .val (.int p3)] [(.int us)])
  refine own_aloadN X1 hx (hb hby d4_4) (v := (.ref ob)) rfl rfl (rfl : 4 + 1 = 5) ?_
  obtain ⟨T2, X2, e2, st2⟩ := getF X1 hx hZ hown (host := "") (Or.inl (hw _ (List.mem_of_getElem? (i := 11) rfl))) Via.refl e1 f_F_ob_edges (g := (mkF m 5 #[.val (.ref ob), .val (.int p1), .val (.int p2), .val (.int p3)] [(.ref ob), (.int us)])) rfl rfl (hb hby d4_5)
  refine own_W.step st2 ?_
  show own_W p e (FrameEnd s) below ({ frames := 0, cells := 0, slots := 0, locals := 0 } : Room).cells ({ frames := 0, cells := 0, slots := 0, locals := 0 } : Room).slots (Q4 Z ob p1 p2 p3 ae an ap us nn fE fN fP kk xa xb h0 n0) T2 (mkF m 8 #[.val (.ref ob), .val (.int p1), .val (.int p2), .val (.int p3)] [(.ref ae), (.int us)])
  refine own_alen X2 hx hZ e2 f_A_ae (z := (16 : Int32)) rfl (g := (mkF m 8 #[.val (.ref ob), .val (.int p1), .val (.int p2), .val (.int p3)] [(.ref ae), (.int us)])) rfl rfl (hb hby d4_8) ?_
  show own_W p e (FrameEnd s) below ({ frames := 0, cells := 0, slots := 0, locals := 0 } : Room).cells ({ frames := 0, cells := 0, slots := 0, locals := 0 } : Room).slots (Q4 Z ob p1 p2 p3 ae an ap us nn fE fN fP kk xa xb h0 n0) T2 (mkF m 9 #[.val (.ref ob), .val (.int p1), .val (.int p2), .val (.int p3)] [(.int (16 : Int32)), (.int us)])
  have hc9 : ¬ (us = (16 : Int32)) := fun q => by have z := hk.1; have y := hk.2; rw [q, show (16 : Int32).toInt = 16 from by decide] at z; omega
  refine own_icmpYes X2 hx (hb hby d4_9) (feq hc9).2 (pc' := 46) (by decide) (by decide) ?_
  refine own_aloadN X2 hx (hb hby d4_46) (v := (.ref ob)) rfl rfl (rfl : 46 + 1 = 47) ?_
  obtain ⟨T4, X4, e4, st4⟩ := getF X2 hx hZ hown (host := "") (Or.inl (hw _ (List.mem_of_getElem? (i := 11) rfl))) Via.refl e2 f_F_ob_edges (g := (mkF m 47 #[.val (.ref ob), .val (.int p1), .val (.int p2), .val (.int p3)] [(.ref ob)])) rfl rfl (hb hby d4_47)
  refine own_W.step st4 ?_
  show own_W p e (FrameEnd s) below ({ frames := 0, cells := 0, slots := 0, locals := 0 } : Room).cells ({ frames := 0, cells := 0, slots := 0, locals := 0 } : Room).slots (Q4 Z ob p1 p2 p3 ae an ap us nn fE fN fP kk xa xb h0 n0) T4 (mkF m 50 #[.val (.ref ob), .val (.int p1), .val (.int p2), .val (.int p3)] [(.ref ae)])
  refine own_aloadN X4 hx (hb hby d4_50) (v := (.ref ob)) rfl rfl (rfl : 50 + 1 = 51) ?_
  obtain ⟨T5, X5, e5, st5⟩ := getF X4 hx hZ hown (host := "") (Or.inl (hw _ (List.mem_of_getElem? (i := 26) rfl))) Via.refl e4 f_F_ob_size (g := (mkF m 51 #[.val (.ref ob), .val (.int p1), .val (.int p2), .val (.int p3)] [(.ref ob), (.ref ae)])) rfl rfl (hb hby d4_51)
  refine own_W.step st5 ?_
  show own_W p e (FrameEnd s) below ({ frames := 0, cells := 0, slots := 0, locals := 0 } : Room).cells ({ frames := 0, cells := 0, slots := 0, locals := 0 } : Room).slots (Q4 Z ob p1 p2 p3 ae an ap us nn fE fN fP kk xa xb h0 n0) T5 (mkF m 54 #[.val (.ref ob), .val (.int p1), .val (.int p2), .val (.int p3)] [(.int us), (.ref ae)])
  refine own_iloadN X5 hx (hb hby d4_54) (v := p1) rfl (rfl : 54 + 1 = 55) ?_
  have hi6 : own_In us (kk) (16) := own_Iw hk (by decide)
  obtain ⟨T6, h6, X6, e6, W6, V6, st6⟩ := own_stI X5 hx hZ e5 f_A_ae hi6 (g := (mkF m 55 #[.val (.ref ob), .val (.int p1), .val (.int p2), .val (.int p3)] [(.int p1), (.int us), (.ref ae)])) rfl rfl (hb hby d4_55)
  refine own_W.step st6 ?_
  have N6 := Fr.snoc X6 N0 g_ae
  have f6_E_ob : Exa Z h6 ob "com/example/handfast/handfast/algorithm/Matching" := f_E_ob.wr W6
  have f6_F_ob_edges : Fld Z h6 ob "com/example/handfast/handfast/algorithm/Matching" "edges" "[I" (.ref ae) := f_F_ob_edges.other W6 (Or.inl hne.1)
  have f6_F_ob_ends : Fld Z h6 ob "com/example/handfast/handfast/algorithm/Matching" "ends" "[I" (.ref an) := f_F_ob_ends.other W6 (Or.inl hne.1)
  have f6_F_ob_placeAt : Fld Z h6 ob "com/example/handfast/handfast/algorithm/Matching" "placeAt" "[I" (.ref ap) := f_F_ob_placeAt.other W6 (Or.inl hne.1)
  have f6_F_ob_size : Fld Z h6 ob "com/example/handfast/handfast/algorithm/Matching" "size" "I" (.int us) := f_F_ob_size.other W6 (Or.inl hne.1)
  have f6_F_ob_members : Fld Z h6 ob "com/example/handfast/handfast/algorithm/Matching" "members" "Lcom/example/handfast/handfast/model/NumberSet;" .null := f_F_ob_members.other W6 (Or.inl hne.1)
  have f6_A_an : own_A Z h6 an .int (32) (fun z => .int (fN z)) := f_A_an.other W6 (Ne.symm hne.2.2.2.1)
  have f6_A_ap : own_A Z h6 ap .int (nn) (fun z => .int (fP z)) := f_A_ap.other W6 (Ne.symm hne.2.2.2.2.1)
  have f6_K : Keep h0 h6 [ob, ae, an, ap] := K0.wr W6 (Or.inl (by simp))
  have U6 : own_A Z h6 ae .int (16) (fun z => .int (own_up fE kk p1 z)) := V6.congr (fun z _ => by unfold own_up; split <;> rfl)
  have z6 : n0 ≤ h6.size := by rw [W6.size]; exact Z0
  show own_W p e (FrameEnd s) below ({ frames := 0, cells := 0, slots := 0, locals := 0 } : Room).cells ({ frames := 0, cells := 0, slots := 0, locals := 0 } : Room).slots (Q4 Z ob p1 p2 p3 ae an ap us nn fE fN fP kk xa xb h0 n0) T6 (mkF m 56 #[.val (.ref ob), .val (.int p1), .val (.int p2), .val (.int p3)] [])
  refine own_aloadN X6 hx (hb hby d4_56) (v := (.ref ob)) rfl rfl (rfl : 56 + 1 = 57) ?_
  obtain ⟨T7, X7, e7, st7⟩ := getF X6 hx hZ hown (host := "") (Or.inl (hw _ (List.mem_of_getElem? (i := 13) rfl))) Via.refl e6 f6_F_ob_ends (g := (mkF m 57 #[.val (.ref ob), .val (.int p1), .val (.int p2), .val (.int p3)] [(.ref ob)])) rfl rfl (hb hby d4_57)
  refine own_W.step st7 ?_
  show own_W p e (FrameEnd s) below ({ frames := 0, cells := 0, slots := 0, locals := 0 } : Room).cells ({ frames := 0, cells := 0, slots := 0, locals := 0 } : Room).slots (Q4 Z ob p1 p2 p3 ae an ap us nn fE fN fP kk xa xb h0 n0) T7 (mkF m 60 #[.val (.ref ob), .val (.int p1), .val (.int p2), .val (.int p3)] [(.ref an)])
  refine own_iconst X7 hx (hb hby d4_60) (2 : Int32) (by first | rfl | decide) (rfl : 60 + 1 = 61) ?_
  refine own_aloadN X7 hx (hb hby d4_61) (v := (.ref ob)) rfl rfl (rfl : 61 + 1 = 62) ?_
  obtain ⟨T8, X8, e8, st8⟩ := getF X7 hx hZ hown (host := "") (Or.inl (hw _ (List.mem_of_getElem? (i := 26) rfl))) Via.refl e7 f6_F_ob_size (g := (mkF m 62 #[.val (.ref ob), .val (.int p1), .val (.int p2), .val (.int p3)] [(.ref ob), (.int (2 : Int32)), (.ref an)])) rfl rfl (hb hby d4_62)
  refine own_W.step st8 ?_
  show own_W p e (FrameEnd s) below ({ frames := 0, cells := 0, slots := 0, locals := 0 } : Room).cells ({ frames := 0, cells := 0, slots := 0, locals := 0 } : Room).slots (Q4 Z ob p1 p2 p3 ae an ap us nn fE fN fP kk xa xb h0 n0) T8 (mkF m 65 #[.val (.ref ob), .val (.int p1), .val (.int p2), .val (.int p3)] [(.int us), (.int (2 : Int32)), (.ref an)])
  refine own_imul X8 hx (hb hby d4_65) (rfl : 65 + 1 = 66) ?_
  refine own_iloadN X8 hx (hb hby d4_66) (v := p2) rfl (rfl : 66 + 1 = 67) ?_
  have hi9 : own_In ((2 : Int32) * us) (2 * kk) (32) := own_I2 hk (by decide) (by decide)
  obtain ⟨T9, h9, X9, e9, W9, V9, st9⟩ := own_stI X8 hx hZ e8 f6_A_an hi9 (g := (mkF m 67 #[.val (.ref ob), .val (.int p1), .val (.int p2), .val (.int p3)] [(.int p2), (.int ((2 : Int32) * us)), (.ref an)])) rfl rfl (hb hby d4_67)
  refine own_W.step st9 ?_
  have N9 := Fr.snoc X9 N6 g_an
  have f9_E_ob : Exa Z h9 ob "com/example/handfast/handfast/algorithm/Matching" := f6_E_ob.wr W9
  have f9_F_ob_edges : Fld Z h9 ob "com/example/handfast/handfast/algorithm/Matching" "edges" "[I" (.ref ae) := f6_F_ob_edges.other W9 (Or.inl hne.2.1)
  have f9_F_ob_ends : Fld Z h9 ob "com/example/handfast/handfast/algorithm/Matching" "ends" "[I" (.ref an) := f6_F_ob_ends.other W9 (Or.inl hne.2.1)
  have f9_F_ob_placeAt : Fld Z h9 ob "com/example/handfast/handfast/algorithm/Matching" "placeAt" "[I" (.ref ap) := f6_F_ob_placeAt.other W9 (Or.inl hne.2.1)
  have f9_F_ob_size : Fld Z h9 ob "com/example/handfast/handfast/algorithm/Matching" "size" "I" (.int us) := f6_F_ob_size.other W9 (Or.inl hne.2.1)
  have f9_F_ob_members : Fld Z h9 ob "com/example/handfast/handfast/algorithm/Matching" "members" "Lcom/example/handfast/handfast/model/NumberSet;" .null := f6_F_ob_members.other W9 (Or.inl hne.2.1)
  have f9_A_ae : own_A Z h9 ae .int (16) (fun z => .int (own_up fE kk p1 z)) := U6.other W9 hne.2.2.2.1
  have f9_A_ap : own_A Z h9 ap .int (nn) (fun z => .int (fP z)) := f6_A_ap.other W9 (Ne.symm hne.2.2.2.2.2)
  have f9_K : Keep h0 h9 [ob, ae, an, ap] := f6_K.wr W9 (Or.inl (by simp))
  have U9 : own_A Z h9 an .int (32) (fun z => .int (own_up fN (2 * kk) p2 z)) := V9.congr (fun z _ => by unfold own_up; split <;> rfl)
  have z9 : n0 ≤ h9.size := by rw [W9.size]; exact z6
  show own_W p e (FrameEnd s) below ({ frames := 0, cells := 0, slots := 0, locals := 0 } : Room).cells ({ frames := 0, cells := 0, slots := 0, locals := 0 } : Room).slots (Q4 Z ob p1 p2 p3 ae an ap us nn fE fN fP kk xa xb h0 n0) T9 (mkF m 68 #[.val (.ref ob), .val (.int p1), .val (.int p2), .val (.int p3)] [])
  refine own_aloadN X9 hx (hb hby d4_68) (v := (.ref ob)) rfl rfl (rfl : 68 + 1 = 69) ?_
  obtain ⟨T10, X10, e10, st10⟩ := getF X9 hx hZ hown (host := "") (Or.inl (hw _ (List.mem_of_getElem? (i := 13) rfl))) Via.refl e9 f9_F_ob_ends (g := (mkF m 69 #[.val (.ref ob), .val (.int p1), .val (.int p2), .val (.int p3)] [(.ref ob)])) rfl rfl (hb hby d4_69)
  refine own_W.step st10 ?_
  show own_W p e (FrameEnd s) below ({ frames := 0, cells := 0, slots := 0, locals := 0 } : Room).cells ({ frames := 0, cells := 0, slots := 0, locals := 0 } : Room).slots (Q4 Z ob p1 p2 p3 ae an ap us nn fE fN fP kk xa xb h0 n0) T10 (mkF m 72 #[.val (.ref ob), .val (.int p1), .val (.int p2), .val (.int p3)] [(.ref an)])
  refine own_iconst X10 hx (hb hby d4_72) (2 : Int32) (by first | rfl | decide) (rfl : 72 + 1 = 73) ?_
  refine own_aloadN X10 hx (hb hby d4_73) (v := (.ref ob)) rfl rfl (rfl : 73 + 1 = 74) ?_
  obtain ⟨T11, X11, e11, st11⟩ := getF X10 hx hZ hown (host := "") (Or.inl (hw _ (List.mem_of_getElem? (i := 26) rfl))) Via.refl e10 f9_F_ob_size (g := (mkF m 74 #[.val (.ref ob), .val (.int p1), .val (.int p2), .val (.int p3)] [(.ref ob), (.int (2 : Int32)), (.ref an)])) rfl rfl (hb hby d4_74)
  refine own_W.step st11 ?_
  show own_W p e (FrameEnd s) below ({ frames := 0, cells := 0, slots := 0, locals := 0 } : Room).cells ({ frames := 0, cells := 0, slots := 0, locals := 0 } : Room).slots (Q4 Z ob p1 p2 p3 ae an ap us nn fE fN fP kk xa xb h0 n0) T11 (mkF m 77 #[.val (.ref ob), .val (.int p1), .val (.int p2), .val (.int p3)] [(.int us), (.int (2 : Int32)), (.ref an)])
  refine own_imul X11 hx (hb hby d4_77) (rfl : 77 + 1 = 78) ?_
  refine own_iconst X11 hx (hb hby d4_78) (1 : Int32) (by first | rfl | decide) (rfl : 78 + 1 = 79) ?_
  refine own_iadd X11 hx (hb hby d4_79) (rfl : 79 + 1 = 80) ?_
  refine own_iloadN X11 hx (hb hby d4_80) (v := p3) rfl (rfl : 80 + 1 = 81) ?_
  have hi12 : own_In (((2 : Int32) * us) + (1 : Int32)) (2 * kk + 1) (32) := own_I21 hk (by decide) (by decide)
  obtain ⟨T12, h12, X12, e12, W12, V12, st12⟩ := own_stI X11 hx hZ e11 U9 hi12 (g := (mkF m 81 #[.val (.ref ob), .val (.int p1), .val (.int p2), .val (.int p3)] [(.int p3), (.int (((2 : Int32) * us) + (1 : Int32))), (.ref an)])) rfl rfl (hb hby d4_81)
  refine own_W.step st12 ?_
  have N12 := Fr.snoc X12 N9 g_an
  have f12_E_ob : Exa Z h12 ob "com/example/handfast/handfast/algorithm/Matching" := f9_E_ob.wr W12
  have f12_F_ob_edges : Fld Z h12 ob "com/example/handfast/handfast/algorithm/Matching" "edges" "[I" (.ref ae) := f9_F_ob_edges.other W12 (Or.inl hne.2.1)
  have f12_F_ob_ends : Fld Z h12 ob "com/example/handfast/handfast/algorithm/Matching" "ends" "[I" (.ref an) := f9_F_ob_ends.other W12 (Or.inl hne.2.1)
  have f12_F_ob_placeAt : Fld Z h12 ob "com/example/handfast/handfast/algorithm/Matching" "placeAt" "[I" (.ref ap) := f9_F_ob_placeAt.other W12 (Or.inl hne.2.1)
  have f12_F_ob_size : Fld Z h12 ob "com/example/handfast/handfast/algorithm/Matching" "size" "I" (.int us) := f9_F_ob_size.other W12 (Or.inl hne.2.1)
  have f12_F_ob_members : Fld Z h12 ob "com/example/handfast/handfast/algorithm/Matching" "members" "Lcom/example/handfast/handfast/model/NumberSet;" .null := f9_F_ob_members.other W12 (Or.inl hne.2.1)
  have f12_A_ae : own_A Z h12 ae .int (16) (fun z => .int (own_up fE kk p1 z)) := f9_A_ae.other W12 hne.2.2.2.1
  have f12_A_ap : own_A Z h12 ap .int (nn) (fun z => .int (fP z)) := f9_A_ap.other W12 (Ne.symm hne.2.2.2.2.2)
  have f12_K : Keep h0 h12 [ob, ae, an, ap] := f9_K.wr W12 (Or.inl (by simp))
  have U12 : own_A Z h12 an .int (32) (fun z => .int (own_up (own_up fN (2 * kk) p2) (2 * kk + 1) p3 z)) := V12.congr (fun z _ => by unfold own_up; split <;> rfl)
  have z12 : n0 ≤ h12.size := by rw [W12.size]; exact z9
  show own_W p e (FrameEnd s) below ({ frames := 0, cells := 0, slots := 0, locals := 0 } : Room).cells ({ frames := 0, cells := 0, slots := 0, locals := 0 } : Room).slots (Q4 Z ob p1 p2 p3 ae an ap us nn fE fN fP kk xa xb h0 n0) T12 (mkF m 82 #[.val (.ref ob), .val (.int p1), .val (.int p2), .val (.int p3)] [])
  refine own_aloadN X12 hx (hb hby d4_82) (v := (.ref ob)) rfl rfl (rfl : 82 + 1 = 83) ?_
  obtain ⟨T13, X13, e13, st13⟩ := getF X12 hx hZ hown (host := "") (Or.inl (hw _ (List.mem_of_getElem? (i := 15) rfl))) Via.refl e12 f12_F_ob_placeAt (g := (mkF m 83 #[.val (.ref ob), .val (.int p1), .val (.int p2), .val (.int p3)] [(.ref ob)])) rfl rfl (hb hby d4_83)
  refine own_W.step st13 ?_
  show own_W p e (FrameEnd s) below ({ frames := 0, cells := 0, slots := 0, locals := 0 } : Room).cells ({ frames := 0, cells := 0, slots := 0, locals := 0 } : Room).slots (Q4 Z ob p1 p2 p3 ae an ap us nn fE fN fP kk xa xb h0 n0) T13 (mkF m 86 #[.val (.ref ob), .val (.int p1), .val (.int p2), .val (.int p3)] [(.ref ap)])
  refine own_iloadN X13 hx (hb hby d4_86) (v := p2) rfl (rfl : 86 + 1 = 87) ?_
  refine own_aloadN X13 hx (hb hby d4_87) (v := (.ref ob)) rfl rfl (rfl : 87 + 1 = 88) ?_
  obtain ⟨T14, X14, e14, st14⟩ := getF X13 hx hZ hown (host := "") (Or.inl (hw _ (List.mem_of_getElem? (i := 26) rfl))) Via.refl e13 f12_F_ob_size (g := (mkF m 88 #[.val (.ref ob), .val (.int p1), .val (.int p2), .val (.int p3)] [(.ref ob), (.int p2), (.ref ap)])) rfl rfl (hb hby d4_88)
  refine own_W.step st14 ?_
  show own_W p e (FrameEnd s) below ({ frames := 0, cells := 0, slots := 0, locals := 0 } : Room).cells ({ frames := 0, cells := 0, slots := 0, locals := 0 } : Room).slots (Q4 Z ob p1 p2 p3 ae an ap us nn fE fN fP kk xa xb h0 n0) T14 (mkF m 91 #[.val (.ref ob), .val (.int p1), .val (.int p2), .val (.int p3)] [(.int us), (.int p2), (.ref ap)])
  have hi15 : own_In p2 (xa) (nn) := hxa
  obtain ⟨T15, h15, X15, e15, W15, V15, st15⟩ := own_stI X14 hx hZ e14 f12_A_ap hi15 (g := (mkF m 91 #[.val (.ref ob), .val (.int p1), .val (.int p2), .val (.int p3)] [(.int us), (.int p2), (.ref ap)])) rfl rfl (hb hby d4_91)
  refine own_W.step st15 ?_
  have N15 := Fr.snoc X15 N12 g_ap
  have f15_E_ob : Exa Z h15 ob "com/example/handfast/handfast/algorithm/Matching" := f12_E_ob.wr W15
  have f15_F_ob_edges : Fld Z h15 ob "com/example/handfast/handfast/algorithm/Matching" "edges" "[I" (.ref ae) := f12_F_ob_edges.other W15 (Or.inl hne.2.2.1)
  have f15_F_ob_ends : Fld Z h15 ob "com/example/handfast/handfast/algorithm/Matching" "ends" "[I" (.ref an) := f12_F_ob_ends.other W15 (Or.inl hne.2.2.1)
  have f15_F_ob_placeAt : Fld Z h15 ob "com/example/handfast/handfast/algorithm/Matching" "placeAt" "[I" (.ref ap) := f12_F_ob_placeAt.other W15 (Or.inl hne.2.2.1)
  have f15_F_ob_size : Fld Z h15 ob "com/example/handfast/handfast/algorithm/Matching" "size" "I" (.int us) := f12_F_ob_size.other W15 (Or.inl hne.2.2.1)
  have f15_F_ob_members : Fld Z h15 ob "com/example/handfast/handfast/algorithm/Matching" "members" "Lcom/example/handfast/handfast/model/NumberSet;" .null := f12_F_ob_members.other W15 (Or.inl hne.2.2.1)
  have f15_A_ae : own_A Z h15 ae .int (16) (fun z => .int (own_up fE kk p1 z)) := f12_A_ae.other W15 hne.2.2.2.2.1
  have f15_A_an : own_A Z h15 an .int (32) (fun z => .int (own_up (own_up fN (2 * kk) p2) (2 * kk + 1) p3 z)) := U12.other W15 hne.2.2.2.2.2
  have f15_K : Keep h0 h15 [ob, ae, an, ap] := f12_K.wr W15 (Or.inl (by simp))
  have U15 : own_A Z h15 ap .int (nn) (fun z => .int (own_up fP xa us z)) := V15.congr (fun z _ => by unfold own_up; split <;> rfl)
  have z15 : n0 ≤ h15.size := by rw [W15.size]; exact z12
  show own_W p e (FrameEnd s) below ({ frames := 0, cells := 0, slots := 0, locals := 0 } : Room).cells ({ frames := 0, cells := 0, slots := 0, locals := 0 } : Room).slots (Q4 Z ob p1 p2 p3 ae an ap us nn fE fN fP kk xa xb h0 n0) T15 (mkF m 92 #[.val (.ref ob), .val (.int p1), .val (.int p2), .val (.int p3)] [])
  refine own_aloadN X15 hx (hb hby d4_92) (v := (.ref ob)) rfl rfl (rfl : 92 + 1 = 93) ?_
  obtain ⟨T16, X16, e16, st16⟩ := getF X15 hx hZ hown (host := "") (Or.inl (hw _ (List.mem_of_getElem? (i := 15) rfl))) Via.refl e15 f15_F_ob_placeAt (g := (mkF m 93 #[.val (.ref ob), .val (.int p1), .val (.int p2), .val (.int p3)] [(.ref ob)])) rfl rfl (hb hby d4_93)
  refine own_W.step st16 ?_
  show own_W p e (FrameEnd s) below ({ frames := 0, cells := 0, slots := 0, locals := 0 } : Room).cells ({ frames := 0, cells := 0, slots := 0, locals := 0 } : Room).slots (Q4 Z ob p1 p2 p3 ae an ap us nn fE fN fP kk xa xb h0 n0) T16 (mkF m 96 #[.val (.ref ob), .val (.int p1), .val (.int p2), .val (.int p3)] [(.ref ap)])
  refine own_iloadN X16 hx (hb hby d4_96) (v := p3) rfl (rfl : 96 + 1 = 97) ?_
  refine own_aloadN X16 hx (hb hby d4_97) (v := (.ref ob)) rfl rfl (rfl : 97 + 1 = 98) ?_
  obtain ⟨T17, X17, e17, st17⟩ := getF X16 hx hZ hown (host := "") (Or.inl (hw _ (List.mem_of_getElem? (i := 26) rfl))) Via.refl e16 f15_F_ob_size (g := (mkF m 98 #[.val (.ref ob), .val (.int p1), .val (.int p2), .val (.int p3)] [(.ref ob), (.int p3), (.ref ap)])) rfl rfl (hb hby d4_98)
  refine own_W.step st17 ?_
  show own_W p e (FrameEnd s) below ({ frames := 0, cells := 0, slots := 0, locals := 0 } : Room).cells ({ frames := 0, cells := 0, slots := 0, locals := 0 } : Room).slots (Q4 Z ob p1 p2 p3 ae an ap us nn fE fN fP kk xa xb h0 n0) T17 (mkF m 101 #[.val (.ref ob), .val (.int p1), .val (.int p2), .val (.int p3)] [(.int us), (.int p3), (.ref ap)])
  have hi18 : own_In p3 (xb) (nn) := hxb
  obtain ⟨T18, h18, X18, e18, W18, V18, st18⟩ := own_stI X17 hx hZ e17 U15 hi18 (g := (mkF m 101 #[.val (.ref ob), .val (.int p1), .val (.int p2), .val (.int p3)] [(.int us), (.int p3), (.ref ap)])) rfl rfl (hb hby d4_101)
  refine own_W.step st18 ?_
  have N18 := Fr.snoc X18 N15 g_ap
  have f18_E_ob : Exa Z h18 ob "com/example/handfast/handfast/algorithm/Matching" := f15_E_ob.wr W18
  have f18_F_ob_edges : Fld Z h18 ob "com/example/handfast/handfast/algorithm/Matching" "edges" "[I" (.ref ae) := f15_F_ob_edges.other W18 (Or.inl hne.2.2.1)
  have f18_F_ob_ends : Fld Z h18 ob "com/example/handfast/handfast/algorithm/Matching" "ends" "[I" (.ref an) := f15_F_ob_ends.other W18 (Or.inl hne.2.2.1)
  have f18_F_ob_placeAt : Fld Z h18 ob "com/example/handfast/handfast/algorithm/Matching" "placeAt" "[I" (.ref ap) := f15_F_ob_placeAt.other W18 (Or.inl hne.2.2.1)
  have f18_F_ob_size : Fld Z h18 ob "com/example/handfast/handfast/algorithm/Matching" "size" "I" (.int us) := f15_F_ob_size.other W18 (Or.inl hne.2.2.1)
  have f18_F_ob_members : Fld Z h18 ob "com/example/handfast/handfast/algorithm/Matching" "members" "Lcom/example/handfast/handfast/model/NumberSet;" .null := f15_F_ob_members.other W18 (Or.inl hne.2.2.1)
  have f18_A_ae : own_A Z h18 ae .int (16) (fun z => .int (own_up fE kk p1 z)) := f15_A_ae.other W18 hne.2.2.2.2.1
  have f18_A_an : own_A Z h18 an .int (32) (fun z => .int (own_up (own_up fN (2 * kk) p2) (2 * kk + 1) p3 z)) := f15_A_an.other W18 hne.2.2.2.2.2
  have f18_K : Keep h0 h18 [ob, ae, an, ap] := f15_K.wr W18 (Or.inl (by simp))
  have U18 : own_A Z h18 ap .int (nn) (fun z => .int (own_up (own_up fP xa us) xb us z)) := V18.congr (fun z _ => by unfold own_up; split <;> rfl)
  have z18 : n0 ≤ h18.size := by rw [W18.size]; exact z15
  show own_W p e (FrameEnd s) below ({ frames := 0, cells := 0, slots := 0, locals := 0 } : Room).cells ({ frames := 0, cells := 0, slots := 0, locals := 0 } : Room).slots (Q4 Z ob p1 p2 p3 ae an ap us nn fE fN fP kk xa xb h0 n0) T18 (mkF m 102 #[.val (.ref ob), .val (.int p1), .val (.int p2), .val (.int p3)] [])
  refine own_aloadN X18 hx (hb hby d4_102) (v := (.ref ob)) rfl rfl (rfl : 102 + 1 = 103) ?_
  obtain ⟨T19, X19, e19, st19⟩ := getF X18 hx hZ hown (host := "") (Or.inl (hw _ (List.mem_of_getElem? (i := 28) rfl))) Via.refl e18 f18_F_ob_members (g := (mkF m 103 #[.val (.ref ob), .val (.int p1), .val (.int p2), .val (.int p3)] [(.ref ob)])) rfl rfl (hb hby d4_103)
  refine own_W.step st19 ?_
  show own_W p e (FrameEnd s) below ({ frames := 0, cells := 0, slots := 0, locals := 0 } : Room).cells ({ frames := 0, cells := 0, slots := 0, locals := 0 } : Room).slots (Q4 Z ob p1 p2 p3 ae an ap us nn fE fN fP kk xa xb h0 n0) T19 (mkF m 106 #[.val (.ref ob), .val (.int p1), .val (.int p2), .val (.int p3)] [.null])
  refine own_ifnullYes X19 hx (hb hby d4_106) (pc' := 118) (by decide) (by decide) ?_
  refine own_aloadN X19 hx (hb hby d4_118) (v := (.ref ob)) rfl rfl (rfl : 118 + 1 = 119) ?_
  refine own_dup X19 hx (hb hby d4_119) rfl (rfl : 119 + 1 = 120) ?_
  obtain ⟨T20, X20, e20, st20⟩ := getF X19 hx hZ hown (host := "") (Or.inl (hw _ (List.mem_of_getElem? (i := 26) rfl))) Via.refl e19 f18_F_ob_size (g := (mkF m 120 #[.val (.ref ob), .val (.int p1), .val (.int p2), .val (.int p3)] [(.ref ob), (.ref ob)])) rfl rfl (hb hby d4_120)
  refine own_W.step st20 ?_
  show own_W p e (FrameEnd s) below ({ frames := 0, cells := 0, slots := 0, locals := 0 } : Room).cells ({ frames := 0, cells := 0, slots := 0, locals := 0 } : Room).slots (Q4 Z ob p1 p2 p3 ae an ap us nn fE fN fP kk xa xb h0 n0) T20 (mkF m 123 #[.val (.ref ob), .val (.int p1), .val (.int p2), .val (.int p3)] [(.int us), (.ref ob)])
  refine own_iconst X20 hx (hb hby d4_123) (1 : Int32) (by first | rfl | decide) (rfl : 123 + 1 = 124) ?_
  refine own_iadd X20 hx (hb hby d4_124) (rfl : 124 + 1 = 125) ?_
  obtain ⟨T21, h21, X21, e21, W21, st21⟩ := putF X20 hx hZ hown (host := "") (Or.inl (hw _ (List.mem_of_getElem? (i := 26) rfl))) Via.refl e20 f18_F_ob_size f18_E_ob (Or.inl (hw _ (List.mem_of_getElem? (i := 27) rfl))) (hw _ (List.mem_of_getElem? (i := 2) rfl)) (ty := .int) (by decide) rfl rfl (g := (mkF m 125 #[.val (.ref ob), .val (.int p1), .val (.int p2), .val (.int p3)] [(.int (us + (1 : Int32))), (.ref ob)])) rfl rfl (hb hby d4_125)
  refine own_W.step st21 ?_
  have N21 := Fr.snoc X21 N18 g_ob
  have f21_E_ob : Exa Z h21 ob "com/example/handfast/handfast/algorithm/Matching" := f18_E_ob.wr W21
  have f21_F_ob_edges : Fld Z h21 ob "com/example/handfast/handfast/algorithm/Matching" "edges" "[I" (.ref ae) := f18_F_ob_edges.other W21 (Or.inr (slot_ne (Or.inl (hw _ (List.mem_of_getElem? (i := 12) rfl))) (Or.inl (hw _ (List.mem_of_getElem? (i := 27) rfl))) (by decide) (t := (.array .int)) (t' := .int) (by decide) (by decide)))
  have f21_F_ob_ends : Fld Z h21 ob "com/example/handfast/handfast/algorithm/Matching" "ends" "[I" (.ref an) := f18_F_ob_ends.other W21 (Or.inr (slot_ne (Or.inl (hw _ (List.mem_of_getElem? (i := 14) rfl))) (Or.inl (hw _ (List.mem_of_getElem? (i := 27) rfl))) (by decide) (t := (.array .int)) (t' := .int) (by decide) (by decide)))
  have f21_F_ob_placeAt : Fld Z h21 ob "com/example/handfast/handfast/algorithm/Matching" "placeAt" "[I" (.ref ap) := f18_F_ob_placeAt.other W21 (Or.inr (slot_ne (Or.inr (hw _ (List.mem_of_getElem? (i := 16) rfl))) (Or.inl (hw _ (List.mem_of_getElem? (i := 27) rfl))) (by decide) (t := (.array .int)) (t' := .int) (by decide) (by decide)))
  have f21_F_ob_members : Fld Z h21 ob "com/example/handfast/handfast/algorithm/Matching" "members" "Lcom/example/handfast/handfast/model/NumberSet;" .null := f18_F_ob_members.other W21 (Or.inr (slot_ne (Or.inl (hw _ (List.mem_of_getElem? (i := 29) rfl))) (Or.inl (hw _ (List.mem_of_getElem? (i := 27) rfl))) (by decide) (t := (.object "com/example/handfast/handfast/model/NumberSet")) (t' := .int) (by decide) (by decide)))
  have f21_A_ae : own_A Z h21 ae .int (16) (fun z => .int (own_up fE kk p1 z)) := f18_A_ae.other W21 (Ne.symm hne.1)
  have f21_A_an : own_A Z h21 an .int (32) (fun z => .int (own_up (own_up fN (2 * kk) p2) (2 * kk + 1) p3 z)) := f18_A_an.other W21 (Ne.symm hne.2.1)
  have f21_A_ap : own_A Z h21 ap .int (nn) (fun z => .int (own_up (own_up fP xa us) xb us z)) := U18.other W21 (Ne.symm hne.2.2.1)
  have f21_K : Keep h0 h21 [ob, ae, an, ap] := f18_K.wr W21 (Or.inl (by simp))
  have fw21 : Fld Z h21 ob "com/example/handfast/handfast/algorithm/Matching" "size" "I" (.int (us + (1 : Int32))) := f18_F_ob_size.same W21
  have z21 : n0 ≤ h21.size := by rw [W21.size]; exact z18
  show own_W p e (FrameEnd s) below ({ frames := 0, cells := 0, slots := 0, locals := 0 } : Room).cells ({ frames := 0, cells := 0, slots := 0, locals := 0 } : Room).slots (Q4 Z ob p1 p2 p3 ae an ap us nn fE fN fP kk xa xb h0 n0) T21 (mkF m 128 #[.val (.ref ob), .val (.int p1), .val (.int p2), .val (.int p3)] [])
  refine own_retV X21 hx hlk hret (hb hby d4_128) (by decide) (by decide) ?_
  show Q4 Z ob p1 p2 p3 ae an ap us nn fE fN fP kk xa xb h0 n0 none T21.heap _
  rw [e21]
  exact ⟨rfl, N21, f21_K, f21_E_ob, f21_F_ob_edges, f21_F_ob_ends, f21_F_ob_placeAt, fw21, f21_F_ob_members, f21_A_ae, f21_A_an, f21_A_ap⟩
theorem d5_0 : decode prog_15_method_4_code 0 = .ok (.aload_n 0, 1) := by decide +kernel
theorem d5_1 : decode prog_15_method_4_code 1 = .ok (.getfield 16, 3) := by decide +kernel
theorem d5_4 : decode prog_15_method_4_code 4 = .ok (.iload_n 1, 1) := by decide +kernel
theorem d5_5 : decode prog_15_method_4_code 5 = .ok (.iaload, 1) := by decide +kernel
theorem d5_6 : decode prog_15_method_4_code 6 = .ok (.istore_n 2, 1) := by decide +kernel
theorem d5_7 : decode prog_15_method_4_code 7 = .ok (.iload_n 2, 1) := by decide +kernel
theorem d5_8 : decode prog_15_method_4_code 8 = .ok (.iconst (-1), 1) := by decide +kernel
theorem d5_9 : decode prog_15_method_4_code 9 = .ok (.if_icmp .ne 7, 3) := by decide +kernel
theorem d5_12 : decode prog_15_method_4_code 12 = .ok (.iconst (-1), 1) := by decide +kernel
theorem d5_13 : decode prog_15_method_4_code 13 = .ok (.goto 9, 3) := by decide +kernel
theorem d5_16 : decode prog_15_method_4_code 16 = .ok (.aload_n 0, 1) := by decide +kernel
theorem d5_17 : decode prog_15_method_4_code 17 = .ok (.getfield 9, 3) := by decide +kernel
theorem d5_20 : decode prog_15_method_4_code 20 = .ok (.iload_n 2, 1) := by decide +kernel
theorem d5_21 : decode prog_15_method_4_code 21 = .ok (.iaload, 1) := by decide +kernel
theorem d5_22 : decode prog_15_method_4_code 22 = .ok (.ireturn, 1) := by decide +kernel
theorem ef_5 (m : MethodId) (ob : Addr) (p1 : Int32) : entryFrame m #[(.ref ob), (.int p1)] 3 = mkF m 0 #[.val (.ref ob), .val (.int p1), .unset] [] := by first | (simp [entryFrame, mkF, argsToLocals, Value.category]; done) | rfl
def Q5 (Z : State) (ob : Addr) (p1 : Int32) (ae : Addr) (ap : Addr) (nn : Nat) (fE : Nat → Int32) (fP : Nat → Int32) (xa : Nat) (pz : Nat) (h0 : Heap) (n0 : Nat) (v : Option Value) (h : Heap) (L : List Loc) : Prop := v = some (.int (own_at fE fP xa pz)) ∧ Fr n0 L ∧ h = h0
set_option maxRecDepth 65536 in
set_option maxHeartbeats 40000000 in
theorem rm5 (l : Launch) (Z : State) (a0 : Array Value) (hw : ∀ d ∈ tables_1, d.before a0 Z = true) (ws : List Jvm.Cond) (ob : Addr) (p1 : Int32) (ae : Addr) (ap : Addr) (nn : Nat) (fE : Nat → Int32) (fP : Nat → Int32) (xa : Nat) (pz : Nat) (h0 : Heap) (n0 : Nat) (Z0 : n0 ≤ h0.size) (f_F_ob_edges : Fld Z h0 ob "com/example/handfast/handfast/algorithm/Matching" "edges" "[I" (.ref ae)) (f_F_ob_placeAt : Fld Z h0 ob "com/example/handfast/handfast/algorithm/Matching" "placeAt" "[I" (.ref ap)) (f_A_ae : own_A Z h0 ae .int (16) (fun z => .int (fE z))) (f_A_ap : own_A Z h0 ap .int (nn) (fun z => .int (fP z))) (hxa : own_In p1 xa nn) (hpz : fP xa = (-1 : Int32) ∨ own_In (fP xa) pz 16) :
    MetFree l (⟨"com/example/handfast/handfast/algorithm/Matching", "at", "(I)I"⟩ : MethodName) (head1 (Jvm.Cond.code (⟨"com/example/handfast/handfast/algorithm/Matching", "at", "(I)I"⟩ : MethodName) prog_15_method_4_code 3 (some .int) :: ws) ({ frames := 0, cells := 0, slots := 0, locals := 0 } : Room)) (fun avs U => avs = #[(.ref ob), (.int p1)] ∧ Z.Warmed39 U.vm ∧ U.heap = h0) (fun _ _ _ _ _ => True) (fun _ U o U' => ∃ v L, o = .returned v ∧ Q5 Z ob p1 ae ap nn fE fP xa pz h0 n0 v U'.heap L ∧ FrameEnd U o U' L ({ frames := 0, cells := 0, slots := 0, locals := 0 } : Room).cells ({ frames := 0, cells := 0, slots := 0, locals := 0 } : Room).slots) := by
  refine MetFree.of_bodySF (plainFor_of_name own_pn_com_example_handfast_handfast_algorithm_Matching) hisR ?_
  intro p e s m args below meth c s₁ Bd hml0 hP hK
  obtain ⟨rfl, hZ, hh⟩ := hP
  have hx := Bd.exec
  have hby := Bd.bytes
  have hml : c.maxLocals = 3 := hml0
  have hown : s.vm.findClass "com/example/handfast/handfast/algorithm/Matching" = some m.cls := findClass_of_methodNamed Bd.named
  have hnm := (name_of_methodNamed Bd.named Bd.method).1
  have hlk := Bd.notSynchronized
  have hret := Bd.returns
  have X0 : Stand p l e ({ frames := 0, cells := 0, slots := 0, locals := 0 } : Room) s m #[(.ref ob), (.int p1)] below meth c s₁ [] 0 0 := Stand.of_body Bd
  have e0 : s₁.heap = h0 := by rw [← hh, Bd.state]; rfl
  have N0 := Fr.nil n0
  show own_W p e (FrameEnd s) below ({ frames := 0, cells := 0, slots := 0, locals := 0 } : Room).cells ({ frames := 0, cells := 0, slots := 0, locals := 0 } : Room).slots (Q5 Z ob p1 ae ap nn fE fP xa pz h0 n0) s₁ (entryFrame m #[(.ref ob), (.int p1)] 3)
  rw [ef_5]
  refine own_aloadN X0 hx (hb hby d5_0) (v := (.ref ob)) rfl rfl (rfl : 0 + 1 = 1) ?_
  obtain ⟨T1, X1, e1, st1⟩ := getF X0 hx hZ hown (host := "") (Or.inl (hw _ (List.mem_of_getElem? (i := 15) rfl))) Via.refl e0 f_F_ob_placeAt (g := (mkF m 1 #[.val (.ref ob), .val (.int p1), .unset] [(.ref ob)])) rfl rfl (hb hby d5_1)
  refine own_W.step st1 ?_
  show own_W p e (FrameEnd s) below ({ frames := 0, cells := 0, slots := 0, locals := 0 } : Room).cells ({ frames := 0, cells := 0, slots := 0, locals := 0 } : Room).slots (Q5 Z ob p1 ae ap nn fE fP xa pz h0 n0) T1 (mkF m 4 #[.val (.ref ob), .val (.int p1), .unset] [(.ref ap)])
  refine own_iloadN X1 hx (hb hby d5_4) (v := p1) rfl (rfl : 4 + 1 = 5) ?_
  have hi2 : own_In p1 (xa) (nn) := hxa
  refine own_iaload X1 hx hZ e1 f_A_ap hi2 (v := (fP (xa))) rfl (g := (mkF m 5 #[.val (.ref ob), .val (.int p1), .unset] [(.int p1), (.ref ap)])) rfl rfl (hb hby d5_5) ?_
  show own_W p e (FrameEnd s) below ({ frames := 0, cells := 0, slots := 0, locals := 0 } : Room).cells ({ frames := 0, cells := 0, slots := 0, locals := 0 } : Room).slots (Q5 Z ob p1 ae ap nn fE fP xa pz h0 n0) T1 (mkF m 6 #[.val (.ref ob), .val (.int p1), .unset] [(.int (fP (xa)))])
  refine own_istoreN X1 hx (hb hby d5_6) (l' := #[.val (.ref ob), .val (.int p1), .val (.int (fP (xa)))]) rfl (rfl : 6 + 1 = 7) ?_
  refine own_iloadN X1 hx (hb hby d5_7) (v := (fP (xa))) rfl (rfl : 7 + 1 = 8) ?_
  refine own_iconst X1 hx (hb hby d5_8) (-1 : Int32) (by first | rfl | decide) (rfl : 8 + 1 = 9) ?_
  by_cases hc9 : (fP (xa)) = (-1 : Int32)
  · skip
    refine own_icmpNo X1 hx (hb hby d5_9) (teq hc9).2 (rfl : 9 + 3 = 12) ?_
    refine own_iconst X1 hx (hb hby d5_12) (-1 : Int32) (by first | rfl | decide) (rfl : 12 + 1 = 13) ?_
    refine own_goto X1 hx (hb hby d5_13) (pc' := 22) (by decide) (by decide) ?_
    refine own_retI X1 hx hlk hret (hb hby d5_22) (by decide) (by decide) ?_
    show Q5 Z ob p1 ae ap nn fE fP xa pz h0 n0 (some (.int (-1 : Int32))) T1.heap _
    rw [e1]
    exact ⟨by simp only [own_at, if_pos hc9], N0, rfl⟩
  · skip
    refine own_icmpYes X1 hx (hb hby d5_9) (feq hc9).2 (pc' := 16) (by decide) (by decide) ?_
    refine own_aloadN X1 hx (hb hby d5_16) (v := (.ref ob)) rfl rfl (rfl : 16 + 1 = 17) ?_
    obtain ⟨T3, X3, e3, st3⟩ := getF X1 hx hZ hown (host := "") (Or.inl (hw _ (List.mem_of_getElem? (i := 11) rfl))) Via.refl e1 f_F_ob_edges (g := (mkF m 17 #[.val (.ref ob), .val (.int p1), .val (.int (fP (xa)))] [(.ref ob)])) rfl rfl (hb hby d5_17)
    refine own_W.step st3 ?_
    show own_W p e (FrameEnd s) below ({ frames := 0, cells := 0, slots := 0, locals := 0 } : Room).cells ({ frames := 0, cells := 0, slots := 0, locals := 0 } : Room).slots (Q5 Z ob p1 ae ap nn fE fP xa pz h0 n0) T3 (mkF m 20 #[.val (.ref ob), .val (.int p1), .val (.int (fP (xa)))] [(.ref ae)])
    refine own_iloadN X3 hx (hb hby d5_20) (v := (fP (xa))) rfl (rfl : 20 + 1 = 21) ?_
    have hi4 : own_In (fP (xa)) (pz) (16) := hpz.resolve_left hc9
    refine own_iaload X3 hx hZ e3 f_A_ae hi4 (v := (fE (pz))) rfl (g := (mkF m 21 #[.val (.ref ob), .val (.int p1), .val (.int (fP (xa)))] [(.int (fP (xa))), (.ref ae)])) rfl rfl (hb hby d5_21) ?_
    show own_W p e (FrameEnd s) below ({ frames := 0, cells := 0, slots := 0, locals := 0 } : Room).cells ({ frames := 0, cells := 0, slots := 0, locals := 0 } : Room).slots (Q5 Z ob p1 ae ap nn fE fP xa pz h0 n0) T3 (mkF m 22 #[.val (.ref ob), .val (.int p1), .val (.int (fP (xa)))] [(.int (fE (pz)))])
    refine own_retI X3 hx hlk hret (hb hby d5_22) (by decide) (by decide) ?_
    show Q5 Z ob p1 ae ap nn fE fP xa pz h0 n0 (some (.int (fE (pz)))) T3.heap _
    rw [e3]
    exact ⟨by simp only [own_at, if_neg hc9], N0, rfl⟩
theorem d6_0 : decode prog_15_method_9_code 0 = .ok (.aload_n 0, 1) := by decide +kernel
theorem d6_1 : decode prog_15_method_9_code 1 = .ok (.getfield 16, 3) := by decide +kernel
theorem d6_4 : decode prog_15_method_9_code 4 = .ok (.iload_n 1, 1) := by decide +kernel
theorem d6_5 : decode prog_15_method_9_code 5 = .ok (.iaload, 1) := by decide +kernel
theorem d6_6 : decode prog_15_method_9_code 6 = .ok (.istore_n 2, 1) := by decide +kernel
theorem d6_7 : decode prog_15_method_9_code 7 = .ok (.aload_n 0, 1) := by decide +kernel
theorem d6_8 : decode prog_15_method_9_code 8 = .ok (.getfield 16, 3) := by decide +kernel
theorem d6_11 : decode prog_15_method_9_code 11 = .ok (.aload_n 0, 1) := by decide +kernel
theorem d6_12 : decode prog_15_method_9_code 12 = .ok (.getfield 13, 3) := by decide +kernel
theorem d6_15 : decode prog_15_method_9_code 15 = .ok (.iconst 2, 1) := by decide +kernel
theorem d6_16 : decode prog_15_method_9_code 16 = .ok (.iload_n 2, 1) := by decide +kernel
theorem d6_17 : decode prog_15_method_9_code 17 = .ok (.imul, 1) := by decide +kernel
theorem d6_18 : decode prog_15_method_9_code 18 = .ok (.iaload, 1) := by decide +kernel
theorem d6_19 : decode prog_15_method_9_code 19 = .ok (.iconst (-1), 1) := by decide +kernel
theorem d6_20 : decode prog_15_method_9_code 20 = .ok (.iastore, 1) := by decide +kernel
theorem d6_21 : decode prog_15_method_9_code 21 = .ok (.aload_n 0, 1) := by decide +kernel
theorem d6_22 : decode prog_15_method_9_code 22 = .ok (.getfield 16, 3) := by decide +kernel
theorem d6_25 : decode prog_15_method_9_code 25 = .ok (.aload_n 0, 1) := by decide +kernel
theorem d6_26 : decode prog_15_method_9_code 26 = .ok (.getfield 13, 3) := by decide +kernel
theorem d6_29 : decode prog_15_method_9_code 29 = .ok (.iconst 2, 1) := by decide +kernel
theorem d6_30 : decode prog_15_method_9_code 30 = .ok (.iload_n 2, 1) := by decide +kernel
theorem d6_31 : decode prog_15_method_9_code 31 = .ok (.imul, 1) := by decide +kernel
theorem d6_32 : decode prog_15_method_9_code 32 = .ok (.iconst 1, 1) := by decide +kernel
theorem d6_33 : decode prog_15_method_9_code 33 = .ok (.iadd, 1) := by decide +kernel
theorem d6_34 : decode prog_15_method_9_code 34 = .ok (.iaload, 1) := by decide +kernel
theorem d6_35 : decode prog_15_method_9_code 35 = .ok (.iconst (-1), 1) := by decide +kernel
theorem d6_36 : decode prog_15_method_9_code 36 = .ok (.iastore, 1) := by decide +kernel
theorem d6_37 : decode prog_15_method_9_code 37 = .ok (.aload_n 0, 1) := by decide +kernel
theorem d6_38 : decode prog_15_method_9_code 38 = .ok (.getfield 33, 3) := by decide +kernel
theorem d6_41 : decode prog_15_method_9_code 41 = .ok (.ifnull 17, 3) := by decide +kernel
theorem d6_58 : decode prog_15_method_9_code 58 = .ok (.aload_n 0, 1) := by decide +kernel
theorem d6_59 : decode prog_15_method_9_code 59 = .ok (.dup, 1) := by decide +kernel
theorem d6_60 : decode prog_15_method_9_code 60 = .ok (.getfield 25, 3) := by decide +kernel
theorem d6_63 : decode prog_15_method_9_code 63 = .ok (.iconst 1, 1) := by decide +kernel
theorem d6_64 : decode prog_15_method_9_code 64 = .ok (.isub, 1) := by decide +kernel
theorem d6_65 : decode prog_15_method_9_code 65 = .ok (.putfield 25, 3) := by decide +kernel
theorem d6_68 : decode prog_15_method_9_code 68 = .ok (.iload_n 2, 1) := by decide +kernel
theorem d6_69 : decode prog_15_method_9_code 69 = .ok (.aload_n 0, 1) := by decide +kernel
theorem d6_70 : decode prog_15_method_9_code 70 = .ok (.getfield 25, 3) := by decide +kernel
theorem d6_73 : decode prog_15_method_9_code 73 = .ok (.if_icmp .ge 90, 3) := by decide +kernel
theorem d6_163 : decode prog_15_method_9_code 163 = .ok (.return_, 1) := by decide +kernel
theorem ef_6 (m : MethodId) (ob : Addr) (p1 : Int32) : entryFrame m #[(.ref ob), (.int p1)] 3 = mkF m 0 #[.val (.ref ob), .val (.int p1), .unset] [] := by first | (simp [entryFrame, mkF, argsToLocals, Value.category]; done) | rfl
def Q6l (Z : State) (ob : Addr) (p1 : Int32) (ae : Addr) (an : Addr) (ap : Addr) (us : Int32) (nn : Nat) (fE : Nat → Int32) (fN : Nat → Int32) (fP : Nat → Int32) (kk : Nat) (xa : Nat) (pz : Nat) (qz : Nat) (ya : Nat) (yb : Nat) (h0 : Heap) (n0 : Nat) (v : Option Value) (h : Heap) (L : List Loc) : Prop := v = none ∧ Fr n0 L ∧ Keep h0 h [ob, ae, an, ap] ∧ Exa Z h ob "com/example/handfast/handfast/algorithm/Matching" ∧ Fld Z h ob "com/example/handfast/handfast/algorithm/Matching" "edges" "[I" (.ref ae) ∧ Fld Z h ob "com/example/handfast/handfast/algorithm/Matching" "ends" "[I" (.ref an) ∧ Fld Z h ob "com/example/handfast/handfast/algorithm/Matching" "placeAt" "[I" (.ref ap) ∧ Fld Z h ob "com/example/handfast/handfast/algorithm/Matching" "size" "I" (.int (us - (1 : Int32))) ∧ Fld Z h ob "com/example/handfast/handfast/algorithm/Matching" "members" "Lcom/example/handfast/handfast/model/NumberSet;" .null ∧ own_A Z h ae .int (16) (fun z => .int (fE z)) ∧ own_A Z h an .int (32) (fun z => .int (fN z)) ∧ own_A Z h ap .int (nn) (fun z => .int (own_up (own_up fP ya (-1 : Int32)) yb (-1 : Int32) z))
set_option maxRecDepth 65536 in
set_option maxHeartbeats 40000000 in
theorem rm6l (l : Launch) (Z : State) (a0 : Array Value) (hw : ∀ d ∈ tables_1, d.before a0 Z = true) (ws : List Jvm.Cond) (ob : Addr) (p1 : Int32) (ae : Addr) (an : Addr) (ap : Addr) (us : Int32) (nn : Nat) (fE : Nat → Int32) (fN : Nat → Int32) (fP : Nat → Int32) (kk : Nat) (xa : Nat) (pz : Nat) (qz : Nat) (ya : Nat) (yb : Nat) (h0 : Heap) (n0 : Nat) (Z0 : n0 ≤ h0.size) (f_E_ob : Exa Z h0 ob "com/example/handfast/handfast/algorithm/Matching") (f_F_ob_edges : Fld Z h0 ob "com/example/handfast/handfast/algorithm/Matching" "edges" "[I" (.ref ae)) (f_F_ob_ends : Fld Z h0 ob "com/example/handfast/handfast/algorithm/Matching" "ends" "[I" (.ref an)) (f_F_ob_placeAt : Fld Z h0 ob "com/example/handfast/handfast/algorithm/Matching" "placeAt" "[I" (.ref ap)) (f_F_ob_size : Fld Z h0 ob "com/example/handfast/handfast/algorithm/Matching" "size" "I" (.int us)) (f_F_ob_members : Fld Z h0 ob "com/example/handfast/handfast/algorithm/Matching" "members" "Lcom/example/handfast/handfast/model/NumberSet;" .null) (f_A_ae : own_A Z h0 ae .int (16) (fun z => .int (fE z))) (f_A_an : own_A Z h0 an .int (32) (fun z => .int (fN z))) (f_A_ap : own_A Z h0 ap .int (nn) (fun z => .int (fP z))) (g_ob : n0 ≤ ob) (g_ae : n0 ≤ ae) (g_an : n0 ≤ an) (g_ap : n0 ≤ ap) (hne : own_ne4 ob ae an ap) (hxa : own_In p1 xa nn) (hpz : own_In (fP xa) pz 8) (hk : own_In us kk 9) (hya : own_In (fN (2 * pz)) ya nn) (hyb : own_In (fN (2 * pz + 1)) yb nn) (hqz : qz + 1 = kk) (hpq : pz = qz) :
    MetFree l (⟨"com/example/handfast/handfast/algorithm/Matching", "removeAt", "(I)V"⟩ : MethodName) (head1 (Jvm.Cond.code (⟨"com/example/handfast/handfast/algorithm/Matching", "removeAt", "(I)V"⟩ : MethodName) prog_15_method_9_code 3 none :: ws) ({ frames := 0, cells := 0, slots := 0, locals := 0 } : Room)) (fun avs U => avs = #[(.ref ob), (.int p1)] ∧ Z.Warmed39 U.vm ∧ U.heap = h0) (fun _ _ _ _ _ => True) (fun _ U o U' => ∃ v L, o = .returned v ∧ Q6l Z ob p1 ae an ap us nn fE fN fP kk xa pz qz ya yb h0 n0 v U'.heap L ∧ FrameEnd U o U' L ({ frames := 0, cells := 0, slots := 0, locals := 0 } : Room).cells ({ frames := 0, cells := 0, slots := 0, locals := 0 } : Room).slots) := by
  refine MetFree.of_bodySF (plainFor_of_name own_pn_com_example_handfast_handfast_algorithm_Matching) hisR ?_
  intro p e s m args below meth c s₁ Bd hml0 hP hK
  obtain ⟨rfl, hZ, hh⟩ := hP
  have hx := Bd.exec
  have hby := Bd.bytes
  have hml : c.maxLocals = 3 := hml0
  have hown : s.vm.findClass "com/example/handfast/handfast/algorithm/Matching" = some m.cls := findClass_of_methodNamed Bd.named
  have hnm := (name_of_methodNamed Bd.named Bd.method).1
  have hlk := Bd.notSynchronized
  have hret := Bd.returns
  have X0 : Stand p l e ({ frames := 0, cells := 0, slots := 0, locals := 0 } : Room) s m #[(.ref ob), (.int p1)] below meth c s₁ [] 0 0 := Stand.of_body Bd
  have e0 : s₁.heap = h0 := by rw [← hh, Bd.state]; rfl
  have N0 := Fr.nil n0
  show own_W p e (FrameEnd s) below ({ frames := 0, cells := 0, slots := 0, locals := 0 } : Room).cells ({ frames := 0, cells := 0, slots := 0, locals := 0 } : Room).slots (Q6l Z ob p1 ae an ap us nn fE fN fP kk xa pz qz ya yb h0 n0) s₁ (entryFrame m #[(.ref ob), (.int p1)] 3)
  rw [ef_6]
  have K0 : Keep h0 h0 [ob, ae, an, ap] := Keep.refl h0 _
  refine own_aloadN X0 hx (hb hby d6_0) (v := (.ref ob)) rfl rfl (rfl : 0 + 1 = 1) ?_
  obtain ⟨T1, X1, e1, st1⟩ := getF X0 hx hZ hown (host := "") (Or.inl (hw _ (List.mem_of_getElem? (i := 15) rfl))) Via.refl e0 f_F_ob_placeAt (g := (mkF m 1 #[.val (.ref ob), .val (.int p1), .unset] [(.ref ob)])) rfl rfl (hb hby d6_1)
  refine own_W.step st1 ?_
  show own_W p e (FrameEnd s) below ({ frames := 0, cells := 0, slots := 0, locals := 0 } : Room).cells ({ frames := 0, cells := 0, slots := 0, locals := 0 } : Room).slots (Q6l Z ob p1 ae an ap us nn fE fN fP kk xa pz qz ya yb h0 n0) T1 (mkF m 4 #[.val (.ref ob), .val (.int p1), .unset] [(.ref ap)])
  refine own_iloadN X1 hx (hb hby d6_4) (v := p1) rfl (rfl : 4 + 1 = 5) ?_
  have hi2 : own_In p1 (xa) (nn) := hxa
  refine own_iaload X1 hx hZ e1 f_A_ap hi2 (v := (fP (xa))) rfl (g := (mkF m 5 #[.val (.ref ob), .val (.int p1), .unset] [(.int p1), (.ref ap)])) rfl rfl (hb hby d6_5) ?_
  show own_W p e (FrameEnd s) below ({ frames := 0, cells := 0, slots := 0, locals := 0 } : Room).cells ({ frames := 0, cells := 0, slots := 0, locals := 0 } : Room).slots (Q6l Z ob p1 ae an ap us nn fE fN fP kk xa pz qz ya yb h0 n0) T1 (mkF m 6 #[.val (.ref ob), .val (.int p1), .unset] [(.int (fP (xa)))])
  refine own_istoreN X1 hx (hb hby d6_6) (l' := #[.val (.ref ob), .val (.int p1), .val (.int (fP (xa)))]) rfl (rfl : 6 + 1 = 7) ?_
  refine own_aloadN X1 hx (hb hby d6_7) (v := (.ref ob)) rfl rfl (rfl : 7 + 1 = 8) ?_
  obtain ⟨T3, X3, e3, st3⟩ := getF X1 hx hZ hown (host := "") (Or.inl (hw _ (List.mem_of_getElem? (i := 15) rfl))) Via.refl e1 f_F_ob_placeAt (g := (mkF m 8 #[.val (.ref ob), .val (.int p1), .val (.int (fP (xa)))] [(.ref ob)])) rfl rfl (hb hby d6_8)
  refine own_W.step st3 ?_
  show own_W p e (FrameEnd s) below ({ frames := 0, cells := 0, slots := 0, locals := 0 } : Room).cells ({ frames := 0, cells := 0, slots := 0, locals := 0 } : Room).slots (Q6l Z ob p1 ae an ap us nn fE fN fP kk xa pz qz ya yb h0 n0) T3 (mkF m 11 #[.val (.ref ob), .val (.int p1), .val (.int (fP (xa)))] [(.ref ap)])
  refine own_aloadN X3 hx (hb hby d6_11) (v := (.ref ob)) rfl rfl (rfl : 11 + 1 = 12) ?_
  obtain ⟨T4, X4, e4, st4⟩ := getF X3 hx hZ hown (host := "") (Or.inl (hw _ (List.mem_of_getElem? (i := 13) rfl))) Via.refl e3 f_F_ob_ends (g := (mkF m 12 #[.val (.ref ob), .val (.int p1), .val (.int (fP (xa)))] [(.ref ob), (.ref ap)])) rfl rfl (hb hby d6_12)
  refine own_W.step st4 ?_
  show own_W p e (FrameEnd s) below ({ frames := 0, cells := 0, slots := 0, locals := 0 } : Room).cells ({ frames := 0, cells := 0, slots := 0, locals := 0 } : Room).slots (Q6l Z ob p1 ae an ap us nn fE fN fP kk xa pz qz ya yb h0 n0) T4 (mkF m 15 #[.val (.ref ob), .val (.int p1), .val (.int (fP (xa)))] [(.ref an), (.ref ap)])
  refine own_iconst X4 hx (hb hby d6_15) (2 : Int32) (by first | rfl | decide) (rfl : 15 + 1 = 16) ?_
  refine own_iloadN X4 hx (hb hby d6_16) (v := (fP (xa))) rfl (rfl : 16 + 1 = 17) ?_
  refine own_imul X4 hx (hb hby d6_17) (rfl : 17 + 1 = 18) ?_
  have hi5 : own_In ((2 : Int32) * (fP (xa))) (2 * pz) (32) := own_I2 hpz (by decide) (by decide)
  refine own_iaload X4 hx hZ e4 f_A_an hi5 (v := (fN (2 * pz))) rfl (g := (mkF m 18 #[.val (.ref ob), .val (.int p1), .val (.int (fP (xa)))] [(.int ((2 : Int32) * (fP (xa)))), (.ref an), (.ref ap)])) rfl rfl (hb hby d6_18) ?_
  show own_W p e (FrameEnd s) below ({ frames := 0, cells := 0, slots := 0, locals := 0 } : Room).cells ({ frames := 0, cells := 0, slots := 0, locals := 0 } : Room).slots (Q6l Z ob p1 ae an ap us nn fE fN fP kk xa pz qz ya yb h0 n0) T4 (mkF m 19 #[.val (.ref ob), .val (.int p1), .val (.int (fP (xa)))] [(.int (fN (2 * pz))), (.ref ap)])
  refine own_iconst X4 hx (hb hby d6_19) (-1 : Int32) (by first | rfl | decide) (rfl : 19 + 1 = 20) ?_
  have hi6 : own_In (fN (2 * pz)) (ya) (nn) := hya
  obtain ⟨T6, h6, X6, e6, W6, V6, st6⟩ := own_stI X4 hx hZ e4 f_A_ap hi6 (g := (mkF m 20 #[.val (.ref ob), .val (.int p1), .val (.int (fP (xa)))] [(.int (-1 : Int32)), (.int (fN (2 * pz))), (.ref ap)])) rfl rfl (hb hby d6_20)
  refine own_W.step st6 ?_
  have N6 := Fr.snoc X6 N0 g_ap
  have f6_E_ob : Exa Z h6 ob "com/example/handfast/handfast/algorithm/Matching" := f_E_ob.wr W6
  have f6_F_ob_edges : Fld Z h6 ob "com/example/handfast/handfast/algorithm/Matching" "edges" "[I" (.ref ae) := f_F_ob_edges.other W6 (Or.inl hne.2.2.1)
  have f6_F_ob_ends : Fld Z h6 ob "com/example/handfast/handfast/algorithm/Matching" "ends" "[I" (.ref an) := f_F_ob_ends.other W6 (Or.inl hne.2.2.1)
  have f6_F_ob_placeAt : Fld Z h6 ob "com/example/handfast/handfast/algorithm/Matching" "placeAt" "[I" (.ref ap) := f_F_ob_placeAt.other W6 (Or.inl hne.2.2.1)
  have f6_F_ob_size : Fld Z h6 ob "com/example/handfast/handfast/algorithm/Matching" "size" "I" (.int us) := f_F_ob_size.other W6 (Or.inl hne.2.2.1)
  have f6_F_ob_members : Fld Z h6 ob "com/example/handfast/handfast/algorithm/Matching" "members" "Lcom/example/handfast/handfast/model/NumberSet;" .null := f_F_ob_members.other W6 (Or.inl hne.2.2.1)
  have f6_A_ae : own_A Z h6 ae .int (16) (fun z => .int (fE z)) := f_A_ae.other W6 hne.2.2.2.2.1
  have f6_A_an : own_A Z h6 an .int (32) (fun z => .int (fN z)) := f_A_an.other W6 hne.2.2.2.2.2
  have f6_K : Keep h0 h6 [ob, ae, an, ap] := K0.wr W6 (Or.inl (by simp))
  have U6 : own_A Z h6 ap .int (nn) (fun z => .int (own_up fP ya (-1 : Int32) z)) := V6.congr (fun z _ => by unfold own_up; split <;> rfl)
  have z6 : n0 ≤ h6.size := by rw [W6.size]; exact Z0
  show own_W p e (FrameEnd s) below ({ frames := 0, cells := 0, slots := 0, locals := 0 } : Room).cells ({ frames := 0, cells := 0, slots := 0, locals := 0 } : Room).slots (Q6l Z ob p1 ae an ap us nn fE fN fP kk xa pz qz ya yb h0 n0) T6 (mkF m 21 #[.val (.ref ob), .val (.int p1), .val (.int (fP (xa)))] [])
  refine own_aloadN X6 hx (hb hby d6_21) (v := (.ref ob)) rfl rfl (rfl : 21 + 1 = 22) ?_
  obtain ⟨T7, X7, e7, st7⟩ := getF X6 hx hZ hown (host := "") (Or.inl (hw _ (List.mem_of_getElem? (i := 15) rfl))) Via.refl e6 f6_F_ob_placeAt (g := (mkF m 22 #[.val (.ref ob), .val (.int p1), .val (.int (fP (xa)))] [(.ref ob)])) rfl rfl (hb hby d6_22)
  refine own_W.step st7 ?_
  show own_W p e (FrameEnd s) below ({ frames := 0, cells := 0, slots := 0, locals := 0 } : Room).cells ({ frames := 0, cells := 0, slots := 0, locals := 0 } : Room).slots (Q6l Z ob p1 ae an ap us nn fE fN fP kk xa pz qz ya yb h0 n0) T7 (mkF m 25 #[.val (.ref ob), .val (.int p1), .val (.int (fP (xa)))] [(.ref ap)])
  refine own_aloadN X7 hx (hb hby d6_25) (v := (.ref ob)) rfl rfl (rfl : 25 + 1 = 26) ?_
  obtain ⟨T8, X8, e8, st8⟩ := getF X7 hx hZ hown (host := "") (Or.inl (hw _ (List.mem_of_getElem? (i := 13) rfl))) Via.refl e7 f6_F_ob_ends (g := (mkF m 26 #[.val (.ref ob), .val (.int p1), .val (.int (fP (xa)))] [(.ref ob), (.ref ap)])) rfl rfl (hb hby d6_26)
  refine own_W.step st8 ?_
  show own_W p e (FrameEnd s) below ({ frames := 0, cells := 0, slots := 0, locals := 0 } : Room).cells ({ frames := 0, cells := 0, slots := 0, locals := 0 } : Room).slots (Q6l Z ob p1 ae an ap us nn fE fN fP kk xa pz qz ya yb h0 n0) T8 (mkF m 29 #[.val (.ref ob), .val (.int p1), .val (.int (fP (xa)))] [(.ref an), (.ref ap)])
  refine own_iconst X8 hx (hb hby d6_29) (2 : Int32) (by first | rfl | decide) (rfl : 29 + 1 = 30) ?_
  refine own_iloadN X8 hx (hb hby d6_30) (v := (fP (xa))) rfl (rfl : 30 + 1 = 31) ?_
  refine own_imul X8 hx (hb hby d6_31) (rfl : 31 + 1 = 32) ?_
  refine own_iconst X8 hx (hb hby d6_32) (1 : Int32) (by first | rfl | decide) (rfl : 32 + 1 = 33) ?_
  refine own_iadd X8 hx (hb hby d6_33) (rfl : 33 + 1 = 34) ?_
  have hi9 : own_In (((2 : Int32) * (fP (xa))) + (1 : Int32)) (2 * pz + 1) (32) := own_I21 hpz (by decide) (by decide)
  refine own_iaload X8 hx hZ e8 f6_A_an hi9 (v := (fN (2 * pz + 1))) rfl (g := (mkF m 34 #[.val (.ref ob), .val (.int p1), .val (.int (fP (xa)))] [(.int (((2 : Int32) * (fP (xa))) + (1 : Int32))), (.ref an), (.ref ap)])) rfl rfl (hb hby d6_34) ?_
  show own_W p e (FrameEnd s) below ({ frames := 0, cells := 0, slots := 0, locals := 0 } : Room).cells ({ frames := 0, cells := 0, slots := 0, locals := 0 } : Room).slots (Q6l Z ob p1 ae an ap us nn fE fN fP kk xa pz qz ya yb h0 n0) T8 (mkF m 35 #[.val (.ref ob), .val (.int p1), .val (.int (fP (xa)))] [(.int (fN (2 * pz + 1))), (.ref ap)])
  refine own_iconst X8 hx (hb hby d6_35) (-1 : Int32) (by first | rfl | decide) (rfl : 35 + 1 = 36) ?_
  have hi10 : own_In (fN (2 * pz + 1)) (yb) (nn) := hyb
  obtain ⟨T10, h10, X10, e10, W10, V10, st10⟩ := own_stI X8 hx hZ e8 U6 hi10 (g := (mkF m 36 #[.val (.ref ob), .val (.int p1), .val (.int (fP (xa)))] [(.int (-1 : Int32)), (.int (fN (2 * pz + 1))), (.ref ap)])) rfl rfl (hb hby d6_36)
  refine own_W.step st10 ?_
  have N10 := Fr.snoc X10 N6 g_ap
  have f10_E_ob : Exa Z h10 ob "com/example/handfast/handfast/algorithm/Matching" := f6_E_ob.wr W10
  have f10_F_ob_edges : Fld Z h10 ob "com/example/handfast/handfast/algorithm/Matching" "edges" "[I" (.ref ae) := f6_F_ob_edges.other W10 (Or.inl hne.2.2.1)
  have f10_F_ob_ends : Fld Z h10 ob "com/example/handfast/handfast/algorithm/Matching" "ends" "[I" (.ref an) := f6_F_ob_ends.other W10 (Or.inl hne.2.2.1)
  have f10_F_ob_placeAt : Fld Z h10 ob "com/example/handfast/handfast/algorithm/Matching" "placeAt" "[I" (.ref ap) := f6_F_ob_placeAt.other W10 (Or.inl hne.2.2.1)
  have f10_F_ob_size : Fld Z h10 ob "com/example/handfast/handfast/algorithm/Matching" "size" "I" (.int us) := f6_F_ob_size.other W10 (Or.inl hne.2.2.1)
  have f10_F_ob_members : Fld Z h10 ob "com/example/handfast/handfast/algorithm/Matching" "members" "Lcom/example/handfast/handfast/model/NumberSet;" .null := f6_F_ob_members.other W10 (Or.inl hne.2.2.1)
  have f10_A_ae : own_A Z h10 ae .int (16) (fun z => .int (fE z)) := f6_A_ae.other W10 hne.2.2.2.2.1
  have f10_A_an : own_A Z h10 an .int (32) (fun z => .int (fN z)) := f6_A_an.other W10 hne.2.2.2.2.2
  have f10_K : Keep h0 h10 [ob, ae, an, ap] := f6_K.wr W10 (Or.inl (by simp))
  have U10 : own_A Z h10 ap .int (nn) (fun z => .int (own_up (own_up fP ya (-1 : Int32)) yb (-1 : Int32) z)) := V10.congr (fun z _ => by unfold own_up; split <;> rfl)
  have z10 : n0 ≤ h10.size := by rw [W10.size]; exact z6
  show own_W p e (FrameEnd s) below ({ frames := 0, cells := 0, slots := 0, locals := 0 } : Room).cells ({ frames := 0, cells := 0, slots := 0, locals := 0 } : Room).slots (Q6l Z ob p1 ae an ap us nn fE fN fP kk xa pz qz ya yb h0 n0) T10 (mkF m 37 #[.val (.ref ob), .val (.int p1), .val (.int (fP (xa)))] [])
  refine own_aloadN X10 hx (hb hby d6_37) (v := (.ref ob)) rfl rfl (rfl : 37 + 1 = 38) ?_
  obtain ⟨T11, X11, e11, st11⟩ := getF X10 hx hZ hown (host := "") (Or.inl (hw _ (List.mem_of_getElem? (i := 28) rfl))) Via.refl e10 f10_F_ob_members (g := (mkF m 38 #[.val (.ref ob), .val (.int p1), .val (.int (fP (xa)))] [(.ref ob)])) rfl rfl (hb hby d6_38)
  refine own_W.step st11 ?_
  show own_W p e (FrameEnd s) below ({ frames := 0, cells := 0, slots := 0, locals := 0 } : Room).cells ({ frames := 0, cells := 0, slots := 0, locals := 0 } : Room).slots (Q6l Z ob p1 ae an ap us nn fE fN fP kk xa pz qz ya yb h0 n0) T11 (mkF m 41 #[.val (.ref ob), .val (.int p1), .val (.int (fP (xa)))] [.null])
  refine own_ifnullYes X11 hx (hb hby d6_41) (pc' := 58) (by decide) (by decide) ?_
  refine own_aloadN X11 hx (hb hby d6_58) (v := (.ref ob)) rfl rfl (rfl : 58 + 1 = 59) ?_
  refine own_dup X11 hx (hb hby d6_59) rfl (rfl : 59 + 1 = 60) ?_
  obtain ⟨T12, X12, e12, st12⟩ := getF X11 hx hZ hown (host := "") (Or.inl (hw _ (List.mem_of_getElem? (i := 26) rfl))) Via.refl e11 f10_F_ob_size (g := (mkF m 60 #[.val (.ref ob), .val (.int p1), .val (.int (fP (xa)))] [(.ref ob), (.ref ob)])) rfl rfl (hb hby d6_60)
  refine own_W.step st12 ?_
  show own_W p e (FrameEnd s) below ({ frames := 0, cells := 0, slots := 0, locals := 0 } : Room).cells ({ frames := 0, cells := 0, slots := 0, locals := 0 } : Room).slots (Q6l Z ob p1 ae an ap us nn fE fN fP kk xa pz qz ya yb h0 n0) T12 (mkF m 63 #[.val (.ref ob), .val (.int p1), .val (.int (fP (xa)))] [(.int us), (.ref ob)])
  refine own_iconst X12 hx (hb hby d6_63) (1 : Int32) (by first | rfl | decide) (rfl : 63 + 1 = 64) ?_
  refine own_isub X12 hx (hb hby d6_64) (rfl : 64 + 1 = 65) ?_
  obtain ⟨T13, h13, X13, e13, W13, st13⟩ := putF X12 hx hZ hown (host := "") (Or.inl (hw _ (List.mem_of_getElem? (i := 26) rfl))) Via.refl e12 f10_F_ob_size f10_E_ob (Or.inl (hw _ (List.mem_of_getElem? (i := 27) rfl))) (hw _ (List.mem_of_getElem? (i := 2) rfl)) (ty := .int) (by decide) rfl rfl (g := (mkF m 65 #[.val (.ref ob), .val (.int p1), .val (.int (fP (xa)))] [(.int (us - (1 : Int32))), (.ref ob)])) rfl rfl (hb hby d6_65)
  refine own_W.step st13 ?_
  have N13 := Fr.snoc X13 N10 g_ob
  have f13_E_ob : Exa Z h13 ob "com/example/handfast/handfast/algorithm/Matching" := f10_E_ob.wr W13
  have f13_F_ob_edges : Fld Z h13 ob "com/example/handfast/handfast/algorithm/Matching" "edges" "[I" (.ref ae) := f10_F_ob_edges.other W13 (Or.inr (slot_ne (Or.inl (hw _ (List.mem_of_getElem? (i := 12) rfl))) (Or.inl (hw _ (List.mem_of_getElem? (i := 27) rfl))) (by decide) (t := (.array .int)) (t' := .int) (by decide) (by decide)))
  have f13_F_ob_ends : Fld Z h13 ob "com/example/handfast/handfast/algorithm/Matching" "ends" "[I" (.ref an) := f10_F_ob_ends.other W13 (Or.inr (slot_ne (Or.inl (hw _ (List.mem_of_getElem? (i := 14) rfl))) (Or.inl (hw _ (List.mem_of_getElem? (i := 27) rfl))) (by decide) (t := (.array .int)) (t' := .int) (by decide) (by decide)))
  have f13_F_ob_placeAt : Fld Z h13 ob "com/example/handfast/handfast/algorithm/Matching" "placeAt" "[I" (.ref ap) := f10_F_ob_placeAt.other W13 (Or.inr (slot_ne (Or.inr (hw _ (List.mem_of_getElem? (i := 16) rfl))) (Or.inl (hw _ (List.mem_of_getElem? (i := 27) rfl))) (by decide) (t := (.array .int)) (t' := .int) (by decide) (by decide)))
  have f13_F_ob_members : Fld Z h13 ob "com/example/handfast/handfast/algorithm/Matching" "members" "Lcom/example/handfast/handfast/model/NumberSet;" .null := f10_F_ob_members.other W13 (Or.inr (slot_ne (Or.inl (hw _ (List.mem_of_getElem? (i := 29) rfl))) (Or.inl (hw _ (List.mem_of_getElem? (i := 27) rfl))) (by decide) (t := (.object "com/example/handfast/handfast/model/NumberSet")) (t' := .int) (by decide) (by decide)))
  have f13_A_ae : own_A Z h13 ae .int (16) (fun z => .int (fE z)) := f10_A_ae.other W13 (Ne.symm hne.1)
  have f13_A_an : own_A Z h13 an .int (32) (fun z => .int (fN z)) := f10_A_an.other W13 (Ne.symm hne.2.1)
  have f13_A_ap : own_A Z h13 ap .int (nn) (fun z => .int (own_up (own_up fP ya (-1 : Int32)) yb (-1 : Int32) z)) := U10.other W13 (Ne.symm hne.2.2.1)
  have f13_K : Keep h0 h13 [ob, ae, an, ap] := f10_K.wr W13 (Or.inl (by simp))
  have fw13 : Fld Z h13 ob "com/example/handfast/handfast/algorithm/Matching" "size" "I" (.int (us - (1 : Int32))) := f10_F_ob_size.same W13
  have z13 : n0 ≤ h13.size := by rw [W13.size]; exact z10
  show own_W p e (FrameEnd s) below ({ frames := 0, cells := 0, slots := 0, locals := 0 } : Room).cells ({ frames := 0, cells := 0, slots := 0, locals := 0 } : Room).slots (Q6l Z ob p1 ae an ap us nn fE fN fP kk xa pz qz ya yb h0 n0) T13 (mkF m 68 #[.val (.ref ob), .val (.int p1), .val (.int (fP (xa)))] [])
  refine own_iloadN X13 hx (hb hby d6_68) (v := (fP (xa))) rfl (rfl : 68 + 1 = 69) ?_
  refine own_aloadN X13 hx (hb hby d6_69) (v := (.ref ob)) rfl rfl (rfl : 69 + 1 = 70) ?_
  obtain ⟨T14, X14, e14, st14⟩ := getF X13 hx hZ hown (host := "") (Or.inl (hw _ (List.mem_of_getElem? (i := 26) rfl))) Via.refl e13 fw13 (g := (mkF m 70 #[.val (.ref ob), .val (.int p1), .val (.int (fP (xa)))] [(.ref ob), (.int (fP (xa)))])) rfl rfl (hb hby d6_70)
  refine own_W.step st14 ?_
  show own_W p e (FrameEnd s) below ({ frames := 0, cells := 0, slots := 0, locals := 0 } : Room).cells ({ frames := 0, cells := 0, slots := 0, locals := 0 } : Room).slots (Q6l Z ob p1 ae an ap us nn fE fN fP kk xa pz qz ya yb h0 n0) T14 (mkF m 73 #[.val (.ref ob), .val (.int p1), .val (.int (fP (xa)))] [(.int (us - (1 : Int32))), (.int (fP (xa)))])
  have hc73 : ¬ ((fP (xa)) < (us - (1 : Int32))) := by have z := hpz.1; have y := own_Id hk hqz (by decide) (Nat.le_refl _); rw [Int32.lt_iff_toInt_lt, z, y.1]; omega
  refine own_icmpYes X14 hx (hb hby d6_73) (flt hc73).2.1 (pc' := 163) (by decide) (by decide) ?_
  refine own_retV X14 hx hlk hret (hb hby d6_163) (by decide) (by decide) ?_
  show Q6l Z ob p1 ae an ap us nn fE fN fP kk xa pz qz ya yb h0 n0 none T14.heap _
  rw [e14]
  exact ⟨rfl, N13, f13_K, f13_E_ob, f13_F_ob_edges, f13_F_ob_ends, f13_F_ob_placeAt, fw13, f13_F_ob_members, f13_A_ae, f13_A_an, f13_A_ap⟩
theorem d6_76 : decode prog_15_method_9_code 76 = .ok (.aload_n 0, 1) := by decide +kernel
theorem d6_77 : decode prog_15_method_9_code 77 = .ok (.getfield 9, 3) := by decide +kernel
theorem d6_80 : decode prog_15_method_9_code 80 = .ok (.iload_n 2, 1) := by decide +kernel
theorem d6_81 : decode prog_15_method_9_code 81 = .ok (.aload_n 0, 1) := by decide +kernel
theorem d6_82 : decode prog_15_method_9_code 82 = .ok (.getfield 9, 3) := by decide +kernel
theorem d6_85 : decode prog_15_method_9_code 85 = .ok (.aload_n 0, 1) := by decide +kernel
theorem d6_86 : decode prog_15_method_9_code 86 = .ok (.getfield 25, 3) := by decide +kernel
theorem d6_89 : decode prog_15_method_9_code 89 = .ok (.iaload, 1) := by decide +kernel
theorem d6_90 : decode prog_15_method_9_code 90 = .ok (.iastore, 1) := by decide +kernel
theorem d6_91 : decode prog_15_method_9_code 91 = .ok (.aload_n 0, 1) := by decide +kernel
theorem d6_92 : decode prog_15_method_9_code 92 = .ok (.getfield 13, 3) := by decide +kernel
theorem d6_95 : decode prog_15_method_9_code 95 = .ok (.iconst 2, 1) := by decide +kernel
theorem d6_96 : decode prog_15_method_9_code 96 = .ok (.iload_n 2, 1) := by decide +kernel
theorem d6_97 : decode prog_15_method_9_code 97 = .ok (.imul, 1) := by decide +kernel
theorem d6_98 : decode prog_15_method_9_code 98 = .ok (.aload_n 0, 1) := by decide +kernel
theorem d6_99 : decode prog_15_method_9_code 99 = .ok (.getfield 13, 3) := by decide +kernel
theorem d6_102 : decode prog_15_method_9_code 102 = .ok (.iconst 2, 1) := by decide +kernel
theorem d6_103 : decode prog_15_method_9_code 103 = .ok (.aload_n 0, 1) := by decide +kernel
theorem d6_104 : decode prog_15_method_9_code 104 = .ok (.getfield 25, 3) := by decide +kernel
theorem d6_107 : decode prog_15_method_9_code 107 = .ok (.imul, 1) := by decide +kernel
theorem d6_108 : decode prog_15_method_9_code 108 = .ok (.iaload, 1) := by decide +kernel
theorem d6_109 : decode prog_15_method_9_code 109 = .ok (.iastore, 1) := by decide +kernel
theorem d6_110 : decode prog_15_method_9_code 110 = .ok (.aload_n 0, 1) := by decide +kernel
theorem d6_111 : decode prog_15_method_9_code 111 = .ok (.getfield 13, 3) := by decide +kernel
theorem d6_114 : decode prog_15_method_9_code 114 = .ok (.iconst 2, 1) := by decide +kernel
theorem d6_115 : decode prog_15_method_9_code 115 = .ok (.iload_n 2, 1) := by decide +kernel
theorem d6_116 : decode prog_15_method_9_code 116 = .ok (.imul, 1) := by decide +kernel
theorem d6_117 : decode prog_15_method_9_code 117 = .ok (.iconst 1, 1) := by decide +kernel
theorem d6_118 : decode prog_15_method_9_code 118 = .ok (.iadd, 1) := by decide +kernel
theorem d6_119 : decode prog_15_method_9_code 119 = .ok (.aload_n 0, 1) := by decide +kernel
theorem d6_120 : decode prog_15_method_9_code 120 = .ok (.getfield 13, 3) := by decide +kernel
theorem d6_123 : decode prog_15_method_9_code 123 = .ok (.iconst 2, 1) := by decide +kernel
theorem d6_124 : decode prog_15_method_9_code 124 = .ok (.aload_n 0, 1) := by decide +kernel
theorem d6_125 : decode prog_15_method_9_code 125 = .ok (.getfield 25, 3) := by decide +kernel
theorem d6_128 : decode prog_15_method_9_code 128 = .ok (.imul, 1) := by decide +kernel
theorem d6_129 : decode prog_15_method_9_code 129 = .ok (.iconst 1, 1) := by decide +kernel
theorem d6_130 : decode prog_15_method_9_code 130 = .ok (.iadd, 1) := by decide +kernel
theorem d6_131 : decode prog_15_method_9_code 131 = .ok (.iaload, 1) := by decide +kernel
theorem d6_132 : decode prog_15_method_9_code 132 = .ok (.iastore, 1) := by decide +kernel
theorem d6_133 : decode prog_15_method_9_code 133 = .ok (.aload_n 0, 1) := by decide +kernel
theorem d6_134 : decode prog_15_method_9_code 134 = .ok (.getfield 16, 3) := by decide +kernel
theorem d6_137 : decode prog_15_method_9_code 137 = .ok (.aload_n 0, 1) := by decide +kernel
theorem d6_138 : decode prog_15_method_9_code 138 = .ok (.getfield 13, 3) := by decide +kernel
theorem d6_141 : decode prog_15_method_9_code 141 = .ok (.iconst 2, 1) := by decide +kernel
theorem d6_142 : decode prog_15_method_9_code 142 = .ok (.iload_n 2, 1) := by decide +kernel
theorem d6_143 : decode prog_15_method_9_code 143 = .ok (.imul, 1) := by decide +kernel
theorem d6_144 : decode prog_15_method_9_code 144 = .ok (.iaload, 1) := by decide +kernel
theorem d6_145 : decode prog_15_method_9_code 145 = .ok (.iload_n 2, 1) := by decide +kernel
theorem d6_146 : decode prog_15_method_9_code 146 = .ok (.iastore, 1) := by decide +kernel
theorem d6_147 : decode prog_15_method_9_code 147 = .ok (.aload_n 0, 1) := by decide +kernel
theorem d6_148 : decode prog_15_method_9_code 148 = .ok (.getfield 16, 3) := by decide +kernel
theorem d6_151 : decode prog_15_method_9_code 151 = .ok (.aload_n 0, 1) := by decide +kernel
theorem d6_152 : decode prog_15_method_9_code 152 = .ok (.getfield 13, 3) := by decide +kernel
theorem d6_155 : decode prog_15_method_9_code 155 = .ok (.iconst 2, 1) := by decide +kernel
theorem d6_156 : decode prog_15_method_9_code 156 = .ok (.iload_n 2, 1) := by decide +kernel
theorem d6_157 : decode prog_15_method_9_code 157 = .ok (.imul, 1) := by decide +kernel
theorem d6_158 : decode prog_15_method_9_code 158 = .ok (.iconst 1, 1) := by decide +kernel
theorem d6_159 : decode prog_15_method_9_code 159 = .ok (.iadd, 1) := by decide +kernel
theorem d6_160 : decode prog_15_method_9_code 160 = .ok (.iaload, 1) := by decide +kernel
theorem d6_161 : decode prog_15_method_9_code 161 = .ok (.iload_n 2, 1) := by decide +kernel
theorem d6_162 : decode prog_15_method_9_code 162 = .ok (.iastore, 1) := by decide +kernel
def Q6m (Z : State) (ob : Addr) (p1 : Int32) (ae : Addr) (an : Addr) (ap : Addr) (us : Int32) (nn : Nat) (fE : Nat → Int32) (fN : Nat → Int32) (fP : Nat → Int32) (kk : Nat) (xa : Nat) (pz : Nat) (qz : Nat) (ya : Nat) (yb : Nat) (za : Nat) (zb : Nat) (h0 : Heap) (n0 : Nat) (v : Option Value) (h : Heap) (L : List Loc) : Prop := v = none ∧ Fr n0 L ∧ Keep h0 h [ob, ae, an, ap] ∧ Exa Z h ob "com/example/handfast/handfast/algorithm/Matching" ∧ Fld Z h ob "com/example/handfast/handfast/algorithm/Matching" "edges" "[I" (.ref ae) ∧ Fld Z h ob "com/example/handfast/handfast/algorithm/Matching" "ends" "[I" (.ref an) ∧ Fld Z h ob "com/example/handfast/handfast/algorithm/Matching" "placeAt" "[I" (.ref ap) ∧ Fld Z h ob "com/example/handfast/handfast/algorithm/Matching" "size" "I" (.int (us - (1 : Int32))) ∧ Fld Z h ob "com/example/handfast/handfast/algorithm/Matching" "members" "Lcom/example/handfast/handfast/model/NumberSet;" .null ∧ own_A Z h ae .int (16) (fun z => .int (own_up fE pz (fE qz) z)) ∧ own_A Z h an .int (32) (fun z => .int (own_up (own_up fN (2 * pz) (fN (2 * qz))) (2 * pz + 1) (fN (2 * qz + 1)) z)) ∧ own_A Z h ap .int (nn) (fun z => .int (own_up (own_up (own_up (own_up fP ya (-1 : Int32)) yb (-1 : Int32)) za (fP xa)) zb (fP xa) z))
set_option maxRecDepth 65536 in
set_option maxHeartbeats 40000000 in
theorem rm6m (l : Launch) (Z : State) (a0 : Array Value) (hw : ∀ d ∈ tables_1, d.before a0 Z = true) (ws : List Jvm.Cond) (ob : Addr) (p1 : Int32) (ae : Addr) (an : Addr) (ap : Addr) (us : Int32) (nn : Nat) (fE : Nat → Int32) (fN : Nat → Int32) (fP : Nat → Int32) (kk : Nat) (xa : Nat) (pz : Nat) (qz : Nat) (ya : Nat) (yb : Nat) (za : Nat) (zb : Nat) (h0 : Heap) (n0 : Nat) (Z0 : n0 ≤ h0.size) (f_E_ob : Exa Z h0 ob "com/example/handfast/handfast/algorithm/Matching") (f_F_ob_edges : Fld Z h0 ob "com/example/handfast/handfast/algorithm/Matching" "edges" "[I" (.ref ae)) (f_F_ob_ends : Fld Z h0 ob "com/example/handfast/handfast/algorithm/Matching" "ends" "[I" (.ref an)) (f_F_ob_placeAt : Fld Z h0 ob "com/example/handfast/handfast/algorithm/Matching" "placeAt" "[I" (.ref ap)) (f_F_ob_size : Fld Z h0 ob "com/example/handfast/handfast/algorithm/Matching" "size" "I" (.int us)) (f_F_ob_members : Fld Z h0 ob "com/example/handfast/handfast/algorithm/Matching" "members" "Lcom/example/handfast/handfast/model/NumberSet;" .null) (f_A_ae : own_A Z h0 ae .int (16) (fun z => .int (fE z))) (f_A_an : own_A Z h0 an .int (32) (fun z => .int (fN z))) (f_A_ap : own_A Z h0 ap .int (nn) (fun z => .int (fP z))) (g_ob : n0 ≤ ob) (g_ae : n0 ≤ ae) (g_an : n0 ≤ an) (g_ap : n0 ≤ ap) (hne : own_ne4 ob ae an ap) (hxa : own_In p1 xa nn) (hpz : own_In (fP xa) pz 8) (hk : own_In us kk 9) (hya : own_In (fN (2 * pz)) ya nn) (hyb : own_In (fN (2 * pz + 1)) yb nn) (hqz : qz + 1 = kk) (hpq : pz < qz) (hza : own_In (fN (2 * qz)) za nn) (hzb : own_In (fN (2 * qz + 1)) zb nn) :
    MetFree l (⟨"com/example/handfast/handfast/algorithm/Matching", "removeAt", "(I)V"⟩ : MethodName) (head1 (Jvm.Cond.code (⟨"com/example/handfast/handfast/algorithm/Matching", "removeAt", "(I)V"⟩ : MethodName) prog_15_method_9_code 3 none :: ws) ({ frames := 0, cells := 0, slots := 0, locals := 0 } : Room)) (fun avs U => avs = #[(.ref ob), (.int p1)] ∧ Z.Warmed39 U.vm ∧ U.heap = h0) (fun _ _ _ _ _ => True) (fun _ U o U' => ∃ v L, o = .returned v ∧ Q6m Z ob p1 ae an ap us nn fE fN fP kk xa pz qz ya yb za zb h0 n0 v U'.heap L ∧ FrameEnd U o U' L ({ frames := 0, cells := 0, slots := 0, locals := 0 } : Room).cells ({ frames := 0, cells := 0, slots := 0, locals := 0 } : Room).slots) := by
  refine MetFree.of_bodySF (plainFor_of_name own_pn_com_example_handfast_handfast_algorithm_Matching) hisR ?_
  intro p e s m args below meth c s₁ Bd hml0 hP hK
  obtain ⟨rfl, hZ, hh⟩ := hP
  have hx := Bd.exec
  have hby := Bd.bytes
  have hml : c.maxLocals = 3 := hml0
  have hown : s.vm.findClass "com/example/handfast/handfast/algorithm/Matching" = some m.cls := findClass_of_methodNamed Bd.named
  have hnm := (name_of_methodNamed Bd.named Bd.method).1
  have hlk := Bd.notSynchronized
  have hret := Bd.returns
  have X0 : Stand p l e ({ frames := 0, cells := 0, slots := 0, locals := 0 } : Room) s m #[(.ref ob), (.int p1)] below meth c s₁ [] 0 0 := Stand.of_body Bd
  have e0 : s₁.heap = h0 := by rw [← hh, Bd.state]; rfl
  have N0 := Fr.nil n0
  show own_W p e (FrameEnd s) below ({ frames := 0, cells := 0, slots := 0, locals := 0 } : Room).cells ({ frames := 0, cells := 0, slots := 0, locals := 0 } : Room).slots (Q6m Z ob p1 ae an ap us nn fE fN fP kk xa pz qz ya yb za zb h0 n0) s₁ (entryFrame m #[(.ref ob), (.int p1)] 3)
  rw [ef_6]
  have K0 : Keep h0 h0 [ob, ae, an, ap] := Keep.refl h0 _
  refine own_aloadN X0 hx (hb hby d6_0) (v := (.ref ob)) rfl rfl (rfl : 0 + 1 = 1) ?_
  obtain ⟨T1, X1, e1, st1⟩ := getF X0 hx hZ hown (host := "") (Or.inl (hw _ (List.mem_of_getElem? (i := 15) rfl))) Via.refl e0 f_F_ob_placeAt (g := (mkF m 1 #[.val (.ref ob), .val (.int p1), .unset] [(.ref ob)])) rfl rfl (hb hby d6_1)
  refine own_W.step st1 ?_
  show own_W p e (FrameEnd s) below ({ frames := 0, cells := 0, slots := 0, locals := 0 } : Room).cells ({ frames := 0, cells := 0, slots := 0, locals := 0 } : Room).slots (Q6m Z ob p1 ae an ap us nn fE fN fP kk xa pz qz ya yb za zb h0 n0) T1 (mkF m 4 #[.val (.ref ob), .val (.int p1), .unset] [(.ref ap)])
  refine own_iloadN X1 hx (hb hby d6_4) (v := p1) rfl (rfl : 4 + 1 = 5) ?_
  have hi2 : own_In p1 (xa) (nn) := hxa
  refine own_iaload X1 hx hZ e1 f_A_ap hi2 (v := (fP (xa))) rfl (g := (mkF m 5 #[.val (.ref ob), .val (.int p1), .unset] [(.int p1), (.ref ap)])) rfl rfl (hb hby d6_5) ?_
  show own_W p e (FrameEnd s) below ({ frames := 0, cells := 0, slots := 0, locals := 0 } : Room).cells ({ frames := 0, cells := 0, slots := 0, locals := 0 } : Room).slots (Q6m Z ob p1 ae an ap us nn fE fN fP kk xa pz qz ya yb za zb h0 n0) T1 (mkF m 6 #[.val (.ref ob), .val (.int p1), .unset] [(.int (fP (xa)))])
  refine own_istoreN X1 hx (hb hby d6_6) (l' := #[.val (.ref ob), .val (.int p1), .val (.int (fP (xa)))]) rfl (rfl : 6 + 1 = 7) ?_
  refine own_aloadN X1 hx (hb hby d6_7) (v := (.ref ob)) rfl rfl (rfl : 7 + 1 = 8) ?_
  obtain ⟨T3, X3, e3, st3⟩ := getF X1 hx hZ hown (host := "") (Or.inl (hw _ (List.mem_of_getElem? (i := 15) rfl))) Via.refl e1 f_F_ob_placeAt (g := (mkF m 8 #[.val (.ref ob), .val (.int p1), .val (.int (fP (xa)))] [(.ref ob)])) rfl rfl (hb hby d6_8)
  refine own_W.step st3 ?_
  show own_W p e (FrameEnd s) below ({ frames := 0, cells := 0, slots := 0, locals := 0 } : Room).cells ({ frames := 0, cells := 0, slots := 0, locals := 0 } : Room).slots (Q6m Z ob p1 ae an ap us nn fE fN fP kk xa pz qz ya yb za zb h0 n0) T3 (mkF m 11 #[.val (.ref ob), .val (.int p1), .val (.int (fP (xa)))] [(.ref ap)])
  refine own_aloadN X3 hx (hb hby d6_11) (v := (.ref ob)) rfl rfl (rfl : 11 + 1 = 12) ?_
  obtain ⟨T4, X4, e4, st4⟩ := getF X3 hx hZ hown (host := "") (Or.inl (hw _ (List.mem_of_getElem? (i := 13) rfl))) Via.refl e3 f_F_ob_ends (g := (mkF m 12 #[.val (.ref ob), .val (.int p1), .val (.int (fP (xa)))] [(.ref ob), (.ref ap)])) rfl rfl (hb hby d6_12)
  refine own_W.step st4 ?_
  show own_W p e (FrameEnd s) below ({ frames := 0, cells := 0, slots := 0, locals := 0 } : Room).cells ({ frames := 0, cells := 0, slots := 0, locals := 0 } : Room).slots (Q6m Z ob p1 ae an ap us nn fE fN fP kk xa pz qz ya yb za zb h0 n0) T4 (mkF m 15 #[.val (.ref ob), .val (.int p1), .val (.int (fP (xa)))] [(.ref an), (.ref ap)])
  refine own_iconst X4 hx (hb hby d6_15) (2 : Int32) (by first | rfl | decide) (rfl : 15 + 1 = 16) ?_
  refine own_iloadN X4 hx (hb hby d6_16) (v := (fP (xa))) rfl (rfl : 16 + 1 = 17) ?_
  refine own_imul X4 hx (hb hby d6_17) (rfl : 17 + 1 = 18) ?_
  have hi5 : own_In ((2 : Int32) * (fP (xa))) (2 * pz) (32) := own_I2 hpz (by decide) (by decide)
  refine own_iaload X4 hx hZ e4 f_A_an hi5 (v := (fN (2 * pz))) rfl (g := (mkF m 18 #[.val (.ref ob), .val (.int p1), .val (.int (fP (xa)))] [(.int ((2 : Int32) * (fP (xa)))), (.ref an), (.ref ap)])) rfl rfl (hb hby d6_18) ?_
  show own_W p e (FrameEnd s) below ({ frames := 0, cells := 0, slots := 0, locals := 0 } : Room).cells ({ frames := 0, cells := 0, slots := 0, locals := 0 } : Room).slots (Q6m Z ob p1 ae an ap us nn fE fN fP kk xa pz qz ya yb za zb h0 n0) T4 (mkF m 19 #[.val (.ref ob), .val (.int p1), .val (.int (fP (xa)))] [(.int (fN (2 * pz))), (.ref ap)])
  refine own_iconst X4 hx (hb hby d6_19) (-1 : Int32) (by first | rfl | decide) (rfl : 19 + 1 = 20) ?_
  have hi6 : own_In (fN (2 * pz)) (ya) (nn) := hya
  obtain ⟨T6, h6, X6, e6, W6, V6, st6⟩ := own_stI X4 hx hZ e4 f_A_ap hi6 (g := (mkF m 20 #[.val (.ref ob), .val (.int p1), .val (.int (fP (xa)))] [(.int (-1 : Int32)), (.int (fN (2 * pz))), (.ref ap)])) rfl rfl (hb hby d6_20)
  refine own_W.step st6 ?_
  have N6 := Fr.snoc X6 N0 g_ap
  have f6_E_ob : Exa Z h6 ob "com/example/handfast/handfast/algorithm/Matching" := f_E_ob.wr W6
  have f6_F_ob_edges : Fld Z h6 ob "com/example/handfast/handfast/algorithm/Matching" "edges" "[I" (.ref ae) := f_F_ob_edges.other W6 (Or.inl hne.2.2.1)
  have f6_F_ob_ends : Fld Z h6 ob "com/example/handfast/handfast/algorithm/Matching" "ends" "[I" (.ref an) := f_F_ob_ends.other W6 (Or.inl hne.2.2.1)
  have f6_F_ob_placeAt : Fld Z h6 ob "com/example/handfast/handfast/algorithm/Matching" "placeAt" "[I" (.ref ap) := f_F_ob_placeAt.other W6 (Or.inl hne.2.2.1)
  have f6_F_ob_size : Fld Z h6 ob "com/example/handfast/handfast/algorithm/Matching" "size" "I" (.int us) := f_F_ob_size.other W6 (Or.inl hne.2.2.1)
  have f6_F_ob_members : Fld Z h6 ob "com/example/handfast/handfast/algorithm/Matching" "members" "Lcom/example/handfast/handfast/model/NumberSet;" .null := f_F_ob_members.other W6 (Or.inl hne.2.2.1)
  have f6_A_ae : own_A Z h6 ae .int (16) (fun z => .int (fE z)) := f_A_ae.other W6 hne.2.2.2.2.1
  have f6_A_an : own_A Z h6 an .int (32) (fun z => .int (fN z)) := f_A_an.other W6 hne.2.2.2.2.2
  have f6_K : Keep h0 h6 [ob, ae, an, ap] := K0.wr W6 (Or.inl (by simp))
  have U6 : own_A Z h6 ap .int (nn) (fun z => .int (own_up fP ya (-1 : Int32) z)) := V6.congr (fun z _ => by unfold own_up; split <;> rfl)
  have z6 : n0 ≤ h6.size := by rw [W6.size]; exact Z0
  show own_W p e (FrameEnd s) below ({ frames := 0, cells := 0, slots := 0, locals := 0 } : Room).cells ({ frames := 0, cells := 0, slots := 0, locals := 0 } : Room).slots (Q6m Z ob p1 ae an ap us nn fE fN fP kk xa pz qz ya yb za zb h0 n0) T6 (mkF m 21 #[.val (.ref ob), .val (.int p1), .val (.int (fP (xa)))] [])
  refine own_aloadN X6 hx (hb hby d6_21) (v := (.ref ob)) rfl rfl (rfl : 21 + 1 = 22) ?_
  obtain ⟨T7, X7, e7, st7⟩ := getF X6 hx hZ hown (host := "") (Or.inl (hw _ (List.mem_of_getElem? (i := 15) rfl))) Via.refl e6 f6_F_ob_placeAt (g := (mkF m 22 #[.val (.ref ob), .val (.int p1), .val (.int (fP (xa)))] [(.ref ob)])) rfl rfl (hb hby d6_22)
  refine own_W.step st7 ?_
  show own_W p e (FrameEnd s) below ({ frames := 0, cells := 0, slots := 0, locals := 0 } : Room).cells ({ frames := 0, cells := 0, slots := 0, locals := 0 } : Room).slots (Q6m Z ob p1 ae an ap us nn fE fN fP kk xa pz qz ya yb za zb h0 n0) T7 (mkF m 25 #[.val (.ref ob), .val (.int p1), .val (.int (fP (xa)))] [(.ref ap)])
  refine own_aloadN X7 hx (hb hby d6_25) (v := (.ref ob)) rfl rfl (rfl : 25 + 1 = 26) ?_
  obtain ⟨T8, X8, e8, st8⟩ := getF X7 hx hZ hown (host := "") (Or.inl (hw _ (List.mem_of_getElem? (i := 13) rfl))) Via.refl e7 f6_F_ob_ends (g := (mkF m 26 #[.val (.ref ob), .val (.int p1), .val (.int (fP (xa)))] [(.ref ob), (.ref ap)])) rfl rfl (hb hby d6_26)
  refine own_W.step st8 ?_
  show own_W p e (FrameEnd s) below ({ frames := 0, cells := 0, slots := 0, locals := 0 } : Room).cells ({ frames := 0, cells := 0, slots := 0, locals := 0 } : Room).slots (Q6m Z ob p1 ae an ap us nn fE fN fP kk xa pz qz ya yb za zb h0 n0) T8 (mkF m 29 #[.val (.ref ob), .val (.int p1), .val (.int (fP (xa)))] [(.ref an), (.ref ap)])
  refine own_iconst X8 hx (hb hby d6_29) (2 : Int32) (by first | rfl | decide) (rfl : 29 + 1 = 30) ?_
  refine own_iloadN X8 hx (hb hby d6_30) (v := (fP (xa))) rfl (rfl : 30 + 1 = 31) ?_
  refine own_imul X8 hx (hb hby d6_31) (rfl : 31 + 1 = 32) ?_
  refine own_iconst X8 hx (hb hby d6_32) (1 : Int32) (by first | rfl | decide) (rfl : 32 + 1 = 33) ?_
  refine own_iadd X8 hx (hb hby d6_33) (rfl : 33 + 1 = 34) ?_
  have hi9 : own_In (((2 : Int32) * (fP (xa))) + (1 : Int32)) (2 * pz + 1) (32) := own_I21 hpz (by decide) (by decide)
  refine own_iaload X8 hx hZ e8 f6_A_an hi9 (v := (fN (2 * pz + 1))) rfl (g := (mkF m 34 #[.val (.ref ob), .val (.int p1), .val (.int (fP (xa)))] [(.int (((2 : Int32) * (fP (xa))) + (1 : Int32))), (.ref an), (.ref ap)])) rfl rfl (hb hby d6_34) ?_
  show own_W p e (FrameEnd s) below ({ frames := 0, cells := 0, slots := 0, locals := 0 } : Room).cells ({ frames := 0, cells := 0, slots := 0, locals := 0 } : Room).slots (Q6m Z ob p1 ae an ap us nn fE fN fP kk xa pz qz ya yb za zb h0 n0) T8 (mkF m 35 #[.val (.ref ob), .val (.int p1), .val (.int (fP (xa)))] [(.int (fN (2 * pz + 1))), (.ref ap)])
  refine own_iconst X8 hx (hb hby d6_35) (-1 : Int32) (by first | rfl | decide) (rfl : 35 + 1 = 36) ?_
  have hi10 : own_In (fN (2 * pz + 1)) (yb) (nn) := hyb
  obtain ⟨T10, h10, X10, e10, W10, V10, st10⟩ := own_stI X8 hx hZ e8 U6 hi10 (g := (mkF m 36 #[.val (.ref ob), .val (.int p1), .val (.int (fP (xa)))] [(.int (-1 : Int32)), (.int (fN (2 * pz + 1))), (.ref ap)])) rfl rfl (hb hby d6_36)
  refine own_W.step st10 ?_
  have N10 := Fr.snoc X10 N6 g_ap
  have f10_E_ob : Exa Z h10 ob "com/example/handfast/handfast/algorithm/Matching" := f6_E_ob.wr W10
  have f10_F_ob_edges : Fld Z h10 ob "com/example/handfast/handfast/algorithm/Matching" "edges" "[I" (.ref ae) := f6_F_ob_edges.other W10 (Or.inl hne.2.2.1)
  have f10_F_ob_ends : Fld Z h10 ob "com/example/handfast/handfast/algorithm/Matching" "ends" "[I" (.ref an) := f6_F_ob_ends.other W10 (Or.inl hne.2.2.1)
  have f10_F_ob_placeAt : Fld Z h10 ob "com/example/handfast/handfast/algorithm/Matching" "placeAt" "[I" (.ref ap) := f6_F_ob_placeAt.other W10 (Or.inl hne.2.2.1)
  have f10_F_ob_size : Fld Z h10 ob "com/example/handfast/handfast/algorithm/Matching" "size" "I" (.int us) := f6_F_ob_size.other W10 (Or.inl hne.2.2.1)
  have f10_F_ob_members : Fld Z h10 ob "com/example/handfast/handfast/algorithm/Matching" "members" "Lcom/example/handfast/handfast/model/NumberSet;" .null := f6_F_ob_members.other W10 (Or.inl hne.2.2.1)
  have f10_A_ae : own_A Z h10 ae .int (16) (fun z => .int (fE z)) := f6_A_ae.other W10 hne.2.2.2.2.1
  have f10_A_an : own_A Z h10 an .int (32) (fun z => .int (fN z)) := f6_A_an.other W10 hne.2.2.2.2.2
  have f10_K : Keep h0 h10 [ob, ae, an, ap] := f6_K.wr W10 (Or.inl (by simp))
  have U10 : own_A Z h10 ap .int (nn) (fun z => .int (own_up (own_up fP ya (-1 : Int32)) yb (-1 : Int32) z)) := V10.congr (fun z _ => by unfold own_up; split <;> rfl)
  have z10 : n0 ≤ h10.size := by rw [W10.size]; exact z6
  show own_W p e (FrameEnd s) below ({ frames := 0, cells := 0, slots := 0, locals := 0 } : Room).cells ({ frames := 0, cells := 0, slots := 0, locals := 0 } : Room).slots (Q6m Z ob p1 ae an ap us nn fE fN fP kk xa pz qz ya yb za zb h0 n0) T10 (mkF m 37 #[.val (.ref ob), .val (.int p1), .val (.int (fP (xa)))] [])
  refine own_aloadN X10 hx (hb hby d6_37) (v := (.ref ob)) rfl rfl (rfl : 37 + 1 = 38) ?_
  obtain ⟨T11, X11, e11, st11⟩ := getF X10 hx hZ hown (host := "") (Or.inl (hw _ (List.mem_of_getElem? (i := 28) rfl))) Via.refl e10 f10_F_ob_members (g := (mkF m 38 #[.val (.ref ob), .val (.int p1), .val (.int (fP (xa)))] [(.ref ob)])) rfl rfl (hb hby d6_38)
  refine own_W.step st11 ?_
  show own_W p e (FrameEnd s) below ({ frames := 0, cells := 0, slots := 0, locals := 0 } : Room).cells ({ frames := 0, cells := 0, slots := 0, locals := 0 } : Room).slots (Q6m Z ob p1 ae an ap us nn fE fN fP kk xa pz qz ya yb za zb h0 n0) T11 (mkF m 41 #[.val (.ref ob), .val (.int p1), .val (.int (fP (xa)))] [.null])
  refine own_ifnullYes X11 hx (hb hby d6_41) (pc' := 58) (by decide) (by decide) ?_
  refine own_aloadN X11 hx (hb hby d6_58) (v := (.ref ob)) rfl rfl (rfl : 58 + 1 = 59) ?_
  refine own_dup X11 hx (hb hby d6_59) rfl (rfl : 59 + 1 = 60) ?_
  obtain ⟨T12, X12, e12, st12⟩ := getF X11 hx hZ hown (host := "") (Or.inl (hw _ (List.mem_of_getElem? (i := 26) rfl))) Via.refl e11 f10_F_ob_size (g := (mkF m 60 #[.val (.ref ob), .val (.int p1), .val (.int (fP (xa)))] [(.ref ob), (.ref ob)])) rfl rfl (hb hby d6_60)
  refine own_W.step st12 ?_
  show own_W p e (FrameEnd s) below ({ frames := 0, cells := 0, slots := 0, locals := 0 } : Room).cells ({ frames := 0, cells := 0, slots := 0, locals := 0 } : Room).slots (Q6m Z ob p1 ae an ap us nn fE fN fP kk xa pz qz ya yb za zb h0 n0) T12 (mkF m 63 #[.val (.ref ob), .val (.int p1), .val (.int (fP (xa)))] [(.int us), (.ref ob)])
  refine own_iconst X12 hx (hb hby d6_63) (1 : Int32) (by first | rfl | decide) (rfl : 63 + 1 = 64) ?_
  refine own_isub X12 hx (hb hby d6_64) (rfl : 64 + 1 = 65) ?_
  obtain ⟨T13, h13, X13, e13, W13, st13⟩ := putF X12 hx hZ hown (host := "") (Or.inl (hw _ (List.mem_of_getElem? (i := 26) rfl))) Via.refl e12 f10_F_ob_size f10_E_ob (Or.inl (hw _ (List.mem_of_getElem? (i := 27) rfl))) (hw _ (List.mem_of_getElem? (i := 2) rfl)) (ty := .int) (by decide) rfl rfl (g := (mkF m 65 #[.val (.ref ob), .val (.int p1), .val (.int (fP (xa)))] [(.int (us - (1 : Int32))), (.ref ob)])) rfl rfl (hb hby d6_65)
  refine own_W.step st13 ?_
  have N13 := Fr.snoc X13 N10 g_ob
  have f13_E_ob : Exa Z h13 ob "com/example/handfast/handfast/algorithm/Matching" := f10_E_ob.wr W13
  have f13_F_ob_edges : Fld Z h13 ob "com/example/handfast/handfast/algorithm/Matching" "edges" "[I" (.ref ae) := f10_F_ob_edges.other W13 (Or.inr (slot_ne (Or.inl (hw _ (List.mem_of_getElem? (i := 12) rfl))) (Or.inl (hw _ (List.mem_of_getElem? (i := 27) rfl))) (by decide) (t := (.array .int)) (t' := .int) (by decide) (by decide)))
  have f13_F_ob_ends : Fld Z h13 ob "com/example/handfast/handfast/algorithm/Matching" "ends" "[I" (.ref an) := f10_F_ob_ends.other W13 (Or.inr (slot_ne (Or.inl (hw _ (List.mem_of_getElem? (i := 14) rfl))) (Or.inl (hw _ (List.mem_of_getElem? (i := 27) rfl))) (by decide) (t := (.array .int)) (t' := .int) (by decide) (by decide)))
  have f13_F_ob_placeAt : Fld Z h13 ob "com/example/handfast/handfast/algorithm/Matching" "placeAt" "[I" (.ref ap) := f10_F_ob_placeAt.other W13 (Or.inr (slot_ne (Or.inr (hw _ (List.mem_of_getElem? (i := 16) rfl))) (Or.inl (hw _ (List.mem_of_getElem? (i := 27) rfl))) (by decide) (t := (.array .int)) (t' := .int) (by decide) (by decide)))
  have f13_F_ob_members : Fld Z h13 ob "com/example/handfast/handfast/algorithm/Matching" "members" "Lcom/example/handfast/handfast/model/NumberSet;" .null := f10_F_ob_members.other W13 (Or.inr (slot_ne (Or.inl (hw _ (List.mem_of_getElem? (i := 29) rfl))) (Or.inl (hw _ (List.mem_of_getElem? (i := 27) rfl))) (by decide) (t := (.object "com/example/handfast/handfast/model/NumberSet")) (t' := .int) (by decide) (by decide)))
  have f13_A_ae : own_A Z h13 ae .int (16) (fun z => .int (fE z)) := f10_A_ae.other W13 (Ne.symm hne.1)
  have f13_A_an : own_A Z h13 an .int (32) (fun z => .int (fN z)) := f10_A_an.other W13 (Ne.symm hne.2.1)
  have f13_A_ap : own_A Z h13 ap .int (nn) (fun z => .int (own_up (own_up fP ya (-1 : Int32)) yb (-1 : Int32) z)) := U10.other W13 (Ne.symm hne.2.2.1)
  have f13_K : Keep h0 h13 [ob, ae, an, ap] := f10_K.wr W13 (Or.inl (by simp))
  have fw13 : Fld Z h13 ob "com/example/handfast/handfast/algorithm/Matching" "size" "I" (.int (us - (1 : Int32))) := f10_F_ob_size.same W13
  have z13 : n0 ≤ h13.size := by rw [W13.size]; exact z10
  show own_W p e (FrameEnd s) below ({ frames := 0, cells := 0, slots := 0, locals := 0 } : Room).cells ({ frames := 0, cells := 0, slots := 0, locals := 0 } : Room).slots (Q6m Z ob p1 ae an ap us nn fE fN fP kk xa pz qz ya yb za zb h0 n0) T13 (mkF m 68 #[.val (.ref ob), .val (.int p1), .val (.int (fP (xa)))] [])
  refine own_iloadN X13 hx (hb hby d6_68) (v := (fP (xa))) rfl (rfl : 68 + 1 = 69) ?_
  refine own_aloadN X13 hx (hb hby d6_69) (v := (.ref ob)) rfl rfl (rfl : 69 + 1 = 70) ?_
  obtain ⟨T14, X14, e14, st14⟩ := getF X13 hx hZ hown (host := "") (Or.inl (hw _ (List.mem_of_getElem? (i := 26) rfl))) Via.refl e13 fw13 (g := (mkF m 70 #[.val (.ref ob), .val (.int p1), .val (.int (fP (xa)))] [(.ref ob), (.int (fP (xa)))])) rfl rfl (hb hby d6_70)
  refine own_W.step st14 ?_
  show own_W p e (FrameEnd s) below ({ frames := 0, cells := 0, slots := 0, locals := 0 } : Room).cells ({ frames := 0, cells := 0, slots := 0, locals := 0 } : Room).slots (Q6m Z ob p1 ae an ap us nn fE fN fP kk xa pz qz ya yb za zb h0 n0) T14 (mkF m 73 #[.val (.ref ob), .val (.int p1), .val (.int (fP (xa)))] [(.int (us - (1 : Int32))), (.int (fP (xa)))])
  have hc73 : (fP (xa)) < (us - (1 : Int32)) := by have z := hpz.1; have y := own_Id hk hqz (by decide) (Nat.le_refl _); rw [Int32.lt_iff_toInt_lt, z, y.1]; omega
  refine own_icmpNo X14 hx (hb hby d6_73) (tlt hc73).2.1 (rfl : 73 + 3 = 76) ?_
  refine own_aloadN X14 hx (hb hby d6_76) (v := (.ref ob)) rfl rfl (rfl : 76 + 1 = 77) ?_
  obtain ⟨T15, X15, e15, st15⟩ := getF X14 hx hZ hown (host := "") (Or.inl (hw _ (List.mem_of_getElem? (i := 11) rfl))) Via.refl e14 f13_F_ob_edges (g := (mkF m 77 #[.val (.ref ob), .val (.int p1), .val (.int (fP (xa)))] [(.ref ob)])) rfl rfl (hb hby d6_77)
  refine own_W.step st15 ?_
  show own_W p e (FrameEnd s) below ({ frames := 0, cells := 0, slots := 0, locals := 0 } : Room).cells ({ frames := 0, cells := 0, slots := 0, locals := 0 } : Room).slots (Q6m Z ob p1 ae an ap us nn fE fN fP kk xa pz qz ya yb za zb h0 n0) T15 (mkF m 80 #[.val (.ref ob), .val (.int p1), .val (.int (fP (xa)))] [(.ref ae)])
  refine own_iloadN X15 hx (hb hby d6_80) (v := (fP (xa))) rfl (rfl : 80 + 1 = 81) ?_
  refine own_aloadN X15 hx (hb hby d6_81) (v := (.ref ob)) rfl rfl (rfl : 81 + 1 = 82) ?_
  obtain ⟨T16, X16, e16, st16⟩ := getF X15 hx hZ hown (host := "") (Or.inl (hw _ (List.mem_of_getElem? (i := 11) rfl))) Via.refl e15 f13_F_ob_edges (g := (mkF m 82 #[.val (.ref ob), .val (.int p1), .val (.int (fP (xa)))] [(.ref ob), (.int (fP (xa))), (.ref ae)])) rfl rfl (hb hby d6_82)
  refine own_W.step st16 ?_
  show own_W p e (FrameEnd s) below ({ frames := 0, cells := 0, slots := 0, locals := 0 } : Room).cells ({ frames := 0, cells := 0, slots := 0, locals := 0 } : Room).slots (Q6m Z ob p1 ae an ap us nn fE fN fP kk xa pz qz ya yb za zb h0 n0) T16 (mkF m 85 #[.val (.ref ob), .val (.int p1), .val (.int (fP (xa)))] [(.ref ae), (.int (fP (xa))), (.ref ae)])
  refine own_aloadN X16 hx (hb hby d6_85) (v := (.ref ob)) rfl rfl (rfl : 85 + 1 = 86) ?_
  obtain ⟨T17, X17, e17, st17⟩ := getF X16 hx hZ hown (host := "") (Or.inl (hw _ (List.mem_of_getElem? (i := 26) rfl))) Via.refl e16 fw13 (g := (mkF m 86 #[.val (.ref ob), .val (.int p1), .val (.int (fP (xa)))] [(.ref ob), (.ref ae), (.int (fP (xa))), (.ref ae)])) rfl rfl (hb hby d6_86)
  refine own_W.step st17 ?_
  show own_W p e (FrameEnd s) below ({ frames := 0, cells := 0, slots := 0, locals := 0 } : Room).cells ({ frames := 0, cells := 0, slots := 0, locals := 0 } : Room).slots (Q6m Z ob p1 ae an ap us nn fE fN fP kk xa pz qz ya yb za zb h0 n0) T17 (mkF m 89 #[.val (.ref ob), .val (.int p1), .val (.int (fP (xa)))] [(.int (us - (1 : Int32))), (.ref ae), (.int (fP (xa))), (.ref ae)])
  have hi18 : own_In (us - (1 : Int32)) (qz) (16) := own_Id hk hqz (by decide) (by decide)
  refine own_iaload X17 hx hZ e17 f13_A_ae hi18 (v := (fE (qz))) rfl (g := (mkF m 89 #[.val (.ref ob), .val (.int p1), .val (.int (fP (xa)))] [(.int (us - (1 : Int32))), (.ref ae), (.int (fP (xa))), (.ref ae)])) rfl rfl (hb hby d6_89) ?_
  show own_W p e (FrameEnd s) below ({ frames := 0, cells := 0, slots := 0, locals := 0 } : Room).cells ({ frames := 0, cells := 0, slots := 0, locals := 0 } : Room).slots (Q6m Z ob p1 ae an ap us nn fE fN fP kk xa pz qz ya yb za zb h0 n0) T17 (mkF m 90 #[.val (.ref ob), .val (.int p1), .val (.int (fP (xa)))] [(.int (fE (qz))), (.int (fP (xa))), (.ref ae)])
  have hi19 : own_In (fP (xa)) (pz) (16) := own_Iw hpz (by decide)
  obtain ⟨T19, h19, X19, e19, W19, V19, st19⟩ := own_stI X17 hx hZ e17 f13_A_ae hi19 (g := (mkF m 90 #[.val (.ref ob), .val (.int p1), .val (.int (fP (xa)))] [(.int (fE (qz))), (.int (fP (xa))), (.ref ae)])) rfl rfl (hb hby d6_90)
  refine own_W.step st19 ?_
  have N19 := Fr.snoc X19 N13 g_ae
  have f19_E_ob : Exa Z h19 ob "com/example/handfast/handfast/algorithm/Matching" := f13_E_ob.wr W19
  have f19_F_ob_edges : Fld Z h19 ob "com/example/handfast/handfast/algorithm/Matching" "edges" "[I" (.ref ae) := f13_F_ob_edges.other W19 (Or.inl hne.1)
  have f19_F_ob_ends : Fld Z h19 ob "com/example/handfast/handfast/algorithm/Matching" "ends" "[I" (.ref an) := f13_F_ob_ends.other W19 (Or.inl hne.1)
  have f19_F_ob_placeAt : Fld Z h19 ob "com/example/handfast/handfast/algorithm/Matching" "placeAt" "[I" (.ref ap) := f13_F_ob_placeAt.other W19 (Or.inl hne.1)
  have f19_F_ob_size : Fld Z h19 ob "com/example/handfast/handfast/algorithm/Matching" "size" "I" (.int (us - (1 : Int32))) := fw13.other W19 (Or.inl hne.1)
  have f19_F_ob_members : Fld Z h19 ob "com/example/handfast/handfast/algorithm/Matching" "members" "Lcom/example/handfast/handfast/model/NumberSet;" .null := f13_F_ob_members.other W19 (Or.inl hne.1)
  have f19_A_an : own_A Z h19 an .int (32) (fun z => .int (fN z)) := f13_A_an.other W19 (Ne.symm hne.2.2.2.1)
  have f19_A_ap : own_A Z h19 ap .int (nn) (fun z => .int (own_up (own_up fP ya (-1 : Int32)) yb (-1 : Int32) z)) := f13_A_ap.other W19 (Ne.symm hne.2.2.2.2.1)
  have f19_K : Keep h0 h19 [ob, ae, an, ap] := f13_K.wr W19 (Or.inl (by simp))
  have U19 : own_A Z h19 ae .int (16) (fun z => .int (own_up fE pz (fE (qz)) z)) := V19.congr (fun z _ => by unfold own_up; split <;> rfl)
  have z19 : n0 ≤ h19.size := by rw [W19.size]; exact z13
  show own_W p e (FrameEnd s) below ({ frames := 0, cells := 0, slots := 0, locals := 0 } : Room).cells ({ frames := 0, cells := 0, slots := 0, locals := 0 } : Room).slots (Q6m Z ob p1 ae an ap us nn fE fN fP kk xa pz qz ya yb za zb h0 n0) T19 (mkF m 91 #[.val (.ref ob), .val (.int p1), .val (.int (fP (xa)))] [])
  refine own_aloadN X19 hx (hb hby d6_91) (v := (.ref ob)) rfl rfl (rfl : 91 + 1 = 92) ?_
  obtain ⟨T20, X20, e20, st20⟩ := getF X19 hx hZ hown (host := "") (Or.inl (hw _ (List.mem_of_getElem? (i := 13) rfl))) Via.refl e19 f19_F_ob_ends (g := (mkF m 92 #[.val (.ref ob), .val (.int p1), .val (.int (fP (xa)))] [(.ref ob)])) rfl rfl (hb hby d6_92)
  refine own_W.step st20 ?_
  show own_W p e (FrameEnd s) below ({ frames := 0, cells := 0, slots := 0, locals := 0 } : Room).cells ({ frames := 0, cells := 0, slots := 0, locals := 0 } : Room).slots (Q6m Z ob p1 ae an ap us nn fE fN fP kk xa pz qz ya yb za zb h0 n0) T20 (mkF m 95 #[.val (.ref ob), .val (.int p1), .val (.int (fP (xa)))] [(.ref an)])
  refine own_iconst X20 hx (hb hby d6_95) (2 : Int32) (by first | rfl | decide) (rfl : 95 + 1 = 96) ?_
  refine own_iloadN X20 hx (hb hby d6_96) (v := (fP (xa))) rfl (rfl : 96 + 1 = 97) ?_
  refine own_imul X20 hx (hb hby d6_97) (rfl : 97 + 1 = 98) ?_
  refine own_aloadN X20 hx (hb hby d6_98) (v := (.ref ob)) rfl rfl (rfl : 98 + 1 = 99) ?_
  obtain ⟨T21, X21, e21, st21⟩ := getF X20 hx hZ hown (host := "") (Or.inl (hw _ (List.mem_of_getElem? (i := 13) rfl))) Via.refl e20 f19_F_ob_ends (g := (mkF m 99 #[.val (.ref ob), .val (.int p1), .val (.int (fP (xa)))] [(.ref ob), (.int ((2 : Int32) * (fP (xa)))), (.ref an)])) rfl rfl (hb hby d6_99)
  refine own_W.step st21 ?_
  show own_W p e (FrameEnd s) below ({ frames := 0, cells := 0, slots := 0, locals := 0 } : Room).cells ({ frames := 0, cells := 0, slots := 0, locals := 0 } : Room).slots (Q6m Z ob p1 ae an ap us nn fE fN fP kk xa pz qz ya yb za zb h0 n0) T21 (mkF m 102 #[.val (.ref ob), .val (.int p1), .val (.int (fP (xa)))] [(.ref an), (.int ((2 : Int32) * (fP (xa)))), (.ref an)])
  refine own_iconst X21 hx (hb hby d6_102) (2 : Int32) (by first | rfl | decide) (rfl : 102 + 1 = 103) ?_
  refine own_aloadN X21 hx (hb hby d6_103) (v := (.ref ob)) rfl rfl (rfl : 103 + 1 = 104) ?_
  obtain ⟨T22, X22, e22, st22⟩ := getF X21 hx hZ hown (host := "") (Or.inl (hw _ (List.mem_of_getElem? (i := 26) rfl))) Via.refl e21 f19_F_ob_size (g := (mkF m 104 #[.val (.ref ob), .val (.int p1), .val (.int (fP (xa)))] [(.ref ob), (.int (2 : Int32)), (.ref an), (.int ((2 : Int32) * (fP (xa)))), (.ref an)])) rfl rfl (hb hby d6_104)
  refine own_W.step st22 ?_
  show own_W p e (FrameEnd s) below ({ frames := 0, cells := 0, slots := 0, locals := 0 } : Room).cells ({ frames := 0, cells := 0, slots := 0, locals := 0 } : Room).slots (Q6m Z ob p1 ae an ap us nn fE fN fP kk xa pz qz ya yb za zb h0 n0) T22 (mkF m 107 #[.val (.ref ob), .val (.int p1), .val (.int (fP (xa)))] [(.int (us - (1 : Int32))), (.int (2 : Int32)), (.ref an), (.int ((2 : Int32) * (fP (xa)))), (.ref an)])
  refine own_imul X22 hx (hb hby d6_107) (rfl : 107 + 1 = 108) ?_
  have hi23 : own_In ((2 : Int32) * (us - (1 : Int32))) (2 * qz) (32) := own_I2 (own_Id hk hqz (by decide) (Nat.le_refl _)) (by decide) (by decide)
  refine own_iaload X22 hx hZ e22 f19_A_an hi23 (v := (fN (2 * qz))) rfl (g := (mkF m 108 #[.val (.ref ob), .val (.int p1), .val (.int (fP (xa)))] [(.int ((2 : Int32) * (us - (1 : Int32)))), (.ref an), (.int ((2 : Int32) * (fP (xa)))), (.ref an)])) rfl rfl (hb hby d6_108) ?_
  show own_W p e (FrameEnd s) below ({ frames := 0, cells := 0, slots := 0, locals := 0 } : Room).cells ({ frames := 0, cells := 0, slots := 0, locals := 0 } : Room).slots (Q6m Z ob p1 ae an ap us nn fE fN fP kk xa pz qz ya yb za zb h0 n0) T22 (mkF m 109 #[.val (.ref ob), .val (.int p1), .val (.int (fP (xa)))] [(.int (fN (2 * qz))), (.int ((2 : Int32) * (fP (xa)))), (.ref an)])
  have hi24 : own_In ((2 : Int32) * (fP (xa))) (2 * pz) (32) := own_I2 hpz (by decide) (by decide)
  obtain ⟨T24, h24, X24, e24, W24, V24, st24⟩ := own_stI X22 hx hZ e22 f19_A_an hi24 (g := (mkF m 109 #[.val (.ref ob), .val (.int p1), .val (.int (fP (xa)))] [(.int (fN (2 * qz))), (.int ((2 : Int32) * (fP (xa)))), (.ref an)])) rfl rfl (hb hby d6_109)
  refine own_W.step st24 ?_
  have N24 := Fr.snoc X24 N19 g_an
  have f24_E_ob : Exa Z h24 ob "com/example/handfast/handfast/algorithm/Matching" := f19_E_ob.wr W24
  have f24_F_ob_edges : Fld Z h24 ob "com/example/handfast/handfast/algorithm/Matching" "edges" "[I" (.ref ae) := f19_F_ob_edges.other W24 (Or.inl hne.2.1)
  have f24_F_ob_ends : Fld Z h24 ob "com/example/handfast/handfast/algorithm/Matching" "ends" "[I" (.ref an) := f19_F_ob_ends.other W24 (Or.inl hne.2.1)
  have f24_F_ob_placeAt : Fld Z h24 ob "com/example/handfast/handfast/algorithm/Matching" "placeAt" "[I" (.ref ap) := f19_F_ob_placeAt.other W24 (Or.inl hne.2.1)
  have f24_F_ob_size : Fld Z h24 ob "com/example/handfast/handfast/algorithm/Matching" "size" "I" (.int (us - (1 : Int32))) := f19_F_ob_size.other W24 (Or.inl hne.2.1)
  have f24_F_ob_members : Fld Z h24 ob "com/example/handfast/handfast/algorithm/Matching" "members" "Lcom/example/handfast/handfast/model/NumberSet;" .null := f19_F_ob_members.other W24 (Or.inl hne.2.1)
  have f24_A_ae : own_A Z h24 ae .int (16) (fun z => .int (own_up fE pz (fE (qz)) z)) := U19.other W24 hne.2.2.2.1
  have f24_A_ap : own_A Z h24 ap .int (nn) (fun z => .int (own_up (own_up fP ya (-1 : Int32)) yb (-1 : Int32) z)) := f19_A_ap.other W24 (Ne.symm hne.2.2.2.2.2)
  have f24_K : Keep h0 h24 [ob, ae, an, ap] := f19_K.wr W24 (Or.inl (by simp))
  have U24 : own_A Z h24 an .int (32) (fun z => .int (own_up fN (2 * pz) (fN (2 * qz)) z)) := V24.congr (fun z _ => by unfold own_up; split <;> rfl)
  have z24 : n0 ≤ h24.size := by rw [W24.size]; exact z19
  show own_W p e (FrameEnd s) below ({ frames := 0, cells := 0, slots := 0, locals := 0 } : Room).cells ({ frames := 0, cells := 0, slots := 0, locals := 0 } : Room).slots (Q6m Z ob p1 ae an ap us nn fE fN fP kk xa pz qz ya yb za zb h0 n0) T24 (mkF m 110 #[.val (.ref ob), .val (.int p1), .val (.int (fP (xa)))] [])
  refine own_aloadN X24 hx (hb hby d6_110) (v := (.ref ob)) rfl rfl (rfl : 110 + 1 = 111) ?_
  obtain ⟨T25, X25, e25, st25⟩ := getF X24 hx hZ hown (host := "") (Or.inl (hw _ (List.mem_of_getElem? (i := 13) rfl))) Via.refl e24 f24_F_ob_ends (g := (mkF m 111 #[.val (.ref ob), .val (.int p1), .val (.int (fP (xa)))] [(.ref ob)])) rfl rfl (hb hby d6_111)
  refine own_W.step st25 ?_
  show own_W p e (FrameEnd s) below ({ frames := 0, cells := 0, slots := 0, locals := 0 } : Room).cells ({ frames := 0, cells := 0, slots := 0, locals := 0 } : Room).slots (Q6m Z ob p1 ae an ap us nn fE fN fP kk xa pz qz ya yb za zb h0 n0) T25 (mkF m 114 #[.val (.ref ob), .val (.int p1), .val (.int (fP (xa)))] [(.ref an)])
  refine own_iconst X25 hx (hb hby d6_114) (2 : Int32) (by first | rfl | decide) (rfl : 114 + 1 = 115) ?_
  refine own_iloadN X25 hx (hb hby d6_115) (v := (fP (xa))) rfl (rfl : 115 + 1 = 116) ?_
  refine own_imul X25 hx (hb hby d6_116) (rfl : 116 + 1 = 117) ?_
  refine own_iconst X25 hx (hb hby d6_117) (1 : Int32) (by first | rfl | decide) (rfl : 117 + 1 = 118) ?_
  refine own_iadd X25 hx (hb hby d6_118) (rfl : 118 + 1 = 119) ?_
  refine own_aloadN X25 hx (hb hby d6_119) (v := (.ref ob)) rfl rfl (rfl : 119 + 1 = 120) ?_
  obtain ⟨T26, X26, e26, st26⟩ := getF X25 hx hZ hown (host := "") (Or.inl (hw _ (List.mem_of_getElem? (i := 13) rfl))) Via.refl e25 f24_F_ob_ends (g := (mkF m 120 #[.val (.ref ob), .val (.int p1), .val (.int (fP (xa)))] [(.ref ob), (.int (((2 : Int32) * (fP (xa))) + (1 : Int32))), (.ref an)])) rfl rfl (hb hby d6_120)
  refine own_W.step st26 ?_
  show own_W p e (FrameEnd s) below ({ frames := 0, cells := 0, slots := 0, locals := 0 } : Room).cells ({ frames := 0, cells := 0, slots := 0, locals := 0 } : Room).slots (Q6m Z ob p1 ae an ap us nn fE fN fP kk xa pz qz ya yb za zb h0 n0) T26 (mkF m 123 #[.val (.ref ob), .val (.int p1), .val (.int (fP (xa)))] [(.ref an), (.int (((2 : Int32) * (fP (xa))) + (1 : Int32))), (.ref an)])
  refine own_iconst X26 hx (hb hby d6_123) (2 : Int32) (by first | rfl | decide) (rfl : 123 + 1 = 124) ?_
  refine own_aloadN X26 hx (hb hby d6_124) (v := (.ref ob)) rfl rfl (rfl : 124 + 1 = 125) ?_
  obtain ⟨T27, X27, e27, st27⟩ := getF X26 hx hZ hown (host := "") (Or.inl (hw _ (List.mem_of_getElem? (i := 26) rfl))) Via.refl e26 f24_F_ob_size (g := (mkF m 125 #[.val (.ref ob), .val (.int p1), .val (.int (fP (xa)))] [(.ref ob), (.int (2 : Int32)), (.ref an), (.int (((2 : Int32) * (fP (xa))) + (1 : Int32))), (.ref an)])) rfl rfl (hb hby d6_125)
  refine own_W.step st27 ?_
  show own_W p e (FrameEnd s) below ({ frames := 0, cells := 0, slots := 0, locals := 0 } : Room).cells ({ frames := 0, cells := 0, slots := 0, locals := 0 } : Room).slots (Q6m Z ob p1 ae an ap us nn fE fN fP kk xa pz qz ya yb za zb h0 n0) T27 (mkF m 128 #[.val (.ref ob), .val (.int p1), .val (.int (fP (xa)))] [(.int (us - (1 : Int32))), (.int (2 : Int32)), (.ref an), (.int (((2 : Int32) * (fP (xa))) + (1 : Int32))), (.ref an)])
  refine own_imul X27 hx (hb hby d6_128) (rfl : 128 + 1 = 129) ?_
  refine own_iconst X27 hx (hb hby d6_129) (1 : Int32) (by first | rfl | decide) (rfl : 129 + 1 = 130) ?_
  refine own_iadd X27 hx (hb hby d6_130) (rfl : 130 + 1 = 131) ?_
  have hi28 : own_In (((2 : Int32) * (us - (1 : Int32))) + (1 : Int32)) (2 * qz + 1) (32) := own_I21 (own_Id hk hqz (by decide) (Nat.le_refl _)) (by decide) (by decide)
  refine own_iaload X27 hx hZ e27 U24 hi28 (v := (fN (2 * qz + 1))) (congrArg Value.int (own_up_other _ _ _ _ (by omega))) (g := (mkF m 131 #[.val (.ref ob), .val (.int p1), .val (.int (fP (xa)))] [(.int (((2 : Int32) * (us - (1 : Int32))) + (1 : Int32))), (.ref an), (.int (((2 : Int32) * (fP (xa))) + (1 : Int32))), (.ref an)])) rfl rfl (hb hby d6_131) ?_
  show own_W p e (FrameEnd s) below ({ frames := 0, cells := 0, slots := 0, locals := 0 } : Room).cells ({ frames := 0, cells := 0, slots := 0, locals := 0 } : Room).slots (Q6m Z ob p1 ae an ap us nn fE fN fP kk xa pz qz ya yb za zb h0 n0) T27 (mkF m 132 #[.val (.ref ob), .val (.int p1), .val (.int (fP (xa)))] [(.int (fN (2 * qz + 1))), (.int (((2 : Int32) * (fP (xa))) + (1 : Int32))), (.ref an)])
  have hi29 : own_In (((2 : Int32) * (fP (xa))) + (1 : Int32)) (2 * pz + 1) (32) := own_I21 hpz (by decide) (by decide)
  obtain ⟨T29, h29, X29, e29, W29, V29, st29⟩ := own_stI X27 hx hZ e27 U24 hi29 (g := (mkF m 132 #[.val (.ref ob), .val (.int p1), .val (.int (fP (xa)))] [(.int (fN (2 * qz + 1))), (.int (((2 : Int32) * (fP (xa))) + (1 : Int32))), (.ref an)])) rfl rfl (hb hby d6_132)
  refine own_W.step st29 ?_
  have N29 := Fr.snoc X29 N24 g_an
  have f29_E_ob : Exa Z h29 ob "com/example/handfast/handfast/algorithm/Matching" := f24_E_ob.wr W29
  have f29_F_ob_edges : Fld Z h29 ob "com/example/handfast/handfast/algorithm/Matching" "edges" "[I" (.ref ae) := f24_F_ob_edges.other W29 (Or.inl hne.2.1)
  have f29_F_ob_ends : Fld Z h29 ob "com/example/handfast/handfast/algorithm/Matching" "ends" "[I" (.ref an) := f24_F_ob_ends.other W29 (Or.inl hne.2.1)
  have f29_F_ob_placeAt : Fld Z h29 ob "com/example/handfast/handfast/algorithm/Matching" "placeAt" "[I" (.ref ap) := f24_F_ob_placeAt.other W29 (Or.inl hne.2.1)
  have f29_F_ob_size : Fld Z h29 ob "com/example/handfast/handfast/algorithm/Matching" "size" "I" (.int (us - (1 : Int32))) := f24_F_ob_size.other W29 (Or.inl hne.2.1)
  have f29_F_ob_members : Fld Z h29 ob "com/example/handfast/handfast/algorithm/Matching" "members" "Lcom/example/handfast/handfast/model/NumberSet;" .null := f24_F_ob_members.other W29 (Or.inl hne.2.1)
  have f29_A_ae : own_A Z h29 ae .int (16) (fun z => .int (own_up fE pz (fE (qz)) z)) := f24_A_ae.other W29 hne.2.2.2.1
  have f29_A_ap : own_A Z h29 ap .int (nn) (fun z => .int (own_up (own_up fP ya (-1 : Int32)) yb (-1 : Int32) z)) := f24_A_ap.other W29 (Ne.symm hne.2.2.2.2.2)
  have f29_K : Keep h0 h29 [ob, ae, an, ap] := f24_K.wr W29 (Or.inl (by simp))
  have U29 : own_A Z h29 an .int (32) (fun z => .int (own_up (own_up fN (2 * pz) (fN (2 * qz))) (2 * pz + 1) (fN (2 * qz + 1)) z)) := V29.congr (fun z _ => by unfold own_up; split <;> rfl)
  have z29 : n0 ≤ h29.size := by rw [W29.size]; exact z24
  show own_W p e (FrameEnd s) below ({ frames := 0, cells := 0, slots := 0, locals := 0 } : Room).cells ({ frames := 0, cells := 0, slots := 0, locals := 0 } : Room).slots (Q6m Z ob p1 ae an ap us nn fE fN fP kk xa pz qz ya yb za zb h0 n0) T29 (mkF m 133 #[.val (.ref ob), .val (.int p1), .val (.int (fP (xa)))] [])
  refine own_aloadN X29 hx (hb hby d6_133) (v := (.ref ob)) rfl rfl (rfl : 133 + 1 = 134) ?_
  obtain ⟨T30, X30, e30, st30⟩ := getF X29 hx hZ hown (host := "") (Or.inl (hw _ (List.mem_of_getElem? (i := 15) rfl))) Via.refl e29 f29_F_ob_placeAt (g := (mkF m 134 #[.val (.ref ob), .val (.int p1), .val (.int (fP (xa)))] [(.ref ob)])) rfl rfl (hb hby d6_134)
  refine own_W.step st30 ?_
  show own_W p e (FrameEnd s) below ({ frames := 0, cells := 0, slots := 0, locals := 0 } : Room).cells ({ frames := 0, cells := 0, slots := 0, locals := 0 } : Room).slots (Q6m Z ob p1 ae an ap us nn fE fN fP kk xa pz qz ya yb za zb h0 n0) T30 (mkF m 137 #[.val (.ref ob), .val (.int p1), .val (.int (fP (xa)))] [(.ref ap)])
  refine own_aloadN X30 hx (hb hby d6_137) (v := (.ref ob)) rfl rfl (rfl : 137 + 1 = 138) ?_
  obtain ⟨T31, X31, e31, st31⟩ := getF X30 hx hZ hown (host := "") (Or.inl (hw _ (List.mem_of_getElem? (i := 13) rfl))) Via.refl e30 f29_F_ob_ends (g := (mkF m 138 #[.val (.ref ob), .val (.int p1), .val (.int (fP (xa)))] [(.ref ob), (.ref ap)])) rfl rfl (hb hby d6_138)
  refine own_W.step st31 ?_
  show own_W p e (FrameEnd s) below ({ frames := 0, cells := 0, slots := 0, locals := 0 } : Room).cells ({ frames := 0, cells := 0, slots := 0, locals := 0 } : Room).slots (Q6m Z ob p1 ae an ap us nn fE fN fP kk xa pz qz ya yb za zb h0 n0) T31 (mkF m 141 #[.val (.ref ob), .val (.int p1), .val (.int (fP (xa)))] [(.ref an), (.ref ap)])
  refine own_iconst X31 hx (hb hby d6_141) (2 : Int32) (by first | rfl | decide) (rfl : 141 + 1 = 142) ?_
  refine own_iloadN X31 hx (hb hby d6_142) (v := (fP (xa))) rfl (rfl : 142 + 1 = 143) ?_
  refine own_imul X31 hx (hb hby d6_143) (rfl : 143 + 1 = 144) ?_
  have hi32 : own_In ((2 : Int32) * (fP (xa))) (2 * pz) (32) := own_I2 hpz (by decide) (by decide)
  refine own_iaload X31 hx hZ e31 U29 hi32 (v := (fN (2 * qz))) (congrArg Value.int ((own_up_other _ _ _ _ (by omega)).trans (own_up_same _ _ _))) (g := (mkF m 144 #[.val (.ref ob), .val (.int p1), .val (.int (fP (xa)))] [(.int ((2 : Int32) * (fP (xa)))), (.ref an), (.ref ap)])) rfl rfl (hb hby d6_144) ?_
  show own_W p e (FrameEnd s) below ({ frames := 0, cells := 0, slots := 0, locals := 0 } : Room).cells ({ frames := 0, cells := 0, slots := 0, locals := 0 } : Room).slots (Q6m Z ob p1 ae an ap us nn fE fN fP kk xa pz qz ya yb za zb h0 n0) T31 (mkF m 145 #[.val (.ref ob), .val (.int p1), .val (.int (fP (xa)))] [(.int (fN (2 * qz))), (.ref ap)])
  refine own_iloadN X31 hx (hb hby d6_145) (v := (fP (xa))) rfl (rfl : 145 + 1 = 146) ?_
  have hi33 : own_In (fN (2 * qz)) (za) (nn) := hza
  obtain ⟨T33, h33, X33, e33, W33, V33, st33⟩ := own_stI X31 hx hZ e31 f29_A_ap hi33 (g := (mkF m 146 #[.val (.ref ob), .val (.int p1), .val (.int (fP (xa)))] [(.int (fP (xa))), (.int (fN (2 * qz))), (.ref ap)])) rfl rfl (hb hby d6_146)
  refine own_W.step st33 ?_
  have N33 := Fr.snoc X33 N29 g_ap
  have f33_E_ob : Exa Z h33 ob "com/example/handfast/handfast/algorithm/Matching" := f29_E_ob.wr W33
  have f33_F_ob_edges : Fld Z h33 ob "com/example/handfast/handfast/algorithm/Matching" "edges" "[I" (.ref ae) := f29_F_ob_edges.other W33 (Or.inl hne.2.2.1)
  have f33_F_ob_ends : Fld Z h33 ob "com/example/handfast/handfast/algorithm/Matching" "ends" "[I" (.ref an) := f29_F_ob_ends.other W33 (Or.inl hne.2.2.1)
  have f33_F_ob_placeAt : Fld Z h33 ob "com/example/handfast/handfast/algorithm/Matching" "placeAt" "[I" (.ref ap) := f29_F_ob_placeAt.other W33 (Or.inl hne.2.2.1)
  have f33_F_ob_size : Fld Z h33 ob "com/example/handfast/handfast/algorithm/Matching" "size" "I" (.int (us - (1 : Int32))) := f29_F_ob_size.other W33 (Or.inl hne.2.2.1)
  have f33_F_ob_members : Fld Z h33 ob "com/example/handfast/handfast/algorithm/Matching" "members" "Lcom/example/handfast/handfast/model/NumberSet;" .null := f29_F_ob_members.other W33 (Or.inl hne.2.2.1)
  have f33_A_ae : own_A Z h33 ae .int (16) (fun z => .int (own_up fE pz (fE (qz)) z)) := f29_A_ae.other W33 hne.2.2.2.2.1
  have f33_A_an : own_A Z h33 an .int (32) (fun z => .int (own_up (own_up fN (2 * pz) (fN (2 * qz))) (2 * pz + 1) (fN (2 * qz + 1)) z)) := U29.other W33 hne.2.2.2.2.2
  have f33_K : Keep h0 h33 [ob, ae, an, ap] := f29_K.wr W33 (Or.inl (by simp))
  have U33 : own_A Z h33 ap .int (nn) (fun z => .int (own_up (own_up (own_up fP ya (-1 : Int32)) yb (-1 : Int32)) za (fP (xa)) z)) := V33.congr (fun z _ => by unfold own_up; split <;> rfl)
  have z33 : n0 ≤ h33.size := by rw [W33.size]; exact z29
  show own_W p e (FrameEnd s) below ({ frames := 0, cells := 0, slots := 0, locals := 0 } : Room).cells ({ frames := 0, cells := 0, slots := 0, locals := 0 } : Room).slots (Q6m Z ob p1 ae an ap us nn fE fN fP kk xa pz qz ya yb za zb h0 n0) T33 (mkF m 147 #[.val (.ref ob), .val (.int p1), .val (.int (fP (xa)))] [])
  refine own_aloadN X33 hx (hb hby d6_147) (v := (.ref ob)) rfl rfl (rfl : 147 + 1 = 148) ?_
  obtain ⟨T34, X34, e34, st34⟩ := getF X33 hx hZ hown (host := "") (Or.inl (hw _ (List.mem_of_getElem? (i := 15) rfl))) Via.refl e33 f33_F_ob_placeAt (g := (mkF m 148 #[.val (.ref ob), .val (.int p1), .val (.int (fP (xa)))] [(.ref ob)])) rfl rfl (hb hby d6_148)
  refine own_W.step st34 ?_
  show own_W p e (FrameEnd s) below ({ frames := 0, cells := 0, slots := 0, locals := 0 } : Room).cells ({ frames := 0, cells := 0, slots := 0, locals := 0 } : Room).slots (Q6m Z ob p1 ae an ap us nn fE fN fP kk xa pz qz ya yb za zb h0 n0) T34 (mkF m 151 #[.val (.ref ob), .val (.int p1), .val (.int (fP (xa)))] [(.ref ap)])
  refine own_aloadN X34 hx (hb hby d6_151) (v := (.ref ob)) rfl rfl (rfl : 151 + 1 = 152) ?_
  obtain ⟨T35, X35, e35, st35⟩ := getF X34 hx hZ hown (host := "") (Or.inl (hw _ (List.mem_of_getElem? (i := 13) rfl))) Via.refl e34 f33_F_ob_ends (g := (mkF m 152 #[.val (.ref ob), .val (.int p1), .val (.int (fP (xa)))] [(.ref ob), (.ref ap)])) rfl rfl (hb hby d6_152)
  refine own_W.step st35 ?_
  show own_W p e (FrameEnd s) below ({ frames := 0, cells := 0, slots := 0, locals := 0 } : Room).cells ({ frames := 0, cells := 0, slots := 0, locals := 0 } : Room).slots (Q6m Z ob p1 ae an ap us nn fE fN fP kk xa pz qz ya yb za zb h0 n0) T35 (mkF m 155 #[.val (.ref ob), .val (.int p1), .val (.int (fP (xa)))] [(.ref an), (.ref ap)])
  refine own_iconst X35 hx (hb hby d6_155) (2 : Int32) (by first | rfl | decide) (rfl : 155 + 1 = 156) ?_
  refine own_iloadN X35 hx (hb hby d6_156) (v := (fP (xa))) rfl (rfl : 156 + 1 = 157) ?_
  refine own_imul X35 hx (hb hby d6_157) (rfl : 157 + 1 = 158) ?_
  refine own_iconst X35 hx (hb hby d6_158) (1 : Int32) (by first | rfl | decide) (rfl : 158 + 1 = 159) ?_
  refine own_iadd X35 hx (hb hby d6_159) (rfl : 159 + 1 = 160) ?_
  have hi36 : own_In (((2 : Int32) * (fP (xa))) + (1 : Int32)) (2 * pz + 1) (32) := own_I21 hpz (by decide) (by decide)
  refine own_iaload X35 hx hZ e35 f33_A_an hi36 (v := (fN (2 * qz + 1))) (congrArg Value.int (own_up_same _ _ _)) (g := (mkF m 160 #[.val (.ref ob), .val (.int p1), .val (.int (fP (xa)))] [(.int (((2 : Int32) * (fP (xa))) + (1 : Int32))), (.ref an), (.ref ap)])) rfl rfl (hb hby d6_160) ?_
  show own_W p e (FrameEnd s) below ({ frames := 0, cells := 0, slots := 0, locals := 0 } : Room).cells ({ frames := 0, cells := 0, slots := 0, locals := 0 } : Room).slots (Q6m Z ob p1 ae an ap us nn fE fN fP kk xa pz qz ya yb za zb h0 n0) T35 (mkF m 161 #[.val (.ref ob), .val (.int p1), .val (.int (fP (xa)))] [(.int (fN (2 * qz + 1))), (.ref ap)])
  refine own_iloadN X35 hx (hb hby d6_161) (v := (fP (xa))) rfl (rfl : 161 + 1 = 162) ?_
  have hi37 : own_In (fN (2 * qz + 1)) (zb) (nn) := hzb
  obtain ⟨T37, h37, X37, e37, W37, V37, st37⟩ := own_stI X35 hx hZ e35 U33 hi37 (g := (mkF m 162 #[.val (.ref ob), .val (.int p1), .val (.int (fP (xa)))] [(.int (fP (xa))), (.int (fN (2 * qz + 1))), (.ref ap)])) rfl rfl (hb hby d6_162)
  refine own_W.step st37 ?_
  have N37 := Fr.snoc X37 N33 g_ap
  have f37_E_ob : Exa Z h37 ob "com/example/handfast/handfast/algorithm/Matching" := f33_E_ob.wr W37
  have f37_F_ob_edges : Fld Z h37 ob "com/example/handfast/handfast/algorithm/Matching" "edges" "[I" (.ref ae) := f33_F_ob_edges.other W37 (Or.inl hne.2.2.1)
  have f37_F_ob_ends : Fld Z h37 ob "com/example/handfast/handfast/algorithm/Matching" "ends" "[I" (.ref an) := f33_F_ob_ends.other W37 (Or.inl hne.2.2.1)
  have f37_F_ob_placeAt : Fld Z h37 ob "com/example/handfast/handfast/algorithm/Matching" "placeAt" "[I" (.ref ap) := f33_F_ob_placeAt.other W37 (Or.inl hne.2.2.1)
  have f37_F_ob_size : Fld Z h37 ob "com/example/handfast/handfast/algorithm/Matching" "size" "I" (.int (us - (1 : Int32))) := f33_F_ob_size.other W37 (Or.inl hne.2.2.1)
  have f37_F_ob_members : Fld Z h37 ob "com/example/handfast/handfast/algorithm/Matching" "members" "Lcom/example/handfast/handfast/model/NumberSet;" .null := f33_F_ob_members.other W37 (Or.inl hne.2.2.1)
  have f37_A_ae : own_A Z h37 ae .int (16) (fun z => .int (own_up fE pz (fE (qz)) z)) := f33_A_ae.other W37 hne.2.2.2.2.1
  have f37_A_an : own_A Z h37 an .int (32) (fun z => .int (own_up (own_up fN (2 * pz) (fN (2 * qz))) (2 * pz + 1) (fN (2 * qz + 1)) z)) := f33_A_an.other W37 hne.2.2.2.2.2
  have f37_K : Keep h0 h37 [ob, ae, an, ap] := f33_K.wr W37 (Or.inl (by simp))
  have U37 : own_A Z h37 ap .int (nn) (fun z => .int (own_up (own_up (own_up (own_up fP ya (-1 : Int32)) yb (-1 : Int32)) za (fP (xa))) zb (fP (xa)) z)) := V37.congr (fun z _ => by unfold own_up; split <;> rfl)
  have z37 : n0 ≤ h37.size := by rw [W37.size]; exact z33
  show own_W p e (FrameEnd s) below ({ frames := 0, cells := 0, slots := 0, locals := 0 } : Room).cells ({ frames := 0, cells := 0, slots := 0, locals := 0 } : Room).slots (Q6m Z ob p1 ae an ap us nn fE fN fP kk xa pz qz ya yb za zb h0 n0) T37 (mkF m 163 #[.val (.ref ob), .val (.int p1), .val (.int (fP (xa)))] [])
  refine own_retV X37 hx hlk hret (hb hby d6_163) (by decide) (by decide) ?_
  show Q6m Z ob p1 ae an ap us nn fE fN fP kk xa pz qz ya yb za zb h0 n0 none T37.heap _
  rw [e37]
  exact ⟨rfl, N37, f37_K, f37_E_ob, f37_F_ob_edges, f37_F_ob_ends, f37_F_ob_placeAt, f37_F_ob_size, f37_F_ob_members, f37_A_ae, f37_A_an, U37⟩
theorem own_absym {a b x y : Int32} (h : own_ab a b x y) : own_ab b a x y := by
  rcases h with ⟨h1, h2⟩ | ⟨h1, h2⟩
  · exact Or.inr ⟨h2, h1⟩
  · exact Or.inl ⟨h2, h1⟩
theorem own_pd__I_V : parseMethodDescriptor "(I)V" = some ⟨[.int], none⟩ := by decide +kernel
theorem own_pd__III_V : parseMethodDescriptor "(III)V" = some ⟨[.int, .int, .int], none⟩ := by decide +kernel
theorem own_pd__I_I : parseMethodDescriptor "(I)I" = some ⟨[.int], some .int⟩ := by decide +kernel
theorem own_pn_com_example_handfast_handfast_algorithm_MatchingAtPinLaw : plainName "com/example/handfast/handfast/algorithm/MatchingAtPinLaw" = true := by first | (simp [plainName, overriddenIn]; done) | decide +kernel
theorem ef_0 (m : MethodId) (pr : Int32) (pe1 : Int32) (pe2 : Int32) (pq : Int32) (pm : Int32) (pf : Int32) : entryFrame m #[(.int pr), (.int pe1), (.int pe2), (.int pq), (.int pm), (.int pf)] maxLocals = mkF m 0 #[.val (.int pr), .val (.int pe1), .val (.int pe2), .val (.int pq), .val (.int pm), .val (.int pf), .unset, .unset, .unset, .unset, .unset, .unset, .unset, .unset, .unset, .unset, .unset, .unset, .unset, .unset, .unset, .unset, .unset, .unset, .unset] [] := by first | (simp [entryFrame, mkF, argsToLocals, Value.category, maxLocals]; done) | rfl
def Q0 (Z : State) (pr : Int32) (pe1 : Int32) (pe2 : Int32) (pq : Int32) (pm : Int32) (pf : Int32)  (h0 : Heap) (n0 : Nat) (v : Option Value) (h : Heap) (L : List Loc) : Prop := v = some (.int 1) ∧ Fr n0 L
set_option maxRecDepth 65536 in
set_option maxHeartbeats 40000000 in
theorem rm0 (l : Launch) (Z : State) (a0 : Array Value) (hw : ∀ d ∈ tables_1, d.before a0 Z = true) (ws : List Jvm.Cond) (pr : Int32) (pe1 : Int32) (pe2 : Int32) (pq : Int32) (pm : Int32) (pf : Int32)  (h0 : Heap) (n0 : Nat) (Z0 : n0 ≤ h0.size)  :
    MetFree l x (head1 (Jvm.Cond.code x code maxLocals ret :: ws) room_1) (fun avs U => avs = #[(.int pr), (.int pe1), (.int pe2), (.int pq), (.int pm), (.int pf)] ∧ Z.Warmed39 U.vm ∧ U.heap = h0) (fun _ _ _ _ _ => True) (fun _ U o U' => ∃ v L, o = .returned v ∧ Q0 Z pr pe1 pe2 pq pm pf h0 n0 v U'.heap L ∧ FrameEnd U o U' L room_1.cells room_1.slots) := by
  refine MetFree.of_bodySF (plainFor_of_name own_pn_com_example_handfast_handfast_algorithm_MatchingAtPinLaw) hisR ?_
  intro p e s m args below meth c s₁ Bd hml0 hP hK
  obtain ⟨rfl, hZ, hh⟩ := hP
  have hx := Bd.exec
  have hby := Bd.bytes
  have hml : c.maxLocals = 25 := hml0
  have hown : s.vm.findClass "com/example/handfast/handfast/algorithm/MatchingAtPinLaw" = some m.cls := findClass_of_methodNamed Bd.named
  have hnm := (name_of_methodNamed Bd.named Bd.method).1
  have hlk := Bd.notSynchronized
  have hret := Bd.returns
  have X0 : Stand p l e room_1 s m #[(.int pr), (.int pe1), (.int pe2), (.int pq), (.int pm), (.int pf)] below meth c s₁ [] 0 0 := Stand.of_body Bd
  have e0 : s₁.heap = h0 := by rw [← hh, Bd.state]; rfl
  have N0 := Fr.nil n0
  show own_W p e (FrameEnd s) below room_1.cells room_1.slots (Q0 Z pr pe1 pe2 pq pm pf h0 n0) s₁ (entryFrame m #[(.int pr), (.int pe1), (.int pe2), (.int pq), (.int pm), (.int pf)] maxLocals)
  rw [ef_0]
  refine own_iloadN X0 hx (hb hby at_0) (v := pr) rfl (rfl : 0 + 1 = 1) ?_
  refine own_ldcInt X0 hx hown (mvT hZ (hw _ (List.mem_of_getElem? (i := 0) rfl))) (hb hby at_1) (rfl : 1 + 2 = 3) ?_
  refine own_iand X0 hx (hb hby at_3) (rfl : 3 + 1 = 4) ?_
  refine own_bipush X0 hx (hb hby at_4) (6 : Int32) (by first | rfl | decide) (rfl : 4 + 2 = 6) ?_
  refine own_irem X0 hx (hb hby at_6) (by decide) (rfl : 6 + 1 = 7) ?_
  refine own_istore X0 hx (hb hby at_7) (l' := #[.val (.int pr), .val (.int pe1), .val (.int pe2), .val (.int pq), .val (.int pm), .val (.int pf), .val (.int ((pr &&& (2147483647 : Int32)) % (6 : Int32))), .unset, .unset, .unset, .unset, .unset, .unset, .unset, .unset, .unset, .unset, .unset, .unset, .unset, .unset, .unset, .unset, .unset, .unset]) rfl (rfl : 7 + 2 = 9) ?_
  obtain ⟨rr, hrr⟩ : ∃ z : Int32, z = ((pr &&& (2147483647 : Int32)) % (6 : Int32)) := ⟨_, rfl⟩
  rw [← hrr]
  show own_W p e (FrameEnd s) below room_1.cells room_1.slots (Q0 Z pr pe1 pe2 pq pm pf h0 n0) s₁ (mkF m 9 #[.val (.int pr), .val (.int pe1), .val (.int pe2), .val (.int pq), .val (.int pm), .val (.int pf), .val (.int rr), .unset, .unset, .unset, .unset, .unset, .unset, .unset, .unset, .unset, .unset, .unset, .unset, .unset, .unset, .unset, .unset, .unset, .unset] [])
  refine own_iload X0 hx (hb hby at_9) (v := rr) rfl (rfl : 9 + 2 = 11) ?_
  refine own_istore X0 hx (hb hby at_11) (l' := #[.val (.int pr), .val (.int pe1), .val (.int pe2), .val (.int pq), .val (.int pm), .val (.int pf), .val (.int rr), .val (.int rr), .unset, .unset, .unset, .unset, .unset, .unset, .unset, .unset, .unset, .unset, .unset, .unset, .unset, .unset, .unset, .unset, .unset]) rfl (rfl : 11 + 2 = 13) ?_
  refine own_iload X0 hx (hb hby at_13) (v := rr) rfl (rfl : 13 + 2 = 15) ?_
  refine own_iconst X0 hx (hb hby at_15) (1 : Int32) (by first | rfl | decide) (rfl : 15 + 1 = 16) ?_
  refine own_iadd X0 hx (hb hby at_16) (rfl : 16 + 1 = 17) ?_
  refine own_bipush X0 hx (hb hby at_17) (6 : Int32) (by first | rfl | decide) (rfl : 17 + 2 = 19) ?_
  refine own_irem X0 hx (hb hby at_19) (by decide) (rfl : 19 + 1 = 20) ?_
  refine own_istore X0 hx (hb hby at_20) (l' := #[.val (.int pr), .val (.int pe1), .val (.int pe2), .val (.int pq), .val (.int pm), .val (.int pf), .val (.int rr), .val (.int rr), .val (.int ((rr + (1 : Int32)) % (6 : Int32))), .unset, .unset, .unset, .unset, .unset, .unset, .unset, .unset, .unset, .unset, .unset, .unset, .unset, .unset, .unset, .unset]) rfl (rfl : 20 + 2 = 22) ?_
  obtain ⟨v1, hv1⟩ : ∃ z : Int32, z = ((rr + (1 : Int32)) % (6 : Int32)) := ⟨_, rfl⟩
  rw [← hv1]
  show own_W p e (FrameEnd s) below room_1.cells room_1.slots (Q0 Z pr pe1 pe2 pq pm pf h0 n0) s₁ (mkF m 22 #[.val (.int pr), .val (.int pe1), .val (.int pe2), .val (.int pq), .val (.int pm), .val (.int pf), .val (.int rr), .val (.int rr), .val (.int v1), .unset, .unset, .unset, .unset, .unset, .unset, .unset, .unset, .unset, .unset, .unset, .unset, .unset, .unset, .unset, .unset] [])
  refine own_iload X0 hx (hb hby at_22) (v := rr) rfl (rfl : 22 + 2 = 24) ?_
  refine own_iconst X0 hx (hb hby at_24) (2 : Int32) (by first | rfl | decide) (rfl : 24 + 1 = 25) ?_
  refine own_iadd X0 hx (hb hby at_25) (rfl : 25 + 1 = 26) ?_
  refine own_bipush X0 hx (hb hby at_26) (6 : Int32) (by first | rfl | decide) (rfl : 26 + 2 = 28) ?_
  refine own_irem X0 hx (hb hby at_28) (by decide) (rfl : 28 + 1 = 29) ?_
  refine own_istore X0 hx (hb hby at_29) (l' := #[.val (.int pr), .val (.int pe1), .val (.int pe2), .val (.int pq), .val (.int pm), .val (.int pf), .val (.int rr), .val (.int rr), .val (.int v1), .val (.int ((rr + (2 : Int32)) % (6 : Int32))), .unset, .unset, .unset, .unset, .unset, .unset, .unset, .unset, .unset, .unset, .unset, .unset, .unset, .unset, .unset]) rfl (rfl : 29 + 2 = 31) ?_
  obtain ⟨v2, hv2⟩ : ∃ z : Int32, z = ((rr + (2 : Int32)) % (6 : Int32)) := ⟨_, rfl⟩
  rw [← hv2]
  show own_W p e (FrameEnd s) below room_1.cells room_1.slots (Q0 Z pr pe1 pe2 pq pm pf h0 n0) s₁ (mkF m 31 #[.val (.int pr), .val (.int pe1), .val (.int pe2), .val (.int pq), .val (.int pm), .val (.int pf), .val (.int rr), .val (.int rr), .val (.int v1), .val (.int v2), .unset, .unset, .unset, .unset, .unset, .unset, .unset, .unset, .unset, .unset, .unset, .unset, .unset, .unset, .unset] [])
  refine own_iload X0 hx (hb hby at_31) (v := rr) rfl (rfl : 31 + 2 = 33) ?_
  refine own_iconst X0 hx (hb hby at_33) (3 : Int32) (by first | rfl | decide) (rfl : 33 + 1 = 34) ?_
  refine own_iadd X0 hx (hb hby at_34) (rfl : 34 + 1 = 35) ?_
  refine own_iload X0 hx (hb hby at_35) (v := pf) rfl (rfl : 35 + 2 = 37) ?_
  refine own_iconst X0 hx (hb hby at_37) (2 : Int32) (by first | rfl | decide) (rfl : 37 + 1 = 38) ?_
  refine own_iushr X0 hx (hb hby at_38) (rfl : 38 + 1 = 39) ?_
  refine own_iconst X0 hx (hb hby at_39) (1 : Int32) (by first | rfl | decide) (rfl : 39 + 1 = 40) ?_
  refine own_iand X0 hx (hb hby at_40) (rfl : 40 + 1 = 41) ?_
  refine own_iadd X0 hx (hb hby at_41) (rfl : 41 + 1 = 42) ?_
  refine own_bipush X0 hx (hb hby at_42) (6 : Int32) (by first | rfl | decide) (rfl : 42 + 2 = 44) ?_
  refine own_irem X0 hx (hb hby at_44) (by decide) (rfl : 44 + 1 = 45) ?_
  refine own_istore X0 hx (hb hby at_45) (l' := #[.val (.int pr), .val (.int pe1), .val (.int pe2), .val (.int pq), .val (.int pm), .val (.int pf), .val (.int rr), .val (.int rr), .val (.int v1), .val (.int v2), .val (.int (((rr + (3 : Int32)) + (((pf.toUInt32 >>> ((2 : Int32) &&& 31).toUInt32).toInt32) &&& (1 : Int32))) % (6 : Int32))), .unset, .unset, .unset, .unset, .unset, .unset, .unset, .unset, .unset, .unset, .unset, .unset, .unset, .unset]) rfl (rfl : 45 + 2 = 47) ?_
  obtain ⟨v3, hv3⟩ : ∃ z : Int32, z = (((rr + (3 : Int32)) + (((pf.toUInt32 >>> ((2 : Int32) &&& 31).toUInt32).toInt32) &&& (1 : Int32))) % (6 : Int32)) := ⟨_, rfl⟩
  rw [← hv3]
  show own_W p e (FrameEnd s) below room_1.cells room_1.slots (Q0 Z pr pe1 pe2 pq pm pf h0 n0) s₁ (mkF m 47 #[.val (.int pr), .val (.int pe1), .val (.int pe2), .val (.int pq), .val (.int pm), .val (.int pf), .val (.int rr), .val (.int rr), .val (.int v1), .val (.int v2), .val (.int v3), .unset, .unset, .unset, .unset, .unset, .unset, .unset, .unset, .unset, .unset, .unset, .unset, .unset, .unset] [])
  refine own_iload X0 hx (hb hby at_47) (v := pf) rfl (rfl : 47 + 2 = 49) ?_
  refine own_iconst X0 hx (hb hby at_49) (1 : Int32) (by first | rfl | decide) (rfl : 49 + 1 = 50) ?_
  refine own_iand X0 hx (hb hby at_50) (rfl : 50 + 1 = 51) ?_
  have J59 : ∀ (w1 : Int32), own_W p e (FrameEnd s) below room_1.cells room_1.slots (Q0 Z pr pe1 pe2 pq pm pf h0 n0) s₁ (mkF m 59 #[.val (.int pr), .val (.int pe1), .val (.int pe2), .val (.int pq), .val (.int pm), .val (.int pf), .val (.int rr), .val (.int rr), .val (.int v1), .val (.int v2), .val (.int v3), .unset, .unset, .unset, .unset, .unset, .unset, .unset, .unset, .unset, .unset, .unset, .unset, .unset, .unset] [(.int w1)]) := by
    intro w1 
    refine own_istore X0 hx (hb hby at_59) (l' := #[.val (.int pr), .val (.int pe1), .val (.int pe2), .val (.int pq), .val (.int pm), .val (.int pf), .val (.int rr), .val (.int rr), .val (.int v1), .val (.int v2), .val (.int v3), .val (.int w1), .unset, .unset, .unset, .unset, .unset, .unset, .unset, .unset, .unset, .unset, .unset, .unset, .unset]) rfl (rfl : 59 + 2 = 61) ?_
    refine own_iload X0 hx (hb hby at_61) (v := pf) rfl (rfl : 61 + 2 = 63) ?_
    refine own_iconst X0 hx (hb hby at_63) (1 : Int32) (by first | rfl | decide) (rfl : 63 + 1 = 64) ?_
    refine own_iushr X0 hx (hb hby at_64) (rfl : 64 + 1 = 65) ?_
    refine own_iconst X0 hx (hb hby at_65) (1 : Int32) (by first | rfl | decide) (rfl : 65 + 1 = 66) ?_
    refine own_iand X0 hx (hb hby at_66) (rfl : 66 + 1 = 67) ?_
    have J75 : ∀ (w2 : Int32), own_W p e (FrameEnd s) below room_1.cells room_1.slots (Q0 Z pr pe1 pe2 pq pm pf h0 n0) s₁ (mkF m 75 #[.val (.int pr), .val (.int pe1), .val (.int pe2), .val (.int pq), .val (.int pm), .val (.int pf), .val (.int rr), .val (.int rr), .val (.int v1), .val (.int v2), .val (.int v3), .val (.int w1), .unset, .unset, .unset, .unset, .unset, .unset, .unset, .unset, .unset, .unset, .unset, .unset, .unset] [(.int w2)]) := by
      intro w2 
      refine own_istore X0 hx (hb hby at_75) (l' := #[.val (.int pr), .val (.int pe1), .val (.int pe2), .val (.int pq), .val (.int pm), .val (.int pf), .val (.int rr), .val (.int rr), .val (.int v1), .val (.int v2), .val (.int v3), .val (.int w1), .val (.int w2), .unset, .unset, .unset, .unset, .unset, .unset, .unset, .unset, .unset, .unset, .unset, .unset]) rfl (rfl : 75 + 2 = 77) ?_
      refine own_iload X0 hx (hb hby at_77) (v := w1) rfl (rfl : 77 + 2 = 79) ?_
      have J89 : ∀ (a1 : Int32), ∀ (ha1 : a1 = if w1 = (0 : Int32) then rr else v1), own_W p e (FrameEnd s) below room_1.cells room_1.slots (Q0 Z pr pe1 pe2 pq pm pf h0 n0) s₁ (mkF m 89 #[.val (.int pr), .val (.int pe1), .val (.int pe2), .val (.int pq), .val (.int pm), .val (.int pf), .val (.int rr), .val (.int rr), .val (.int v1), .val (.int v2), .val (.int v3), .val (.int w1), .val (.int w2), .unset, .unset, .unset, .unset, .unset, .unset, .unset, .unset, .unset, .unset, .unset, .unset] [(.int a1)]) := by
        intro a1 ha1
        refine own_istore X0 hx (hb hby at_89) (l' := #[.val (.int pr), .val (.int pe1), .val (.int pe2), .val (.int pq), .val (.int pm), .val (.int pf), .val (.int rr), .val (.int rr), .val (.int v1), .val (.int v2), .val (.int v3), .val (.int w1), .val (.int w2), .val (.int a1), .unset, .unset, .unset, .unset, .unset, .unset, .unset, .unset, .unset, .unset, .unset]) rfl (rfl : 89 + 2 = 91) ?_
        refine own_iload X0 hx (hb hby at_91) (v := w1) rfl (rfl : 91 + 2 = 93) ?_
        have J103 : ∀ (b1 : Int32), ∀ (hb1 : b1 = if w1 = (0 : Int32) then v1 else rr), own_W p e (FrameEnd s) below room_1.cells room_1.slots (Q0 Z pr pe1 pe2 pq pm pf h0 n0) s₁ (mkF m 103 #[.val (.int pr), .val (.int pe1), .val (.int pe2), .val (.int pq), .val (.int pm), .val (.int pf), .val (.int rr), .val (.int rr), .val (.int v1), .val (.int v2), .val (.int v3), .val (.int w1), .val (.int w2), .val (.int a1), .unset, .unset, .unset, .unset, .unset, .unset, .unset, .unset, .unset, .unset, .unset] [(.int b1)]) := by
          intro b1 hb1
          refine own_istore X0 hx (hb hby at_103) (l' := #[.val (.int pr), .val (.int pe1), .val (.int pe2), .val (.int pq), .val (.int pm), .val (.int pf), .val (.int rr), .val (.int rr), .val (.int v1), .val (.int v2), .val (.int v3), .val (.int w1), .val (.int w2), .val (.int a1), .val (.int b1), .unset, .unset, .unset, .unset, .unset, .unset, .unset, .unset, .unset, .unset]) rfl (rfl : 103 + 2 = 105) ?_
          refine own_iload X0 hx (hb hby at_105) (v := w2) rfl (rfl : 105 + 2 = 107) ?_
          have J117 : ∀ (a2 : Int32), ∀ (ha2 : a2 = if w2 = (0 : Int32) then v2 else v3), own_W p e (FrameEnd s) below room_1.cells room_1.slots (Q0 Z pr pe1 pe2 pq pm pf h0 n0) s₁ (mkF m 117 #[.val (.int pr), .val (.int pe1), .val (.int pe2), .val (.int pq), .val (.int pm), .val (.int pf), .val (.int rr), .val (.int rr), .val (.int v1), .val (.int v2), .val (.int v3), .val (.int w1), .val (.int w2), .val (.int a1), .val (.int b1), .unset, .unset, .unset, .unset, .unset, .unset, .unset, .unset, .unset, .unset] [(.int a2)]) := by
            intro a2 ha2
            refine own_istore X0 hx (hb hby at_117) (l' := #[.val (.int pr), .val (.int pe1), .val (.int pe2), .val (.int pq), .val (.int pm), .val (.int pf), .val (.int rr), .val (.int rr), .val (.int v1), .val (.int v2), .val (.int v3), .val (.int w1), .val (.int w2), .val (.int a1), .val (.int b1), .val (.int a2), .unset, .unset, .unset, .unset, .unset, .unset, .unset, .unset, .unset]) rfl (rfl : 117 + 2 = 119) ?_
            refine own_iload X0 hx (hb hby at_119) (v := w2) rfl (rfl : 119 + 2 = 121) ?_
            have J131 : ∀ (b2 : Int32), ∀ (hb2 : b2 = if w2 = (0 : Int32) then v3 else v2), own_W p e (FrameEnd s) below room_1.cells room_1.slots (Q0 Z pr pe1 pe2 pq pm pf h0 n0) s₁ (mkF m 131 #[.val (.int pr), .val (.int pe1), .val (.int pe2), .val (.int pq), .val (.int pm), .val (.int pf), .val (.int rr), .val (.int rr), .val (.int v1), .val (.int v2), .val (.int v3), .val (.int w1), .val (.int w2), .val (.int a1), .val (.int b1), .val (.int a2), .unset, .unset, .unset, .unset, .unset, .unset, .unset, .unset, .unset] [(.int b2)]) := by
              intro b2 hb2
              refine own_istore X0 hx (hb hby at_131) (l' := #[.val (.int pr), .val (.int pe1), .val (.int pe2), .val (.int pq), .val (.int pm), .val (.int pf), .val (.int rr), .val (.int rr), .val (.int v1), .val (.int v2), .val (.int v3), .val (.int w1), .val (.int w2), .val (.int a1), .val (.int b1), .val (.int a2), .val (.int b2), .unset, .unset, .unset, .unset, .unset, .unset, .unset, .unset]) rfl (rfl : 131 + 2 = 133) ?_
              have brr := own_rr pr
              rw [← hrr] at brr
              have e1v : v1.toInt = (rr.toInt + 1) % 6 := by rw [hv1]; exact own_v rr 1 brr (by decide)
              have e2v : v2.toInt = (rr.toInt + 2) % 6 := by rw [hv2]; exact own_v rr 2 brr (by decide)
              have e3v : v3.toInt = (rr.toInt + 3) % 6 ∨ v3.toInt = (rr.toInt + 4) % 6 := by rw [hv3]; exact own_v3 rr _ brr
              have ab1 : own_ab a1 b1 rr v1 := by
                rw [ha1, hb1]
                by_cases q : w1 = (0 : Int32)
                · simp only [if_pos q]; exact Or.inl ⟨rfl, rfl⟩
                · simp only [if_neg q]; exact Or.inr ⟨rfl, rfl⟩
              have ab2 : own_ab a2 b2 v2 v3 := by
                rw [ha2, hb2]
                by_cases q : w2 = (0 : Int32)
                · simp only [if_pos q]; exact Or.inl ⟨rfl, rfl⟩
                · simp only [if_neg q]; exact Or.inr ⟨rfl, rfl⟩
              have D : own_D a1.toInt b1.toInt a2.toInt b2.toInt := by
                rcases ab1 with ⟨x1, x2⟩ | ⟨x1, x2⟩ <;> rcases ab2 with ⟨x3, x4⟩ | ⟨x3, x4⟩ <;> rw [x1, x2, x3, x4] <;> unfold own_D <;> omega
              obtain ⟨d1, d2, d3, d4, d5, d6, d7, d8, d9, d10⟩ := D
              have i1 := own_in_of (n := 6) d1.1 d1.2
              have i2 := own_in_of (n := 6) d2.1 d2.2
              have i3 := own_in_of (n := 6) d3.1 d3.2
              have i4 := own_in_of (n := 6) d4.1 d4.2
              refine own_iloadN X0 hx (hb hby at_133) (v := pq) rfl (rfl : 133 + 1 = 134) ?_
              refine own_ldcInt X0 hx hown (mvT hZ (hw _ (List.mem_of_getElem? (i := 0) rfl))) (hb hby at_134) (rfl : 134 + 2 = 136) ?_
              refine own_iand X0 hx (hb hby at_136) (rfl : 136 + 1 = 137) ?_
              refine own_bipush X0 hx (hb hby at_137) (6 : Int32) (by first | rfl | decide) (rfl : 137 + 2 = 139) ?_
              refine own_irem X0 hx (hb hby at_139) (by decide) (rfl : 139 + 1 = 140) ?_
              refine own_istore X0 hx (hb hby at_140) (l' := #[.val (.int pr), .val (.int pe1), .val (.int pe2), .val (.int pq), .val (.int pm), .val (.int pf), .val (.int rr), .val (.int rr), .val (.int v1), .val (.int v2), .val (.int v3), .val (.int w1), .val (.int w2), .val (.int a1), .val (.int b1), .val (.int a2), .val (.int b2), .val (.int ((pq &&& (2147483647 : Int32)) % (6 : Int32))), .unset, .unset, .unset, .unset, .unset, .unset, .unset]) rfl (rfl : 140 + 2 = 142) ?_
              obtain ⟨qq, hqq⟩ : ∃ z : Int32, z = ((pq &&& (2147483647 : Int32)) % (6 : Int32)) := ⟨_, rfl⟩
              rw [← hqq]
              show own_W p e (FrameEnd s) below room_1.cells room_1.slots (Q0 Z pr pe1 pe2 pq pm pf h0 n0) s₁ (mkF m 142 #[.val (.int pr), .val (.int pe1), .val (.int pe2), .val (.int pq), .val (.int pm), .val (.int pf), .val (.int rr), .val (.int rr), .val (.int v1), .val (.int v2), .val (.int v3), .val (.int w1), .val (.int w2), .val (.int a1), .val (.int b1), .val (.int a2), .val (.int b2), .val (.int qq), .unset, .unset, .unset, .unset, .unset, .unset, .unset] [])
              have bqq := own_rr pq
              rw [← hqq] at bqq
              refine own_iload X0 hx (hb hby at_142) (v := pm) rfl (rfl : 142 + 2 = 144) ?_
              refine own_iconst X0 hx (hb hby at_144) (3 : Int32) (by first | rfl | decide) (rfl : 144 + 1 = 145) ?_
              refine own_iand X0 hx (hb hby at_145) (rfl : 145 + 1 = 146) ?_
              refine own_istore X0 hx (hb hby at_146) (l' := #[.val (.int pr), .val (.int pe1), .val (.int pe2), .val (.int pq), .val (.int pm), .val (.int pf), .val (.int rr), .val (.int rr), .val (.int v1), .val (.int v2), .val (.int v3), .val (.int w1), .val (.int w2), .val (.int a1), .val (.int b1), .val (.int a2), .val (.int b2), .val (.int qq), .val (.int (pm &&& (3 : Int32))), .unset, .unset, .unset, .unset, .unset, .unset]) rfl (rfl : 146 + 2 = 148) ?_
              obtain ⟨md, hmd⟩ : ∃ z : Int32, z = (pm &&& (3 : Int32)) := ⟨_, rfl⟩
              rw [← hmd]
              show own_W p e (FrameEnd s) below room_1.cells room_1.slots (Q0 Z pr pe1 pe2 pq pm pf h0 n0) s₁ (mkF m 148 #[.val (.int pr), .val (.int pe1), .val (.int pe2), .val (.int pq), .val (.int pm), .val (.int pf), .val (.int rr), .val (.int rr), .val (.int v1), .val (.int v2), .val (.int v3), .val (.int w1), .val (.int w2), .val (.int a1), .val (.int b1), .val (.int a2), .val (.int b2), .val (.int qq), .val (.int md), .unset, .unset, .unset, .unset, .unset, .unset] [])
              have hmd4 : md = (0 : Int32) ∨ md = (1 : Int32) ∨ md = (2 : Int32) ∨ md = (3 : Int32) := by rw [hmd]; exact own_md pm
              refine own_iload X0 hx (hb hby at_148) (v := pf) rfl (rfl : 148 + 2 = 150) ?_
              refine own_iconst X0 hx (hb hby at_150) (3 : Int32) (by first | rfl | decide) (rfl : 150 + 1 = 151) ?_
              refine own_iushr X0 hx (hb hby at_151) (rfl : 151 + 1 = 152) ?_
              refine own_iconst X0 hx (hb hby at_152) (1 : Int32) (by first | rfl | decide) (rfl : 152 + 1 = 153) ?_
              refine own_iand X0 hx (hb hby at_153) (rfl : 153 + 1 = 154) ?_
              have J162 : ∀ (vi : Int32), own_W p e (FrameEnd s) below room_1.cells room_1.slots (Q0 Z pr pe1 pe2 pq pm pf h0 n0) s₁ (mkF m 162 #[.val (.int pr), .val (.int pe1), .val (.int pe2), .val (.int pq), .val (.int pm), .val (.int pf), .val (.int rr), .val (.int rr), .val (.int v1), .val (.int v2), .val (.int v3), .val (.int w1), .val (.int w2), .val (.int a1), .val (.int b1), .val (.int a2), .val (.int b2), .val (.int qq), .val (.int md), .unset, .unset, .unset, .unset, .unset, .unset] [(.int vi)]) := by
                intro vi 
                refine own_istore X0 hx (hb hby at_162) (l' := #[.val (.int pr), .val (.int pe1), .val (.int pe2), .val (.int pq), .val (.int pm), .val (.int pf), .val (.int rr), .val (.int rr), .val (.int v1), .val (.int v2), .val (.int v3), .val (.int w1), .val (.int w2), .val (.int a1), .val (.int b1), .val (.int a2), .val (.int b2), .val (.int qq), .val (.int md), .val (.int vi), .unset, .unset, .unset, .unset, .unset]) rfl (rfl : 162 + 2 = 164) ?_
                refine own_iload X0 hx (hb hby at_164) (v := pf) rfl (rfl : 164 + 2 = 166) ?_
                refine own_iconst X0 hx (hb hby at_166) (4 : Int32) (by first | rfl | decide) (rfl : 166 + 1 = 167) ?_
                refine own_iushr X0 hx (hb hby at_167) (rfl : 167 + 1 = 168) ?_
                refine own_iconst X0 hx (hb hby at_168) (1 : Int32) (by first | rfl | decide) (rfl : 168 + 1 = 169) ?_
                refine own_iand X0 hx (hb hby at_169) (rfl : 169 + 1 = 170) ?_
                have J178 : ∀ (rd : Int32), own_W p e (FrameEnd s) below room_1.cells room_1.slots (Q0 Z pr pe1 pe2 pq pm pf h0 n0) s₁ (mkF m 178 #[.val (.int pr), .val (.int pe1), .val (.int pe2), .val (.int pq), .val (.int pm), .val (.int pf), .val (.int rr), .val (.int rr), .val (.int v1), .val (.int v2), .val (.int v3), .val (.int w1), .val (.int w2), .val (.int a1), .val (.int b1), .val (.int a2), .val (.int b2), .val (.int qq), .val (.int md), .val (.int vi), .unset, .unset, .unset, .unset, .unset] [(.int rd)]) := by
                  intro rd 
                  refine own_istore X0 hx (hb hby at_178) (l' := #[.val (.int pr), .val (.int pe1), .val (.int pe2), .val (.int pq), .val (.int pm), .val (.int pf), .val (.int rr), .val (.int rr), .val (.int v1), .val (.int v2), .val (.int v3), .val (.int w1), .val (.int w2), .val (.int a1), .val (.int b1), .val (.int a2), .val (.int b2), .val (.int qq), .val (.int md), .val (.int vi), .val (.int rd), .unset, .unset, .unset, .unset]) rfl (rfl : 178 + 2 = 180) ?_
                  obtain ⟨T1, h1, X1, e1, E1, A1, D1, -, st1⟩ := newO X0 hx hZ hown (hw _ (List.mem_of_getElem? (i := 1) rfl)) (hw _ (List.mem_of_getElem? (i := 2) rfl)) (hw _ (List.mem_of_getElem? (i := 3) rfl)) e0 (g := (mkF m 180 #[.val (.int pr), .val (.int pe1), .val (.int pe2), .val (.int pq), .val (.int pm), .val (.int pf), .val (.int rr), .val (.int rr), .val (.int v1), .val (.int v2), .val (.int v3), .val (.int w1), .val (.int w2), .val (.int a1), .val (.int b1), .val (.int a2), .val (.int b2), .val (.int qq), .val (.int md), .val (.int vi), .val (.int rd), .unset, .unset, .unset, .unset] [])) rfl (hb hby at_180) (by decide) (by decide)
                  obtain ⟨mt, g1⟩ : ∃ z, z = h0.size := ⟨_, rfl⟩
                  rw [← g1] at A1 D1 st1
                  refine own_W.step st1 ?_
                  have g_mt : n0 ≤ mt := Nat.le_trans Z0 (Nat.le_of_eq g1.symm)
                  have z1 : n0 ≤ h1.size := Nat.le_trans Z0 E1.1
                  have F1_edges : Fld Z h1 mt "com/example/handfast/handfast/algorithm/Matching" "edges" "[I" .null := D1 (Or.inl (hw _ (List.mem_of_getElem? (i := 12) rfl))) (ty := (.array .int)) (by decide)
                  have F1_ends : Fld Z h1 mt "com/example/handfast/handfast/algorithm/Matching" "ends" "[I" .null := D1 (Or.inl (hw _ (List.mem_of_getElem? (i := 14) rfl))) (ty := (.array .int)) (by decide)
                  have F1_placeAt : Fld Z h1 mt "com/example/handfast/handfast/algorithm/Matching" "placeAt" "[I" .null := D1 (Or.inr (hw _ (List.mem_of_getElem? (i := 16) rfl))) (ty := (.array .int)) (by decide)
                  have F1_size : Fld Z h1 mt "com/example/handfast/handfast/algorithm/Matching" "size" "I" (.int (0 : Int32)) := D1 (Or.inl (hw _ (List.mem_of_getElem? (i := 27) rfl))) (ty := .int) (by decide)
                  have F1_members : Fld Z h1 mt "com/example/handfast/handfast/algorithm/Matching" "members" "Lcom/example/handfast/handfast/model/NumberSet;" .null := D1 (Or.inl (hw _ (List.mem_of_getElem? (i := 29) rfl))) (ty := (.object "com/example/handfast/handfast/model/NumberSet")) (by decide)
                  show own_W p e (FrameEnd s) below room_1.cells room_1.slots (Q0 Z pr pe1 pe2 pq pm pf h0 n0) T1 (mkF m 183 #[.val (.int pr), .val (.int pe1), .val (.int pe2), .val (.int pq), .val (.int pm), .val (.int pf), .val (.int rr), .val (.int rr), .val (.int v1), .val (.int v2), .val (.int v3), .val (.int w1), .val (.int w2), .val (.int a1), .val (.int b1), .val (.int a2), .val (.int b2), .val (.int qq), .val (.int md), .val (.int vi), .val (.int rd), .unset, .unset, .unset, .unset] [(.ref mt)])
                  refine own_dup X1 hx (hb hby at_183) rfl (rfl : 183 + 1 = 184) ?_
                  refine own_bipush X1 hx (hb hby at_184) (6 : Int32) (by first | rfl | decide) (rfl : 184 + 2 = 186) ?_
                  obtain ⟨_, _, ⟨T2, L2, k2, n2⟩, -, X2, ⟨Lc2, hQ2, l2, y2, z2⟩, st2⟩ := X1.specialBack hx (y := (⟨"com/example/handfast/handfast/algorithm/Matching", "<init>", "(I)V"⟩ : MethodName)) rfl hown (mvT hZ (hw _ (List.mem_of_getElem? (i := 4) rfl))) (mvT hZ (hw _ (List.mem_of_getElem? (i := 5) rfl))) (mvT hZ (hw _ (List.mem_of_getElem? (i := 6) rfl))) (by decide) (backOf (W := 1) (rm1 l Z a0 hw [] mt (6 : Int32) 6 h1 n0 z1 A1 F1_edges F1_ends F1_placeAt F1_size F1_members g_mt (⟨by decide, by decide⟩) (by decide)) hZ (hw _ (List.mem_of_getElem? (i := 6) rfl)) (hw _ (List.mem_of_getElem? (i := 3) rfl)) (by decide) (by decide)) (g := (mkF m 186 #[.val (.int pr), .val (.int pe1), .val (.int pe2), .val (.int pq), .val (.int pm), .val (.int pf), .val (.int rr), .val (.int rr), .val (.int v1), .val (.int v2), .val (.int v3), .val (.int w1), .val (.int w2), .val (.int a1), .val (.int b1), .val (.int a2), .val (.int b2), .val (.int qq), .val (.int md), .val (.int vi), .val (.int rd), .unset, .unset, .unset, .unset] [(.int (6 : Int32)), (.ref mt), (.ref mt)])) rfl (by rw [hml]; rfl) (Steps.refl _) (a := mt) (argsL := [(.int (6 : Int32))]) (rest := [(.ref mt)]) (lenOf own_pd__I_V rfl) rfl (by show 2 * 0 + _ ≤ _; exact Nat.le_of_eq rfl) (hb hby at_186) (fun _ _ => ⟨rfl, e1, (by decide : 1 + 3 ≤ _), (by decide : 5 + 54 ≤ _)⟩)
                  dsimp only [Pt.U, Pt.locs, Pt.cells, Pt.slots] at X2 l2 y2 z2 st2 hQ2
                  subst l2 y2 z2
                  obtain ⟨ae2, an2, ap2, rfl, N2q, K2, sz2_ae, sz2_an, sz2_ap, fq2_0, fq2_1, fq2_2, fq2_3, fq2_4, fq2_5, fq2_6, fq2_7, fq2_8, hne_2⟩ := hQ2
                  have N2 := Fr.app N0 N2q
                  have ne_mt_ae2 : mt ≠ ae2 := Nat.ne_of_lt (Nat.lt_of_lt_of_le A1.lt sz2_ae)
                  have g_ae2 : n0 ≤ ae2 := Nat.le_trans z1 sz2_ae
                  have ne_mt_an2 : mt ≠ an2 := Nat.ne_of_lt (Nat.lt_of_lt_of_le A1.lt sz2_an)
                  have g_an2 : n0 ≤ an2 := Nat.le_trans z1 sz2_an
                  have ne_mt_ap2 : mt ≠ ap2 := Nat.ne_of_lt (Nat.lt_of_lt_of_le A1.lt sz2_ap)
                  have g_ap2 : n0 ≤ ap2 := Nat.le_trans z1 sz2_ap
                  have f2_E_mt : Exa Z T2.heap mt "com/example/handfast/handfast/algorithm/Matching" := A1.keep K2
                  have z2c : n0 ≤ T2.heap.size := Nat.le_trans z1 K2.1
                  refine own_W.steps st2 ?_
                  show own_W p e (FrameEnd s) below room_1.cells room_1.slots (Q0 Z pr pe1 pe2 pq pm pf h0 n0) T2 (mkF m 189 #[.val (.int pr), .val (.int pe1), .val (.int pe2), .val (.int pq), .val (.int pm), .val (.int pf), .val (.int rr), .val (.int rr), .val (.int v1), .val (.int v2), .val (.int v3), .val (.int w1), .val (.int w2), .val (.int a1), .val (.int b1), .val (.int a2), .val (.int b2), .val (.int qq), .val (.int md), .val (.int vi), .val (.int rd), .unset, .unset, .unset, .unset] [(.ref mt)])
                  refine own_astore X2 hx (hb hby at_189) (l' := #[.val (.int pr), .val (.int pe1), .val (.int pe2), .val (.int pq), .val (.int pm), .val (.int pf), .val (.int rr), .val (.int rr), .val (.int v1), .val (.int v2), .val (.int v3), .val (.int w1), .val (.int w2), .val (.int a1), .val (.int b1), .val (.int a2), .val (.int b2), .val (.int qq), .val (.int md), .val (.int vi), .val (.int rd), .val (.ref mt), .unset, .unset, .unset]) rfl rfl (rfl : 189 + 2 = 191) ?_
                  refine own_aload X2 hx (hb hby at_191) (v := (.ref mt)) rfl rfl (rfl : 191 + 2 = 193) ?_
                  refine own_iloadN X2 hx (hb hby at_193) (v := pe1) rfl (rfl : 193 + 1 = 194) ?_
                  refine own_iload X2 hx (hb hby at_194) (v := a1) rfl (rfl : 194 + 2 = 196) ?_
                  refine own_iload X2 hx (hb hby at_196) (v := b1) rfl (rfl : 196 + 2 = 198) ?_
                  obtain ⟨cq3, kq3, q3a, q3b, q3c⟩ := isOf hZ rfl fq2_0
                  obtain ⟨_, _, ⟨T3, L3, k3, n3⟩, -, X3, ⟨Lc3, hQ3, l3, y3, z3⟩, st3⟩ := X2.virtualBack hx (y := (⟨"com/example/handfast/handfast/algorithm/Matching", "add", "(III)V"⟩ : MethodName)) (z := (⟨"com/example/handfast/handfast/algorithm/Matching", "add", "(III)V"⟩ : MethodName)) hown (mvT hZ (hw _ (List.mem_of_getElem? (i := 21) rfl))) (mvT hZ (hw _ (List.mem_of_getElem? (i := 22) rfl))) (notFace_of_selects (args := #[]) (mvT hZ (hw _ (List.mem_of_getElem? (i := 24) rfl)))) (mvT hZ (hw _ (List.mem_of_getElem? (i := 24) rfl))) (mvT hZ (hw _ (List.mem_of_getElem? (i := 23) rfl))) (by decide) (backOf (W := 0) (rm4 l Z a0 hw [] mt pe1 a1 b1 ae2 an2 ap2 (0 : Int32) (6) own_k0 own_k0 (own_cst (-1 : Int32)) 0 (a1.toInt.toNat) (b1.toInt.toNat) T2.heap n0 z2c fq2_0 fq2_1 fq2_2 fq2_3 fq2_4 fq2_5 fq2_6 fq2_7 fq2_8 g_mt g_ae2 g_an2 g_ap2 (hne_2) (⟨by decide, by decide⟩) (i1) (i2)) hZ (hw _ (List.mem_of_getElem? (i := 25) rfl)) (hw _ (List.mem_of_getElem? (i := 3) rfl)) (by decide) (by decide)) q3a q3c (g := (mkF m 198 #[.val (.int pr), .val (.int pe1), .val (.int pe2), .val (.int pq), .val (.int pm), .val (.int pf), .val (.int rr), .val (.int rr), .val (.int v1), .val (.int v2), .val (.int v3), .val (.int w1), .val (.int w2), .val (.int a1), .val (.int b1), .val (.int a2), .val (.int b2), .val (.int qq), .val (.int md), .val (.int vi), .val (.int rd), .val (.ref mt), .unset, .unset, .unset] [(.int b1), (.int a1), (.int pe1), (.ref mt)])) rfl (by rw [hml]; rfl) (Steps.refl _) (argsL := [(.int pe1), (.int a1), (.int b1)]) (rest := []) (lenOf own_pd__III_V rfl) rfl (by show 2 * 0 + _ ≤ _; exact Nat.le_of_eq rfl) (hb hby at_198) (fun _ _ => ⟨rfl, rfl, (by decide : 4 + 0 ≤ _), (by decide : 59 + 0 ≤ _)⟩)
                  dsimp only [Pt.U, Pt.locs, Pt.cells, Pt.slots] at X3 l3 y3 z3 st3 hQ3
                  subst l3 y3 z3
                  obtain ⟨rfl, N3q, K3, fq3_0, fq3_1, fq3_2, fq3_3, fq3_4, fq3_5, fq3_6, fq3_7, fq3_8⟩ := hQ3
                  have N3 := Fr.app N2 N3q
                  have f3_E_mt : Exa Z T3.heap mt "com/example/handfast/handfast/algorithm/Matching" := fq2_0.keep K3
                  have z3c : n0 ≤ T3.heap.size := Nat.le_trans z2c K3.1
                  refine own_W.steps st3 ?_
                  show own_W p e (FrameEnd s) below room_1.cells room_1.slots (Q0 Z pr pe1 pe2 pq pm pf h0 n0) T3 (mkF m 201 #[.val (.int pr), .val (.int pe1), .val (.int pe2), .val (.int pq), .val (.int pm), .val (.int pf), .val (.int rr), .val (.int rr), .val (.int v1), .val (.int v2), .val (.int v3), .val (.int w1), .val (.int w2), .val (.int a1), .val (.int b1), .val (.int a2), .val (.int b2), .val (.int qq), .val (.int md), .val (.int vi), .val (.int rd), .val (.ref mt), .unset, .unset, .unset] [])
                  obtain ⟨usa, fEa, fNa, fPa, hSa, hma_0, hma_1, hma_2, hma_3⟩ : ∃ (usa : Int32) (fEa fNa fPa : Nat → Int32), own_S1 ((6)) usa fEa fNa fPa pe1 a1 b1 ∧ (Fld Z T3.heap mt "com/example/handfast/handfast/algorithm/Matching" "size" "I" (.int usa)) ∧ (own_A Z T3.heap ae2 .int (16) (fun z => .int (fEa z))) ∧ (own_A Z T3.heap an2 .int (32) (fun z => .int (fNa z))) ∧ (own_A Z T3.heap ap2 .int ((6)) (fun z => .int (fPa z))) := ⟨_, _, _, _, own_add0 (own_s0 6) pe1 a1 b1 i1 i2, fq3_4, fq3_6, fq3_7, fq3_8⟩
                  refine own_aload X3 hx (hb hby at_201) (v := (.ref mt)) rfl rfl (rfl : 201 + 2 = 203) ?_
                  refine own_iloadN X3 hx (hb hby at_203) (v := pe2) rfl (rfl : 203 + 1 = 204) ?_
                  refine own_iload X3 hx (hb hby at_204) (v := a2) rfl (rfl : 204 + 2 = 206) ?_
                  refine own_iload X3 hx (hb hby at_206) (v := b2) rfl (rfl : 206 + 2 = 208) ?_
                  obtain ⟨cq4, kq4, q4a, q4b, q4c⟩ := isOf hZ rfl fq3_0
                  obtain ⟨_, _, ⟨T4, L4, k4, n4⟩, -, X4, ⟨Lc4, hQ4, l4, y4, z4⟩, st4⟩ := X3.virtualBack hx (y := (⟨"com/example/handfast/handfast/algorithm/Matching", "add", "(III)V"⟩ : MethodName)) (z := (⟨"com/example/handfast/handfast/algorithm/Matching", "add", "(III)V"⟩ : MethodName)) hown (mvT hZ (hw _ (List.mem_of_getElem? (i := 21) rfl))) (mvT hZ (hw _ (List.mem_of_getElem? (i := 22) rfl))) (notFace_of_selects (args := #[]) (mvT hZ (hw _ (List.mem_of_getElem? (i := 24) rfl)))) (mvT hZ (hw _ (List.mem_of_getElem? (i := 24) rfl))) (mvT hZ (hw _ (List.mem_of_getElem? (i := 23) rfl))) (by decide) (backOf (W := 0) (rm4 l Z a0 hw [] mt pe2 a2 b2 ae2 an2 ap2 usa ((6)) fEa fNa fPa 1 (a2.toInt.toNat) (b2.toInt.toNat) T3.heap n0 z3c fq3_0 fq3_1 fq3_2 fq3_3 hma_0 fq3_5 hma_1 hma_2 hma_3 g_mt g_ae2 g_an2 g_ap2 (hne_2) (⟨hSa.1, by decide⟩) (i3) (i4)) hZ (hw _ (List.mem_of_getElem? (i := 25) rfl)) (hw _ (List.mem_of_getElem? (i := 3) rfl)) (by decide) (by decide)) q4a q4c (g := (mkF m 208 #[.val (.int pr), .val (.int pe1), .val (.int pe2), .val (.int pq), .val (.int pm), .val (.int pf), .val (.int rr), .val (.int rr), .val (.int v1), .val (.int v2), .val (.int v3), .val (.int w1), .val (.int w2), .val (.int a1), .val (.int b1), .val (.int a2), .val (.int b2), .val (.int qq), .val (.int md), .val (.int vi), .val (.int rd), .val (.ref mt), .unset, .unset, .unset] [(.int b2), (.int a2), (.int pe2), (.ref mt)])) rfl (by rw [hml]; rfl) (Steps.refl _) (argsL := [(.int pe2), (.int a2), (.int b2)]) (rest := []) (lenOf own_pd__III_V rfl) rfl (by show 2 * 0 + _ ≤ _; exact Nat.le_of_eq rfl) (hb hby at_208) (fun _ _ => ⟨rfl, rfl, (by decide : 4 + 0 ≤ _), (by decide : 59 + 0 ≤ _)⟩)
                  dsimp only [Pt.U, Pt.locs, Pt.cells, Pt.slots] at X4 l4 y4 z4 st4 hQ4
                  subst l4 y4 z4
                  obtain ⟨rfl, N4q, K4, fq4_0, fq4_1, fq4_2, fq4_3, fq4_4, fq4_5, fq4_6, fq4_7, fq4_8⟩ := hQ4
                  have N4 := Fr.app N3 N4q
                  have f4_E_mt : Exa Z T4.heap mt "com/example/handfast/handfast/algorithm/Matching" := fq3_0.keep K4
                  have z4c : n0 ≤ T4.heap.size := Nat.le_trans z3c K4.1
                  refine own_W.steps st4 ?_
                  show own_W p e (FrameEnd s) below room_1.cells room_1.slots (Q0 Z pr pe1 pe2 pq pm pf h0 n0) T4 (mkF m 211 #[.val (.int pr), .val (.int pe1), .val (.int pe2), .val (.int pq), .val (.int pm), .val (.int pf), .val (.int rr), .val (.int rr), .val (.int v1), .val (.int v2), .val (.int v3), .val (.int w1), .val (.int w2), .val (.int a1), .val (.int b1), .val (.int a2), .val (.int b2), .val (.int qq), .val (.int md), .val (.int vi), .val (.int rd), .val (.ref mt), .unset, .unset, .unset] [])
                  obtain ⟨usb, fEb, fNb, fPb, hSb, hmb_0, hmb_1, hmb_2, hmb_3⟩ : ∃ (usb : Int32) (fEb fNb fPb : Nat → Int32), own_S2 (((6))) usb fEb fNb fPb pe1 a1 b1 pe2 a2 b2 ∧ (Fld Z T4.heap mt "com/example/handfast/handfast/algorithm/Matching" "size" "I" (.int usb)) ∧ (own_A Z T4.heap ae2 .int (16) (fun z => .int (fEb z))) ∧ (own_A Z T4.heap an2 .int (32) (fun z => .int (fNb z))) ∧ (own_A Z T4.heap ap2 .int (((6))) (fun z => .int (fPb z))) := ⟨_, _, _, _, own_add1 hSa pe2 a2 b2 i3 i4 (by omega), fq4_4, fq4_6, fq4_7, fq4_8⟩
                  have J328 : ∀ (c1 : Int32) (c2 : Int32) (gE : Nat → Int32) (gP : Nat → Int32) (TJ328 : State) (hJ328 : Heap) (LJ328 : List Loc), ∀ (XJ328 : Stand p l e room_1 s m #[(.int pr), (.int pe1), (.int pe2), (.int pq), (.int pm), (.int pf)] below meth c TJ328 LJ328 4 59), ∀ (eJ328 : TJ328.heap = hJ328), ∀ (NJ328 : Fr n0 LJ328), ∀ (zJ328 : n0 ≤ hJ328.size), ∀ (fJ328_0 : Exa Z hJ328 mt "com/example/handfast/handfast/algorithm/Matching"), ∀ (fJ328_1 : Fld Z hJ328 mt "com/example/handfast/handfast/algorithm/Matching" "edges" "[I" (.ref ae2)), ∀ (fJ328_2 : Fld Z hJ328 mt "com/example/handfast/handfast/algorithm/Matching" "placeAt" "[I" (.ref ap2)), ∀ (fJ328_3 : own_A Z hJ328 ae2 .int (16) (fun z => .int (gE z))), ∀ (fJ328_4 : own_A Z hJ328 ap2 .int (6) (fun z => .int (gP z))), ∀ (hat : own_F gE gP rr v1 v2 v3 pe1 pe2 c1 c2), own_W p e (FrameEnd s) below room_1.cells room_1.slots (Q0 Z pr pe1 pe2 pq pm pf h0 n0) TJ328 (mkF m 328 #[.val (.int pr), .val (.int pe1), .val (.int pe2), .val (.int pq), .val (.int pm), .val (.int pf), .val (.int rr), .val (.int rr), .val (.int v1), .val (.int v2), .val (.int v3), .val (.int w1), .val (.int w2), .val (.int a1), .val (.int b1), .val (.int a2), .val (.int b2), .val (.int qq), .val (.int md), .val (.int vi), .val (.int rd), .val (.ref mt), .val (.int c1), .val (.int c2), .unset] []) := by
                    intro c1 c2 gE gP TJ328 hJ328 LJ328 XJ328 eJ328 NJ328 zJ328 fJ328_0 fJ328_1 fJ328_2 fJ328_3 fJ328_4 hat
                    refine own_iconst XJ328 hx (hb hby at_328) (-1 : Int32) (by first | rfl | decide) (rfl : 328 + 1 = 329) ?_
                    refine own_istore XJ328 hx (hb hby at_329) (l' := #[.val (.int pr), .val (.int pe1), .val (.int pe2), .val (.int pq), .val (.int pm), .val (.int pf), .val (.int rr), .val (.int rr), .val (.int v1), .val (.int v2), .val (.int v3), .val (.int w1), .val (.int w2), .val (.int a1), .val (.int b1), .val (.int a2), .val (.int b2), .val (.int qq), .val (.int md), .val (.int vi), .val (.int rd), .val (.ref mt), .val (.int c1), .val (.int c2), .val (.int (-1 : Int32))]) rfl (rfl : 329 + 2 = 331) ?_
                    refine own_iload XJ328 hx (hb hby at_331) (v := c1) rfl (rfl : 331 + 2 = 333) ?_
                    have J378 : ∀ (ex : Int32), ∀ (hex : (¬ c1 = 0 ∧ (qq = rr ∨ qq = v1) ∧ ex = pe1) ∨ (¬ (¬ c1 = 0 ∧ (qq = rr ∨ qq = v1)) ∧ ¬ c2 = 0 ∧ (qq = v2 ∨ qq = v3) ∧ ex = pe2) ∨ (¬ (¬ c1 = 0 ∧ (qq = rr ∨ qq = v1)) ∧ ¬ (¬ c2 = 0 ∧ (qq = v2 ∨ qq = v3)) ∧ ex = (-1 : Int32))), own_W p e (FrameEnd s) below room_1.cells room_1.slots (Q0 Z pr pe1 pe2 pq pm pf h0 n0) TJ328 (mkF m 378 #[.val (.int pr), .val (.int pe1), .val (.int pe2), .val (.int pq), .val (.int pm), .val (.int pf), .val (.int rr), .val (.int rr), .val (.int v1), .val (.int v2), .val (.int v3), .val (.int w1), .val (.int w2), .val (.int a1), .val (.int b1), .val (.int a2), .val (.int b2), .val (.int qq), .val (.int md), .val (.int vi), .val (.int rd), .val (.ref mt), .val (.int c1), .val (.int c2), .val (.int ex)] []) := by
                      intro ex hex
                      obtain ⟨pz, hpz, hres⟩ := own_law hat bqq hex
                      refine own_aload XJ328 hx (hb hby at_378) (v := (.ref mt)) rfl rfl (rfl : 378 + 2 = 380) ?_
                      refine own_iload XJ328 hx (hb hby at_380) (v := qq) rfl (rfl : 380 + 2 = 382) ?_
                      obtain ⟨cq5, kq5, q5a, q5b, q5c⟩ := isOf hZ eJ328 fJ328_0
                      obtain ⟨_, _, ⟨T5, L5, k5, n5⟩, -, X5, ⟨Lc5, hQ5, l5, y5, z5⟩, st5⟩ := XJ328.virtualBack hx (y := (⟨"com/example/handfast/handfast/algorithm/Matching", "at", "(I)I"⟩ : MethodName)) (z := (⟨"com/example/handfast/handfast/algorithm/Matching", "at", "(I)I"⟩ : MethodName)) hown (mvT hZ (hw _ (List.mem_of_getElem? (i := 30) rfl))) (mvT hZ (hw _ (List.mem_of_getElem? (i := 31) rfl))) (notFace_of_selects (args := #[]) (mvT hZ (hw _ (List.mem_of_getElem? (i := 33) rfl)))) (mvT hZ (hw _ (List.mem_of_getElem? (i := 33) rfl))) (mvT hZ (hw _ (List.mem_of_getElem? (i := 32) rfl))) (by decide) (backOf (W := 0) (rm5 l Z a0 hw [] mt qq ae2 ap2 (6) gE gP (qq.toInt.toNat) pz hJ328 n0 zJ328 fJ328_1 fJ328_2 fJ328_3 fJ328_4 (own_in_of (n := 6) bqq.1 bqq.2) (hpz)) hZ (hw _ (List.mem_of_getElem? (i := 34) rfl)) (hw _ (List.mem_of_getElem? (i := 3) rfl)) (by decide) (by decide)) q5a q5c (g := (mkF m 382 #[.val (.int pr), .val (.int pe1), .val (.int pe2), .val (.int pq), .val (.int pm), .val (.int pf), .val (.int rr), .val (.int rr), .val (.int v1), .val (.int v2), .val (.int v3), .val (.int w1), .val (.int w2), .val (.int a1), .val (.int b1), .val (.int a2), .val (.int b2), .val (.int qq), .val (.int md), .val (.int vi), .val (.int rd), .val (.ref mt), .val (.int c1), .val (.int c2), .val (.int ex)] [(.int qq), (.ref mt)])) rfl (by rw [hml]; rfl) (Steps.refl _) (argsL := [(.int qq)]) (rest := []) (lenOf own_pd__I_I rfl) rfl (by show 2 * 0 + _ ≤ _; exact Nat.le_of_eq rfl) (hb hby at_382) (fun _ _ => ⟨rfl, eJ328, (by decide : 4 + 0 ≤ _), (by decide : 59 + 0 ≤ _)⟩)
                      dsimp only [Pt.U, Pt.locs, Pt.cells, Pt.slots] at X5 l5 y5 z5 st5 hQ5
                      subst l5 y5 z5
                      obtain ⟨rfl, N5q, e5⟩ := hQ5
                      have N5 := Fr.app NJ328 N5q
                      refine own_W.steps st5 ?_
                      show own_W p e (FrameEnd s) below room_1.cells room_1.slots (Q0 Z pr pe1 pe2 pq pm pf h0 n0) T5 (mkF m 385 #[.val (.int pr), .val (.int pe1), .val (.int pe2), .val (.int pq), .val (.int pm), .val (.int pf), .val (.int rr), .val (.int rr), .val (.int v1), .val (.int v2), .val (.int v3), .val (.int w1), .val (.int w2), .val (.int a1), .val (.int b1), .val (.int a2), .val (.int b2), .val (.int qq), .val (.int md), .val (.int vi), .val (.int rd), .val (.ref mt), .val (.int c1), .val (.int c2), .val (.int ex)] [(.int (own_at gE gP (qq.toInt.toNat) pz))])
                      refine own_iload X5 hx (hb hby at_385) (v := ex) rfl (rfl : 385 + 2 = 387) ?_
                      have hc387 : (own_at gE gP (qq.toInt.toNat) pz) = ex := hres
                      refine own_icmpNo X5 hx (hb hby at_387) (teq hc387).2 (rfl : 387 + 3 = 390) ?_
                      refine own_iconst X5 hx (hb hby at_390) (1 : Int32) (by first | rfl | decide) (rfl : 390 + 1 = 391) ?_
                      refine own_goto X5 hx (hb hby at_391) (pc' := 395) (by decide) (by decide) ?_
                      refine own_retN (t := .boolean) X5 hx hlk hret (by simp) (hb hby at_395) (z' := (1 : Int32)) (by decide) (by decide) (by decide) ?_
                      show Q0 Z pr pe1 pe2 pq pm pf h0 n0 (some (.int (1 : Int32))) T5.heap _
                      rw [e5]
                      exact ⟨rfl, N5⟩
                    by_cases hc333 : c1 = (0 : Int32)
                    · skip
                      refine own_ifYes XJ328 hx (hb hby at_333) ((if0 _ _).trans (teq hc333).1) (pc' := 356) (by decide) (by decide) ?_
                      refine own_iload XJ328 hx (hb hby at_356) (v := c2) rfl (rfl : 356 + 2 = 358) ?_
                      by_cases hc358 : c2 = (0 : Int32)
                      · skip
                        refine own_ifYes XJ328 hx (hb hby at_358) ((if0 _ _).trans (teq hc358).1) (pc' := 378) (by decide) (by decide) ?_
                        exact J378 ((-1 : Int32))   (Or.inr (Or.inr ⟨(fun y => y.1 hc333), (fun y => y.1 hc358), rfl⟩))
                      · skip
                        refine own_ifNo XJ328 hx (hb hby at_358) ((if0 _ _).trans (feq hc358).1) (rfl : 358 + 3 = 361) ?_
                        refine own_iload XJ328 hx (hb hby at_361) (v := qq) rfl (rfl : 361 + 2 = 363) ?_
                        refine own_iload XJ328 hx (hb hby at_363) (v := v2) rfl (rfl : 363 + 2 = 365) ?_
                        by_cases hc365 : qq = v2
                        · skip
                          refine own_icmpYes XJ328 hx (hb hby at_365) (teq hc365).1 (pc' := 375) (by decide) (by decide) ?_
                          refine own_iloadN XJ328 hx (hb hby at_375) (v := pe2) rfl (rfl : 375 + 1 = 376) ?_
                          refine own_istore XJ328 hx (hb hby at_376) (l' := #[.val (.int pr), .val (.int pe1), .val (.int pe2), .val (.int pq), .val (.int pm), .val (.int pf), .val (.int rr), .val (.int rr), .val (.int v1), .val (.int v2), .val (.int v3), .val (.int w1), .val (.int w2), .val (.int a1), .val (.int b1), .val (.int a2), .val (.int b2), .val (.int qq), .val (.int md), .val (.int vi), .val (.int rd), .val (.ref mt), .val (.int c1), .val (.int c2), .val (.int pe2)]) rfl (rfl : 376 + 2 = 378) ?_
                          exact J378 (pe2)   (Or.inr (Or.inl ⟨(fun y => y.1 hc333), hc358, Or.inl hc365, rfl⟩))
                        · skip
                          refine own_icmpNo XJ328 hx (hb hby at_365) (feq hc365).1 (rfl : 365 + 3 = 368) ?_
                          refine own_iload XJ328 hx (hb hby at_368) (v := qq) rfl (rfl : 368 + 2 = 370) ?_
                          refine own_iload XJ328 hx (hb hby at_370) (v := v3) rfl (rfl : 370 + 2 = 372) ?_
                          by_cases hc372 : qq = v3
                          · skip
                            refine own_icmpNo XJ328 hx (hb hby at_372) (teq hc372).2 (rfl : 372 + 3 = 375) ?_
                            refine own_iloadN XJ328 hx (hb hby at_375) (v := pe2) rfl (rfl : 375 + 1 = 376) ?_
                            refine own_istore XJ328 hx (hb hby at_376) (l' := #[.val (.int pr), .val (.int pe1), .val (.int pe2), .val (.int pq), .val (.int pm), .val (.int pf), .val (.int rr), .val (.int rr), .val (.int v1), .val (.int v2), .val (.int v3), .val (.int w1), .val (.int w2), .val (.int a1), .val (.int b1), .val (.int a2), .val (.int b2), .val (.int qq), .val (.int md), .val (.int vi), .val (.int rd), .val (.ref mt), .val (.int c1), .val (.int c2), .val (.int pe2)]) rfl (rfl : 376 + 2 = 378) ?_
                            exact J378 (pe2)   (Or.inr (Or.inl ⟨(fun y => y.1 hc333), hc358, Or.inr hc372, rfl⟩))
                          · skip
                            refine own_icmpYes XJ328 hx (hb hby at_372) (feq hc372).2 (pc' := 378) (by decide) (by decide) ?_
                            exact J378 ((-1 : Int32))   (Or.inr (Or.inr ⟨(fun y => y.1 hc333), (fun y => y.2.elim hc365 hc372), rfl⟩))
                    · skip
                      refine own_ifNo XJ328 hx (hb hby at_333) ((if0 _ _).trans (feq hc333).1) (rfl : 333 + 3 = 336) ?_
                      refine own_iload XJ328 hx (hb hby at_336) (v := qq) rfl (rfl : 336 + 2 = 338) ?_
                      refine own_iload XJ328 hx (hb hby at_338) (v := rr) rfl (rfl : 338 + 2 = 340) ?_
                      by_cases hc340 : qq = rr
                      · skip
                        refine own_icmpYes XJ328 hx (hb hby at_340) (teq hc340).1 (pc' := 350) (by decide) (by decide) ?_
                        refine own_iloadN XJ328 hx (hb hby at_350) (v := pe1) rfl (rfl : 350 + 1 = 351) ?_
                        refine own_istore XJ328 hx (hb hby at_351) (l' := #[.val (.int pr), .val (.int pe1), .val (.int pe2), .val (.int pq), .val (.int pm), .val (.int pf), .val (.int rr), .val (.int rr), .val (.int v1), .val (.int v2), .val (.int v3), .val (.int w1), .val (.int w2), .val (.int a1), .val (.int b1), .val (.int a2), .val (.int b2), .val (.int qq), .val (.int md), .val (.int vi), .val (.int rd), .val (.ref mt), .val (.int c1), .val (.int c2), .val (.int pe1)]) rfl (rfl : 351 + 2 = 353) ?_
                        refine own_goto XJ328 hx (hb hby at_353) (pc' := 378) (by decide) (by decide) ?_
                        exact J378 (pe1)   (Or.inl ⟨hc333, Or.inl hc340, rfl⟩)
                      · skip
                        refine own_icmpNo XJ328 hx (hb hby at_340) (feq hc340).1 (rfl : 340 + 3 = 343) ?_
                        refine own_iload XJ328 hx (hb hby at_343) (v := qq) rfl (rfl : 343 + 2 = 345) ?_
                        refine own_iload XJ328 hx (hb hby at_345) (v := v1) rfl (rfl : 345 + 2 = 347) ?_
                        by_cases hc347 : qq = v1
                        · skip
                          refine own_icmpNo XJ328 hx (hb hby at_347) (teq hc347).2 (rfl : 347 + 3 = 350) ?_
                          refine own_iloadN XJ328 hx (hb hby at_350) (v := pe1) rfl (rfl : 350 + 1 = 351) ?_
                          refine own_istore XJ328 hx (hb hby at_351) (l' := #[.val (.int pr), .val (.int pe1), .val (.int pe2), .val (.int pq), .val (.int pm), .val (.int pf), .val (.int rr), .val (.int rr), .val (.int v1), .val (.int v2), .val (.int v3), .val (.int w1), .val (.int w2), .val (.int a1), .val (.int b1), .val (.int a2), .val (.int b2), .val (.int qq), .val (.int md), .val (.int vi), .val (.int rd), .val (.ref mt), .val (.int c1), .val (.int c2), .val (.int pe1)]) rfl (rfl : 351 + 2 = 353) ?_
                          refine own_goto XJ328 hx (hb hby at_353) (pc' := 378) (by decide) (by decide) ?_
                          exact J378 (pe1)   (Or.inl ⟨hc333, Or.inr hc347, rfl⟩)
                        · skip
                          refine own_icmpYes XJ328 hx (hb hby at_347) (feq hc347).2 (pc' := 356) (by decide) (by decide) ?_
                          refine own_iload XJ328 hx (hb hby at_356) (v := c2) rfl (rfl : 356 + 2 = 358) ?_
                          by_cases hc358 : c2 = (0 : Int32)
                          · skip
                            refine own_ifYes XJ328 hx (hb hby at_358) ((if0 _ _).trans (teq hc358).1) (pc' := 378) (by decide) (by decide) ?_
                            exact J378 ((-1 : Int32))   (Or.inr (Or.inr ⟨(fun y => y.2.elim hc340 hc347), (fun y => y.1 hc358), rfl⟩))
                          · skip
                            refine own_ifNo XJ328 hx (hb hby at_358) ((if0 _ _).trans (feq hc358).1) (rfl : 358 + 3 = 361) ?_
                            refine own_iload XJ328 hx (hb hby at_361) (v := qq) rfl (rfl : 361 + 2 = 363) ?_
                            refine own_iload XJ328 hx (hb hby at_363) (v := v2) rfl (rfl : 363 + 2 = 365) ?_
                            by_cases hc365 : qq = v2
                            · skip
                              refine own_icmpYes XJ328 hx (hb hby at_365) (teq hc365).1 (pc' := 375) (by decide) (by decide) ?_
                              refine own_iloadN XJ328 hx (hb hby at_375) (v := pe2) rfl (rfl : 375 + 1 = 376) ?_
                              refine own_istore XJ328 hx (hb hby at_376) (l' := #[.val (.int pr), .val (.int pe1), .val (.int pe2), .val (.int pq), .val (.int pm), .val (.int pf), .val (.int rr), .val (.int rr), .val (.int v1), .val (.int v2), .val (.int v3), .val (.int w1), .val (.int w2), .val (.int a1), .val (.int b1), .val (.int a2), .val (.int b2), .val (.int qq), .val (.int md), .val (.int vi), .val (.int rd), .val (.ref mt), .val (.int c1), .val (.int c2), .val (.int pe2)]) rfl (rfl : 376 + 2 = 378) ?_
                              exact J378 (pe2)   (Or.inr (Or.inl ⟨(fun y => y.2.elim hc340 hc347), hc358, Or.inl hc365, rfl⟩))
                            · skip
                              refine own_icmpNo XJ328 hx (hb hby at_365) (feq hc365).1 (rfl : 365 + 3 = 368) ?_
                              refine own_iload XJ328 hx (hb hby at_368) (v := qq) rfl (rfl : 368 + 2 = 370) ?_
                              refine own_iload XJ328 hx (hb hby at_370) (v := v3) rfl (rfl : 370 + 2 = 372) ?_
                              by_cases hc372 : qq = v3
                              · skip
                                refine own_icmpNo XJ328 hx (hb hby at_372) (teq hc372).2 (rfl : 372 + 3 = 375) ?_
                                refine own_iloadN XJ328 hx (hb hby at_375) (v := pe2) rfl (rfl : 375 + 1 = 376) ?_
                                refine own_istore XJ328 hx (hb hby at_376) (l' := #[.val (.int pr), .val (.int pe1), .val (.int pe2), .val (.int pq), .val (.int pm), .val (.int pf), .val (.int rr), .val (.int rr), .val (.int v1), .val (.int v2), .val (.int v3), .val (.int w1), .val (.int w2), .val (.int a1), .val (.int b1), .val (.int a2), .val (.int b2), .val (.int qq), .val (.int md), .val (.int vi), .val (.int rd), .val (.ref mt), .val (.int c1), .val (.int c2), .val (.int pe2)]) rfl (rfl : 376 + 2 = 378) ?_
                                exact J378 (pe2)   (Or.inr (Or.inl ⟨(fun y => y.2.elim hc340 hc347), hc358, Or.inr hc372, rfl⟩))
                              · skip
                                refine own_icmpYes XJ328 hx (hb hby at_372) (feq hc372).2 (pc' := 378) (by decide) (by decide) ?_
                                exact J378 ((-1 : Int32))   (Or.inr (Or.inr ⟨(fun y => y.2.elim hc340 hc347), (fun y => y.2.elim hc365 hc372), rfl⟩))
                  refine own_iload X4 hx (hb hby at_211) (v := md) rfl (rfl : 211 + 2 = 213) ?_
                  refine own_iconst X4 hx (hb hby at_213) (1 : Int32) (by first | rfl | decide) (rfl : 213 + 1 = 214) ?_
                  by_cases hc214 : md = (1 : Int32)
                  · skip
                    refine own_icmpYes X4 hx (hb hby at_214) (teq hc214).1 (pc' := 223) (by decide) (by decide) ?_
                    refine own_aload X4 hx (hb hby at_223) (v := (.ref mt)) rfl rfl (rfl : 223 + 2 = 225) ?_
                    refine own_iload X4 hx (hb hby at_225) (v := vi) rfl (rfl : 225 + 2 = 227) ?_
                    have J237 : ∀ (rv : Int32), ∀ (hrv : rv = a1 ∨ rv = b1), own_W p e (FrameEnd s) below room_1.cells room_1.slots (Q0 Z pr pe1 pe2 pq pm pf h0 n0) T4 (mkF m 237 #[.val (.int pr), .val (.int pe1), .val (.int pe2), .val (.int pq), .val (.int pm), .val (.int pf), .val (.int rr), .val (.int rr), .val (.int v1), .val (.int v2), .val (.int v3), .val (.int w1), .val (.int w2), .val (.int a1), .val (.int b1), .val (.int a2), .val (.int b2), .val (.int qq), .val (.int md), .val (.int vi), .val (.int rd), .val (.ref mt), .unset, .unset, .unset] [(.int rv), (.ref mt)]) := by
                      intro rv hrv
                      obtain ⟨cq6, kq6, q6a, q6b, q6c⟩ := isOf hZ rfl fq4_0
                      obtain ⟨_, _, ⟨T6, L6, k6, n6⟩, -, X6, ⟨Lc6, hQ6, l6, y6, z6⟩, st6⟩ := X4.virtualBack hx (y := (⟨"com/example/handfast/handfast/algorithm/Matching", "removeAt", "(I)V"⟩ : MethodName)) (z := (⟨"com/example/handfast/handfast/algorithm/Matching", "removeAt", "(I)V"⟩ : MethodName)) hown (mvT hZ (hw _ (List.mem_of_getElem? (i := 35) rfl))) (mvT hZ (hw _ (List.mem_of_getElem? (i := 36) rfl))) (notFace_of_selects (args := #[]) (mvT hZ (hw _ (List.mem_of_getElem? (i := 38) rfl)))) (mvT hZ (hw _ (List.mem_of_getElem? (i := 38) rfl))) (mvT hZ (hw _ (List.mem_of_getElem? (i := 37) rfl))) (by decide) (backOf (W := 0) (rm6m l Z a0 hw [] mt rv ae2 an2 ap2 usb (((6))) fEb fNb fPb 2 (rv.toInt.toNat) 0 1 (a1.toInt.toNat) (b1.toInt.toNat) (a2.toInt.toNat) (b2.toInt.toNat) T4.heap n0 z4c fq4_0 fq4_1 fq4_2 fq4_3 hmb_0 fq4_5 hmb_1 hmb_2 hmb_3 g_mt g_ae2 g_an2 g_ap2 (hne_2) ((show own_In rv rv.toInt.toNat 6 by rcases hrv with rfl | rfl ; exact i1; exact i2)) ((show own_In (fPb rv.toInt.toNat) 0 8 from ⟨by rw [(hSb.2.2.2.2.2.2.2 rv.toInt.toNat (by rcases hrv with rfl | rfl <;> omega)).1 (by rcases hrv with rfl | rfl <;> omega)]; decide, by decide⟩)) (⟨hSb.1, by decide⟩) ((show own_In (fNb 0) a1.toInt.toNat 6 by rw [hSb.2.2.2.1]; exact i1)) ((show own_In (fNb 1) b1.toInt.toNat 6 by rw [hSb.2.2.2.2.1]; exact i2)) (rfl) (by decide) ((show own_In (fNb 2) a2.toInt.toNat 6 by rw [hSb.2.2.2.2.2.1]; exact i3)) ((show own_In (fNb 3) b2.toInt.toNat 6 by rw [hSb.2.2.2.2.2.2.1]; exact i4))) hZ (hw _ (List.mem_of_getElem? (i := 39) rfl)) (hw _ (List.mem_of_getElem? (i := 3) rfl)) (by decide) (by decide)) q6a q6c (g := (mkF m 237 #[.val (.int pr), .val (.int pe1), .val (.int pe2), .val (.int pq), .val (.int pm), .val (.int pf), .val (.int rr), .val (.int rr), .val (.int v1), .val (.int v2), .val (.int v3), .val (.int w1), .val (.int w2), .val (.int a1), .val (.int b1), .val (.int a2), .val (.int b2), .val (.int qq), .val (.int md), .val (.int vi), .val (.int rd), .val (.ref mt), .unset, .unset, .unset] [(.int rv), (.ref mt)])) rfl (by rw [hml]; rfl) (Steps.refl _) (argsL := [(.int rv)]) (rest := []) (lenOf own_pd__I_V rfl) rfl (by show 2 * 0 + _ ≤ _; exact Nat.le_of_eq rfl) (hb hby at_237) (fun _ _ => ⟨rfl, rfl, (by decide : 4 + 0 ≤ _), (by decide : 59 + 0 ≤ _)⟩)
                      dsimp only [Pt.U, Pt.locs, Pt.cells, Pt.slots] at X6 l6 y6 z6 st6 hQ6
                      subst l6 y6 z6
                      obtain ⟨rfl, N6q, K6, fq6_0, fq6_1, fq6_2, fq6_3, fq6_4, fq6_5, fq6_6, fq6_7, fq6_8⟩ := hQ6
                      have N6 := Fr.app N4 N6q
                      have f6_E_mt : Exa Z T6.heap mt "com/example/handfast/handfast/algorithm/Matching" := fq4_0.keep K6
                      have z6c : n0 ≤ T6.heap.size := Nat.le_trans z4c K6.1
                      refine own_W.steps st6 ?_
                      show own_W p e (FrameEnd s) below room_1.cells room_1.slots (Q0 Z pr pe1 pe2 pq pm pf h0 n0) T6 (mkF m 240 #[.val (.int pr), .val (.int pe1), .val (.int pe2), .val (.int pq), .val (.int pm), .val (.int pf), .val (.int rr), .val (.int rr), .val (.int v1), .val (.int v2), .val (.int v3), .val (.int w1), .val (.int w2), .val (.int a1), .val (.int b1), .val (.int a2), .val (.int b2), .val (.int qq), .val (.int md), .val (.int vi), .val (.int rd), .val (.ref mt), .unset, .unset, .unset] [])
                      obtain ⟨usc, fEc, fNc, fPc, hSc, hmc_0, hmc_1, hmc_2, hmc_3⟩ : ∃ (usc : Int32) (fEc fNc fPc : Nat → Int32), own_S1 ((((6)))) usc fEc fNc fPc pe2 a2 b2 ∧ (Fld Z T6.heap mt "com/example/handfast/handfast/algorithm/Matching" "size" "I" (.int usc)) ∧ (own_A Z T6.heap ae2 .int (16) (fun z => .int (fEc z))) ∧ (own_A Z T6.heap an2 .int (32) (fun z => .int (fNc z))) ∧ (own_A Z T6.heap ap2 .int ((((6)))) (fun z => .int (fPc z))) := ⟨_, _, _, _, own_rm2m hSb ((hSb.2.2.2.2.2.2.2 rv.toInt.toNat (by rcases hrv with rfl | rfl <;> omega)).1 (by rcases hrv with rfl | rfl <;> omega)) i1 i2 i3 i4, fq6_4, fq6_6, fq6_7, fq6_8⟩
                      refine own_iload X6 hx (hb hby at_240) (v := md) rfl (rfl : 240 + 2 = 242) ?_
                      refine own_iconst X6 hx (hb hby at_242) (2 : Int32) (by first | rfl | decide) (rfl : 242 + 1 = 243) ?_
                      have hc243 : ¬ (md = (2 : Int32)) := by rw [hc214]; decide
                      refine own_icmpNo X6 hx (hb hby at_243) (feq hc243).1 (rfl : 243 + 3 = 246) ?_
                      refine own_iload X6 hx (hb hby at_246) (v := md) rfl (rfl : 246 + 2 = 248) ?_
                      refine own_iconst X6 hx (hb hby at_248) (3 : Int32) (by first | rfl | decide) (rfl : 248 + 1 = 249) ?_
                      have hc249 : ¬ (md = (3 : Int32)) := by rw [hc214]; decide
                      refine own_icmpYes X6 hx (hb hby at_249) (feq hc249).2 (pc' := 269) (by decide) (by decide) ?_
                      refine own_iload X6 hx (hb hby at_269) (v := md) rfl (rfl : 269 + 2 = 271) ?_
                      have hc271 : ¬ (md = (0 : Int32)) := by rw [hc214]; decide
                      refine own_ifNo X6 hx (hb hby at_271) ((if0 _ _).trans (feq hc271).1) (rfl : 271 + 3 = 274) ?_
                      refine own_iload X6 hx (hb hby at_274) (v := md) rfl (rfl : 274 + 2 = 276) ?_
                      refine own_iconst X6 hx (hb hby at_276) (2 : Int32) (by first | rfl | decide) (rfl : 276 + 1 = 277) ?_
                      have hc277 : ¬ (md = (2 : Int32)) := by rw [hc214]; decide
                      refine own_icmpYes X6 hx (hb hby at_277) (feq hc277).2 (pc' := 284) (by decide) (by decide) ?_
                      refine own_iconst X6 hx (hb hby at_284) (0 : Int32) (by first | rfl | decide) (rfl : 284 + 1 = 285) ?_
                      refine own_istore X6 hx (hb hby at_285) (l' := #[.val (.int pr), .val (.int pe1), .val (.int pe2), .val (.int pq), .val (.int pm), .val (.int pf), .val (.int rr), .val (.int rr), .val (.int v1), .val (.int v2), .val (.int v3), .val (.int w1), .val (.int w2), .val (.int a1), .val (.int b1), .val (.int a2), .val (.int b2), .val (.int qq), .val (.int md), .val (.int vi), .val (.int rd), .val (.ref mt), .val (.int (0 : Int32)), .unset, .unset]) rfl (rfl : 285 + 2 = 287) ?_
                      refine own_iload X6 hx (hb hby at_287) (v := md) rfl (rfl : 287 + 2 = 289) ?_
                      have hc289 : ¬ (md = (0 : Int32)) := by rw [hc214]; decide
                      refine own_ifNo X6 hx (hb hby at_289) ((if0 _ _).trans (feq hc289).1) (rfl : 289 + 3 = 292) ?_
                      refine own_iload X6 hx (hb hby at_292) (v := md) rfl (rfl : 292 + 2 = 294) ?_
                      refine own_iconst X6 hx (hb hby at_294) (1 : Int32) (by first | rfl | decide) (rfl : 294 + 1 = 295) ?_
                      have hc295 : md = (1 : Int32) := hc214
                      refine own_icmpNo X6 hx (hb hby at_295) (teq hc295).2 (rfl : 295 + 3 = 298) ?_
                      refine own_iconst X6 hx (hb hby at_298) (1 : Int32) (by first | rfl | decide) (rfl : 298 + 1 = 299) ?_
                      refine own_goto X6 hx (hb hby at_299) (pc' := 303) (by decide) (by decide) ?_
                      refine own_istore X6 hx (hb hby at_303) (l' := #[.val (.int pr), .val (.int pe1), .val (.int pe2), .val (.int pq), .val (.int pm), .val (.int pf), .val (.int rr), .val (.int rr), .val (.int v1), .val (.int v2), .val (.int v3), .val (.int w1), .val (.int w2), .val (.int a1), .val (.int b1), .val (.int a2), .val (.int b2), .val (.int qq), .val (.int md), .val (.int vi), .val (.int rd), .val (.ref mt), .val (.int (0 : Int32)), .val (.int (1 : Int32)), .unset]) rfl (rfl : 303 + 2 = 305) ?_
                      refine own_iload X6 hx (hb hby at_305) (v := (0 : Int32)) rfl (rfl : 305 + 2 = 307) ?_
                      have hc307 : (0 : Int32) = (0 : Int32) := by decide
                      refine own_ifNo X6 hx (hb hby at_307) ((if0 _ _).trans (teq hc307).2) (rfl : 307 + 3 = 310) ?_
                      refine own_iload X6 hx (hb hby at_310) (v := rd) rfl (rfl : 310 + 2 = 312) ?_
                      by_cases hc312 : rd = (0 : Int32)
                      · skip
                        refine own_ifYes X6 hx (hb hby at_312) ((if0 _ _).trans (teq hc312).1) (pc' := 328) (by decide) (by decide) ?_
                        exact J328 ((0 : Int32)) ((1 : Int32)) (fEc) (fPc) _ _ _  X6 rfl N6 z6c fq6_0 fq6_1 fq6_3 hmc_1 hmc_3 (own_Fb hSc ab2 rr v1 pe1)
                      · skip
                        refine own_ifNo X6 hx (hb hby at_312) ((if0 _ _).trans (feq hc312).1) (rfl : 312 + 3 = 315) ?_
                        refine own_aload X6 hx (hb hby at_315) (v := (.ref mt)) rfl rfl (rfl : 315 + 2 = 317) ?_
                        refine own_iloadN X6 hx (hb hby at_317) (v := pe1) rfl (rfl : 317 + 1 = 318) ?_
                        refine own_iload X6 hx (hb hby at_318) (v := b1) rfl (rfl : 318 + 2 = 320) ?_
                        refine own_iload X6 hx (hb hby at_320) (v := a1) rfl (rfl : 320 + 2 = 322) ?_
                        obtain ⟨cq7, kq7, q7a, q7b, q7c⟩ := isOf hZ rfl fq6_0
                        obtain ⟨_, _, ⟨T7, L7, k7, n7⟩, -, X7, ⟨Lc7, hQ7, l7, y7, z7⟩, st7⟩ := X6.virtualBack hx (y := (⟨"com/example/handfast/handfast/algorithm/Matching", "add", "(III)V"⟩ : MethodName)) (z := (⟨"com/example/handfast/handfast/algorithm/Matching", "add", "(III)V"⟩ : MethodName)) hown (mvT hZ (hw _ (List.mem_of_getElem? (i := 21) rfl))) (mvT hZ (hw _ (List.mem_of_getElem? (i := 22) rfl))) (notFace_of_selects (args := #[]) (mvT hZ (hw _ (List.mem_of_getElem? (i := 24) rfl)))) (mvT hZ (hw _ (List.mem_of_getElem? (i := 24) rfl))) (mvT hZ (hw _ (List.mem_of_getElem? (i := 23) rfl))) (by decide) (backOf (W := 0) (rm4 l Z a0 hw [] mt pe1 b1 a1 ae2 an2 ap2 usc ((((6)))) fEc fNc fPc 1 (b1.toInt.toNat) (a1.toInt.toNat) T6.heap n0 z6c fq6_0 fq6_1 fq6_2 fq6_3 hmc_0 fq6_5 hmc_1 hmc_2 hmc_3 g_mt g_ae2 g_an2 g_ap2 (hne_2) (⟨hSc.1, by decide⟩) (i2) (i1)) hZ (hw _ (List.mem_of_getElem? (i := 25) rfl)) (hw _ (List.mem_of_getElem? (i := 3) rfl)) (by decide) (by decide)) q7a q7c (g := (mkF m 322 #[.val (.int pr), .val (.int pe1), .val (.int pe2), .val (.int pq), .val (.int pm), .val (.int pf), .val (.int rr), .val (.int rr), .val (.int v1), .val (.int v2), .val (.int v3), .val (.int w1), .val (.int w2), .val (.int a1), .val (.int b1), .val (.int a2), .val (.int b2), .val (.int qq), .val (.int md), .val (.int vi), .val (.int rd), .val (.ref mt), .val (.int (0 : Int32)), .val (.int (1 : Int32)), .unset] [(.int a1), (.int b1), (.int pe1), (.ref mt)])) rfl (by rw [hml]; rfl) (Steps.refl _) (argsL := [(.int pe1), (.int b1), (.int a1)]) (rest := []) (lenOf own_pd__III_V rfl) rfl (by show 2 * 0 + _ ≤ _; exact Nat.le_of_eq rfl) (hb hby at_322) (fun _ _ => ⟨rfl, rfl, (by decide : 4 + 0 ≤ _), (by decide : 59 + 0 ≤ _)⟩)
                        dsimp only [Pt.U, Pt.locs, Pt.cells, Pt.slots] at X7 l7 y7 z7 st7 hQ7
                        subst l7 y7 z7
                        obtain ⟨rfl, N7q, K7, fq7_0, fq7_1, fq7_2, fq7_3, fq7_4, fq7_5, fq7_6, fq7_7, fq7_8⟩ := hQ7
                        have N7 := Fr.app N6 N7q
                        have f7_E_mt : Exa Z T7.heap mt "com/example/handfast/handfast/algorithm/Matching" := fq6_0.keep K7
                        have z7c : n0 ≤ T7.heap.size := Nat.le_trans z6c K7.1
                        refine own_W.steps st7 ?_
                        show own_W p e (FrameEnd s) below room_1.cells room_1.slots (Q0 Z pr pe1 pe2 pq pm pf h0 n0) T7 (mkF m 325 #[.val (.int pr), .val (.int pe1), .val (.int pe2), .val (.int pq), .val (.int pm), .val (.int pf), .val (.int rr), .val (.int rr), .val (.int v1), .val (.int v2), .val (.int v3), .val (.int w1), .val (.int w2), .val (.int a1), .val (.int b1), .val (.int a2), .val (.int b2), .val (.int qq), .val (.int md), .val (.int vi), .val (.int rd), .val (.ref mt), .val (.int (0 : Int32)), .val (.int (1 : Int32)), .unset] [])
                        obtain ⟨usf, fEf, fNf, fPf, hSf, hmf_0, hmf_1, hmf_2, hmf_3⟩ : ∃ (usf : Int32) (fEf fNf fPf : Nat → Int32), own_S2 (((((6))))) usf fEf fNf fPf pe2 a2 b2 pe1 b1 a1 ∧ (Fld Z T7.heap mt "com/example/handfast/handfast/algorithm/Matching" "size" "I" (.int usf)) ∧ (own_A Z T7.heap ae2 .int (16) (fun z => .int (fEf z))) ∧ (own_A Z T7.heap an2 .int (32) (fun z => .int (fNf z))) ∧ (own_A Z T7.heap ap2 .int (((((6))))) (fun z => .int (fPf z))) := ⟨_, _, _, _, own_add1 hSc pe1 b1 a1 i2 i1 (by omega), fq7_4, fq7_6, fq7_7, fq7_8⟩
                        refine own_iconst X7 hx (hb hby at_325) (1 : Int32) (by first | rfl | decide) (rfl : 325 + 1 = 326) ?_
                        refine own_istore X7 hx (hb hby at_326) (l' := #[.val (.int pr), .val (.int pe1), .val (.int pe2), .val (.int pq), .val (.int pm), .val (.int pf), .val (.int rr), .val (.int rr), .val (.int v1), .val (.int v2), .val (.int v3), .val (.int w1), .val (.int w2), .val (.int a1), .val (.int b1), .val (.int a2), .val (.int b2), .val (.int qq), .val (.int md), .val (.int vi), .val (.int rd), .val (.ref mt), .val (.int (1 : Int32)), .val (.int (1 : Int32)), .unset]) rfl (rfl : 326 + 2 = 328) ?_
                        exact J328 ((1 : Int32)) ((1 : Int32)) (fEf) (fPf) _ _ _  X7 rfl N7 z7c fq7_0 fq7_1 fq7_3 hmf_1 hmf_3 (own_Fba hSf (own_absym ab1) ab2)
                    by_cases hc227 : vi = (0 : Int32)
                    · skip
                      refine own_ifYes X4 hx (hb hby at_227) ((if0 _ _).trans (teq hc227).1) (pc' := 235) (by decide) (by decide) ?_
                      refine own_iload X4 hx (hb hby at_235) (v := a1) rfl (rfl : 235 + 2 = 237) ?_
                      exact J237 (a1)   (Or.inl rfl)
                    · skip
                      refine own_ifNo X4 hx (hb hby at_227) ((if0 _ _).trans (feq hc227).1) (rfl : 227 + 3 = 230) ?_
                      refine own_iload X4 hx (hb hby at_230) (v := b1) rfl (rfl : 230 + 2 = 232) ?_
                      refine own_goto X4 hx (hb hby at_232) (pc' := 237) (by decide) (by decide) ?_
                      exact J237 (b1)   (Or.inr rfl)
                  · skip
                    refine own_icmpNo X4 hx (hb hby at_214) (feq hc214).1 (rfl : 214 + 3 = 217) ?_
                    refine own_iload X4 hx (hb hby at_217) (v := md) rfl (rfl : 217 + 2 = 219) ?_
                    refine own_iconst X4 hx (hb hby at_219) (3 : Int32) (by first | rfl | decide) (rfl : 219 + 1 = 220) ?_
                    by_cases hc220 : md = (3 : Int32)
                    · skip
                      refine own_icmpNo X4 hx (hb hby at_220) (teq hc220).2 (rfl : 220 + 3 = 223) ?_
                      refine own_aload X4 hx (hb hby at_223) (v := (.ref mt)) rfl rfl (rfl : 223 + 2 = 225) ?_
                      refine own_iload X4 hx (hb hby at_225) (v := vi) rfl (rfl : 225 + 2 = 227) ?_
                      have J237 : ∀ (rv : Int32), ∀ (hrv : rv = a1 ∨ rv = b1), own_W p e (FrameEnd s) below room_1.cells room_1.slots (Q0 Z pr pe1 pe2 pq pm pf h0 n0) T4 (mkF m 237 #[.val (.int pr), .val (.int pe1), .val (.int pe2), .val (.int pq), .val (.int pm), .val (.int pf), .val (.int rr), .val (.int rr), .val (.int v1), .val (.int v2), .val (.int v3), .val (.int w1), .val (.int w2), .val (.int a1), .val (.int b1), .val (.int a2), .val (.int b2), .val (.int qq), .val (.int md), .val (.int vi), .val (.int rd), .val (.ref mt), .unset, .unset, .unset] [(.int rv), (.ref mt)]) := by
                        intro rv hrv
                        obtain ⟨cq8, kq8, q8a, q8b, q8c⟩ := isOf hZ rfl fq4_0
                        obtain ⟨_, _, ⟨T8, L8, k8, n8⟩, -, X8, ⟨Lc8, hQ8, l8, y8, z8⟩, st8⟩ := X4.virtualBack hx (y := (⟨"com/example/handfast/handfast/algorithm/Matching", "removeAt", "(I)V"⟩ : MethodName)) (z := (⟨"com/example/handfast/handfast/algorithm/Matching", "removeAt", "(I)V"⟩ : MethodName)) hown (mvT hZ (hw _ (List.mem_of_getElem? (i := 35) rfl))) (mvT hZ (hw _ (List.mem_of_getElem? (i := 36) rfl))) (notFace_of_selects (args := #[]) (mvT hZ (hw _ (List.mem_of_getElem? (i := 38) rfl)))) (mvT hZ (hw _ (List.mem_of_getElem? (i := 38) rfl))) (mvT hZ (hw _ (List.mem_of_getElem? (i := 37) rfl))) (by decide) (backOf (W := 0) (rm6m l Z a0 hw [] mt rv ae2 an2 ap2 usb (((6))) fEb fNb fPb 2 (rv.toInt.toNat) 0 1 (a1.toInt.toNat) (b1.toInt.toNat) (a2.toInt.toNat) (b2.toInt.toNat) T4.heap n0 z4c fq4_0 fq4_1 fq4_2 fq4_3 hmb_0 fq4_5 hmb_1 hmb_2 hmb_3 g_mt g_ae2 g_an2 g_ap2 (hne_2) ((show own_In rv rv.toInt.toNat 6 by rcases hrv with rfl | rfl ; exact i1; exact i2)) ((show own_In (fPb rv.toInt.toNat) 0 8 from ⟨by rw [(hSb.2.2.2.2.2.2.2 rv.toInt.toNat (by rcases hrv with rfl | rfl <;> omega)).1 (by rcases hrv with rfl | rfl <;> omega)]; decide, by decide⟩)) (⟨hSb.1, by decide⟩) ((show own_In (fNb 0) a1.toInt.toNat 6 by rw [hSb.2.2.2.1]; exact i1)) ((show own_In (fNb 1) b1.toInt.toNat 6 by rw [hSb.2.2.2.2.1]; exact i2)) (rfl) (by decide) ((show own_In (fNb 2) a2.toInt.toNat 6 by rw [hSb.2.2.2.2.2.1]; exact i3)) ((show own_In (fNb 3) b2.toInt.toNat 6 by rw [hSb.2.2.2.2.2.2.1]; exact i4))) hZ (hw _ (List.mem_of_getElem? (i := 39) rfl)) (hw _ (List.mem_of_getElem? (i := 3) rfl)) (by decide) (by decide)) q8a q8c (g := (mkF m 237 #[.val (.int pr), .val (.int pe1), .val (.int pe2), .val (.int pq), .val (.int pm), .val (.int pf), .val (.int rr), .val (.int rr), .val (.int v1), .val (.int v2), .val (.int v3), .val (.int w1), .val (.int w2), .val (.int a1), .val (.int b1), .val (.int a2), .val (.int b2), .val (.int qq), .val (.int md), .val (.int vi), .val (.int rd), .val (.ref mt), .unset, .unset, .unset] [(.int rv), (.ref mt)])) rfl (by rw [hml]; rfl) (Steps.refl _) (argsL := [(.int rv)]) (rest := []) (lenOf own_pd__I_V rfl) rfl (by show 2 * 0 + _ ≤ _; exact Nat.le_of_eq rfl) (hb hby at_237) (fun _ _ => ⟨rfl, rfl, (by decide : 4 + 0 ≤ _), (by decide : 59 + 0 ≤ _)⟩)
                        dsimp only [Pt.U, Pt.locs, Pt.cells, Pt.slots] at X8 l8 y8 z8 st8 hQ8
                        subst l8 y8 z8
                        obtain ⟨rfl, N8q, K8, fq8_0, fq8_1, fq8_2, fq8_3, fq8_4, fq8_5, fq8_6, fq8_7, fq8_8⟩ := hQ8
                        have N8 := Fr.app N4 N8q
                        have f8_E_mt : Exa Z T8.heap mt "com/example/handfast/handfast/algorithm/Matching" := fq4_0.keep K8
                        have z8c : n0 ≤ T8.heap.size := Nat.le_trans z4c K8.1
                        refine own_W.steps st8 ?_
                        show own_W p e (FrameEnd s) below room_1.cells room_1.slots (Q0 Z pr pe1 pe2 pq pm pf h0 n0) T8 (mkF m 240 #[.val (.int pr), .val (.int pe1), .val (.int pe2), .val (.int pq), .val (.int pm), .val (.int pf), .val (.int rr), .val (.int rr), .val (.int v1), .val (.int v2), .val (.int v3), .val (.int w1), .val (.int w2), .val (.int a1), .val (.int b1), .val (.int a2), .val (.int b2), .val (.int qq), .val (.int md), .val (.int vi), .val (.int rd), .val (.ref mt), .unset, .unset, .unset] [])
                        obtain ⟨usc, fEc, fNc, fPc, hSc, hmc_0, hmc_1, hmc_2, hmc_3⟩ : ∃ (usc : Int32) (fEc fNc fPc : Nat → Int32), own_S1 ((((6)))) usc fEc fNc fPc pe2 a2 b2 ∧ (Fld Z T8.heap mt "com/example/handfast/handfast/algorithm/Matching" "size" "I" (.int usc)) ∧ (own_A Z T8.heap ae2 .int (16) (fun z => .int (fEc z))) ∧ (own_A Z T8.heap an2 .int (32) (fun z => .int (fNc z))) ∧ (own_A Z T8.heap ap2 .int ((((6)))) (fun z => .int (fPc z))) := ⟨_, _, _, _, own_rm2m hSb ((hSb.2.2.2.2.2.2.2 rv.toInt.toNat (by rcases hrv with rfl | rfl <;> omega)).1 (by rcases hrv with rfl | rfl <;> omega)) i1 i2 i3 i4, fq8_4, fq8_6, fq8_7, fq8_8⟩
                        refine own_iload X8 hx (hb hby at_240) (v := md) rfl (rfl : 240 + 2 = 242) ?_
                        refine own_iconst X8 hx (hb hby at_242) (2 : Int32) (by first | rfl | decide) (rfl : 242 + 1 = 243) ?_
                        have hc243 : ¬ (md = (2 : Int32)) := by rw [hc220]; decide
                        refine own_icmpNo X8 hx (hb hby at_243) (feq hc243).1 (rfl : 243 + 3 = 246) ?_
                        refine own_iload X8 hx (hb hby at_246) (v := md) rfl (rfl : 246 + 2 = 248) ?_
                        refine own_iconst X8 hx (hb hby at_248) (3 : Int32) (by first | rfl | decide) (rfl : 248 + 1 = 249) ?_
                        have hc249 : md = (3 : Int32) := hc220
                        refine own_icmpNo X8 hx (hb hby at_249) (teq hc249).2 (rfl : 249 + 3 = 252) ?_
                        refine own_aload X8 hx (hb hby at_252) (v := (.ref mt)) rfl rfl (rfl : 252 + 2 = 254) ?_
                        refine own_iload X8 hx (hb hby at_254) (v := vi) rfl (rfl : 254 + 2 = 256) ?_
                        have J266 : ∀ (rz : Int32), ∀ (hrw : rz = a2 ∨ rz = b2), own_W p e (FrameEnd s) below room_1.cells room_1.slots (Q0 Z pr pe1 pe2 pq pm pf h0 n0) T8 (mkF m 266 #[.val (.int pr), .val (.int pe1), .val (.int pe2), .val (.int pq), .val (.int pm), .val (.int pf), .val (.int rr), .val (.int rr), .val (.int v1), .val (.int v2), .val (.int v3), .val (.int w1), .val (.int w2), .val (.int a1), .val (.int b1), .val (.int a2), .val (.int b2), .val (.int qq), .val (.int md), .val (.int vi), .val (.int rd), .val (.ref mt), .unset, .unset, .unset] [(.int rz), (.ref mt)]) := by
                          intro rz hrw
                          obtain ⟨cq9, kq9, q9a, q9b, q9c⟩ := isOf hZ rfl fq8_0
                          obtain ⟨_, _, ⟨T9, L9, k9, n9⟩, -, X9, ⟨Lc9, hQ9, l9, y9, z9⟩, st9⟩ := X8.virtualBack hx (y := (⟨"com/example/handfast/handfast/algorithm/Matching", "removeAt", "(I)V"⟩ : MethodName)) (z := (⟨"com/example/handfast/handfast/algorithm/Matching", "removeAt", "(I)V"⟩ : MethodName)) hown (mvT hZ (hw _ (List.mem_of_getElem? (i := 35) rfl))) (mvT hZ (hw _ (List.mem_of_getElem? (i := 36) rfl))) (notFace_of_selects (args := #[]) (mvT hZ (hw _ (List.mem_of_getElem? (i := 38) rfl)))) (mvT hZ (hw _ (List.mem_of_getElem? (i := 38) rfl))) (mvT hZ (hw _ (List.mem_of_getElem? (i := 37) rfl))) (by decide) (backOf (W := 0) (rm6l l Z a0 hw [] mt rz ae2 an2 ap2 usc ((((6)))) fEc fNc fPc 1 (rz.toInt.toNat) 0 0 (a2.toInt.toNat) (b2.toInt.toNat) T8.heap n0 z8c fq8_0 fq8_1 fq8_2 fq8_3 hmc_0 fq8_5 hmc_1 hmc_2 hmc_3 g_mt g_ae2 g_an2 g_ap2 (hne_2) ((show own_In rz rz.toInt.toNat 6 by rcases hrw with rfl | rfl ; exact i3; exact i4)) ((show own_In (fPc rz.toInt.toNat) 0 8 from ⟨by rw [(hSc.2.2.2.2 rz.toInt.toNat (by rcases hrw with rfl | rfl <;> omega)).1 (by rcases hrw with rfl | rfl <;> omega)]; decide, by decide⟩)) (⟨hSc.1, by decide⟩) ((show own_In (fNc 0) a2.toInt.toNat 6 by rw [hSc.2.2.1]; exact i3)) ((show own_In (fNc 1) b2.toInt.toNat 6 by rw [hSc.2.2.2.1]; exact i4)) (rfl) (rfl)) hZ (hw _ (List.mem_of_getElem? (i := 39) rfl)) (hw _ (List.mem_of_getElem? (i := 3) rfl)) (by decide) (by decide)) q9a q9c (g := (mkF m 266 #[.val (.int pr), .val (.int pe1), .val (.int pe2), .val (.int pq), .val (.int pm), .val (.int pf), .val (.int rr), .val (.int rr), .val (.int v1), .val (.int v2), .val (.int v3), .val (.int w1), .val (.int w2), .val (.int a1), .val (.int b1), .val (.int a2), .val (.int b2), .val (.int qq), .val (.int md), .val (.int vi), .val (.int rd), .val (.ref mt), .unset, .unset, .unset] [(.int rz), (.ref mt)])) rfl (by rw [hml]; rfl) (Steps.refl _) (argsL := [(.int rz)]) (rest := []) (lenOf own_pd__I_V rfl) rfl (by show 2 * 0 + _ ≤ _; exact Nat.le_of_eq rfl) (hb hby at_266) (fun _ _ => ⟨rfl, rfl, (by decide : 4 + 0 ≤ _), (by decide : 59 + 0 ≤ _)⟩)
                          dsimp only [Pt.U, Pt.locs, Pt.cells, Pt.slots] at X9 l9 y9 z9 st9 hQ9
                          subst l9 y9 z9
                          obtain ⟨rfl, N9q, K9, fq9_0, fq9_1, fq9_2, fq9_3, fq9_4, fq9_5, fq9_6, fq9_7, fq9_8⟩ := hQ9
                          have N9 := Fr.app N8 N9q
                          have f9_E_mt : Exa Z T9.heap mt "com/example/handfast/handfast/algorithm/Matching" := fq8_0.keep K9
                          have z9c : n0 ≤ T9.heap.size := Nat.le_trans z8c K9.1
                          refine own_W.steps st9 ?_
                          show own_W p e (FrameEnd s) below room_1.cells room_1.slots (Q0 Z pr pe1 pe2 pq pm pf h0 n0) T9 (mkF m 269 #[.val (.int pr), .val (.int pe1), .val (.int pe2), .val (.int pq), .val (.int pm), .val (.int pf), .val (.int rr), .val (.int rr), .val (.int v1), .val (.int v2), .val (.int v3), .val (.int w1), .val (.int w2), .val (.int a1), .val (.int b1), .val (.int a2), .val (.int b2), .val (.int qq), .val (.int md), .val (.int vi), .val (.int rd), .val (.ref mt), .unset, .unset, .unset] [])
                          obtain ⟨usd, fEd, fNd, fPd, hSd, hmd_0, hmd_1, hmd_2, hmd_3⟩ : ∃ (usd : Int32) (fEd fNd fPd : Nat → Int32), own_S0 (((((6))))) usd fPd  ∧ (Fld Z T9.heap mt "com/example/handfast/handfast/algorithm/Matching" "size" "I" (.int usd)) ∧ (own_A Z T9.heap ae2 .int (16) (fun z => .int (fEd z))) ∧ (own_A Z T9.heap an2 .int (32) (fun z => .int (fNd z))) ∧ (own_A Z T9.heap ap2 .int (((((6))))) (fun z => .int (fPd z))) := ⟨_, _, _, _, own_rm1 hSc i3 i4, fq9_4, fq9_6, fq9_7, fq9_8⟩
                          refine own_iload X9 hx (hb hby at_269) (v := md) rfl (rfl : 269 + 2 = 271) ?_
                          have hc271 : ¬ (md = (0 : Int32)) := by rw [hc220]; decide
                          refine own_ifNo X9 hx (hb hby at_271) ((if0 _ _).trans (feq hc271).1) (rfl : 271 + 3 = 274) ?_
                          refine own_iload X9 hx (hb hby at_274) (v := md) rfl (rfl : 274 + 2 = 276) ?_
                          refine own_iconst X9 hx (hb hby at_276) (2 : Int32) (by first | rfl | decide) (rfl : 276 + 1 = 277) ?_
                          have hc277 : ¬ (md = (2 : Int32)) := by rw [hc220]; decide
                          refine own_icmpYes X9 hx (hb hby at_277) (feq hc277).2 (pc' := 284) (by decide) (by decide) ?_
                          refine own_iconst X9 hx (hb hby at_284) (0 : Int32) (by first | rfl | decide) (rfl : 284 + 1 = 285) ?_
                          refine own_istore X9 hx (hb hby at_285) (l' := #[.val (.int pr), .val (.int pe1), .val (.int pe2), .val (.int pq), .val (.int pm), .val (.int pf), .val (.int rr), .val (.int rr), .val (.int v1), .val (.int v2), .val (.int v3), .val (.int w1), .val (.int w2), .val (.int a1), .val (.int b1), .val (.int a2), .val (.int b2), .val (.int qq), .val (.int md), .val (.int vi), .val (.int rd), .val (.ref mt), .val (.int (0 : Int32)), .unset, .unset]) rfl (rfl : 285 + 2 = 287) ?_
                          refine own_iload X9 hx (hb hby at_287) (v := md) rfl (rfl : 287 + 2 = 289) ?_
                          have hc289 : ¬ (md = (0 : Int32)) := by rw [hc220]; decide
                          refine own_ifNo X9 hx (hb hby at_289) ((if0 _ _).trans (feq hc289).1) (rfl : 289 + 3 = 292) ?_
                          refine own_iload X9 hx (hb hby at_292) (v := md) rfl (rfl : 292 + 2 = 294) ?_
                          refine own_iconst X9 hx (hb hby at_294) (1 : Int32) (by first | rfl | decide) (rfl : 294 + 1 = 295) ?_
                          have hc295 : ¬ (md = (1 : Int32)) := by rw [hc220]; decide
                          refine own_icmpYes X9 hx (hb hby at_295) (feq hc295).2 (pc' := 302) (by decide) (by decide) ?_
                          refine own_iconst X9 hx (hb hby at_302) (0 : Int32) (by first | rfl | decide) (rfl : 302 + 1 = 303) ?_
                          refine own_istore X9 hx (hb hby at_303) (l' := #[.val (.int pr), .val (.int pe1), .val (.int pe2), .val (.int pq), .val (.int pm), .val (.int pf), .val (.int rr), .val (.int rr), .val (.int v1), .val (.int v2), .val (.int v3), .val (.int w1), .val (.int w2), .val (.int a1), .val (.int b1), .val (.int a2), .val (.int b2), .val (.int qq), .val (.int md), .val (.int vi), .val (.int rd), .val (.ref mt), .val (.int (0 : Int32)), .val (.int (0 : Int32)), .unset]) rfl (rfl : 303 + 2 = 305) ?_
                          refine own_iload X9 hx (hb hby at_305) (v := (0 : Int32)) rfl (rfl : 305 + 2 = 307) ?_
                          have hc307 : (0 : Int32) = (0 : Int32) := by decide
                          refine own_ifNo X9 hx (hb hby at_307) ((if0 _ _).trans (teq hc307).2) (rfl : 307 + 3 = 310) ?_
                          refine own_iload X9 hx (hb hby at_310) (v := rd) rfl (rfl : 310 + 2 = 312) ?_
                          by_cases hc312 : rd = (0 : Int32)
                          · skip
                            refine own_ifYes X9 hx (hb hby at_312) ((if0 _ _).trans (teq hc312).1) (pc' := 328) (by decide) (by decide) ?_
                            exact J328 ((0 : Int32)) ((0 : Int32)) (fEd) (fPd) _ _ _  X9 rfl N9 z9c fq9_0 fq9_1 fq9_3 hmd_1 hmd_3 (own_F0 hSd _ rr v1 v2 v3 pe1 pe2)
                          · skip
                            refine own_ifNo X9 hx (hb hby at_312) ((if0 _ _).trans (feq hc312).1) (rfl : 312 + 3 = 315) ?_
                            refine own_aload X9 hx (hb hby at_315) (v := (.ref mt)) rfl rfl (rfl : 315 + 2 = 317) ?_
                            refine own_iloadN X9 hx (hb hby at_317) (v := pe1) rfl (rfl : 317 + 1 = 318) ?_
                            refine own_iload X9 hx (hb hby at_318) (v := b1) rfl (rfl : 318 + 2 = 320) ?_
                            refine own_iload X9 hx (hb hby at_320) (v := a1) rfl (rfl : 320 + 2 = 322) ?_
                            obtain ⟨cq10, kq10, q10a, q10b, q10c⟩ := isOf hZ rfl fq9_0
                            obtain ⟨_, _, ⟨T10, L10, k10, n10⟩, -, X10, ⟨Lc10, hQ10, l10, y10, z10⟩, st10⟩ := X9.virtualBack hx (y := (⟨"com/example/handfast/handfast/algorithm/Matching", "add", "(III)V"⟩ : MethodName)) (z := (⟨"com/example/handfast/handfast/algorithm/Matching", "add", "(III)V"⟩ : MethodName)) hown (mvT hZ (hw _ (List.mem_of_getElem? (i := 21) rfl))) (mvT hZ (hw _ (List.mem_of_getElem? (i := 22) rfl))) (notFace_of_selects (args := #[]) (mvT hZ (hw _ (List.mem_of_getElem? (i := 24) rfl)))) (mvT hZ (hw _ (List.mem_of_getElem? (i := 24) rfl))) (mvT hZ (hw _ (List.mem_of_getElem? (i := 23) rfl))) (by decide) (backOf (W := 0) (rm4 l Z a0 hw [] mt pe1 b1 a1 ae2 an2 ap2 usd (((((6))))) fEd fNd fPd 0 (b1.toInt.toNat) (a1.toInt.toNat) T9.heap n0 z9c fq9_0 fq9_1 fq9_2 fq9_3 hmd_0 fq9_5 hmd_1 hmd_2 hmd_3 g_mt g_ae2 g_an2 g_ap2 (hne_2) (⟨hSd.1, by decide⟩) (i2) (i1)) hZ (hw _ (List.mem_of_getElem? (i := 25) rfl)) (hw _ (List.mem_of_getElem? (i := 3) rfl)) (by decide) (by decide)) q10a q10c (g := (mkF m 322 #[.val (.int pr), .val (.int pe1), .val (.int pe2), .val (.int pq), .val (.int pm), .val (.int pf), .val (.int rr), .val (.int rr), .val (.int v1), .val (.int v2), .val (.int v3), .val (.int w1), .val (.int w2), .val (.int a1), .val (.int b1), .val (.int a2), .val (.int b2), .val (.int qq), .val (.int md), .val (.int vi), .val (.int rd), .val (.ref mt), .val (.int (0 : Int32)), .val (.int (0 : Int32)), .unset] [(.int a1), (.int b1), (.int pe1), (.ref mt)])) rfl (by rw [hml]; rfl) (Steps.refl _) (argsL := [(.int pe1), (.int b1), (.int a1)]) (rest := []) (lenOf own_pd__III_V rfl) rfl (by show 2 * 0 + _ ≤ _; exact Nat.le_of_eq rfl) (hb hby at_322) (fun _ _ => ⟨rfl, rfl, (by decide : 4 + 0 ≤ _), (by decide : 59 + 0 ≤ _)⟩)
                            dsimp only [Pt.U, Pt.locs, Pt.cells, Pt.slots] at X10 l10 y10 z10 st10 hQ10
                            subst l10 y10 z10
                            obtain ⟨rfl, N10q, K10, fq10_0, fq10_1, fq10_2, fq10_3, fq10_4, fq10_5, fq10_6, fq10_7, fq10_8⟩ := hQ10
                            have N10 := Fr.app N9 N10q
                            have f10_E_mt : Exa Z T10.heap mt "com/example/handfast/handfast/algorithm/Matching" := fq9_0.keep K10
                            have z10c : n0 ≤ T10.heap.size := Nat.le_trans z9c K10.1
                            refine own_W.steps st10 ?_
                            show own_W p e (FrameEnd s) below room_1.cells room_1.slots (Q0 Z pr pe1 pe2 pq pm pf h0 n0) T10 (mkF m 325 #[.val (.int pr), .val (.int pe1), .val (.int pe2), .val (.int pq), .val (.int pm), .val (.int pf), .val (.int rr), .val (.int rr), .val (.int v1), .val (.int v2), .val (.int v3), .val (.int w1), .val (.int w2), .val (.int a1), .val (.int b1), .val (.int a2), .val (.int b2), .val (.int qq), .val (.int md), .val (.int vi), .val (.int rd), .val (.ref mt), .val (.int (0 : Int32)), .val (.int (0 : Int32)), .unset] [])
                            obtain ⟨usf, fEf, fNf, fPf, hSf, hmf_0, hmf_1, hmf_2, hmf_3⟩ : ∃ (usf : Int32) (fEf fNf fPf : Nat → Int32), own_S1 ((((((6)))))) usf fEf fNf fPf pe1 b1 a1 ∧ (Fld Z T10.heap mt "com/example/handfast/handfast/algorithm/Matching" "size" "I" (.int usf)) ∧ (own_A Z T10.heap ae2 .int (16) (fun z => .int (fEf z))) ∧ (own_A Z T10.heap an2 .int (32) (fun z => .int (fNf z))) ∧ (own_A Z T10.heap ap2 .int ((((((6)))))) (fun z => .int (fPf z))) := ⟨_, _, _, _, own_add0 hSd pe1 b1 a1 i2 i1, fq10_4, fq10_6, fq10_7, fq10_8⟩
                            refine own_iconst X10 hx (hb hby at_325) (1 : Int32) (by first | rfl | decide) (rfl : 325 + 1 = 326) ?_
                            refine own_istore X10 hx (hb hby at_326) (l' := #[.val (.int pr), .val (.int pe1), .val (.int pe2), .val (.int pq), .val (.int pm), .val (.int pf), .val (.int rr), .val (.int rr), .val (.int v1), .val (.int v2), .val (.int v3), .val (.int w1), .val (.int w2), .val (.int a1), .val (.int b1), .val (.int a2), .val (.int b2), .val (.int qq), .val (.int md), .val (.int vi), .val (.int rd), .val (.ref mt), .val (.int (1 : Int32)), .val (.int (0 : Int32)), .unset]) rfl (rfl : 326 + 2 = 328) ?_
                            exact J328 ((1 : Int32)) ((0 : Int32)) (fEf) (fPf) _ _ _  X10 rfl N10 z10c fq10_0 fq10_1 fq10_3 hmf_1 hmf_3 (own_F1 hSf (own_absym ab1) v2 v3 pe2)
                        by_cases hc256 : vi = (0 : Int32)
                        · skip
                          refine own_ifYes X8 hx (hb hby at_256) ((if0 _ _).trans (teq hc256).1) (pc' := 264) (by decide) (by decide) ?_
                          refine own_iload X8 hx (hb hby at_264) (v := a2) rfl (rfl : 264 + 2 = 266) ?_
                          exact J266 (a2)   (Or.inl rfl)
                        · skip
                          refine own_ifNo X8 hx (hb hby at_256) ((if0 _ _).trans (feq hc256).1) (rfl : 256 + 3 = 259) ?_
                          refine own_iload X8 hx (hb hby at_259) (v := b2) rfl (rfl : 259 + 2 = 261) ?_
                          refine own_goto X8 hx (hb hby at_261) (pc' := 266) (by decide) (by decide) ?_
                          exact J266 (b2)   (Or.inr rfl)
                      by_cases hc227 : vi = (0 : Int32)
                      · skip
                        refine own_ifYes X4 hx (hb hby at_227) ((if0 _ _).trans (teq hc227).1) (pc' := 235) (by decide) (by decide) ?_
                        refine own_iload X4 hx (hb hby at_235) (v := a1) rfl (rfl : 235 + 2 = 237) ?_
                        exact J237 (a1)   (Or.inl rfl)
                      · skip
                        refine own_ifNo X4 hx (hb hby at_227) ((if0 _ _).trans (feq hc227).1) (rfl : 227 + 3 = 230) ?_
                        refine own_iload X4 hx (hb hby at_230) (v := b1) rfl (rfl : 230 + 2 = 232) ?_
                        refine own_goto X4 hx (hb hby at_232) (pc' := 237) (by decide) (by decide) ?_
                        exact J237 (b1)   (Or.inr rfl)
                    · skip
                      refine own_icmpYes X4 hx (hb hby at_220) (feq hc220).2 (pc' := 240) (by decide) (by decide) ?_
                      refine own_iload X4 hx (hb hby at_240) (v := md) rfl (rfl : 240 + 2 = 242) ?_
                      refine own_iconst X4 hx (hb hby at_242) (2 : Int32) (by first | rfl | decide) (rfl : 242 + 1 = 243) ?_
                      by_cases hc243 : md = (2 : Int32)
                      · skip
                        refine own_icmpYes X4 hx (hb hby at_243) (teq hc243).1 (pc' := 252) (by decide) (by decide) ?_
                        refine own_aload X4 hx (hb hby at_252) (v := (.ref mt)) rfl rfl (rfl : 252 + 2 = 254) ?_
                        refine own_iload X4 hx (hb hby at_254) (v := vi) rfl (rfl : 254 + 2 = 256) ?_
                        have J266 : ∀ (rz : Int32), ∀ (hrw : rz = a2 ∨ rz = b2), own_W p e (FrameEnd s) below room_1.cells room_1.slots (Q0 Z pr pe1 pe2 pq pm pf h0 n0) T4 (mkF m 266 #[.val (.int pr), .val (.int pe1), .val (.int pe2), .val (.int pq), .val (.int pm), .val (.int pf), .val (.int rr), .val (.int rr), .val (.int v1), .val (.int v2), .val (.int v3), .val (.int w1), .val (.int w2), .val (.int a1), .val (.int b1), .val (.int a2), .val (.int b2), .val (.int qq), .val (.int md), .val (.int vi), .val (.int rd), .val (.ref mt), .unset, .unset, .unset] [(.int rz), (.ref mt)]) := by
                          intro rz hrw
                          obtain ⟨cq11, kq11, q11a, q11b, q11c⟩ := isOf hZ rfl fq4_0
                          obtain ⟨_, _, ⟨T11, L11, k11, n11⟩, -, X11, ⟨Lc11, hQ11, l11, y11, z11⟩, st11⟩ := X4.virtualBack hx (y := (⟨"com/example/handfast/handfast/algorithm/Matching", "removeAt", "(I)V"⟩ : MethodName)) (z := (⟨"com/example/handfast/handfast/algorithm/Matching", "removeAt", "(I)V"⟩ : MethodName)) hown (mvT hZ (hw _ (List.mem_of_getElem? (i := 35) rfl))) (mvT hZ (hw _ (List.mem_of_getElem? (i := 36) rfl))) (notFace_of_selects (args := #[]) (mvT hZ (hw _ (List.mem_of_getElem? (i := 38) rfl)))) (mvT hZ (hw _ (List.mem_of_getElem? (i := 38) rfl))) (mvT hZ (hw _ (List.mem_of_getElem? (i := 37) rfl))) (by decide) (backOf (W := 0) (rm6l l Z a0 hw [] mt rz ae2 an2 ap2 usb (((6))) fEb fNb fPb 2 (rz.toInt.toNat) 1 1 (a2.toInt.toNat) (b2.toInt.toNat) T4.heap n0 z4c fq4_0 fq4_1 fq4_2 fq4_3 hmb_0 fq4_5 hmb_1 hmb_2 hmb_3 g_mt g_ae2 g_an2 g_ap2 (hne_2) ((show own_In rz rz.toInt.toNat 6 by rcases hrw with rfl | rfl ; exact i3; exact i4)) ((show own_In (fPb rz.toInt.toNat) 1 8 from ⟨by rw [(hSb.2.2.2.2.2.2.2 rz.toInt.toNat (by rcases hrw with rfl | rfl <;> omega)).2.1 (by rcases hrw with rfl | rfl <;> omega)]; decide, by decide⟩)) (⟨hSb.1, by decide⟩) ((show own_In (fNb 2) a2.toInt.toNat 6 by rw [hSb.2.2.2.2.2.1]; exact i3)) ((show own_In (fNb 3) b2.toInt.toNat 6 by rw [hSb.2.2.2.2.2.2.1]; exact i4)) (rfl) (rfl)) hZ (hw _ (List.mem_of_getElem? (i := 39) rfl)) (hw _ (List.mem_of_getElem? (i := 3) rfl)) (by decide) (by decide)) q11a q11c (g := (mkF m 266 #[.val (.int pr), .val (.int pe1), .val (.int pe2), .val (.int pq), .val (.int pm), .val (.int pf), .val (.int rr), .val (.int rr), .val (.int v1), .val (.int v2), .val (.int v3), .val (.int w1), .val (.int w2), .val (.int a1), .val (.int b1), .val (.int a2), .val (.int b2), .val (.int qq), .val (.int md), .val (.int vi), .val (.int rd), .val (.ref mt), .unset, .unset, .unset] [(.int rz), (.ref mt)])) rfl (by rw [hml]; rfl) (Steps.refl _) (argsL := [(.int rz)]) (rest := []) (lenOf own_pd__I_V rfl) rfl (by show 2 * 0 + _ ≤ _; exact Nat.le_of_eq rfl) (hb hby at_266) (fun _ _ => ⟨rfl, rfl, (by decide : 4 + 0 ≤ _), (by decide : 59 + 0 ≤ _)⟩)
                          dsimp only [Pt.U, Pt.locs, Pt.cells, Pt.slots] at X11 l11 y11 z11 st11 hQ11
                          subst l11 y11 z11
                          obtain ⟨rfl, N11q, K11, fq11_0, fq11_1, fq11_2, fq11_3, fq11_4, fq11_5, fq11_6, fq11_7, fq11_8⟩ := hQ11
                          have N11 := Fr.app N4 N11q
                          have f11_E_mt : Exa Z T11.heap mt "com/example/handfast/handfast/algorithm/Matching" := fq4_0.keep K11
                          have z11c : n0 ≤ T11.heap.size := Nat.le_trans z4c K11.1
                          refine own_W.steps st11 ?_
                          show own_W p e (FrameEnd s) below room_1.cells room_1.slots (Q0 Z pr pe1 pe2 pq pm pf h0 n0) T11 (mkF m 269 #[.val (.int pr), .val (.int pe1), .val (.int pe2), .val (.int pq), .val (.int pm), .val (.int pf), .val (.int rr), .val (.int rr), .val (.int v1), .val (.int v2), .val (.int v3), .val (.int w1), .val (.int w2), .val (.int a1), .val (.int b1), .val (.int a2), .val (.int b2), .val (.int qq), .val (.int md), .val (.int vi), .val (.int rd), .val (.ref mt), .unset, .unset, .unset] [])
                          obtain ⟨usd, fEd, fNd, fPd, hSd, hmd_0, hmd_1, hmd_2, hmd_3⟩ : ∃ (usd : Int32) (fEd fNd fPd : Nat → Int32), own_S1 ((((6)))) usd fEd fNd fPd pe1 a1 b1 ∧ (Fld Z T11.heap mt "com/example/handfast/handfast/algorithm/Matching" "size" "I" (.int usd)) ∧ (own_A Z T11.heap ae2 .int (16) (fun z => .int (fEd z))) ∧ (own_A Z T11.heap an2 .int (32) (fun z => .int (fNd z))) ∧ (own_A Z T11.heap ap2 .int ((((6)))) (fun z => .int (fPd z))) := ⟨_, _, _, _, own_rm2l hSb i3 i4 (by omega), fq11_4, fq11_6, fq11_7, fq11_8⟩
                          refine own_iload X11 hx (hb hby at_269) (v := md) rfl (rfl : 269 + 2 = 271) ?_
                          have hc271 : ¬ (md = (0 : Int32)) := by rw [hc243]; decide
                          refine own_ifNo X11 hx (hb hby at_271) ((if0 _ _).trans (feq hc271).1) (rfl : 271 + 3 = 274) ?_
                          refine own_iload X11 hx (hb hby at_274) (v := md) rfl (rfl : 274 + 2 = 276) ?_
                          refine own_iconst X11 hx (hb hby at_276) (2 : Int32) (by first | rfl | decide) (rfl : 276 + 1 = 277) ?_
                          have hc277 : md = (2 : Int32) := hc243
                          refine own_icmpNo X11 hx (hb hby at_277) (teq hc277).2 (rfl : 277 + 3 = 280) ?_
                          refine own_iconst X11 hx (hb hby at_280) (1 : Int32) (by first | rfl | decide) (rfl : 280 + 1 = 281) ?_
                          refine own_goto X11 hx (hb hby at_281) (pc' := 285) (by decide) (by decide) ?_
                          refine own_istore X11 hx (hb hby at_285) (l' := #[.val (.int pr), .val (.int pe1), .val (.int pe2), .val (.int pq), .val (.int pm), .val (.int pf), .val (.int rr), .val (.int rr), .val (.int v1), .val (.int v2), .val (.int v3), .val (.int w1), .val (.int w2), .val (.int a1), .val (.int b1), .val (.int a2), .val (.int b2), .val (.int qq), .val (.int md), .val (.int vi), .val (.int rd), .val (.ref mt), .val (.int (1 : Int32)), .unset, .unset]) rfl (rfl : 285 + 2 = 287) ?_
                          refine own_iload X11 hx (hb hby at_287) (v := md) rfl (rfl : 287 + 2 = 289) ?_
                          have hc289 : ¬ (md = (0 : Int32)) := by rw [hc243]; decide
                          refine own_ifNo X11 hx (hb hby at_289) ((if0 _ _).trans (feq hc289).1) (rfl : 289 + 3 = 292) ?_
                          refine own_iload X11 hx (hb hby at_292) (v := md) rfl (rfl : 292 + 2 = 294) ?_
                          refine own_iconst X11 hx (hb hby at_294) (1 : Int32) (by first | rfl | decide) (rfl : 294 + 1 = 295) ?_
                          have hc295 : ¬ (md = (1 : Int32)) := by rw [hc243]; decide
                          refine own_icmpYes X11 hx (hb hby at_295) (feq hc295).2 (pc' := 302) (by decide) (by decide) ?_
                          refine own_iconst X11 hx (hb hby at_302) (0 : Int32) (by first | rfl | decide) (rfl : 302 + 1 = 303) ?_
                          refine own_istore X11 hx (hb hby at_303) (l' := #[.val (.int pr), .val (.int pe1), .val (.int pe2), .val (.int pq), .val (.int pm), .val (.int pf), .val (.int rr), .val (.int rr), .val (.int v1), .val (.int v2), .val (.int v3), .val (.int w1), .val (.int w2), .val (.int a1), .val (.int b1), .val (.int a2), .val (.int b2), .val (.int qq), .val (.int md), .val (.int vi), .val (.int rd), .val (.ref mt), .val (.int (1 : Int32)), .val (.int (0 : Int32)), .unset]) rfl (rfl : 303 + 2 = 305) ?_
                          refine own_iload X11 hx (hb hby at_305) (v := (1 : Int32)) rfl (rfl : 305 + 2 = 307) ?_
                          have hc307 : ¬ ((1 : Int32) = (0 : Int32)) := by decide
                          refine own_ifYes X11 hx (hb hby at_307) ((if0 _ _).trans (feq hc307).2) (pc' := 328) (by decide) (by decide) ?_
                          exact J328 ((1 : Int32)) ((0 : Int32)) (fEd) (fPd) _ _ _  X11 rfl N11 z11c fq11_0 fq11_1 fq11_3 hmd_1 hmd_3 (own_F1 hSd ab1 v2 v3 pe2)
                        by_cases hc256 : vi = (0 : Int32)
                        · skip
                          refine own_ifYes X4 hx (hb hby at_256) ((if0 _ _).trans (teq hc256).1) (pc' := 264) (by decide) (by decide) ?_
                          refine own_iload X4 hx (hb hby at_264) (v := a2) rfl (rfl : 264 + 2 = 266) ?_
                          exact J266 (a2)   (Or.inl rfl)
                        · skip
                          refine own_ifNo X4 hx (hb hby at_256) ((if0 _ _).trans (feq hc256).1) (rfl : 256 + 3 = 259) ?_
                          refine own_iload X4 hx (hb hby at_259) (v := b2) rfl (rfl : 259 + 2 = 261) ?_
                          refine own_goto X4 hx (hb hby at_261) (pc' := 266) (by decide) (by decide) ?_
                          exact J266 (b2)   (Or.inr rfl)
                      · skip
                        refine own_icmpNo X4 hx (hb hby at_243) (feq hc243).1 (rfl : 243 + 3 = 246) ?_
                        refine own_iload X4 hx (hb hby at_246) (v := md) rfl (rfl : 246 + 2 = 248) ?_
                        refine own_iconst X4 hx (hb hby at_248) (3 : Int32) (by first | rfl | decide) (rfl : 248 + 1 = 249) ?_
                        have hc249 : ¬ (md = (3 : Int32)) := hc220
                        refine own_icmpYes X4 hx (hb hby at_249) (feq hc249).2 (pc' := 269) (by decide) (by decide) ?_
                        refine own_iload X4 hx (hb hby at_269) (v := md) rfl (rfl : 269 + 2 = 271) ?_
                        have hc271 : md = (0 : Int32) := by rcases hmd4 with q | q | q | q <;> first | exact q | contradiction
                        refine own_ifYes X4 hx (hb hby at_271) ((if0 _ _).trans (teq hc271).1) (pc' := 280) (by decide) (by decide) ?_
                        refine own_iconst X4 hx (hb hby at_280) (1 : Int32) (by first | rfl | decide) (rfl : 280 + 1 = 281) ?_
                        refine own_goto X4 hx (hb hby at_281) (pc' := 285) (by decide) (by decide) ?_
                        refine own_istore X4 hx (hb hby at_285) (l' := #[.val (.int pr), .val (.int pe1), .val (.int pe2), .val (.int pq), .val (.int pm), .val (.int pf), .val (.int rr), .val (.int rr), .val (.int v1), .val (.int v2), .val (.int v3), .val (.int w1), .val (.int w2), .val (.int a1), .val (.int b1), .val (.int a2), .val (.int b2), .val (.int qq), .val (.int md), .val (.int vi), .val (.int rd), .val (.ref mt), .val (.int (1 : Int32)), .unset, .unset]) rfl (rfl : 285 + 2 = 287) ?_
                        refine own_iload X4 hx (hb hby at_287) (v := md) rfl (rfl : 287 + 2 = 289) ?_
                        have hc289 : md = (0 : Int32) := hc271
                        refine own_ifYes X4 hx (hb hby at_289) ((if0 _ _).trans (teq hc289).1) (pc' := 298) (by decide) (by decide) ?_
                        refine own_iconst X4 hx (hb hby at_298) (1 : Int32) (by first | rfl | decide) (rfl : 298 + 1 = 299) ?_
                        refine own_goto X4 hx (hb hby at_299) (pc' := 303) (by decide) (by decide) ?_
                        refine own_istore X4 hx (hb hby at_303) (l' := #[.val (.int pr), .val (.int pe1), .val (.int pe2), .val (.int pq), .val (.int pm), .val (.int pf), .val (.int rr), .val (.int rr), .val (.int v1), .val (.int v2), .val (.int v3), .val (.int w1), .val (.int w2), .val (.int a1), .val (.int b1), .val (.int a2), .val (.int b2), .val (.int qq), .val (.int md), .val (.int vi), .val (.int rd), .val (.ref mt), .val (.int (1 : Int32)), .val (.int (1 : Int32)), .unset]) rfl (rfl : 303 + 2 = 305) ?_
                        refine own_iload X4 hx (hb hby at_305) (v := (1 : Int32)) rfl (rfl : 305 + 2 = 307) ?_
                        have hc307 : ¬ ((1 : Int32) = (0 : Int32)) := by decide
                        refine own_ifYes X4 hx (hb hby at_307) ((if0 _ _).trans (feq hc307).2) (pc' := 328) (by decide) (by decide) ?_
                        exact J328 ((1 : Int32)) ((1 : Int32)) (fEb) (fPb) _ _ _  X4 rfl N4 z4c fq4_0 fq4_1 fq4_3 hmb_1 hmb_3 (own_F2 hSb ab1 ab2)
                by_cases hc170 : (((pf.toUInt32 >>> ((4 : Int32) &&& 31).toUInt32).toInt32) &&& (1 : Int32)) = (0 : Int32)
                · skip
                  refine own_ifYes X0 hx (hb hby at_170) ((if0 _ _).trans (teq hc170).1) (pc' := 177) (by decide) (by decide) ?_
                  refine own_iconst X0 hx (hb hby at_177) (0 : Int32) (by first | rfl | decide) (rfl : 177 + 1 = 178) ?_
                  exact J178 ((0 : Int32))   
                · skip
                  refine own_ifNo X0 hx (hb hby at_170) ((if0 _ _).trans (feq hc170).1) (rfl : 170 + 3 = 173) ?_
                  refine own_iconst X0 hx (hb hby at_173) (1 : Int32) (by first | rfl | decide) (rfl : 173 + 1 = 174) ?_
                  refine own_goto X0 hx (hb hby at_174) (pc' := 178) (by decide) (by decide) ?_
                  exact J178 ((1 : Int32))   
              by_cases hc154 : (((pf.toUInt32 >>> ((3 : Int32) &&& 31).toUInt32).toInt32) &&& (1 : Int32)) = (0 : Int32)
              · skip
                refine own_ifYes X0 hx (hb hby at_154) ((if0 _ _).trans (teq hc154).1) (pc' := 161) (by decide) (by decide) ?_
                refine own_iconst X0 hx (hb hby at_161) (0 : Int32) (by first | rfl | decide) (rfl : 161 + 1 = 162) ?_
                exact J162 ((0 : Int32))   
              · skip
                refine own_ifNo X0 hx (hb hby at_154) ((if0 _ _).trans (feq hc154).1) (rfl : 154 + 3 = 157) ?_
                refine own_iconst X0 hx (hb hby at_157) (1 : Int32) (by first | rfl | decide) (rfl : 157 + 1 = 158) ?_
                refine own_goto X0 hx (hb hby at_158) (pc' := 162) (by decide) (by decide) ?_
                exact J162 ((1 : Int32))   
            by_cases hc121 : w2 = (0 : Int32)
            · skip
              refine own_ifYes X0 hx (hb hby at_121) ((if0 _ _).trans (teq hc121).1) (pc' := 129) (by decide) (by decide) ?_
              refine own_iload X0 hx (hb hby at_129) (v := v3) rfl (rfl : 129 + 2 = 131) ?_
              exact J131 (v3)   (by simp only [if_pos hc121])
            · skip
              refine own_ifNo X0 hx (hb hby at_121) ((if0 _ _).trans (feq hc121).1) (rfl : 121 + 3 = 124) ?_
              refine own_iload X0 hx (hb hby at_124) (v := v2) rfl (rfl : 124 + 2 = 126) ?_
              refine own_goto X0 hx (hb hby at_126) (pc' := 131) (by decide) (by decide) ?_
              exact J131 (v2)   (by simp only [if_neg hc121])
          by_cases hc107 : w2 = (0 : Int32)
          · skip
            refine own_ifYes X0 hx (hb hby at_107) ((if0 _ _).trans (teq hc107).1) (pc' := 115) (by decide) (by decide) ?_
            refine own_iload X0 hx (hb hby at_115) (v := v2) rfl (rfl : 115 + 2 = 117) ?_
            exact J117 (v2)   (by simp only [if_pos hc107])
          · skip
            refine own_ifNo X0 hx (hb hby at_107) ((if0 _ _).trans (feq hc107).1) (rfl : 107 + 3 = 110) ?_
            refine own_iload X0 hx (hb hby at_110) (v := v3) rfl (rfl : 110 + 2 = 112) ?_
            refine own_goto X0 hx (hb hby at_112) (pc' := 117) (by decide) (by decide) ?_
            exact J117 (v3)   (by simp only [if_neg hc107])
        by_cases hc93 : w1 = (0 : Int32)
        · skip
          refine own_ifYes X0 hx (hb hby at_93) ((if0 _ _).trans (teq hc93).1) (pc' := 101) (by decide) (by decide) ?_
          refine own_iload X0 hx (hb hby at_101) (v := v1) rfl (rfl : 101 + 2 = 103) ?_
          exact J103 (v1)   (by simp only [if_pos hc93])
        · skip
          refine own_ifNo X0 hx (hb hby at_93) ((if0 _ _).trans (feq hc93).1) (rfl : 93 + 3 = 96) ?_
          refine own_iload X0 hx (hb hby at_96) (v := rr) rfl (rfl : 96 + 2 = 98) ?_
          refine own_goto X0 hx (hb hby at_98) (pc' := 103) (by decide) (by decide) ?_
          exact J103 (rr)   (by simp only [if_neg hc93])
      by_cases hc79 : w1 = (0 : Int32)
      · skip
        refine own_ifYes X0 hx (hb hby at_79) ((if0 _ _).trans (teq hc79).1) (pc' := 87) (by decide) (by decide) ?_
        refine own_iload X0 hx (hb hby at_87) (v := rr) rfl (rfl : 87 + 2 = 89) ?_
        exact J89 (rr)   (by simp only [if_pos hc79])
      · skip
        refine own_ifNo X0 hx (hb hby at_79) ((if0 _ _).trans (feq hc79).1) (rfl : 79 + 3 = 82) ?_
        refine own_iload X0 hx (hb hby at_82) (v := v1) rfl (rfl : 82 + 2 = 84) ?_
        refine own_goto X0 hx (hb hby at_84) (pc' := 89) (by decide) (by decide) ?_
        exact J89 (v1)   (by simp only [if_neg hc79])
    by_cases hc67 : (((pf.toUInt32 >>> ((1 : Int32) &&& 31).toUInt32).toInt32) &&& (1 : Int32)) = (0 : Int32)
    · skip
      refine own_ifYes X0 hx (hb hby at_67) ((if0 _ _).trans (teq hc67).1) (pc' := 74) (by decide) (by decide) ?_
      refine own_iconst X0 hx (hb hby at_74) (0 : Int32) (by first | rfl | decide) (rfl : 74 + 1 = 75) ?_
      exact J75 ((0 : Int32))   
    · skip
      refine own_ifNo X0 hx (hb hby at_67) ((if0 _ _).trans (feq hc67).1) (rfl : 67 + 3 = 70) ?_
      refine own_iconst X0 hx (hb hby at_70) (1 : Int32) (by first | rfl | decide) (rfl : 70 + 1 = 71) ?_
      refine own_goto X0 hx (hb hby at_71) (pc' := 75) (by decide) (by decide) ?_
      exact J75 ((1 : Int32))   
  by_cases hc51 : (pf &&& (1 : Int32)) = (0 : Int32)
  · skip
    refine own_ifYes X0 hx (hb hby at_51) ((if0 _ _).trans (teq hc51).1) (pc' := 58) (by decide) (by decide) ?_
    refine own_iconst X0 hx (hb hby at_58) (0 : Int32) (by first | rfl | decide) (rfl : 58 + 1 = 59) ?_
    exact J59 ((0 : Int32))   
  · skip
    refine own_ifNo X0 hx (hb hby at_51) ((if0 _ _).trans (feq hc51).1) (rfl : 51 + 3 = 54) ?_
    refine own_iconst X0 hx (hb hby at_54) (1 : Int32) (by first | rfl | decide) (rfl : 54 + 1 = 55) ?_
    refine own_goto X0 hx (hb hby at_55) (pc' := 59) (by decide) (by decide) ?_
    exact J59 ((1 : Int32))   
set_option maxRecDepth 65536 in
set_option maxHeartbeats 40000000 in
theorem comes_1 {Post : Tables → Env → Array Value → State → Outcome → State → Prop} (hpost : ∀ tb e args s v u, (limb_1_1.after args s (.returned v) u = true ∧ limb_1_2.after args s (.returned v) u = true ∧ True) → FrameEnd s (.returned v) u (Jvm.fieldLocs frame_1_writes args s ++ Jvm.arrayLocs frame_1_arrays args s ++ Jvm.staticLocs frame_1_statics s) 16 192 → Post tb e args s (.returned v) u) :
    ArmFor flags0 classFile x code maxLocals ret World_1 tables_1 room_1 Calls_1 rest_1 Pre_1 Post := by
  intro l hfl _ _ p e ha hc hk s m args below hf hA hF happ hP
  obtain ⟨hcalls, hrest, hpre⟩ := hP
  obtain ⟨-, -, -, hnamed, -, -, -, hat⟩ := (Spec.applies_iff hf).mp happ
  obtain ⟨hg, hn⟩ := and_e (Cond.before_iff.mp (show (Jvm.Cond.and given_1 narrow_1).before args s = true from hpre))
  obtain ⟨hg0, hr0⟩ := and_e hg
  obtain ⟨hg1, hr1⟩ := and_e hr0
  obtain ⟨hg2, hr2⟩ := and_e hr1
  obtain ⟨hg3, hr3⟩ := and_e hr2
  obtain ⟨hg4, hr4⟩ := and_e hr3
  obtain ⟨hg5, hr5⟩ := and_e hr4
  obtain ⟨w0, w1, w2, w3, w4, w5, rfl⟩ : ∃ w0 w1 w2 w3 w4 w5 : Value, args = #[w0, w1, w2, w3, w4, w5] := by
    have hs : args.size = 6 := by simpa [Cond.value, given_1] using hg0
    obtain ⟨L⟩ := args
    match L, hs with
    | [w0, w1, w2, w3, w4, w5], _ => exact ⟨w0, w1, w2, w3, w4, w5, rfl⟩
  have hw := fun d (hd : d ∈ tables_1) => atoms_spec (ws := Jvm.Cond.code x code maxLocals ret :: tables_1) hat d (List.mem_cons_of_mem _ hd)
  obtain ⟨i0, ei0⟩ := is_v hg1
  obtain rfl : w0 = (.int i0) := Option.some.inj ei0
  obtain ⟨i1, ei1⟩ := is_v hg2
  obtain rfl : w1 = (.int i1) := Option.some.inj ei1
  obtain ⟨i2, ei2⟩ := is_v hg3
  obtain rfl : w2 = (.int i2) := Option.some.inj ei2
  obtain ⟨i3, ei3⟩ := is_v hg4
  obtain rfl : w3 = (.int i3) := Option.some.inj ei3
  obtain ⟨i4, ei4⟩ := is_v hg5
  obtain rfl : w4 = (.int i4) := Option.some.inj ei4
  obtain ⟨i5, ei5⟩ := is_v hr5
  obtain rfl : w5 = (.int i5) := Option.some.inj ei5
  obtain ⟨n, o, h1, h2, h3, _, L, rfl, ⟨rfl, N⟩, hq⟩ := rm0 l s _ hw tables_1 i0 i1 i2 i3 i4 i5 s.heap s.heap.size (Nat.le_refl _) p e ha hc hk s m _ below hf ((Spec.applies_iff_loose hf).mp happ).1 ⟨rfl, State.Warmed39.refl s, rfl⟩ trivial
  refine ⟨n, _, h1, h2, h3, hpost _ _ _ _ _ _ ⟨Cond.after_iff.mpr rfl, Cond.after_iff.mpr (eq_i res_at (Term.int_eval (1)) rfl), trivial⟩ ⟨hq.1, hq.2.1, (hq.2.2.sift fun y hy => Or.inr (N y hy)).mono (by decide) (by decide)⟩⟩
theorem main_1_1 : Claimed_1_1 := comes_1 fun _ _ _ _ _ _ h hF => ⟨h.1, hF⟩
theorem main_1_2 : Claimed_1_2 := comes_1 fun _ _ _ _ _ _ h hF => ⟨h.2.1, hF⟩
end Jvm.Pilot.@@N@@
namespace Jvm.Pilot.@@N@@
open Jvm Jvm.ClassFile Sem Op Lib Jvm.Free Jvm.Stand Jvm.Pilot.@@N@@.Jvm.D
/-! MADE BY PROGRAM (witnessworld.py) out of the Statement's table words and the real class files: 10 classes; the members and pool entries that the words name. The judged class is class 1, her method 1. -/
namespace start1
open Jvm.ClassFile
def u (s : String) : CpInfo := .utf8 (stringToUtf16 s)
/-- a pool by its gaps: so many unusable entries, then the entry; so many at the end -/
def gap : Nat → List CpInfo → List CpInfo
  | 0, r => r
  | n + 1, r => .unusable :: gap n r
def poolList (es : List (Nat × CpInfo)) (last : Nat) : List CpInfo := es.foldr (fun e r => gap e.1 (e.2 :: r)) (gap last [])
def pool (es : List (Nat × CpInfo)) (last : Nat) : Array CpInfo := ⟨poolList es last⟩
def fileOf (pool : Array CpInfo) (this : Nat) (attrs : Array Attribute := #[]) (ms : Array MethodInfo := #[]) (fl : Nat := 33) (sup : Nat := 0) (ifs : Array Nat := #[]) (fds : Array FieldInfo := #[]) : ClassFile where
  minorVersion := 0
  majorVersion := 65
  constantPool := pool
  accessFlags := fl
  thisClass := this
  superClass := sup
  interfaces := ifs
  fields := fds
  methods := ms
  attributes := attrs
def plain (name : String) (sup : Option ClassId) : Class where
  name := name
  kind := .ordinary
  loader := none
  accessFlags := 33
  super := sup
  interfaces := #[]
  cf := none
  fields := #[]
  methods := #[]
  instanceTypes := #[]
  staticTypes := #[]
  resolved := #[]
  callSites := []
  init := .initialized
  statics := none
  mirror := none

def pool0 : Array CpInfo := pool [(5, u "<init>"), (0, u "()V"), (1, .class_ 10), (1, u "java/lang/Object")] 113

def k0c0 : Code := { maxStack := 0, maxLocals := 1, code := object_method_1_code, exceptionTable := #[], attributes := #[] }
def k0m0 : Method := { name := "<init>", desc := "()V", sig := { parameters := [], returnType := none }, accessFlags := 1, code := some k0c0 }
/-- java/lang/Object -/
def k0 : Class := { plain "java/lang/Object" none with
  accessFlags := 33
  interfaces := #[]
  cf := some (fileOf pool0 8 #[] #[{ accessFlags := 1, nameIndex := 5, descriptorIndex := 6, attributes := #[] }] 33 0 #[] #[])
  fields := #[]
  methods := #[k0m0]
  instanceTypes := #[]
  staticTypes := #[]
  resolved := Array.replicate 124 none
  statics := none }

def pool1 : Array CpInfo := pool [(2, .class_ 4), (1, u "java/lang/Object"), (0, u "<init>"), (0, u "()V"), (0, .integer 2147483647), (0, .class_ 9), (0, u "com/example/handfast/handfast/algorithm/Matching"), (0, .methodref 8 11), (0, .nameAndType 5 12), (0, u "(I)V"), (0, .methodref 8 14), (0, .nameAndType 15 16), (0, u "add"), (0, u "(III)V"), (0, .methodref 8 18), (0, .nameAndType 19 12), (0, u "removeAt"), (0, .methodref 8 21), (0, .nameAndType 22 23), (0, u "at"), (0, u "(I)I"), (0, .class_ 25), (0, u "com/example/handfast/handfast/algorithm/MatchingAtPinLaw"), (2, u "law"), (0, u "(IIIIII)Z")] 3

def k1m0 : Method := { name := "<init>", desc := "()V", sig := { parameters := [], returnType := none }, accessFlags := 1, code := none }
def k1c1 : Code := { maxStack := 4, maxLocals := 25, code := code, exceptionTable := #[], attributes := #[] }
def k1m1 : Method := { name := "law", desc := "(IIIIII)Z", sig := { parameters := [.int, .int, .int, .int, .int, .int], returnType := some .boolean }, accessFlags := 9, code := some k1c1 }
/-- com/example/handfast/handfast/algorithm/MatchingAtPinLaw -/
def k1 : Class := { plain "com/example/handfast/handfast/algorithm/MatchingAtPinLaw" (some 0) with
  accessFlags := 49
  interfaces := #[]
  cf := some (fileOf pool1 24 #[] #[{ accessFlags := 1, nameIndex := 5, descriptorIndex := 6, attributes := #[] }, { accessFlags := 9, nameIndex := 28, descriptorIndex := 29, attributes := #[] }] 49 2 #[] #[])
  fields := #[]
  methods := #[k1m0, k1m1]
  instanceTypes := #[]
  staticTypes := #[]
  resolved := Array.replicate 33 none
  statics := none }

def pool2 : Array CpInfo := pool [(1, .methodref 2 3), (0, .class_ 4), (0, .nameAndType 5 6), (0, u "java/lang/Object"), (0, u "<init>"), (0, u "()V"), (0, .class_ 8), (0, u "com/example/handfast/handfast/algorithm/Matching"), (0, .fieldref 7 10), (0, .nameAndType 11 12), (0, u "edges"), (0, u "[I"), (0, .fieldref 7 14), (0, .nameAndType 15 12), (0, u "ends"), (0, .fieldref 7 17), (0, .nameAndType 18 12), (0, u "placeAt"), (0, .methodref 20 21), (0, .class_ 22), (0, .nameAndType 23 24), (0, u "java/util/Arrays"), (0, u "fill"), (0, u "([II)V"), (0, .fieldref 7 26), (0, .nameAndType 27 28), (0, u "size"), (0, u "I"), (2, u "at"), (0, u "(I)I"), (0, .fieldref 7 34), (0, .nameAndType 35 36), (0, u "members"), (0, u "Lcom/example/handfast/handfast/model/NumberSet;"), (5, u "add"), (12, u "NONE"), (2, u "FIRST_ROOM"), (1, u "(I)V"), (8, u "(III)V"), (0, u "removeAt")] 6

def k2c0 : Code := { maxStack := 2, maxLocals := 2, code := prog_15_method_1_code, exceptionTable := #[], attributes := #[] }
def k2m0 : Method := { name := "<init>", desc := "(I)V", sig := { parameters := [.int], returnType := none }, accessFlags := 0, code := some k2c0 }
def k2c1 : Code := { maxStack := 2, maxLocals := 3, code := prog_15_method_4_code, exceptionTable := #[], attributes := #[] }
def k2m1 : Method := { name := "at", desc := "(I)I", sig := { parameters := [.int], returnType := some .int }, accessFlags := 0, code := some k2c1 }
def k2c2 : Code := { maxStack := 4, maxLocals := 4, code := prog_15_method_8_code, exceptionTable := #[], attributes := #[] }
def k2m2 : Method := { name := "add", desc := "(III)V", sig := { parameters := [.int, .int, .int], returnType := none }, accessFlags := 0, code := some k2c2 }
def k2c3 : Code := { maxStack := 5, maxLocals := 3, code := prog_15_method_9_code, exceptionTable := #[], attributes := #[] }
def k2m3 : Method := { name := "removeAt", desc := "(I)V", sig := { parameters := [.int], returnType := none }, accessFlags := 0, code := some k2c3 }
/-- com/example/handfast/handfast/algorithm/Matching -/
def k2 : Class := { plain "com/example/handfast/handfast/algorithm/Matching" (some 0) with
  accessFlags := 48
  interfaces := #[]
  cf := some (fileOf pool2 7 #[] #[{ accessFlags := 0, nameIndex := 5, descriptorIndex := 60, attributes := #[] }, { accessFlags := 0, nameIndex := 31, descriptorIndex := 32, attributes := #[] }, { accessFlags := 0, nameIndex := 42, descriptorIndex := 69, attributes := #[] }, { accessFlags := 0, nameIndex := 70, descriptorIndex := 60, attributes := #[] }] 48 2 #[] #[{ accessFlags := 24, nameIndex := 55, descriptorIndex := 28, attributes := #[] }, { accessFlags := 26, nameIndex := 58, descriptorIndex := 28, attributes := #[] }, { accessFlags := 18, nameIndex := 18, descriptorIndex := 12, attributes := #[] }, { accessFlags := 2, nameIndex := 35, descriptorIndex := 36, attributes := #[] }, { accessFlags := 2, nameIndex := 11, descriptorIndex := 12, attributes := #[] }, { accessFlags := 2, nameIndex := 15, descriptorIndex := 12, attributes := #[] }, { accessFlags := 2, nameIndex := 27, descriptorIndex := 28, attributes := #[] }])
  fields := #[{ name := "NONE", type := .int, accessFlags := 24, slot := 0, constantValue := 0 }, { name := "FIRST_ROOM", type := .int, accessFlags := 26, slot := 1, constantValue := 0 }, { name := "placeAt", type := (.array .int), accessFlags := 18, slot := 0, constantValue := 0 }, { name := "members", type := (.object "com/example/handfast/handfast/model/NumberSet"), accessFlags := 2, slot := 1, constantValue := 0 }, { name := "edges", type := (.array .int), accessFlags := 2, slot := 2, constantValue := 0 }, { name := "ends", type := (.array .int), accessFlags := 2, slot := 3, constantValue := 0 }, { name := "size", type := .int, accessFlags := 2, slot := 4, constantValue := 0 }]
  methods := #[k2m0, k2m1, k2m2, k2m3]
  instanceTypes := #[(.array .int), (.object "com/example/handfast/handfast/model/NumberSet"), (.array .int), (.array .int), .int]
  staticTypes := #[.int, .int]
  resolved := Array.replicate 77 none
  statics := none }

def pool3 : Array CpInfo := pool [(2, .class_ 4), (1, u "java/lang/Object"), (0, u "<init>"), (0, u "()V"), (7, .class_ 16), (1, u "java/util/Arrays"), (57, .class_ 76), (1, u "java/util/Arrays$NaturalOrder"), (36, .class_ 115), (1, u "java/util/Arrays$LegacyMergeSort"), (1, u "Z"), (257, .class_ 376), (0, u "java/util/Arrays$ArrayList"), (68, u "$assertionsDisabled"), (269, u "MIN_ARRAY_SORT_GRAN"), (0, u "I"), (2, u "INSERTIONSORT_THRESHOLD"), (120, u "fill"), (4, u "([II)V"), (129, .class_ 976), (0, u "java/util/Arrays$ArrayItr")] 52

def k3m0 : Method := { name := "<init>", desc := "()V", sig := { parameters := [], returnType := none }, accessFlags := 2, code := none }
def k3c1 : Code := { maxStack := 3, maxLocals := 4, code := jdk_65_method_103_code, exceptionTable := #[], attributes := #[] }
def k3m1 : Method := { name := "fill", desc := "([II)V", sig := { parameters := [(.array .int), .int], returnType := none }, accessFlags := 9, code := some k3c1 }
/-- java/util/Arrays -/
def k3 : Class := { plain "java/util/Arrays" (some 0) with
  accessFlags := 49
  interfaces := #[]
  cf := some (fileOf pool3 14 #[.nestMembers #[975, 375, 113, 74]] #[{ accessFlags := 2, nameIndex := 5, descriptorIndex := 6, attributes := #[] }, { accessFlags := 9, nameIndex := 840, descriptorIndex := 845, attributes := #[] }] 49 2 #[] #[{ accessFlags := 26, nameIndex := 715, descriptorIndex := 716, attributes := #[] }, { accessFlags := 26, nameIndex := 719, descriptorIndex := 716, attributes := #[] }, { accessFlags := 4120, nameIndex := 445, descriptorIndex := 117, attributes := #[] }])
  fields := #[{ name := "MIN_ARRAY_SORT_GRAN", type := .int, accessFlags := 26, slot := 0, constantValue := 0 }, { name := "INSERTIONSORT_THRESHOLD", type := .int, accessFlags := 26, slot := 1, constantValue := 0 }, { name := "$assertionsDisabled", type := .boolean, accessFlags := 4120, slot := 2, constantValue := 0 }]
  methods := #[k3m0, k3m1]
  instanceTypes := #[]
  staticTypes := #[.int, .int, .boolean]
  resolved := Array.replicate 1029 none
  statics := none }

def pool4 : Array CpInfo := pool [(1, u "java/lang/Cloneable"), (0, .class_ 1), (0, u "java/lang/Object"), (0, .class_ 3)] 3

/-- java/lang/Cloneable -/
def k4 : Class := { plain "java/lang/Cloneable" (some 0) with
  accessFlags := 1537
  interfaces := #[]
  cf := some (fileOf pool4 2 #[] #[] 1537 4 #[] #[])
  fields := #[]
  methods := #[]
  instanceTypes := #[]
  staticTypes := #[]
  resolved := Array.replicate 8 none
  statics := none }

def pool5 : Array CpInfo := pool [(1, u "java/io/Serializable"), (0, .class_ 1), (0, u "java/lang/Object"), (0, .class_ 3)] 3

/-- java/io/Serializable -/
def k5 : Class := { plain "java/io/Serializable" (some 0) with
  accessFlags := 1537
  interfaces := #[]
  cf := some (fileOf pool5 2 #[] #[] 1537 4 #[] #[])
  fields := #[]
  methods := #[]
  instanceTypes := #[]
  staticTypes := #[]
  resolved := Array.replicate 8 none
  statics := none }

/-- the primitive byte -/
def k6 : Class := { plain "byte" none with kind := .primitive 'B', accessFlags := 0x411 }
/-- [B -/
def k7 : Class := { plain "[B" (some 0) with kind := .array 6 .byte, interfaces := #[4, 5], accessFlags := 1041 }

/-- the primitive int -/
def k8 : Class := { plain "int" none with kind := .primitive 'I', accessFlags := 0x411 }
/-- [I -/
def k9 : Class := { plain "[I" (some 0) with kind := .array 8 .int, interfaces := #[4, 5], accessFlags := 1041 }

def heap : Heap := #[]
def classes : Array Class := #[k0, k1, k2, k3, k4, k5, k6, k7, k8, k9]
def interned : List (Array UInt16 × Addr) := []
def slotsUsed : Nat := 0
def theMethod : MethodId := ⟨1, 1⟩
def args0 : Array Value := #[.int 5, .int 5, .int 5, .int 5, .int 5, .int 5]
def aboutOver (below : List Frame) : State where
  vm := { classes := classes, interned := interned.toArray }
  heap := heap
  slotsUsed := slotsUsed
  threads := #[{ frames := .invoking theMethod args0 :: below }]
def below0 : List Frame := [.native { method := ⟨0, 0⟩, args := #[] }]
def about1 : State := aboutOver below0
def p0 : Program := .bare "" "" ""
def e0 : Env := launch0.env 0 0 0
theorem w_frames : about1.frames = Frame.invoking theMethod args0 :: below0 := rfl
set_option maxRecDepth 65536 in
theorem w_args : argsFit about1.vm theMethod args0 = true := by decide +kernel
set_option maxRecDepth 65536 in
theorem w_heap : heapFits about1 = true := by decide +kernel
set_option maxRecDepth 65536 in
theorem w_runnable : about1.curStatus? = some .runnable := by decide +kernel
set_option maxRecDepth 65536 in
theorem w_alone : about1.alone = true := by decide +kernel
set_option maxRecDepth 65536 in
theorem w_named : about1.methodNamed? x = some theMethod := by decide +kernel
set_option maxRecDepth 65536 in
theorem w_hears : about1.hears theMethod below0 = true := by decide +kernel
set_option maxRecDepth 65536 in
theorem w_ripe : about1.ripe theMethod args0 below0 = true := by decide +kernel
theorem w_running : about1.status = .running := rfl
set_option maxRecDepth 65536 in
theorem w_room : about1.hasRoom e0.platform room_1 = true :=
  launch0.hasRoom_least _ room_1 (by decide +kernel) (by decide +kernel) (by decide +kernel) (by decide +kernel) (by decide +kernel) (by decide +kernel)
theorem allAtoms_all (ts : List Jvm.Cond) (a : Array Jvm.Value) (st : Jvm.State) : (allAtoms ts).before a st = ts.all (fun c => c.before a st) := by
  induction ts with
  | nil => rfl
  | cons c t ih =>
    show (Jvm.Cond.and c (allAtoms t)).before a st = _
    rw [Jvm.Cond.before_and, ih, List.all_cons]
def words1 : List Jvm.Cond := Jvm.Cond.code x code maxLocals ret :: tables_1
/-- a 'code' word, met by the world's own term for the bytes: nothing is compared byte by byte -/
theorem code_word {y : MethodName} {bytes : ByteArray} {mx : Nat} {rt : Option FieldType} {a : Array Value} {s : State} {m : MethodId} {meth : Method} {c : Code} (h1 : s.methodNamed? y = some m) (h2 : s.vm.method? m = some meth) (h3 : meth.code = some c) (h4 : c.code = bytes)
    (h5 : (c.maxLocals == mx && c.exceptionTable.isEmpty && decide (c.maxStack ≤ mostOperands) && decide (meth.sig.returnType = rt) && !meth.locks && decide (parseMethodDescriptor y.desc = some meth.sig)) = true) : (Jvm.Cond.code y bytes mx rt).before a s = true := by
  simp only [Bool.and_eq_true, beq_iff_eq, Bool.not_eq_true', decide_eq_true_eq] at h5
  obtain ⟨⟨⟨⟨⟨g1, g2⟩, g3⟩, g4⟩, g5⟩, g6⟩ := h5
  simp [Cond.before, Cond.holds, Cond.value, h1, h2, h3, h4, g1, g2, g3, g4, g5, g6]
def isCode : Jvm.Cond → Bool
  | .code _ _ _ _ => true
  | _ => false
theorem all_split {L : List Jvm.Cond} {P : Jvm.Cond → Bool} (h1 : L.all (fun c => isCode c || P c) = true) (h2 : ∀ c ∈ L.filter isCode, P c = true) : L.all P = true := by
  refine List.all_eq_true.mpr fun c hc => ?_
  have h := List.all_eq_true.mp h1 c hc
  rcases Bool.eq_false_or_eq_true (isCode c) with hi | hi
  · exact h2 c (List.mem_filter.mpr ⟨hc, hi⟩)
  · simpa [hi] using h
set_option maxRecDepth 65536 in
theorem w_c0 : (Jvm.Cond.code x code maxLocals ret).before args0 about1 = true := code_word (m := ⟨1, 1⟩) (meth := k1m1) (c := k1c1) (by decide +kernel) rfl rfl rfl (by decide +kernel)
set_option maxRecDepth 65536 in
theorem w_c1 : (Jvm.Cond.code ({ cls := "com/example/handfast/handfast/algorithm/Matching", name := "<init>", desc := "(I)V" } : Jvm.MethodName) prog_15_method_1_code (2 : Nat) (Option.none : Option Jvm.ClassFile.FieldType)).before args0 about1 = true := code_word (m := ⟨2, 0⟩) (meth := k2m0) (c := k2c0) (by decide +kernel) rfl rfl rfl (by decide +kernel)
set_option maxRecDepth 65536 in
theorem w_c2 : (Jvm.Cond.code ({ cls := "java/lang/Object", name := "<init>", desc := "()V" } : Jvm.MethodName) object_method_1_code (1 : Nat) (Option.none : Option Jvm.ClassFile.FieldType)).before args0 about1 = true := code_word (m := ⟨0, 0⟩) (meth := k0m0) (c := k0c0) (by decide +kernel) rfl rfl rfl (by decide +kernel)
set_option maxRecDepth 65536 in
theorem w_c3 : (Jvm.Cond.code ({ cls := "java/util/Arrays", name := "fill", desc := "([II)V" } : Jvm.MethodName) jdk_65_method_103_code (4 : Nat) (Option.none : Option Jvm.ClassFile.FieldType)).before args0 about1 = true := code_word (m := ⟨3, 1⟩) (meth := k3m1) (c := k3c1) (by decide +kernel) rfl rfl rfl (by decide +kernel)
set_option maxRecDepth 65536 in
theorem w_c4 : (Jvm.Cond.code ({ cls := "com/example/handfast/handfast/algorithm/Matching", name := "add", desc := "(III)V" } : Jvm.MethodName) prog_15_method_8_code (4 : Nat) (Option.none : Option Jvm.ClassFile.FieldType)).before args0 about1 = true := code_word (m := ⟨2, 2⟩) (meth := k2m2) (c := k2c2) (by decide +kernel) rfl rfl rfl (by decide +kernel)
set_option maxRecDepth 65536 in
theorem w_c5 : (Jvm.Cond.code ({ cls := "com/example/handfast/handfast/algorithm/Matching", name := "at", desc := "(I)I" } : Jvm.MethodName) prog_15_method_4_code (3 : Nat) (Option.some Jvm.ClassFile.FieldType.int)).before args0 about1 = true := code_word (m := ⟨2, 1⟩) (meth := k2m1) (c := k2c1) (by decide +kernel) rfl rfl rfl (by decide +kernel)
set_option maxRecDepth 65536 in
theorem w_c6 : (Jvm.Cond.code ({ cls := "com/example/handfast/handfast/algorithm/Matching", name := "removeAt", desc := "(I)V" } : Jvm.MethodName) prog_15_method_9_code (3 : Nat) (Option.none : Option Jvm.ClassFile.FieldType)).before args0 about1 = true := code_word (m := ⟨2, 3⟩) (meth := k2m3) (c := k2c3) (by decide +kernel) rfl rfl rfl (by decide +kernel)
def codes1 : List Jvm.Cond := [Jvm.Cond.code x code maxLocals ret, Jvm.Cond.code ({ cls := "com/example/handfast/handfast/algorithm/Matching", name := "<init>", desc := "(I)V" } : Jvm.MethodName) prog_15_method_1_code (2 : Nat) (Option.none : Option Jvm.ClassFile.FieldType), Jvm.Cond.code ({ cls := "java/lang/Object", name := "<init>", desc := "()V" } : Jvm.MethodName) object_method_1_code (1 : Nat) (Option.none : Option Jvm.ClassFile.FieldType), Jvm.Cond.code ({ cls := "java/util/Arrays", name := "fill", desc := "([II)V" } : Jvm.MethodName) jdk_65_method_103_code (4 : Nat) (Option.none : Option Jvm.ClassFile.FieldType), Jvm.Cond.code ({ cls := "com/example/handfast/handfast/algorithm/Matching", name := "add", desc := "(III)V" } : Jvm.MethodName) prog_15_method_8_code (4 : Nat) (Option.none : Option Jvm.ClassFile.FieldType), Jvm.Cond.code ({ cls := "com/example/handfast/handfast/algorithm/Matching", name := "at", desc := "(I)I" } : Jvm.MethodName) prog_15_method_4_code (3 : Nat) (Option.some Jvm.ClassFile.FieldType.int), Jvm.Cond.code ({ cls := "com/example/handfast/handfast/algorithm/Matching", name := "removeAt", desc := "(I)V" } : Jvm.MethodName) prog_15_method_9_code (3 : Nat) (Option.none : Option Jvm.ClassFile.FieldType)]
set_option maxRecDepth 65536 in
theorem codes_eq : words1.filter isCode = codes1 := rfl
theorem w_codes : ∀ c ∈ words1.filter isCode, c.before args0 about1 = true := by
  rw [codes_eq]
  intro c hc
  simp only [codes1, List.mem_cons, List.not_mem_nil, or_false] at hc
  rcases hc with rfl | rfl | rfl | rfl | rfl | rfl | rfl
  · exact w_c0
  · exact w_c1
  · exact w_c2
  · exact w_c3
  · exact w_c4
  · exact w_c5
  · exact w_c6
set_option maxRecDepth 65536 in
theorem w_t1 : (words1.take 24).all (fun c => isCode c || c.before args0 about1) = true := by decide +kernel
set_option maxRecDepth 65536 in
theorem w_t2 : (words1.drop 24).all (fun c => isCode c || c.before args0 about1) = true := by decide +kernel
theorem w_tables : (allAtoms (Jvm.Cond.code x code maxLocals ret :: tables_1)).before args0 about1 = true := by
  rw [allAtoms_all]
  show words1.all (fun c => c.before args0 about1) = true
  refine all_split ?_ w_codes
  rw [← List.take_append_drop 24 words1, List.all_append, w_t1, w_t2]
  rfl
set_option maxRecDepth 65536 in
theorem w_case : (Jvm.Cond.and given_1 narrow_1).before args0 about1 = true := by decide +kernel
theorem w_applies : (headSpec (Jvm.Cond.code x code maxLocals ret :: tables_1) room_1).applies x e0.platform about1 = true :=
  (Spec.applies_iff w_frames).mpr ⟨w_running, w_runnable, w_alone, w_named, w_hears, w_ripe, w_room, w_tables⟩
theorem atStart : AtStart classFile x code maxLocals ret World_1 tables_1 room_1 Calls_1 rest_1 Pre_1 launch0 p0 e0 about1 theMethod args0 below0 :=
  ⟨lists_1, trivial, launch0.admits_env _ _ _, launch0.least_env, fairChoices_fair.cas, fairChoices_fair.clock, w_frames, w_args, w_heap, w_applies, trivial, trivial, w_case⟩
end start1
theorem witness_1 : WitnessClaimed_1 := ⟨start1.p0, start1.e0, start1.about1, start1.theMethod, start1.args0, start1.below0, start1.atStart⟩
end Jvm.Pilot.@@N@@
