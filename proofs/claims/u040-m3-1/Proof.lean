import JvmDerived
import JvmDerived.Pilot.@@N@@Statement
import JvmDerived.Pilot.@@N@@Code
set_option linter.unusedVariables false
set_option linter.unusedSimpArgs false
namespace Jvm.Pilot.@@N@@
open Jvm Jvm.ClassFile Sem Op Lib Jvm.Free Jvm.Stand Jvm.LawKit Jvm.RoadKit Bundle Jvm.Pilot.@@N@@.Jvm.D
/-! 0. one goal for a walk: from T with the frame g on top the run comes back with what Q says -/
def own_W (p : Program) (e : Env) (En : Outcome → State → List Loc → Nat → Nat → Prop) (below : List Frame) (kc ks : Nat) (Q : Option Value → Heap → List Loc → Prop) (T : State) (g : JFrame) : Prop :=
  ∃ s₂ o, Steps p.tables e below (T.setTop g) s₂ ∧ s₂.status = .running ∧ Ended s₂ below o ∧ ∃ v L, o = .returned v ∧ Q v s₂.heap L ∧ En o s₂ L kc ks
section OwnW
variable {En : Outcome → State → List Loc → Nat → Nat → Prop} {p : Program} {l : Launch} {e : Env} {R : Room} {s : State} {m : MethodId} {args : Array Value} {below : List Frame} {meth : Method} {c : Code} {T T' : State} {locs : List Loc} {cells slots kc ks : Nat} {Q : Option Value → Heap → List Loc → Prop} {g g' : JFrame} {pc pc' : Nat} {Ls : Array Slot} {st rest : List Value} {Z : State} {h h' : Heap} {a b : Addr} {sl : Nat}
theorem own_W.step (k : ∀ t, Steps p.tables e below (T'.setTop g') t → Steps p.tables e below (T.setTop g) t) (w : own_W p e En below kc ks Q T' g') : own_W p e En below kc ks Q T g := by
  obtain ⟨s2, o, h1, h2⟩ := w
  exact ⟨s2, o, k _ h1, h2⟩
theorem own_W.steps (k : Steps p.tables e below (T.setTop g) (T'.setTop g')) (w : own_W p e En below kc ks Q T' g') : own_W p e En below kc ks Q T g := by
  obtain ⟨s2, o, h1, h2⟩ := w
  exact ⟨s2, o, k.trans h1, h2⟩
theorem own_leave (X : Stand p l e R s m args below meth c T locs cells slots) (hlk : meth.locks = false) {v : Option Value} (hv : meth.sig.returnType = none → v = none) (hc : cells ≤ kc) (hs : slots ≤ ks)
    (k : ∀ fs, (∀ (f : JFrame) (acts : List Action), f.method = m → f.locked = none → f.entered = [] → (doReturn e (T.setTop f) acts v).1 = T.setFrames fs) → Steps p.tables e below (T.setTop g) (T.setFrames fs)) (hQ : Q v T.heap locs) : own_W p e (FrameEnd s) below kc ks Q T g := by
  obtain ⟨fs, hr, hrun, hended, hW, hsame⟩ := X.leave (v := v) hv hlk
  exact ⟨_, _, k fs hr, hrun, hended, v, locs, rfl, hQ, ⟨_, rfl⟩, hW, hsame.mono hc hs⟩
theorem own_retV (X : Stand p l e R s m args below meth c T locs cells slots) (hx : p.tables.exec = Jvm.exec) (hlk : meth.locks = false) (hret : meth.sig.returnType = none) (hd : decode c.code pc = .ok (.return_, 1)) (hc : cells ≤ kc) (hs : slots ≤ ks) (hQ : Q none T.heap locs) : own_W p e (FrameEnd s) below kc ks Q T (mkF m pc Ls []) :=
  own_leave X hlk (fun _ => rfl) hc hs (fun fs hr => X.returnOut hx hret hd hr) hQ
theorem own_retN {t : FieldType} (X : Stand p l e R s m args below meth c T locs cells slots) (hx : p.tables.exec = Jvm.exec) (hlk : meth.locks = false) (hret : meth.sig.returnType = some t) (ht : t = .boolean ∨ t = .byte ∨ t = .char ∨ t = .short) (hd : decode c.code pc = .ok (.ireturn, 1)) {z z' : Int32} (hz : nar t z = z') (hc : cells ≤ kc) (hs : slots ≤ ks) (hQ : Q (some (.int z')) T.heap locs) : own_W p e (FrameEnd s) below kc ks Q T (mkF m pc Ls (.int z :: rest)) := by
  subst hz
  exact own_leave X hlk (fun q => by rw [hret] at q; cases q) hc hs (fun fs hr => retN X hx hret ht hd hr) hQ
theorem own_retI (X : Stand p l e R s m args below meth c T locs cells slots) (hx : p.tables.exec = Jvm.exec) (hlk : meth.locks = false) (hret : meth.sig.returnType = some .int) (hd : decode c.code pc = .ok (.ireturn, 1)) {z : Int32} (hc : cells ≤ kc) (hs : slots ≤ ks) (hQ : Q (some (.int z)) T.heap locs) : own_W p e (FrameEnd s) below kc ks Q T (mkF m pc Ls (.int z :: rest)) :=
  own_leave X hlk (fun q => by rw [hret] at q; cases q) hc hs (fun fs hr => retOut X hx (t := .int) (w := .int z) (i := .ireturn) hret rfl (Or.inl ⟨rfl, Or.inl rfl, z, rfl⟩) hd hr) hQ
theorem own_retJ (X : Stand p l e R s m args below meth c T locs cells slots) (hx : p.tables.exec = Jvm.exec) (hlk : meth.locks = false) (hret : meth.sig.returnType = some .long) (hd : decode c.code pc = .ok (.lreturn, 1)) {z : Int64} (hc : cells ≤ kc) (hs : slots ≤ ks) (hQ : Q (some (.long z)) T.heap locs) : own_W p e (FrameEnd s) below kc ks Q T (mkF m pc Ls (.long z :: rest)) :=
  own_leave X hlk (fun q => by rw [hret] at q; cases q) hc hs (fun fs hr => retOut X hx (t := .long) (w := .long z) (i := .lreturn) hret rfl (Or.inr (Or.inl ⟨rfl, rfl, z, rfl⟩)) hd hr) hQ
theorem own_retA {t : FieldType} (X : Stand p l e R s m args below meth c T locs cells slots) (hx : p.tables.exec = Jvm.exec) (hlk : meth.locks = false) (hret : meth.sig.returnType = some t) (hn : narrow t (.ref a) = .ref a) (ht : t.isReference = true) (hd : decode c.code pc = .ok (.areturn, 1)) (hc : cells ≤ kc) (hs : slots ≤ ks) (hQ : Q (some (.ref a)) T.heap locs) : own_W p e (FrameEnd s) below kc ks Q T (mkF m pc Ls (.ref a :: rest)) :=
  own_leave X hlk (fun q => by rw [hret] at q; cases q) hc hs (fun fs hr => retOut X hx (t := t) (w := .ref a) (i := .areturn) hret hn (Or.inr (Or.inr (Or.inr (Or.inr ⟨rfl, ht, rfl⟩)))) hd hr) hQ
theorem own_iload (X : Stand p l e R s m args below meth c T locs cells slots) (hx : p.tables.exec = Jvm.exec) {k : Nat} {v : Int32} (hd : decode c.code pc = .ok (.iload k, 2)) (hl : Ls[k]? = some (.val (.int v))) (hp : pc + 2 = pc') (w : own_W p e En below kc ks Q T (mkF m pc' Ls (.int v :: st))) : own_W p e En below kc ks Q T (mkF m pc Ls (st)) := by
  subst hp; exact own_W.step (fun _ q => XS.iload X.here hx rfl hd hl q) w
theorem own_iloadN (X : Stand p l e R s m args below meth c T locs cells slots) (hx : p.tables.exec = Jvm.exec) {k : Fin 4} {v : Int32} (hd : decode c.code pc = .ok (.iload_n k, 1)) (hl : Ls[k.val]? = some (.val (.int v))) (hp : pc + 1 = pc') (w : own_W p e En below kc ks Q T (mkF m pc' Ls (.int v :: st))) : own_W p e En below kc ks Q T (mkF m pc Ls (st)) := by
  subst hp; exact own_W.step (fun _ q => XS.iloadN X.here hx rfl hd hl q) w
theorem own_lload (X : Stand p l e R s m args below meth c T locs cells slots) (hx : p.tables.exec = Jvm.exec) {k : Nat} {v : Int64} (hd : decode c.code pc = .ok (.lload k, 2)) (hl : Ls[k]? = some (.val (.long v))) (hp : pc + 2 = pc') (w : own_W p e En below kc ks Q T (mkF m pc' Ls (.long v :: st))) : own_W p e En below kc ks Q T (mkF m pc Ls (st)) := by
  subst hp; exact own_W.step (fun _ q => XS.lload X.here hx rfl hd hl q) w
theorem own_lloadN (X : Stand p l e R s m args below meth c T locs cells slots) (hx : p.tables.exec = Jvm.exec) {k : Fin 4} {v : Int64} (hd : decode c.code pc = .ok (.lload_n k, 1)) (hl : Ls[k.val]? = some (.val (.long v))) (hp : pc + 1 = pc') (w : own_W p e En below kc ks Q T (mkF m pc' Ls (.long v :: st))) : own_W p e En below kc ks Q T (mkF m pc Ls (st)) := by
  subst hp; exact own_W.step (fun _ q => XS.lloadN X.here hx rfl hd hl q) w
theorem own_aload (X : Stand p l e R s m args below meth c T locs cells slots) (hx : p.tables.exec = Jvm.exec) {k : Nat} {v : Value} (hd : decode c.code pc = .ok (.aload k, 2)) (hl : Ls[k]? = some (.val v)) (hv : v.isRef = true) (hp : pc + 2 = pc') (w : own_W p e En below kc ks Q T (mkF m pc' Ls (v :: st))) : own_W p e En below kc ks Q T (mkF m pc Ls (st)) := by
  subst hp; exact own_W.step (fun _ q => XS.aload X.here hx rfl hd hl hv q) w
theorem own_aloadN (X : Stand p l e R s m args below meth c T locs cells slots) (hx : p.tables.exec = Jvm.exec) {k : Fin 4} {v : Value} (hd : decode c.code pc = .ok (.aload_n k, 1)) (hl : Ls[k.val]? = some (.val v)) (hv : v.isRef = true) (hp : pc + 1 = pc') (w : own_W p e En below kc ks Q T (mkF m pc' Ls (v :: st))) : own_W p e En below kc ks Q T (mkF m pc Ls (st)) := by
  subst hp; exact own_W.step (fun _ q => XS.aloadN X.here hx rfl hd hl hv q) w
theorem own_istore (X : Stand p l e R s m args below meth c T locs cells slots) (hx : p.tables.exec = Jvm.exec) {k : Nat} {v : Int32} {l' : Array Slot} (hd : decode c.code pc = .ok (.istore k, 2)) (hl : storeLocals Ls k (.int v) = some l') (hp : pc + 2 = pc') (w : own_W p e En below kc ks Q T (mkF m pc' l' (st))) : own_W p e En below kc ks Q T (mkF m pc Ls (.int v :: st)) := by
  subst hp; exact own_W.step (fun _ q => XS.istore X.here hx rfl hd rfl hl q) w
theorem own_istoreN (X : Stand p l e R s m args below meth c T locs cells slots) (hx : p.tables.exec = Jvm.exec) {k : Fin 4} {v : Int32} {l' : Array Slot} (hd : decode c.code pc = .ok (.istore_n k, 1)) (hl : storeLocals Ls k.val (.int v) = some l') (hp : pc + 1 = pc') (w : own_W p e En below kc ks Q T (mkF m pc' l' (st))) : own_W p e En below kc ks Q T (mkF m pc Ls (.int v :: st)) := by
  subst hp; exact own_W.step (fun _ q => XS.istoreN X.here hx rfl hd rfl hl q) w
theorem own_lstore (X : Stand p l e R s m args below meth c T locs cells slots) (hx : p.tables.exec = Jvm.exec) {k : Nat} {v : Int64} {l' : Array Slot} (hd : decode c.code pc = .ok (.lstore k, 2)) (hl : storeLocals Ls k (.long v) = some l') (hp : pc + 2 = pc') (w : own_W p e En below kc ks Q T (mkF m pc' l' (st))) : own_W p e En below kc ks Q T (mkF m pc Ls (.long v :: st)) := by
  subst hp; exact own_W.step (fun _ q => XS.lstore X.here hx rfl hd rfl hl q) w
theorem own_lstoreN (X : Stand p l e R s m args below meth c T locs cells slots) (hx : p.tables.exec = Jvm.exec) {k : Fin 4} {v : Int64} {l' : Array Slot} (hd : decode c.code pc = .ok (.lstore_n k, 1)) (hl : storeLocals Ls k.val (.long v) = some l') (hp : pc + 1 = pc') (w : own_W p e En below kc ks Q T (mkF m pc' l' (st))) : own_W p e En below kc ks Q T (mkF m pc Ls (.long v :: st)) := by
  subst hp; exact own_W.step (fun _ q => XS.lstoreN X.here hx rfl hd rfl hl q) w
theorem own_astore (X : Stand p l e R s m args below meth c T locs cells slots) (hx : p.tables.exec = Jvm.exec) {k : Nat} {v : Value} {l' : Array Slot} (hd : decode c.code pc = .ok (.astore k, 2)) (hv : v.isRef = true) (hl : storeLocals Ls k v = some l') (hp : pc + 2 = pc') (w : own_W p e En below kc ks Q T (mkF m pc' l' (st))) : own_W p e En below kc ks Q T (mkF m pc Ls (v :: st)) := by
  subst hp; exact own_W.step (fun _ q => XS.astore X.here hx rfl hd rfl hv hl q) w
theorem own_astoreN (X : Stand p l e R s m args below meth c T locs cells slots) (hx : p.tables.exec = Jvm.exec) {k : Fin 4} {v : Value} {l' : Array Slot} (hd : decode c.code pc = .ok (.astore_n k, 1)) (hv : v.isRef = true) (hl : storeLocals Ls k.val v = some l') (hp : pc + 1 = pc') (w : own_W p e En below kc ks Q T (mkF m pc' l' (st))) : own_W p e En below kc ks Q T (mkF m pc Ls (v :: st)) := by
  subst hp; exact own_W.step (fun _ q => XS.astoreN X.here hx rfl hd rfl hv hl q) w
theorem own_iconst (X : Stand p l e R s m args below meth c T locs cells slots) (hx : p.tables.exec = Jvm.exec) {i : Int} (hd : decode c.code pc = .ok (.iconst i, 1)) (v : Int32) (hv : Int32.ofInt i = v) (hp : pc + 1 = pc') (w : own_W p e En below kc ks Q T (mkF m pc' Ls (.int v :: st))) : own_W p e En below kc ks Q T (mkF m pc Ls (st)) := by
  subst hp; exact own_W.step (fun _ q => XT.iconstV X.here hx rfl v hd hv q) w
theorem own_bipush (X : Stand p l e R s m args below meth c T locs cells slots) (hx : p.tables.exec = Jvm.exec) {i : Int} (hd : decode c.code pc = .ok (.bipush i, 2)) (v : Int32) (hv : (Int8.ofInt i).toInt32 = v) (hp : pc + 2 = pc') (w : own_W p e En below kc ks Q T (mkF m pc' Ls (.int v :: st))) : own_W p e En below kc ks Q T (mkF m pc Ls (st)) := by
  subst hp; exact own_W.step (fun _ q => XT.bipushV X.here hx rfl v hd hv q) w
theorem own_sipush (X : Stand p l e R s m args below meth c T locs cells slots) (hx : p.tables.exec = Jvm.exec) {i : Int} (hd : decode c.code pc = .ok (.sipush i, 3)) (v : Int32) (hv : (Int16.ofInt i).toInt32 = v) (hp : pc + 3 = pc') (w : own_W p e En below kc ks Q T (mkF m pc' Ls (.int v :: st))) : own_W p e En below kc ks Q T (mkF m pc Ls (st)) := by
  subst hp; exact own_W.step (fun _ q => XT.sipushV X.here hx rfl v hd hv q) w
theorem own_lconst (X : Stand p l e R s m args below meth c T locs cells slots) (hx : p.tables.exec = Jvm.exec) {k : Fin 2} (hd : decode c.code pc = .ok (.lconst k, 1)) (v : Int64) (hv : Int64.ofNat k = v) (hp : pc + 1 = pc') (w : own_W p e En below kc ks Q T (mkF m pc' Ls (.long v :: st))) : own_W p e En below kc ks Q T (mkF m pc Ls (st)) := by
  subst hp; exact own_W.step (fun _ q => XT.lconstV X.here hx rfl v hd hv q) w
theorem own_aconstNull (X : Stand p l e R s m args below meth c T locs cells slots) (hx : p.tables.exec = Jvm.exec)  (hd : decode c.code pc = .ok (.aconst_null, 1))  (hp : pc + 1 = pc') (w : own_W p e En below kc ks Q T (mkF m pc' Ls (.null :: st))) : own_W p e En below kc ks Q T (mkF m pc Ls (st)) := by
  subst hp; exact own_W.step (fun _ q => XS.aconstNull X.here hx rfl hd q) w
theorem own_ldcInt (X : Stand p l e R s m args below meth c T locs cells slots) (hx : p.tables.exec = Jvm.exec) {own : String} {index : Nat} {v : Int32} (hown : s.vm.findClass own = some m.cls) (hk : (Jvm.Cond.constant own index v).before args s = true) (hd : decode c.code pc = .ok (.ldc index, 2)) (hp : pc + 2 = pc') (w : own_W p e En below kc ks Q T (mkF m pc' Ls (.int v :: st))) : own_W p e En below kc ks Q T (mkF m pc Ls st) := by
  subst hp; exact own_W.step (X.ldcInt hx hown hk (g := mkF m pc Ls st) rfl hd) w
theorem own_ldcwInt (X : Stand p l e R s m args below meth c T locs cells slots) (hx : p.tables.exec = Jvm.exec) {own : String} {index : Nat} {v : Int32} (hown : s.vm.findClass own = some m.cls) (hk : (Jvm.Cond.constant own index v).before args s = true) (hd : decode c.code pc = .ok (.ldc_w index, 3)) (hp : pc + 3 = pc') (w : own_W p e En below kc ks Q T (mkF m pc' Ls (.int v :: st))) : own_W p e En below kc ks Q T (mkF m pc Ls st) := by
  subst hp; exact own_W.step (X.ldcwInt hx hown hk (g := mkF m pc Ls st) rfl hd) w
theorem own_ldc2Long (X : Stand p l e R s m args below meth c T locs cells slots) (hx : p.tables.exec = Jvm.exec) {own : String} {index : Nat} {v : Int64} (hown : s.vm.findClass own = some m.cls) (hk : (Jvm.Cond.constantLong own index v).before args s = true) (hd : decode c.code pc = .ok (.ldc2_w index, 3)) (hp : pc + 3 = pc') (w : own_W p e En below kc ks Q T (mkF m pc' Ls (.long v :: st))) : own_W p e En below kc ks Q T (mkF m pc Ls st) := by
  subst hp; exact own_W.step (X.ldc2Long hx hown hk (g := mkF m pc Ls st) rfl hd) w
theorem own_iadd (X : Stand p l e R s m args below meth c T locs cells slots) (hx : p.tables.exec = Jvm.exec) {x y : Int32} (hd : decode c.code pc = .ok (.iadd, 1))  (hp : pc + 1 = pc') (w : own_W p e En below kc ks Q T (mkF m pc' Ls (.int (x + y) :: st))) : own_W p e En below kc ks Q T (mkF m pc Ls (.int y :: .int x :: st)) := by
  subst hp; exact own_W.step (fun _ q => XS.iadd X.here hx rfl hd rfl q) w
theorem own_ladd (X : Stand p l e R s m args below meth c T locs cells slots) (hx : p.tables.exec = Jvm.exec) {x y : Int64} (hd : decode c.code pc = .ok (.ladd, 1))  (hp : pc + 1 = pc') (w : own_W p e En below kc ks Q T (mkF m pc' Ls (.long (x + y) :: st))) : own_W p e En below kc ks Q T (mkF m pc Ls (.long y :: .long x :: st)) := by
  subst hp; exact own_W.step (fun _ q => XS.ladd X.here hx rfl hd rfl q) w
theorem own_isub (X : Stand p l e R s m args below meth c T locs cells slots) (hx : p.tables.exec = Jvm.exec) {x y : Int32} (hd : decode c.code pc = .ok (.isub, 1))  (hp : pc + 1 = pc') (w : own_W p e En below kc ks Q T (mkF m pc' Ls (.int (x - y) :: st))) : own_W p e En below kc ks Q T (mkF m pc Ls (.int y :: .int x :: st)) := by
  subst hp; exact own_W.step (fun _ q => XS.isub X.here hx rfl hd rfl q) w
theorem own_lsub (X : Stand p l e R s m args below meth c T locs cells slots) (hx : p.tables.exec = Jvm.exec) {x y : Int64} (hd : decode c.code pc = .ok (.lsub, 1))  (hp : pc + 1 = pc') (w : own_W p e En below kc ks Q T (mkF m pc' Ls (.long (x - y) :: st))) : own_W p e En below kc ks Q T (mkF m pc Ls (.long y :: .long x :: st)) := by
  subst hp; exact own_W.step (fun _ q => XS.lsub X.here hx rfl hd rfl q) w
theorem own_imul (X : Stand p l e R s m args below meth c T locs cells slots) (hx : p.tables.exec = Jvm.exec) {x y : Int32} (hd : decode c.code pc = .ok (.imul, 1))  (hp : pc + 1 = pc') (w : own_W p e En below kc ks Q T (mkF m pc' Ls (.int (x * y) :: st))) : own_W p e En below kc ks Q T (mkF m pc Ls (.int y :: .int x :: st)) := by
  subst hp; exact own_W.step (fun _ q => XS.imul X.here hx rfl hd rfl q) w
theorem own_lmul (X : Stand p l e R s m args below meth c T locs cells slots) (hx : p.tables.exec = Jvm.exec) {x y : Int64} (hd : decode c.code pc = .ok (.lmul, 1))  (hp : pc + 1 = pc') (w : own_W p e En below kc ks Q T (mkF m pc' Ls (.long (x * y) :: st))) : own_W p e En below kc ks Q T (mkF m pc Ls (.long y :: .long x :: st)) := by
  subst hp; exact own_W.step (fun _ q => XS.lmul X.here hx rfl hd rfl q) w
theorem own_iand (X : Stand p l e R s m args below meth c T locs cells slots) (hx : p.tables.exec = Jvm.exec) {x y : Int32} (hd : decode c.code pc = .ok (.iand, 1))  (hp : pc + 1 = pc') (w : own_W p e En below kc ks Q T (mkF m pc' Ls (.int (x &&& y) :: st))) : own_W p e En below kc ks Q T (mkF m pc Ls (.int y :: .int x :: st)) := by
  subst hp; exact own_W.step (fun _ q => XS.iand X.here hx rfl hd rfl q) w
theorem own_land (X : Stand p l e R s m args below meth c T locs cells slots) (hx : p.tables.exec = Jvm.exec) {x y : Int64} (hd : decode c.code pc = .ok (.land, 1))  (hp : pc + 1 = pc') (w : own_W p e En below kc ks Q T (mkF m pc' Ls (.long (x &&& y) :: st))) : own_W p e En below kc ks Q T (mkF m pc Ls (.long y :: .long x :: st)) := by
  subst hp; exact own_W.step (fun _ q => XS.land X.here hx rfl hd rfl q) w
theorem own_ior (X : Stand p l e R s m args below meth c T locs cells slots) (hx : p.tables.exec = Jvm.exec) {x y : Int32} (hd : decode c.code pc = .ok (.ior, 1))  (hp : pc + 1 = pc') (w : own_W p e En below kc ks Q T (mkF m pc' Ls (.int (x ||| y) :: st))) : own_W p e En below kc ks Q T (mkF m pc Ls (.int y :: .int x :: st)) := by
  subst hp; exact own_W.step (fun _ q => XS.ior X.here hx rfl hd rfl q) w
theorem own_lor (X : Stand p l e R s m args below meth c T locs cells slots) (hx : p.tables.exec = Jvm.exec) {x y : Int64} (hd : decode c.code pc = .ok (.lor, 1))  (hp : pc + 1 = pc') (w : own_W p e En below kc ks Q T (mkF m pc' Ls (.long (x ||| y) :: st))) : own_W p e En below kc ks Q T (mkF m pc Ls (.long y :: .long x :: st)) := by
  subst hp; exact own_W.step (fun _ q => XS.lor X.here hx rfl hd rfl q) w
theorem own_ixor (X : Stand p l e R s m args below meth c T locs cells slots) (hx : p.tables.exec = Jvm.exec) {x y : Int32} (hd : decode c.code pc = .ok (.ixor, 1))  (hp : pc + 1 = pc') (w : own_W p e En below kc ks Q T (mkF m pc' Ls (.int (x ^^^ y) :: st))) : own_W p e En below kc ks Q T (mkF m pc Ls (.int y :: .int x :: st)) := by
  subst hp; exact own_W.step (fun _ q => XS.ixor X.here hx rfl hd rfl q) w
theorem own_lxor (X : Stand p l e R s m args below meth c T locs cells slots) (hx : p.tables.exec = Jvm.exec) {x y : Int64} (hd : decode c.code pc = .ok (.lxor, 1))  (hp : pc + 1 = pc') (w : own_W p e En below kc ks Q T (mkF m pc' Ls (.long (x ^^^ y) :: st))) : own_W p e En below kc ks Q T (mkF m pc Ls (.long y :: .long x :: st)) := by
  subst hp; exact own_W.step (fun _ q => XS.lxor X.here hx rfl hd rfl q) w
theorem own_idiv (X : Stand p l e R s m args below meth c T locs cells slots) (hx : p.tables.exec = Jvm.exec) {x y : Int32} (hd : decode c.code pc = .ok (.idiv, 1)) (hy : y ≠ 0) (hp : pc + 1 = pc') (w : own_W p e En below kc ks Q T (mkF m pc' Ls (.int (x / y) :: st))) : own_W p e En below kc ks Q T (mkF m pc Ls (.int y :: .int x :: st)) := by
  subst hp; exact own_W.step (fun _ q => XS.idiv X.here hx rfl hd rfl hy q) w
theorem own_ldiv (X : Stand p l e R s m args below meth c T locs cells slots) (hx : p.tables.exec = Jvm.exec) {x y : Int64} (hd : decode c.code pc = .ok (.ldiv, 1)) (hy : y ≠ 0) (hp : pc + 1 = pc') (w : own_W p e En below kc ks Q T (mkF m pc' Ls (.long (x / y) :: st))) : own_W p e En below kc ks Q T (mkF m pc Ls (.long y :: .long x :: st)) := by
  subst hp; exact own_W.step (fun _ q => XS.ldiv X.here hx rfl hd rfl hy q) w
theorem own_irem (X : Stand p l e R s m args below meth c T locs cells slots) (hx : p.tables.exec = Jvm.exec) {x y : Int32} (hd : decode c.code pc = .ok (.irem, 1)) (hy : y ≠ 0) (hp : pc + 1 = pc') (w : own_W p e En below kc ks Q T (mkF m pc' Ls (.int (x % y) :: st))) : own_W p e En below kc ks Q T (mkF m pc Ls (.int y :: .int x :: st)) := by
  subst hp; exact own_W.step (fun _ q => iremM X hx rfl hd rfl hy q) w
theorem own_lrem (X : Stand p l e R s m args below meth c T locs cells slots) (hx : p.tables.exec = Jvm.exec) {x y : Int64} (hd : decode c.code pc = .ok (.lrem, 1)) (hy : y ≠ 0) (hp : pc + 1 = pc') (w : own_W p e En below kc ks Q T (mkF m pc' Ls (.long (x % y) :: st))) : own_W p e En below kc ks Q T (mkF m pc Ls (.long y :: .long x :: st)) := by
  subst hp; exact own_W.step (fun _ q => XS.lrem X.here hx rfl hd rfl hy (by rw [lrem_mod]; exact q)) w
theorem own_ineg (X : Stand p l e R s m args below meth c T locs cells slots) (hx : p.tables.exec = Jvm.exec) {x : Int32} (hd : decode c.code pc = .ok (.ineg, 1))  (hp : pc + 1 = pc') (w : own_W p e En below kc ks Q T (mkF m pc' Ls (.int (-x) :: st))) : own_W p e En below kc ks Q T (mkF m pc Ls (.int x :: st)) := by
  subst hp; exact own_W.step (fun _ q => XS.ineg X.here hx rfl hd rfl q) w
theorem own_lneg (X : Stand p l e R s m args below meth c T locs cells slots) (hx : p.tables.exec = Jvm.exec) {x : Int64} (hd : decode c.code pc = .ok (.lneg, 1))  (hp : pc + 1 = pc') (w : own_W p e En below kc ks Q T (mkF m pc' Ls (.long (-x) :: st))) : own_W p e En below kc ks Q T (mkF m pc Ls (.long x :: st)) := by
  subst hp; exact own_W.step (fun _ q => XS.lneg X.here hx rfl hd rfl q) w
theorem own_i2l (X : Stand p l e R s m args below meth c T locs cells slots) (hx : p.tables.exec = Jvm.exec) {x : Int32} (hd : decode c.code pc = .ok (.i2l, 1))  (hp : pc + 1 = pc') (w : own_W p e En below kc ks Q T (mkF m pc' Ls (.long (x.toInt64) :: st))) : own_W p e En below kc ks Q T (mkF m pc Ls (.int x :: st)) := by
  subst hp; exact own_W.step (fun _ q => XS.i2l X.here hx rfl hd rfl q) w
theorem own_l2i (X : Stand p l e R s m args below meth c T locs cells slots) (hx : p.tables.exec = Jvm.exec) {x : Int64} (hd : decode c.code pc = .ok (.l2i, 1))  (hp : pc + 1 = pc') (w : own_W p e En below kc ks Q T (mkF m pc' Ls (.int (x.toInt32) :: st))) : own_W p e En below kc ks Q T (mkF m pc Ls (.long x :: st)) := by
  subst hp; exact own_W.step (fun _ q => XS.l2i X.here hx rfl hd rfl q) w
theorem own_i2b (X : Stand p l e R s m args below meth c T locs cells slots) (hx : p.tables.exec = Jvm.exec) {x : Int32} (hd : decode c.code pc = .ok (.i2b, 1))  (hp : pc + 1 = pc') (w : own_W p e En below kc ks Q T (mkF m pc' Ls (.int (x.toInt8.toInt32) :: st))) : own_W p e En below kc ks Q T (mkF m pc Ls (.int x :: st)) := by
  subst hp; exact own_W.step (fun _ q => XS.i2b X.here hx rfl hd rfl q) w
theorem own_i2s (X : Stand p l e R s m args below meth c T locs cells slots) (hx : p.tables.exec = Jvm.exec) {x : Int32} (hd : decode c.code pc = .ok (.i2s, 1))  (hp : pc + 1 = pc') (w : own_W p e En below kc ks Q T (mkF m pc' Ls (.int (x.toInt16.toInt32) :: st))) : own_W p e En below kc ks Q T (mkF m pc Ls (.int x :: st)) := by
  subst hp; exact own_W.step (fun _ q => XS.i2s X.here hx rfl hd rfl q) w
theorem own_i2c (X : Stand p l e R s m args below meth c T locs cells slots) (hx : p.tables.exec = Jvm.exec) {x : Int32} (hd : decode c.code pc = .ok (.i2c, 1))  (hp : pc + 1 = pc') (w : own_W p e En below kc ks Q T (mkF m pc' Ls (.int (x.toUInt32.toUInt16.toUInt32.toInt32) :: st))) : own_W p e En below kc ks Q T (mkF m pc Ls (.int x :: st)) := by
  subst hp; exact own_W.step (fun _ q => XS.i2c X.here hx rfl hd rfl q) w
theorem own_ishl (X : Stand p l e R s m args below meth c T locs cells slots) (hx : p.tables.exec = Jvm.exec) {x y : Int32} (hd : decode c.code pc = .ok (.ishl, 1))  (hp : pc + 1 = pc') (w : own_W p e En below kc ks Q T (mkF m pc' Ls (.int (x <<< (y &&& 31)) :: st))) : own_W p e En below kc ks Q T (mkF m pc Ls (.int y :: .int x :: st)) := by
  subst hp; exact own_W.step (fun _ q => XS.ishl X.here hx rfl hd rfl q) w
theorem own_ishr (X : Stand p l e R s m args below meth c T locs cells slots) (hx : p.tables.exec = Jvm.exec) {x y : Int32} (hd : decode c.code pc = .ok (.ishr, 1))  (hp : pc + 1 = pc') (w : own_W p e En below kc ks Q T (mkF m pc' Ls (.int (x >>> (y &&& 31)) :: st))) : own_W p e En below kc ks Q T (mkF m pc Ls (.int y :: .int x :: st)) := by
  subst hp; exact own_W.step (fun _ q => XS.ishr X.here hx rfl hd rfl q) w
theorem own_iushr (X : Stand p l e R s m args below meth c T locs cells slots) (hx : p.tables.exec = Jvm.exec) {x y : Int32} (hd : decode c.code pc = .ok (.iushr, 1))  (hp : pc + 1 = pc') (w : own_W p e En below kc ks Q T (mkF m pc' Ls (.int ((x.toUInt32 >>> (y &&& 31).toUInt32).toInt32) :: st))) : own_W p e En below kc ks Q T (mkF m pc Ls (.int y :: .int x :: st)) := by
  subst hp; exact own_W.step (fun _ q => XS.iushr X.here hx rfl hd rfl q) w
theorem own_lshl (X : Stand p l e R s m args below meth c T locs cells slots) (hx : p.tables.exec = Jvm.exec) {x : Int64} {y : Int32} (hd : decode c.code pc = .ok (.lshl, 1))  (hp : pc + 1 = pc') (w : own_W p e En below kc ks Q T (mkF m pc' Ls (.long (x <<< (y &&& 0x3f).toInt64) :: st))) : own_W p e En below kc ks Q T (mkF m pc Ls (.int y :: .long x :: st)) := by
  subst hp; exact own_W.step (fun _ q => XS.lshl X.here hx rfl hd rfl q) w
theorem own_lshr (X : Stand p l e R s m args below meth c T locs cells slots) (hx : p.tables.exec = Jvm.exec) {x : Int64} {y : Int32} (hd : decode c.code pc = .ok (.lshr, 1))  (hp : pc + 1 = pc') (w : own_W p e En below kc ks Q T (mkF m pc' Ls (.long (x >>> (y &&& 0x3f).toInt64) :: st))) : own_W p e En below kc ks Q T (mkF m pc Ls (.int y :: .long x :: st)) := by
  subst hp; exact own_W.step (fun _ q => XS.lshr X.here hx rfl hd rfl q) w
theorem own_lushr (X : Stand p l e R s m args below meth c T locs cells slots) (hx : p.tables.exec = Jvm.exec) {x : Int64} {y : Int32} (hd : decode c.code pc = .ok (.lushr, 1))  (hp : pc + 1 = pc') (w : own_W p e En below kc ks Q T (mkF m pc' Ls (.long ((x.toUInt64 >>> (y &&& 0x3f).toInt64.toUInt64).toInt64) :: st))) : own_W p e En below kc ks Q T (mkF m pc Ls (.int y :: .long x :: st)) := by
  subst hp; exact own_W.step (fun _ q => XS.lushr X.here hx rfl hd rfl q) w
theorem own_lcmp (X : Stand p l e R s m args below meth c T locs cells slots) (hx : p.tables.exec = Jvm.exec) {x y : Int64} (hd : decode c.code pc = .ok (.lcmp, 1))  (hp : pc + 1 = pc') (w : own_W p e En below kc ks Q T (mkF m pc' Ls (.int (XT.cmpL x y) :: st))) : own_W p e En below kc ks Q T (mkF m pc Ls (.long y :: .long x :: st)) := by
  subst hp; exact own_W.step (fun _ q => XT.lcmp X.here hx rfl hd rfl q) w
theorem own_iinc (X : Stand p l e R s m args below meth c T locs cells slots) (hx : p.tables.exec = Jvm.exec) {k : Nat} {cst : Int} (hd : decode c.code pc = .ok (.iinc k cst, 3)) (v : Int32) (hv : Int32.ofInt cst = v) {x : Int32} {l' : Array Slot} (hl : Ls[k]? = some (.val (.int x))) (hl' : storeLocals Ls k (.int (x + v)) = some l') (hp : pc + 3 = pc') (w : own_W p e En below kc ks Q T (mkF m pc' l' (st))) : own_W p e En below kc ks Q T (mkF m pc Ls (st)) := by
  subst hp; exact own_W.step (fun _ q => XT.iincV X.here hx rfl v hd hv hl hl' q) w
theorem own_dup (X : Stand p l e R s m args below meth c T locs cells slots) (hx : p.tables.exec = Jvm.exec) {x : Value} (hd : decode c.code pc = .ok (.dup, 1)) (hc : x.category = 1) (hp : pc + 1 = pc') (w : own_W p e En below kc ks Q T (mkF m pc' Ls (x :: x :: st))) : own_W p e En below kc ks Q T (mkF m pc Ls (x :: st)) := by
  subst hp; exact own_W.step (fun _ q => XS.dup X.here hx rfl hd rfl hc q) w
theorem own_pop (X : Stand p l e R s m args below meth c T locs cells slots) (hx : p.tables.exec = Jvm.exec) {x : Value} (hd : decode c.code pc = .ok (.pop, 1)) (hc : x.category = 1) (hp : pc + 1 = pc') (w : own_W p e En below kc ks Q T (mkF m pc' Ls (st))) : own_W p e En below kc ks Q T (mkF m pc Ls (x :: st)) := by
  subst hp; exact own_W.step (fun _ q => XS.pop X.here hx rfl hd rfl hc q) w
theorem own_dupX1 (X : Stand p l e R s m args below meth c T locs cells slots) (hx : p.tables.exec = Jvm.exec) {x y : Value} (hd : decode c.code pc = .ok (.dup_x1, 1)) (hc : x.category = 1) (hc2 : y.category = 1) (hp : pc + 1 = pc') (w : own_W p e En below kc ks Q T (mkF m pc' Ls (x :: y :: x :: st))) : own_W p e En below kc ks Q T (mkF m pc Ls (x :: y :: st)) := by
  subst hp; exact own_W.step (fun _ q => XS.dupX1 X.here hx rfl hd rfl hc hc2 q) w
theorem own_dup2 (X : Stand p l e R s m args below meth c T locs cells slots) (hx : p.tables.exec = Jvm.exec) {x y : Value} (hd : decode c.code pc = .ok (.dup2, 1)) (hc : x.category = 1) (hc2 : y.category = 1) (hp : pc + 1 = pc') (w : own_W p e En below kc ks Q T (mkF m pc' Ls (x :: y :: x :: y :: st))) : own_W p e En below kc ks Q T (mkF m pc Ls (x :: y :: st)) := by
  subst hp; exact own_W.step (fun _ q => XT.dup2 X.here hx rfl hd rfl hc hc2 q) w
theorem own_dup2L (X : Stand p l e R s m args below meth c T locs cells slots) (hx : p.tables.exec = Jvm.exec) {x : Int64} (hd : decode c.code pc = .ok (.dup2, 1))  (hp : pc + 1 = pc') (w : own_W p e En below kc ks Q T (mkF m pc' Ls (.long x :: .long x :: st))) : own_W p e En below kc ks Q T (mkF m pc Ls (.long x :: st)) := by
  subst hp; exact own_W.step (fun _ q => XT.dup2L X.here hx rfl hd rfl q) w
theorem own_goto (X : Stand p l e R s m args below meth c T locs cells slots) (hx : p.tables.exec = Jvm.exec) {o : Int} (hd : decode c.code pc = .ok (.goto o, 3)) {pc' : Nat} (ho : 0 ≤ (pc : Int) + o) (hp : ((pc : Int) + o).toNat = pc') (w : own_W p e En below kc ks Q T (mkF m pc' Ls st)) : own_W p e En below kc ks Q T (mkF m pc Ls st) :=
  own_W.step (fun _ q => XS.goto X.here hx rfl rfl hd ho hp q) w
theorem own_ifYes (X : Stand p l e R s m args below meth c T locs cells slots) (hx : p.tables.exec = Jvm.exec) {cd : Jvm.ClassFile.Cond} {x : Int32} {o : Int} (hd : decode c.code pc = .ok (.ifCond cd o, 3)) (hc : ifCond.holds cd x = true) {pc' : Nat} (ho : 0 ≤ (pc : Int) + o) (hp : ((pc : Int) + o).toNat = pc') (w : own_W p e En below kc ks Q T (mkF m pc' Ls st)) : own_W p e En below kc ks Q T (mkF m pc Ls (.int x :: st)) :=
  own_W.step (fun _ q => XS.ifYes X.here hx rfl rfl hd rfl hc ho hp q) w
theorem own_ifNo (X : Stand p l e R s m args below meth c T locs cells slots) (hx : p.tables.exec = Jvm.exec) {cd : Jvm.ClassFile.Cond} {x : Int32} {o : Int} (hd : decode c.code pc = .ok (.ifCond cd o, 3)) (hc : ifCond.holds cd x = false) (hp : pc + 3 = pc') (w : own_W p e En below kc ks Q T (mkF m pc' Ls st)) : own_W p e En below kc ks Q T (mkF m pc Ls (.int x :: st)) := by
  subst hp; exact own_W.step (fun _ q => XS.ifNo X.here hx rfl hd rfl hc q) w
theorem own_icmpYes (X : Stand p l e R s m args below meth c T locs cells slots) (hx : p.tables.exec = Jvm.exec) {cd : Jvm.ClassFile.Cond} {x y : Int32} {o : Int} (hd : decode c.code pc = .ok (.if_icmp cd o, 3)) (hc : if_icmp.holds cd x y = true) {pc' : Nat} (ho : 0 ≤ (pc : Int) + o) (hp : ((pc : Int) + o).toNat = pc') (w : own_W p e En below kc ks Q T (mkF m pc' Ls st)) : own_W p e En below kc ks Q T (mkF m pc Ls (.int y :: .int x :: st)) :=
  own_W.step (fun _ q => XS.icmpYes X.here hx rfl rfl hd rfl hc ho hp q) w
theorem own_icmpNo (X : Stand p l e R s m args below meth c T locs cells slots) (hx : p.tables.exec = Jvm.exec) {cd : Jvm.ClassFile.Cond} {x y : Int32} {o : Int} (hd : decode c.code pc = .ok (.if_icmp cd o, 3)) (hc : if_icmp.holds cd x y = false) (hp : pc + 3 = pc') (w : own_W p e En below kc ks Q T (mkF m pc' Ls st)) : own_W p e En below kc ks Q T (mkF m pc Ls (.int y :: .int x :: st)) := by
  subst hp; exact own_W.step (fun _ q => XS.icmpNo X.here hx rfl hd rfl hc q) w
theorem own_ifnullYes (X : Stand p l e R s m args below meth c T locs cells slots) (hx : p.tables.exec = Jvm.exec) {o : Int} (hd : decode c.code pc = .ok (.ifnull o, 3)) {pc' : Nat} (ho : 0 ≤ (pc : Int) + o) (hp : ((pc : Int) + o).toNat = pc') (w : own_W p e En below kc ks Q T (mkF m pc' Ls st)) : own_W p e En below kc ks Q T (mkF m pc Ls (.null :: st)) :=
  own_W.step (fun _ q => XS.ifnullYes X.here hx rfl rfl hd rfl ho hp q) w
theorem own_ifnullNo (X : Stand p l e R s m args below meth c T locs cells slots) (hx : p.tables.exec = Jvm.exec) {o : Int} (hd : decode c.code pc = .ok (.ifnull o, 3)) (hp : pc + 3 = pc') (w : own_W p e En below kc ks Q T (mkF m pc' Ls st)) : own_W p e En below kc ks Q T (mkF m pc Ls (.ref b :: st)) := by
  subst hp; exact own_W.step (fun _ q => XS.ifnullNo X.here hx rfl hd rfl q) w
theorem own_ifnonnullYes (X : Stand p l e R s m args below meth c T locs cells slots) (hx : p.tables.exec = Jvm.exec) {o : Int} (hd : decode c.code pc = .ok (.ifnonnull o, 3)) {pc' : Nat} (ho : 0 ≤ (pc : Int) + o) (hp : ((pc : Int) + o).toNat = pc') (w : own_W p e En below kc ks Q T (mkF m pc' Ls st)) : own_W p e En below kc ks Q T (mkF m pc Ls (.ref b :: st)) :=
  own_W.step (fun _ q => XS.ifnonnullYes X.here hx rfl rfl hd rfl ho hp q) w
theorem own_ifnonnullNo (X : Stand p l e R s m args below meth c T locs cells slots) (hx : p.tables.exec = Jvm.exec) {o : Int} (hd : decode c.code pc = .ok (.ifnonnull o, 3)) (hp : pc + 3 = pc') (w : own_W p e En below kc ks Q T (mkF m pc' Ls st)) : own_W p e En below kc ks Q T (mkF m pc Ls (.null :: st)) := by
  subst hp; exact own_W.step (fun _ q => XS.ifnonnullNo X.here hx rfl hd rfl q) w
/-- an array: its kind, its length, what each place holds -/
def own_A (Z : State) (h : Heap) (a : Addr) (ty : FieldType) (n : Nat) (f : Nat → Value) : Prop := ∃ c : Cell, Arr Z h a c ty ∧ c.slots.size = n ∧ n < 2 ^ 31 ∧ (∀ i, i < n → c.slots[i]? = some (f i)) ∧ ∀ i, i < n → fits ty (f i) = true
/-- the int j names the place i, which lies in an array of n places -/
def own_In (j : Int32) (i n : Nat) : Prop := j.toInt = (i : Int) ∧ i < n
variable {ty : FieldType} {n i : Nat} {f f' : Nat → Value} {j : Int32}
def own_k0 (_ : Nat) : Int32 := 0
def own_k0L (_ : Nat) : Int64 := 0
def own_up {α : Type} (f : Nat → α) (k : Nat) (x : α) (z : Nat) : α := if z = k then x else f z
theorem own_up_same {α : Type} (f : Nat → α) (k : Nat) (x : α) : own_up f k x k = x := if_pos rfl
theorem own_up_other {α : Type} (f : Nat → α) (k : Nat) (x : α) (z : Nat) (q : z ≠ k) : own_up f k x z = f z := if_neg q
theorem own_In.nat (q : own_In j i n) : j.toNatClampNeg = i := by
  show j.toInt.toNat = i
  rw [q.1]; rfl
theorem own_In.inb {cl : Cell} (q : own_In j i n) (S : cl.slots.size = n) : ¬ (j < 0 ∨ cl.slots.size ≤ j.toNatClampNeg) := by
  rw [q.nat, S]
  have q1 := q.1
  have q2 := q.2
  rintro (r | r)
  · rw [Int32.lt_iff_toInt_lt] at r
    have z : (0 : Int32).toInt = 0 := rfl
    omega
  · omega
theorem own_A.lt (F : own_A Z h a ty n f) : a < h.size := by obtain ⟨c, A, -⟩ := F; exact A.lt
theorem own_A.len (F : own_A Z h a ty n f) : n < 2 ^ 31 := by obtain ⟨c, -, -, q, -, -⟩ := F; exact q
theorem own_A.ext (F : own_A Z h a ty n f) (E : Ext h h') : own_A Z h' a ty n f := by obtain ⟨c, A, r⟩ := F; exact ⟨c, A.ext E, r⟩
theorem own_A.other {v : Value} (F : own_A Z h b ty n f) (W : Wr h h' a sl v) (q : b ≠ a) : own_A Z h' b ty n f := by obtain ⟨c, A, r⟩ := F; exact ⟨c, A.other W q, r⟩
theorem own_A.keep {ws : List Addr} (F : own_A Z h a ty n f) (K : Keep h h' ws) (q : a ∉ ws) : own_A Z h' a ty n f := by obtain ⟨c, A, r⟩ := F; exact ⟨c, ⟨K.2.1 a c A.1 q, A.2⟩, r⟩
theorem own_A.congr (F : own_A Z h a ty n f) (q : ∀ i, i < n → f i = f' i) : own_A Z h a ty n f' := by
  obtain ⟨c, A, r1, r2, r3, r4⟩ := F
  exact ⟨c, A, r1, r2, fun i hi => by rw [r3 i hi, q i hi], fun i hi => by rw [← q i hi]; exact r4 i hi⟩
theorem own_A.fit (F : own_A Z h a ty n f) {i : Nat} (hi : i < n) : fits ty (f i) = true := by obtain ⟨c, A, r1, r2, r3, r4⟩ := F; exact r4 i hi
theorem own_A.new {k : ClassId} {z : Int32} (A : Arr Z h a (newA k ty z) ty) (q : ¬ z < 0) (hn : z.toNatClampNeg = n) : own_A Z h a ty n (fun _ => defaultValue ty) := by
  subst hn
  refine ⟨_, A, sz_new _ _ _, (back32 q).2, fun i hi => ?_, fun i _ => by cases ty <;> rfl⟩
  show (Array.replicate z.toNatClampNeg (defaultValue ty))[i]? = _
  rw [Array.getElem?_replicate, if_pos hi]
theorem own_A.put {cl : Cell} {v : Value} (A : Arr Z h a cl ty) (S : cl.slots.size = n) (hn : n < 2 ^ 31) (H : ∀ i, i < n → cl.slots[i]? = some (f i)) (G : ∀ i, i < n → fits ty (f i) = true) (hv : fits ty v = true) (q : own_In j i n) (W : Wr h h' a j.toNatClampNeg v) : own_A Z h' a ty n (fun z => if z = i then v else f z) := by
  refine ⟨_, A.same W, by rw [sz_set]; exact S, hn, fun k hk => ?_, fun k hk => ?_⟩
  rotate_left
  · show fits ty (if k = i then v else f k) = true
    by_cases e : k = i
    · rw [if_pos e]; exact hv
    · rw [if_neg e]; exact G k hk
  show (cl.slots.setIfInBounds j.toNatClampNeg v)[k]? = some (if k = i then v else f k)
  rw [q.nat, Array.getElem?_setIfInBounds]
  by_cases e : i = k
  · subst e
    rw [if_pos rfl, if_pos (by rw [S]; exact hk), if_pos rfl]
  · rw [if_neg e, if_neg (fun z => e z.symm), H k hk]
theorem own_stI (X : Stand p l e R s m args below meth c T locs cells slots) (hx : p.tables.exec = Jvm.exec) (hZ : Z.Warmed39 s.vm) (eT : T.heap = h) (F : own_A Z h a .int n f) {x : Int32} (hi : own_In j i n) {g : JFrame} (hg : g.method = m) {rest : List Value} (hs : g.stack = .int x :: .int j :: .ref a :: rest) (hd : decode c.code g.pc = .ok (.iastore, 1)) :
    ∃ T' h', Stand p l e R s m args below meth c T' (locs ++ [⟨a, j.toNatClampNeg⟩]) cells slots ∧ T'.heap = h' ∧ Wr h h' a j.toNatClampNeg (.int (x)) ∧ own_A Z h' a .int n (fun z => if z = i then .int (x) else f z) ∧ ∀ target, Steps p.tables e below (T'.setTop { g with pc := g.pc + 1, stack := rest }) target → Steps p.tables e below (T.setTop g) target := by
  obtain ⟨cl, A, S, hn, H, G⟩ := F
  obtain ⟨T', h', X', e', W', st'⟩ := stI X hx hZ eT A (hi.inb S) hg hs hd
  exact ⟨T', h', X', e', W', own_A.put A S hn H G rfl hi W', st'⟩
theorem own_stJ (X : Stand p l e R s m args below meth c T locs cells slots) (hx : p.tables.exec = Jvm.exec) (hZ : Z.Warmed39 s.vm) (eT : T.heap = h) (F : own_A Z h a .long n f) {x : Int64} (hi : own_In j i n) {g : JFrame} (hg : g.method = m) {rest : List Value} (hs : g.stack = .long x :: .int j :: .ref a :: rest) (hd : decode c.code g.pc = .ok (.lastore, 1)) :
    ∃ T' h', Stand p l e R s m args below meth c T' (locs ++ [⟨a, j.toNatClampNeg⟩]) cells slots ∧ T'.heap = h' ∧ Wr h h' a j.toNatClampNeg (.long (x)) ∧ own_A Z h' a .long n (fun z => if z = i then .long (x) else f z) ∧ ∀ target, Steps p.tables e below (T'.setTop { g with pc := g.pc + 1, stack := rest }) target → Steps p.tables e below (T.setTop g) target := by
  obtain ⟨cl, A, S, hn, H, G⟩ := F
  obtain ⟨T', h', X', e', W', st'⟩ := stJ X hx hZ eT A (hi.inb S) hg hs hd
  exact ⟨T', h', X', e', W', own_A.put A S hn H G rfl hi W', st'⟩
theorem own_stB (X : Stand p l e R s m args below meth c T locs cells slots) (hx : p.tables.exec = Jvm.exec) (hZ : Z.Warmed39 s.vm) (eT : T.heap = h) (F : own_A Z h a .byte n f) {x : Int32} (hi : own_In j i n) {g : JFrame} (hg : g.method = m) {rest : List Value} (hs : g.stack = .int x :: .int j :: .ref a :: rest) (hd : decode c.code g.pc = .ok (.bastore, 1)) :
    ∃ T' h', Stand p l e R s m args below meth c T' (locs ++ [⟨a, j.toNatClampNeg⟩]) cells slots ∧ T'.heap = h' ∧ Wr h h' a j.toNatClampNeg (.int (x.toInt8.toInt32)) ∧ own_A Z h' a .byte n (fun z => if z = i then .int (x.toInt8.toInt32) else f z) ∧ ∀ target, Steps p.tables e below (T'.setTop { g with pc := g.pc + 1, stack := rest }) target → Steps p.tables e below (T.setTop g) target := by
  obtain ⟨cl, A, S, hn, H, G⟩ := F
  obtain ⟨T', h', X', e', W', st'⟩ := stB X hx hZ eT A (hi.inb S) hg hs hd
  exact ⟨T', h', X', e', W', own_A.put A S hn H G (fits_nar_byte _) hi W', st'⟩
theorem own_iaload (X : Stand p l e R s m args below meth c T locs cells slots) (hx : p.tables.exec = Jvm.exec) (hZ : Z.Warmed39 s.vm) (eT : T.heap = h) (F : own_A Z h a .int n f) (hi : own_In j i n) {v : Int32} (hv : f i = .int v) {g : JFrame} (hg : g.method = m) {rest : List Value} (hs : g.stack = .int j :: .ref a :: rest) (hd : decode c.code g.pc = .ok (.iaload, 1)) (w : own_W p e En below kc ks Q T { g with pc := g.pc + 1, stack := .int v :: rest }) : own_W p e En below kc ks Q T g := by
  obtain ⟨cl, A, S, hn, H, -⟩ := F
  exact own_W.step (X.iaload hx (j := j) (v := .int v) (by rw [eT]; exact A.1) (State.isArrayOf_alike hZ.alike A.2.1) A.2.2 (hi.inb S) (by rw [hi.nat, H i hi.2, hv]) (g := g) hg hs hd) w
theorem own_laload (X : Stand p l e R s m args below meth c T locs cells slots) (hx : p.tables.exec = Jvm.exec) (hZ : Z.Warmed39 s.vm) (eT : T.heap = h) (F : own_A Z h a .long n f) (hi : own_In j i n) {v : Int64} (hv : f i = .long v) {g : JFrame} (hg : g.method = m) {rest : List Value} (hs : g.stack = .int j :: .ref a :: rest) (hd : decode c.code g.pc = .ok (.laload, 1)) (w : own_W p e En below kc ks Q T { g with pc := g.pc + 1, stack := .long v :: rest }) : own_W p e En below kc ks Q T g := by
  obtain ⟨cl, A, S, hn, H, -⟩ := F
  exact own_W.step (X.laload hx (j := j) (v := .long v) (by rw [eT]; exact A.1) (State.isArrayOf_alike hZ.alike A.2.1) A.2.2 (hi.inb S) (by rw [hi.nat, H i hi.2, hv]) (g := g) hg hs hd) w
theorem own_baload (X : Stand p l e R s m args below meth c T locs cells slots) (hx : p.tables.exec = Jvm.exec) (hZ : Z.Warmed39 s.vm) (eT : T.heap = h) (F : own_A Z h a .byte n f) (hi : own_In j i n) {v : Int32} (hv : f i = .int v) {g : JFrame} (hg : g.method = m) {rest : List Value} (hs : g.stack = .int j :: .ref a :: rest) (hd : decode c.code g.pc = .ok (.baload, 1)) (w : own_W p e En below kc ks Q T { g with pc := g.pc + 1, stack := .int v :: rest }) : own_W p e En below kc ks Q T g := by
  obtain ⟨cl, A, S, hn, H, -⟩ := F
  exact own_W.step (X.baloadBytes hx (j := j) (v := .int v) (by rw [eT]; exact A.1) (State.isArrayOf_alike hZ.alike A.2.1) A.2.2 (hi.inb S) (by rw [hi.nat, H i hi.2, hv]) (g := g) hg hs hd) w
theorem own_alen (X : Stand p l e R s m args below meth c T locs cells slots) (hx : p.tables.exec = Jvm.exec) (hZ : Z.Warmed39 s.vm) (eT : T.heap = h) (F : own_A Z h a ty n f) {z : Int32} (hz : n.toInt32 = z) {g : JFrame} (hg : g.method = m) {rest : List Value} (hs : g.stack = .ref a :: rest) (hd : decode c.code g.pc = .ok (.arraylength, 1)) (w : own_W p e En below kc ks Q T { g with pc := g.pc + 1, stack := .int z :: rest }) : own_W p e En below kc ks Q T g := by
  obtain ⟨cl, A, S, hn, H, -⟩ := F
  subst hz S
  exact own_W.step (X.arraylength hx (by rw [eT]; exact A.1) (State.isArrayOf_alike hZ.alike A.2.1) (g := g) hg hs hd) w

/-- a constructor whose entry is resolved already (a nest mate's private one) -/
theorem own_ready {a0 : Array Value} {own : String} {index : Nat} {y : MethodName} (hZ : Z.Warmed39 s.vm) (hown : s.vm.findClass own = some m.cls) (hy : y.cls ≠ "java/lang/invoke/MethodHandle" ∧ y.cls ≠ "java/lang/invoke/VarHandle") (w : (Jvm.Cond.methodRef own index y).before a0 Z = true) (wi : (Jvm.Cond.instanceMethod y).before a0 Z = true) (ev : Env) :
    ∀ (U : State) (r : MethodId), s.WarmedH U.vm → s.methodNamed? y = some r → namesResolved U.vm m.cls index r.cls ∧ U.vm.methodReady m.cls index r := by
  intro U r hW hn
  obtain ⟨mk, methM, hnZ, -⟩ := Cond.instanceMethod_spec wi
  have hZU : Z.Warmed39 U.vm := wtrans hZ hW
  have h1 := Cond.methodRef_warmed39 hZU hnZ hy w
  have e0 : (Z.setVm s.vm).methodNamed? y = Z.methodNamed? y := State.methodNamed?_setVm hZ.alike y
  have e1 : s.methodNamed? y = (Z.setVm s.vm).methodNamed? y := rfl
  have e2 : mk = r := by rw [e1, e0, hnZ] at hn; exact Option.some.inj hn
  subst e2
  have e3 : (Z.setVm U.vm).methodNamed? y = some mk := by rw [State.methodNamed?_setVm hZU.alike y]; exact hnZ
  have hcur : (Z.setVm U.vm).vm.findClass own = some m.cls := by
    show U.vm.findClass own = _
    rw [hW.alike.findClass]; exact hown
  obtain ⟨m', c', hm, hready, hfind, hnr⟩ := Cond.methodRef_named ev hcur h1
  cases hm.symm.trans (State.methodFound?_of_named e3 hy)
  cases hfind.symm.trans (findClass_of_methodNamed e3)
  exact ⟨hnr, hready⟩
theorem own_specialRef (X : Stand p l e R s m args below meth c T locs cells slots) (hexec : p.tables.exec = Jvm.exec) (hZ : Z.Warmed39 s.vm) {a0 : Array Value} {own : String} {index : Nat} {y : MethodName} (hy1 : y.name = "<init>") (hown : s.vm.findClass own = some m.cls) (w : (Jvm.Cond.methodRef own index y).before a0 Z = true) (wi : (Jvm.Cond.instanceMethod y).before a0 Z = true)
    {bytes : ByteArray} {maxL : Nat} (wc : (Jvm.Cond.code y bytes maxL none).before a0 Z = true) (hy : y.cls ≠ "java/lang/invoke/MethodHandle" ∧ y.cls ≠ "java/lang/invoke/VarHandle")
    {W : Nat} {Pre : Pt → Array Value → Prop} {Post : Pt → Array Value → Option Value → Pt → Prop} (hK : Back l R p e below s args y 3 W Pre Post)
    {g : JFrame} (hg : g.method = m) (hsize : g.locals.size = c.maxLocals) {s₀ : State} (hcome : Steps p.tables e below s₀ (T.setTop g)) {a : Addr} {argsL rest : List Value}
    (hlen : ∀ sig, parseMethodDescriptor y.desc = some sig → argsL.length = sig.parameters.length) (hstack : g.stack = argsL.reverse ++ .ref a :: rest) (hW : 2 * g.monitorRoom + (rest.map fun v => v.category).sum ≤ W)
    (hdg : decode c.code g.pc = .ok (.invokespecial index, 3)) (hpre : ∀ vm₁, s.WarmedH vm₁ → Pre ⟨T.setVm vm₁, locs, cells, slots⟩ (.ref a :: argsL).toArray) :
    ∃ (v : Option Value) (vm₁ : Vm) (B : Pt), s.WarmedH vm₁ ∧ Stand p l e R s m args below meth c B.U B.locs B.cells B.slots ∧ Post ⟨T.setVm vm₁, locs, cells, slots⟩ (.ref a :: argsL).toArray v B ∧
      Steps p.tables e below s₀ (B.U.setTop { g with pc := g.pc + 3, stack := v.toList ++ rest }) :=
  (SCall.of_ready hexec hy1 (mvT hZ wi) (mvT hZ wc) (own_ready hZ hown hy w wi e)) X hK hg hsize hcome hlen hstack hW hdg hpre
theorem own_selP {a0 : Array Value} {y : MethodName} {n : Nat} (wp : (Jvm.Cond.privateMethod y).before a0 Z = true) (wi : (Jvm.Cond.instanceMethod y).before a0 Z = true) (wn : (Jvm.Cond.instantiable y.cls n).before a0 Z = true) (hy : y.cls ≠ "java/lang/invoke/MethodHandle" ∧ y.cls ≠ "java/lang/invoke/VarHandle") : (Jvm.Cond.selects y.cls y y).before a0 Z = true := by
  obtain ⟨mk, methM, hn, hm, hst, hab⟩ := Cond.instanceMethod_spec wi
  obtain ⟨c, k, hc, hk, -, hi, -⟩ := Cond.instantiable_spec wn
  have hcls : Z.vm.findClass y.cls = some mk.cls := findClass_of_methodNamed hn
  cases hc.symm.trans hcls
  have hf := State.methodFound?_of_named hn hy
  have hs : selectMethod {} Z.vm mk.cls mk = .method mk := selectMethod_private hm (Cond.privateMethod_at wp mk methM hn hm)
  have hki : k.isInterface = false := (Bool.or_eq_false_iff.mp hi).1
  simp [Cond.before, Cond.holds, Cond.value, hcls, hf, hn, hs, hk, hki]
end OwnW

/-! the matching's arrays as functions -/
def own_cst (x : Int32) (_ : Nat) : Int32 := x
def own_fl (f : Nat → Int32) (x : Int32) (k : Int) (z : Nat) : Int32 := if (z : Int) < k then x else f z
theorem own_fl0 (f : Nat → Int32) (x : Int32) (z : Nat) : f z = own_fl f x (0 : Int32).toInt z := by
  unfold own_fl
  rw [if_neg (by rw [show (0 : Int32).toInt = 0 from rfl]; omega)]
theorem own_fls (f : Nat → Int32) (x : Int32) (i k : Int) (z : Nat) (hk : k = i + 1) (j : Nat) (hj : (j : Int) = i) : (if z = j then Value.int x else .int (own_fl f x i z)) = .int (own_fl f x k z) := by
  subst hk
  unfold own_fl
  by_cases q : z = j
  · rw [if_pos q, if_pos (by omega)]
  · rw [if_neg q]
    by_cases r : (z : Int) < i
    · rw [if_pos r, if_pos (by omega)]
    · rw [if_neg r, if_neg (by omega)]
theorem own_fle (f : Nat → Int32) (x : Int32) (i : Int) (n z : Nat) (hz : z < n) (hi : (n : Int) ≤ i) : own_fl f x i z = own_cst x z := by
  unfold own_fl own_cst
  rw [if_pos (by omega)]
theorem own_inc (i : Int32) (h : 0 ≤ i.toInt ∧ i.toInt < 1000) : (i + (1 : Int32)).toInt = i.toInt + 1 := by
  have e := c_iadd i (1 : Int32)
  have r := rng32 (i + (1 : Int32))
  have t1 : (1 : Int32).toInt = 1 := by decide
  omega
theorem own_dec (i : Int32) (h : 1 ≤ i.toInt ∧ i.toInt < 1000) : (i - (1 : Int32)).toInt = i.toInt - 1 := by
  have e := c_isub i (1 : Int32)
  have r := rng32 (i - (1 : Int32))
  have t1 : (1 : Int32).toInt = 1 := by decide
  omega
theorem own_2 (i : Int32) (h : 0 ≤ i.toInt ∧ i.toInt < 1000) : ((2 : Int32) * i).toInt = 2 * i.toInt := by
  have e := c_imul (2 : Int32) i
  have r := rng32 ((2 : Int32) * i)
  have t1 : (2 : Int32).toInt = 2 := by decide
  rw [t1] at e
  omega
theorem own_21 (i : Int32) (h : 0 ≤ i.toInt ∧ i.toInt < 1000) : ((2 : Int32) * i + (1 : Int32)).toInt = 2 * i.toInt + 1 := by
  have e := own_2 i h
  have a := c_iadd ((2 : Int32) * i) (1 : Int32)
  have r := rng32 ((2 : Int32) * i + (1 : Int32))
  have t1 : (1 : Int32).toInt = 1 := by decide
  omega
theorem own_I2 {j : Int32} {k n m : Nat} (h : own_In j k n) (hn : n ≤ 100) (hm : 2 * n ≤ m) : own_In ((2 : Int32) * j) (2 * k) m := by
  have h1 := h.1
  have h2 := h.2
  refine ⟨?_, by omega⟩
  rw [own_2 j (by omega)]
  omega
theorem own_I21 {j : Int32} {k n m : Nat} (h : own_In j k n) (hn : n ≤ 100) (hm : 2 * n ≤ m) : own_In ((2 : Int32) * j + (1 : Int32)) (2 * k + 1) m := by
  have h1 := h.1
  have h2 := h.2
  refine ⟨?_, by omega⟩
  rw [own_21 j (by omega)]
  omega
theorem own_Iw {j : Int32} {k n m : Nat} (h : own_In j k n) (hm : n ≤ m) : own_In j k m := ⟨h.1, by have := h.2; omega⟩
theorem own_Id {j : Int32} {k q n m : Nat} (h : own_In j k n) (hq : q + 1 = k) (hn : n ≤ 100) (hm : n ≤ m) : own_In (j - (1 : Int32)) q m := by
  have h1 := h.1
  have h2 := h.2
  refine ⟨?_, by omega⟩
  rw [own_dec j (by omega)]
  omega
def own_at (fE fP : Nat → Int32) (x pz : Nat) : Int32 := if fP x = (-1 : Int32) then (-1 : Int32) else fE pz
def own_mate (fN : Nat → Int32) (p : Nat) (w : Int32) : Int32 := if fN (2 * p) = w then fN (2 * p + 1) else fN (2 * p)
def own_free (y : Int32) : Int32 := if y = (-1 : Int32) then 1 else 0
def own_ne4 (a b c d : Addr) : Prop := a ≠ b ∧ a ≠ c ∧ a ≠ d ∧ b ≠ c ∧ b ≠ d ∧ c ≠ d
/-! the matching of no, one, two edges -/
def own_S0 (n : Nat) (us : Int32) (fP : Nat → Int32) : Prop := us.toInt = 0 ∧ ∀ z : Nat, z < n → fP z = (-1 : Int32)
def own_S1 (n : Nat) (us : Int32) (fE fN fP : Nat → Int32) (e a b : Int32) : Prop := us.toInt = 1 ∧ fE 0 = e ∧ fN 0 = a ∧ fN 1 = b ∧ ∀ z : Nat, z < n → (((z : Int) = a.toInt ∨ (z : Int) = b.toInt) → fP z = (0 : Int32)) ∧ (¬ ((z : Int) = a.toInt ∨ (z : Int) = b.toInt) → fP z = (-1 : Int32))
def own_S2 (n : Nat) (us : Int32) (fE fN fP : Nat → Int32) (e a b e' a' b' : Int32) : Prop := us.toInt = 2 ∧ fE 0 = e ∧ fE 1 = e' ∧ fN 0 = a ∧ fN 1 = b ∧ fN 2 = a' ∧ fN 3 = b' ∧ ∀ z : Nat, z < n → (((z : Int) = a.toInt ∨ (z : Int) = b.toInt) → fP z = (0 : Int32)) ∧ (((z : Int) = a'.toInt ∨ (z : Int) = b'.toInt) → fP z = (1 : Int32)) ∧ (¬ ((z : Int) = a.toInt ∨ (z : Int) = b.toInt) → ¬ ((z : Int) = a'.toInt ∨ (z : Int) = b'.toInt) → fP z = (-1 : Int32))
theorem own_us0 {x : Int32} (h : x.toInt = 0) : x = (0 : Int32) := Int32.toInt_inj.mp (by rw [h]; rfl)
theorem own_us1 {x : Int32} (h : x.toInt = 1) : x = (1 : Int32) := Int32.toInt_inj.mp (by rw [h]; decide)
theorem own_s0 (n : Nat) : own_S0 n (0 : Int32) (own_cst (-1 : Int32)) := ⟨rfl, fun _ _ => rfl⟩
theorem own_add0 {n : Nat} {us : Int32} {fE fN fP : Nat → Int32} (h : own_S0 n us fP) (e a b : Int32) {xa xb : Nat} (ha : own_In a xa n) (hb : own_In b xb n) : own_S1 n (us + (1 : Int32)) (own_up fE 0 e) (own_up (own_up fN (2 * 0) a) (2 * 0 + 1) b) (own_up (own_up fP xa us) xb us) e a b := by
  obtain ⟨h1, h2⟩ := h
  have u := own_us0 h1
  refine ⟨by rw [own_inc us (by omega)]; omega, rfl, rfl, rfl, fun z hz => ?_⟩
  have q := h2 z hz
  have ha1 := ha.1
  have hb1 := hb.1
  subst u
  unfold own_up
  constructor
  · intro r
    by_cases r1 : z = xb
    · rw [if_pos r1]
    · rw [if_neg r1, if_pos (by omega)]
  · intro r
    rw [if_neg (by omega), if_neg (by omega), q]
theorem own_add1 {n : Nat} {us : Int32} {fE fN fP : Nat → Int32} {e0 a0 b0 : Int32} (h : own_S1 n us fE fN fP e0 a0 b0) (e a b : Int32) {xa xb : Nat} (ha : own_In a xa n) (hb : own_In b xb n) (d : a0.toInt ≠ a.toInt ∧ a0.toInt ≠ b.toInt ∧ b0.toInt ≠ a.toInt ∧ b0.toInt ≠ b.toInt) : own_S2 n (us + (1 : Int32)) (own_up fE 1 e) (own_up (own_up fN (2 * 1) a) (2 * 1 + 1) b) (own_up (own_up fP xa us) xb us) e0 a0 b0 e a b := by
  obtain ⟨h1, h2, h3, h4, h5⟩ := h
  have u := own_us1 h1
  refine ⟨by rw [own_inc us (by omega)]; omega, h2, rfl, h3, h4, rfl, rfl, fun z hz => ?_⟩
  obtain ⟨q1, q2⟩ := h5 z hz
  have ha1 := ha.1
  have hb1 := hb.1
  subst u
  unfold own_up
  refine ⟨fun r => ?_, fun r => ?_, fun r s => ?_⟩
  · rw [if_neg (by omega), if_neg (by omega), q1 r]
  · by_cases r1 : z = xb
    · rw [if_pos r1]
    · rw [if_neg r1, if_pos (by omega)]
  · rw [if_neg (by omega), if_neg (by omega), q2 r]
theorem own_rm1 {n : Nat} {us : Int32} {fE fN fP : Nat → Int32} {e a b : Int32} (h : own_S1 n us fE fN fP e a b) {ya yb : Nat} (ha : own_In a ya n) (hb : own_In b yb n) : own_S0 n (us - (1 : Int32)) (own_up (own_up fP ya (-1 : Int32)) yb (-1 : Int32)) := by
  obtain ⟨h1, h2, h3, h4, h5⟩ := h
  refine ⟨by rw [own_dec us (by omega)]; omega, fun z hz => ?_⟩
  obtain ⟨q1, q2⟩ := h5 z hz
  have ha1 := ha.1
  have hb1 := hb.1
  unfold own_up
  by_cases r1 : z = yb
  · rw [if_pos r1]
  · rw [if_neg r1]
    by_cases r2 : z = ya
    · rw [if_pos r2]
    · rw [if_neg r2, q2 (by omega)]
theorem own_rm2l {n : Nat} {us : Int32} {fE fN fP : Nat → Int32} {e a b e' a' b' : Int32} (h : own_S2 n us fE fN fP e a b e' a' b') {ya yb : Nat} (ha : own_In a' ya n) (hb : own_In b' yb n) (d : a.toInt ≠ a'.toInt ∧ a.toInt ≠ b'.toInt ∧ b.toInt ≠ a'.toInt ∧ b.toInt ≠ b'.toInt) : own_S1 n (us - (1 : Int32)) fE fN (own_up (own_up fP ya (-1 : Int32)) yb (-1 : Int32)) e a b := by
  obtain ⟨h1, h2, h3, h4, h5, h6, h7, h8⟩ := h
  refine ⟨by rw [own_dec us (by omega)]; omega, h2, h4, h5, fun z hz => ?_⟩
  obtain ⟨q1, q2, q3⟩ := h8 z hz
  have ha1 := ha.1
  have hb1 := hb.1
  unfold own_up
  refine ⟨fun r => ?_, fun r => ?_⟩
  · rw [if_neg (by omega), if_neg (by omega), q1 r]
  · by_cases r1 : z = yb
    · rw [if_pos r1]
    · rw [if_neg r1]
      by_cases r2 : z = ya
      · rw [if_pos r2]
      · rw [if_neg r2, q3 r (by omega)]
theorem own_rm2m {n : Nat} {us : Int32} {fE fN fP : Nat → Int32} {e a b e' a' b' : Int32} (h : own_S2 n us fE fN fP e a b e' a' b') {xa ya yb za zb : Nat} (hx : fP xa = (0 : Int32)) (ha : own_In a ya n) (hb : own_In b yb n) (ha' : own_In a' za n) (hb' : own_In b' zb n) : own_S1 n (us - (1 : Int32)) (own_up fE 0 (fE 1)) (own_up (own_up fN (2 * 0) (fN (2 * 1))) (2 * 0 + 1) (fN (2 * 1 + 1))) (own_up (own_up (own_up (own_up fP ya (-1 : Int32)) yb (-1 : Int32)) za (fP xa)) zb (fP xa)) e' a' b' := by
  obtain ⟨h1, h2, h3, h4, h5, h6, h7, h8⟩ := h
  refine ⟨by rw [own_dec us (by omega)]; omega, h3, h6, h7, fun z hz => ?_⟩
  obtain ⟨q1, q2, q3⟩ := h8 z hz
  have y1 := ha.1
  have y2 := hb.1
  have y3 := ha'.1
  have y4 := hb'.1
  rw [hx]
  unfold own_up
  refine ⟨fun r => ?_, fun r => ?_⟩
  · by_cases r1 : z = zb
    · rw [if_pos r1]
    · rw [if_neg r1, if_pos (by omega)]
  · rw [if_neg (by omega), if_neg (by omega)]
    by_cases r1 : z = yb
    · rw [if_pos r1]
    · rw [if_neg r1]
      by_cases r2 : z = ya
      · rw [if_pos r2]
      · rw [if_neg r2, q3 (by omega) r]
theorem own_in_of {x : Int32} {n : Nat} (h0 : 0 ≤ x.toInt) (h1 : x.toInt < (n : Int)) : own_In x x.toInt.toNat n := ⟨by omega, by omega⟩
theorem own_clr1 {n : Nat} {us : Int32} {fE fN fP : Nat → Int32} {e a b : Int32} (h : own_S1 n us fE fN fP e a b) {ya yb : Nat} (ha : own_In a ya n) (hb : own_In b yb n) : own_S0 n (0 : Int32) (own_up (own_up fP ya (-1 : Int32)) yb (-1 : Int32)) := ⟨rfl, (own_rm1 h ha hb).2⟩
theorem own_clr2 {n : Nat} {us : Int32} {fE fN fP : Nat → Int32} {e a b e' a' b' : Int32} (h : own_S2 n us fE fN fP e a b e' a' b') {ya yb za zb : Nat} (ha : own_In a ya n) (hb : own_In b yb n) (ha' : own_In a' za n) (hb' : own_In b' zb n) : own_S0 n (0 : Int32) (own_up (own_up (own_up (own_up fP ya (-1 : Int32)) yb (-1 : Int32)) za (-1 : Int32)) zb (-1 : Int32)) := by
  obtain ⟨h1, h2, h3, h4, h5, h6, h7, h8⟩ := h
  refine ⟨rfl, fun z hz => ?_⟩
  obtain ⟨q1, q2, q3⟩ := h8 z hz
  have y1 := ha.1
  have y2 := hb.1
  have y3 := ha'.1
  have y4 := hb'.1
  unfold own_up
  by_cases r4 : z = zb
  · rw [if_pos r4]
  · rw [if_neg r4]
    by_cases r3 : z = za
    · rw [if_pos r3]
    · rw [if_neg r3]
      by_cases r2 : z = yb
      · rw [if_pos r2]
      · rw [if_neg r2]
        by_cases r1 : z = ya
        · rw [if_pos r1]
        · rw [if_neg r1, q3 (by omega) (by omega)]
/-! the law's numbers -/
abbrev own_c (v a b c1 : Int32) : Prop := ¬ c1 = (0 : Int32) ∧ (v = a ∨ v = b)
def own_exp (v a b c d c1 c2 : Int32) : Int32 := if own_c v a b c1 ∨ own_c v c d c2 then 0 else 1
theorem own_u1 (p : Int32) : 0 ≤ (p &&& (3 : Int32)).toInt ∧ (p &&& (3 : Int32)).toInt < 4 := by
  have e := c_mask p (3 : Int32) 2 (by decide) (by decide)
  omega
theorem own_u2 (p u : Int32) (hu : 0 ≤ u.toInt ∧ u.toInt < 4) : 0 ≤ ((u + (1 : Int32) + (p &&& (2147483647 : Int32)) % (3 : Int32)) &&& (3 : Int32)).toInt ∧ ((u + (1 : Int32) + (p &&& (2147483647 : Int32)) % (3 : Int32)) &&& (3 : Int32)).toInt < 4 ∧ ((u + (1 : Int32) + (p &&& (2147483647 : Int32)) % (3 : Int32)) &&& (3 : Int32)).toInt ≠ u.toInt := by
  have e0 := c_mask p (2147483647 : Int32) 31 (by decide) (by decide)
  have pe1 := c_irem (p &&& (2147483647 : Int32)) (3 : Int32) 3 (by decide)
  have t1 : (1 : Int32).toInt = 1 := by decide
  have pe2 := c_iadd u (1 : Int32)
  have r2 := rng32 (u + (1 : Int32))
  have e3 := c_iadd (u + (1 : Int32)) ((p &&& (2147483647 : Int32)) % (3 : Int32))
  have r3 := rng32 (u + (1 : Int32) + (p &&& (2147483647 : Int32)) % (3 : Int32))
  have e4 := c_mask (u + (1 : Int32) + (p &&& (2147483647 : Int32)) % (3 : Int32)) (3 : Int32) 2 (by decide) (by decide)
  omega
theorem own_w2 (u w x : Int32) (h1 : 0 ≤ u.toInt ∧ u.toInt < 4) (h2 : 0 ≤ w.toInt ∧ w.toInt < 4) (h3 : 0 ≤ x.toInt ∧ x.toInt < 4) : ((6 : Int32) - u - w - x).toInt = 6 - u.toInt - w.toInt - x.toInt := by
  have t : (6 : Int32).toInt = 6 := by decide
  have pe1 := c_isub (6 : Int32) u
  have r1 := rng32 ((6 : Int32) - u)
  have pe2 := c_isub ((6 : Int32) - u) w
  have r2 := rng32 ((6 : Int32) - u - w)
  have e3 := c_isub ((6 : Int32) - u - w) x
  have r3 := rng32 ((6 : Int32) - u - w - x)
  omega
/-- which vertices are free -/
def own_V (fP : Nat → Int32) (a b c d c1 c2 : Int32) : Prop := ∀ z : Nat, z < 4 → (fP z = (-1 : Int32) ↔ ¬ ((¬ c1 = (0 : Int32) ∧ ((z : Int) = a.toInt ∨ (z : Int) = b.toInt)) ∨ (¬ c2 = (0 : Int32) ∧ ((z : Int) = c.toInt ∨ (z : Int) = d.toInt))))
theorem own_V2 {us : Int32} {fE fN fP : Nat → Int32} {e a b e' a' b' : Int32} (h : own_S2 4 us fE fN fP e a b e' a' b') {c1 c2 : Int32} (h1 : ¬ c1 = (0 : Int32)) (h2 : ¬ c2 = (0 : Int32)) : own_V fP a b a' b' c1 c2 := by
  obtain ⟨-, -, -, -, -, -, -, h8⟩ := h
  intro z hz
  obtain ⟨q1, q2, q3⟩ := h8 z hz
  constructor
  · intro y
    rintro (⟨-, r⟩ | ⟨-, r⟩)
    · rw [q1 r] at y; exact absurd y (by decide)
    · rw [q2 r] at y; exact absurd y (by decide)
  · intro y
    exact q3 (fun r => y (Or.inl ⟨h1, r⟩)) (fun r => y (Or.inr ⟨h2, r⟩))
theorem own_Vs {fP : Nat → Int32} {a b c d c1 c2 : Int32} (h : own_V fP c d a b c2 c1) : own_V fP a b c d c1 c2 := fun z hz => by rw [h z hz, Or.comm]
theorem own_V1 {us : Int32} {fE fN fP : Nat → Int32} {e a b : Int32} (h : own_S1 4 us fE fN fP e a b) (c d : Int32) {c1 c2 : Int32} (h1 : ¬ c1 = (0 : Int32)) (h2 : c2 = (0 : Int32)) : own_V fP a b c d c1 c2 := by
  obtain ⟨-, -, -, -, h8⟩ := h
  intro z hz
  obtain ⟨q1, q3⟩ := h8 z hz
  constructor
  · intro y
    rintro (⟨-, r⟩ | ⟨r, -⟩)
    · rw [q1 r] at y; exact absurd y (by decide)
    · exact r h2
  · intro y
    exact q3 (fun r => y (Or.inl ⟨h1, r⟩))
theorem own_V0 {us : Int32} {fP : Nat → Int32} (h : own_S0 4 us fP) (a b c d : Int32) {c1 c2 : Int32} (h1 : c1 = (0 : Int32)) (h2 : c2 = (0 : Int32)) : own_V fP a b c d c1 c2 := fun z hz => ⟨fun _ => by rintro (⟨r, -⟩ | ⟨r, -⟩); exact r h1; exact r h2, fun _ => h.2 z hz⟩
theorem own_fin {fP : Nat → Int32} {a b c d c1 c2 : Int32} (h : own_V fP a b c d c1 c2) (v : Int32) (z : Nat) (hv : own_In v z 4) : own_free (fP z) = own_exp v a b c d c1 c2 := by
  have q := h z hv.2
  rw [← hv.1, Int32.toInt_inj, Int32.toInt_inj, Int32.toInt_inj, Int32.toInt_inj] at q
  unfold own_free own_exp
  by_cases y : fP z = (-1 : Int32)
  · rw [if_pos y, if_neg (q.mp y)]
  · rw [if_neg y, if_pos (Decidable.not_not.mp fun w => y (q.mpr w))]
theorem d7_0 : decode method_3_code 0 = .ok (.iload 5, 2) := by decide +kernel
theorem d7_2 : decode method_3_code 2 = .ok (.ifCond .eq 17, 3) := by decide +kernel
theorem d7_5 : decode method_3_code 5 = .ok (.iload_n 0, 1) := by decide +kernel
theorem d7_6 : decode method_3_code 6 = .ok (.iload_n 1, 1) := by decide +kernel
theorem d7_7 : decode method_3_code 7 = .ok (.if_icmp .eq 8, 3) := by decide +kernel
theorem d7_10 : decode method_3_code 10 = .ok (.iload_n 0, 1) := by decide +kernel
theorem d7_11 : decode method_3_code 11 = .ok (.iload_n 2, 1) := by decide +kernel
theorem d7_12 : decode method_3_code 12 = .ok (.if_icmp .ne 7, 3) := by decide +kernel
theorem d7_15 : decode method_3_code 15 = .ok (.iconst 1, 1) := by decide +kernel
theorem d7_16 : decode method_3_code 16 = .ok (.goto 4, 3) := by decide +kernel
theorem d7_19 : decode method_3_code 19 = .ok (.iconst 0, 1) := by decide +kernel
theorem d7_20 : decode method_3_code 20 = .ok (.istore 7, 2) := by decide +kernel
theorem d7_22 : decode method_3_code 22 = .ok (.iload 6, 2) := by decide +kernel
theorem d7_24 : decode method_3_code 24 = .ok (.ifCond .eq 18, 3) := by decide +kernel
theorem d7_27 : decode method_3_code 27 = .ok (.iload_n 0, 1) := by decide +kernel
theorem d7_28 : decode method_3_code 28 = .ok (.iload_n 3, 1) := by decide +kernel
theorem d7_29 : decode method_3_code 29 = .ok (.if_icmp .eq 9, 3) := by decide +kernel
theorem d7_32 : decode method_3_code 32 = .ok (.iload_n 0, 1) := by decide +kernel
theorem d7_33 : decode method_3_code 33 = .ok (.iload 4, 2) := by decide +kernel
theorem d7_35 : decode method_3_code 35 = .ok (.if_icmp .ne 7, 3) := by decide +kernel
theorem d7_38 : decode method_3_code 38 = .ok (.iconst 1, 1) := by decide +kernel
theorem d7_39 : decode method_3_code 39 = .ok (.goto 4, 3) := by decide +kernel
theorem d7_42 : decode method_3_code 42 = .ok (.iconst 0, 1) := by decide +kernel
theorem d7_43 : decode method_3_code 43 = .ok (.istore 8, 2) := by decide +kernel
theorem d7_45 : decode method_3_code 45 = .ok (.iload 7, 2) := by decide +kernel
theorem d7_47 : decode method_3_code 47 = .ok (.ifCond .ne 12, 3) := by decide +kernel
theorem d7_50 : decode method_3_code 50 = .ok (.iload 8, 2) := by decide +kernel
theorem d7_52 : decode method_3_code 52 = .ok (.ifCond .ne 7, 3) := by decide +kernel
theorem d7_55 : decode method_3_code 55 = .ok (.iconst 1, 1) := by decide +kernel
theorem d7_56 : decode method_3_code 56 = .ok (.goto 4, 3) := by decide +kernel
theorem d7_59 : decode method_3_code 59 = .ok (.iconst 0, 1) := by decide +kernel
theorem d7_60 : decode method_3_code 60 = .ok (.ireturn, 1) := by decide +kernel
theorem own_pn_com_example_handfast_handfast_algorithm_MatchingIsFreePinLaw : plainName "com/example/handfast/handfast/algorithm/MatchingIsFreePinLaw" = true := by first | (simp [plainName, overriddenIn]; done) | decide +kernel
theorem ef_7 (m : MethodId) (pv : Int32) (pa : Int32) (pb : Int32) (pc : Int32) (pd : Int32) (c1 : Int32) (c2 : Int32) : entryFrame m #[(.int pv), (.int pa), (.int pb), (.int pc), (.int pd), (.int c1), (.int c2)] 9 = mkF m 0 #[.val (.int pv), .val (.int pa), .val (.int pb), .val (.int pc), .val (.int pd), .val (.int c1), .val (.int c2), .unset, .unset] [] := by first | (simp [entryFrame, mkF, argsToLocals, Value.category]; done) | rfl
def Q7 (Z : State) (pv : Int32) (pa : Int32) (pb : Int32) (pc : Int32) (pd : Int32) (c1 : Int32) (c2 : Int32)  (h0 : Heap) (n0 : Nat) (v : Option Value) (h : Heap) (L : List Loc) : Prop := v = some (.int (own_exp pv pa pb pc pd c1 c2)) ∧ Fr n0 L ∧ h = h0
set_option maxRecDepth 65536 in
set_option maxHeartbeats 40000000 in
theorem rm7 (l : Launch) (Z : State) (a0 : Array Value) (hw : ∀ d ∈ tables_1, d.before a0 Z = true) (ws : List Jvm.Cond) (pv : Int32) (pa : Int32) (pb : Int32) (pc : Int32) (pd : Int32) (c1 : Int32) (c2 : Int32)  (h0 : Heap) (n0 : Nat) (Z0 : n0 ≤ h0.size)  :
    MetFree l (⟨"com/example/handfast/handfast/algorithm/MatchingIsFreePinLaw", "expectedFree", "(IIIIIZZ)Z"⟩ : MethodName) (head1 (Jvm.Cond.code (⟨"com/example/handfast/handfast/algorithm/MatchingIsFreePinLaw", "expectedFree", "(IIIIIZZ)Z"⟩ : MethodName) method_3_code 9 (some .boolean) :: ws) ({ frames := 0, cells := 0, slots := 0, locals := 0 } : Room)) (fun avs U => avs = #[(.int pv), (.int pa), (.int pb), (.int pc), (.int pd), (.int c1), (.int c2)] ∧ Z.Warmed39 U.vm ∧ U.heap = h0) (fun _ _ _ _ _ => True) (fun _ U o U' => ∃ v L, o = .returned v ∧ Q7 Z pv pa pb pc pd c1 c2 h0 n0 v U'.heap L ∧ FrameEnd U o U' L ({ frames := 0, cells := 0, slots := 0, locals := 0 } : Room).cells ({ frames := 0, cells := 0, slots := 0, locals := 0 } : Room).slots) := by
  refine MetFree.of_bodySF (plainFor_of_name own_pn_com_example_handfast_handfast_algorithm_MatchingIsFreePinLaw) hisR ?_
  intro p e s m args below meth c s₁ Bd hml0 hP hK
  obtain ⟨rfl, hZ, hh⟩ := hP
  have hx := Bd.exec
  have hby := Bd.bytes
  have hml : c.maxLocals = 9 := hml0
  have hown : s.vm.findClass "com/example/handfast/handfast/algorithm/MatchingIsFreePinLaw" = some m.cls := findClass_of_methodNamed Bd.named
  have hnm := (name_of_methodNamed Bd.named Bd.method).1
  have hlk := Bd.notSynchronized
  have hret := Bd.returns
  have X0 : Stand p l e ({ frames := 0, cells := 0, slots := 0, locals := 0 } : Room) s m #[(.int pv), (.int pa), (.int pb), (.int pc), (.int pd), (.int c1), (.int c2)] below meth c s₁ [] 0 0 := Stand.of_body Bd
  have e0 : s₁.heap = h0 := by rw [← hh, Bd.state]; rfl
  have N0 := Fr.nil n0
  show own_W p e (FrameEnd s) below ({ frames := 0, cells := 0, slots := 0, locals := 0 } : Room).cells ({ frames := 0, cells := 0, slots := 0, locals := 0 } : Room).slots (Q7 Z pv pa pb pc pd c1 c2 h0 n0) s₁ (entryFrame m #[(.int pv), (.int pa), (.int pb), (.int pc), (.int pd), (.int c1), (.int c2)] 9)
  rw [ef_7]
  refine own_iload X0 hx (hb hby d7_0) (v := c1) rfl (rfl : 0 + 2 = 2) ?_
  have J20 : ∀ (k1 : Int32), ∀ (hk1 : (k1 = (0 : Int32) ∧ ¬ own_c pv pa pb c1) ∨ (k1 = (1 : Int32) ∧ own_c pv pa pb c1)), own_W p e (FrameEnd s) below ({ frames := 0, cells := 0, slots := 0, locals := 0 } : Room).cells ({ frames := 0, cells := 0, slots := 0, locals := 0 } : Room).slots (Q7 Z pv pa pb pc pd c1 c2 h0 n0) s₁ (mkF m 20 #[.val (.int pv), .val (.int pa), .val (.int pb), .val (.int pc), .val (.int pd), .val (.int c1), .val (.int c2), .unset, .unset] [(.int k1)]) := by
    intro k1 hk1
    refine own_istore X0 hx (hb hby d7_20) (l' := #[.val (.int pv), .val (.int pa), .val (.int pb), .val (.int pc), .val (.int pd), .val (.int c1), .val (.int c2), .val (.int k1), .unset]) rfl (rfl : 20 + 2 = 22) ?_
    refine own_iload X0 hx (hb hby d7_22) (v := c2) rfl (rfl : 22 + 2 = 24) ?_
    have J43 : ∀ (k2 : Int32), ∀ (hk2 : (k2 = (0 : Int32) ∧ ¬ own_c pv pc pd c2) ∨ (k2 = (1 : Int32) ∧ own_c pv pc pd c2)), own_W p e (FrameEnd s) below ({ frames := 0, cells := 0, slots := 0, locals := 0 } : Room).cells ({ frames := 0, cells := 0, slots := 0, locals := 0 } : Room).slots (Q7 Z pv pa pb pc pd c1 c2 h0 n0) s₁ (mkF m 43 #[.val (.int pv), .val (.int pa), .val (.int pb), .val (.int pc), .val (.int pd), .val (.int c1), .val (.int c2), .val (.int k1), .unset] [(.int k2)]) := by
      intro k2 hk2
      refine own_istore X0 hx (hb hby d7_43) (l' := #[.val (.int pv), .val (.int pa), .val (.int pb), .val (.int pc), .val (.int pd), .val (.int c1), .val (.int c2), .val (.int k1), .val (.int k2)]) rfl (rfl : 43 + 2 = 45) ?_
      refine own_iload X0 hx (hb hby d7_45) (v := k1) rfl (rfl : 45 + 2 = 47) ?_
      by_cases hc47 : k1 = (0 : Int32)
      · skip
        refine own_ifNo X0 hx (hb hby d7_47) ((if0 _ _).trans (teq hc47).2) (rfl : 47 + 3 = 50) ?_
        refine own_iload X0 hx (hb hby d7_50) (v := k2) rfl (rfl : 50 + 2 = 52) ?_
        by_cases hc52 : k2 = (0 : Int32)
        · skip
          refine own_ifNo X0 hx (hb hby d7_52) ((if0 _ _).trans (teq hc52).2) (rfl : 52 + 3 = 55) ?_
          refine own_iconst X0 hx (hb hby d7_55) (1 : Int32) (by first | rfl | decide) (rfl : 55 + 1 = 56) ?_
          refine own_goto X0 hx (hb hby d7_56) (pc' := 60) (by decide) (by decide) ?_
          refine own_retN (t := .boolean) X0 hx hlk hret (by simp) (hb hby d7_60) (z' := (1 : Int32)) (by decide) (by decide) (by decide) ?_
          show Q7 Z pv pa pb pc pd c1 c2 h0 n0 (some (.int (1 : Int32))) s₁.heap _
          rw [e0]
          exact ⟨by unfold own_exp; rw [if_neg (fun y => y.elim ((hk1.resolve_right fun y => absurd (y.1.symm.trans hc47) (by decide)).2) ((hk2.resolve_right fun y => absurd (y.1.symm.trans hc52) (by decide)).2))], N0, rfl⟩
        · skip
          refine own_ifYes X0 hx (hb hby d7_52) ((if0 _ _).trans (feq hc52).2) (pc' := 59) (by decide) (by decide) ?_
          refine own_iconst X0 hx (hb hby d7_59) (0 : Int32) (by first | rfl | decide) (rfl : 59 + 1 = 60) ?_
          refine own_retN (t := .boolean) X0 hx hlk hret (by simp) (hb hby d7_60) (z' := (0 : Int32)) (by decide) (by decide) (by decide) ?_
          show Q7 Z pv pa pb pc pd c1 c2 h0 n0 (some (.int (0 : Int32))) s₁.heap _
          rw [e0]
          exact ⟨by unfold own_exp; rw [if_pos (Or.inr ((hk2.resolve_left fun y => hc52 y.1).2))], N0, rfl⟩
      · skip
        refine own_ifYes X0 hx (hb hby d7_47) ((if0 _ _).trans (feq hc47).2) (pc' := 59) (by decide) (by decide) ?_
        refine own_iconst X0 hx (hb hby d7_59) (0 : Int32) (by first | rfl | decide) (rfl : 59 + 1 = 60) ?_
        refine own_retN (t := .boolean) X0 hx hlk hret (by simp) (hb hby d7_60) (z' := (0 : Int32)) (by decide) (by decide) (by decide) ?_
        show Q7 Z pv pa pb pc pd c1 c2 h0 n0 (some (.int (0 : Int32))) s₁.heap _
        rw [e0]
        exact ⟨by unfold own_exp; rw [if_pos (Or.inl ((hk1.resolve_left fun y => hc47 y.1).2))], N0, rfl⟩
    by_cases hc24 : c2 = (0 : Int32)
    · skip
      refine own_ifYes X0 hx (hb hby d7_24) ((if0 _ _).trans (teq hc24).1) (pc' := 42) (by decide) (by decide) ?_
      refine own_iconst X0 hx (hb hby d7_42) (0 : Int32) (by first | rfl | decide) (rfl : 42 + 1 = 43) ?_
      exact J43 ((0 : Int32))   (Or.inl ⟨rfl, fun y => y.1 hc24⟩)
    · skip
      refine own_ifNo X0 hx (hb hby d7_24) ((if0 _ _).trans (feq hc24).1) (rfl : 24 + 3 = 27) ?_
      refine own_iloadN X0 hx (hb hby d7_27) (v := pv) rfl (rfl : 27 + 1 = 28) ?_
      refine own_iloadN X0 hx (hb hby d7_28) (v := pc) rfl (rfl : 28 + 1 = 29) ?_
      by_cases hc29 : pv = pc
      · skip
        refine own_icmpYes X0 hx (hb hby d7_29) (teq hc29).1 (pc' := 38) (by decide) (by decide) ?_
        refine own_iconst X0 hx (hb hby d7_38) (1 : Int32) (by first | rfl | decide) (rfl : 38 + 1 = 39) ?_
        refine own_goto X0 hx (hb hby d7_39) (pc' := 43) (by decide) (by decide) ?_
        exact J43 ((1 : Int32))   (Or.inr ⟨rfl, hc24, Or.inl hc29⟩)
      · skip
        refine own_icmpNo X0 hx (hb hby d7_29) (feq hc29).1 (rfl : 29 + 3 = 32) ?_
        refine own_iloadN X0 hx (hb hby d7_32) (v := pv) rfl (rfl : 32 + 1 = 33) ?_
        refine own_iload X0 hx (hb hby d7_33) (v := pd) rfl (rfl : 33 + 2 = 35) ?_
        by_cases hc35 : pv = pd
        · skip
          refine own_icmpNo X0 hx (hb hby d7_35) (teq hc35).2 (rfl : 35 + 3 = 38) ?_
          refine own_iconst X0 hx (hb hby d7_38) (1 : Int32) (by first | rfl | decide) (rfl : 38 + 1 = 39) ?_
          refine own_goto X0 hx (hb hby d7_39) (pc' := 43) (by decide) (by decide) ?_
          exact J43 ((1 : Int32))   (Or.inr ⟨rfl, hc24, Or.inr hc35⟩)
        · skip
          refine own_icmpYes X0 hx (hb hby d7_35) (feq hc35).2 (pc' := 42) (by decide) (by decide) ?_
          refine own_iconst X0 hx (hb hby d7_42) (0 : Int32) (by first | rfl | decide) (rfl : 42 + 1 = 43) ?_
          exact J43 ((0 : Int32))   (Or.inl ⟨rfl, fun y => y.2.elim hc29 hc35⟩)
  by_cases hc2 : c1 = (0 : Int32)
  · skip
    refine own_ifYes X0 hx (hb hby d7_2) ((if0 _ _).trans (teq hc2).1) (pc' := 19) (by decide) (by decide) ?_
    refine own_iconst X0 hx (hb hby d7_19) (0 : Int32) (by first | rfl | decide) (rfl : 19 + 1 = 20) ?_
    exact J20 ((0 : Int32))   (Or.inl ⟨rfl, fun y => y.1 hc2⟩)
  · skip
    refine own_ifNo X0 hx (hb hby d7_2) ((if0 _ _).trans (feq hc2).1) (rfl : 2 + 3 = 5) ?_
    refine own_iloadN X0 hx (hb hby d7_5) (v := pv) rfl (rfl : 5 + 1 = 6) ?_
    refine own_iloadN X0 hx (hb hby d7_6) (v := pa) rfl (rfl : 6 + 1 = 7) ?_
    by_cases hc7 : pv = pa
    · skip
      refine own_icmpYes X0 hx (hb hby d7_7) (teq hc7).1 (pc' := 15) (by decide) (by decide) ?_
      refine own_iconst X0 hx (hb hby d7_15) (1 : Int32) (by first | rfl | decide) (rfl : 15 + 1 = 16) ?_
      refine own_goto X0 hx (hb hby d7_16) (pc' := 20) (by decide) (by decide) ?_
      exact J20 ((1 : Int32))   (Or.inr ⟨rfl, hc2, Or.inl hc7⟩)
    · skip
      refine own_icmpNo X0 hx (hb hby d7_7) (feq hc7).1 (rfl : 7 + 3 = 10) ?_
      refine own_iloadN X0 hx (hb hby d7_10) (v := pv) rfl (rfl : 10 + 1 = 11) ?_
      refine own_iloadN X0 hx (hb hby d7_11) (v := pb) rfl (rfl : 11 + 1 = 12) ?_
      by_cases hc12 : pv = pb
      · skip
        refine own_icmpNo X0 hx (hb hby d7_12) (teq hc12).2 (rfl : 12 + 3 = 15) ?_
        refine own_iconst X0 hx (hb hby d7_15) (1 : Int32) (by first | rfl | decide) (rfl : 15 + 1 = 16) ?_
        refine own_goto X0 hx (hb hby d7_16) (pc' := 20) (by decide) (by decide) ?_
        exact J20 ((1 : Int32))   (Or.inr ⟨rfl, hc2, Or.inr hc12⟩)
      · skip
        refine own_icmpYes X0 hx (hb hby d7_12) (feq hc12).2 (pc' := 19) (by decide) (by decide) ?_
        refine own_iconst X0 hx (hb hby d7_19) (0 : Int32) (by first | rfl | decide) (rfl : 19 + 1 = 20) ?_
        exact J20 ((0 : Int32))   (Or.inl ⟨rfl, fun y => y.2.elim hc7 hc12⟩)
theorem d3_0 : decode jdk_65_method_103_code 0 = .ok (.iconst 0, 1) := by decide +kernel
theorem d3_1 : decode jdk_65_method_103_code 1 = .ok (.istore_n 2, 1) := by decide +kernel
theorem d3_2 : decode jdk_65_method_103_code 2 = .ok (.aload_n 0, 1) := by decide +kernel
theorem d3_3 : decode jdk_65_method_103_code 3 = .ok (.arraylength, 1) := by decide +kernel
theorem d3_4 : decode jdk_65_method_103_code 4 = .ok (.istore_n 3, 1) := by decide +kernel
theorem d3_5 : decode jdk_65_method_103_code 5 = .ok (.iload_n 2, 1) := by decide +kernel
theorem d3_6 : decode jdk_65_method_103_code 6 = .ok (.iload_n 3, 1) := by decide +kernel
theorem d3_7 : decode jdk_65_method_103_code 7 = .ok (.if_icmp .ge 13, 3) := by decide +kernel
theorem d3_10 : decode jdk_65_method_103_code 10 = .ok (.aload_n 0, 1) := by decide +kernel
theorem d3_11 : decode jdk_65_method_103_code 11 = .ok (.iload_n 2, 1) := by decide +kernel
theorem d3_12 : decode jdk_65_method_103_code 12 = .ok (.iload_n 1, 1) := by decide +kernel
theorem d3_13 : decode jdk_65_method_103_code 13 = .ok (.iastore, 1) := by decide +kernel
theorem d3_14 : decode jdk_65_method_103_code 14 = .ok (.iinc 2 1, 3) := by decide +kernel
theorem d3_17 : decode jdk_65_method_103_code 17 = .ok (.goto (-12), 3) := by decide +kernel
theorem d3_20 : decode jdk_65_method_103_code 20 = .ok (.return_, 1) := by decide +kernel
theorem own_pn_java_util_Arrays : plainName "java/util/Arrays" = true := by first | (simp [plainName, overriddenIn]; done) | decide +kernel
theorem ef_3 (m : MethodId) (ar : Addr) (pv : Int32) : entryFrame m #[(.ref ar), (.int pv)] 4 = mkF m 0 #[.val (.ref ar), .val (.int pv), .unset, .unset] [] := by first | (simp [entryFrame, mkF, argsToLocals, Value.category]; done) | rfl
def Q3 (Z : State) (ar : Addr) (pv : Int32) (nn : Nat) (fa : Nat → Int32) (h0 : Heap) (n0 : Nat) (v : Option Value) (h : Heap) (L : List Loc) : Prop := v = none ∧ Fr n0 L ∧ Keep h0 h [ar] ∧ own_A Z h ar .int (nn) (fun z => .int (own_cst pv z))
set_option maxRecDepth 65536 in
set_option maxHeartbeats 40000000 in
theorem rm3 (l : Launch) (Z : State) (a0 : Array Value) (hw : ∀ d ∈ tables_1, d.before a0 Z = true) (ws : List Jvm.Cond) (ar : Addr) (pv : Int32) (nn : Nat) (fa : Nat → Int32) (h0 : Heap) (n0 : Nat) (Z0 : n0 ≤ h0.size) (f_A_ar : own_A Z h0 ar .int (nn) (fun z => .int (fa z))) (g_ar : n0 ≤ ar) (hn : nn ≤ 64) :
    MetFree l (⟨"java/util/Arrays", "fill", "([II)V"⟩ : MethodName) (head1 (Jvm.Cond.code (⟨"java/util/Arrays", "fill", "([II)V"⟩ : MethodName) jdk_65_method_103_code 4 none :: ws) ({ frames := 0, cells := 0, slots := 0, locals := 0 } : Room)) (fun avs U => avs = #[(.ref ar), (.int pv)] ∧ Z.Warmed39 U.vm ∧ U.heap = h0) (fun _ _ _ _ _ => True) (fun _ U o U' => ∃ v L, o = .returned v ∧ Q3 Z ar pv nn fa h0 n0 v U'.heap L ∧ FrameEnd U o U' L ({ frames := 0, cells := 0, slots := 0, locals := 0 } : Room).cells ({ frames := 0, cells := 0, slots := 0, locals := 0 } : Room).slots) := by
  refine MetFree.of_bodySF (plainFor_of_name own_pn_java_util_Arrays) hisR ?_
  intro p e s m args below meth c s₁ Bd hml0 hP hK
  obtain ⟨rfl, hZ, hh⟩ := hP
  have hx := Bd.exec
  have hby := Bd.bytes
  have hml : c.maxLocals = 4 := hml0
  have hown : s.vm.findClass "java/util/Arrays" = some m.cls := findClass_of_methodNamed Bd.named
  have hnm := (name_of_methodNamed Bd.named Bd.method).1
  have hlk := Bd.notSynchronized
  have hret := Bd.returns
  have X0 : Stand p l e ({ frames := 0, cells := 0, slots := 0, locals := 0 } : Room) s m #[(.ref ar), (.int pv)] below meth c s₁ [] 0 0 := Stand.of_body Bd
  have e0 : s₁.heap = h0 := by rw [← hh, Bd.state]; rfl
  have N0 := Fr.nil n0
  show own_W p e (FrameEnd s) below ({ frames := 0, cells := 0, slots := 0, locals := 0 } : Room).cells ({ frames := 0, cells := 0, slots := 0, locals := 0 } : Room).slots (Q3 Z ar pv nn fa h0 n0) s₁ (entryFrame m #[(.ref ar), (.int pv)] 4)
  rw [ef_3]
  have K0 : Keep h0 h0 [ar] := Keep.refl h0 _
  have A0 : own_A Z h0 ar .int (nn) (fun z => .int (own_fl fa pv (0 : Int32).toInt z)) := f_A_ar.congr (fun z _ => congrArg Value.int (own_fl0 fa pv z))
  have hlen : (Int32.ofNat nn).toInt = (nn : Int) := Int32.toInt_ofNat_of_lt (by omega)
  refine own_iconst X0 hx (hb hby d3_0) (0 : Int32) (by first | rfl | decide) (rfl : 0 + 1 = 1) ?_
  refine own_istoreN X0 hx (hb hby d3_1) (l' := #[.val (.ref ar), .val (.int pv), .val (.int (0 : Int32)), .unset]) rfl (rfl : 1 + 1 = 2) ?_
  refine own_aloadN X0 hx (hb hby d3_2) (v := (.ref ar)) rfl rfl (rfl : 2 + 1 = 3) ?_
  refine own_alen X0 hx hZ e0 A0 (z := (Int32.ofNat (nn))) rfl (g := (mkF m 3 #[.val (.ref ar), .val (.int pv), .val (.int (0 : Int32)), .unset] [(.ref ar)])) rfl rfl (hb hby d3_3) ?_
  show own_W p e (FrameEnd s) below ({ frames := 0, cells := 0, slots := 0, locals := 0 } : Room).cells ({ frames := 0, cells := 0, slots := 0, locals := 0 } : Room).slots (Q3 Z ar pv nn fa h0 n0) s₁ (mkF m 4 #[.val (.ref ar), .val (.int pv), .val (.int (0 : Int32)), .unset] [(.int (Int32.ofNat (nn)))])
  refine own_istoreN X0 hx (hb hby d3_4) (l' := #[.val (.ref ar), .val (.int pv), .val (.int (0 : Int32)), .val (.int (Int32.ofNat (nn)))]) rfl (rfl : 4 + 1 = 5) ?_
  have J5 : ∀ (fuel : Nat) (ii : Int32) (TJ5 : State) (hJ5 : Heap) (LJ5 : List Loc), (((nn : Int) - ii.toInt).toNat < fuel) → ∀ (XJ5 : Stand p l e ({ frames := 0, cells := 0, slots := 0, locals := 0 } : Room) s m #[(.ref ar), (.int pv)] below meth c TJ5 LJ5 0 0), ∀ (eJ5 : TJ5.heap = hJ5), ∀ (NJ5 : Fr n0 LJ5), ∀ (zJ5 : n0 ≤ hJ5.size), ∀ (fJ5_0 : own_A Z hJ5 ar .int (nn) (fun z => .int (own_fl fa pv ii.toInt z))), ∀ (fJ5_1 : Keep h0 hJ5 [ar]), ∀ (hii : 0 ≤ ii.toInt ∧ ii.toInt ≤ (nn : Int)), own_W p e (FrameEnd s) below ({ frames := 0, cells := 0, slots := 0, locals := 0 } : Room).cells ({ frames := 0, cells := 0, slots := 0, locals := 0 } : Room).slots (Q3 Z ar pv nn fa h0 n0) TJ5 (mkF m 5 #[.val (.ref ar), .val (.int pv), .val (.int ii), .val (.int (Int32.ofNat (nn)))] []) := by
    intro fuel
    induction fuel with
    | zero => intro ii TJ5 hJ5 LJ5 hfuel; exact absurd hfuel (Nat.not_lt_zero _)
    | succ fuel ih =>
      intro ii TJ5 hJ5 LJ5 hfuel XJ5 eJ5 NJ5 zJ5 fJ5_0 fJ5_1 hii
      refine own_iloadN XJ5 hx (hb hby d3_5) (v := ii) rfl (rfl : 5 + 1 = 6) ?_
      refine own_iloadN XJ5 hx (hb hby d3_6) (v := (Int32.ofNat (nn))) rfl (rfl : 6 + 1 = 7) ?_
      by_cases hc7 : ii < (Int32.ofNat (nn))
      · skip
        refine own_icmpNo XJ5 hx (hb hby d3_7) (tlt hc7).2.1 (rfl : 7 + 3 = 10) ?_
        refine own_aloadN XJ5 hx (hb hby d3_10) (v := (.ref ar)) rfl rfl (rfl : 10 + 1 = 11) ?_
        refine own_iloadN XJ5 hx (hb hby d3_11) (v := ii) rfl (rfl : 11 + 1 = 12) ?_
        refine own_iloadN XJ5 hx (hb hby d3_12) (v := pv) rfl (rfl : 12 + 1 = 13) ?_
        have hi2 : own_In ii (ii.toInt.toNat) (nn) := by have z := hc7; rw [Int32.lt_iff_toInt_lt, hlen] at z; exact ⟨by omega, by omega⟩
        obtain ⟨T2, h2, X2, e2, W2, V2, st2⟩ := own_stI XJ5 hx hZ eJ5 fJ5_0 hi2 (g := (mkF m 13 #[.val (.ref ar), .val (.int pv), .val (.int ii), .val (.int (Int32.ofNat (nn)))] [(.int pv), (.int ii), (.ref ar)])) rfl rfl (hb hby d3_13)
        refine own_W.step st2 ?_
        have N2 := Fr.snoc X2 NJ5 g_ar
        have f2_K : Keep h0 h2 [ar] := fJ5_1.wr W2 (Or.inl (by simp))
        have U2 : own_A Z h2 ar .int (nn) (fun z => .int (own_fl fa pv (ii + (1 : Int32)).toInt z)) := V2.congr (fun z _ => own_fls fa pv ii.toInt _ z (own_inc ii (by have z := hc7; rw [Int32.lt_iff_toInt_lt, hlen] at z; omega)) _ (by omega))
        have z2 : n0 ≤ h2.size := by rw [W2.size]; exact zJ5
        show own_W p e (FrameEnd s) below ({ frames := 0, cells := 0, slots := 0, locals := 0 } : Room).cells ({ frames := 0, cells := 0, slots := 0, locals := 0 } : Room).slots (Q3 Z ar pv nn fa h0 n0) T2 (mkF m 14 #[.val (.ref ar), .val (.int pv), .val (.int ii), .val (.int (Int32.ofNat (nn)))] [])
        refine own_iinc X2 hx (hb hby d3_14) (1 : Int32) rfl (x := ii) rfl (l' := #[.val (.ref ar), .val (.int pv), .val (.int (ii + (1 : Int32))), .val (.int (Int32.ofNat (nn)))]) rfl (rfl : 14 + 3 = 17) ?_
        refine own_goto X2 hx (hb hby d3_17) (pc' := 5) (by decide) (by decide) ?_
        exact ih  ((ii + (1 : Int32))) _ _ _ (by have z := hc7; rw [Int32.lt_iff_toInt_lt, hlen] at z; rw [own_inc ii (by have z := hc7; rw [Int32.lt_iff_toInt_lt, hlen] at z; omega)]; omega) X2 e2 N2 z2 U2 f2_K (by rw [own_inc ii (by have z := hc7; rw [Int32.lt_iff_toInt_lt, hlen] at z; omega)]; have z := hc7; rw [Int32.lt_iff_toInt_lt, hlen] at z; omega)
      · skip
        refine own_icmpYes XJ5 hx (hb hby d3_7) (flt hc7).2.1 (pc' := 20) (by decide) (by decide) ?_
        refine own_retV XJ5 hx hlk hret (hb hby d3_20) (by decide) (by decide) ?_
        show Q3 Z ar pv nn fa h0 n0 none TJ5.heap _
        rw [eJ5]
        exact ⟨rfl, NJ5, fJ5_1, (fJ5_0.congr (fun z hz => congrArg Value.int (own_fle fa pv ii.toInt nn z hz (by have z := hc7; rw [Int32.lt_iff_toInt_lt, hlen] at z; omega))))⟩
  exact J5 (((nn : Int) - ((0 : Int32)).toInt).toNat + 1) ((0 : Int32)) _ _ _ (Nat.lt_succ_self _) X0 e0 N0 Z0 A0 K0 (⟨by decide, by show (0 : Int) ≤ _; omega⟩)
theorem own_pd___II_V : parseMethodDescriptor "([II)V" = some ⟨[(.array .int), .int], none⟩ := by decide +kernel
theorem d1_0 : decode prog_15_method_1_code 0 = .ok (.aload_n 0, 1) := by decide +kernel
theorem d1_1 : decode prog_15_method_1_code 1 = .ok (.invokespecial 1, 3) := by decide +kernel
theorem d1_4 : decode prog_15_method_1_code 4 = .ok (.aload_n 0, 1) := by decide +kernel
theorem d1_5 : decode prog_15_method_1_code 5 = .ok (.bipush 16, 2) := by decide +kernel
theorem d1_7 : decode prog_15_method_1_code 7 = .ok (.newarray .int, 2) := by decide +kernel
theorem d1_9 : decode prog_15_method_1_code 9 = .ok (.putfield 9, 3) := by decide +kernel
theorem d1_12 : decode prog_15_method_1_code 12 = .ok (.aload_n 0, 1) := by decide +kernel
theorem d1_13 : decode prog_15_method_1_code 13 = .ok (.bipush 32, 2) := by decide +kernel
theorem d1_15 : decode prog_15_method_1_code 15 = .ok (.newarray .int, 2) := by decide +kernel
theorem d1_17 : decode prog_15_method_1_code 17 = .ok (.putfield 13, 3) := by decide +kernel
theorem d1_20 : decode prog_15_method_1_code 20 = .ok (.aload_n 0, 1) := by decide +kernel
theorem d1_21 : decode prog_15_method_1_code 21 = .ok (.iload_n 1, 1) := by decide +kernel
theorem d1_22 : decode prog_15_method_1_code 22 = .ok (.newarray .int, 2) := by decide +kernel
theorem d1_24 : decode prog_15_method_1_code 24 = .ok (.putfield 16, 3) := by decide +kernel
theorem d1_27 : decode prog_15_method_1_code 27 = .ok (.aload_n 0, 1) := by decide +kernel
theorem d1_28 : decode prog_15_method_1_code 28 = .ok (.getfield 16, 3) := by decide +kernel
theorem d1_31 : decode prog_15_method_1_code 31 = .ok (.iconst (-1), 1) := by decide +kernel
theorem d1_32 : decode prog_15_method_1_code 32 = .ok (.invokestatic 19, 3) := by decide +kernel
theorem d1_35 : decode prog_15_method_1_code 35 = .ok (.return_, 1) := by decide +kernel
theorem own_pn_com_example_handfast_handfast_algorithm_Matching : plainName "com/example/handfast/handfast/algorithm/Matching" = true := by first | (simp [plainName, overriddenIn]; done) | decide +kernel
theorem ef_1 (m : MethodId) (ob : Addr) (pn : Int32) : entryFrame m #[(.ref ob), (.int pn)] 2 = mkF m 0 #[.val (.ref ob), .val (.int pn)] [] := by first | (simp [entryFrame, mkF, argsToLocals, Value.category]; done) | rfl
def Q1 (Z : State) (ob : Addr) (pn : Int32) (nn : Nat) (h0 : Heap) (n0 : Nat) (v : Option Value) (h : Heap) (L : List Loc) : Prop := ∃ (ae : Addr) (an : Addr) (ap : Addr), v = none ∧ Fr n0 L ∧ Keep h0 h [ob] ∧ h0.size ≤ ae ∧ h0.size ≤ an ∧ h0.size ≤ ap ∧ Exa Z h ob "com/example/handfast/handfast/algorithm/Matching" ∧ Fld Z h ob "com/example/handfast/handfast/algorithm/Matching" "edges" "[I" (.ref ae) ∧ Fld Z h ob "com/example/handfast/handfast/algorithm/Matching" "ends" "[I" (.ref an) ∧ Fld Z h ob "com/example/handfast/handfast/algorithm/Matching" "placeAt" "[I" (.ref ap) ∧ Fld Z h ob "com/example/handfast/handfast/algorithm/Matching" "size" "I" (.int (0 : Int32)) ∧ Fld Z h ob "com/example/handfast/handfast/algorithm/Matching" "members" "Lcom/example/handfast/handfast/model/NumberSet;" .null ∧ own_A Z h ae .int (16) (fun z => .int (own_k0 z)) ∧ own_A Z h an .int (32) (fun z => .int (own_k0 z)) ∧ own_A Z h ap .int (nn) (fun z => .int (own_cst (-1 : Int32) z)) ∧ (own_ne4 ob ae an ap)
set_option maxRecDepth 65536 in
set_option maxHeartbeats 40000000 in
theorem rm1 (l : Launch) (Z : State) (a0 : Array Value) (hw : ∀ d ∈ tables_1, d.before a0 Z = true) (ws : List Jvm.Cond) (ob : Addr) (pn : Int32) (nn : Nat) (h0 : Heap) (n0 : Nat) (Z0 : n0 ≤ h0.size) (f_E_ob : Exa Z h0 ob "com/example/handfast/handfast/algorithm/Matching") (f_F_ob_edges : Fld Z h0 ob "com/example/handfast/handfast/algorithm/Matching" "edges" "[I" .null) (f_F_ob_ends : Fld Z h0 ob "com/example/handfast/handfast/algorithm/Matching" "ends" "[I" .null) (f_F_ob_placeAt : Fld Z h0 ob "com/example/handfast/handfast/algorithm/Matching" "placeAt" "[I" .null) (f_F_ob_size : Fld Z h0 ob "com/example/handfast/handfast/algorithm/Matching" "size" "I" (.int (0 : Int32))) (f_F_ob_members : Fld Z h0 ob "com/example/handfast/handfast/algorithm/Matching" "members" "Lcom/example/handfast/handfast/model/NumberSet;" .null) (g_ob : n0 ≤ ob) (hpn : own_In pn nn 65) (hcap : nn ≤ 4) :
    MetFree l (⟨"com/example/handfast/handfast/algorithm/Matching", "<init>", "(I)V"⟩ : MethodName) (head1 (Jvm.Cond.code (⟨"com/example/handfast/handfast/algorithm/Matching", "<init>", "(I)V"⟩ : MethodName) prog_15_method_1_code 2 none :: ws) ({ frames := 1, cells := 3, slots := 52, locals := 15 } : Room)) (fun avs U => avs = #[(.ref ob), (.int pn)] ∧ Z.Warmed39 U.vm ∧ U.heap = h0) (fun _ _ _ _ _ => True) (fun _ U o U' => ∃ v L, o = .returned v ∧ Q1 Z ob pn nn h0 n0 v U'.heap L ∧ FrameEnd U o U' L ({ frames := 1, cells := 3, slots := 52, locals := 15 } : Room).cells ({ frames := 1, cells := 3, slots := 52, locals := 15 } : Room).slots) := by
  refine MetFree.of_bodySF (plainFor_of_name own_pn_com_example_handfast_handfast_algorithm_Matching) hisR ?_
  intro p e s m args below meth c s₁ Bd hml0 hP hK
  obtain ⟨rfl, hZ, hh⟩ := hP
  have hx := Bd.exec
  have hby := Bd.bytes
  have hml : c.maxLocals = 2 := hml0
  have hown : s.vm.findClass "com/example/handfast/handfast/algorithm/Matching" = some m.cls := findClass_of_methodNamed Bd.named
  have hnm := (name_of_methodNamed Bd.named Bd.method).1
  have hlk := Bd.notSynchronized
  have hret := Bd.returns
  have X0 : Stand p l e ({ frames := 1, cells := 3, slots := 52, locals := 15 } : Room) s m #[(.ref ob), (.int pn)] below meth c s₁ [] 0 0 := Stand.of_body Bd
  have e0 : s₁.heap = h0 := by rw [← hh, Bd.state]; rfl
  have N0 := Fr.nil n0
  show own_W p e (FrameEnd s) below ({ frames := 1, cells := 3, slots := 52, locals := 15 } : Room).cells ({ frames := 1, cells := 3, slots := 52, locals := 15 } : Room).slots (Q1 Z ob pn nn h0 n0) s₁ (entryFrame m #[(.ref ob), (.int pn)] 2)
  rw [ef_1]
  have K0 : Keep h0 h0 [ob] := Keep.refl h0 _
  refine own_aloadN X0 hx (hb hby d1_0) (v := (.ref ob)) rfl rfl (rfl : 0 + 1 = 1) ?_
  obtain ⟨T1, X1, e1, st1⟩ := initO X0 hx hZ hown (hw _ (List.mem_of_getElem? (i := 7) rfl)) (hw _ (List.mem_of_getElem? (i := 8) rfl)) (hw _ (List.mem_of_getElem? (i := 9) rfl)) e0 (g := (mkF m 1 #[.val (.ref ob), .val (.int pn)] [(.ref ob)])) rfl (by rw [hml]; rfl) rfl (hb hby d1_1) (by decide) (W := 0) (by show 2 * 0 + _ ≤ _; exact Nat.le_of_eq rfl) (by decide)
  refine own_W.step st1 ?_
  show own_W p e (FrameEnd s) below ({ frames := 1, cells := 3, slots := 52, locals := 15 } : Room).cells ({ frames := 1, cells := 3, slots := 52, locals := 15 } : Room).slots (Q1 Z ob pn nn h0 n0) T1 (mkF m 4 #[.val (.ref ob), .val (.int pn)] [])
  refine own_aloadN X1 hx (hb hby d1_4) (v := (.ref ob)) rfl rfl (rfl : 4 + 1 = 5) ?_
  refine own_bipush X1 hx (hb hby d1_5) (16 : Int32) (by first | rfl | decide) (rfl : 5 + 2 = 7) ?_
  obtain ⟨T2, h2, k2, X2, e2, E2, A2, st2⟩ := newP X1 hx hZ (hw _ (List.mem_of_getElem? (i := 10) rfl)) e1 (g := (mkF m 7 #[.val (.ref ob), .val (.int pn)] [(.int (16 : Int32)), (.ref ob)])) rfl (hb hby d1_7) rfl (by decide) (cap := 16) (by decide) (by decide) (by decide) (by decide)
  obtain ⟨be, g2⟩ : ∃ z, z = h0.size := ⟨_, rfl⟩
  rw [← g2] at A2 st2
  refine own_W.step st2 ?_
  have ne_ob_be : ob ≠ be := Nat.ne_of_lt (Nat.lt_of_lt_of_le f_E_ob.lt (Nat.le_of_eq g2.symm))
  have sz_be : h0.size ≤ be := Nat.le_trans K0.1 (Nat.le_of_eq g2.symm)
  have g_be : n0 ≤ be := Nat.le_trans Z0 (Nat.le_of_eq g2.symm)
  have f2_E_ob : Exa Z h2 ob "com/example/handfast/handfast/algorithm/Matching" := f_E_ob.ext E2
  have f2_F_ob_edges : Fld Z h2 ob "com/example/handfast/handfast/algorithm/Matching" "edges" "[I" .null := f_F_ob_edges.ext E2
  have f2_F_ob_ends : Fld Z h2 ob "com/example/handfast/handfast/algorithm/Matching" "ends" "[I" .null := f_F_ob_ends.ext E2
  have f2_F_ob_placeAt : Fld Z h2 ob "com/example/handfast/handfast/algorithm/Matching" "placeAt" "[I" .null := f_F_ob_placeAt.ext E2
  have f2_F_ob_size : Fld Z h2 ob "com/example/handfast/handfast/algorithm/Matching" "size" "I" (.int (0 : Int32)) := f_F_ob_size.ext E2
  have f2_F_ob_members : Fld Z h2 ob "com/example/handfast/handfast/algorithm/Matching" "members" "Lcom/example/handfast/handfast/model/NumberSet;" .null := f_F_ob_members.ext E2
  have f2_K : Keep h0 h2 [ob] := K0.ext E2
  have z2 : n0 ≤ h2.size := Nat.le_trans Z0 E2.1
  have V2 : own_A Z h2 be .int (16) (fun z => .int (own_k0 z)) := own_A.new A2 (by decide) (by decide)
  show own_W p e (FrameEnd s) below ({ frames := 1, cells := 3, slots := 52, locals := 15 } : Room).cells ({ frames := 1, cells := 3, slots := 52, locals := 15 } : Room).slots (Q1 Z ob pn nn h0 n0) T2 (mkF m 9 #[.val (.ref ob), .val (.int pn)] [(.ref be), (.ref ob)])
  obtain ⟨T3, h3, X3, e3, W3, st3⟩ := putF X2 hx hZ hown (host := "") (Or.inl (hw _ (List.mem_of_getElem? (i := 11) rfl))) Via.refl e2 f2_F_ob_edges f2_E_ob (Or.inl (hw _ (List.mem_of_getElem? (i := 12) rfl))) (hw _ (List.mem_of_getElem? (i := 2) rfl)) (ty := (.array .int)) (by decide) rfl rfl (g := (mkF m 9 #[.val (.ref ob), .val (.int pn)] [(.ref be), (.ref ob)])) rfl rfl (hb hby d1_9)
  refine own_W.step st3 ?_
  have N3 := Fr.snoc X3 N0 g_ob
  have f3_E_ob : Exa Z h3 ob "com/example/handfast/handfast/algorithm/Matching" := f2_E_ob.wr W3
  have f3_F_ob_ends : Fld Z h3 ob "com/example/handfast/handfast/algorithm/Matching" "ends" "[I" .null := f2_F_ob_ends.other W3 (Or.inr (slot_ne (Or.inl (hw _ (List.mem_of_getElem? (i := 14) rfl))) (Or.inl (hw _ (List.mem_of_getElem? (i := 12) rfl))) (by decide) (t := (.array .int)) (t' := (.array .int)) (by decide) (by decide)))
  have f3_F_ob_placeAt : Fld Z h3 ob "com/example/handfast/handfast/algorithm/Matching" "placeAt" "[I" .null := f2_F_ob_placeAt.other W3 (Or.inr (slot_ne (Or.inr (hw _ (List.mem_of_getElem? (i := 16) rfl))) (Or.inl (hw _ (List.mem_of_getElem? (i := 12) rfl))) (by decide) (t := (.array .int)) (t' := (.array .int)) (by decide) (by decide)))
  have f3_F_ob_size : Fld Z h3 ob "com/example/handfast/handfast/algorithm/Matching" "size" "I" (.int (0 : Int32)) := f2_F_ob_size.other W3 (Or.inr (slot_ne (Or.inl (hw _ (List.mem_of_getElem? (i := 27) rfl))) (Or.inl (hw _ (List.mem_of_getElem? (i := 12) rfl))) (by decide) (t := .int) (t' := (.array .int)) (by decide) (by decide)))
  have f3_F_ob_members : Fld Z h3 ob "com/example/handfast/handfast/algorithm/Matching" "members" "Lcom/example/handfast/handfast/model/NumberSet;" .null := f2_F_ob_members.other W3 (Or.inr (slot_ne (Or.inl (hw _ (List.mem_of_getElem? (i := 29) rfl))) (Or.inl (hw _ (List.mem_of_getElem? (i := 12) rfl))) (by decide) (t := (.object "com/example/handfast/handfast/model/NumberSet")) (t' := (.array .int)) (by decide) (by decide)))
  have f3_K : Keep h0 h3 [ob] := f2_K.wr W3 (Or.inl (by simp))
  have f3_A_be : own_A Z h3 be .int (16) (fun z => .int (own_k0 z)) := V2.other W3 (Ne.symm ne_ob_be)
  have fw3 : Fld Z h3 ob "com/example/handfast/handfast/algorithm/Matching" "edges" "[I" (.ref be) := f2_F_ob_edges.same W3
  have z3 : n0 ≤ h3.size := by rw [W3.size]; exact z2
  show own_W p e (FrameEnd s) below ({ frames := 1, cells := 3, slots := 52, locals := 15 } : Room).cells ({ frames := 1, cells := 3, slots := 52, locals := 15 } : Room).slots (Q1 Z ob pn nn h0 n0) T3 (mkF m 12 #[.val (.ref ob), .val (.int pn)] [])
  refine own_aloadN X3 hx (hb hby d1_12) (v := (.ref ob)) rfl rfl (rfl : 12 + 1 = 13) ?_
  refine own_bipush X3 hx (hb hby d1_13) (32 : Int32) (by first | rfl | decide) (rfl : 13 + 2 = 15) ?_
  obtain ⟨T4, h4, k4, X4, e4, E4, A4, st4⟩ := newP X3 hx hZ (hw _ (List.mem_of_getElem? (i := 10) rfl)) e3 (g := (mkF m 15 #[.val (.ref ob), .val (.int pn)] [(.int (32 : Int32)), (.ref ob)])) rfl (hb hby d1_15) rfl (by decide) (cap := 32) (by decide) (by decide) (by decide) (by decide)
  obtain ⟨bn, g4⟩ : ∃ z, z = h3.size := ⟨_, rfl⟩
  rw [← g4] at A4 st4
  refine own_W.step st4 ?_
  have ne_ob_bn : ob ≠ bn := Nat.ne_of_lt (Nat.lt_of_lt_of_le f3_E_ob.lt (Nat.le_of_eq g4.symm))
  have ne_be_bn : be ≠ bn := Nat.ne_of_lt (Nat.lt_of_lt_of_le f3_A_be.lt (Nat.le_of_eq g4.symm))
  have sz_bn : h0.size ≤ bn := Nat.le_trans f3_K.1 (Nat.le_of_eq g4.symm)
  have g_bn : n0 ≤ bn := Nat.le_trans z3 (Nat.le_of_eq g4.symm)
  have f4_E_ob : Exa Z h4 ob "com/example/handfast/handfast/algorithm/Matching" := f3_E_ob.ext E4
  have f4_F_ob_edges : Fld Z h4 ob "com/example/handfast/handfast/algorithm/Matching" "edges" "[I" (.ref be) := fw3.ext E4
  have f4_F_ob_ends : Fld Z h4 ob "com/example/handfast/handfast/algorithm/Matching" "ends" "[I" .null := f3_F_ob_ends.ext E4
  have f4_F_ob_placeAt : Fld Z h4 ob "com/example/handfast/handfast/algorithm/Matching" "placeAt" "[I" .null := f3_F_ob_placeAt.ext E4
  have f4_F_ob_size : Fld Z h4 ob "com/example/handfast/handfast/algorithm/Matching" "size" "I" (.int (0 : Int32)) := f3_F_ob_size.ext E4
  have f4_F_ob_members : Fld Z h4 ob "com/example/handfast/handfast/algorithm/Matching" "members" "Lcom/example/handfast/handfast/model/NumberSet;" .null := f3_F_ob_members.ext E4
  have f4_K : Keep h0 h4 [ob] := f3_K.ext E4
  have f4_A_be : own_A Z h4 be .int (16) (fun z => .int (own_k0 z)) := f3_A_be.ext E4
  have z4 : n0 ≤ h4.size := Nat.le_trans z3 E4.1
  have V4 : own_A Z h4 bn .int (32) (fun z => .int (own_k0 z)) := own_A.new A4 (by decide) (by decide)
  show own_W p e (FrameEnd s) below ({ frames := 1, cells := 3, slots := 52, locals := 15 } : Room).cells ({ frames := 1, cells := 3, slots := 52, locals := 15 } : Room).slots (Q1 Z ob pn nn h0 n0) T4 (mkF m 17 #[.val (.ref ob), .val (.int pn)] [(.ref bn), (.ref ob)])
  obtain ⟨T5, h5, X5, e5, W5, st5⟩ := putF X4 hx hZ hown (host := "") (Or.inl (hw _ (List.mem_of_getElem? (i := 13) rfl))) Via.refl e4 f4_F_ob_ends f4_E_ob (Or.inl (hw _ (List.mem_of_getElem? (i := 14) rfl))) (hw _ (List.mem_of_getElem? (i := 2) rfl)) (ty := (.array .int)) (by decide) rfl rfl (g := (mkF m 17 #[.val (.ref ob), .val (.int pn)] [(.ref bn), (.ref ob)])) rfl rfl (hb hby d1_17)
  refine own_W.step st5 ?_
  have N5 := Fr.snoc X5 N3 g_ob
  have f5_E_ob : Exa Z h5 ob "com/example/handfast/handfast/algorithm/Matching" := f4_E_ob.wr W5
  have f5_F_ob_edges : Fld Z h5 ob "com/example/handfast/handfast/algorithm/Matching" "edges" "[I" (.ref be) := f4_F_ob_edges.other W5 (Or.inr (slot_ne (Or.inl (hw _ (List.mem_of_getElem? (i := 12) rfl))) (Or.inl (hw _ (List.mem_of_getElem? (i := 14) rfl))) (by decide) (t := (.array .int)) (t' := (.array .int)) (by decide) (by decide)))
  have f5_F_ob_placeAt : Fld Z h5 ob "com/example/handfast/handfast/algorithm/Matching" "placeAt" "[I" .null := f4_F_ob_placeAt.other W5 (Or.inr (slot_ne (Or.inr (hw _ (List.mem_of_getElem? (i := 16) rfl))) (Or.inl (hw _ (List.mem_of_getElem? (i := 14) rfl))) (by decide) (t := (.array .int)) (t' := (.array .int)) (by decide) (by decide)))
  have f5_F_ob_size : Fld Z h5 ob "com/example/handfast/handfast/algorithm/Matching" "size" "I" (.int (0 : Int32)) := f4_F_ob_size.other W5 (Or.inr (slot_ne (Or.inl (hw _ (List.mem_of_getElem? (i := 27) rfl))) (Or.inl (hw _ (List.mem_of_getElem? (i := 14) rfl))) (by decide) (t := .int) (t' := (.array .int)) (by decide) (by decide)))
  have f5_F_ob_members : Fld Z h5 ob "com/example/handfast/handfast/algorithm/Matching" "members" "Lcom/example/handfast/handfast/model/NumberSet;" .null := f4_F_ob_members.other W5 (Or.inr (slot_ne (Or.inl (hw _ (List.mem_of_getElem? (i := 29) rfl))) (Or.inl (hw _ (List.mem_of_getElem? (i := 14) rfl))) (by decide) (t := (.object "com/example/handfast/handfast/model/NumberSet")) (t' := (.array .int)) (by decide) (by decide)))
  have f5_K : Keep h0 h5 [ob] := f4_K.wr W5 (Or.inl (by simp))
  have f5_A_be : own_A Z h5 be .int (16) (fun z => .int (own_k0 z)) := f4_A_be.other W5 (Ne.symm ne_ob_be)
  have f5_A_bn : own_A Z h5 bn .int (32) (fun z => .int (own_k0 z)) := V4.other W5 (Ne.symm ne_ob_bn)
  have fw5 : Fld Z h5 ob "com/example/handfast/handfast/algorithm/Matching" "ends" "[I" (.ref bn) := f4_F_ob_ends.same W5
  have z5 : n0 ≤ h5.size := by rw [W5.size]; exact z4
  show own_W p e (FrameEnd s) below ({ frames := 1, cells := 3, slots := 52, locals := 15 } : Room).cells ({ frames := 1, cells := 3, slots := 52, locals := 15 } : Room).slots (Q1 Z ob pn nn h0 n0) T5 (mkF m 20 #[.val (.ref ob), .val (.int pn)] [])
  refine own_aloadN X5 hx (hb hby d1_20) (v := (.ref ob)) rfl rfl (rfl : 20 + 1 = 21) ?_
  refine own_iloadN X5 hx (hb hby d1_21) (v := pn) rfl (rfl : 21 + 1 = 22) ?_
  obtain ⟨T6, h6, k6, X6, e6, E6, A6, st6⟩ := newP X5 hx hZ (hw _ (List.mem_of_getElem? (i := 10) rfl)) e5 (g := (mkF m 22 #[.val (.ref ob), .val (.int pn)] [(.int pn), (.ref ob)])) rfl (hb hby d1_22) rfl (by rw [Int32.lt_iff_toInt_lt, hpn.1]; show ¬ _ < (0 : Int); omega) (cap := 4) (by rw [hpn.nat]; exact hcap) (by decide) (by decide) (by decide)
  obtain ⟨bp, g6⟩ : ∃ z, z = h5.size := ⟨_, rfl⟩
  rw [← g6] at A6 st6
  refine own_W.step st6 ?_
  have ne_ob_bp : ob ≠ bp := Nat.ne_of_lt (Nat.lt_of_lt_of_le f5_E_ob.lt (Nat.le_of_eq g6.symm))
  have ne_be_bp : be ≠ bp := Nat.ne_of_lt (Nat.lt_of_lt_of_le f5_A_be.lt (Nat.le_of_eq g6.symm))
  have ne_bn_bp : bn ≠ bp := Nat.ne_of_lt (Nat.lt_of_lt_of_le f5_A_bn.lt (Nat.le_of_eq g6.symm))
  have sz_bp : h0.size ≤ bp := Nat.le_trans f5_K.1 (Nat.le_of_eq g6.symm)
  have g_bp : n0 ≤ bp := Nat.le_trans z5 (Nat.le_of_eq g6.symm)
  have f6_E_ob : Exa Z h6 ob "com/example/handfast/handfast/algorithm/Matching" := f5_E_ob.ext E6
  have f6_F_ob_edges : Fld Z h6 ob "com/example/handfast/handfast/algorithm/Matching" "edges" "[I" (.ref be) := f5_F_ob_edges.ext E6
  have f6_F_ob_ends : Fld Z h6 ob "com/example/handfast/handfast/algorithm/Matching" "ends" "[I" (.ref bn) := fw5.ext E6
  have f6_F_ob_placeAt : Fld Z h6 ob "com/example/handfast/handfast/algorithm/Matching" "placeAt" "[I" .null := f5_F_ob_placeAt.ext E6
  have f6_F_ob_size : Fld Z h6 ob "com/example/handfast/handfast/algorithm/Matching" "size" "I" (.int (0 : Int32)) := f5_F_ob_size.ext E6
  have f6_F_ob_members : Fld Z h6 ob "com/example/handfast/handfast/algorithm/Matching" "members" "Lcom/example/handfast/handfast/model/NumberSet;" .null := f5_F_ob_members.ext E6
  have f6_K : Keep h0 h6 [ob] := f5_K.ext E6
  have f6_A_be : own_A Z h6 be .int (16) (fun z => .int (own_k0 z)) := f5_A_be.ext E6
  have f6_A_bn : own_A Z h6 bn .int (32) (fun z => .int (own_k0 z)) := f5_A_bn.ext E6
  have z6 : n0 ≤ h6.size := Nat.le_trans z5 E6.1
  have V6 : own_A Z h6 bp .int (nn) (fun z => .int (own_k0 z)) := own_A.new A6 (by rw [Int32.lt_iff_toInt_lt, hpn.1]; show ¬ _ < (0 : Int); omega) hpn.nat
  show own_W p e (FrameEnd s) below ({ frames := 1, cells := 3, slots := 52, locals := 15 } : Room).cells ({ frames := 1, cells := 3, slots := 52, locals := 15 } : Room).slots (Q1 Z ob pn nn h0 n0) T6 (mkF m 24 #[.val (.ref ob), .val (.int pn)] [(.ref bp), (.ref ob)])
  obtain ⟨T7, h7, X7, e7, W7, st7⟩ := putF X6 hx hZ hown (host := "") (Or.inl (hw _ (List.mem_of_getElem? (i := 15) rfl))) Via.refl e6 f6_F_ob_placeAt f6_E_ob (Or.inr ⟨(hw _ (List.mem_of_getElem? (i := 16) rfl)), rfl, hnm⟩) (hw _ (List.mem_of_getElem? (i := 2) rfl)) (ty := (.array .int)) (by decide) rfl rfl (g := (mkF m 24 #[.val (.ref ob), .val (.int pn)] [(.ref bp), (.ref ob)])) rfl rfl (hb hby d1_24)
  refine own_W.step st7 ?_
  have N7 := Fr.snoc X7 N5 g_ob
  have f7_E_ob : Exa Z h7 ob "com/example/handfast/handfast/algorithm/Matching" := f6_E_ob.wr W7
  have f7_F_ob_edges : Fld Z h7 ob "com/example/handfast/handfast/algorithm/Matching" "edges" "[I" (.ref be) := f6_F_ob_edges.other W7 (Or.inr (slot_ne (Or.inl (hw _ (List.mem_of_getElem? (i := 12) rfl))) (Or.inr (hw _ (List.mem_of_getElem? (i := 16) rfl))) (by decide) (t := (.array .int)) (t' := (.array .int)) (by decide) (by decide)))
  have f7_F_ob_ends : Fld Z h7 ob "com/example/handfast/handfast/algorithm/Matching" "ends" "[I" (.ref bn) := f6_F_ob_ends.other W7 (Or.inr (slot_ne (Or.inl (hw _ (List.mem_of_getElem? (i := 14) rfl))) (Or.inr (hw _ (List.mem_of_getElem? (i := 16) rfl))) (by decide) (t := (.array .int)) (t' := (.array .int)) (by decide) (by decide)))
  have f7_F_ob_size : Fld Z h7 ob "com/example/handfast/handfast/algorithm/Matching" "size" "I" (.int (0 : Int32)) := f6_F_ob_size.other W7 (Or.inr (slot_ne (Or.inl (hw _ (List.mem_of_getElem? (i := 27) rfl))) (Or.inr (hw _ (List.mem_of_getElem? (i := 16) rfl))) (by decide) (t := .int) (t' := (.array .int)) (by decide) (by decide)))
  have f7_F_ob_members : Fld Z h7 ob "com/example/handfast/handfast/algorithm/Matching" "members" "Lcom/example/handfast/handfast/model/NumberSet;" .null := f6_F_ob_members.other W7 (Or.inr (slot_ne (Or.inl (hw _ (List.mem_of_getElem? (i := 29) rfl))) (Or.inr (hw _ (List.mem_of_getElem? (i := 16) rfl))) (by decide) (t := (.object "com/example/handfast/handfast/model/NumberSet")) (t' := (.array .int)) (by decide) (by decide)))
  have f7_K : Keep h0 h7 [ob] := f6_K.wr W7 (Or.inl (by simp))
  have f7_A_be : own_A Z h7 be .int (16) (fun z => .int (own_k0 z)) := f6_A_be.other W7 (Ne.symm ne_ob_be)
  have f7_A_bn : own_A Z h7 bn .int (32) (fun z => .int (own_k0 z)) := f6_A_bn.other W7 (Ne.symm ne_ob_bn)
  have f7_A_bp : own_A Z h7 bp .int (nn) (fun z => .int (own_k0 z)) := V6.other W7 (Ne.symm ne_ob_bp)
  have fw7 : Fld Z h7 ob "com/example/handfast/handfast/algorithm/Matching" "placeAt" "[I" (.ref bp) := f6_F_ob_placeAt.same W7
  have z7 : n0 ≤ h7.size := by rw [W7.size]; exact z6
  show own_W p e (FrameEnd s) below ({ frames := 1, cells := 3, slots := 52, locals := 15 } : Room).cells ({ frames := 1, cells := 3, slots := 52, locals := 15 } : Room).slots (Q1 Z ob pn nn h0 n0) T7 (mkF m 27 #[.val (.ref ob), .val (.int pn)] [])
  refine own_aloadN X7 hx (hb hby d1_27) (v := (.ref ob)) rfl rfl (rfl : 27 + 1 = 28) ?_
  obtain ⟨T8, X8, e8, st8⟩ := getF X7 hx hZ hown (host := "") (Or.inl (hw _ (List.mem_of_getElem? (i := 15) rfl))) Via.refl e7 fw7 (g := (mkF m 28 #[.val (.ref ob), .val (.int pn)] [(.ref ob)])) rfl rfl (hb hby d1_28)
  refine own_W.step st8 ?_
  show own_W p e (FrameEnd s) below ({ frames := 1, cells := 3, slots := 52, locals := 15 } : Room).cells ({ frames := 1, cells := 3, slots := 52, locals := 15 } : Room).slots (Q1 Z ob pn nn h0 n0) T8 (mkF m 31 #[.val (.ref ob), .val (.int pn)] [(.ref bp)])
  refine own_iconst X8 hx (hb hby d1_31) (-1 : Int32) (by first | rfl | decide) (rfl : 31 + 1 = 32) ?_
  obtain ⟨_, _, ⟨T9, L9, k9, n9⟩, -, X9, ⟨Lc9, hQ9, l9, y9, z9⟩, st9⟩ := Jvm.LawKit.callS X8 hx (y := (⟨"java/util/Arrays", "fill", "([II)V"⟩ : MethodName)) hown (mvT hZ (hw _ (List.mem_of_getElem? (i := 17) rfl))) (mvT hZ (hw _ (List.mem_of_getElem? (i := 18) rfl))) (mvT hZ (hw _ (List.mem_of_getElem? (i := 19) rfl))) (mvT hZ (hw _ (List.mem_of_getElem? (i := 20) rfl))) (by decide) (backOf (W := 0) (rm3 l Z a0 hw [] bp (-1 : Int32) (nn) own_k0 h7 n0 z7 f7_A_bp g_bp (by omega)) hZ (hw _ (List.mem_of_getElem? (i := 20) rfl)) (hw _ (List.mem_of_getElem? (i := 19) rfl)) (by decide) (by decide)) (g := (mkF m 32 #[.val (.ref ob), .val (.int pn)] [(.int (-1 : Int32)), (.ref bp)])) rfl (by rw [hml]; rfl) (argsL := [(.ref bp), (.int (-1 : Int32))]) (rest := []) (lenOf own_pd___II_V rfl) rfl (by show 2 * 0 + _ ≤ _; exact Nat.le_of_eq rfl) (hb hby d1_32) (fun _ _ => ⟨rfl, e8, (by decide : 3 + 0 ≤ _), (by decide : 52 + 0 ≤ _)⟩)
  dsimp only [Pt.U, Pt.locs, Pt.cells, Pt.slots] at X9 l9 y9 z9 st9 hQ9
  subst l9 y9 z9
  obtain ⟨rfl, N9q, K9, fq9_0⟩ := hQ9
  have N9 := Fr.app N7 N9q
  have f9_E_ob : Exa Z T9.heap ob "com/example/handfast/handfast/algorithm/Matching" := f7_E_ob.keep K9
  have f9_F_ob_edges : Fld Z T9.heap ob "com/example/handfast/handfast/algorithm/Matching" "edges" "[I" (.ref be) := f7_F_ob_edges.keep K9 (ninS ne_ob_bp nin0)
  have f9_F_ob_ends : Fld Z T9.heap ob "com/example/handfast/handfast/algorithm/Matching" "ends" "[I" (.ref bn) := f7_F_ob_ends.keep K9 (ninS ne_ob_bp nin0)
  have f9_F_ob_placeAt : Fld Z T9.heap ob "com/example/handfast/handfast/algorithm/Matching" "placeAt" "[I" (.ref bp) := fw7.keep K9 (ninS ne_ob_bp nin0)
  have f9_F_ob_size : Fld Z T9.heap ob "com/example/handfast/handfast/algorithm/Matching" "size" "I" (.int (0 : Int32)) := f7_F_ob_size.keep K9 (ninS ne_ob_bp nin0)
  have f9_F_ob_members : Fld Z T9.heap ob "com/example/handfast/handfast/algorithm/Matching" "members" "Lcom/example/handfast/handfast/model/NumberSet;" .null := f7_F_ob_members.keep K9 (ninS ne_ob_bp nin0)
  have f9_K : Keep h0 T9.heap [ob] := f7_K.trans K9 (allS (Or.inr sz_bp) all0)
  have f9_A_be : own_A Z T9.heap be .int (16) (fun z => .int (own_k0 z)) := f7_A_be.keep K9 (ninS ne_be_bp nin0)
  have f9_A_bn : own_A Z T9.heap bn .int (32) (fun z => .int (own_k0 z)) := f7_A_bn.keep K9 (ninS ne_bn_bp nin0)
  have z9c : n0 ≤ T9.heap.size := Nat.le_trans z7 K9.1
  refine own_W.step st9 ?_
  show own_W p e (FrameEnd s) below ({ frames := 1, cells := 3, slots := 52, locals := 15 } : Room).cells ({ frames := 1, cells := 3, slots := 52, locals := 15 } : Room).slots (Q1 Z ob pn nn h0 n0) T9 (mkF m 35 #[.val (.ref ob), .val (.int pn)] [])
  refine own_retV X9 hx hlk hret (hb hby d1_35) (by decide) (by decide) ?_
  show Q1 Z ob pn nn h0 n0 none T9.heap _
  skip
  exact ⟨be, bn, bp, rfl, N9, f9_K, sz_be, sz_bn, sz_bp, f9_E_ob, f9_F_ob_edges, f9_F_ob_ends, f9_F_ob_placeAt, f9_F_ob_size, f9_F_ob_members, f9_A_be, f9_A_bn, fq9_0, ⟨ne_ob_be, ne_ob_bn, ne_ob_bp, ne_be_bn, ne_be_bp, ne_bn_bp⟩⟩
theorem d4_0 : decode prog_15_method_8_code 0 = .ok (.aload_n 0, 1) := by decide +kernel
theorem d4_1 : decode prog_15_method_8_code 1 = .ok (.getfield 25, 3) := by decide +kernel
theorem d4_4 : decode prog_15_method_8_code 4 = .ok (.aload_n 0, 1) := by decide +kernel
theorem d4_5 : decode prog_15_method_8_code 5 = .ok (.getfield 9, 3) := by decide +kernel
theorem d4_8 : decode prog_15_method_8_code 8 = .ok (.arraylength, 1) := by decide +kernel
theorem d4_9 : decode prog_15_method_8_code 9 = .ok (.if_icmp .ne 37, 3) := by decide +kernel
theorem d4_46 : decode prog_15_method_8_code 46 = .ok (.aload_n 0, 1) := by decide +kernel
theorem d4_47 : decode prog_15_method_8_code 47 = .ok (.getfield 9, 3) := by decide +kernel
theorem d4_50 : decode prog_15_method_8_code 50 = .ok (.aload_n 0, 1) := by decide +kernel
theorem d4_51 : decode prog_15_method_8_code 51 = .ok (.getfield 25, 3) := by decide +kernel
theorem d4_54 : decode prog_15_method_8_code 54 = .ok (.iload_n 1, 1) := by decide +kernel
theorem d4_55 : decode prog_15_method_8_code 55 = .ok (.iastore, 1) := by decide +kernel
theorem d4_56 : decode prog_15_method_8_code 56 = .ok (.aload_n 0, 1) := by decide +kernel
theorem d4_57 : decode prog_15_method_8_code 57 = .ok (.getfield 13, 3) := by decide +kernel
theorem d4_60 : decode prog_15_method_8_code 60 = .ok (.iconst 2, 1) := by decide +kernel
theorem d4_61 : decode prog_15_method_8_code 61 = .ok (.aload_n 0, 1) := by decide +kernel
theorem d4_62 : decode prog_15_method_8_code 62 = .ok (.getfield 25, 3) := by decide +kernel
theorem d4_65 : decode prog_15_method_8_code 65 = .ok (.imul, 1) := by decide +kernel
theorem d4_66 : decode prog_15_method_8_code 66 = .ok (.iload_n 2, 1) := by decide +kernel
theorem d4_67 : decode prog_15_method_8_code 67 = .ok (.iastore, 1) := by decide +kernel
theorem d4_68 : decode prog_15_method_8_code 68 = .ok (.aload_n 0, 1) := by decide +kernel
theorem d4_69 : decode prog_15_method_8_code 69 = .ok (.getfield 13, 3) := by decide +kernel
theorem d4_72 : decode prog_15_method_8_code 72 = .ok (.iconst 2, 1) := by decide +kernel
theorem d4_73 : decode prog_15_method_8_code 73 = .ok (.aload_n 0, 1) := by decide +kernel
theorem d4_74 : decode prog_15_method_8_code 74 = .ok (.getfield 25, 3) := by decide +kernel
theorem d4_77 : decode prog_15_method_8_code 77 = .ok (.imul, 1) := by decide +kernel
theorem d4_78 : decode prog_15_method_8_code 78 = .ok (.iconst 1, 1) := by decide +kernel
theorem d4_79 : decode prog_15_method_8_code 79 = .ok (.iadd, 1) := by decide +kernel
theorem d4_80 : decode prog_15_method_8_code 80 = .ok (.iload_n 3, 1) := by decide +kernel
theorem d4_81 : decode prog_15_method_8_code 81 = .ok (.iastore, 1) := by decide +kernel
theorem d4_82 : decode prog_15_method_8_code 82 = .ok (.aload_n 0, 1) := by decide +kernel
theorem d4_83 : decode prog_15_method_8_code 83 = .ok (.getfield 16, 3) := by decide +kernel
theorem d4_86 : decode prog_15_method_8_code 86 = .ok (.iload_n 2, 1) := by decide +kernel
theorem d4_87 : decode prog_15_method_8_code 87 = .ok (.aload_n 0, 1) := by decide +kernel
theorem d4_88 : decode prog_15_method_8_code 88 = .ok (.getfield 25, 3) := by decide +kernel
theorem d4_91 : decode prog_15_method_8_code 91 = .ok (.iastore, 1) := by decide +kernel
theorem d4_92 : decode prog_15_method_8_code 92 = .ok (.aload_n 0, 1) := by decide +kernel
theorem d4_93 : decode prog_15_method_8_code 93 = .ok (.getfield 16, 3) := by decide +kernel
theorem d4_96 : decode prog_15_method_8_code 96 = .ok (.iload_n 3, 1) := by decide +kernel
theorem d4_97 : decode prog_15_method_8_code 97 = .ok (.aload_n 0, 1) := by decide +kernel
theorem d4_98 : decode prog_15_method_8_code 98 = .ok (.getfield 25, 3) := by decide +kernel
theorem d4_101 : decode prog_15_method_8_code 101 = .ok (.iastore, 1) := by decide +kernel
theorem d4_102 : decode prog_15_method_8_code 102 = .ok (.aload_n 0, 1) := by decide +kernel
theorem d4_103 : decode prog_15_method_8_code 103 = .ok (.getfield 33, 3) := by decide +kernel
theorem d4_106 : decode prog_15_method_8_code 106 = .ok (.ifnull 12, 3) := by decide +kernel
theorem d4_118 : decode prog_15_method_8_code 118 = .ok (.aload_n 0, 1) := by decide +kernel
theorem d4_119 : decode prog_15_method_8_code 119 = .ok (.dup, 1) := by decide +kernel
theorem d4_120 : decode prog_15_method_8_code 120 = .ok (.getfield 25, 3) := by decide +kernel
theorem d4_123 : decode prog_15_method_8_code 123 = .ok (.iconst 1, 1) := by decide +kernel
theorem d4_124 : decode prog_15_method_8_code 124 = .ok (.iadd, 1) := by decide +kernel
theorem d4_125 : decode prog_15_method_8_code 125 = .ok (.putfield 25, 3) := by decide +kernel
theorem d4_128 : decode prog_15_method_8_code 128 = .ok (.return_, 1) := by decide +kernel
theorem ef_4 (m : MethodId) (ob : Addr) (p1 : Int32) (p2 : Int32) (p3 : Int32) : entryFrame m #[(.ref ob), (.int p1), (.int p2), (.int p3)] 4 = mkF m 0 #[.val (.ref ob), .val (.int p1), .val (.int p2), .val (.int p3)] [] := by first | (simp [entryFrame, mkF, argsToLocals, Value.category]; done) | rfl
def Q4 (Z : State) (ob : Addr) (p1 : Int32) (p2 : Int32) (p3 : Int32) (ae : Addr) (an : Addr) (ap : Addr) (us : Int32) (nn : Nat) (fE : Nat → Int32) (fN : Nat → Int32) (fP : Nat → Int32) (kk : Nat) (xa : Nat) (xb : Nat) (h0 : Heap) (n0 : Nat) (v : Option Value) (h : Heap) (L : List Loc) : Prop := v = none ∧ Fr n0 L ∧ Keep h0 h [ob, ae, an, ap] ∧ Exa Z h ob "com/example/handfast/handfast/algorithm/Matching" ∧ Fld Z h ob "com/example/handfast/handfast/algorithm/Matching" "edges" "[I" (.ref ae) ∧ Fld Z h ob "com/example/handfast/handfast/algorithm/Matching" "ends" "[I" (.ref an) ∧ Fld Z h ob "com/example/handfast/handfast/algorithm/Matching" "placeAt" "[I" (.ref ap) ∧ Fld Z h ob "com/example/handfast/handfast/algorithm/Matching" "size" "I" (.int (us + (1 : Int32))) ∧ Fld Z h ob "com/example/handfast/handfast/algorithm/Matching" "members" "Lcom/example/handfast/handfast/model/NumberSet;" .null ∧ own_A Z h ae .int (16) (fun z => .int (own_up fE kk p1 z)) ∧ own_A Z h an .int (32) (fun z => .int (own_up (own_up fN (2 * kk) p2) (2 * kk + 1) p3 z)) ∧ own_A Z h ap .int (nn) (fun z => .int (own_up (own_up fP xa us) xb us z))
set_option maxRecDepth 65536 in
set_option maxHeartbeats 40000000 in
theorem rm4 (l : Launch) (Z : State) (a0 : Array Value) (hw : ∀ d ∈ tables_1, d.before a0 Z = true) (ws : List Jvm.Cond) (ob : Addr) (p1 : Int32) (p2 : Int32) (p3 : Int32) (ae : Addr) (an : Addr) (ap : Addr) (us : Int32) (nn : Nat) (fE : Nat → Int32) (fN : Nat → Int32) (fP : Nat → Int32) (kk : Nat) (xa : Nat) (xb : Nat) (h0 : Heap) (n0 : Nat) (Z0 : n0 ≤ h0.size) (f_E_ob : Exa Z h0 ob "com/example/handfast/handfast/algorithm/Matching") (f_F_ob_edges : Fld Z h0 ob "com/example/handfast/handfast/algorithm/Matching" "edges" "[I" (.ref ae)) (f_F_ob_ends : Fld Z h0 ob "com/example/handfast/handfast/algorithm/Matching" "ends" "[I" (.ref an)) (f_F_ob_placeAt : Fld Z h0 ob "com/example/handfast/handfast/algorithm/Matching" "placeAt" "[I" (.ref ap)) (f_F_ob_size : Fld Z h0 ob "com/example/handfast/handfast/algorithm/Matching" "size" "I" (.int us)) (f_F_ob_members : Fld Z h0 ob "com/example/handfast/handfast/algorithm/Matching" "members" "Lcom/example/handfast/handfast/model/NumberSet;" .null) (f_A_ae : own_A Z h0 ae .int (16) (fun z => .int (fE z))) (f_A_an : own_A Z h0 an .int (32) (fun z => .int (fN z))) (f_A_ap : own_A Z h0 ap .int (nn) (fun z => .int (fP z))) (g_ob : n0 ≤ ob) (g_ae : n0 ≤ ae) (g_an : n0 ≤ an) (g_ap : n0 ≤ ap) (hne : own_ne4 ob ae an ap) (hk : own_In us kk 8) (hxa : own_In p2 xa nn) (hxb : own_In p3 xb nn) :
    MetFree l (⟨"com/example/handfast/handfast/algorithm/Matching", "add", "(III)V"⟩ : MethodName) (head1 (Jvm.Cond.code (⟨"com/example/handfast/handfast/algorithm/Matching", "add", "(III)V"⟩ : MethodName) prog_15_method_8_code 4 none :: ws) ({ frames := 0, cells := 0, slots := 0, locals := 0 } : Room)) (fun avs U => avs = #[(.ref ob), (.int p1), (.int p2), (.int p3)] ∧ Z.Warmed39 U.vm ∧ U.heap = h0) (fun _ _ _ _ _ => True) (fun _ U o U' => ∃ v L, o = .returned v ∧ Q4 Z ob p1 p2 p3 ae an ap us nn fE fN fP kk xa xb h0 n0 v U'.heap L ∧ FrameEnd U o U' L ({ frames := 0, cells := 0, slots := 0, locals := 0 } : Room).cells ({ frames := 0, cells := 0, slots := 0, locals := 0 } : Room).slots) := by
  refine MetFree.of_bodySF (plainFor_of_name own_pn_com_example_handfast_handfast_algorithm_Matching) hisR ?_
  intro p e s m args below meth c s₁ Bd hml0 hP hK
  obtain ⟨rfl, hZ, hh⟩ := hP
  have hx := Bd.exec
  have hby := Bd.bytes
  have hml : c.maxLocals = 4 := hml0
  have hown : s.vm.findClass "com/example/handfast/handfast/algorithm/Matching" = some m.cls := findClass_of_methodNamed Bd.named
  have hnm := (name_of_methodNamed Bd.named Bd.method).1
  have hlk := Bd.notSynchronized
  have hret := Bd.returns
  have X0 : Stand p l e ({ frames := 0, cells := 0, slots := 0, locals := 0 } : Room) s m #[(.ref ob), (.int p1), (.int p2), (.int p3)] below meth c s₁ [] 0 0 := Stand.of_body Bd
  have e0 : s₁.heap = h0 := by rw [← hh, Bd.state]; rfl
  have N0 := Fr.nil n0
  show own_W p e (FrameEnd s) below ({ frames := 0, cells := 0, slots := 0, locals := 0 } : Room).cells ({ frames := 0, cells := 0, slots := 0, locals := 0 } : Room).slots (Q4 Z ob p1 p2 p3 ae an ap us nn fE fN fP kk xa xb h0 n0) s₁ (entryFrame m #[(.ref ob), (.int p1), (.int p2), (.int p3)] 4)
  rw [ef_4]
  have K0 : Keep h0 h0 [ob, ae, an, ap] := Keep.refl h0 _
  refine own_aloadN X0 hx (hb hby d4_0) (v := (.ref ob)) rfl rfl (rfl : 0 + 1 = 1) ?_
  obtain ⟨T1, X1, e1, st1⟩ := getF X0 hx hZ hown (host := "") (Or.inl (hw _ (List.mem_of_getElem? (i := 26) rfl))) Via.refl e0 f_F_ob_size (g := (mkF m 1 #[.val (.ref ob), .val (.int p1), .val (.int p2), .val (.int p3)] [(.ref ob)])) rfl rfl (hb hby d4_1)
  refine own_W.step st1 ?_
  show own_W p e (FrameEnd s) below ({ frames := 0, cells := 0, slots := 0, locals := 0 } : Room).cells ({ frames := 0, cells := 0, slots := 0, locals := 0 } : Room).slots (Q4 Z ob p1 p2 p3 ae an ap us nn fE fN fP kk xa xb h0 n0) T1 (mkF m 4 #[.val (.ref ob), .val (.int p1), .val (.int p2), .val (.int p3)] [(.int us)])
  refine own_aloadN X1 hx (hb hby d4_4) (v := (.ref ob)) rfl rfl (rfl : 4 + 1 = 5) ?_
  obtain ⟨T2, X2, e2, st2⟩ := getF X1 hx hZ hown (host := "") (Or.inl (hw _ (List.mem_of_getElem? (i := 11) rfl))) Via.refl e1 f_F_ob_edges (g := (mkF m 5 #[.val (.ref ob), .val (.int p1), .val (.int p2), .val (.int p3)] [(.ref ob), (.int us)])) rfl rfl (hb hby d4_5)
  refine own_W.step st2 ?_
  show own_W p e (FrameEnd s) below ({ frames := 0, cells := 0, slots := 0, locals := 0 } : Room).cells ({ frames := 0, cells := 0, slots := 0, locals := 0 } : Room).slots (Q4 Z ob p1 p2 p3 ae an ap us nn fE fN fP kk xa xb h0 n0) T2 (mkF m 8 #[.val (.ref ob), .val (.int p1), .val (.int p2), .val (.int p3)] [(.ref ae), (.int us)])
  refine own_alen X2 hx hZ e2 f_A_ae (z := (16 : Int32)) rfl (g := (mkF m 8 #[.val (.ref ob), .val (.int p1), .val (.int p2), .val (.int p3)] [(.ref ae), (.int us)])) rfl rfl (hb hby d4_8) ?_
  show own_W p e (FrameEnd s) below ({ frames := 0, cells := 0, slots := 0, locals := 0 } : Room).cells ({ frames := 0, cells := 0, slots := 0, locals := 0 } : Room).slots (Q4 Z ob p1 p2 p3 ae an ap us nn fE fN fP kk xa xb h0 n0) T2 (mkF m 9 #[.val (.ref ob), .val (.int p1), .val (.int p2), .val (.int p3)] [(.int (16 : Int32)), (.int us)])
  have hc9 : ¬ (us = (16 : Int32)) := fun q => by have z := hk.1; have y := hk.2; rw [q, show (16 : Int32).toInt = 16 from by decide] at z; omega
  refine own_icmpYes X2 hx (hb hby d4_9) (feq hc9).2 (pc' := 46) (by decide) (by decide) ?_
  refine own_aloadN X2 hx (hb hby d4_46) (v := (.ref ob)) rfl rfl (rfl : 46 + 1 = 47) ?_
  obtain ⟨T4, X4, e4, st4⟩ := getF X2 hx hZ hown (host := "") (Or.inl (hw _ (List.mem_of_getElem? (i := 11) rfl))) Via.refl e2 f_F_ob_edges (g := (mkF m 47 #[.val (.ref ob), .val (.int p1), .val (.int p2), .val (.int p3)] [(.ref ob)])) rfl rfl (hb hby d4_47)
  refine own_W.step st4 ?_
  show own_W p e (FrameEnd s) below ({ frames := 0, cells := 0, slots := 0, locals := 0 } : Room).cells ({ frames := 0, cells := 0, slots := 0, locals := 0 } : Room).slots (Q4 Z ob p1 p2 p3 ae an ap us nn fE fN fP kk xa xb h0 n0) T4 (mkF m 50 #[.val (.ref ob), .val (.int p1), .val (.int p2), .val (.int p3)] [(.ref ae)])
  refine own_aloadN X4 hx (hb hby d4_50) (v := (.ref ob)) rfl rfl (rfl : 50 + 1 = 51) ?_
  obtain ⟨T5, X5, e5, st5⟩ := getF X4 hx hZ hown (host := "") (Or.inl (hw _ (List.mem_of_getElem? (i := 26) rfl))) Via.refl e4 f_F_ob_size (g := (mkF m 51 #[.val (.ref ob), .val (.int p1), .val (.int p2), .val (.int p3)] [(.ref ob), (.ref ae)])) rfl rfl (hb hby d4_51)
  refine own_W.step st5 ?_
  show own_W p e (FrameEnd s) below ({ frames := 0, cells := 0, slots := 0, locals := 0 } : Room).cells ({ frames := 0, cells := 0, slots := 0, locals := 0 } : Room).slots (Q4 Z ob p1 p2 p3 ae an ap us nn fE fN fP kk xa xb h0 n0) T5 (mkF m 54 #[.val (.ref ob), .val (.int p1), .val (.int p2), .val (.int p3)] [(.int us), (.ref ae)])
  refine own_iloadN X5 hx (hb hby d4_54) (v := p1) rfl (rfl : 54 + 1 = 55) ?_
  have hi6 : own_In us (kk) (16) := own_Iw hk (by decide)
  obtain ⟨T6, h6, X6, e6, W6, V6, st6⟩ := own_stI X5 hx hZ e5 f_A_ae hi6 (g := (mkF m 55 #[.val (.ref ob), .val (.int p1), .val (.int p2), .val (.int p3)] [(.int p1), (.int us), (.ref ae)])) rfl rfl (hb hby d4_55)
  refine own_W.step st6 ?_
  have N6 := Fr.snoc X6 N0 g_ae
  have f6_E_ob : Exa Z h6 ob "com/example/handfast/handfast/algorithm/Matching" := f_E_ob.wr W6
  have f6_F_ob_edges : Fld Z h6 ob "com/example/handfast/handfast/algorithm/Matching" "edges" "[I" (.ref ae) := f_F_ob_edges.other W6 (Or.inl hne.1)
  have f6_F_ob_ends : Fld Z h6 ob "com/example/handfast/handfast/algorithm/Matching" "ends" "[I" (.ref an) := f_F_ob_ends.other W6 (Or.inl hne.1)
  have f6_F_ob_placeAt : Fld Z h6 ob "com/example/handfast/handfast/algorithm/Matching" "placeAt" "[I" (.ref ap) := f_F_ob_placeAt.other W6 (Or.inl hne.1)
  have f6_F_ob_size : Fld Z h6 ob "com/example/handfast/handfast/algorithm/Matching" "size" "I" (.int us) := f_F_ob_size.other W6 (Or.inl hne.1)
  have f6_F_ob_members : Fld Z h6 ob "com/example/handfast/handfast/algorithm/Matching" "members" "Lcom/example/handfast/handfast/model/NumberSet;" .null := f_F_ob_members.other W6 (Or.inl hne.1)
  have f6_A_an : own_A Z h6 an .int (32) (fun z => .int (fN z)) := f_A_an.other W6 (Ne.symm hne.2.2.2.1)
  have f6_A_ap : own_A Z h6 ap .int (nn) (fun z => .int (fP z)) := f_A_ap.other W6 (Ne.symm hne.2.2.2.2.1)
  have f6_K : Keep h0 h6 [ob, ae, an, ap] := K0.wr W6 (Or.inl (by simp))
  have U6 : own_A Z h6 ae .int (16) (fun z => .int (own_up fE kk p1 z)) := V6.congr (fun z _ => by unfold own_up; split <;> rfl)
  have z6 : n0 ≤ h6.size := by rw [W6.size]; exact Z0
  show own_W p e (FrameEnd s) below ({ frames := 0, cells := 0, slots := 0, locals := 0 } : Room).cells ({ frames := 0, cells := 0, slots := 0, locals := 0 } : Room).slots (Q4 Z ob p1 p2 p3 ae an ap us nn fE fN fP kk xa xb h0 n0) T6 (mkF m 56 #[.val (.ref ob), .val (.int p1), .val (.int p2), .val (.int p3)] [])
  refine own_aloadN X6 hx (hb hby d4_56) (v := (.ref ob)) rfl rfl (rfl : 56 + 1 = 57) ?_
  obtain ⟨T7, X7, e7, st7⟩ := getF X6 hx hZ hown (host := "") (Or.inl (hw _ (List.mem_of_getElem? (i := 13) rfl))) Via.refl e6 f6_F_ob_ends (g := (mkF m 57 #[.val (.ref ob), .val (.int p1), .val (.int p2), .val (.int p3)] [(.ref ob)])) rfl rfl (hb hby d4_57)
  refine own_W.step st7 ?_
  show own_W p e (FrameEnd s) below ({ frames := 0, cells := 0, slots := 0, locals := 0 } : Room).cells ({ frames := 0, cells := 0, slots := 0, locals := 0 } : Room).slots (Q4 Z ob p1 p2 p3 ae an ap us nn fE fN fP kk xa xb h0 n0) T7 (mkF m 60 #[.val (.ref ob), .val (.int p1), .val (.int p2), .val (.int p3)] [(.ref an)])
  refine own_iconst X7 hx (hb hby d4_60) (2 : Int32) (by first | rfl | decide) (rfl : 60 + 1 = 61) ?_
  refine own_aloadN X7 hx (hb hby d4_61) (v := (.ref ob)) rfl rfl (rfl : 61 + 1 = 62) ?_
  obtain ⟨T8, X8, e8, st8⟩ := getF X7 hx hZ hown (host := "") (Or.inl (hw _ (List.mem_of_getElem? (i := 26) rfl))) Via.refl e7 f6_F_ob_size (g := (mkF m 62 #[.val (.ref ob), .val (.int p1), .val (.int p2), .val (.int p3)] [(.ref ob), (.int (2 : Int32)), (.ref an)])) rfl rfl (hb hby d4_62)
  refine own_W.step st8 ?_
  show own_W p e (FrameEnd s) below ({ frames := 0, cells := 0, slots := 0, locals := 0 } : Room).cells ({ frames := 0, cells := 0, slots := 0, locals := 0 } : Room).slots (Q4 Z ob p1 p2 p3 ae an ap us nn fE fN fP kk xa xb h0 n0) T8 (mkF m 65 #[.val (.ref ob), .val (.int p1), .val (.int p2), .val (.int p3)] [(.int us), (.int (2 : Int32)), (.ref an)])
  refine own_imul X8 hx (hb hby d4_65) (rfl : 65 + 1 = 66) ?_
  refine own_iloadN X8 hx (hb hby d4_66) (v := p2) rfl (rfl : 66 + 1 = 67) ?_
  have hi9 : own_In ((2 : Int32) * us) (2 * kk) (32) := own_I2 hk (by decide) (by decide)
  obtain ⟨T9, h9, X9, e9, W9, V9, st9⟩ := own_stI X8 hx hZ e8 f6_A_an hi9 (g := (mkF m 67 #[.val (.ref ob), .val (.int p1), .val (.int p2), .val (.int p3)] [(.int p2), (.int ((2 : Int32) * us)), (.ref an)])) rfl rfl (hb hby d4_67)
  refine own_W.step st9 ?_
  have N9 := Fr.snoc X9 N6 g_an
  have f9_E_ob : Exa Z h9 ob "com/example/handfast/handfast/algorithm/Matching" := f6_E_ob.wr W9
  have f9_F_ob_edges : Fld Z h9 ob "com/example/handfast/handfast/algorithm/Matching" "edges" "[I" (.ref ae) := f6_F_ob_edges.other W9 (Or.inl hne.2.1)
  have f9_F_ob_ends : Fld Z h9 ob "com/example/handfast/handfast/algorithm/Matching" "ends" "[I" (.ref an) := f6_F_ob_ends.other W9 (Or.inl hne.2.1)
  have f9_F_ob_placeAt : Fld Z h9 ob "com/example/handfast/handfast/algorithm/Matching" "placeAt" "[I" (.ref ap) := f6_F_ob_placeAt.other W9 (Or.inl hne.2.1)
  have f9_F_ob_size : Fld Z h9 ob "com/example/handfast/handfast/algorithm/Matching" "size" "I" (.int us) := f6_F_ob_size.other W9 (Or.inl hne.2.1)
  have f9_F_ob_members : Fld Z h9 ob "com/example/handfast/handfast/algorithm/Matching" "members" "Lcom/example/handfast/handfast/model/NumberSet;" .null := f6_F_ob_members.other W9 (Or.inl hne.2.1)
  have f9_A_ae : own_A Z h9 ae .int (16) (fun z => .int (own_up fE kk p1 z)) := U6.other W9 hne.2.2.2.1
  have f9_A_ap : own_A Z h9 ap .int (nn) (fun z => .int (fP z)) := f6_A_ap.other W9 (Ne.symm hne.2.2.2.2.2)
  have f9_K : Keep h0 h9 [ob, ae, an, ap] := f6_K.wr W9 (Or.inl (by simp))
  have U9 : own_A Z h9 an .int (32) (fun z => .int (own_up fN (2 * kk) p2 z)) := V9.congr (fun z _ => by unfold own_up; split <;> rfl)
  have z9 : n0 ≤ h9.size := by rw [W9.size]; exact z6
  show own_W p e (FrameEnd s) below ({ frames := 0, cells := 0, slots := 0, locals := 0 } : Room).cells ({ frames := 0, cells := 0, slots := 0, locals := 0 } : Room).slots (Q4 Z ob p1 p2 p3 ae an ap us nn fE fN fP kk xa xb h0 n0) T9 (mkF m 68 #[.val (.ref ob), .val (.int p1), .val (.int p2), .val (.int p3)] [])
  refine own_aloadN X9 hx (hb hby d4_68) (v := (.ref ob)) rfl rfl (rfl : 68 + 1 = 69) ?_
  obtain ⟨T10, X10, e10, st10⟩ := getF X9 hx hZ hown (host := "") (Or.inl (hw _ (List.mem_of_getElem? (i := 13) rfl))) Via.refl e9 f9_F_ob_ends (g := (mkF m 69 #[.val (.ref ob), .val (.int p1), .val (.int p2), .val (.int p3)] [(.ref ob)])) rfl rfl (hb hby d4_69)
  refine own_W.step st10 ?_
  show own_W p e (FrameEnd s) below ({ frames := 0, cells := 0, slots := 0, locals := 0 } : Room).cells ({ frames := 0, cells := 0, slots := 0, locals := 0 } : Room).slots (Q4 Z ob p1 p2 p3 ae an ap us nn fE fN fP kk xa xb h0 n0) T10 (mkF m 72 #[.val (.ref ob), .val (.int p1), .val (.int p2), .val (.int p3)] [(.ref an)])
  refine own_iconst X10 hx (hb hby d4_72) (2 : Int32) (by first | rfl | decide) (rfl : 72 + 1 = 73) ?_
  refine own_aloadN X10 hx (hb hby d4_73) (v := (.ref ob)) rfl rfl (rfl : 73 + 1 = 74) ?_
  obtain ⟨T11, X11, e11, st11⟩ := getF X10 hx hZ hown (host := "") (Or.inl (hw _ (List.mem_of_getElem? (i := 26) rfl))) Via.refl e10 f9_F_ob_size (g := (mkF m 74 #[.val (.ref ob), .val (.int p1), .val (.int p2), .val (.int p3)] [(.ref ob), (.int (2 : Int32)), (.ref an)])) rfl rfl (hb hby d4_74)
  refine own_W.step st11 ?_
  show own_W p e (FrameEnd s) below ({ frames := 0, cells := 0, slots := 0, locals := 0 } : Room).cells ({ frames := 0, cells := 0, slots := 0, locals := 0 } : Room).slots (Q4 Z ob p1 p2 p3 ae an ap us nn fE fN fP kk xa xb h0 n0) T11 (mkF m 77 #[.val (.ref ob), .val (.int p1), .val (.int p2), .val (.int p3)] [(.int us), (.int (2 : Int32)), (.ref an)])
  refine own_imul X11 hx (hb hby d4_77) (rfl : 77 + 1 = 78) ?_
  refine own_iconst X11 hx (hb hby d4_78) (1 : Int32) (by first | rfl | decide) (rfl : 78 + 1 = 79) ?_
  refine own_iadd X11 hx (hb hby d4_79) (rfl : 79 + 1 = 80) ?_
  refine own_iloadN X11 hx (hb hby d4_80) (v := p3) rfl (rfl : 80 + 1 = 81) ?_
  have hi12 : own_In (((2 : Int32) * us) + (1 : Int32)) (2 * kk + 1) (32) := own_I21 hk (by decide) (by decide)
  obtain ⟨T12, h12, X12, e12, W12, V12, st12⟩ := own_stI X11 hx hZ e11 U9 hi12 (g := (mkF m 81 #[.val (.ref ob), .val (.int p1), .val (.int p2), .val (.int p3)] [(.int p3), (.int (((2 : Int32) * us) + (1 : Int32))), (.ref an)])) rfl rfl (hb hby d4_81)
  refine own_W.step st12 ?_
  have N12 := Fr.snoc X12 N9 g_an
  have f12_E_ob : Exa Z h12 ob "com/example/handfast/handfast/algorithm/Matching" := f9_E_ob.wr W12
  have f12_F_ob_edges : Fld Z h12 ob "com/example/handfast/handfast/algorithm/Matching" "edges" "[I" (.ref ae) := f9_F_ob_edges.other W12 (Or.inl hne.2.1)
  have f12_F_ob_ends : Fld Z h12 ob "com/example/handfast/handfast/algorithm/Matching" "ends" "[I" (.ref an) := f9_F_ob_ends.other W12 (Or.inl hne.2.1)
  have f12_F_ob_placeAt : Fld Z h12 ob "com/example/handfast/handfast/algorithm/Matching" "placeAt" "[I" (.ref ap) := f9_F_ob_placeAt.other W12 (Or.inl hne.2.1)
  have f12_F_ob_size : Fld Z h12 ob "com/example/handfast/handfast/algorithm/Matching" "size" "I" (.int us) := f9_F_ob_size.other W12 (Or.inl hne.2.1)
  have f12_F_ob_members : Fld Z h12 ob "com/example/handfast/handfast/algorithm/Matching" "members" "Lcom/example/handfast/handfast/model/NumberSet;" .null := f9_F_ob_members.other W12 (Or.inl hne.2.1)
  have f12_A_ae : own_A Z h12 ae .int (16) (fun z => .int (own_up fE kk p1 z)) := f9_A_ae.other W12 hne.2.2.2.1
  have f12_A_ap : own_A Z h12 ap .int (nn) (fun z => .int (fP z)) := f9_A_ap.other W12 (Ne.symm hne.2.2.2.2.2)
  have f12_K : Keep h0 h12 [ob, ae, an, ap] := f9_K.wr W12 (Or.inl (by simp))
  have U12 : own_A Z h12 an .int (32) (fun z => .int (own_up (own_up fN (2 * kk) p2) (2 * kk + 1) p3 z)) := V12.congr (fun z _ => by unfold own_up; split <;> rfl)
  have z12 : n0 ≤ h12.size := by rw [W12.size]; exact z9
  show own_W p e (FrameEnd s) below ({ frames := 0, cells := 0, slots := 0, locals := 0 } : Room).cells ({ frames := 0, cells := 0, slots := 0, locals := 0 } : Room).slots (Q4 Z ob p1 p2 p3 ae an ap us nn fE fN fP kk xa xb h0 n0) T12 (mkF m 82 #[.val (.ref ob), .val (.int p1), .val (.int p2), .val (.int p3)] [])
  refine own_aloadN X12 hx (hb hby d4_82) (v := (.ref ob)) rfl rfl (rfl : 82 + 1 = 83) ?_
  obtain ⟨T13, X13, e13, st13⟩ := getF X12 hx hZ hown (host := "") (Or.inl (hw _ (List.mem_of_getElem? (i := 15) rfl))) Via.refl e12 f12_F_ob_placeAt (g := (mkF m 83 #[.val (.ref ob), .val (.int p1), .val (.int p2), .val (.int p3)] [(.ref ob)])) rfl rfl (hb hby d4_83)
  refine own_W.step st13 ?_
  show own_W p e (FrameEnd s) below ({ frames := 0, cells := 0, slots := 0, locals := 0 } : Room).cells ({ frames := 0, cells := 0, slots := 0, locals := 0 } : Room).slots (Q4 Z ob p1 p2 p3 ae an ap us nn fE fN fP kk xa xb h0 n0) T13 (mkF m 86 #[.val (.ref ob), .val (.int p1), .val (.int p2), .val (.int p3)] [(.ref ap)])
  refine own_iloadN X13 hx (hb hby d4_86) (v := p2) rfl (rfl : 86 + 1 = 87) ?_
  refine own_aloadN X13 hx (hb hby d4_87) (v := (.ref ob)) rfl rfl (rfl : 87 + 1 = 88) ?_
  obtain ⟨T14, X14, e14, st14⟩ := getF X13 hx hZ hown (host := "") (Or.inl (hw _ (List.mem_of_getElem? (i := 26) rfl))) Via.refl e13 f12_F_ob_size (g := (mkF m 88 #[.val (.ref ob), .val (.int p1), .val (.int p2), .val (.int p3)] [(.ref ob), (.int p2), (.ref ap)])) rfl rfl (hb hby d4_88)
  refine own_W.step st14 ?_
  show own_W p e (FrameEnd s) below ({ frames := 0, cells := 0, slots := 0, locals := 0 } : Room).cells ({ frames := 0, cells := 0, slots := 0, locals := 0 } : Room).slots (Q4 Z ob p1 p2 p3 ae an ap us nn fE fN fP kk xa xb h0 n0) T14 (mkF m 91 #[.val (.ref ob), .val (.int p1), .val (.int p2), .val (.int p3)] [(.int us), (.int p2), (.ref ap)])
  have hi15 : own_In p2 (xa) (nn) := hxa
  obtain ⟨T15, h15, X15, e15, W15, V15, st15⟩ := own_stI X14 hx hZ e14 f12_A_ap hi15 (g := (mkF m 91 #[.val (.ref ob), .val (.int p1), .val (.int p2), .val (.int p3)] [(.int us), (.int p2), (.ref ap)])) rfl rfl (hb hby d4_91)
  refine own_W.step st15 ?_
  have N15 := Fr.snoc X15 N12 g_ap
  have f15_E_ob : Exa Z h15 ob "com/example/handfast/handfast/algorithm/Matching" := f12_E_ob.wr W15
  have f15_F_ob_edges : Fld Z h15 ob "com/example/handfast/handfast/algorithm/Matching" "edges" "[I" (.ref ae) := f12_F_ob_edges.other W15 (Or.inl hne.2.2.1)
  have f15_F_ob_ends : Fld Z h15 ob "com/example/handfast/handfast/algorithm/Matching" "ends" "[I" (.ref an) := f12_F_ob_ends.other W15 (Or.inl hne.2.2.1)
  have f15_F_ob_placeAt : Fld Z h15 ob "com/example/handfast/handfast/algorithm/Matching" "placeAt" "[I" (.ref ap) := f12_F_ob_placeAt.other W15 (Or.inl hne.2.2.1)
  have f15_F_ob_size : Fld Z h15 ob "com/example/handfast/handfast/algorithm/Matching" "size" "I" (.int us) := f12_F_ob_size.other W15 (Or.inl hne.2.2.1)
  have f15_F_ob_members : Fld Z h15 ob "com/example/handfast/handfast/algorithm/Matching" "members" "Lcom/example/handfast/handfast/model/NumberSet;" .null := f12_F_ob_members.other W15 (Or.inl hne.2.2.1)
  have f15_A_ae : own_A Z h15 ae .int (16) (fun z => .int (own_up fE kk p1 z)) := f12_A_ae.other W15 hne.2.2.2.2.1
  have f15_A_an : own_A Z h15 an .int (32) (fun z => .int (own_up (own_up fN (2 * kk) p2) (2 * kk + 1) p3 z)) := U12.other W15 hne.2.2.2.2.2
  have f15_K : Keep h0 h15 [ob, ae, an, ap] := f12_K.wr W15 (Or.inl (by simp))
  have U15 : own_A Z h15 ap .int (nn) (fun z => .int (own_up fP xa us z)) := V15.congr (fun z _ => by unfold own_up; split <;> rfl)
  have z15 : n0 ≤ h15.size := by rw [W15.size]; exact z12
  show own_W p e (FrameEnd s) below ({ frames := 0, cells := 0, slots := 0, locals := 0 } : Room).cells ({ frames := 0, cells := 0, slots := 0, locals := 0 } : Room).slots (Q4 Z ob p1 p2 p3 ae an ap us nn fE fN fP kk xa xb h0 n0) T15 (mkF m 92 #[.val (.ref ob), .val (.int p1), .val (.int p2), .val (.int p3)] [])
  refine own_aloadN X15 hx (hb hby d4_92) (v := (.ref ob)) rfl rfl (rfl : 92 + 1 = 93) ?_
  obtain ⟨T16, X16, e16, st16⟩ := getF X15 hx hZ hown (host := "") (Or.inl (hw _ (List.mem_of_getElem? (i := 15) rfl))) Via.refl e15 f15_F_ob_placeAt (g := (mkF m 93 #[.val (.ref ob), .val (.int p1), .val (.int p2), .val (.int p3)] [(.ref ob)])) rfl rfl (hb hby d4_93)
  refine own_W.step st16 ?_
  show own_W p e (FrameEnd s) below ({ frames := 0, cells := 0, slots := 0, locals := 0 } : Room).cells ({ frames := 0, cells := 0, slots := 0, locals := 0 } : Room).slots (Q4 Z ob p1 p2 p3 ae an ap us nn fE fN fP kk xa xb h0 n0) T16 (mkF m 96 #[.val (.ref ob), .val (.int p1), .val (.int p2), .val (.int p3)] [(.ref ap)])
  refine own_iloadN X16 hx (hb hby d4_96) (v := p3) rfl (rfl : 96 + 1 = 97) ?_
  refine own_aloadN X16 hx (hb hby d4_97) (v := (.ref ob)) rfl rfl (rfl : 97 + 1 = 98) ?_
  obtain ⟨T17, X17, e17, st17⟩ := getF X16 hx hZ hown (host := "") (Or.inl (hw _ (List.mem_of_getElem? (i := 26) rfl))) Via.refl e16 f15_F_ob_size (g := (mkF m 98 #[.val (.ref ob), .val (.int p1), .val (.int p2), .val (.int p3)] [(.ref ob), (.int p3), (.ref ap)])) rfl rfl (hb hby d4_98)
  refine own_W.step st17 ?_
  show own_W p e (FrameEnd s) below ({ frames := 0, cells := 0, slots := 0, locals := 0 } : Room).cells ({ frames := 0, cells := 0, slots := 0, locals := 0 } : Room).slots (Q4 Z ob p1 p2 p3 ae an ap us nn fE fN fP kk xa xb h0 n0) T17 (mkF m 101 #[.val (.ref ob), .val (.int p1), .val (.int p2), .val (.int p3)] [(.int us), (.int p3), (.ref ap)])
  have hi18 : own_In p3 (xb) (nn) := hxb
  obtain ⟨T18, h18, X18, e18, W18, V18, st18⟩ := own_stI X17 hx hZ e17 U15 hi18 (g := (mkF m 101 #[.val (.ref ob), .val (.int p1), .val (.int p2), .val (.int p3)] [(.int us), (.int p3), (.ref ap)])) rfl rfl (hb hby d4_101)
  refine own_W.step st18 ?_
  have N18 := Fr.snoc X18 N15 g_ap
  have f18_E_ob : Exa Z h18 ob "com/example/handfast/handfast/algorithm/Matching" := f15_E_ob.wr W18
  have f18_F_ob_edges : Fld Z h18 ob "com/example/handfast/handfast/algorithm/Matching" "edges" "[I" (.ref ae) := f15_F_ob_edges.other W18 (Or.inl hne.2.2.1)
  have f18_F_ob_ends : Fld Z h18 ob "com/example/handfast/handfast/algorithm/Matching" "ends" "[I" (.ref an) := f15_F_ob_ends.other W18 (Or.inl hne.2.2.1)
  have f18_F_ob_placeAt : Fld Z h18 ob "com/example/handfast/handfast/algorithm/Matching" "placeAt" "[I" (.ref ap) := f15_F_ob_placeAt.other W18 (Or.inl hne.2.2.1)
  have f18_F_ob_size : Fld Z h18 ob "com/example/handfast/handfast/algorithm/Matching" "size" "I" (.int us) := f15_F_ob_size.other W18 (Or.inl hne.2.2.1)
  have f18_F_ob_members : Fld Z h18 ob "com/example/handfast/handfast/algorithm/Matching" "members" "Lcom/example/handfast/handfast/model/NumberSet;" .null := f15_F_ob_members.other W18 (Or.inl hne.2.2.1)
  have f18_A_ae : own_A Z h18 ae .int (16) (fun z => .int (own_up fE kk p1 z)) := f15_A_ae.other W18 hne.2.2.2.2.1
  have f18_A_an : own_A Z h18 an .int (32) (fun z => .int (own_up (own_up fN (2 * kk) p2) (2 * kk + 1) p3 z)) := f15_A_an.other W18 hne.2.2.2.2.2
  have f18_K : Keep h0 h18 [ob, ae, an, ap] := f15_K.wr W18 (Or.inl (by simp))
  have U18 : own_A Z h18 ap .int (nn) (fun z => .int (own_up (own_up fP xa us) xb us z)) := V18.congr (fun z _ => by unfold own_up; split <;> rfl)
  have z18 : n0 ≤ h18.size := by rw [W18.size]; exact z15
  show own_W p e (FrameEnd s) below ({ frames := 0, cells := 0, slots := 0, locals := 0 } : Room).cells ({ frames := 0, cells := 0, slots := 0, locals := 0 } : Room).slots (Q4 Z ob p1 p2 p3 ae an ap us nn fE fN fP kk xa xb h0 n0) T18 (mkF m 102 #[.val (.ref ob), .val (.int p1), .val (.int p2), .val (.int p3)] [])
  refine own_aloadN X18 hx (hb hby d4_102) (v := (.ref ob)) rfl rfl (rfl : 102 + 1 = 103) ?_
  obtain ⟨T19, X19, e19, st19⟩ := getF X18 hx hZ hown (host := "") (Or.inl (hw _ (List.mem_of_getElem? (i := 28) rfl))) Via.refl e18 f18_F_ob_members (g := (mkF m 103 #[.val (.ref ob), .val (.int p1), .val (.int p2), .val (.int p3)] [(.ref ob)])) rfl rfl (hb hby d4_103)
  refine own_W.step st19 ?_
  show own_W p e (FrameEnd s) below ({ frames := 0, cells := 0, slots := 0, locals := 0 } : Room).cells ({ frames := 0, cells := 0, slots := 0, locals := 0 } : Room).slots (Q4 Z ob p1 p2 p3 ae an ap us nn fE fN fP kk xa xb h0 n0) T19 (mkF m 106 #[.val (.ref ob), .val (.int p1), .val (.int p2), .val (.int p3)] [.null])
  refine own_ifnullYes X19 hx (hb hby d4_106) (pc' := 118) (by decide) (by decide) ?_
  refine own_aloadN X19 hx (hb hby d4_118) (v := (.ref ob)) rfl rfl (rfl : 118 + 1 = 119) ?_
  refine own_dup X19 hx (hb hby d4_119) rfl (rfl : 119 + 1 = 120) ?_
  obtain ⟨T20, X20, e20, st20⟩ := getF X19 hx hZ hown (host := "") (Or.inl (hw _ (List.mem_of_getElem? (i := 26) rfl))) Via.refl e19 f18_F_ob_size (g := (mkF m 120 #[.val (.ref ob), .val (.int p1), .val (.int p2), .val (.int p3)] [(.ref ob), (.ref ob)])) rfl rfl (hb hby d4_120)
  refine own_W.step st20 ?_
  show own_W p e (FrameEnd s) below ({ frames := 0, cells := 0, slots := 0, locals := 0 } : Room).cells ({ frames := 0, cells := 0, slots := 0, locals := 0 } : Room).slots (Q4 Z ob p1 p2 p3 ae an ap us nn fE fN fP kk xa xb h0 n0) T20 (mkF m 123 #[.val (.ref ob), .val (.int p1), .val (.int p2), .val (.int p3)] [(.int us), (.ref ob)])
  refine own_iconst X20 hx (hb hby d4_123) (1 : Int32) (by first | rfl | decide) (rfl : 123 + 1 = 124) ?_
  refine own_iadd X20 hx (hb hby d4_124) (rfl : 124 + 1 = 125) ?_
  obtain ⟨T21, h21, X21, e21, W21, st21⟩ := putF X20 hx hZ hown (host := "") (Or.inl (hw _ (List.mem_of_getElem? (i := 26) rfl))) Via.refl e20 f18_F_ob_size f18_E_ob (Or.inl (hw _ (List.mem_of_getElem? (i := 27) rfl))) (hw _ (List.mem_of_getElem? (i := 2) rfl)) (ty := .int) (by decide) rfl rfl (g := (mkF m 125 #[.val (.ref ob), .val (.int p1), .val (.int p2), .val (.int p3)] [(.int (us + (1 : Int32))), (.ref ob)])) rfl rfl (hb hby d4_125)
  refine own_W.step st21 ?_
  have N21 := Fr.snoc X21 N18 g_ob
  have f21_E_ob : Exa Z h21 ob "com/example/handfast/handfast/algorithm/Matching" := f18_E_ob.wr W21
  have f21_F_ob_edges : Fld Z h21 ob "com/example/handfast/handfast/algorithm/Matching" "edges" "[I" (.ref ae) := f18_F_ob_edges.other W21 (Or.inr (slot_ne (Or.inl (hw _ (List.mem_of_getElem? (i := 12) rfl))) (Or.inl (hw _ (List.mem_of_getElem? (i := 27) rfl))) (by decide) (t := (.array .int)) (t' := .int) (by decide) (by decide)))
  have f21_F_ob_ends : Fld Z h21 ob "com/example/handfast/handfast/algorithm/Matching" "ends" "[I" (.ref an) := f18_F_ob_ends.other W21 (Or.inr (slot_ne (Or.inl (hw _ (List.mem_of_getElem? (i := 14) rfl))) (Or.inl (hw _ (List.mem_of_getElem? (i := 27) rfl))) (by decide) (t := (.array .int)) (t' := .int) (by decide) (by decide)))
  have f21_F_ob_placeAt : Fld Z h21 ob "com/example/handfast/handfast/algorithm/Matching" "placeAt" "[I" (.ref ap) := f18_F_ob_placeAt.other W21 (Or.inr (slot_ne (Or.inr (hw _ (List.mem_of_getElem? (i := 16) rfl))) (Or.inl (hw _ (List.mem_of_getElem? (i := 27) rfl))) (by decide) (t := (.array .int)) (t' := .int) (by decide) (by decide)))
  have f21_F_ob_members : Fld Z h21 ob "com/example/handfast/handfast/algorithm/Matching" "members" "Lcom/example/handfast/handfast/model/NumberSet;" .null := f18_F_ob_members.other W21 (Or.inr (slot_ne (Or.inl (hw _ (List.mem_of_getElem? (i := 29) rfl))) (Or.inl (hw _ (List.mem_of_getElem? (i := 27) rfl))) (by decide) (t := (.object "com/example/handfast/handfast/model/NumberSet")) (t' := .int) (by decide) (by decide)))
  have f21_A_ae : own_A Z h21 ae .int (16) (fun z => .int (own_up fE kk p1 z)) := f18_A_ae.other W21 (Ne.symm hne.1)
  have f21_A_an : own_A Z h21 an .int (32) (fun z => .int (own_up (own_up fN (2 * kk) p2) (2 * kk + 1) p3 z)) := f18_A_an.other W21 (Ne.symm hne.2.1)
  have f21_A_ap : own_A Z h21 ap .int (nn) (fun z => .int (own_up (own_up fP xa us) xb us z)) := U18.other W21 (Ne.symm hne.2.2.1)
  have f21_K : Keep h0 h21 [ob, ae, an, ap] := f18_K.wr W21 (Or.inl (by simp))
  have fw21 : Fld Z h21 ob "com/example/handfast/handfast/algorithm/Matching" "size" "I" (.int (us + (1 : Int32))) := f18_F_ob_size.same W21
  have z21 : n0 ≤ h21.size := by rw [W21.size]; exact z18
  show own_W p e (FrameEnd s) below ({ frames := 0, cells := 0, slots := 0, locals := 0 } : Room).cells ({ frames := 0, cells := 0, slots := 0, locals := 0 } : Room).slots (Q4 Z ob p1 p2 p3 ae an ap us nn fE fN fP kk xa xb h0 n0) T21 (mkF m 128 #[.val (.ref ob), .val (.int p1), .val (.int p2), .val (.int p3)] [])
  refine own_retV X21 hx hlk hret (hb hby d4_128) (by decide) (by decide) ?_
  show Q4 Z ob p1 p2 p3 ae an ap us nn fE fN fP kk xa xb h0 n0 none T21.heap _
  rw [e21]
  exact ⟨rfl, N21, f21_K, f21_E_ob, f21_F_ob_edges, f21_F_ob_ends, f21_F_ob_placeAt, fw21, f21_F_ob_members, f21_A_ae, f21_A_an, f21_A_ap⟩
theorem d6_0 : decode prog_15_method_3_code 0 = .ok (.aload_n 0, 1) := by decide +kernel
theorem d6_1 : decode prog_15_method_3_code 1 = .ok (.getfield 16, 3) := by decide +kernel
theorem d6_4 : decode prog_15_method_3_code 4 = .ok (.iload_n 1, 1) := by decide +kernel
theorem d6_5 : decode prog_15_method_3_code 5 = .ok (.iaload, 1) := by decide +kernel
theorem d6_6 : decode prog_15_method_3_code 6 = .ok (.iconst (-1), 1) := by decide +kernel
theorem d6_7 : decode prog_15_method_3_code 7 = .ok (.if_icmp .ne 7, 3) := by decide +kernel
theorem d6_10 : decode prog_15_method_3_code 10 = .ok (.iconst 1, 1) := by decide +kernel
theorem d6_11 : decode prog_15_method_3_code 11 = .ok (.goto 4, 3) := by decide +kernel
theorem d6_14 : decode prog_15_method_3_code 14 = .ok (.iconst 0, 1) := by decide +kernel
theorem d6_15 : decode prog_15_method_3_code 15 = .ok (.ireturn, 1) := by decide +kernel
theorem ef_6 (m : MethodId) (ob : Addr) (p1 : Int32) : entryFrame m #[(.ref ob), (.int p1)] 2 = mkF m 0 #[.val (.ref ob), .val (.int p1)] [] := by first | (simp [entryFrame, mkF, argsToLocals, Value.category]; done) | rfl
def Q6 (Z : State) (ob : Addr) (p1 : Int32) (ap : Addr) (nn : Nat) (fP : Nat → Int32) (xa : Nat) (h0 : Heap) (n0 : Nat) (v : Option Value) (h : Heap) (L : List Loc) : Prop := v = some (.int (own_free (fP xa))) ∧ Fr n0 L ∧ h = h0
set_option maxRecDepth 65536 in
set_option maxHeartbeats 40000000 in
theorem rm6 (l : Launch) (Z : State) (a0 : Array Value) (hw : ∀ d ∈ tables_1, d.before a0 Z = true) (ws : List Jvm.Cond) (ob : Addr) (p1 : Int32) (ap : Addr) (nn : Nat) (fP : Nat → Int32) (xa : Nat) (h0 : Heap) (n0 : Nat) (Z0 : n0 ≤ h0.size) (f_F_ob_placeAt : Fld Z h0 ob "com/example/handfast/handfast/algorithm/Matching" "placeAt" "[I" (.ref ap)) (f_A_ap : own_A Z h0 ap .int (nn) (fun z => .int (fP z))) (hxa : own_In p1 xa nn) :
    MetFree l (⟨"com/example/handfast/handfast/algorithm/Matching", "isFree", "(I)Z"⟩ : MethodName) (head1 (Jvm.Cond.code (⟨"com/example/handfast/handfast/algorithm/Matching", "isFree", "(I)Z"⟩ : MethodName) prog_15_method_3_code 2 (some .boolean) :: ws) ({ frames := 0, cells := 0, slots := 0, locals := 0 } : Room)) (fun avs U => avs = #[(.ref ob), (.int p1)] ∧ Z.Warmed39 U.vm ∧ U.heap = h0) (fun _ _ _ _ _ => True) (fun _ U o U' => ∃ v L, o = .returned v ∧ Q6 Z ob p1 ap nn fP xa h0 n0 v U'.heap L ∧ FrameEnd U o U' L ({ frames := 0, cells := 0, slots := 0, locals := 0 } : Room).cells ({ frames := 0, cells := 0, slots := 0, locals := 0 } : Room).slots) := by
  refine MetFree.of_bodySF (plainFor_of_name own_pn_com_example_handfast_handfast_algorithm_Matching) hisR ?_
  intro p e s m args below meth c s₁ Bd hml0 hP hK
  obtain ⟨rfl, hZ, hh⟩ := hP
  have hx := Bd.exec
  have hby := Bd.bytes
  have hml : c.maxLocals = 2 := hml0
  have hown : s.vm.findClass "com/example/handfast/handfast/algorithm/Matching" = some m.cls := findClass_of_methodNamed Bd.named
  have hnm := (name_of_methodNamed Bd.named Bd.method).1
  have hlk := Bd.notSynchronized
  have hret := Bd.returns
  have X0 : Stand p l e ({ frames := 0, cells := 0, slots := 0, locals := 0 } : Room) s m #[(.ref ob), (.int p1)] below meth c s₁ [] 0 0 := Stand.of_body Bd
  have e0 : s₁.heap = h0 := by rw [← hh, Bd.state]; rfl
  have N0 := Fr.nil n0
  show own_W p e (FrameEnd s) below ({ frames := 0, cells := 0, slots := 0, locals := 0 } : Room).cells ({ frames := 0, cells := 0, slots := 0, locals := 0 } : Room).slots (Q6 Z ob p1 ap nn fP xa h0 n0) s₁ (entryFrame m #[(.ref ob), (.int p1)] 2)
  rw [ef_6]
  refine own_aloadN X0 hx (hb hby d6_0) (v := (.ref ob)) rfl rfl (rfl : 0 + 1 = 1) ?_
  obtain ⟨T1, X1, e1, st1⟩ := getF X0 hx hZ hown (host := "") (Or.inl (hw _ (List.mem_of_getElem? (i := 15) rfl))) Via.refl e0 f_F_ob_placeAt (g := (mkF m 1 #[.val (.ref ob), .val (.int p1)] [(.ref ob)])) rfl rfl (hb hby d6_1)
  refine own_W.step st1 ?_
  show own_W p e (FrameEnd s) below ({ frames := 0, cells := 0, slots := 0, locals := 0 } : Room).cells ({ frames := 0, cells := 0, slots := 0, locals := 0 } : Room).slots (Q6 Z ob p1 ap nn fP xa h0 n0) T1 (mkF m 4 #[.val (.ref ob), .val (.int p1)] [(.ref ap)])
  refine own_iloadN X1 hx (hb hby d6_4) (v := p1) rfl (rfl : 4 + 1 = 5) ?_
  have hi2 : own_In p1 (xa) (nn) := hxa
  refine own_iaload X1 hx hZ e1 f_A_ap hi2 (v := (fP (xa))) rfl (g := (mkF m 5 #[.val (.ref ob), .val (.int p1)] [(.int p1), (.ref ap)])) rfl rfl (hb hby d6_5) ?_
  show own_W p e (FrameEnd s) below ({ frames := 0, cells := 0, slots := 0, locals := 0 } : Room).cells ({ frames := 0, cells := 0, slots := 0, locals := 0 } : Room).slots (Q6 Z ob p1 ap nn fP xa h0 n0) T1 (mkF m 6 #[.val (.ref ob), .val (.int p1)] [(.int (fP (xa)))])
  refine own_iconst X1 hx (hb hby d6_6) (-1 : Int32) (by first | rfl | decide) (rfl : 6 + 1 = 7) ?_
  by_cases hc7 : (fP (xa)) = (-1 : Int32)
  · skip
    refine own_icmpNo X1 hx (hb hby d6_7) (teq hc7).2 (rfl : 7 + 3 = 10) ?_
    refine own_iconst X1 hx (hb hby d6_10) (1 : Int32) (by first | rfl | decide) (rfl : 10 + 1 = 11) ?_
    refine own_goto X1 hx (hb hby d6_11) (pc' := 15) (by decide) (by decide) ?_
    refine own_retN (t := .boolean) X1 hx hlk hret (by simp) (hb hby d6_15) (z' := (1 : Int32)) (by decide) (by decide) (by decide) ?_
    show Q6 Z ob p1 ap nn fP xa h0 n0 (some (.int (1 : Int32))) T1.heap _
    rw [e1]
    exact ⟨by simp only [own_free, if_pos hc7], N0, rfl⟩
  · skip
    refine own_icmpYes X1 hx (hb hby d6_7) (feq hc7).2 (pc' := 14) (by decide) (by decide) ?_
    refine own_iconst X1 hx (hb hby d6_14) (0 : Int32) (by first | rfl | decide) (rfl : 14 + 1 = 15) ?_
    refine own_retN (t := .boolean) X1 hx hlk hret (by simp) (hb hby d6_15) (z' := (0 : Int32)) (by decide) (by decide) (by decide) ?_
    show Q6 Z ob p1 ap nn fP xa h0 n0 (some (.int (0 : Int32))) T1.heap _
    rw [e1]
    exact ⟨by simp only [own_free, if_neg hc7], N0, rfl⟩
theorem d5_0 : decode prog_15_method_9_code 0 = .ok (.aload_n 0, 1) := by decide +kernel
theorem d5_1 : decode prog_15_method_9_code 1 = .ok (.getfield 16, 3) := by decide +kernel
theorem d5_4 : decode prog_15_method_9_code 4 = .ok (.iload_n 1, 1) := by decide +kernel
theorem d5_5 : decode prog_15_method_9_code 5 = .ok (.iaload, 1) := by decide +kernel
theorem d5_6 : decode prog_15_method_9_code 6 = .ok (.istore_n 2, 1) := by decide +kernel
theorem d5_7 : decode prog_15_method_9_code 7 = .ok (.aload_n 0, 1) := by decide +kernel
theorem d5_8 : decode prog_15_method_9_code 8 = .ok (.getfield 16, 3) := by decide +kernel
theorem d5_11 : decode prog_15_method_9_code 11 = .ok (.aload_n 0, 1) := by decide +kernel
theorem d5_12 : decode prog_15_method_9_code 12 = .ok (.getfield 13, 3) := by decide +kernel
theorem d5_15 : decode prog_15_method_9_code 15 = .ok (.iconst 2, 1) := by decide +kernel
theorem d5_16 : decode prog_15_method_9_code 16 = .ok (.iload_n 2, 1) := by decide +kernel
theorem d5_17 : decode prog_15_method_9_code 17 = .ok (.imul, 1) := by decide +kernel
theorem d5_18 : decode prog_15_method_9_code 18 = .ok (.iaload, 1) := by decide +kernel
theorem d5_19 : decode prog_15_method_9_code 19 = .ok (.iconst (-1), 1) := by decide +kernel
theorem d5_20 : decode prog_15_method_9_code 20 = .ok (.iastore, 1) := by decide +kernel
theorem d5_21 : decode prog_15_method_9_code 21 = .ok (.aload_n 0, 1) := by decide +kernel
theorem d5_22 : decode prog_15_method_9_code 22 = .ok (.getfield 16, 3) := by decide +kernel
theorem d5_25 : decode prog_15_method_9_code 25 = .ok (.aload_n 0, 1) := by decide +kernel
theorem d5_26 : decode prog_15_method_9_code 26 = .ok (.getfield 13, 3) := by decide +kernel
theorem d5_29 : decode prog_15_method_9_code 29 = .ok (.iconst 2, 1) := by decide +kernel
theorem d5_30 : decode prog_15_method_9_code 30 = .ok (.iload_n 2, 1) := by decide +kernel
theorem d5_31 : decode prog_15_method_9_code 31 = .ok (.imul, 1) := by decide +kernel
theorem d5_32 : decode prog_15_method_9_code 32 = .ok (.iconst 1, 1) := by decide +kernel
theorem d5_33 : decode prog_15_method_9_code 33 = .ok (.iadd, 1) := by decide +kernel
theorem d5_34 : decode prog_15_method_9_code 34 = .ok (.iaload, 1) := by decide +kernel
theorem d5_35 : decode prog_15_method_9_code 35 = .ok (.iconst (-1), 1) := by decide +kernel
theorem d5_36 : decode prog_15_method_9_code 36 = .ok (.iastore, 1) := by decide +kernel
theorem d5_37 : decode prog_15_method_9_code 37 = .ok (.aload_n 0, 1) := by decide +kernel
theorem d5_38 : decode prog_15_method_9_code 38 = .ok (.getfield 33, 3) := by decide +kernel
theorem d5_41 : decode prog_15_method_9_code 41 = .ok (.ifnull 17, 3) := by decide +kernel
theorem d5_58 : decode prog_15_method_9_code 58 = .ok (.aload_n 0, 1) := by decide +kernel
theorem d5_59 : decode prog_15_method_9_code 59 = .ok (.dup, 1) := by decide +kernel
theorem d5_60 : decode prog_15_method_9_code 60 = .ok (.getfield 25, 3) := by decide +kernel
theorem d5_63 : decode prog_15_method_9_code 63 = .ok (.iconst 1, 1) := by decide +kernel
theorem d5_64 : decode prog_15_method_9_code 64 = .ok (.isub, 1) := by decide +kernel
theorem d5_65 : decode prog_15_method_9_code 65 = .ok (.putfield 25, 3) := by decide +kernel
theorem d5_68 : decode prog_15_method_9_code 68 = .ok (.iload_n 2, 1) := by decide +kernel
theorem d5_69 : decode prog_15_method_9_code 69 = .ok (.aload_n 0, 1) := by decide +kernel
theorem d5_70 : decode prog_15_method_9_code 70 = .ok (.getfield 25, 3) := by decide +kernel
theorem d5_73 : decode prog_15_method_9_code 73 = .ok (.if_icmp .ge 90, 3) := by decide +kernel
theorem d5_163 : decode prog_15_method_9_code 163 = .ok (.return_, 1) := by decide +kernel
theorem ef_5 (m : MethodId) (ob : Addr) (p1 : Int32) : entryFrame m #[(.ref ob), (.int p1)] 3 = mkF m 0 #[.val (.ref ob), .val (.int p1), .unset] [] := by first | (simp [entryFrame, mkF, argsToLocals, Value.category]; done) | rfl
def Q5l (Z : State) (ob : Addr) (p1 : Int32) (ae : Addr) (an : Addr) (ap : Addr) (us : Int32) (nn : Nat) (fE : Nat → Int32) (fN : Nat → Int32) (fP : Nat → Int32) (kk : Nat) (xa : Nat) (pz : Nat) (qz : Nat) (ya : Nat) (yb : Nat) (h0 : Heap) (n0 : Nat) (v : Option Value) (h : Heap) (L : List Loc) : Prop := v = none ∧ Fr n0 L ∧ Keep h0 h [ob, ae, an, ap] ∧ Exa Z h ob "com/example/handfast/handfast/algorithm/Matching" ∧ Fld Z h ob "com/example/handfast/handfast/algorithm/Matching" "edges" "[I" (.ref ae) ∧ Fld Z h ob "com/example/handfast/handfast/algorithm/Matching" "ends" "[I" (.ref an) ∧ Fld Z h ob "com/example/handfast/handfast/algorithm/Matching" "placeAt" "[I" (.ref ap) ∧ Fld Z h ob "com/example/handfast/handfast/algorithm/Matching" "size" "I" (.int (us - (1 : Int32))) ∧ Fld Z h ob "com/example/handfast/handfast/algorithm/Matching" "members" "Lcom/example/handfast/handfast/model/NumberSet;" .null ∧ own_A Z h ae .int (16) (fun z => .int (fE z)) ∧ own_A Z h an .int (32) (fun z => .int (fN z)) ∧ own_A Z h ap .int (nn) (fun z => .int (own_up (own_up fP ya (-1 : Int32)) yb (-1 : Int32) z))
set_option maxRecDepth 65536 in
set_option maxHeartbeats 40000000 in
theorem rm5l (l : Launch) (Z : State) (a0 : Array Value) (hw : ∀ d ∈ tables_1, d.before a0 Z = true) (ws : List Jvm.Cond) (ob : Addr) (p1 : Int32) (ae : Addr) (an : Addr) (ap : Addr) (us : Int32) (nn : Nat) (fE : Nat → Int32) (fN : Nat → Int32) (fP : Nat → Int32) (kk : Nat) (xa : Nat) (pz : Nat) (qz : Nat) (ya : Nat) (yb : Nat) (h0 : Heap) (n0 : Nat) (Z0 : n0 ≤ h0.size) (f_E_ob : Exa Z h0 ob "com/example/handfast/handfast/algorithm/Matching") (f_F_ob_edges : Fld Z h0 ob "com/example/handfast/handfast/algorithm/Matching" "edges" "[I" (.ref ae)) (f_F_ob_ends : Fld Z h0 ob "com/example/handfast/handfast/algorithm/Matching" "ends" "[I" (.ref an)) (f_F_ob_placeAt : Fld Z h0 ob "com/example/handfast/handfast/algorithm/Matching" "placeAt" "[I" (.ref ap)) (f_F_ob_size : Fld Z h0 ob "com/example/handfast/handfast/algorithm/Matching" "size" "I" (.int us)) (f_F_ob_members : Fld Z h0 ob "com/example/handfast/handfast/algorithm/Matching" "members" "Lcom/example/handfast/handfast/model/NumberSet;" .null) (f_A_ae : own_A Z h0 ae .int (16) (fun z => .int (fE z))) (f_A_an : own_A Z h0 an .int (32) (fun z => .int (fN z))) (f_A_ap : own_A Z h0 ap .int (nn) (fun z => .int (fP z))) (g_ob : n0 ≤ ob) (g_ae : n0 ≤ ae) (g_an : n0 ≤ an) (g_ap : n0 ≤ ap) (hne : own_ne4 ob ae an ap) (hxa : own_In p1 xa nn) (hpz : own_In (fP xa) pz 8) (hk : own_In us kk 9) (hya : own_In (fN (2 * pz)) ya nn) (hyb : own_In (fN (2 * pz + 1)) yb nn) (hqz : qz + 1 = kk) (hpq : pz = qz) :
    MetFree l (⟨"com/example/handfast/handfast/algorithm/Matching", "removeAt", "(I)V"⟩ : MethodName) (head1 (Jvm.Cond.code (⟨"com/example/handfast/handfast/algorithm/Matching", "removeAt", "(I)V"⟩ : MethodName) prog_15_method_9_code 3 none :: ws) ({ frames := 0, cells := 0, slots := 0, locals := 0 } : Room)) (fun avs U => avs = #[(.ref ob), (.int p1)] ∧ Z.Warmed39 U.vm ∧ U.heap = h0) (fun _ _ _ _ _ => True) (fun _ U o U' => ∃ v L, o = .returned v ∧ Q5l Z ob p1 ae an ap us nn fE fN fP kk xa pz qz ya yb h0 n0 v U'.heap L ∧ FrameEnd U o U' L ({ frames := 0, cells := 0, slots := 0, locals := 0 } : Room).cells ({ frames := 0, cells := 0, slots := 0, locals := 0 } : Room).slots) := by
  refine MetFree.of_bodySF (plainFor_of_name own_pn_com_example_handfast_handfast_algorithm_Matching) hisR ?_
  intro p e s m args below meth c s₁ Bd hml0 hP hK
  obtain ⟨rfl, hZ, hh⟩ := hP
  have hx := Bd.exec
  have hby := Bd.bytes
  have hml : c.maxLocals = 3 := hml0
  have hown : s.vm.findClass "com/example/handfast/handfast/algorithm/Matching" = some m.cls := findClass_of_methodNamed Bd.named
  have hnm := (name_of_methodNamed Bd.named Bd.method).1
  have hlk := Bd.notSynchronized
  have hret := Bd.returns
  have X0 : Stand p l e ({ frames := 0, cells := 0, slots := 0, locals := 0 } : Room) s m #[(.ref ob), (.int p1)] below meth c s₁ [] 0 0 := Stand.of_body Bd
  have e0 : s₁.heap = h0 := by rw [← hh, Bd.state]; rfl
  have N0 := Fr.nil n0
  show own_W p e (FrameEnd s) below ({ frames := 0, cells := 0, slots := 0, locals := 0 } : Room).cells ({ frames := 0, cells := 0, slots := 0, locals := 0 } : Room).slots (Q5l Z ob p1 ae an ap us nn fE fN fP kk xa pz qz ya yb h0 n0) s₁ (entryFrame m #[(.ref ob), (.int p1)] 3)
  rw [ef_5]
  have K0 : Keep h0 h0 [ob, ae, an, ap] := Keep.refl h0 _
  refine own_aloadN X0 hx (hb hby d5_0) (v := (.ref ob)) rfl rfl (rfl : 0 + 1 = 1) ?_
  obtain ⟨T1, X1, e1, st1⟩ := getF X0 hx hZ hown (host := "") (Or.inl (hw _ (List.mem_of_getElem? (i := 15) rfl))) Via.refl e0 f_F_ob_placeAt (g := (mkF m 1 #[.val (.ref ob), .val (.int p1), .unset] [(.ref ob)])) rfl rfl (hb hby d5_1)
  refine own_W.step st1 ?_
  show own_W p e (FrameEnd s) below ({ frames := 0, cells := 0, slots := 0, locals := 0 } : Room).cells ({ frames := 0, cells := 0, slots := 0, locals := 0 } : Room).slots (Q5l Z ob p1 ae an ap us nn fE fN fP kk xa pz qz ya yb h0 n0) T1 (mkF m 4 #[.val (.ref ob), .val (.int p1), .unset] [(.ref ap)])
  refine own_iloadN X1 hx (hb hby d5_4) (v := p1) rfl (rfl : 4 + 1 = 5) ?_
  have hi2 : own_In p1 (xa) (nn) := hxa
  refine own_iaload X1 hx hZ e1 f_A_ap hi2 (v := (fP (xa))) rfl (g := (mkF m 5 #[.val (.ref ob), .val (.int p1), .unset] [(.int p1), (.ref ap)])) rfl rfl (hb hby d5_5) ?_
  show own_W p e (FrameEnd s) below ({ frames := 0, cells := 0, slots := 0, locals := 0 } : Room).cells ({ frames := 0, cells := 0, slots := 0, locals := 0 } : Room).slots (Q5l Z ob p1 ae an ap us nn fE fN fP kk xa pz qz ya yb h0 n0) T1 (mkF m 6 #[.val (.ref ob), .val (.int p1), .unset] [(.int (fP (xa)))])
  refine own_istoreN X1 hx (hb hby d5_6) (l' := #[.val (.ref ob), .val (.int p1), .val (.int (fP (xa)))]) rfl (rfl : 6 + 1 = 7) ?_
  refine own_aloadN X1 hx (hb hby d5_7) (v := (.ref ob)) rfl rfl (rfl : 7 + 1 = 8) ?_
  obtain ⟨T3, X3, e3, st3⟩ := getF X1 hx hZ hown (host := "") (Or.inl (hw _ (List.mem_of_getElem? (i := 15) rfl))) Via.refl e1 f_F_ob_placeAt (g := (mkF m 8 #[.val (.ref ob), .val (.int p1), .val (.int (fP (xa)))] [(.ref ob)])) rfl rfl (hb hby d5_8)
  refine own_W.step st3 ?_
  show own_W p e (FrameEnd s) below ({ frames := 0, cells := 0, slots := 0, locals := 0 } : Room).cells ({ frames := 0, cells := 0, slots := 0, locals := 0 } : Room).slots (Q5l Z ob p1 ae an ap us nn fE fN fP kk xa pz qz ya yb h0 n0) T3 (mkF m 11 #[.val (.ref ob), .val (.int p1), .val (.int (fP (xa)))] [(.ref ap)])
  refine own_aloadN X3 hx (hb hby d5_11) (v := (.ref ob)) rfl rfl (rfl : 11 + 1 = 12) ?_
  obtain ⟨T4, X4, e4, st4⟩ := getF X3 hx hZ hown (host := "") (Or.inl (hw _ (List.mem_of_getElem? (i := 13) rfl))) Via.refl e3 f_F_ob_ends (g := (mkF m 12 #[.val (.ref ob), .val (.int p1), .val (.int (fP (xa)))] [(.ref ob), (.ref ap)])) rfl rfl (hb hby d5_12)
  refine own_W.step st4 ?_
  show own_W p e (FrameEnd s) below ({ frames := 0, cells := 0, slots := 0, locals := 0 } : Room).cells ({ frames := 0, cells := 0, slots := 0, locals := 0 } : Room).slots (Q5l Z ob p1 ae an ap us nn fE fN fP kk xa pz qz ya yb h0 n0) T4 (mkF m 15 #[.val (.ref ob), .val (.int p1), .val (.int (fP (xa)))] [(.ref an), (.ref ap)])
  refine own_iconst X4 hx (hb hby d5_15) (2 : Int32) (by first | rfl | decide) (rfl : 15 + 1 = 16) ?_
  refine own_iloadN X4 hx (hb hby d5_16) (v := (fP (xa))) rfl (rfl : 16 + 1 = 17) ?_
  refine own_imul X4 hx (hb hby d5_17) (rfl : 17 + 1 = 18) ?_
  have hi5 : own_In ((2 : Int32) * (fP (xa))) (2 * pz) (32) := own_I2 hpz (by decide) (by decide)
  refine own_iaload X4 hx hZ e4 f_A_an hi5 (v := (fN (2 * pz))) rfl (g := (mkF m 18 #[.val (.ref ob), .val (.int p1), .val (.int (fP (xa)))] [(.int ((2 : Int32) * (fP (xa)))), (.ref an), (.ref ap)])) rfl rfl (hb hby d5_18) ?_
  show own_W p e (FrameEnd s) below ({ frames := 0, cells := 0, slots := 0, locals := 0 } : Room).cells ({ frames := 0, cells := 0, slots := 0, locals := 0 } : Room).slots (Q5l Z ob p1 ae an ap us nn fE fN fP kk xa pz qz ya yb h0 n0) T4 (mkF m 19 #[.val (.ref ob), .val (.int p1), .val (.int (fP (xa)))] [(.int (fN (2 * pz))), (.ref ap)])
  refine own_iconst X4 hx (hb hby d5_19) (-1 : Int32) (by first | rfl | decide) (rfl : 19 + 1 = 20) ?_
  have hi6 : own_In (fN (2 * pz)) (ya) (nn) := hya
  obtain ⟨T6, h6, X6, e6, W6, V6, st6⟩ := own_stI X4 hx hZ e4 f_A_ap hi6 (g := (mkF m 20 #[.val (.ref ob), .val (.int p1), .val (.int (fP (xa)))] [(.int (-1 : Int32)), (.int (fN (2 * pz))), (.ref ap)])) rfl rfl (hb hby d5_20)
  refine own_W.step st6 ?_
  have N6 := Fr.snoc X6 N0 g_ap
  have f6_E_ob : Exa Z h6 ob "com/example/handfast/handfast/algorithm/Matching" := f_E_ob.wr W6
  have f6_F_ob_edges : Fld Z h6 ob "com/example/handfast/handfast/algorithm/Matching" "edges" "[I" (.ref ae) := f_F_ob_edges.other W6 (Or.inl hne.2.2.1)
  have f6_F_ob_ends : Fld Z h6 ob "com/example/handfast/handfast/algorithm/Matching" "ends" "[I" (.ref an) := f_F_ob_ends.other W6 (Or.inl hne.2.2.1)
  have f6_F_ob_placeAt : Fld Z h6 ob "com/example/handfast/handfast/algorithm/Matching" "placeAt" "[I" (.ref ap) := f_F_ob_placeAt.other W6 (Or.inl hne.2.2.1)
  have f6_F_ob_size : Fld Z h6 ob "com/example/handfast/handfast/algorithm/Matching" "size" "I" (.int us) := f_F_ob_size.other W6 (Or.inl hne.2.2.1)
  have f6_F_ob_members : Fld Z h6 ob "com/example/handfast/handfast/algorithm/Matching" "members" "Lcom/example/handfast/handfast/model/NumberSet;" .null := f_F_ob_members.other W6 (Or.inl hne.2.2.1)
  have f6_A_ae : own_A Z h6 ae .int (16) (fun z => .int (fE z)) := f_A_ae.other W6 hne.2.2.2.2.1
  have f6_A_an : own_A Z h6 an .int (32) (fun z => .int (fN z)) := f_A_an.other W6 hne.2.2.2.2.2
  have f6_K : Keep h0 h6 [ob, ae, an, ap] := K0.wr W6 (Or.inl (by simp))
  have U6 : own_A Z h6 ap .int (nn) (fun z => .int (own_up fP ya (-1 : Int32) z)) := V6.congr (fun z _ => by unfold own_up; split <;> rfl)
  have z6 : n0 ≤ h6.size := by rw [W6.size]; exact Z0
  show own_W p e (FrameEnd s) below ({ frames := 0, cells := 0, slots := 0, locals := 0 } : Room).cells ({ frames := 0, cells := 0, slots := 0, locals := 0 } : Room).slots (Q5l Z ob p1 ae an ap us nn fE fN fP kk xa pz qz ya yb h0 n0) T6 (mkF m 21 #[.val (.ref ob), .val (.int p1), .val (.int (fP (xa)))] [])
  refine own_aloadN X6 hx (hb hby d5_21) (v := (.ref ob)) rfl rfl (rfl : 21 + 1 = 22) ?_
  obtain ⟨T7, X7, e7, st7⟩ := getF X6 hx hZ hown (host := "") (Or.inl (hw _ (List.mem_of_getElem? (i := 15) rfl))) Via.refl e6 f6_F_ob_placeAt (g := (mkF m 22 #[.val (.ref ob), .val (.int p1), .val (.int (fP (xa)))] [(.ref ob)])) rfl rfl (hb hby d5_22)
  refine own_W.step st7 ?_
  show own_W p e (FrameEnd s) below ({ frames := 0, cells := 0, slots := 0, locals := 0 } : Room).cells ({ frames := 0, cells := 0, slots := 0, locals := 0 } : Room).slots (Q5l Z ob p1 ae an ap us nn fE fN fP kk xa pz qz ya yb h0 n0) T7 (mkF m 25 #[.val (.ref ob), .val (.int p1), .val (.int (fP (xa)))] [(.ref ap)])
  refine own_aloadN X7 hx (hb hby d5_25) (v := (.ref ob)) rfl rfl (rfl : 25 + 1 = 26) ?_
  obtain ⟨T8, X8, e8, st8⟩ := getF X7 hx hZ hown (host := "") (Or.inl (hw _ (List.mem_of_getElem? (i := 13) rfl))) Via.refl e7 f6_F_ob_ends (g := (mkF m 26 #[.val (.ref ob), .val (.int p1), .val (.int (fP (xa)))] [(.ref ob), (.ref ap)])) rfl rfl (hb hby d5_26)
  refine own_W.step st8 ?_
  show own_W p e (FrameEnd s) below ({ frames := 0, cells := 0, slots := 0, locals := 0 } : Room).cells ({ frames := 0, cells := 0, slots := 0, locals := 0 } : Room).slots (Q5l Z ob p1 ae an ap us nn fE fN fP kk xa pz qz ya yb h0 n0) T8 (mkF m 29 #[.val (.ref ob), .val (.int p1), .val (.int (fP (xa)))] [(.ref an), (.ref ap)])
  refine own_iconst X8 hx (hb hby d5_29) (2 : Int32) (by first | rfl | decide) (rfl : 29 + 1 = 30) ?_
  refine own_iloadN X8 hx (hb hby d5_30) (v := (fP (xa))) rfl (rfl : 30 + 1 = 31) ?_
  refine own_imul X8 hx (hb hby d5_31) (rfl : 31 + 1 = 32) ?_
  refine own_iconst X8 hx (hb hby d5_32) (1 : Int32) (by first | rfl | decide) (rfl : 32 + 1 = 33) ?_
  refine own_iadd X8 hx (hb hby d5_33) (rfl : 33 + 1 = 34) ?_
  have hi9 : own_In (((2 : Int32) * (fP (xa))) + (1 : Int32)) (2 * pz + 1) (32) := own_I21 hpz (by decide) (by decide)
  refine own_iaload X8 hx hZ e8 f6_A_an hi9 (v := (fN (2 * pz + 1))) rfl (g := (mkF m 34 #[.val (.ref ob), .val (.int p1), .val (.int (fP (xa)))] [(.int (((2 : Int32) * (fP (xa))) + (1 : Int32))), (.ref an), (.ref ap)])) rfl rfl (hb hby d5_34) ?_
  show own_W p e (FrameEnd s) below ({ frames := 0, cells := 0, slots := 0, locals := 0 } : Room).cells ({ frames := 0, cells := 0, slots := 0, locals := 0 } : Room).slots (Q5l Z ob p1 ae an ap us nn fE fN fP kk xa pz qz ya yb h0 n0) T8 (mkF m 35 #[.val (.ref ob), .val (.int p1), .val (.int (fP (xa)))] [(.int (fN (2 * pz + 1))), (.ref ap)])
  refine own_iconst X8 hx (hb hby d5_35) (-1 : Int32) (by first | rfl | decide) (rfl : 35 + 1 = 36) ?_
  have hi10 : own_In (fN (2 * pz + 1)) (yb) (nn) := hyb
  obtain ⟨T10, h10, X10, e10, W10, V10, st10⟩ := own_stI X8 hx hZ e8 U6 hi10 (g := (mkF m 36 #[.val (.ref ob), .val (.int p1), .val (.int (fP (xa)))] [(.int (-1 : Int32)), (.int (fN (2 * pz + 1))), (.ref ap)])) rfl rfl (hb hby d5_36)
  refine own_W.step st10 ?_
  have N10 := Fr.snoc X10 N6 g_ap
  have f10_E_ob : Exa Z h10 ob "com/example/handfast/handfast/algorithm/Matching" := f6_E_ob.wr W10
  have f10_F_ob_edges : Fld Z h10 ob "com/example/handfast/handfast/algorithm/Matching" "edges" "[I" (.ref ae) := f6_F_ob_edges.other W10 (Or.inl hne.2.2.1)
  have f10_F_ob_ends : Fld Z h10 ob "com/example/handfast/handfast/algorithm/Matching" "ends" "[I" (.ref an) := f6_F_ob_ends.other W10 (Or.inl hne.2.2.1)
  have f10_F_ob_placeAt : Fld Z h10 ob "com/example/handfast/handfast/algorithm/Matching" "placeAt" "[I" (.ref ap) := f6_F_ob_placeAt.other W10 (Or.inl hne.2.2.1)
  have f10_F_ob_size : Fld Z h10 ob "com/example/handfast/handfast/algorithm/Matching" "size" "I" (.int us) := f6_F_ob_size.other W10 (Or.inl hne.2.2.1)
  have f10_F_ob_members : Fld Z h10 ob "com/example/handfast/handfast/algorithm/Matching" "members" "Lcom/example/handfast/handfast/model/NumberSet;" .null := f6_F_ob_members.other W10 (Or.inl hne.2.2.1)
  have f10_A_ae : own_A Z h10 ae .int (16) (fun z => .int (fE z)) := f6_A_ae.other W10 hne.2.2.2.2.1
  have f10_A_an : own_A Z h10 an .int (32) (fun z => .int (fN z)) := f6_A_an.other W10 hne.2.2.2.2.2
  have f10_K : Keep h0 h10 [ob, ae, an, ap] := f6_K.wr W10 (Or.inl (by simp))
  have U10 : own_A Z h10 ap .int (nn) (fun z => .int (own_up (own_up fP ya (-1 : Int32)) yb (-1 : Int32) z)) := V10.congr (fun z _ => by unfold own_up; split <;> rfl)
  have z10 : n0 ≤ h10.size := by rw [W10.size]; exact z6
  show own_W p e (FrameEnd s) below ({ frames := 0, cells := 0, slots := 0, locals := 0 } : Room).cells ({ frames := 0, cells := 0, slots := 0, locals := 0 } : Room).slots (Q5l Z ob p1 ae an ap us nn fE fN fP kk xa pz qz ya yb h0 n0) T10 (mkF m 37 #[.val (.ref ob), .val (.int p1), .val (.int (fP (xa)))] [])
  refine own_aloadN X10 hx (hb hby d5_37) (v := (.ref ob)) rfl rfl (rfl : 37 + 1 = 38) ?_
  obtain ⟨T11, X11, e11, st11⟩ := getF X10 hx hZ hown (host := "") (Or.inl (hw _ (List.mem_of_getElem? (i := 28) rfl))) Via.refl e10 f10_F_ob_members (g := (mkF m 38 #[.val (.ref ob), .val (.int p1), .val (.int (fP (xa)))] [(.ref ob)])) rfl rfl (hb hby d5_38)
  refine own_W.step st11 ?_
  show own_W p e (FrameEnd s) below ({ frames := 0, cells := 0, slots := 0, locals := 0 } : Room).cells ({ frames := 0, cells := 0, slots := 0, locals := 0 } : Room).slots (Q5l Z ob p1 ae an ap us nn fE fN fP kk xa pz qz ya yb h0 n0) T11 (mkF m 41 #[.val (.ref ob), .val (.int p1), .val (.int (fP (xa)))] [.null])
  refine own_ifnullYes X11 hx (hb hby d5_41) (pc' := 58) (by decide) (by decide) ?_
  refine own_aloadN X11 hx (hb hby d5_58) (v := (.ref ob)) rfl rfl (rfl : 58 + 1 = 59) ?_
  refine own_dup X11 hx (hb hby d5_59) rfl (rfl : 59 + 1 = 60) ?_
  obtain ⟨T12, X12, e12, st12⟩ := getF X11 hx hZ hown (host := "") (Or.inl (hw _ (List.mem_of_getElem? (i := 26) rfl))) Via.refl e11 f10_F_ob_size (g := (mkF m 60 #[.val (.ref ob), .val (.int p1), .val (.int (fP (xa)))] [(.ref ob), (.ref ob)])) rfl rfl (hb hby d5_60)
  refine own_W.step st12 ?_
  show own_W p e (FrameEnd s) below ({ frames := 0, cells := 0, slots := 0, locals := 0 } : Room).cells ({ frames := 0, cells := 0, slots := 0, locals := 0 } : Room).slots (Q5l Z ob p1 ae an ap us nn fE fN fP kk xa pz qz ya yb h0 n0) T12 (mkF m 63 #[.val (.ref ob), .val (.int p1), .val (.int (fP (xa)))] [(.int us), (.ref ob)])
  refine own_iconst X12 hx (hb hby d5_63) (1 : Int32) (by first | rfl | decide) (rfl : 63 + 1 = 64) ?_
  refine own_isub X12 hx (hb hby d5_64) (rfl : 64 + 1 = 65) ?_
  obtain ⟨T13, h13, X13, e13, W13, st13⟩ := putF X12 hx hZ hown (host := "") (Or.inl (hw _ (List.mem_of_getElem? (i := 26) rfl))) Via.refl e12 f10_F_ob_size f10_E_ob (Or.inl (hw _ (List.mem_of_getElem? (i := 27) rfl))) (hw _ (List.mem_of_getElem? (i := 2) rfl)) (ty := .int) (by decide) rfl rfl (g := (mkF m 65 #[.val (.ref ob), .val (.int p1), .val (.int (fP (xa)))] [(.int (us - (1 : Int32))), (.ref ob)])) rfl rfl (hb hby d5_65)
  refine own_W.step st13 ?_
  have N13 := Fr.snoc X13 N10 g_ob
  have f13_E_ob : Exa Z h13 ob "com/example/handfast/handfast/algorithm/Matching" := f10_E_ob.wr W13
  have f13_F_ob_edges : Fld Z h13 ob "com/example/handfast/handfast/algorithm/Matching" "edges" "[I" (.ref ae) := f10_F_ob_edges.other W13 (Or.inr (slot_ne (Or.inl (hw _ (List.mem_of_getElem? (i := 12) rfl))) (Or.inl (hw _ (List.mem_of_getElem? (i := 27) rfl))) (by decide) (t := (.array .int)) (t' := .int) (by decide) (by decide)))
  have f13_F_ob_ends : Fld Z h13 ob "com/example/handfast/handfast/algorithm/Matching" "ends" "[I" (.ref an) := f10_F_ob_ends.other W13 (Or.inr (slot_ne (Or.inl (hw _ (List.mem_of_getElem? (i := 14) rfl))) (Or.inl (hw _ (List.mem_of_getElem? (i := 27) rfl))) (by decide) (t := (.array .int)) (t' := .int) (by decide) (by decide)))
  have f13_F_ob_placeAt : Fld Z h13 ob "com/example/handfast/handfast/algorithm/Matching" "placeAt" "[I" (.ref ap) := f10_F_ob_placeAt.other W13 (Or.inr (slot_ne (Or.inr (hw _ (List.mem_of_getElem? (i := 16) rfl))) (Or.inl (hw _ (List.mem_of_getElem? (i := 27) rfl))) (by decide) (t := (.array .int)) (t' := .int) (by decide) (by decide)))
  have f13_F_ob_members : Fld Z h13 ob "com/example/handfast/handfast/algorithm/Matching" "members" "Lcom/example/handfast/handfast/model/NumberSet;" .null := f10_F_ob_members.other W13 (Or.inr (slot_ne (Or.inl (hw _ (List.mem_of_getElem? (i := 29) rfl))) (Or.inl (hw _ (List.mem_of_getElem? (i := 27) rfl))) (by decide) (t := (.object "com/example/handfast/handfast/model/NumberSet")) (t' := .int) (by decide) (by decide)))
  have f13_A_ae : own_A Z h13 ae .int (16) (fun z => .int (fE z)) := f10_A_ae.other W13 (Ne.symm hne.1)
  have f13_A_an : own_A Z h13 an .int (32) (fun z => .int (fN z)) := f10_A_an.other W13 (Ne.symm hne.2.1)
  have f13_A_ap : own_A Z h13 ap .int (nn) (fun z => .int (own_up (own_up fP ya (-1 : Int32)) yb (-1 : Int32) z)) := U10.other W13 (Ne.symm hne.2.2.1)
  have f13_K : Keep h0 h13 [ob, ae, an, ap] := f10_K.wr W13 (Or.inl (by simp))
  have fw13 : Fld Z h13 ob "com/example/handfast/handfast/algorithm/Matching" "size" "I" (.int (us - (1 : Int32))) := f10_F_ob_size.same W13
  have z13 : n0 ≤ h13.size := by rw [W13.size]; exact z10
  show own_W p e (FrameEnd s) below ({ frames := 0, cells := 0, slots := 0, locals := 0 } : Room).cells ({ frames := 0, cells := 0, slots := 0, locals := 0 } : Room).slots (Q5l Z ob p1 ae an ap us nn fE fN fP kk xa pz qz ya yb h0 n0) T13 (mkF m 68 #[.val (.ref ob), .val (.int p1), .val (.int (fP (xa)))] [])
  refine own_iloadN X13 hx (hb hby d5_68) (v := (fP (xa))) rfl (rfl : 68 + 1 = 69) ?_
  refine own_aloadN X13 hx (hb hby d5_69) (v := (.ref ob)) rfl rfl (rfl : 69 + 1 = 70) ?_
  obtain ⟨T14, X14, e14, st14⟩ := getF X13 hx hZ hown (host := "") (Or.inl (hw _ (List.mem_of_getElem? (i := 26) rfl))) Via.refl e13 fw13 (g := (mkF m 70 #[.val (.ref ob), .val (.int p1), .val (.int (fP (xa)))] [(.ref ob), (.int (fP (xa)))])) rfl rfl (hb hby d5_70)
  refine own_W.step st14 ?_
  show own_W p e (FrameEnd s) below ({ frames := 0, cells := 0, slots := 0, locals := 0 } : Room).cells ({ frames := 0, cells := 0, slots := 0, locals := 0 } : Room).slots (Q5l Z ob p1 ae an ap us nn fE fN fP kk xa pz qz ya yb h0 n0) T14 (mkF m 73 #[.val (.ref ob), .val (.int p1), .val (.int (fP (xa)))] [(.int (us - (1 : Int32))), (.int (fP (xa)))])
  have hc73 : ¬ ((fP (xa)) < (us - (1 : Int32))) := by have z := hpz.1; have y := own_Id hk hqz (by decide) (Nat.le_refl _); rw [Int32.lt_iff_toInt_lt, z, y.1]; omega
  refine own_icmpYes X14 hx (hb hby d5_73) (flt hc73).2.1 (pc' := 163) (by decide) (by decide) ?_
  refine own_retV X14 hx hlk hret (hb hby d5_163) (by decide) (by decide) ?_
  show Q5l Z ob p1 ae an ap us nn fE fN fP kk xa pz qz ya yb h0 n0 none T14.heap _
  rw [e14]
  exact ⟨rfl, N13, f13_K, f13_E_ob, f13_F_ob_edges, f13_F_ob_ends, f13_F_ob_placeAt, fw13, f13_F_ob_members, f13_A_ae, f13_A_an, f13_A_ap⟩
theorem d5_76 : decode prog_15_method_9_code 76 = .ok (.aload_n 0, 1) := by decide +kernel
theorem d5_77 : decode prog_15_method_9_code 77 = .ok (.getfield 9, 3) := by decide +kernel
theorem d5_80 : decode prog_15_method_9_code 80 = .ok (.iload_n 2, 1) := by decide +kernel
theorem d5_81 : decode prog_15_method_9_code 81 = .ok (.aload_n 0, 1) := by decide +kernel
theorem d5_82 : decode prog_15_method_9_code 82 = .ok (.getfield 9, 3) := by decide +kernel
theorem d5_85 : decode prog_15_method_9_code 85 = .ok (.aload_n 0, 1) := by decide +kernel
theorem d5_86 : decode prog_15_method_9_code 86 = .ok (.getfield 25, 3) := by decide +kernel
theorem d5_89 : decode prog_15_method_9_code 89 = .ok (.iaload, 1) := by decide +kernel
theorem d5_90 : decode prog_15_method_9_code 90 = .ok (.iastore, 1) := by decide +kernel
theorem d5_91 : decode prog_15_method_9_code 91 = .ok (.aload_n 0, 1) := by decide +kernel
theorem d5_92 : decode prog_15_method_9_code 92 = .ok (.getfield 13, 3) := by decide +kernel
theorem d5_95 : decode prog_15_method_9_code 95 = .ok (.iconst 2, 1) := by decide +kernel
theorem d5_96 : decode prog_15_method_9_code 96 = .ok (.iload_n 2, 1) := by decide +kernel
theorem d5_97 : decode prog_15_method_9_code 97 = .ok (.imul, 1) := by decide +kernel
theorem d5_98 : decode prog_15_method_9_code 98 = .ok (.aload_n 0, 1) := by decide +kernel
theorem d5_99 : decode prog_15_method_9_code 99 = .ok (.getfield 13, 3) := by decide +kernel
theorem d5_102 : decode prog_15_method_9_code 102 = .ok (.iconst 2, 1) := by decide +kernel
theorem d5_103 : decode prog_15_method_9_code 103 = .ok (.aload_n 0, 1) := by decide +kernel
theorem d5_104 : decode prog_15_method_9_code 104 = .ok (.getfield 25, 3) := by decide +kernel
theorem d5_107 : decode prog_15_method_9_code 107 = .ok (.imul, 1) := by decide +kernel
theorem d5_108 : decode prog_15_method_9_code 108 = .ok (.iaload, 1) := by decide +kernel
theorem d5_109 : decode prog_15_method_9_code 109 = .ok (.iastore, 1) := by decide +kernel
theorem d5_110 : decode prog_15_method_9_code 110 = .ok (.aload_n 0, 1) := by decide +kernel
theorem d5_111 : decode prog_15_method_9_code 111 = .ok (.getfield 13, 3) := by decide +kernel
theorem d5_114 : decode prog_15_method_9_code 114 = .ok (.iconst 2, 1) := by decide +kernel
theorem d5_115 : decode prog_15_method_9_code 115 = .ok (.iload_n 2, 1) := by decide +kernel
theorem d5_116 : decode prog_15_method_9_code 116 = .ok (.imul, 1) := by decide +kernel
theorem d5_117 : decode prog_15_method_9_code 117 = .ok (.iconst 1, 1) := by decide +kernel
theorem d5_118 : decode prog_15_method_9_code 118 = .ok (.iadd, 1) := by decide +kernel
theorem d5_119 : decode prog_15_method_9_code 119 = .ok (.aload_n 0, 1) := by decide +kernel
theorem d5_120 : decode prog_15_method_9_code 120 = .ok (.getfield 13, 3) := by decide +kernel
theorem d5_123 : decode prog_15_method_9_code 123 = .ok (.iconst 2, 1) := by decide +kernel
theorem d5_124 : decode prog_15_method_9_code 124 = .ok (.aload_n 0, 1) := by decide +kernel
theorem d5_125 : decode prog_15_method_9_code 125 = .ok (.getfield 25, 3) := by decide +kernel
theorem d5_128 : decode prog_15_method_9_code 128 = .ok (.imul, 1) := by decide +kernel
theorem d5_129 : decode prog_15_method_9_code 129 = .ok (.iconst 1, 1) := by decide +kernel
theorem d5_130 : decode prog_15_method_9_code 130 = .ok (.iadd, 1) := by decide +kernel
theorem d5_131 : decode prog_15_method_9_code 131 = .ok (.iaload, 1) := by decide +kernel
theorem d5_132 : decode prog_15_method_9_code 132 = .ok (.iastore, 1) := by decide +kernel
theorem d5_133 : decode prog_15_method_9_code 133 = .ok (.aload_n 0, 1) := by decide +kernel
theorem d5_134 : decode prog_15_method_9_code 134 = .ok (.getfield 16, 3) := by decide +kernel
theorem d5_137 : decode prog_15_method_9_code 137 = .ok (.aload_n 0, 1) := by decide +kernel
theorem d5_138 : decode prog_15_method_9_code 138 = .ok (.getfield 13, 3) := by decide +kernel
theorem d5_141 : decode prog_15_method_9_code 141 = .ok (.iconst 2, 1) := by decide +kernel
theorem d5_142 : decode prog_15_method_9_code 142 = .ok (.iload_n 2, 1) := by decide +kernel
theorem d5_143 : decode prog_15_method_9_code 143 = .ok (.imul, 1) := by decide +kernel
theorem d5_144 : decode prog_15_method_9_code 144 = .ok (.iaload, 1) := by decide +kernel
theorem d5_145 : decode prog_15_method_9_code 145 = .ok (.iload_n 2, 1) := by decide +kernel
theorem d5_146 : decode prog_15_method_9_code 146 = .ok (.iastore, 1) := by decide +kernel
theorem d5_147 : decode prog_15_method_9_code 147 = .ok (.aload_n 0, 1) := by decide +kernel
theorem d5_148 : decode prog_15_method_9_code 148 = .ok (.getfield 16, 3) := by decide +kernel
theorem d5_151 : decode prog_15_method_9_code 151 = .ok (.aload_n 0, 1) := by decide +kernel
theorem d5_152 : decode prog_15_method_9_code 152 = .ok (.getfield 13, 3) := by decide +kernel
theorem d5_155 : decode prog_15_method_9_code 155 = .ok (.iconst 2, 1) := by decide +kernel
theorem d5_156 : decode prog_15_method_9_code 156 = .ok (.iload_n 2, 1) := by decide +kernel
theorem d5_157 : decode prog_15_method_9_code 157 = .ok (.imul, 1) := by decide +kernel
theorem d5_158 : decode prog_15_method_9_code 158 = .ok (.iconst 1, 1) := by decide +kernel
theorem d5_159 : decode prog_15_method_9_code 159 = .ok (.iadd, 1) := by decide +kernel
theorem d5_160 : decode prog_15_method_9_code 160 = .ok (.iaload, 1) := by decide +kernel
theorem d5_161 : decode prog_15_method_9_code 161 = .ok (.iload_n 2, 1) := by decide +kernel
theorem d5_162 : decode prog_15_method_9_code 162 = .ok (.iastore, 1) := by decide +kernel
def Q5m (Z : State) (ob : Addr) (p1 : Int32) (ae : Addr) (an : Addr) (ap : Addr) (us : Int32) (nn : Nat) (fE : Nat → Int32) (fN : Nat → Int32) (fP : Nat → Int32) (kk : Nat) (xa : Nat) (pz : Nat) (qz : Nat) (ya : Nat) (yb : Nat) (za : Nat) (zb : Nat) (h0 : Heap) (n0 : Nat) (v : Option Value) (h : Heap) (L : List Loc) : Prop := v = none ∧ Fr n0 L ∧ Keep h0 h [ob, ae, an, ap] ∧ Exa Z h ob "com/example/handfast/handfast/algorithm/Matching" ∧ Fld Z h ob "com/example/handfast/handfast/algorithm/Matching" "edges" "[I" (.ref ae) ∧ Fld Z h ob "com/example/handfast/handfast/algorithm/Matching" "ends" "[I" (.ref an) ∧ Fld Z h ob "com/example/handfast/handfast/algorithm/Matching" "placeAt" "[I" (.ref ap) ∧ Fld Z h ob "com/example/handfast/handfast/algorithm/Matching" "size" "I" (.int (us - (1 : Int32))) ∧ Fld Z h ob "com/example/handfast/handfast/algorithm/Matching" "members" "Lcom/example/handfast/handfast/model/NumberSet;" .null ∧ own_A Z h ae .int (16) (fun z => .int (own_up fE pz (fE qz) z)) ∧ own_A Z h an .int (32) (fun z => .int (own_up (own_up fN (2 * pz) (fN (2 * qz))) (2 * pz + 1) (fN (2 * qz + 1)) z)) ∧ own_A Z h ap .int (nn) (fun z => .int (own_up (own_up (own_up (own_up fP ya (-1 : Int32)) yb (-1 : Int32)) za (fP xa)) zb (fP xa) z))
set_option maxRecDepth 65536 in
set_option maxHeartbeats 40000000 in
theorem rm5m (l : Launch) (Z : State) (a0 : Array Value) (hw : ∀ d ∈ tables_1, d.before a0 Z = true) (ws : List Jvm.Cond) (ob : Addr) (p1 : Int32) (ae : Addr) (an : Addr) (ap : Addr) (us : Int32) (nn : Nat) (fE : Nat → Int32) (fN : Nat → Int32) (fP : Nat → Int32) (kk : Nat) (xa : Nat) (pz : Nat) (qz : Nat) (ya : Nat) (yb : Nat) (za : Nat) (zb : Nat) (h0 : Heap) (n0 : Nat) (Z0 : n0 ≤ h0.size) (f_E_ob : Exa Z h0 ob "com/example/handfast/handfast/algorithm/Matching") (f_F_ob_edges : Fld Z h0 ob "com/example/handfast/handfast/algorithm/Matching" "edges" "[I" (.ref ae)) (f_F_ob_ends : Fld Z h0 ob "com/example/handfast/handfast/algorithm/Matching" "ends" "[I" (.ref an)) (f_F_ob_placeAt : Fld Z h0 ob "com/example/handfast/handfast/algorithm/Matching" "placeAt" "[I" (.ref ap)) (f_F_ob_size : Fld Z h0 ob "com/example/handfast/handfast/algorithm/Matching" "size" "I" (.int us)) (f_F_ob_members : Fld Z h0 ob "com/example/handfast/handfast/algorithm/Matching" "members" "Lcom/example/handfast/handfast/model/NumberSet;" .null) (f_A_ae : own_A Z h0 ae .int (16) (fun z => .int (fE z))) (f_A_an : own_A Z h0 an .int (32) (fun z => .int (fN z))) (f_A_ap : own_A Z h0 ap .int (nn) (fun z => .int (fP z))) (g_ob : n0 ≤ ob) (g_ae : n0 ≤ ae) (g_an : n0 ≤ an) (g_ap : n0 ≤ ap) (hne : own_ne4 ob ae an ap) (hxa : own_In p1 xa nn) (hpz : own_In (fP xa) pz 8) (hk : own_In us kk 9) (hya : own_In (fN (2 * pz)) ya nn) (hyb : own_In (fN (2 * pz + 1)) yb nn) (hqz : qz + 1 = kk) (hpq : pz < qz) (hza : own_In (fN (2 * qz)) za nn) (hzb : own_In (fN (2 * qz + 1)) zb nn) :
    MetFree l (⟨"com/example/handfast/handfast/algorithm/Matching", "removeAt", "(I)V"⟩ : MethodName) (head1 (Jvm.Cond.code (⟨"com/example/handfast/handfast/algorithm/Matching", "removeAt", "(I)V"⟩ : MethodName) prog_15_method_9_code 3 none :: ws) ({ frames := 0, cells := 0, slots := 0, locals := 0 } : Room)) (fun avs U => avs = #[(.ref ob), (.int p1)] ∧ Z.Warmed39 U.vm ∧ U.heap = h0) (fun _ _ _ _ _ => True) (fun _ U o U' => ∃ v L, o = .returned v ∧ Q5m Z ob p1 ae an ap us nn fE fN fP kk xa pz qz ya yb za zb h0 n0 v U'.heap L ∧ FrameEnd U o U' L ({ frames := 0, cells := 0, slots := 0, locals := 0 } : Room).cells ({ frames := 0, cells := 0, slots := 0, locals := 0 } : Room).slots) := by
  refine MetFree.of_bodySF (plainFor_of_name own_pn_com_example_handfast_handfast_algorithm_Matching) hisR ?_
  intro p e s m args below meth c s₁ Bd hml0 hP hK
  obtain ⟨rfl, hZ, hh⟩ := hP
  have hx := Bd.exec
  have hby := Bd.bytes
  have hml : c.maxLocals = 3 := hml0
  have hown : s.vm.findClass "com/example/handfast/handfast/algorithm/Matching" = some m.cls := findClass_of_methodNamed Bd.named
  have hnm := (name_of_methodNamed Bd.named Bd.method).1
  have hlk := Bd.notSynchronized
  have hret := Bd.returns
  have X0 : Stand p l e ({ frames := 0, cells := 0, slots := 0, locals := 0 } : Room) s m #[(.ref ob), (.int p1)] below meth c s₁ [] 0 0 := Stand.of_body Bd
  have e0 : s₁.heap = h0 := by rw [← hh, Bd.state]; rfl
  have N0 := Fr.nil n0
  show own_W p e (FrameEnd s) below ({ frames := 0, cells := 0, slots := 0, locals := 0 } : Room).cells ({ frames := 0, cells := 0, slots := 0, locals := 0 } : Room).slots (Q5m Z ob p1 ae an ap us nn fE fN fP kk xa pz qz ya yb za zb h0 n0) s₁ (entryFrame m #[(.ref ob), (.int p1)] 3)
  rw [ef_5]
  have K0 : Keep h0 h0 [ob, ae, an, ap] := Keep.refl h0 _
  refine own_aloadN X0 hx (hb hby d5_0) (v := (.ref ob)) rfl rfl (rfl : 0 + 1 = 1) ?_
  obtain ⟨T1, X1, e1, st1⟩ := getF X0 hx hZ hown (host := "") (Or.inl (hw _ (List.mem_of_getElem? (i := 15) rfl))) Via.refl e0 f_F_ob_placeAt (g := (mkF m 1 #[.val (.ref ob), .val (.int p1), .unset] [(.ref ob)])) rfl rfl (hb hby d5_1)
  refine own_W.step st1 ?_
  show own_W p e (FrameEnd s) below ({ frames := 0, cells := 0, slots := 0, locals := 0 } : Room).cells ({ frames := 0, cells := 0, slots := 0, locals := 0 } : Room).slots (Q5m Z ob p1 ae an ap us nn fE fN fP kk xa pz qz ya yb za zb h0 n0) T1 (mkF m 4 #[.val (.ref ob), .val (.int p1), .unset] [(.ref ap)])
  refine own_iloadN X1 hx (hb hby d5_4) (v := p1) rfl (rfl : 4 + 1 = 5) ?_
  have hi2 : own_In p1 (xa) (nn) := hxa
  refine own_iaload X1 hx hZ e1 f_A_ap hi2 (v := (fP (xa))) rfl (g := (mkF m 5 #[.val (.ref ob), .val (.int p1), .unset] [(.int p1), (.ref ap)])) rfl rfl (hb hby d5_5) ?_
  show own_W p e (FrameEnd s) below ({ frames := 0, cells := 0, slots := 0, locals := 0 } : Room).cells ({ frames := 0, cells := 0, slots := 0, locals := 0 } : Room).slots (Q5m Z ob p1 ae an ap us nn fE fN fP kk xa pz qz ya yb za zb h0 n0) T1 (mkF m 6 #[.val (.ref ob), .val (.int p1), .unset] [(.int (fP (xa)))])
  refine own_istoreN X1 hx (hb hby d5_6) (l' := #[.val (.ref ob), .val (.int p1), .val (.int (fP (xa)))]) rfl (rfl : 6 + 1 = 7) ?_
  refine own_aloadN X1 hx (hb hby d5_7) (v := (.ref ob)) rfl rfl (rfl : 7 + 1 = 8) ?_
  obtain ⟨T3, X3, e3, st3⟩ := getF X1 hx hZ hown (host := "") (Or.inl (hw _ (List.mem_of_getElem? (i := 15) rfl))) Via.refl e1 f_F_ob_placeAt (g := (mkF m 8 #[.val (.ref ob), .val (.int p1), .val (.int (fP (xa)))] [(.ref ob)])) rfl rfl (hb hby d5_8)
  refine own_W.step st3 ?_
  show own_W p e (FrameEnd s) below ({ frames := 0, cells := 0, slots := 0, locals := 0 } : Room).cells ({ frames := 0, cells := 0, slots := 0, locals := 0 } : Room).slots (Q5m Z ob p1 ae an ap us nn fE fN fP kk xa pz qz ya yb za zb h0 n0) T3 (mkF m 11 #[.val (.ref ob), .val (.int p1), .val (.int (fP (xa)))] [(.ref ap)])
  refine own_aloadN X3 hx (hb hby d5_11) (v := (.ref ob)) rfl rfl (rfl : 11 + 1 = 12) ?_
  obtain ⟨T4, X4, e4, st4⟩ := getF X3 hx hZ hown (host := "") (Or.inl (hw _ (List.mem_of_getElem? (i := 13) rfl))) Via.refl e3 f_F_ob_ends (g := (mkF m 12 #[.val (.ref ob), .val (.int p1), .val (.int (fP (xa)))] [(.ref ob), (.ref ap)])) rfl rfl (hb hby d5_12)
  refine own_W.step st4 ?_
  show own_W p e (FrameEnd s) below ({ frames := 0, cells := 0, slots := 0, locals := 0 } : Room).cells ({ frames := 0, cells := 0, slots := 0, locals := 0 } : Room).slots (Q5m Z ob p1 ae an ap us nn fE fN fP kk xa pz qz ya yb za zb h0 n0) T4 (mkF m 15 #[.val (.ref ob), .val (.int p1), .val (.int (fP (xa)))] [(.ref an), (.ref ap)])
  refine own_iconst X4 hx (hb hby d5_15) (2 : Int32) (by first | rfl | decide) (rfl : 15 + 1 = 16) ?_
  refine own_iloadN X4 hx (hb hby d5_16) (v := (fP (xa))) rfl (rfl : 16 + 1 = 17) ?_
  refine own_imul X4 hx (hb hby d5_17) (rfl : 17 + 1 = 18) ?_
  have hi5 : own_In ((2 : Int32) * (fP (xa))) (2 * pz) (32) := own_I2 hpz (by decide) (by decide)
  refine own_iaload X4 hx hZ e4 f_A_an hi5 (v := (fN (2 * pz))) rfl (g := (mkF m 18 #[.val (.ref ob), .val (.int p1), .val (.int (fP (xa)))] [(.int ((2 : Int32) * (fP (xa)))), (.ref an), (.ref ap)])) rfl rfl (hb hby d5_18) ?_
  show own_W p e (FrameEnd s) below ({ frames := 0, cells := 0, slots := 0, locals := 0 } : Room).cells ({ frames := 0, cells := 0, slots := 0, locals := 0 } : Room).slots (Q5m Z ob p1 ae an ap us nn fE fN fP kk xa pz qz ya yb za zb h0 n0) T4 (mkF m 19 #[.val (.ref ob), .val (.int p1), .val (.int (fP (xa)))] [(.int (fN (2 * pz))), (.ref ap)])
  refine own_iconst X4 hx (hb hby d5_19) (-1 : Int32) (by first | rfl | decide) (rfl : 19 + 1 = 20) ?_
  have hi6 : own_In (fN (2 * pz)) (ya) (nn) := hya
  obtain ⟨T6, h6, X6, e6, W6, V6, st6⟩ := own_stI X4 hx hZ e4 f_A_ap hi6 (g := (mkF m 20 #[.val (.ref ob), .val (.int p1), .val (.int (fP (xa)))] [(.int (-1 : Int32)), (.int (fN (2 * pz))), (.ref ap)])) rfl rfl (hb hby d5_20)
  refine own_W.step st6 ?_
  have N6 := Fr.snoc X6 N0 g_ap
  have f6_E_ob : Exa Z h6 ob "com/example/handfast/handfast/algorithm/Matching" := f_E_ob.wr W6
  have f6_F_ob_edges : Fld Z h6 ob "com/example/handfast/handfast/algorithm/Matching" "edges" "[I" (.ref ae) := f_F_ob_edges.other W6 (Or.inl hne.2.2.1)
  have f6_F_ob_ends : Fld Z h6 ob "com/example/handfast/handfast/algorithm/Matching" "ends" "[I" (.ref an) := f_F_ob_ends.other W6 (Or.inl hne.2.2.1)
  have f6_F_ob_placeAt : Fld Z h6 ob "com/example/handfast/handfast/algorithm/Matching" "placeAt" "[I" (.ref ap) := f_F_ob_placeAt.other W6 (Or.inl hne.2.2.1)
  have f6_F_ob_size : Fld Z h6 ob "com/example/handfast/handfast/algorithm/Matching" "size" "I" (.int us) := f_F_ob_size.other W6 (Or.inl hne.2.2.1)
  have f6_F_ob_members : Fld Z h6 ob "com/example/handfast/handfast/algorithm/Matching" "members" "Lcom/example/handfast/handfast/model/NumberSet;" .null := f_F_ob_members.other W6 (Or.inl hne.2.2.1)
  have f6_A_ae : own_A Z h6 ae .int (16) (fun z => .int (fE z)) := f_A_ae.other W6 hne.2.2.2.2.1
  have f6_A_an : own_A Z h6 an .int (32) (fun z => .int (fN z)) := f_A_an.other W6 hne.2.2.2.2.2
  have f6_K : Keep h0 h6 [ob, ae, an, ap] := K0.wr W6 (Or.inl (by simp))
  have U6 : own_A Z h6 ap .int (nn) (fun z => .int (own_up fP ya (-1 : Int32) z)) := V6.congr (fun z _ => by unfold own_up; split <;> rfl)
  have z6 : n0 ≤ h6.size := by rw [W6.size]; exact Z0
  show own_W p e (FrameEnd s) below ({ frames := 0, cells := 0, slots := 0, locals := 0 } : Room).cells ({ frames := 0, cells := 0, slots := 0, locals := 0 } : Room).slots (Q5m Z ob p1 ae an ap us nn fE fN fP kk xa pz qz ya yb za zb h0 n0) T6 (mkF m 21 #[.val (.ref ob), .val (.int p1), .val (.int (fP (xa)))] [])
  refine own_aloadN X6 hx (hb hby d5_21) (v := (.ref ob)) rfl rfl (rfl : 21 + 1 = 22) ?_
  obtain ⟨T7, X7, e7, st7⟩ := getF X6 hx hZ hown (host := "") (Or.inl (hw _ (List.mem_of_getElem? (i := 15) rfl))) Via.refl e6 f6_F_ob_placeAt (g := (mkF m 22 #[.val (.ref ob), .val (.int p1), .val (.int (fP (xa)))] [(.ref ob)])) rfl rfl (hb hby d5_22)
  refine own_W.step st7 ?_
  show own_W p e (FrameEnd s) below ({ frames := 0, cells := 0, slots := 0, locals := 0 } : Room).cells ({ frames := 0, cells := 0, slots := 0, locals := 0 } : Room).slots (Q5m Z ob p1 ae an ap us nn fE fN fP kk xa pz qz ya yb za zb h0 n0) T7 (mkF m 25 #[.val (.ref ob), .val (.int p1), .val (.int (fP (xa)))] [(.ref ap)])
  refine own_aloadN X7 hx (hb hby d5_25) (v := (.ref ob)) rfl rfl (rfl : 25 + 1 = 26) ?_
  obtain ⟨T8, X8, e8, st8⟩ := getF X7 hx hZ hown (host := "") (Or.inl (hw _ (List.mem_of_getElem? (i := 13) rfl))) Via.refl e7 f6_F_ob_ends (g := (mkF m 26 #[.val (.ref ob), .val (.int p1), .val (.int (fP (xa)))] [(.ref ob), (.ref ap)])) rfl rfl (hb hby d5_26)
  refine own_W.step st8 ?_
  show own_W p e (FrameEnd s) below ({ frames := 0, cells := 0, slots := 0, locals := 0 } : Room).cells ({ frames := 0, cells := 0, slots := 0, locals := 0 } : Room).slots (Q5m Z ob p1 ae an ap us nn fE fN fP kk xa pz qz ya yb za zb h0 n0) T8 (mkF m 29 #[.val (.ref ob), .val (.int p1), .val (.int (fP (xa)))] [(.ref an), (.ref ap)])
  refine own_iconst X8 hx (hb hby d5_29) (2 : Int32) (by first | rfl | decide) (rfl : 29 + 1 = 30) ?_
  refine own_iloadN X8 hx (hb hby d5_30) (v := (fP (xa))) rfl (rfl : 30 + 1 = 31) ?_
  refine own_imul X8 hx (hb hby d5_31) (rfl : 31 + 1 = 32) ?_
  refine own_iconst X8 hx (hb hby d5_32) (1 : Int32) (by first | rfl | decide) (rfl : 32 + 1 = 33) ?_
  refine own_iadd X8 hx (hb hby d5_33) (rfl : 33 + 1 = 34) ?_
  have hi9 : own_In (((2 : Int32) * (fP (xa))) + (1 : Int32)) (2 * pz + 1) (32) := own_I21 hpz (by decide) (by decide)
  refine own_iaload X8 hx hZ e8 f6_A_an hi9 (v := (fN (2 * pz + 1))) rfl (g := (mkF m 34 #[.val (.ref ob), .val (.int p1), .val (.int (fP (xa)))] [(.int (((2 : Int32) * (fP (xa))) + (1 : Int32))), (.ref an), (.ref ap)])) rfl rfl (hb hby d5_34) ?_
  show own_W p e (FrameEnd s) below ({ frames := 0, cells := 0, slots := 0, locals := 0 } : Room).cells ({ frames := 0, cells := 0, slots := 0, locals := 0 } : Room).slots (Q5m Z ob p1 ae an ap us nn fE fN fP kk xa pz qz ya yb za zb h0 n0) T8 (mkF m 35 #[.val (.ref ob), .val (.int p1), .val (.int (fP (xa)))] [(.int (fN (2 * pz + 1))), (.ref ap)])
  refine own_iconst X8 hx (hb hby d5_35) (-1 : Int32) (by first | rfl | decide) (rfl : 35 + 1 = 36) ?_
  have hi10 : own_In (fN (2 * pz + 1)) (yb) (nn) := hyb
  obtain ⟨T10, h10, X10, e10, W10, V10, st10⟩ := own_stI X8 hx hZ e8 U6 hi10 (g := (mkF m 36 #[.val (.ref ob), .val (.int p1), .val (.int (fP (xa)))] [(.int (-1 : Int32)), (.int (fN (2 * pz + 1))), (.ref ap)])) rfl rfl (hb hby d5_36)
  refine own_W.step st10 ?_
  have N10 := Fr.snoc X10 N6 g_ap
  have f10_E_ob : Exa Z h10 ob "com/example/handfast/handfast/algorithm/Matching" := f6_E_ob.wr W10
  have f10_F_ob_edges : Fld Z h10 ob "com/example/handfast/handfast/algorithm/Matching" "edges" "[I" (.ref ae) := f6_F_ob_edges.other W10 (Or.inl hne.2.2.1)
  have f10_F_ob_ends : Fld Z h10 ob "com/example/handfast/handfast/algorithm/Matching" "ends" "[I" (.ref an) := f6_F_ob_ends.other W10 (Or.inl hne.2.2.1)
  have f10_F_ob_placeAt : Fld Z h10 ob "com/example/handfast/handfast/algorithm/Matching" "placeAt" "[I" (.ref ap) := f6_F_ob_placeAt.other W10 (Or.inl hne.2.2.1)
  have f10_F_ob_size : Fld Z h10 ob "com/example/handfast/handfast/algorithm/Matching" "size" "I" (.int us) := f6_F_ob_size.other W10 (Or.inl hne.2.2.1)
  have f10_F_ob_members : Fld Z h10 ob "com/example/handfast/handfast/algorithm/Matching" "members" "Lcom/example/handfast/handfast/model/NumberSet;" .null := f6_F_ob_members.other W10 (Or.inl hne.2.2.1)
  have f10_A_ae : own_A Z h10 ae .int (16) (fun z => .int (fE z)) := f6_A_ae.other W10 hne.2.2.2.2.1
  have f10_A_an : own_A Z h10 an .int (32) (fun z => .int (fN z)) := f6_A_an.other W10 hne.2.2.2.2.2
  have f10_K : Keep h0 h10 [ob, ae, an, ap] := f6_K.wr W10 (Or.inl (by simp))
  have U10 : own_A Z h10 ap .int (nn) (fun z => .int (own_up (own_up fP ya (-1 : Int32)) yb (-1 : Int32) z)) := V10.congr (fun z _ => by unfold own_up; split <;> rfl)
  have z10 : n0 ≤ h10.size := by rw [W10.size]; exact z6
  show own_W p e (FrameEnd s) below ({ frames := 0, cells := 0, slots := 0, locals := 0 } : Room).cells ({ frames := 0, cells := 0, slots := 0, locals := 0 } : Room).slots (Q5m Z ob p1 ae an ap us nn fE fN fP kk xa pz qz ya yb za zb h0 n0) T10 (mkF m 37 #[.val (.ref ob), .val (.int p1), .val (.int (fP (xa)))] [])
  refine own_aloadN X10 hx (hb hby d5_37) (v := (.ref ob)) rfl rfl (rfl : 37 + 1 = 38) ?_
  obtain ⟨T11, X11, e11, st11⟩ := getF X10 hx hZ hown (host := "") (Or.inl (hw _ (List.mem_of_getElem? (i := 28) rfl))) Via.refl e10 f10_F_ob_members (g := (mkF m 38 #[.val (.ref ob), .val (.int p1), .val (.int (fP (xa)))] [(.ref ob)])) rfl rfl (hb hby d5_38)
  refine own_W.step st11 ?_
  show own_W p e (FrameEnd s) below ({ frames := 0, cells := 0, slots := 0, locals := 0 } : Room).cells ({ frames := 0, cells := 0, slots := 0, locals := 0 } : Room).slots (Q5m Z ob p1 ae an ap us nn fE fN fP kk xa pz qz ya yb za zb h0 n0) T11 (mkF m 41 #[.val (.ref ob), .val (.int p1), .val (.int (fP (xa)))] [.null])
  refine own_ifnullYes X11 hx (hb hby d5_41) (pc' := 58) (by decide) (by decide) ?_
  refine own_aloadN X11 hx (hb hby d5_58) (v := (.ref ob)) rfl rfl (rfl : 58 + 1 = 59) ?_
  refine own_dup X11 hx (hb hby d5_59) rfl (rfl : 59 + 1 = 60) ?_
  obtain ⟨T12, X12, e12, st12⟩ := getF X11 hx hZ hown (host := "") (Or.inl (hw _ (List.mem_of_getElem? (i := 26) rfl))) Via.refl e11 f10_F_ob_size (g := (mkF m 60 #[.val (.ref ob), .val (.int p1), .val (.int (fP (xa)))] [(.ref ob), (.ref ob)])) rfl rfl (hb hby d5_60)
  refine own_W.step st12 ?_
  show own_W p e (FrameEnd s) below ({ frames := 0, cells := 0, slots := 0, locals := 0 } : Room).cells ({ frames := 0, cells := 0, slots := 0, locals := 0 } : Room).slots (Q5m Z ob p1 ae an ap us nn fE fN fP kk xa pz qz ya yb za zb h0 n0) T12 (mkF m 63 #[.val (.ref ob), .val (.int p1), .val (.int (fP (xa)))] [(.int us), (.ref ob)])
  refine own_iconst X12 hx (hb hby d5_63) (1 : Int32) (by first | rfl | decide) (rfl : 63 + 1 = 64) ?_
  refine own_isub X12 hx (hb hby d5_64) (rfl : 64 + 1 = 65) ?_
  obtain ⟨T13, h13, X13, e13, W13, st13⟩ := putF X12 hx hZ hown (host := "") (Or.inl (hw _ (List.mem_of_getElem? (i := 26) rfl))) Via.refl e12 f10_F_ob_size f10_E_ob (Or.inl (hw _ (List.mem_of_getElem? (i := 27) rfl))) (hw _ (List.mem_of_getElem? (i := 2) rfl)) (ty := .int) (by decide) rfl rfl (g := (mkF m 65 #[.val (.ref ob), .val (.int p1), .val (.int (fP (xa)))] [(.int (us - (1 : Int32))), (.ref ob)])) rfl rfl (hb hby d5_65)
  refine own_W.step st13 ?_
  have N13 := Fr.snoc X13 N10 g_ob
  have f13_E_ob : Exa Z h13 ob "com/example/handfast/handfast/algorithm/Matching" := f10_E_ob.wr W13
  have f13_F_ob_edges : Fld Z h13 ob "com/example/handfast/handfast/algorithm/Matching" "edges" "[I" (.ref ae) := f10_F_ob_edges.other W13 (Or.inr (slot_ne (Or.inl (hw _ (List.mem_of_getElem? (i := 12) rfl))) (Or.inl (hw _ (List.mem_of_getElem? (i := 27) rfl))) (by decide) (t := (.array .int)) (t' := .int) (by decide) (by decide)))
  have f13_F_ob_ends : Fld Z h13 ob "com/example/handfast/handfast/algorithm/Matching" "ends" "[I" (.ref an) := f10_F_ob_ends.other W13 (Or.inr (slot_ne (Or.inl (hw _ (List.mem_of_getElem? (i := 14) rfl))) (Or.inl (hw _ (List.mem_of_getElem? (i := 27) rfl))) (by decide) (t := (.array .int)) (t' := .int) (by decide) (by decide)))
  have f13_F_ob_placeAt : Fld Z h13 ob "com/example/handfast/handfast/algorithm/Matching" "placeAt" "[I" (.ref ap) := f10_F_ob_placeAt.other W13 (Or.inr (slot_ne (Or.inr (hw _ (List.mem_of_getElem? (i := 16) rfl))) (Or.inl (hw _ (List.mem_of_getElem? (i := 27) rfl))) (by decide) (t := (.array .int)) (t' := .int) (by decide) (by decide)))
  have f13_F_ob_members : Fld Z h13 ob "com/example/handfast/handfast/algorithm/Matching" "members" "Lcom/example/handfast/handfast/model/NumberSet;" .null := f10_F_ob_members.other W13 (Or.inr (slot_ne (Or.inl (hw _ (List.mem_of_getElem? (i := 29) rfl))) (Or.inl (hw _ (List.mem_of_getElem? (i := 27) rfl))) (by decide) (t := (.object "com/example/handfast/handfast/model/NumberSet")) (t' := .int) (by decide) (by decide)))
  have f13_A_ae : own_A Z h13 ae .int (16) (fun z => .int (fE z)) := f10_A_ae.other W13 (Ne.symm hne.1)
  have f13_A_an : own_A Z h13 an .int (32) (fun z => .int (fN z)) := f10_A_an.other W13 (Ne.symm hne.2.1)
  have f13_A_ap : own_A Z h13 ap .int (nn) (fun z => .int (own_up (own_up fP ya (-1 : Int32)) yb (-1 : Int32) z)) := U10.other W13 (Ne.symm hne.2.2.1)
  have f13_K : Keep h0 h13 [ob, ae, an, ap] := f10_K.wr W13 (Or.inl (by simp))
  have fw13 : Fld Z h13 ob "com/example/handfast/handfast/algorithm/Matching" "size" "I" (.int (us - (1 : Int32))) := f10_F_ob_size.same W13
  have z13 : n0 ≤ h13.size := by rw [W13.size]; exact z10
  show own_W p e (FrameEnd s) below ({ frames := 0, cells := 0, slots := 0, locals := 0 } : Room).cells ({ frames := 0, cells := 0, slots := 0, locals := 0 } : Room).slots (Q5m Z ob p1 ae an ap us nn fE fN fP kk xa pz qz ya yb za zb h0 n0) T13 (mkF m 68 #[.val (.ref ob), .val (.int p1), .val (.int (fP (xa)))] [])
  refine own_iloadN X13 hx (hb hby d5_68) (v := (fP (xa))) rfl (rfl : 68 + 1 = 69) ?_
  refine own_aloadN X13 hx (hb hby d5_69) (v := (.ref ob)) rfl rfl (rfl : 69 + 1 = 70) ?_
  obtain ⟨T14, X14, e14, st14⟩ := getF X13 hx hZ hown (host := "") (Or.inl (hw _ (List.mem_of_getElem? (i := 26) rfl))) Via.refl e13 fw13 (g := (mkF m 70 #[.val (.ref ob), .val (.int p1), .val (.int (fP (xa)))] [(.ref ob), (.int (fP (xa)))])) rfl rfl (hb hby d5_70)
  refine own_W.step st14 ?_
  show own_W p e (FrameEnd s) below ({ frames := 0, cells := 0, slots := 0, locals := 0 } : Room).cells ({ frames := 0, cells := 0, slots := 0, locals := 0 } : Room).slots (Q5m Z ob p1 ae an ap us nn fE fN fP kk xa pz qz ya yb za zb h0 n0) T14 (mkF m 73 #[.val (.ref ob), .val (.int p1), .val (.int (fP (xa)))] [(.int (us - (1 : Int32))), (.int (fP (xa)))])
  have hc73 : (fP (xa)) < (us - (1 : Int32)) := by have z := hpz.1; have y := own_Id hk hqz (by decide) (Nat.le_refl _); rw [Int32.lt_iff_toInt_lt, z, y.1]; omega
  refine own_icmpNo X14 hx (hb hby d5_73) (tlt hc73).2.1 (rfl : 73 + 3 = 76) ?_
  refine own_aloadN X14 hx (hb hby d5_76) (v := (.ref ob)) rfl rfl (rfl : 76 + 1 = 77) ?_
  obtain ⟨T15, X15, e15, st15⟩ := getF X14 hx hZ hown (host := "") (Or.inl (hw _ (List.mem_of_getElem? (i := 11) rfl))) Via.refl e14 f13_F_ob_edges (g := (mkF m 77 #[.val (.ref ob), .val (.int p1), .val (.int (fP (xa)))] [(.ref ob)])) rfl rfl (hb hby d5_77)
  refine own_W.step st15 ?_
  show own_W p e (FrameEnd s) below ({ frames := 0, cells := 0, slots := 0, locals := 0 } : Room).cells ({ frames := 0, cells := 0, slots := 0, locals := 0 } : Room).slots (Q5m Z ob p1 ae an ap us nn fE fN fP kk xa pz qz ya yb za zb h0 n0) T15 (mkF m 80 #[.val (.ref ob), .val (.int p1), .val (.int (fP (xa)))] [(.ref ae)])
  refine own_iloadN X15 hx (hb hby d5_80) (v := (fP (xa))) rfl (rfl : 80 + 1 = 81) ?_
  refine own_aloadN X15 hx (hb hby d5_81) (v := (.ref ob)) rfl rfl (rfl : 81 + 1 = 82) ?_
  obtain ⟨T16, X16, e16, st16⟩ := getF X15 hx hZ hown (host := "") (Or.inl (hw _ (List.mem_of_getElem? (i := 11) rfl))) Via.refl e15 f13_F_ob_edges (g := (mkF m 82 #[.val (.ref ob), .val (.int p1), .val (.int (fP (xa)))] [(.ref ob), (.int (fP (xa))), (.ref ae)])) rfl rfl (hb hby d5_82)
  refine own_W.step st16 ?_
  show own_W p e (FrameEnd s) below ({ frames := 0, cells := 0, slots := 0, locals := 0 } : Room).cells ({ frames := 0, cells := 0, slots := 0, locals := 0 } : Room).slots (Q5m Z ob p1 ae an ap us nn fE fN fP kk xa pz qz ya yb za zb h0 n0) T16 (mkF m 85 #[.val (.ref ob), .val (.int p1), .val (.int (fP (xa)))] [(.ref ae), (.int (fP (xa))), (.ref ae)])
  refine own_aloadN X16 hx (hb hby d5_85) (v := (.ref ob)) rfl rfl (rfl : 85 + 1 = 86) ?_
  obtain ⟨T17, X17, e17, st17⟩ := getF X16 hx hZ hown (host := "") (Or.inl (hw _ (List.mem_of_getElem? (i := 26) rfl))) Via.refl e16 fw13 (g := (mkF m 86 #[.val (.ref ob), .val (.int p1), .val (.int (fP (xa)))] [(.ref ob), (.ref ae), (.int (fP (xa))), (.ref ae)])) rfl rfl (hb hby d5_86)
  refine own_W.step st17 ?_
  show own_W p e (FrameEnd s) below ({ frames := 0, cells := 0, slots := 0, locals := 0 } : Room).cells ({ frames := 0, cells := 0, slots := 0, locals := 0 } : Room).slots (Q5m Z ob p1 ae an ap us nn fE fN fP kk xa pz qz ya yb za zb h0 n0) T17 (mkF m 89 #[.val (.ref ob), .val (.int p1), .val (.int (fP (xa)))] [(.int (us - (1 : Int32))), (.ref ae), (.int (fP (xa))), (.ref ae)])
  have hi18 : own_In (us - (1 : Int32)) (qz) (16) := own_Id hk hqz (by decide) (by decide)
  refine own_iaload X17 hx hZ e17 f13_A_ae hi18 (v := (fE (qz))) rfl (g := (mkF m 89 #[.val (.ref ob), .val (.int p1), .val (.int (fP (xa)))] [(.int (us - (1 : Int32))), (.ref ae), (.int (fP (xa))), (.ref ae)])) rfl rfl (hb hby d5_89) ?_
  show own_W p e (FrameEnd s) below ({ frames := 0, cells := 0, slots := 0, locals := 0 } : Room).cells ({ frames := 0, cells := 0, slots := 0, locals := 0 } : Room).slots (Q5m Z ob p1 ae an ap us nn fE fN fP kk xa pz qz ya yb za zb h0 n0) T17 (mkF m 90 #[.val (.ref ob), .val (.int p1), .val (.int (fP (xa)))] [(.int (fE (qz))), (.int (fP (xa))), (.ref ae)])
  have hi19 : own_In (fP (xa)) (pz) (16) := own_Iw hpz (by decide)
  obtain ⟨T19, h19, X19, e19, W19, V19, st19⟩ := own_stI X17 hx hZ e17 f13_A_ae hi19 (g := (mkF m 90 #[.val (.ref ob), .val (.int p1), .val (.int (fP (xa)))] [(.int (fE (qz))), (.int (fP (xa))), (.ref ae)])) rfl rfl (hb hby d5_90)
  refine own_W.step st19 ?_
  have N19 := Fr.snoc X19 N13 g_ae
  have f19_E_ob : Exa Z h19 ob "com/example/handfast/handfast/algorithm/Matching" := f13_E_ob.wr W19
  have f19_F_ob_edges : Fld Z h19 ob "com/example/handfast/handfast/algorithm/Matching" "edges" "[I" (.ref ae) := f13_F_ob_edges.other W19 (Or.inl hne.1)
  have f19_F_ob_ends : Fld Z h19 ob "com/example/handfast/handfast/algorithm/Matching" "ends" "[I" (.ref an) := f13_F_ob_ends.other W19 (Or.inl hne.1)
  have f19_F_ob_placeAt : Fld Z h19 ob "com/example/handfast/handfast/algorithm/Matching" "placeAt" "[I" (.ref ap) := f13_F_ob_placeAt.other W19 (Or.inl hne.1)
  have f19_F_ob_size : Fld Z h19 ob "com/example/handfast/handfast/algorithm/Matching" "size" "I" (.int (us - (1 : Int32))) := fw13.other W19 (Or.inl hne.1)
  have f19_F_ob_members : Fld Z h19 ob "com/example/handfast/handfast/algorithm/Matching" "members" "Lcom/example/handfast/handfast/model/NumberSet;" .null := f13_F_ob_members.other W19 (Or.inl hne.1)
  have f19_A_an : own_A Z h19 an .int (32) (fun z => .int (fN z)) := f13_A_an.other W19 (Ne.symm hne.2.2.2.1)
  have f19_A_ap : own_A Z h19 ap .int (nn) (fun z => .int (own_up (own_up fP ya (-1 : Int32)) yb (-1 : Int32) z)) := f13_A_ap.other W19 (Ne.symm hne.2.2.2.2.1)
  have f19_K : Keep h0 h19 [ob, ae, an, ap] := f13_K.wr W19 (Or.inl (by simp))
  have U19 : own_A Z h19 ae .int (16) (fun z => .int (own_up fE pz (fE (qz)) z)) := V19.congr (fun z _ => by unfold own_up; split <;> rfl)
  have z19 : n0 ≤ h19.size := by rw [W19.size]; exact z13
  show own_W p e (FrameEnd s) below ({ frames := 0, cells := 0, slots := 0, locals := 0 } : Room).cells ({ frames := 0, cells := 0, slots := 0, locals := 0 } : Room).slots (Q5m Z ob p1 ae an ap us nn fE fN fP kk xa pz qz ya yb za zb h0 n0) T19 (mkF m 91 #[.val (.ref ob), .val (.int p1), .val (.int (fP (xa)))] [])
  refine own_aloadN X19 hx (hb hby d5_91) (v := (.ref ob)) rfl rfl (rfl : 91 + 1 = 92) ?_
  obtain ⟨T20, X20, e20, st20⟩ := getF X19 hx hZ hown (host := "") (Or.inl (hw _ (List.mem_of_getElem? (i := 13) rfl))) Via.refl e19 f19_F_ob_ends (g := (mkF m 92 #[.val (.ref ob), .val (.int p1), .val (.int (fP (xa)))] [(.ref ob)])) rfl rfl (hb hby d5_92)
  refine own_W.step st20 ?_
  show own_W p e (FrameEnd s) below ({ frames := 0, cells := 0, slots := 0, locals := 0 } : Room).cells ({ frames := 0, cells := 0, slots := 0, locals := 0 } : Room).slots (Q5m Z ob p1 ae an ap us nn fE fN fP kk xa pz qz ya yb za zb h0 n0) T20 (mkF m 95 #[.val (.ref ob), .val (.int p1), .val (.int (fP (xa)))] [(.ref an)])
  refine own_iconst X20 hx (hb hby d5_95) (2 : Int32) (by first | rfl | decide) (rfl : 95 + 1 = 96) ?_
  refine own_iloadN X20 hx (hb hby d5_96) (v := (fP (xa))) rfl (rfl : 96 + 1 = 97) ?_
  refine own_imul X20 hx (hb hby d5_97) (rfl : 97 + 1 = 98) ?_
  refine own_aloadN X20 hx (hb hby d5_98) (v := (.ref ob)) rfl rfl (rfl : 98 + 1 = 99) ?_
  obtain ⟨T21, X21, e21, st21⟩ := getF X20 hx hZ hown (host := "") (Or.inl (hw _ (List.mem_of_getElem? (i := 13) rfl))) Via.refl e20 f19_F_ob_ends (g := (mkF m 99 #[.val (.ref ob), .val (.int p1), .val (.int (fP (xa)))] [(.ref ob), (.int ((2 : Int32) * (fP (xa)))), (.ref an)])) rfl rfl (hb hby d5_99)
  refine own_W.step st21 ?_
  show own_W p e (FrameEnd s) below ({ frames := 0, cells := 0, slots := 0, locals := 0 } : Room).cells ({ frames := 0, cells := 0, slots := 0, locals := 0 } : Room).slots (Q5m Z ob p1 ae an ap us nn fE fN fP kk xa pz qz ya yb za zb h0 n0) T21 (mkF m 102 #[.val (.ref ob), .val (.int p1), .val (.int (fP (xa)))] [(.ref an), (.int ((2 : Int32) * (fP (xa)))), (.ref an)])
  refine own_iconst X21 hx (hb hby d5_102) (2 : Int32) (by first | rfl | decide) (rfl : 102 + 1 = 103) ?_
  refine own_aloadN X21 hx (hb hby d5_103) (v := (.ref ob)) rfl rfl (rfl : 103 + 1 = 104) ?_
  obtain ⟨T22, X22, e22, st22⟩ := getF X21 hx hZ hown (host := "") (Or.inl (hw _ (List.mem_of_getElem? (i := 26) rfl))) Via.refl e21 f19_F_ob_size (g := (mkF m 104 #[.val (.ref ob), .val (.int p1), .val (.int (fP (xa)))] [(.ref ob), (.int (2 : Int32)), (.ref an), (.int ((2 : Int32) * (fP (xa)))), (.ref an)])) rfl rfl (hb hby d5_104)
  refine own_W.step st22 ?_
  show own_W p e (FrameEnd s) below ({ frames := 0, cells := 0, slots := 0, locals := 0 } : Room).cells ({ frames := 0, cells := 0, slots := 0, locals := 0 } : Room).slots (Q5m Z ob p1 ae an ap us nn fE fN fP kk xa pz qz ya yb za zb h0 n0) T22 (mkF m 107 #[.val (.ref ob), .val (.int p1), .val (.int (fP (xa)))] [(.int (us - (1 : Int32))), (.int (2 : Int32)), (.ref an), (.int ((2 : Int32) * (fP (xa)))), (.ref an)])
  refine own_imul X22 hx (hb hby d5_107) (rfl : 107 + 1 = 108) ?_
  have hi23 : own_In ((2 : Int32) * (us - (1 : Int32))) (2 * qz) (32) := own_I2 (own_Id hk hqz (by decide) (Nat.le_refl _)) (by decide) (by decide)
  refine own_iaload X22 hx hZ e22 f19_A_an hi23 (v := (fN (2 * qz))) rfl (g := (mkF m 108 #[.val (.ref ob), .val (.int p1), .val (.int (fP (xa)))] [(.int ((2 : Int32) * (us - (1 : Int32)))), (.ref an), (.int ((2 : Int32) * (fP (xa)))), (.ref an)])) rfl rfl (hb hby d5_108) ?_
  show own_W p e (FrameEnd s) below ({ frames := 0, cells := 0, slots := 0, locals := 0 } : Room).cells ({ frames := 0, cells := 0, slots := 0, locals := 0 } : Room).slots (Q5m Z ob p1 ae an ap us nn fE fN fP kk xa pz qz ya yb za zb h0 n0) T22 (mkF m 109 #[.val (.ref ob), .val (.int p1), .val (.int (fP (xa)))] [(.int (fN (2 * qz))), (.int ((2 : Int32) * (fP (xa)))), (.ref an)])
  have hi24 : own_In ((2 : Int32) * (fP (xa))) (2 * pz) (32) := own_I2 hpz (by decide) (by decide)
  obtain ⟨T24, h24, X24, e24, W24, V24, st24⟩ := own_stI X22 hx hZ e22 f19_A_an hi24 (g := (mkF m 109 #[.val (.ref ob), .val (.int p1), .val (.int (fP (xa)))] [(.int (fN (2 * qz))), (.int ((2 : Int32) * (fP (xa)))), (.ref an)])) rfl rfl (hb hby d5_109)
  refine own_W.step st24 ?_
  have N24 := Fr.snoc X24 N19 g_an
  have f24_E_ob : Exa Z h24 ob "com/example/handfast/handfast/algorithm/Matching" := f19_E_ob.wr W24
  have f24_F_ob_edges : Fld Z h24 ob "com/example/handfast/handfast/algorithm/Matching" "edges" "[I" (.ref ae) := f19_F_ob_edges.other W24 (Or.inl hne.2.1)
  have f24_F_ob_ends : Fld Z h24 ob "com/example/handfast/handfast/algorithm/Matching" "ends" "[I" (.ref an) := f19_F_ob_ends.other W24 (Or.inl hne.2.1)
  have f24_F_ob_placeAt : Fld Z h24 ob "com/example/handfast/handfast/algorithm/Matching" "placeAt" "[I" (.ref ap) := f19_F_ob_placeAt.other W24 (Or.inl hne.2.1)
  have f24_F_ob_size : Fld Z h24 ob "com/example/handfast/handfast/algorithm/Matching" "size" "I" (.int (us - (1 : Int32))) := f19_F_ob_size.other W24 (Or.inl hne.2.1)
  have f24_F_ob_members : Fld Z h24 ob "com/example/handfast/handfast/algorithm/Matching" "members" "Lcom/example/handfast/handfast/model/NumberSet;" .null := f19_F_ob_members.other W24 (Or.inl hne.2.1)
  have f24_A_ae : own_A Z h24 ae .int (16) (fun z => .int (own_up fE pz (fE (qz)) z)) := U19.other W24 hne.2.2.2.1
  have f24_A_ap : own_A Z h24 ap .int (nn) (fun z => .int (own_up (own_up fP ya (-1 : Int32)) yb (-1 : Int32) z)) := f19_A_ap.other W24 (Ne.symm hne.2.2.2.2.2)
  have f24_K : Keep h0 h24 [ob, ae, an, ap] := f19_K.wr W24 (Or.inl (by simp))
  have U24 : own_A Z h24 an .int (32) (fun z => .int (own_up fN (2 * pz) (fN (2 * qz)) z)) := V24.congr (fun z _ => by unfold own_up; split <;> rfl)
  have z24 : n0 ≤ h24.size := by rw [W24.size]; exact z19
  show own_W p e (FrameEnd s) below ({ frames := 0, cells := 0, slots := 0, locals := 0 } : Room).cells ({ frames := 0, cells := 0, slots := 0, locals := 0 } : Room).slots (Q5m Z ob p1 ae an ap us nn fE fN fP kk xa pz qz ya yb za zb h0 n0) T24 (mkF m 110 #[.val (.ref ob), .val (.int p1), .val (.int (fP (xa)))] [])
  refine own_aloadN X24 hx (hb hby d5_110) (v := (.ref ob)) rfl rfl (rfl : 110 + 1 = 111) ?_
  obtain ⟨T25, X25, e25, st25⟩ := getF X24 hx hZ hown (host := "") (Or.inl (hw _ (List.mem_of_getElem? (i := 13) rfl))) Via.refl e24 f24_F_ob_ends (g := (mkF m 111 #[.val (.ref ob), .val (.int p1), .val (.int (fP (xa)))] [(.ref ob)])) rfl rfl (hb hby d5_111)
  refine own_W.step st25 ?_
  show own_W p e (FrameEnd s) below ({ frames := 0, cells := 0, slots := 0, locals := 0 } : Room).cells ({ frames := 0, cells := 0, slots := 0, locals := 0 } : Room).slots (Q5m Z ob p1 ae an ap us nn fE fN fP kk xa pz qz ya yb za zb h0 n0) T25 (mkF m 114 #[.val (.ref ob), .val (.int p1), .val (.int (fP (xa)))] [(.ref an)])
  refine own_iconst X25 hx (hb hby d5_114) (2 : Int32) (by first | rfl | decide) (rfl : 114 + 1 = 115) ?_
  refine own_iloadN X25 hx (hb hby d5_115) (v := (fP (xa))) rfl (rfl : 115 + 1 = 116) ?_
  refine own_imul X25 hx (hb hby d5_116) (rfl : 116 + 1 = 117) ?_
  refine own_iconst X25 hx (hb hby d5_117) (1 : Int32) (by first | rfl | decide) (rfl : 117 + 1 = 118) ?_
  refine own_iadd X25 hx (hb hby d5_118) (rfl : 118 + 1 = 119) ?_
  refine own_aloadN X25 hx (hb hby d5_119) (v := (.ref ob)) rfl rfl (rfl : 119 + 1 = 120) ?_
  obtain ⟨T26, X26, e26, st26⟩ := getF X25 hx hZ hown (host := "") (Or.inl (hw _ (List.mem_of_getElem? (i := 13) rfl))) Via.refl e25 f24_F_ob_ends (g := (mkF m 120 #[.val (.ref ob), .val (.int p1), .val (.int (fP (xa)))] [(.ref ob), (.int (((2 : Int32) * (fP (xa))) + (1 : Int32))), (.ref an)])) rfl rfl (hb hby d5_120)
  refine own_W.step st26 ?_
  show own_W p e (FrameEnd s) below ({ frames := 0, cells := 0, slots := 0, locals := 0 } : Room).cells ({ frames := 0, cells := 0, slots := 0, locals := 0 } : Room).slots (Q5m Z ob p1 ae an ap us nn fE fN fP kk xa pz qz ya yb za zb h0 n0) T26 (mkF m 123 #[.val (.ref ob), .val (.int p1), .val (.int (fP (xa)))] [(.ref an), (.int (((2 : Int32) * (fP (xa))) + (1 : Int32))), (.ref an)])
  refine own_iconst X26 hx (hb hby d5_123) (2 : Int32) (by first | rfl | decide) (rfl : 123 + 1 = 124) ?_
  refine own_aloadN X26 hx (hb hby d5_124) (v := (.ref ob)) rfl rfl (rfl : 124 + 1 = 125) ?_
  obtain ⟨T27, X27, e27, st27⟩ := getF X26 hx hZ hown (host := "") (Or.inl (hw _ (List.mem_of_getElem? (i := 26) rfl))) Via.refl e26 f24_F_ob_size (g := (mkF m 125 #[.val (.ref ob), .val (.int p1), .val (.int (fP (xa)))] [(.ref ob), (.int (2 : Int32)), (.ref an), (.int (((2 : Int32) * (fP (xa))) + (1 : Int32))), (.ref an)])) rfl rfl (hb hby d5_125)
  refine own_W.step st27 ?_
  show own_W p e (FrameEnd s) below ({ frames := 0, cells := 0, slots := 0, locals := 0 } : Room).cells ({ frames := 0, cells := 0, slots := 0, locals := 0 } : Room).slots (Q5m Z ob p1 ae an ap us nn fE fN fP kk xa pz qz ya yb za zb h0 n0) T27 (mkF m 128 #[.val (.ref ob), .val (.int p1), .val (.int (fP (xa)))] [(.int (us - (1 : Int32))), (.int (2 : Int32)), (.ref an), (.int (((2 : Int32) * (fP (xa))) + (1 : Int32))), (.ref an)])
  refine own_imul X27 hx (hb hby d5_128) (rfl : 128 + 1 = 129) ?_
  refine own_iconst X27 hx (hb hby d5_129) (1 : Int32) (by first | rfl | decide) (rfl : 129 + 1 = 130) ?_
  refine own_iadd X27 hx (hb hby d5_130) (rfl : 130 + 1 = 131) ?_
  have hi28 : own_In (((2 : Int32) * (us - (1 : Int32))) + (1 : Int32)) (2 * qz + 1) (32) := own_I21 (own_Id hk hqz (by decide) (Nat.le_refl _)) (by decide) (by decide)
  refine own_iaload X27 hx hZ e27 U24 hi28 (v := (fN (2 * qz + 1))) (congrArg Value.int (own_up_other _ _ _ _ (by omega))) (g := (mkF m 131 #[.val (.ref ob), .val (.int p1), .val (.int (fP (xa)))] [(.int (((2 : Int32) * (us - (1 : Int32))) + (1 : Int32))), (.ref an), (.int (((2 : Int32) * (fP (xa))) + (1 : Int32))), (.ref an)])) rfl rfl (hb hby d5_131) ?_
  show own_W p e (FrameEnd s) below ({ frames := 0, cells := 0, slots := 0, locals := 0 } : Room).cells ({ frames := 0, cells := 0, slots := 0, locals := 0 } : Room).slots (Q5m Z ob p1 ae an ap us nn fE fN fP kk xa pz qz ya yb za zb h0 n0) T27 (mkF m 132 #[.val (.ref ob), .val (.int p1), .val (.int (fP (xa)))] [(.int (fN (2 * qz + 1))), (.int (((2 : Int32) * (fP (xa))) + (1 : Int32))), (.ref an)])
  have hi29 : own_In (((2 : Int32) * (fP (xa))) + (1 : Int32)) (2 * pz + 1) (32) := own_I21 hpz (by decide) (by decide)
  obtain ⟨T29, h29, X29, e29, W29, V29, st29⟩ := own_stI X27 hx hZ e27 U24 hi29 (g := (mkF m 132 #[.val (.ref ob), .val (.int p1), .val (.int (fP (xa)))] [(.int (fN (2 * qz + 1))), (.int (((2 : Int32) * (fP (xa))) + (1 : Int32))), (.ref an)])) rfl rfl (hb hby d5_132)
  refine own_W.step st29 ?_
  have N29 := Fr.snoc X29 N24 g_an
  have f29_E_ob : Exa Z h29 ob "com/example/handfast/handfast/algorithm/Matching" := f24_E_ob.wr W29
  have f29_F_ob_edges : Fld Z h29 ob "com/example/handfast/handfast/algorithm/Matching" "edges" "[I" (.ref ae) := f24_F_ob_edges.other W29 (Or.inl hne.2.1)
  have f29_F_ob_ends : Fld Z h29 ob "com/example/handfast/handfast/algorithm/Matching" "ends" "[I" (.ref an) := f24_F_ob_ends.other W29 (Or.inl hne.2.1)
  have f29_F_ob_placeAt : Fld Z h29 ob "com/example/handfast/handfast/algorithm/Matching" "placeAt" "[I" (.ref ap) := f24_F_ob_placeAt.other W29 (Or.inl hne.2.1)
  have f29_F_ob_size : Fld Z h29 ob "com/example/handfast/handfast/algorithm/Matching" "size" "I" (.int (us - (1 : Int32))) := f24_F_ob_size.other W29 (Or.inl hne.2.1)
  have f29_F_ob_members : Fld Z h29 ob "com/example/handfast/handfast/algorithm/Matching" "members" "Lcom/example/handfast/handfast/model/NumberSet;" .null := f24_F_ob_members.other W29 (Or.inl hne.2.1)
  have f29_A_ae : own_A Z h29 ae .int (16) (fun z => .int (own_up fE pz (fE (qz)) z)) := f24_A_ae.other W29 hne.2.2.2.1
  have f29_A_ap : own_A Z h29 ap .int (nn) (fun z => .int (own_up (own_up fP ya (-1 : Int32)) yb (-1 : Int32) z)) := f24_A_ap.other W29 (Ne.symm hne.2.2.2.2.2)
  have f29_K : Keep h0 h29 [ob, ae, an, ap] := f24_K.wr W29 (Or.inl (by simp))
  have U29 : own_A Z h29 an .int (32) (fun z => .int (own_up (own_up fN (2 * pz) (fN (2 * qz))) (2 * pz + 1) (fN (2 * qz + 1)) z)) := V29.congr (fun z _ => by unfold own_up; split <;> rfl)
  have z29 : n0 ≤ h29.size := by rw [W29.size]; exact z24
  show own_W p e (FrameEnd s) below ({ frames := 0, cells := 0, slots := 0, locals := 0 } : Room).cells ({ frames := 0, cells := 0, slots := 0, locals := 0 } : Room).slots (Q5m Z ob p1 ae an ap us nn fE fN fP kk xa pz qz ya yb za zb h0 n0) T29 (mkF m 133 #[.val (.ref ob), .val (.int p1), .val (.int (fP (xa)))] [])
  refine own_aloadN X29 hx (hb hby d5_133) (v := (.ref ob)) rfl rfl (rfl : 133 + 1 = 134) ?_
  obtain ⟨T30, X30, e30, st30⟩ := getF X29 hx hZ hown (host := "") (Or.inl (hw _ (List.mem_of_getElem? (i := 15) rfl))) Via.refl e29 f29_F_ob_placeAt (g := (mkF m 134 #[.val (.ref ob), .val (.int p1), .val (.int (fP (xa)))] [(.ref ob)])) rfl rfl (hb hby d5_134)
  refine own_W.step st30 ?_
  show own_W p e (FrameEnd s) below ({ frames := 0, cells := 0, slots := 0, locals := 0 } : Room).cells ({ frames := 0, cells := 0, slots := 0, locals := 0 } : Room).slots (Q5m Z ob p1 ae an ap us nn fE fN fP kk xa pz qz ya yb za zb h0 n0) T30 (mkF m 137 #[.val (.ref ob), .val (.int p1), .val (.int (fP (xa)))] [(.ref ap)])
  refine own_aloadN X30 hx (hb hby d5_137) (v := (.ref ob)) rfl rfl (rfl : 137 + 1 = 138) ?_
  obtain ⟨T31, X31, e31, st31⟩ := getF X30 hx hZ hown (host := "") (Or.inl (hw _ (List.mem_of_getElem? (i := 13) rfl))) Via.refl e30 f29_F_ob_ends (g := (mkF m 138 #[.val (.ref ob), .val (.int p1), .val (.int (fP (xa)))] [(.ref ob), (.ref ap)])) rfl rfl (hb hby d5_138)
  refine own_W.step st31 ?_
  show own_W p e (FrameEnd s) below ({ frames := 0, cells := 0, slots := 0, locals := 0 } : Room).cells ({ frames := 0, cells := 0, slots := 0, locals := 0 } : Room).slots (Q5m Z ob p1 ae an ap us nn fE fN fP kk xa pz qz ya yb za zb h0 n0) T31 (mkF m 141 #[.val (.ref ob), .val (.int p1), .val (.int (fP (xa)))] [(.ref an), (.ref ap)])
  refine own_iconst X31 hx (hb hby d5_141) (2 : Int32) (by first | rfl | decide) (rfl : 141 + 1 = 142) ?_
  refine own_iloadN X31 hx (hb hby d5_142) (v := (fP (xa))) rfl (rfl : 142 + 1 = 143) ?_
  refine own_imul X31 hx (hb hby d5_143) (rfl : 143 + 1 = 144) ?_
  have hi32 : own_In ((2 : Int32) * (fP (xa))) (2 * pz) (32) := own_I2 hpz (by decide) (by decide)
  refine own_iaload X31 hx hZ e31 U29 hi32 (v := (fN (2 * qz))) (congrArg Value.int ((own_up_other _ _ _ _ (by omega)).trans (own_up_same _ _ _))) (g := (mkF m 144 #[.val (.ref ob), .val (.int p1), .val (.int (fP (xa)))] [(.int ((2 : Int32) * (fP (xa)))), (.ref an), (.ref ap)])) rfl rfl (hb hby d5_144) ?_
  show own_W p e (FrameEnd s) below ({ frames := 0, cells := 0, slots := 0, locals := 0 } : Room).cells ({ frames := 0, cells := 0, slots := 0, locals := 0 } : Room).slots (Q5m Z ob p1 ae an ap us nn fE fN fP kk xa pz qz ya yb za zb h0 n0) T31 (mkF m 145 #[.val (.ref ob), .val (.int p1), .val (.int (fP (xa)))] [(.int (fN (2 * qz))), (.ref ap)])
  refine own_iloadN X31 hx (hb hby d5_145) (v := (fP (xa))) rfl (rfl : 145 + 1 = 146) ?_
  have hi33 : own_In (fN (2 * qz)) (za) (nn) := hza
  obtain ⟨T33, h33, X33, e33, W33, V33, st33⟩ := own_stI X31 hx hZ e31 f29_A_ap hi33 (g := (mkF m 146 #[.val (.ref ob), .val (.int p1), .val (.int (fP (xa)))] [(.int (fP (xa))), (.int (fN (2 * qz))), (.ref ap)])) rfl rfl (hb hby d5_146)
  refine own_W.step st33 ?_
  have N33 := Fr.snoc X33 N29 g_ap
  have f33_E_ob : Exa Z h33 ob "com/example/handfast/handfast/algorithm/Matching" := f29_E_ob.wr W33
  have f33_F_ob_edges : Fld Z h33 ob "com/example/handfast/handfast/algorithm/Matching" "edges" "[I" (.ref ae) := f29_F_ob_edges.other W33 (Or.inl hne.2.2.1)
  have f33_F_ob_ends : Fld Z h33 ob "com/example/handfast/handfast/algorithm/Matching" "ends" "[I" (.ref an) := f29_F_ob_ends.other W33 (Or.inl hne.2.2.1)
  have f33_F_ob_placeAt : Fld Z h33 ob "com/example/handfast/handfast/algorithm/Matching" "placeAt" "[I" (.ref ap) := f29_F_ob_placeAt.other W33 (Or.inl hne.2.2.1)
  have f33_F_ob_size : Fld Z h33 ob "com/example/handfast/handfast/algorithm/Matching" "size" "I" (.int (us - (1 : Int32))) := f29_F_ob_size.other W33 (Or.inl hne.2.2.1)
  have f33_F_ob_members : Fld Z h33 ob "com/example/handfast/handfast/algorithm/Matching" "members" "Lcom/example/handfast/handfast/model/NumberSet;" .null := f29_F_ob_members.other W33 (Or.inl hne.2.2.1)
  have f33_A_ae : own_A Z h33 ae .int (16) (fun z => .int (own_up fE pz (fE (qz)) z)) := f29_A_ae.other W33 hne.2.2.2.2.1
  have f33_A_an : own_A Z h33 an .int (32) (fun z => .int (own_up (own_up fN (2 * pz) (fN (2 * qz))) (2 * pz + 1) (fN (2 * qz + 1)) z)) := U29.other W33 hne.2.2.2.2.2
  have f33_K : Keep h0 h33 [ob, ae, an, ap] := f29_K.wr W33 (Or.inl (by simp))
  have U33 : own_A Z h33 ap .int (nn) (fun z => .int (own_up (own_up (own_up fP ya (-1 : Int32)) yb (-1 : Int32)) za (fP (xa)) z)) := V33.congr (fun z _ => by unfold own_up; split <;> rfl)
  have z33 : n0 ≤ h33.size := by rw [W33.size]; exact z29
  show own_W p e (FrameEnd s) below ({ frames := 0, cells := 0, slots := 0, locals := 0 } : Room).cells ({ frames := 0, cells := 0, slots := 0, locals := 0 } : Room).slots (Q5m Z ob p1 ae an ap us nn fE fN fP kk xa pz qz ya yb za zb h0 n0) T33 (mkF m 147 #[.val (.ref ob), .val (.int p1), .val (.int (fP (xa)))] [])
  refine own_aloadN X33 hx (hb hby d5_147) (v := (.ref ob)) rfl rfl (rfl : 147 + 1 = 148) ?_
  obtain ⟨T34, X34, e34, st34⟩ := getF X33 hx hZ hown (host := "") (Or.inl (hw _ (List.mem_of_getElem? (i := 15) rfl))) Via.refl e33 f33_F_ob_placeAt (g := (mkF m 148 #[.val (.ref ob), .val (.int p1), .val (.int (fP (xa)))] [(.ref ob)])) rfl rfl (hb hby d5_148)
  refine own_W.step st34 ?_
  show own_W p e (FrameEnd s) below ({ frames := 0, cells := 0, slots := 0, locals := 0 } : Room).cells ({ frames := 0, cells := 0, slots := 0, locals := 0 } : Room).slots (Q5m Z ob p1 ae an ap us nn fE fN fP kk xa pz qz ya yb za zb h0 n0) T34 (mkF m 151 #[.val (.ref ob), .val (.int p1), .val (.int (fP (xa)))] [(.ref ap)])
  refine own_aloadN X34 hx (hb hby d5_151) (v := (.ref ob)) rfl rfl (rfl : 151 + 1 = 152) ?_
  obtain ⟨T35, X35, e35, st35⟩ := getF X34 hx hZ hown (host := "") (Or.inl (hw _ (List.mem_of_getElem? (i := 13) rfl))) Via.refl e34 f33_F_ob_ends (g := (mkF m 152 #[.val (.ref ob), .val (.int p1), .val (.int (fP (xa)))] [(.ref ob), (.ref ap)])) rfl rfl (hb hby d5_152)
  refine own_W.step st35 ?_
  show own_W p e (FrameEnd s) below ({ frames := 0, cells := 0, slots := 0, locals := 0 } : Room).cells ({ frames := 0, cells := 0, slots := 0, locals := 0 } : Room).slots (Q5m Z ob p1 ae an ap us nn fE fN fP kk xa pz qz ya yb za zb h0 n0) T35 (mkF m 155 #[.val (.ref ob), .val (.int p1), .val (.int (fP (xa)))] [(.ref an), (.ref ap)])
  refine own_iconst X35 hx (hb hby d5_155) (2 : Int32) (by first | rfl | decide) (rfl : 155 + 1 = 156) ?_
  refine own_iloadN X35 hx (hb hby d5_156) (v := (fP (xa))) rfl (rfl : 156 + 1 = 157) ?_
  refine own_imul X35 hx (hb hby d5_157) (rfl : 157 + 1 = 158) ?_
  refine own_iconst X35 hx (hb hby d5_158) (1 : Int32) (by first | rfl | decide) (rfl : 158 + 1 = 159) ?_
  refine own_iadd X35 hx (hb hby d5_159) (rfl : 159 + 1 = 160) ?_
  have hi36 : own_In (((2 : Int32) * (fP (xa))) + (1 : Int32)) (2 * pz + 1) (32) := own_I21 hpz (by decide) (by decide)
  refine own_iaload X35 hx hZ e35 f33_A_an hi36 (v := (fN (2 * qz + 1))) (congrArg Value.int (own_up_same _ _ _)) (g := (mkF m 160 #[.val (.ref ob), .val (.int p1), .val (.int (fP (xa)))] [(.int (((2 : Int32) * (fP (xa))) + (1 : Int32))), (.ref an), (.ref ap)])) rfl rfl (hb hby d5_160) ?_
  show own_W p e (FrameEnd s) below ({ frames := 0, cells := 0, slots := 0, locals := 0 } : Room).cells ({ frames := 0, cells := 0, slots := 0, locals := 0 } : Room).slots (Q5m Z ob p1 ae an ap us nn fE fN fP kk xa pz qz ya yb za zb h0 n0) T35 (mkF m 161 #[.val (.ref ob), .val (.int p1), .val (.int (fP (xa)))] [(.int (fN (2 * qz + 1))), (.ref ap)])
  refine own_iloadN X35 hx (hb hby d5_161) (v := (fP (xa))) rfl (rfl : 161 + 1 = 162) ?_
  have hi37 : own_In (fN (2 * qz + 1)) (zb) (nn) := hzb
  obtain ⟨T37, h37, X37, e37, W37, V37, st37⟩ := own_stI X35 hx hZ e35 U33 hi37 (g := (mkF m 162 #[.val (.ref ob), .val (.int p1), .val (.int (fP (xa)))] [(.int (fP (xa))), (.int (fN (2 * qz + 1))), (.ref ap)])) rfl rfl (hb hby d5_162)
  refine own_W.step st37 ?_
  have N37 := Fr.snoc X37 N33 g_ap
  have f37_E_ob : Exa Z h37 ob "com/example/handfast/handfast/algorithm/Matching" := f33_E_ob.wr W37
  have f37_F_ob_edges : Fld Z h37 ob "com/example/handfast/handfast/algorithm/Matching" "edges" "[I" (.ref ae) := f33_F_ob_edges.other W37 (Or.inl hne.2.2.1)
  have f37_F_ob_ends : Fld Z h37 ob "com/example/handfast/handfast/algorithm/Matching" "ends" "[I" (.ref an) := f33_F_ob_ends.other W37 (Or.inl hne.2.2.1)
  have f37_F_ob_placeAt : Fld Z h37 ob "com/example/handfast/handfast/algorithm/Matching" "placeAt" "[I" (.ref ap) := f33_F_ob_placeAt.other W37 (Or.inl hne.2.2.1)
  have f37_F_ob_size : Fld Z h37 ob "com/example/handfast/handfast/algorithm/Matching" "size" "I" (.int (us - (1 : Int32))) := f33_F_ob_size.other W37 (Or.inl hne.2.2.1)
  have f37_F_ob_members : Fld Z h37 ob "com/example/handfast/handfast/algorithm/Matching" "members" "Lcom/example/handfast/handfast/model/NumberSet;" .null := f33_F_ob_members.other W37 (Or.inl hne.2.2.1)
  have f37_A_ae : own_A Z h37 ae .int (16) (fun z => .int (own_up fE pz (fE (qz)) z)) := f33_A_ae.other W37 hne.2.2.2.2.1
  have f37_A_an : own_A Z h37 an .int (32) (fun z => .int (own_up (own_up fN (2 * pz) (fN (2 * qz))) (2 * pz + 1) (fN (2 * qz + 1)) z)) := f33_A_an.other W37 hne.2.2.2.2.2
  have f37_K : Keep h0 h37 [ob, ae, an, ap] := f33_K.wr W37 (Or.inl (by simp))
  have U37 : own_A Z h37 ap .int (nn) (fun z => .int (own_up (own_up (own_up (own_up fP ya (-1 : Int32)) yb (-1 : Int32)) za (fP (xa))) zb (fP (xa)) z)) := V37.congr (fun z _ => by unfold own_up; split <;> rfl)
  have z37 : n0 ≤ h37.size := by rw [W37.size]; exact z33
  show own_W p e (FrameEnd s) below ({ frames := 0, cells := 0, slots := 0, locals := 0 } : Room).cells ({ frames := 0, cells := 0, slots := 0, locals := 0 } : Room).slots (Q5m Z ob p1 ae an ap us nn fE fN fP kk xa pz qz ya yb za zb h0 n0) T37 (mkF m 163 #[.val (.ref ob), .val (.int p1), .val (.int (fP (xa)))] [])
  refine own_retV X37 hx hlk hret (hb hby d5_163) (by decide) (by decide) ?_
  show Q5m Z ob p1 ae an ap us nn fE fN fP kk xa pz qz ya yb za zb h0 n0 none T37.heap _
  rw [e37]
  exact ⟨rfl, N37, f37_K, f37_E_ob, f37_F_ob_edges, f37_F_ob_ends, f37_F_ob_placeAt, f37_F_ob_size, f37_F_ob_members, f37_A_ae, f37_A_an, U37⟩
theorem d8_0 : decode prog_15_method_10_code 0 = .ok (.iconst 0, 1) := by decide +kernel
theorem d8_1 : decode prog_15_method_10_code 1 = .ok (.istore_n 1, 1) := by decide +kernel
theorem d8_2 : decode prog_15_method_10_code 2 = .ok (.iload_n 1, 1) := by decide +kernel
theorem d8_3 : decode prog_15_method_10_code 3 = .ok (.aload_n 0, 1) := by decide +kernel
theorem d8_4 : decode prog_15_method_10_code 4 = .ok (.getfield 25, 3) := by decide +kernel
theorem d8_7 : decode prog_15_method_10_code 7 = .ok (.if_icmp .ge 60, 3) := by decide +kernel
theorem d8_10 : decode prog_15_method_10_code 10 = .ok (.aload_n 0, 1) := by decide +kernel
theorem d8_11 : decode prog_15_method_10_code 11 = .ok (.getfield 16, 3) := by decide +kernel
theorem d8_14 : decode prog_15_method_10_code 14 = .ok (.aload_n 0, 1) := by decide +kernel
theorem d8_15 : decode prog_15_method_10_code 15 = .ok (.getfield 13, 3) := by decide +kernel
theorem d8_18 : decode prog_15_method_10_code 18 = .ok (.iconst 2, 1) := by decide +kernel
theorem d8_19 : decode prog_15_method_10_code 19 = .ok (.iload_n 1, 1) := by decide +kernel
theorem d8_20 : decode prog_15_method_10_code 20 = .ok (.imul, 1) := by decide +kernel
theorem d8_21 : decode prog_15_method_10_code 21 = .ok (.iaload, 1) := by decide +kernel
theorem d8_22 : decode prog_15_method_10_code 22 = .ok (.iconst (-1), 1) := by decide +kernel
theorem d8_23 : decode prog_15_method_10_code 23 = .ok (.iastore, 1) := by decide +kernel
theorem d8_24 : decode prog_15_method_10_code 24 = .ok (.aload_n 0, 1) := by decide +kernel
theorem d8_25 : decode prog_15_method_10_code 25 = .ok (.getfield 16, 3) := by decide +kernel
theorem d8_28 : decode prog_15_method_10_code 28 = .ok (.aload_n 0, 1) := by decide +kernel
theorem d8_29 : decode prog_15_method_10_code 29 = .ok (.getfield 13, 3) := by decide +kernel
theorem d8_32 : decode prog_15_method_10_code 32 = .ok (.iconst 2, 1) := by decide +kernel
theorem d8_33 : decode prog_15_method_10_code 33 = .ok (.iload_n 1, 1) := by decide +kernel
theorem d8_34 : decode prog_15_method_10_code 34 = .ok (.imul, 1) := by decide +kernel
theorem d8_35 : decode prog_15_method_10_code 35 = .ok (.iconst 1, 1) := by decide +kernel
theorem d8_36 : decode prog_15_method_10_code 36 = .ok (.iadd, 1) := by decide +kernel
theorem d8_37 : decode prog_15_method_10_code 37 = .ok (.iaload, 1) := by decide +kernel
theorem d8_38 : decode prog_15_method_10_code 38 = .ok (.iconst (-1), 1) := by decide +kernel
theorem d8_39 : decode prog_15_method_10_code 39 = .ok (.iastore, 1) := by decide +kernel
theorem d8_40 : decode prog_15_method_10_code 40 = .ok (.aload_n 0, 1) := by decide +kernel
theorem d8_41 : decode prog_15_method_10_code 41 = .ok (.getfield 33, 3) := by decide +kernel
theorem d8_44 : decode prog_15_method_10_code 44 = .ok (.ifnull 17, 3) := by decide +kernel
theorem d8_61 : decode prog_15_method_10_code 61 = .ok (.iinc 1 1, 3) := by decide +kernel
theorem d8_64 : decode prog_15_method_10_code 64 = .ok (.goto (-62), 3) := by decide +kernel
theorem d8_67 : decode prog_15_method_10_code 67 = .ok (.aload_n 0, 1) := by decide +kernel
theorem d8_68 : decode prog_15_method_10_code 68 = .ok (.iconst 0, 1) := by decide +kernel
theorem d8_69 : decode prog_15_method_10_code 69 = .ok (.putfield 25, 3) := by decide +kernel
theorem d8_72 : decode prog_15_method_10_code 72 = .ok (.return_, 1) := by decide +kernel
theorem ef_8 (m : MethodId) (ob : Addr) : entryFrame m #[(.ref ob)] 2 = mkF m 0 #[.val (.ref ob), .unset] [] := by first | (simp [entryFrame, mkF, argsToLocals, Value.category]; done) | rfl
def Q8c1 (Z : State) (ob : Addr) (ae : Addr) (an : Addr) (ap : Addr) (us : Int32) (nn : Nat) (fE : Nat → Int32) (fN : Nat → Int32) (fP : Nat → Int32) (ya : Nat) (yb : Nat) (h0 : Heap) (n0 : Nat) (v : Option Value) (h : Heap) (L : List Loc) : Prop := v = none ∧ Fr n0 L ∧ Keep h0 h [ob, ae, an, ap] ∧ Exa Z h ob "com/example/handfast/handfast/algorithm/Matching" ∧ Fld Z h ob "com/example/handfast/handfast/algorithm/Matching" "edges" "[I" (.ref ae) ∧ Fld Z h ob "com/example/handfast/handfast/algorithm/Matching" "ends" "[I" (.ref an) ∧ Fld Z h ob "com/example/handfast/handfast/algorithm/Matching" "placeAt" "[I" (.ref ap) ∧ Fld Z h ob "com/example/handfast/handfast/algorithm/Matching" "size" "I" (.int (0 : Int32)) ∧ Fld Z h ob "com/example/handfast/handfast/algorithm/Matching" "members" "Lcom/example/handfast/handfast/model/NumberSet;" .null ∧ own_A Z h ae .int (16) (fun z => .int (fE z)) ∧ own_A Z h an .int (32) (fun z => .int (fN z)) ∧ own_A Z h ap .int (nn) (fun z => .int (own_up (own_up fP ya (-1 : Int32)) yb (-1 : Int32) z))
set_option maxRecDepth 65536 in
set_option maxHeartbeats 40000000 in
theorem rm8c1 (l : Launch) (Z : State) (a0 : Array Value) (hw : ∀ d ∈ tables_1, d.before a0 Z = true) (ws : List Jvm.Cond) (ob : Addr) (ae : Addr) (an : Addr) (ap : Addr) (us : Int32) (nn : Nat) (fE : Nat → Int32) (fN : Nat → Int32) (fP : Nat → Int32) (ya : Nat) (yb : Nat) (h0 : Heap) (n0 : Nat) (Z0 : n0 ≤ h0.size) (f_E_ob : Exa Z h0 ob "com/example/handfast/handfast/algorithm/Matching") (f_F_ob_edges : Fld Z h0 ob "com/example/handfast/handfast/algorithm/Matching" "edges" "[I" (.ref ae)) (f_F_ob_ends : Fld Z h0 ob "com/example/handfast/handfast/algorithm/Matching" "ends" "[I" (.ref an)) (f_F_ob_placeAt : Fld Z h0 ob "com/example/handfast/handfast/algorithm/Matching" "placeAt" "[I" (.ref ap)) (f_F_ob_size : Fld Z h0 ob "com/example/handfast/handfast/algorithm/Matching" "size" "I" (.int us)) (f_F_ob_members : Fld Z h0 ob "com/example/handfast/handfast/algorithm/Matching" "members" "Lcom/example/handfast/handfast/model/NumberSet;" .null) (f_A_ae : own_A Z h0 ae .int (16) (fun z => .int (fE z))) (f_A_an : own_A Z h0 an .int (32) (fun z => .int (fN z))) (f_A_ap : own_A Z h0 ap .int (nn) (fun z => .int (fP z))) (g_ob : n0 ≤ ob) (g_ae : n0 ≤ ae) (g_an : n0 ≤ an) (g_ap : n0 ≤ ap) (hne : own_ne4 ob ae an ap) (hus : us.toInt = 1) (hya : own_In (fN 0) ya nn) (hyb : own_In (fN 1) yb nn) :
    MetFree l (⟨"com/example/handfast/handfast/algorithm/Matching", "clear", "()V"⟩ : MethodName) (head1 (Jvm.Cond.code (⟨"com/example/handfast/handfast/algorithm/Matching", "clear", "()V"⟩ : MethodName) prog_15_method_10_code 2 none :: ws) ({ frames := 0, cells := 0, slots := 0, locals := 0 } : Room)) (fun avs U => avs = #[(.ref ob)] ∧ Z.Warmed39 U.vm ∧ U.heap = h0) (fun _ _ _ _ _ => True) (fun _ U o U' => ∃ v L, o = .returned v ∧ Q8c1 Z ob ae an ap us nn fE fN fP ya yb h0 n0 v U'.heap L ∧ FrameEnd U o U' L ({ frames := 0, cells := 0, slots := 0, locals := 0 } : Room).cells ({ frames := 0, cells := 0, slots := 0, locals := 0 } : Room).slots) := by
  refine MetFree.of_bodySF (plainFor_of_name own_pn_com_example_handfast_handfast_algorithm_Matching) hisR ?_
  intro p e s m args below meth c s₁ Bd hml0 hP hK
  obtain ⟨rfl, hZ, hh⟩ := hP
  have hx := Bd.exec
  have hby := Bd.bytes
  have hml : c.maxLocals = 2 := hml0
  have hown : s.vm.findClass "com/example/handfast/handfast/algorithm/Matching" = some m.cls := findClass_of_methodNamed Bd.named
  have hnm := (name_of_methodNamed Bd.named Bd.method).1
  have hlk := Bd.notSynchronized
  have hret := Bd.returns
  have X0 : Stand p l e ({ frames := 0, cells := 0, slots := 0, locals := 0 } : Room) s m #[(.ref ob)] below meth c s₁ [] 0 0 := Stand.of_body Bd
  have e0 : s₁.heap = h0 := by rw [← hh, Bd.state]; rfl
  have N0 := Fr.nil n0
  show own_W p e (FrameEnd s) below ({ frames := 0, cells := 0, slots := 0, locals := 0 } : Room).cells ({ frames := 0, cells := 0, slots := 0, locals := 0 } : Room).slots (Q8c1 Z ob ae an ap us nn fE fN fP ya yb h0 n0) s₁ (entryFrame m #[(.ref ob)] 2)
  rw [ef_8]
  have K0 : Keep h0 h0 [ob, ae, an, ap] := Keep.refl h0 _
  refine own_iconst X0 hx (hb hby d8_0) (0 : Int32) (by first | rfl | decide) (rfl : 0 + 1 = 1) ?_
  refine own_istoreN X0 hx (hb hby d8_1) (l' := #[.val (.ref ob), .val (.int (0 : Int32))]) rfl (rfl : 1 + 1 = 2) ?_
  refine own_iloadN X0 hx (hb hby d8_2) (v := (0 : Int32)) rfl (rfl : 2 + 1 = 3) ?_
  refine own_aloadN X0 hx (hb hby d8_3) (v := (.ref ob)) rfl rfl (rfl : 3 + 1 = 4) ?_
  obtain ⟨T1, X1, e1, st1⟩ := getF X0 hx hZ hown (host := "") (Or.inl (hw _ (List.mem_of_getElem? (i := 26) rfl))) Via.refl e0 f_F_ob_size (g := (mkF m 4 #[.val (.ref ob), .val (.int (0 : Int32))] [(.ref ob), (.int (0 : Int32))])) rfl rfl (hb hby d8_4)
  refine own_W.step st1 ?_
  show own_W p e (FrameEnd s) below ({ frames := 0, cells := 0, slots := 0, locals := 0 } : Room).cells ({ frames := 0, cells := 0, slots := 0, locals := 0 } : Room).slots (Q8c1 Z ob ae an ap us nn fE fN fP ya yb h0 n0) T1 (mkF m 7 #[.val (.ref ob), .val (.int (0 : Int32))] [(.int us), (.int (0 : Int32))])
  have hc7 : (0 : Int32) < us := by rw [Int32.lt_iff_toInt_lt, hus]; decide
  refine own_icmpNo X1 hx (hb hby d8_7) (tlt hc7).2.1 (rfl : 7 + 3 = 10) ?_
  refine own_aloadN X1 hx (hb hby d8_10) (v := (.ref ob)) rfl rfl (rfl : 10 + 1 = 11) ?_
  obtain ⟨T2, X2, e2, st2⟩ := getF X1 hx hZ hown (host := "") (Or.inl (hw _ (List.mem_of_getElem? (i := 15) rfl))) Via.refl e1 f_F_ob_placeAt (g := (mkF m 11 #[.val (.ref ob), .val (.int (0 : Int32))] [(.ref ob)])) rfl rfl (hb hby d8_11)
  refine own_W.step st2 ?_
  show own_W p e (FrameEnd s) below ({ frames := 0, cells := 0, slots := 0, locals := 0 } : Room).cells ({ frames := 0, cells := 0, slots := 0, locals := 0 } : Room).slots (Q8c1 Z ob ae an ap us nn fE fN fP ya yb h0 n0) T2 (mkF m 14 #[.val (.ref ob), .val (.int (0 : Int32))] [(.ref ap)])
  refine own_aloadN X2 hx (hb hby d8_14) (v := (.ref ob)) rfl rfl (rfl : 14 + 1 = 15) ?_
  obtain ⟨T3, X3, e3, st3⟩ := getF X2 hx hZ hown (host := "") (Or.inl (hw _ (List.mem_of_getElem? (i := 13) rfl))) Via.refl e2 f_F_ob_ends (g := (mkF m 15 #[.val (.ref ob), .val (.int (0 : Int32))] [(.ref ob), (.ref ap)])) rfl rfl (hb hby d8_15)
  refine own_W.step st3 ?_
  show own_W p e (FrameEnd s) below ({ frames := 0, cells := 0, slots := 0, locals := 0 } : Room).cells ({ frames := 0, cells := 0, slots := 0, locals := 0 } : Room).slots (Q8c1 Z ob ae an ap us nn fE fN fP ya yb h0 n0) T3 (mkF m 18 #[.val (.ref ob), .val (.int (0 : Int32))] [(.ref an), (.ref ap)])
  refine own_iconst X3 hx (hb hby d8_18) (2 : Int32) (by first | rfl | decide) (rfl : 18 + 1 = 19) ?_
  refine own_iloadN X3 hx (hb hby d8_19) (v := (0 : Int32)) rfl (rfl : 19 + 1 = 20) ?_
  refine own_imul X3 hx (hb hby d8_20) (rfl : 20 + 1 = 21) ?_
  have hi4 : own_In ((2 : Int32) * (0 : Int32)) (0) (32) := ⟨by decide, by decide⟩
  refine own_iaload X3 hx hZ e3 f_A_an hi4 (v := (fN (0))) rfl (g := (mkF m 21 #[.val (.ref ob), .val (.int (0 : Int32))] [(.int ((2 : Int32) * (0 : Int32))), (.ref an), (.ref ap)])) rfl rfl (hb hby d8_21) ?_
  show own_W p e (FrameEnd s) below ({ frames := 0, cells := 0, slots := 0, locals := 0 } : Room).cells ({ frames := 0, cells := 0, slots := 0, locals := 0 } : Room).slots (Q8c1 Z ob ae an ap us nn fE fN fP ya yb h0 n0) T3 (mkF m 22 #[.val (.ref ob), .val (.int (0 : Int32))] [(.int (fN (0))), (.ref ap)])
  refine own_iconst X3 hx (hb hby d8_22) (-1 : Int32) (by first | rfl | decide) (rfl : 22 + 1 = 23) ?_
  have hi5 : own_In (fN (0)) (ya) (nn) := hya
  obtain ⟨T5, h5, X5, e5, W5, V5, st5⟩ := own_stI X3 hx hZ e3 f_A_ap hi5 (g := (mkF m 23 #[.val (.ref ob), .val (.int (0 : Int32))] [(.int (-1 : Int32)), (.int (fN (0))), (.ref ap)])) rfl rfl (hb hby d8_23)
  refine own_W.step st5 ?_
  have N5 := Fr.snoc X5 N0 g_ap
  have f5_E_ob : Exa Z h5 ob "com/example/handfast/handfast/algorithm/Matching" := f_E_ob.wr W5
  have f5_F_ob_edges : Fld Z h5 ob "com/example/handfast/handfast/algorithm/Matching" "edges" "[I" (.ref ae) := f_F_ob_edges.other W5 (Or.inl hne.2.2.1)
  have f5_F_ob_ends : Fld Z h5 ob "com/example/handfast/handfast/algorithm/Matching" "ends" "[I" (.ref an) := f_F_ob_ends.other W5 (Or.inl hne.2.2.1)
  have f5_F_ob_placeAt : Fld Z h5 ob "com/example/handfast/handfast/algorithm/Matching" "placeAt" "[I" (.ref ap) := f_F_ob_placeAt.other W5 (Or.inl hne.2.2.1)
  have f5_F_ob_size : Fld Z h5 ob "com/example/handfast/handfast/algorithm/Matching" "size" "I" (.int us) := f_F_ob_size.other W5 (Or.inl hne.2.2.1)
  have f5_F_ob_members : Fld Z h5 ob "com/example/handfast/handfast/algorithm/Matching" "members" "Lcom/example/handfast/handfast/model/NumberSet;" .null := f_F_ob_members.other W5 (Or.inl hne.2.2.1)
  have f5_A_ae : own_A Z h5 ae .int (16) (fun z => .int (fE z)) := f_A_ae.other W5 hne.2.2.2.2.1
  have f5_A_an : own_A Z h5 an .int (32) (fun z => .int (fN z)) := f_A_an.other W5 hne.2.2.2.2.2
  have f5_K : Keep h0 h5 [ob, ae, an, ap] := K0.wr W5 (Or.inl (by simp))
  have U5 : own_A Z h5 ap .int (nn) (fun z => .int (own_up fP ya (-1 : Int32) z)) := V5.congr (fun z _ => by unfold own_up; split <;> rfl)
  have z5 : n0 ≤ h5.size := by rw [W5.size]; exact Z0
  show own_W p e (FrameEnd s) below ({ frames := 0, cells := 0, slots := 0, locals := 0 } : Room).cells ({ frames := 0, cells := 0, slots := 0, locals := 0 } : Room).slots (Q8c1 Z ob ae an ap us nn fE fN fP ya yb h0 n0) T5 (mkF m 24 #[.val (.ref ob), .val (.int (0 : Int32))] [])
  refine own_aloadN X5 hx (hb hby d8_24) (v := (.ref ob)) rfl rfl (rfl : 24 + 1 = 25) ?_
  obtain ⟨T6, X6, e6, st6⟩ := getF X5 hx hZ hown (host := "") (Or.inl (hw _ (List.mem_of_getElem? (i := 15) rfl))) Via.refl e5 f5_F_ob_placeAt (g := (mkF m 25 #[.val (.ref ob), .val (.int (0 : Int32))] [(.ref ob)])) rfl rfl (hb hby d8_25)
  refine own_W.step st6 ?_
  show own_W p e (FrameEnd s) below ({ frames := 0, cells := 0, slots := 0, locals := 0 } : Room).cells ({ frames := 0, cells := 0, slots := 0, locals := 0 } : Room).slots (Q8c1 Z ob ae an ap us nn fE fN fP ya yb h0 n0) T6 (mkF m 28 #[.val (.ref ob), .val (.int (0 : Int32))] [(.ref ap)])
  refine own_aloadN X6 hx (hb hby d8_28) (v := (.ref ob)) rfl rfl (rfl : 28 + 1 = 29) ?_
  obtain ⟨T7, X7, e7, st7⟩ := getF X6 hx hZ hown (host := "") (Or.inl (hw _ (List.mem_of_getElem? (i := 13) rfl))) Via.refl e6 f5_F_ob_ends (g := (mkF m 29 #[.val (.ref ob), .val (.int (0 : Int32))] [(.ref ob), (.ref ap)])) rfl rfl (hb hby d8_29)
  refine own_W.step st7 ?_
  show own_W p e (FrameEnd s) below ({ frames := 0, cells := 0, slots := 0, locals := 0 } : Room).cells ({ frames := 0, cells := 0, slots := 0, locals := 0 } : Room).slots (Q8c1 Z ob ae an ap us nn fE fN fP ya yb h0 n0) T7 (mkF m 32 #[.val (.ref ob), .val (.int (0 : Int32))] [(.ref an), (.ref ap)])
  refine own_iconst X7 hx (hb hby d8_32) (2 : Int32) (by first | rfl | decide) (rfl : 32 + 1 = 33) ?_
  refine own_iloadN X7 hx (hb hby d8_33) (v := (0 : Int32)) rfl (rfl : 33 + 1 = 34) ?_
  refine own_imul X7 hx (hb hby d8_34) (rfl : 34 + 1 = 35) ?_
  refine own_iconst X7 hx (hb hby d8_35) (1 : Int32) (by first | rfl | decide) (rfl : 35 + 1 = 36) ?_
  refine own_iadd X7 hx (hb hby d8_36) (rfl : 36 + 1 = 37) ?_
  have hi8 : own_In (((2 : Int32) * (0 : Int32)) + (1 : Int32)) (1) (32) := ⟨by decide, by decide⟩
  refine own_iaload X7 hx hZ e7 f5_A_an hi8 (v := (fN (1))) rfl (g := (mkF m 37 #[.val (.ref ob), .val (.int (0 : Int32))] [(.int (((2 : Int32) * (0 : Int32)) + (1 : Int32))), (.ref an), (.ref ap)])) rfl rfl (hb hby d8_37) ?_
  show own_W p e (FrameEnd s) below ({ frames := 0, cells := 0, slots := 0, locals := 0 } : Room).cells ({ frames := 0, cells := 0, slots := 0, locals := 0 } : Room).slots (Q8c1 Z ob ae an ap us nn fE fN fP ya yb h0 n0) T7 (mkF m 38 #[.val (.ref ob), .val (.int (0 : Int32))] [(.int (fN (1))), (.ref ap)])
  refine own_iconst X7 hx (hb hby d8_38) (-1 : Int32) (by first | rfl | decide) (rfl : 38 + 1 = 39) ?_
  have hi9 : own_In (fN (1)) (yb) (nn) := hyb
  obtain ⟨T9, h9, X9, e9, W9, V9, st9⟩ := own_stI X7 hx hZ e7 U5 hi9 (g := (mkF m 39 #[.val (.ref ob), .val (.int (0 : Int32))] [(.int (-1 : Int32)), (.int (fN (1))), (.ref ap)])) rfl rfl (hb hby d8_39)
  refine own_W.step st9 ?_
  have N9 := Fr.snoc X9 N5 g_ap
  have f9_E_ob : Exa Z h9 ob "com/example/handfast/handfast/algorithm/Matching" := f5_E_ob.wr W9
  have f9_F_ob_edges : Fld Z h9 ob "com/example/handfast/handfast/algorithm/Matching" "edges" "[I" (.ref ae) := f5_F_ob_edges.other W9 (Or.inl hne.2.2.1)
  have f9_F_ob_ends : Fld Z h9 ob "com/example/handfast/handfast/algorithm/Matching" "ends" "[I" (.ref an) := f5_F_ob_ends.other W9 (Or.inl hne.2.2.1)
  have f9_F_ob_placeAt : Fld Z h9 ob "com/example/handfast/handfast/algorithm/Matching" "placeAt" "[I" (.ref ap) := f5_F_ob_placeAt.other W9 (Or.inl hne.2.2.1)
  have f9_F_ob_size : Fld Z h9 ob "com/example/handfast/handfast/algorithm/Matching" "size" "I" (.int us) := f5_F_ob_size.other W9 (Or.inl hne.2.2.1)
  have f9_F_ob_members : Fld Z h9 ob "com/example/handfast/handfast/algorithm/Matching" "members" "Lcom/example/handfast/handfast/model/NumberSet;" .null := f5_F_ob_members.other W9 (Or.inl hne.2.2.1)
  have f9_A_ae : own_A Z h9 ae .int (16) (fun z => .int (fE z)) := f5_A_ae.other W9 hne.2.2.2.2.1
  have f9_A_an : own_A Z h9 an .int (32) (fun z => .int (fN z)) := f5_A_an.other W9 hne.2.2.2.2.2
  have f9_K : Keep h0 h9 [ob, ae, an, ap] := f5_K.wr W9 (Or.inl (by simp))
  have U9 : own_A Z h9 ap .int (nn) (fun z => .int (own_up (own_up fP ya (-1 : Int32)) yb (-1 : Int32) z)) := V9.congr (fun z _ => by unfold own_up; split <;> rfl)
  have z9 : n0 ≤ h9.size := by rw [W9.size]; exact z5
  show own_W p e (FrameEnd s) below ({ frames := 0, cells := 0, slots := 0, locals := 0 } : Room).cells ({ frames := 0, cells := 0, slots := 0, locals := 0 } : Room).slots (Q8c1 Z ob ae an ap us nn fE fN fP ya yb h0 n0) T9 (mkF m 40 #[.val (.ref ob), .val (.int (0 : Int32))] [])
  refine own_aloadN X9 hx (hb hby d8_40) (v := (.ref ob)) rfl rfl (rfl : 40 + 1 = 41) ?_
  obtain ⟨T10, X10, e10, st10⟩ := getF X9 hx hZ hown (host := "") (Or.inl (hw _ (List.mem_of_getElem? (i := 28) rfl))) Via.refl e9 f9_F_ob_members (g := (mkF m 41 #[.val (.ref ob), .val (.int (0 : Int32))] [(.ref ob)])) rfl rfl (hb hby d8_41)
  refine own_W.step st10 ?_
  show own_W p e (FrameEnd s) below ({ frames := 0, cells := 0, slots := 0, locals := 0 } : Room).cells ({ frames := 0, cells := 0, slots := 0, locals := 0 } : Room).slots (Q8c1 Z ob ae an ap us nn fE fN fP ya yb h0 n0) T10 (mkF m 44 #[.val (.ref ob), .val (.int (0 : Int32))] [.null])
  refine own_ifnullYes X10 hx (hb hby d8_44) (pc' := 61) (by decide) (by decide) ?_
  refine own_iinc X10 hx (hb hby d8_61) (1 : Int32) rfl (x := (0 : Int32)) rfl (l' := #[.val (.ref ob), .val (.int ((0 : Int32) + (1 : Int32)))]) rfl (rfl : 61 + 3 = 64) ?_
  refine own_goto X10 hx (hb hby d8_64) (pc' := 2) (by decide) (by decide) ?_
  refine own_iloadN X10 hx (hb hby d8_2) (v := ((0 : Int32) + (1 : Int32))) rfl (rfl : 2 + 1 = 3) ?_
  refine own_aloadN X10 hx (hb hby d8_3) (v := (.ref ob)) rfl rfl (rfl : 3 + 1 = 4) ?_
  obtain ⟨T11, X11, e11, st11⟩ := getF X10 hx hZ hown (host := "") (Or.inl (hw _ (List.mem_of_getElem? (i := 26) rfl))) Via.refl e10 f9_F_ob_size (g := (mkF m 4 #[.val (.ref ob), .val (.int ((0 : Int32) + (1 : Int32)))] [(.ref ob), (.int ((0 : Int32) + (1 : Int32)))])) rfl rfl (hb hby d8_4)
  refine own_W.step st11 ?_
  show own_W p e (FrameEnd s) below ({ frames := 0, cells := 0, slots := 0, locals := 0 } : Room).cells ({ frames := 0, cells := 0, slots := 0, locals := 0 } : Room).slots (Q8c1 Z ob ae an ap us nn fE fN fP ya yb h0 n0) T11 (mkF m 7 #[.val (.ref ob), .val (.int ((0 : Int32) + (1 : Int32)))] [(.int us), (.int ((0 : Int32) + (1 : Int32)))])
  have hc7 : ¬ (((0 : Int32) + (1 : Int32)) < us) := by rw [Int32.lt_iff_toInt_lt, hus]; decide
  refine own_icmpYes X11 hx (hb hby d8_7) (flt hc7).2.1 (pc' := 67) (by decide) (by decide) ?_
  refine own_aloadN X11 hx (hb hby d8_67) (v := (.ref ob)) rfl rfl (rfl : 67 + 1 = 68) ?_
  refine own_iconst X11 hx (hb hby d8_68) (0 : Int32) (by first | rfl | decide) (rfl : 68 + 1 = 69) ?_
  obtain ⟨T12, h12, X12, e12, W12, st12⟩ := putF X11 hx hZ hown (host := "") (Or.inl (hw _ (List.mem_of_getElem? (i := 26) rfl))) Via.refl e11 f9_F_ob_size f9_E_ob (Or.inl (hw _ (List.mem_of_getElem? (i := 27) rfl))) (hw _ (List.mem_of_getElem? (i := 2) rfl)) (ty := .int) (by decide) rfl rfl (g := (mkF m 69 #[.val (.ref ob), .val (.int ((0 : Int32) + (1 : Int32)))] [(.int (0 : Int32)), (.ref ob)])) rfl rfl (hb hby d8_69)
  refine own_W.step st12 ?_
  have N12 := Fr.snoc X12 N9 g_ob
  have f12_E_ob : Exa Z h12 ob "com/example/handfast/handfast/algorithm/Matching" := f9_E_ob.wr W12
  have f12_F_ob_edges : Fld Z h12 ob "com/example/handfast/handfast/algorithm/Matching" "edges" "[I" (.ref ae) := f9_F_ob_edges.other W12 (Or.inr (slot_ne (Or.inl (hw _ (List.mem_of_getElem? (i := 12) rfl))) (Or.inl (hw _ (List.mem_of_getElem? (i := 27) rfl))) (by decide) (t := (.array .int)) (t' := .int) (by decide) (by decide)))
  have f12_F_ob_ends : Fld Z h12 ob "com/example/handfast/handfast/algorithm/Matching" "ends" "[I" (.ref an) := f9_F_ob_ends.other W12 (Or.inr (slot_ne (Or.inl (hw _ (List.mem_of_getElem? (i := 14) rfl))) (Or.inl (hw _ (List.mem_of_getElem? (i := 27) rfl))) (by decide) (t := (.array .int)) (t' := .int) (by decide) (by decide)))
  have f12_F_ob_placeAt : Fld Z h12 ob "com/example/handfast/handfast/algorithm/Matching" "placeAt" "[I" (.ref ap) := f9_F_ob_placeAt.other W12 (Or.inr (slot_ne (Or.inr (hw _ (List.mem_of_getElem? (i := 16) rfl))) (Or.inl (hw _ (List.mem_of_getElem? (i := 27) rfl))) (by decide) (t := (.array .int)) (t' := .int) (by decide) (by decide)))
  have f12_F_ob_members : Fld Z h12 ob "com/example/handfast/handfast/algorithm/Matching" "members" "Lcom/example/handfast/handfast/model/NumberSet;" .null := f9_F_ob_members.other W12 (Or.inr (slot_ne (Or.inl (hw _ (List.mem_of_getElem? (i := 29) rfl))) (Or.inl (hw _ (List.mem_of_getElem? (i := 27) rfl))) (by decide) (t := (.object "com/example/handfast/handfast/model/NumberSet")) (t' := .int) (by decide) (by decide)))
  have f12_A_ae : own_A Z h12 ae .int (16) (fun z => .int (fE z)) := f9_A_ae.other W12 (Ne.symm hne.1)
  have f12_A_an : own_A Z h12 an .int (32) (fun z => .int (fN z)) := f9_A_an.other W12 (Ne.symm hne.2.1)
  have f12_A_ap : own_A Z h12 ap .int (nn) (fun z => .int (own_up (own_up fP ya (-1 : Int32)) yb (-1 : Int32) z)) := U9.other W12 (Ne.symm hne.2.2.1)
  have f12_K : Keep h0 h12 [ob, ae, an, ap] := f9_K.wr W12 (Or.inl (by simp))
  have fw12 : Fld Z h12 ob "com/example/handfast/handfast/algorithm/Matching" "size" "I" (.int (0 : Int32)) := f9_F_ob_size.same W12
  have z12 : n0 ≤ h12.size := by rw [W12.size]; exact z9
  show own_W p e (FrameEnd s) below ({ frames := 0, cells := 0, slots := 0, locals := 0 } : Room).cells ({ frames := 0, cells := 0, slots := 0, locals := 0 } : Room).slots (Q8c1 Z ob ae an ap us nn fE fN fP ya yb h0 n0) T12 (mkF m 72 #[.val (.ref ob), .val (.int ((0 : Int32) + (1 : Int32)))] [])
  refine own_retV X12 hx hlk hret (hb hby d8_72) (by decide) (by decide) ?_
  show Q8c1 Z ob ae an ap us nn fE fN fP ya yb h0 n0 none T12.heap _
  rw [e12]
  exact ⟨rfl, N12, f12_K, f12_E_ob, f12_F_ob_edges, f12_F_ob_ends, f12_F_ob_placeAt, fw12, f12_F_ob_members, f12_A_ae, f12_A_an, f12_A_ap⟩
def Q8c2 (Z : State) (ob : Addr) (ae : Addr) (an : Addr) (ap : Addr) (us : Int32) (nn : Nat) (fE : Nat → Int32) (fN : Nat → Int32) (fP : Nat → Int32) (ya : Nat) (yb : Nat) (za : Nat) (zb : Nat) (h0 : Heap) (n0 : Nat) (v : Option Value) (h : Heap) (L : List Loc) : Prop := v = none ∧ Fr n0 L ∧ Keep h0 h [ob, ae, an, ap] ∧ Exa Z h ob "com/example/handfast/handfast/algorithm/Matching" ∧ Fld Z h ob "com/example/handfast/handfast/algorithm/Matching" "edges" "[I" (.ref ae) ∧ Fld Z h ob "com/example/handfast/handfast/algorithm/Matching" "ends" "[I" (.ref an) ∧ Fld Z h ob "com/example/handfast/handfast/algorithm/Matching" "placeAt" "[I" (.ref ap) ∧ Fld Z h ob "com/example/handfast/handfast/algorithm/Matching" "size" "I" (.int (0 : Int32)) ∧ Fld Z h ob "com/example/handfast/handfast/algorithm/Matching" "members" "Lcom/example/handfast/handfast/model/NumberSet;" .null ∧ own_A Z h ae .int (16) (fun z => .int (fE z)) ∧ own_A Z h an .int (32) (fun z => .int (fN z)) ∧ own_A Z h ap .int (nn) (fun z => .int (own_up (own_up (own_up (own_up fP ya (-1 : Int32)) yb (-1 : Int32)) za (-1 : Int32)) zb (-1 : Int32) z))
set_option maxRecDepth 65536 in
set_option maxHeartbeats 40000000 in
theorem rm8c2 (l : Launch) (Z : State) (a0 : Array Value) (hw : ∀ d ∈ tables_1, d.before a0 Z = true) (ws : List Jvm.Cond) (ob : Addr) (ae : Addr) (an : Addr) (ap : Addr) (us : Int32) (nn : Nat) (fE : Nat → Int32) (fN : Nat → Int32) (fP : Nat → Int32) (ya : Nat) (yb : Nat) (za : Nat) (zb : Nat) (h0 : Heap) (n0 : Nat) (Z0 : n0 ≤ h0.size) (f_E_ob : Exa Z h0 ob "com/example/handfast/handfast/algorithm/Matching") (f_F_ob_edges : Fld Z h0 ob "com/example/handfast/handfast/algorithm/Matching" "edges" "[I" (.ref ae)) (f_F_ob_ends : Fld Z h0 ob "com/example/handfast/handfast/algorithm/Matching" "ends" "[I" (.ref an)) (f_F_ob_placeAt : Fld Z h0 ob "com/example/handfast/handfast/algorithm/Matching" "placeAt" "[I" (.ref ap)) (f_F_ob_size : Fld Z h0 ob "com/example/handfast/handfast/algorithm/Matching" "size" "I" (.int us)) (f_F_ob_members : Fld Z h0 ob "com/example/handfast/handfast/algorithm/Matching" "members" "Lcom/example/handfast/handfast/model/NumberSet;" .null) (f_A_ae : own_A Z h0 ae .int (16) (fun z => .int (fE z))) (f_A_an : own_A Z h0 an .int (32) (fun z => .int (fN z))) (f_A_ap : own_A Z h0 ap .int (nn) (fun z => .int (fP z))) (g_ob : n0 ≤ ob) (g_ae : n0 ≤ ae) (g_an : n0 ≤ an) (g_ap : n0 ≤ ap) (hne : own_ne4 ob ae an ap) (hus : us.toInt = 2) (hya : own_In (fN 0) ya nn) (hyb : own_In (fN 1) yb nn) (hza : own_In (fN 2) za nn) (hzb : own_In (fN 3) zb nn) :
    MetFree l (⟨"com/example/handfast/handfast/algorithm/Matching", "clear", "()V"⟩ : MethodName) (head1 (Jvm.Cond.code (⟨"com/example/handfast/handfast/algorithm/Matching", "clear", "()V"⟩ : MethodName) prog_15_method_10_code 2 none :: ws) ({ frames := 0, cells := 0, slots := 0, locals := 0 } : Room)) (fun avs U => avs = #[(.ref ob)] ∧ Z.Warmed39 U.vm ∧ U.heap = h0) (fun _ _ _ _ _ => True) (fun _ U o U' => ∃ v L, o = .returned v ∧ Q8c2 Z ob ae an ap us nn fE fN fP ya yb za zb h0 n0 v U'.heap L ∧ FrameEnd U o U' L ({ frames := 0, cells := 0, slots := 0, locals := 0 } : Room).cells ({ frames := 0, cells := 0, slots := 0, locals := 0 } : Room).slots) := by
  refine MetFree.of_bodySF (plainFor_of_name own_pn_com_example_handfast_handfast_algorithm_Matching) hisR ?_
  intro p e s m args below meth c s₁ Bd hml0 hP hK
  obtain ⟨rfl, hZ, hh⟩ := hP
  have hx := Bd.exec
  have hby := Bd.bytes
  have hml : c.maxLocals = 2 := hml0
  have hown : s.vm.findClass "com/example/handfast/handfast/algorithm/Matching" = some m.cls := findClass_of_methodNamed Bd.named
  have hnm := (name_of_methodNamed Bd.named Bd.method).1
  have hlk := Bd.notSynchronized
  have hret := Bd.returns
  have X0 : Stand p l e ({ frames := 0, cells := 0, slots := 0, locals := 0 } : Room) s m #[(.ref ob)] below meth c s₁ [] 0 0 := Stand.of_body Bd
  have e0 : s₁.heap = h0 := by rw [← hh, Bd.state]; rfl
  have N0 := Fr.nil n0
  show own_W p e (FrameEnd s) below ({ frames := 0, cells := 0, slots := 0, locals := 0 } : Room).cells ({ frames := 0, cells := 0, slots := 0, locals := 0 } : Room).slots (Q8c2 Z ob ae an ap us nn fE fN fP ya yb za zb h0 n0) s₁ (entryFrame m #[(.ref ob)] 2)
  rw [ef_8]
  have K0 : Keep h0 h0 [ob, ae, an, ap] := Keep.refl h0 _
  refine own_iconst X0 hx (hb hby d8_0) (0 : Int32) (by first | rfl | decide) (rfl : 0 + 1 = 1) ?_
  refine own_istoreN X0 hx (hb hby d8_1) (l' := #[.val (.ref ob), .val (.int (0 : Int32))]) rfl (rfl : 1 + 1 = 2) ?_
  refine own_iloadN X0 hx (hb hby d8_2) (v := (0 : Int32)) rfl (rfl : 2 + 1 = 3) ?_
  refine own_aloadN X0 hx (hb hby d8_3) (v := (.ref ob)) rfl rfl (rfl : 3 + 1 = 4) ?_
  obtain ⟨T1, X1, e1, st1⟩ := getF X0 hx hZ hown (host := "") (Or.inl (hw _ (List.mem_of_getElem? (i := 26) rfl))) Via.refl e0 f_F_ob_size (g := (mkF m 4 #[.val (.ref ob), .val (.int (0 : Int32))] [(.ref ob), (.int (0 : Int32))])) rfl rfl (hb hby d8_4)
  refine own_W.step st1 ?_
  show own_W p e (FrameEnd s) below ({ frames := 0, cells := 0, slots := 0, locals := 0 } : Room).cells ({ frames := 0, cells := 0, slots := 0, locals := 0 } : Room).slots (Q8c2 Z ob ae an ap us nn fE fN fP ya yb za zb h0 n0) T1 (mkF m 7 #[.val (.ref ob), .val (.int (0 : Int32))] [(.int us), (.int (0 : Int32))])
  have hc7 : (0 : Int32) < us := by rw [Int32.lt_iff_toInt_lt, hus]; decide
  refine own_icmpNo X1 hx (hb hby d8_7) (tlt hc7).2.1 (rfl : 7 + 3 = 10) ?_
  refine own_aloadN X1 hx (hb hby d8_10) (v := (.ref ob)) rfl rfl (rfl : 10 + 1 = 11) ?_
  obtain ⟨T2, X2, e2, st2⟩ := getF X1 hx hZ hown (host := "") (Or.inl (hw _ (List.mem_of_getElem? (i := 15) rfl))) Via.refl e1 f_F_ob_placeAt (g := (mkF m 11 #[.val (.ref ob), .val (.int (0 : Int32))] [(.ref ob)])) rfl rfl (hb hby d8_11)
  refine own_W.step st2 ?_
  show own_W p e (FrameEnd s) below ({ frames := 0, cells := 0, slots := 0, locals := 0 } : Room).cells ({ frames := 0, cells := 0, slots := 0, locals := 0 } : Room).slots (Q8c2 Z ob ae an ap us nn fE fN fP ya yb za zb h0 n0) T2 (mkF m 14 #[.val (.ref ob), .val (.int (0 : Int32))] [(.ref ap)])
  refine own_aloadN X2 hx (hb hby d8_14) (v := (.ref ob)) rfl rfl (rfl : 14 + 1 = 15) ?_
  obtain ⟨T3, X3, e3, st3⟩ := getF X2 hx hZ hown (host := "") (Or.inl (hw _ (List.mem_of_getElem? (i := 13) rfl))) Via.refl e2 f_F_ob_ends (g := (mkF m 15 #[.val (.ref ob), .val (.int (0 : Int32))] [(.ref ob), (.ref ap)])) rfl rfl (hb hby d8_15)
  refine own_W.step st3 ?_
  show own_W p e (FrameEnd s) below ({ frames := 0, cells := 0, slots := 0, locals := 0 } : Room).cells ({ frames := 0, cells := 0, slots := 0, locals := 0 } : Room).slots (Q8c2 Z ob ae an ap us nn fE fN fP ya yb za zb h0 n0) T3 (mkF m 18 #[.val (.ref ob), .val (.int (0 : Int32))] [(.ref an), (.ref ap)])
  refine own_iconst X3 hx (hb hby d8_18) (2 : Int32) (by first | rfl | decide) (rfl : 18 + 1 = 19) ?_
  refine own_iloadN X3 hx (hb hby d8_19) (v := (0 : Int32)) rfl (rfl : 19 + 1 = 20) ?_
  refine own_imul X3 hx (hb hby d8_20) (rfl : 20 + 1 = 21) ?_
  have hi4 : own_In ((2 : Int32) * (0 : Int32)) (0) (32) := ⟨by decide, by decide⟩
  refine own_iaload X3 hx hZ e3 f_A_an hi4 (v := (fN (0))) rfl (g := (mkF m 21 #[.val (.ref ob), .val (.int (0 : Int32))] [(.int ((2 : Int32) * (0 : Int32))), (.ref an), (.ref ap)])) rfl rfl (hb hby d8_21) ?_
  show own_W p e (FrameEnd s) below ({ frames := 0, cells := 0, slots := 0, locals := 0 } : Room).cells ({ frames := 0, cells := 0, slots := 0, locals := 0 } : Room).slots (Q8c2 Z ob ae an ap us nn fE fN fP ya yb za zb h0 n0) T3 (mkF m 22 #[.val (.ref ob), .val (.int (0 : Int32))] [(.int (fN (0))), (.ref ap)])
  refine own_iconst X3 hx (hb hby d8_22) (-1 : Int32) (by first | rfl | decide) (rfl : 22 + 1 = 23) ?_
  have hi5 : own_In (fN (0)) (ya) (nn) := hya
  obtain ⟨T5, h5, X5, e5, W5, V5, st5⟩ := own_stI X3 hx hZ e3 f_A_ap hi5 (g := (mkF m 23 #[.val (.ref ob), .val (.int (0 : Int32))] [(.int (-1 : Int32)), (.int (fN (0))), (.ref ap)])) rfl rfl (hb hby d8_23)
  refine own_W.step st5 ?_
  have N5 := Fr.snoc X5 N0 g_ap
  have f5_E_ob : Exa Z h5 ob "com/example/handfast/handfast/algorithm/Matching" := f_E_ob.wr W5
  have f5_F_ob_edges : Fld Z h5 ob "com/example/handfast/handfast/algorithm/Matching" "edges" "[I" (.ref ae) := f_F_ob_edges.other W5 (Or.inl hne.2.2.1)
  have f5_F_ob_ends : Fld Z h5 ob "com/example/handfast/handfast/algorithm/Matching" "ends" "[I" (.ref an) := f_F_ob_ends.other W5 (Or.inl hne.2.2.1)
  have f5_F_ob_placeAt : Fld Z h5 ob "com/example/handfast/handfast/algorithm/Matching" "placeAt" "[I" (.ref ap) := f_F_ob_placeAt.other W5 (Or.inl hne.2.2.1)
  have f5_F_ob_size : Fld Z h5 ob "com/example/handfast/handfast/algorithm/Matching" "size" "I" (.int us) := f_F_ob_size.other W5 (Or.inl hne.2.2.1)
  have f5_F_ob_members : Fld Z h5 ob "com/example/handfast/handfast/algorithm/Matching" "members" "Lcom/example/handfast/handfast/model/NumberSet;" .null := f_F_ob_members.other W5 (Or.inl hne.2.2.1)
  have f5_A_ae : own_A Z h5 ae .int (16) (fun z => .int (fE z)) := f_A_ae.other W5 hne.2.2.2.2.1
  have f5_A_an : own_A Z h5 an .int (32) (fun z => .int (fN z)) := f_A_an.other W5 hne.2.2.2.2.2
  have f5_K : Keep h0 h5 [ob, ae, an, ap] := K0.wr W5 (Or.inl (by simp))
  have U5 : own_A Z h5 ap .int (nn) (fun z => .int (own_up fP ya (-1 : Int32) z)) := V5.congr (fun z _ => by unfold own_up; split <;> rfl)
  have z5 : n0 ≤ h5.size := by rw [W5.size]; exact Z0
  show own_W p e (FrameEnd s) below ({ frames := 0, cells := 0, slots := 0, locals := 0 } : Room).cells ({ frames := 0, cells := 0, slots := 0, locals := 0 } : Room).slots (Q8c2 Z ob ae an ap us nn fE fN fP ya yb za zb h0 n0) T5 (mkF m 24 #[.val (.ref ob), .val (.int (0 : Int32))] [])
  refine own_aloadN X5 hx (hb hby d8_24) (v := (.ref ob)) rfl rfl (rfl : 24 + 1 = 25) ?_
  obtain ⟨T6, X6, e6, st6⟩ := getF X5 hx hZ hown (host := "") (Or.inl (hw _ (List.mem_of_getElem? (i := 15) rfl))) Via.refl e5 f5_F_ob_placeAt (g := (mkF m 25 #[.val (.ref ob), .val (.int (0 : Int32))] [(.ref ob)])) rfl rfl (hb hby d8_25)
  refine own_W.step st6 ?_
  show own_W p e (FrameEnd s) below ({ frames := 0, cells := 0, slots := 0, locals := 0 } : Room).cells ({ frames := 0, cells := 0, slots := 0, locals := 0 } : Room).slots (Q8c2 Z ob ae an ap us nn fE fN fP ya yb za zb h0 n0) T6 (mkF m 28 #[.val (.ref ob), .val (.int (0 : Int32))] [(.ref ap)])
  refine own_aloadN X6 hx (hb hby d8_28) (v := (.ref ob)) rfl rfl (rfl : 28 + 1 = 29) ?_
  obtain ⟨T7, X7, e7, st7⟩ := getF X6 hx hZ hown (host := "") (Or.inl (hw _ (List.mem_of_getElem? (i := 13) rfl))) Via.refl e6 f5_F_ob_ends (g := (mkF m 29 #[.val (.ref ob), .val (.int (0 : Int32))] [(.ref ob), (.ref ap)])) rfl rfl (hb hby d8_29)
  refine own_W.step st7 ?_
  show own_W p e (FrameEnd s) below ({ frames := 0, cells := 0, slots := 0, locals := 0 } : Room).cells ({ frames := 0, cells := 0, slots := 0, locals := 0 } : Room).slots (Q8c2 Z ob ae an ap us nn fE fN fP ya yb za zb h0 n0) T7 (mkF m 32 #[.val (.ref ob), .val (.int (0 : Int32))] [(.ref an), (.ref ap)])
  refine own_iconst X7 hx (hb hby d8_32) (2 : Int32) (by first | rfl | decide) (rfl : 32 + 1 = 33) ?_
  refine own_iloadN X7 hx (hb hby d8_33) (v := (0 : Int32)) rfl (rfl : 33 + 1 = 34) ?_
  refine own_imul X7 hx (hb hby d8_34) (rfl : 34 + 1 = 35) ?_
  refine own_iconst X7 hx (hb hby d8_35) (1 : Int32) (by first | rfl | decide) (rfl : 35 + 1 = 36) ?_
  refine own_iadd X7 hx (hb hby d8_36) (rfl : 36 + 1 = 37) ?_
  have hi8 : own_In (((2 : Int32) * (0 : Int32)) + (1 : Int32)) (1) (32) := ⟨by decide, by decide⟩
  refine own_iaload X7 hx hZ e7 f5_A_an hi8 (v := (fN (1))) rfl (g := (mkF m 37 #[.val (.ref ob), .val (.int (0 : Int32))] [(.int (((2 : Int32) * (0 : Int32)) + (1 : Int32))), (.ref an), (.ref ap)])) rfl rfl (hb hby d8_37) ?_
  show own_W p e (FrameEnd s) below ({ frames := 0, cells := 0, slots := 0, locals := 0 } : Room).cells ({ frames := 0, cells := 0, slots := 0, locals := 0 } : Room).slots (Q8c2 Z ob ae an ap us nn fE fN fP ya yb za zb h0 n0) T7 (mkF m 38 #[.val (.ref ob), .val (.int (0 : Int32))] [(.int (fN (1))), (.ref ap)])
  refine own_iconst X7 hx (hb hby d8_38) (-1 : Int32) (by first | rfl | decide) (rfl : 38 + 1 = 39) ?_
  have hi9 : own_In (fN (1)) (yb) (nn) := hyb
  obtain ⟨T9, h9, X9, e9, W9, V9, st9⟩ := own_stI X7 hx hZ e7 U5 hi9 (g := (mkF m 39 #[.val (.ref ob), .val (.int (0 : Int32))] [(.int (-1 : Int32)), (.int (fN (1))), (.ref ap)])) rfl rfl (hb hby d8_39)
  refine own_W.step st9 ?_
  have N9 := Fr.snoc X9 N5 g_ap
  have f9_E_ob : Exa Z h9 ob "com/example/handfast/handfast/algorithm/Matching" := f5_E_ob.wr W9
  have f9_F_ob_edges : Fld Z h9 ob "com/example/handfast/handfast/algorithm/Matching" "edges" "[I" (.ref ae) := f5_F_ob_edges.other W9 (Or.inl hne.2.2.1)
  have f9_F_ob_ends : Fld Z h9 ob "com/example/handfast/handfast/algorithm/Matching" "ends" "[I" (.ref an) := f5_F_ob_ends.other W9 (Or.inl hne.2.2.1)
  have f9_F_ob_placeAt : Fld Z h9 ob "com/example/handfast/handfast/algorithm/Matching" "placeAt" "[I" (.ref ap) := f5_F_ob_placeAt.other W9 (Or.inl hne.2.2.1)
  have f9_F_ob_size : Fld Z h9 ob "com/example/handfast/handfast/algorithm/Matching" "size" "I" (.int us) := f5_F_ob_size.other W9 (Or.inl hne.2.2.1)
  have f9_F_ob_members : Fld Z h9 ob "com/example/handfast/handfast/algorithm/Matching" "members" "Lcom/example/handfast/handfast/model/NumberSet;" .null := f5_F_ob_members.other W9 (Or.inl hne.2.2.1)
  have f9_A_ae : own_A Z h9 ae .int (16) (fun z => .int (fE z)) := f5_A_ae.other W9 hne.2.2.2.2.1
  have f9_A_an : own_A Z h9 an .int (32) (fun z => .int (fN z)) := f5_A_an.other W9 hne.2.2.2.2.2
  have f9_K : Keep h0 h9 [ob, ae, an, ap] := f5_K.wr W9 (Or.inl (by simp))
  have U9 : own_A Z h9 ap .int (nn) (fun z => .int (own_up (own_up fP ya (-1 : Int32)) yb (-1 : Int32) z)) := V9.congr (fun z _ => by unfold own_up; split <;> rfl)
  have z9 : n0 ≤ h9.size := by rw [W9.size]; exact z5
  show own_W p e (FrameEnd s) below ({ frames := 0, cells := 0, slots := 0, locals := 0 } : Room).cells ({ frames := 0, cells := 0, slots := 0, locals := 0 } : Room).slots (Q8c2 Z ob ae an ap us nn fE fN fP ya yb za zb h0 n0) T9 (mkF m 40 #[.val (.ref ob), .val (.int (0 : Int32))] [])
  refine own_aloadN X9 hx (hb hby d8_40) (v := (.ref ob)) rfl rfl (rfl : 40 + 1 = 41) ?_
  obtain ⟨T10, X10, e10, st10⟩ := getF X9 hx hZ hown (host := "") (Or.inl (hw _ (List.mem_of_getElem? (i := 28) rfl))) Via.refl e9 f9_F_ob_members (g := (mkF m 41 #[.val (.ref ob), .val (.int (0 : Int32))] [(.ref ob)])) rfl rfl (hb hby d8_41)
  refine own_W.step st10 ?_
  show own_W p e (FrameEnd s) below ({ frames := 0, cells := 0, slots := 0, locals := 0 } : Room).cells ({ frames := 0, cells := 0, slots := 0, locals := 0 } : Room).slots (Q8c2 Z ob ae an ap us nn fE fN fP ya yb za zb h0 n0) T10 (mkF m 44 #[.val (.ref ob), .val (.int (0 : Int32))] [.null])
  refine own_ifnullYes X10 hx (hb hby d8_44) (pc' := 61) (by decide) (by decide) ?_
  refine own_iinc X10 hx (hb hby d8_61) (1 : Int32) rfl (x := (0 : Int32)) rfl (l' := #[.val (.ref ob), .val (.int ((0 : Int32) + (1 : Int32)))]) rfl (rfl : 61 + 3 = 64) ?_
  refine own_goto X10 hx (hb hby d8_64) (pc' := 2) (by decide) (by decide) ?_
  refine own_iloadN X10 hx (hb hby d8_2) (v := ((0 : Int32) + (1 : Int32))) rfl (rfl : 2 + 1 = 3) ?_
  refine own_aloadN X10 hx (hb hby d8_3) (v := (.ref ob)) rfl rfl (rfl : 3 + 1 = 4) ?_
  obtain ⟨T11, X11, e11, st11⟩ := getF X10 hx hZ hown (host := "") (Or.inl (hw _ (List.mem_of_getElem? (i := 26) rfl))) Via.refl e10 f9_F_ob_size (g := (mkF m 4 #[.val (.ref ob), .val (.int ((0 : Int32) + (1 : Int32)))] [(.ref ob), (.int ((0 : Int32) + (1 : Int32)))])) rfl rfl (hb hby d8_4)
  refine own_W.step st11 ?_
  show own_W p e (FrameEnd s) below ({ frames := 0, cells := 0, slots := 0, locals := 0 } : Room).cells ({ frames := 0, cells := 0, slots := 0, locals := 0 } : Room).slots (Q8c2 Z ob ae an ap us nn fE fN fP ya yb za zb h0 n0) T11 (mkF m 7 #[.val (.ref ob), .val (.int ((0 : Int32) + (1 : Int32)))] [(.int us), (.int ((0 : Int32) + (1 : Int32)))])
  have hc7 : ((0 : Int32) + (1 : Int32)) < us := by rw [Int32.lt_iff_toInt_lt, hus]; decide
  refine own_icmpNo X11 hx (hb hby d8_7) (tlt hc7).2.1 (rfl : 7 + 3 = 10) ?_
  refine own_aloadN X11 hx (hb hby d8_10) (v := (.ref ob)) rfl rfl (rfl : 10 + 1 = 11) ?_
  obtain ⟨T12, X12, e12, st12⟩ := getF X11 hx hZ hown (host := "") (Or.inl (hw _ (List.mem_of_getElem? (i := 15) rfl))) Via.refl e11 f9_F_ob_placeAt (g := (mkF m 11 #[.val (.ref ob), .val (.int ((0 : Int32) + (1 : Int32)))] [(.ref ob)])) rfl rfl (hb hby d8_11)
  refine own_W.step st12 ?_
  show own_W p e (FrameEnd s) below ({ frames := 0, cells := 0, slots := 0, locals := 0 } : Room).cells ({ frames := 0, cells := 0, slots := 0, locals := 0 } : Room).slots (Q8c2 Z ob ae an ap us nn fE fN fP ya yb za zb h0 n0) T12 (mkF m 14 #[.val (.ref ob), .val (.int ((0 : Int32) + (1 : Int32)))] [(.ref ap)])
  refine own_aloadN X12 hx (hb hby d8_14) (v := (.ref ob)) rfl rfl (rfl : 14 + 1 = 15) ?_
  obtain ⟨T13, X13, e13, st13⟩ := getF X12 hx hZ hown (host := "") (Or.inl (hw _ (List.mem_of_getElem? (i := 13) rfl))) Via.refl e12 f9_F_ob_ends (g := (mkF m 15 #[.val (.ref ob), .val (.int ((0 : Int32) + (1 : Int32)))] [(.ref ob), (.ref ap)])) rfl rfl (hb hby d8_15)
  refine own_W.step st13 ?_
  show own_W p e (FrameEnd s) below ({ frames := 0, cells := 0, slots := 0, locals := 0 } : Room).cells ({ frames := 0, cells := 0, slots := 0, locals := 0 } : Room).slots (Q8c2 Z ob ae an ap us nn fE fN fP ya yb za zb h0 n0) T13 (mkF m 18 #[.val (.ref ob), .val (.int ((0 : Int32) + (1 : Int32)))] [(.ref an), (.ref ap)])
  refine own_iconst X13 hx (hb hby d8_18) (2 : Int32) (by first | rfl | decide) (rfl : 18 + 1 = 19) ?_
  refine own_iloadN X13 hx (hb hby d8_19) (v := ((0 : Int32) + (1 : Int32))) rfl (rfl : 19 + 1 = 20) ?_
  refine own_imul X13 hx (hb hby d8_20) (rfl : 20 + 1 = 21) ?_
  have hi14 : own_In ((2 : Int32) * ((0 : Int32) + (1 : Int32))) (2) (32) := ⟨by decide, by decide⟩
  refine own_iaload X13 hx hZ e13 f9_A_an hi14 (v := (fN (2))) rfl (g := (mkF m 21 #[.val (.ref ob), .val (.int ((0 : Int32) + (1 : Int32)))] [(.int ((2 : Int32) * ((0 : Int32) + (1 : Int32)))), (.ref an), (.ref ap)])) rfl rfl (hb hby d8_21) ?_
  show own_W p e (FrameEnd s) below ({ frames := 0, cells := 0, slots := 0, locals := 0 } : Room).cells ({ frames := 0, cells := 0, slots := 0, locals := 0 } : Room).slots (Q8c2 Z ob ae an ap us nn fE fN fP ya yb za zb h0 n0) T13 (mkF m 22 #[.val (.ref ob), .val (.int ((0 : Int32) + (1 : Int32)))] [(.int (fN (2))), (.ref ap)])
  refine own_iconst X13 hx (hb hby d8_22) (-1 : Int32) (by first | rfl | decide) (rfl : 22 + 1 = 23) ?_
  have hi15 : own_In (fN (2)) (za) (nn) := hza
  obtain ⟨T15, h15, X15, e15, W15, V15, st15⟩ := own_stI X13 hx hZ e13 U9 hi15 (g := (mkF m 23 #[.val (.ref ob), .val (.int ((0 : Int32) + (1 : Int32)))] [(.int (-1 : Int32)), (.int (fN (2))), (.ref ap)])) rfl rfl (hb hby d8_23)
  refine own_W.step st15 ?_
  have N15 := Fr.snoc X15 N9 g_ap
  have f15_E_ob : Exa Z h15 ob "com/example/handfast/handfast/algorithm/Matching" := f9_E_ob.wr W15
  have f15_F_ob_edges : Fld Z h15 ob "com/example/handfast/handfast/algorithm/Matching" "edges" "[I" (.ref ae) := f9_F_ob_edges.other W15 (Or.inl hne.2.2.1)
  have f15_F_ob_ends : Fld Z h15 ob "com/example/handfast/handfast/algorithm/Matching" "ends" "[I" (.ref an) := f9_F_ob_ends.other W15 (Or.inl hne.2.2.1)
  have f15_F_ob_placeAt : Fld Z h15 ob "com/example/handfast/handfast/algorithm/Matching" "placeAt" "[I" (.ref ap) := f9_F_ob_placeAt.other W15 (Or.inl hne.2.2.1)
  have f15_F_ob_size : Fld Z h15 ob "com/example/handfast/handfast/algorithm/Matching" "size" "I" (.int us) := f9_F_ob_size.other W15 (Or.inl hne.2.2.1)
  have f15_F_ob_members : Fld Z h15 ob "com/example/handfast/handfast/algorithm/Matching" "members" "Lcom/example/handfast/handfast/model/NumberSet;" .null := f9_F_ob_members.other W15 (Or.inl hne.2.2.1)
  have f15_A_ae : own_A Z h15 ae .int (16) (fun z => .int (fE z)) := f9_A_ae.other W15 hne.2.2.2.2.1
  have f15_A_an : own_A Z h15 an .int (32) (fun z => .int (fN z)) := f9_A_an.other W15 hne.2.2.2.2.2
  have f15_K : Keep h0 h15 [ob, ae, an, ap] := f9_K.wr W15 (Or.inl (by simp))
  have U15 : own_A Z h15 ap .int (nn) (fun z => .int (own_up (own_up (own_up fP ya (-1 : Int32)) yb (-1 : Int32)) za (-1 : Int32) z)) := V15.congr (fun z _ => by unfold own_up; split <;> rfl)
  have z15 : n0 ≤ h15.size := by rw [W15.size]; exact z9
  show own_W p e (FrameEnd s) below ({ frames := 0, cells := 0, slots := 0, locals := 0 } : Room).cells ({ frames := 0, cells := 0, slots := 0, locals := 0 } : Room).slots (Q8c2 Z ob ae an ap us nn fE fN fP ya yb za zb h0 n0) T15 (mkF m 24 #[.val (.ref ob), .val (.int ((0 : Int32) + (1 : Int32)))] [])
  refine own_aloadN X15 hx (hb hby d8_24) (v := (.ref ob)) rfl rfl (rfl : 24 + 1 = 25) ?_
  obtain ⟨T16, X16, e16, st16⟩ := getF X15 hx hZ hown (host := "") (Or.inl (hw _ (List.mem_of_getElem? (i := 15) rfl))) Via.refl e15 f15_F_ob_placeAt (g := (mkF m 25 #[.val (.ref ob), .val (.int ((0 : Int32) + (1 : Int32)))] [(.ref ob)])) rfl rfl (hb hby d8_25)
  refine own_W.step st16 ?_
  show own_W p e (FrameEnd s) below ({ frames := 0, cells := 0, slots := 0, locals := 0 } : Room).cells ({ frames := 0, cells := 0, slots := 0, locals := 0 } : Room).slots (Q8c2 Z ob ae an ap us nn fE fN fP ya yb za zb h0 n0) T16 (mkF m 28 #[.val (.ref ob), .val (.int ((0 : Int32) + (1 : Int32)))] [(.ref ap)])
  refine own_aloadN X16 hx (hb hby d8_28) (v := (.ref ob)) rfl rfl (rfl : 28 + 1 = 29) ?_
  obtain ⟨T17, X17, e17, st17⟩ := getF X16 hx hZ hown (host := "") (Or.inl (hw _ (List.mem_of_getElem? (i := 13) rfl))) Via.refl e16 f15_F_ob_ends (g := (mkF m 29 #[.val (.ref ob), .val (.int ((0 : Int32) + (1 : Int32)))] [(.ref ob), (.ref ap)])) rfl rfl (hb hby d8_29)
  refine own_W.step st17 ?_
  show own_W p e (FrameEnd s) below ({ frames := 0, cells := 0, slots := 0, locals := 0 } : Room).cells ({ frames := 0, cells := 0, slots := 0, locals := 0 } : Room).slots (Q8c2 Z ob ae an ap us nn fE fN fP ya yb za zb h0 n0) T17 (mkF m 32 #[.val (.ref ob), .val (.int ((0 : Int32) + (1 : Int32)))] [(.ref an), (.ref ap)])
  refine own_iconst X17 hx (hb hby d8_32) (2 : Int32) (by first | rfl | decide) (rfl : 32 + 1 = 33) ?_
  refine own_iloadN X17 hx (hb hby d8_33) (v := ((0 : Int32) + (1 : Int32))) rfl (rfl : 33 + 1 = 34) ?_
  refine own_imul X17 hx (hb hby d8_34) (rfl : 34 + 1 = 35) ?_
  refine own_iconst X17 hx (hb hby d8_35) (1 : Int32) (by first | rfl | decide) (rfl : 35 + 1 = 36) ?_
  refine own_iadd X17 hx (hb hby d8_36) (rfl : 36 + 1 = 37) ?_
  have hi18 : own_In (((2 : Int32) * ((0 : Int32) + (1 : Int32))) + (1 : Int32)) (3) (32) := ⟨by decide, by decide⟩
  refine own_iaload X17 hx hZ e17 f15_A_an hi18 (v := (fN (3))) rfl (g := (mkF m 37 #[.val (.ref ob), .val (.int ((0 : Int32) + (1 : Int32)))] [(.int (((2 : Int32) * ((0 : Int32) + (1 : Int32))) + (1 : Int32))), (.ref an), (.ref ap)])) rfl rfl (hb hby d8_37) ?_
  show own_W p e (FrameEnd s) below ({ frames := 0, cells := 0, slots := 0, locals := 0 } : Room).cells ({ frames := 0, cells := 0, slots := 0, locals := 0 } : Room).slots (Q8c2 Z ob ae an ap us nn fE fN fP ya yb za zb h0 n0) T17 (mkF m 38 #[.val (.ref ob), .val (.int ((0 : Int32) + (1 : Int32)))] [(.int (fN (3))), (.ref ap)])
  refine own_iconst X17 hx (hb hby d8_38) (-1 : Int32) (by first | rfl | decide) (rfl : 38 + 1 = 39) ?_
  have hi19 : own_In (fN (3)) (zb) (nn) := hzb
  obtain ⟨T19, h19, X19, e19, W19, V19, st19⟩ := own_stI X17 hx hZ e17 U15 hi19 (g := (mkF m 39 #[.val (.ref ob), .val (.int ((0 : Int32) + (1 : Int32)))] [(.int (-1 : Int32)), (.int (fN (3))), (.ref ap)])) rfl rfl (hb hby d8_39)
  refine own_W.step st19 ?_
  have N19 := Fr.snoc X19 N15 g_ap
  have f19_E_ob : Exa Z h19 ob "com/example/handfast/handfast/algorithm/Matching" := f15_E_ob.wr W19
  have f19_F_ob_edges : Fld Z h19 ob "com/example/handfast/handfast/algorithm/Matching" "edges" "[I" (.ref ae) := f15_F_ob_edges.other W19 (Or.inl hne.2.2.1)
  have f19_F_ob_ends : Fld Z h19 ob "com/example/handfast/handfast/algorithm/Matching" "ends" "[I" (.ref an) := f15_F_ob_ends.other W19 (Or.inl hne.2.2.1)
  have f19_F_ob_placeAt : Fld Z h19 ob "com/example/handfast/handfast/algorithm/Matching" "placeAt" "[I" (.ref ap) := f15_F_ob_placeAt.other W19 (Or.inl hne.2.2.1)
  have f19_F_ob_size : Fld Z h19 ob "com/example/handfast/handfast/algorithm/Matching" "size" "I" (.int us) := f15_F_ob_size.other W19 (Or.inl hne.2.2.1)
  have f19_F_ob_members : Fld Z h19 ob "com/example/handfast/handfast/algorithm/Matching" "members" "Lcom/example/handfast/handfast/model/NumberSet;" .null := f15_F_ob_members.other W19 (Or.inl hne.2.2.1)
  have f19_A_ae : own_A Z h19 ae .int (16) (fun z => .int (fE z)) := f15_A_ae.other W19 hne.2.2.2.2.1
  have f19_A_an : own_A Z h19 an .int (32) (fun z => .int (fN z)) := f15_A_an.other W19 hne.2.2.2.2.2
  have f19_K : Keep h0 h19 [ob, ae, an, ap] := f15_K.wr W19 (Or.inl (by simp))
  have U19 : own_A Z h19 ap .int (nn) (fun z => .int (own_up (own_up (own_up (own_up fP ya (-1 : Int32)) yb (-1 : Int32)) za (-1 : Int32)) zb (-1 : Int32) z)) := V19.congr (fun z _ => by unfold own_up; split <;> rfl)
  have z19 : n0 ≤ h19.size := by rw [W19.size]; exact z15
  show own_W p e (FrameEnd s) below ({ frames := 0, cells := 0, slots := 0, locals := 0 } : Room).cells ({ frames := 0, cells := 0, slots := 0, locals := 0 } : Room).slots (Q8c2 Z ob ae an ap us nn fE fN fP ya yb za zb h0 n0) T19 (mkF m 40 #[.val (.ref ob), .val (.int ((0 : Int32) + (1 : Int32)))] [])
  refine own_aloadN X19 hx (hb hby d8_40) (v := (.ref ob)) rfl rfl (rfl : 40 + 1 = 41) ?_
  obtain ⟨T20, X20, e20, st20⟩ := getF X19 hx hZ hown (host := "") (Or.inl (hw _ (List.mem_of_getElem? (i := 28) rfl))) Via.refl e19 f19_F_ob_members (g := (mkF m 41 #[.val (.ref ob), .val (.int ((0 : Int32) + (1 : Int32)))] [(.ref ob)])) rfl rfl (hb hby d8_41)
  refine own_W.step st20 ?_
  show own_W p e (FrameEnd s) below ({ frames := 0, cells := 0, slots := 0, locals := 0 } : Room).cells ({ frames := 0, cells := 0, slots := 0, locals := 0 } : Room).slots (Q8c2 Z ob ae an ap us nn fE fN fP ya yb za zb h0 n0) T20 (mkF m 44 #[.val (.ref ob), .val (.int ((0 : Int32) + (1 : Int32)))] [.null])
  refine own_ifnullYes X20 hx (hb hby d8_44) (pc' := 61) (by decide) (by decide) ?_
  refine own_iinc X20 hx (hb hby d8_61) (1 : Int32) rfl (x := ((0 : Int32) + (1 : Int32))) rfl (l' := #[.val (.ref ob), .val (.int (((0 : Int32) + (1 : Int32)) + (1 : Int32)))]) rfl (rfl : 61 + 3 = 64) ?_
  refine own_goto X20 hx (hb hby d8_64) (pc' := 2) (by decide) (by decide) ?_
  refine own_iloadN X20 hx (hb hby d8_2) (v := (((0 : Int32) + (1 : Int32)) + (1 : Int32))) rfl (rfl : 2 + 1 = 3) ?_
  refine own_aloadN X20 hx (hb hby d8_3) (v := (.ref ob)) rfl rfl (rfl : 3 + 1 = 4) ?_
  obtain ⟨T21, X21, e21, st21⟩ := getF X20 hx hZ hown (host := "") (Or.inl (hw _ (List.mem_of_getElem? (i := 26) rfl))) Via.refl e20 f19_F_ob_size (g := (mkF m 4 #[.val (.ref ob), .val (.int (((0 : Int32) + (1 : Int32)) + (1 : Int32)))] [(.ref ob), (.int (((0 : Int32) + (1 : Int32)) + (1 : Int32)))])) rfl rfl (hb hby d8_4)
  refine own_W.step st21 ?_
  show own_W p e (FrameEnd s) below ({ frames := 0, cells := 0, slots := 0, locals := 0 } : Room).cells ({ frames := 0, cells := 0, slots := 0, locals := 0 } : Room).slots (Q8c2 Z ob ae an ap us nn fE fN fP ya yb za zb h0 n0) T21 (mkF m 7 #[.val (.ref ob), .val (.int (((0 : Int32) + (1 : Int32)) + (1 : Int32)))] [(.int us), (.int (((0 : Int32) + (1 : Int32)) + (1 : Int32)))])
  have hc7 : ¬ ((((0 : Int32) + (1 : Int32)) + (1 : Int32)) < us) := by rw [Int32.lt_iff_toInt_lt, hus]; decide
  refine own_icmpYes X21 hx (hb hby d8_7) (flt hc7).2.1 (pc' := 67) (by decide) (by decide) ?_
  refine own_aloadN X21 hx (hb hby d8_67) (v := (.ref ob)) rfl rfl (rfl : 67 + 1 = 68) ?_
  refine own_iconst X21 hx (hb hby d8_68) (0 : Int32) (by first | rfl | decide) (rfl : 68 + 1 = 69) ?_
  obtain ⟨T22, h22, X22, e22, W22, st22⟩ := putF X21 hx hZ hown (host := "") (Or.inl (hw _ (List.mem_of_getElem? (i := 26) rfl))) Via.refl e21 f19_F_ob_size f19_E_ob (Or.inl (hw _ (List.mem_of_getElem? (i := 27) rfl))) (hw _ (List.mem_of_getElem? (i := 2) rfl)) (ty := .int) (by decide) rfl rfl (g := (mkF m 69 #[.val (.ref ob), .val (.int (((0 : Int32) + (1 : Int32)) + (1 : Int32)))] [(.int (0 : Int32)), (.ref ob)])) rfl rfl (hb hby d8_69)
  refine own_W.step st22 ?_
  have N22 := Fr.snoc X22 N19 g_ob
  have f22_E_ob : Exa Z h22 ob "com/example/handfast/handfast/algorithm/Matching" := f19_E_ob.wr W22
  have f22_F_ob_edges : Fld Z h22 ob "com/example/handfast/handfast/algorithm/Matching" "edges" "[I" (.ref ae) := f19_F_ob_edges.other W22 (Or.inr (slot_ne (Or.inl (hw _ (List.mem_of_getElem? (i := 12) rfl))) (Or.inl (hw _ (List.mem_of_getElem? (i := 27) rfl))) (by decide) (t := (.array .int)) (t' := .int) (by decide) (by decide)))
  have f22_F_ob_ends : Fld Z h22 ob "com/example/handfast/handfast/algorithm/Matching" "ends" "[I" (.ref an) := f19_F_ob_ends.other W22 (Or.inr (slot_ne (Or.inl (hw _ (List.mem_of_getElem? (i := 14) rfl))) (Or.inl (hw _ (List.mem_of_getElem? (i := 27) rfl))) (by decide) (t := (.array .int)) (t' := .int) (by decide) (by decide)))
  have f22_F_ob_placeAt : Fld Z h22 ob "com/example/handfast/handfast/algorithm/Matching" "placeAt" "[I" (.ref ap) := f19_F_ob_placeAt.other W22 (Or.inr (slot_ne (Or.inr (hw _ (List.mem_of_getElem? (i := 16) rfl))) (Or.inl (hw _ (List.mem_of_getElem? (i := 27) rfl))) (by decide) (t := (.array .int)) (t' := .int) (by decide) (by decide)))
  have f22_F_ob_members : Fld Z h22 ob "com/example/handfast/handfast/algorithm/Matching" "members" "Lcom/example/handfast/handfast/model/NumberSet;" .null := f19_F_ob_members.other W22 (Or.inr (slot_ne (Or.inl (hw _ (List.mem_of_getElem? (i := 29) rfl))) (Or.inl (hw _ (List.mem_of_getElem? (i := 27) rfl))) (by decide) (t := (.object "com/example/handfast/handfast/model/NumberSet")) (t' := .int) (by decide) (by decide)))
  have f22_A_ae : own_A Z h22 ae .int (16) (fun z => .int (fE z)) := f19_A_ae.other W22 (Ne.symm hne.1)
  have f22_A_an : own_A Z h22 an .int (32) (fun z => .int (fN z)) := f19_A_an.other W22 (Ne.symm hne.2.1)
  have f22_A_ap : own_A Z h22 ap .int (nn) (fun z => .int (own_up (own_up (own_up (own_up fP ya (-1 : Int32)) yb (-1 : Int32)) za (-1 : Int32)) zb (-1 : Int32) z)) := U19.other W22 (Ne.symm hne.2.2.1)
  have f22_K : Keep h0 h22 [ob, ae, an, ap] := f19_K.wr W22 (Or.inl (by simp))
  have fw22 : Fld Z h22 ob "com/example/handfast/handfast/algorithm/Matching" "size" "I" (.int (0 : Int32)) := f19_F_ob_size.same W22
  have z22 : n0 ≤ h22.size := by rw [W22.size]; exact z19
  show own_W p e (FrameEnd s) below ({ frames := 0, cells := 0, slots := 0, locals := 0 } : Room).cells ({ frames := 0, cells := 0, slots := 0, locals := 0 } : Room).slots (Q8c2 Z ob ae an ap us nn fE fN fP ya yb za zb h0 n0) T22 (mkF m 72 #[.val (.ref ob), .val (.int (((0 : Int32) + (1 : Int32)) + (1 : Int32)))] [])
  refine own_retV X22 hx hlk hret (hb hby d8_72) (by decide) (by decide) ?_
  show Q8c2 Z ob ae an ap us nn fE fN fP ya yb za zb h0 n0 none T22.heap _
  rw [e22]
  exact ⟨rfl, N22, f22_K, f22_E_ob, f22_F_ob_edges, f22_F_ob_ends, f22_F_ob_placeAt, fw22, f22_F_ob_members, f22_A_ae, f22_A_an, f22_A_ap⟩
theorem own_mo (p : Int32) : True := trivial
theorem own_pd__I_V : parseMethodDescriptor "(I)V" = some ⟨[.int], none⟩ := by decide +kernel
theorem own_pd__III_V : parseMethodDescriptor "(III)V" = some ⟨[.int, .int, .int], none⟩ := by decide +kernel
theorem own_pd__I_Z : parseMethodDescriptor "(I)Z" = some ⟨[.int], some .boolean⟩ := by decide +kernel
theorem own_pd__IIIIIZZ_Z : parseMethodDescriptor "(IIIIIZZ)Z" = some ⟨[.int, .int, .int, .int, .int, .boolean, .boolean], some .boolean⟩ := by decide +kernel
theorem own_pd___V : parseMethodDescriptor "()V" = some ⟨[], none⟩ := by decide +kernel
theorem ef_0 (m : MethodId) (pa : Int32) (pb : Int32) (pc : Int32) (pe1 : Int32) (pe2 : Int32) (pf : Int32) : entryFrame m #[(.int pa), (.int pb), (.int pc), (.int pe1), (.int pe2), (.int pf)] maxLocals = mkF m 0 #[.val (.int pa), .val (.int pb), .val (.int pc), .val (.int pe1), .val (.int pe2), .val (.int pf), .unset, .unset, .unset, .unset, .unset, .unset, .unset, .unset, .unset, .unset, .unset, .unset, .unset, .unset, .unset] [] := by first | (simp [entryFrame, mkF, argsToLocals, Value.category, maxLocals]; done) | rfl
def Q0 (Z : State) (pa : Int32) (pb : Int32) (pc : Int32) (pe1 : Int32) (pe2 : Int32) (pf : Int32)  (h0 : Heap) (n0 : Nat) (v : Option Value) (h : Heap) (L : List Loc) : Prop := v = some (.int 1) ∧ Fr n0 L
set_option maxRecDepth 65536 in
set_option maxHeartbeats 40000000 in
theorem rm0 (l : Launch) (Z : State) (a0 : Array Value) (hw : ∀ d ∈ tables_1, d.before a0 Z = true) (ws : List Jvm.Cond) (pa : Int32) (pb : Int32) (pc : Int32) (pe1 : Int32) (pe2 : Int32) (pf : Int32)  (h0 : Heap) (n0 : Nat) (Z0 : n0 ≤ h0.size)  :
    MetFree l x (head1 (Jvm.Cond.code x code maxLocals ret :: ws) room_1) (fun avs U => avs = #[(.int pa), (.int pb), (.int pc), (.int pe1), (.int pe2), (.int pf)] ∧ Z.Warmed39 U.vm ∧ U.heap = h0) (fun _ _ _ _ _ => True) (fun _ U o U' => ∃ v L, o = .returned v ∧ Q0 Z pa pb pc pe1 pe2 pf h0 n0 v U'.heap L ∧ FrameEnd U o U' L room_1.cells room_1.slots) := by
  refine MetFree.of_bodySF (plainFor_of_name own_pn_com_example_handfast_handfast_algorithm_MatchingIsFreePinLaw) hisR ?_
  intro p e s m args below meth c s₁ Bd hml0 hP hK
  obtain ⟨rfl, hZ, hh⟩ := hP
  have hx := Bd.exec
  have hby := Bd.bytes
  have hml : c.maxLocals = 21 := hml0
  have hown : s.vm.findClass "com/example/handfast/handfast/algorithm/MatchingIsFreePinLaw" = some m.cls := findClass_of_methodNamed Bd.named
  have hnm := (name_of_methodNamed Bd.named Bd.method).1
  have hlk := Bd.notSynchronized
  have hret := Bd.returns
  have X0 : Stand p l e room_1 s m #[(.int pa), (.int pb), (.int pc), (.int pe1), (.int pe2), (.int pf)] below meth c s₁ [] 0 0 := Stand.of_body Bd
  have e0 : s₁.heap = h0 := by rw [← hh, Bd.state]; rfl
  have N0 := Fr.nil n0
  show own_W p e (FrameEnd s) below room_1.cells room_1.slots (Q0 Z pa pb pc pe1 pe2 pf h0 n0) s₁ (entryFrame m #[(.int pa), (.int pb), (.int pc), (.int pe1), (.int pe2), (.int pf)] maxLocals)
  rw [ef_0]
  refine own_iloadN X0 hx (hb hby at_0) (v := pa) rfl (rfl : 0 + 1 = 1) ?_
  refine own_iconst X0 hx (hb hby at_1) (3 : Int32) (by first | rfl | decide) (rfl : 1 + 1 = 2) ?_
  refine own_iand X0 hx (hb hby at_2) (rfl : 2 + 1 = 3) ?_
  refine own_istore X0 hx (hb hby at_3) (l' := #[.val (.int pa), .val (.int pb), .val (.int pc), .val (.int pe1), .val (.int pe2), .val (.int pf), .val (.int (pa &&& (3 : Int32))), .unset, .unset, .unset, .unset, .unset, .unset, .unset, .unset, .unset, .unset, .unset, .unset, .unset, .unset]) rfl (rfl : 3 + 2 = 5) ?_
  obtain ⟨u1, hu1⟩ : ∃ z : Int32, z = (pa &&& (3 : Int32)) := ⟨_, rfl⟩
  rw [← hu1]
  show own_W p e (FrameEnd s) below room_1.cells room_1.slots (Q0 Z pa pb pc pe1 pe2 pf h0 n0) s₁ (mkF m 5 #[.val (.int pa), .val (.int pb), .val (.int pc), .val (.int pe1), .val (.int pe2), .val (.int pf), .val (.int u1), .unset, .unset, .unset, .unset, .unset, .unset, .unset, .unset, .unset, .unset, .unset, .unset, .unset, .unset] [])
  refine own_iload X0 hx (hb hby at_5) (v := u1) rfl (rfl : 5 + 2 = 7) ?_
  refine own_iconst X0 hx (hb hby at_7) (1 : Int32) (by first | rfl | decide) (rfl : 7 + 1 = 8) ?_
  refine own_iadd X0 hx (hb hby at_8) (rfl : 8 + 1 = 9) ?_
  refine own_iloadN X0 hx (hb hby at_9) (v := pb) rfl (rfl : 9 + 1 = 10) ?_
  refine own_ldcInt X0 hx hown (mvT hZ (hw _ (List.mem_of_getElem? (i := 0) rfl))) (hb hby at_10) (rfl : 10 + 2 = 12) ?_
  refine own_iand X0 hx (hb hby at_12) (rfl : 12 + 1 = 13) ?_
  refine own_iconst X0 hx (hb hby at_13) (3 : Int32) (by first | rfl | decide) (rfl : 13 + 1 = 14) ?_
  refine own_irem X0 hx (hb hby at_14) (by decide) (rfl : 14 + 1 = 15) ?_
  refine own_iadd X0 hx (hb hby at_15) (rfl : 15 + 1 = 16) ?_
  refine own_iconst X0 hx (hb hby at_16) (3 : Int32) (by first | rfl | decide) (rfl : 16 + 1 = 17) ?_
  refine own_iand X0 hx (hb hby at_17) (rfl : 17 + 1 = 18) ?_
  refine own_istore X0 hx (hb hby at_18) (l' := #[.val (.int pa), .val (.int pb), .val (.int pc), .val (.int pe1), .val (.int pe2), .val (.int pf), .val (.int u1), .val (.int (((u1 + (1 : Int32)) + ((pb &&& (2147483647 : Int32)) % (3 : Int32))) &&& (3 : Int32))), .unset, .unset, .unset, .unset, .unset, .unset, .unset, .unset, .unset, .unset, .unset, .unset, .unset]) rfl (rfl : 18 + 2 = 20) ?_
  obtain ⟨u2, hu2⟩ : ∃ z : Int32, z = (((u1 + (1 : Int32)) + ((pb &&& (2147483647 : Int32)) % (3 : Int32))) &&& (3 : Int32)) := ⟨_, rfl⟩
  rw [← hu2]
  show own_W p e (FrameEnd s) below room_1.cells room_1.slots (Q0 Z pa pb pc pe1 pe2 pf h0 n0) s₁ (mkF m 20 #[.val (.int pa), .val (.int pb), .val (.int pc), .val (.int pe1), .val (.int pe2), .val (.int pf), .val (.int u1), .val (.int u2), .unset, .unset, .unset, .unset, .unset, .unset, .unset, .unset, .unset, .unset, .unset, .unset, .unset] [])
  have bu1 := own_u1 pa
  rw [← hu1] at bu1
  have bu2 := own_u2 pb u1 bu1
  rw [← hu2] at bu2
  have t0 : (0 : Int32).toInt = 0 := by decide
  have t1 : (1 : Int32).toInt = 1 := by decide
  have t2 : (2 : Int32).toInt = 2 := by decide
  refine own_iload X0 hx (hb hby at_20) (v := u1) rfl (rfl : 20 + 2 = 22) ?_
  have J51 : ∀ (w1 : Int32), ∀ (hw1 : 0 ≤ w1.toInt ∧ w1.toInt ≤ 2 ∧ w1.toInt ≠ u1.toInt ∧ w1.toInt ≠ u2.toInt), own_W p e (FrameEnd s) below room_1.cells room_1.slots (Q0 Z pa pb pc pe1 pe2 pf h0 n0) s₁ (mkF m 51 #[.val (.int pa), .val (.int pb), .val (.int pc), .val (.int pe1), .val (.int pe2), .val (.int pf), .val (.int u1), .val (.int u2), .unset, .unset, .unset, .unset, .unset, .unset, .unset, .unset, .unset, .unset, .unset, .unset, .unset] [(.int w1)]) := by
    intro w1 hw1
    refine own_istore X0 hx (hb hby at_51) (l' := #[.val (.int pa), .val (.int pb), .val (.int pc), .val (.int pe1), .val (.int pe2), .val (.int pf), .val (.int u1), .val (.int u2), .val (.int w1), .unset, .unset, .unset, .unset, .unset, .unset, .unset, .unset, .unset, .unset, .unset, .unset]) rfl (rfl : 51 + 2 = 53) ?_
    refine own_bipush X0 hx (hb hby at_53) (6 : Int32) (by first | rfl | decide) (rfl : 53 + 2 = 55) ?_
    refine own_iload X0 hx (hb hby at_55) (v := u1) rfl (rfl : 55 + 2 = 57) ?_
    refine own_isub X0 hx (hb hby at_57) (rfl : 57 + 1 = 58) ?_
    refine own_iload X0 hx (hb hby at_58) (v := u2) rfl (rfl : 58 + 2 = 60) ?_
    refine own_isub X0 hx (hb hby at_60) (rfl : 60 + 1 = 61) ?_
    refine own_iload X0 hx (hb hby at_61) (v := w1) rfl (rfl : 61 + 2 = 63) ?_
    refine own_isub X0 hx (hb hby at_63) (rfl : 63 + 1 = 64) ?_
    refine own_istore X0 hx (hb hby at_64) (l' := #[.val (.int pa), .val (.int pb), .val (.int pc), .val (.int pe1), .val (.int pe2), .val (.int pf), .val (.int u1), .val (.int u2), .val (.int w1), .val (.int ((((6 : Int32) - u1) - u2) - w1)), .unset, .unset, .unset, .unset, .unset, .unset, .unset, .unset, .unset, .unset, .unset]) rfl (rfl : 64 + 2 = 66) ?_
    obtain ⟨w2, hw2⟩ : ∃ z : Int32, z = ((((6 : Int32) - u1) - u2) - w1) := ⟨_, rfl⟩
    rw [← hw2]
    show own_W p e (FrameEnd s) below room_1.cells room_1.slots (Q0 Z pa pb pc pe1 pe2 pf h0 n0) s₁ (mkF m 66 #[.val (.int pa), .val (.int pb), .val (.int pc), .val (.int pe1), .val (.int pe2), .val (.int pf), .val (.int u1), .val (.int u2), .val (.int w1), .val (.int w2), .unset, .unset, .unset, .unset, .unset, .unset, .unset, .unset, .unset, .unset, .unset] [])
    have bw2 := own_w2 u1 u2 w1 bu1 (by omega) (by omega)
    rw [← hw2] at bw2
    have i1 := own_in_of (n := 4) (x := u1) (by omega) (by omega)
    have i2 := own_in_of (n := 4) (x := u2) (by omega) (by omega)
    have i3 := own_in_of (n := 4) (x := w1) (by omega) (by omega)
    have i4 := own_in_of (n := 4) (x := w2) (by omega) (by omega)
    have y1 : u1.toInt ≠ u2.toInt := by omega
    have y2 : u1.toInt ≠ w1.toInt := by omega
    have y3 : u1.toInt ≠ w2.toInt := by omega
    have y4 : u2.toInt ≠ w1.toInt := by omega
    have y5 : u2.toInt ≠ w2.toInt := by omega
    have y6 : w1.toInt ≠ w2.toInt := by omega
    refine own_iloadN X0 hx (hb hby at_66) (v := pc) rfl (rfl : 66 + 1 = 67) ?_
    refine own_iconst X0 hx (hb hby at_67) (1 : Int32) (by first | rfl | decide) (rfl : 67 + 1 = 68) ?_
    refine own_iand X0 hx (hb hby at_68) (rfl : 68 + 1 = 69) ?_
    have J77 : ∀ (ad : Int32), own_W p e (FrameEnd s) below room_1.cells room_1.slots (Q0 Z pa pb pc pe1 pe2 pf h0 n0) s₁ (mkF m 77 #[.val (.int pa), .val (.int pb), .val (.int pc), .val (.int pe1), .val (.int pe2), .val (.int pf), .val (.int u1), .val (.int u2), .val (.int w1), .val (.int w2), .unset, .unset, .unset, .unset, .unset, .unset, .unset, .unset, .unset, .unset, .unset] [(.int ad)]) := by
      intro ad 
      refine own_istore X0 hx (hb hby at_77) (l' := #[.val (.int pa), .val (.int pb), .val (.int pc), .val (.int pe1), .val (.int pe2), .val (.int pf), .val (.int u1), .val (.int u2), .val (.int w1), .val (.int w2), .val (.int ad), .unset, .unset, .unset, .unset, .unset, .unset, .unset, .unset, .unset, .unset]) rfl (rfl : 77 + 2 = 79) ?_
      refine own_iloadN X0 hx (hb hby at_79) (v := pc) rfl (rfl : 79 + 1 = 80) ?_
      refine own_iconst X0 hx (hb hby at_80) (1 : Int32) (by first | rfl | decide) (rfl : 80 + 1 = 81) ?_
      refine own_iushr X0 hx (hb hby at_81) (rfl : 81 + 1 = 82) ?_
      refine own_iconst X0 hx (hb hby at_82) (3 : Int32) (by first | rfl | decide) (rfl : 82 + 1 = 83) ?_
      refine own_iand X0 hx (hb hby at_83) (rfl : 83 + 1 = 84) ?_
      refine own_istore X0 hx (hb hby at_84) (l' := #[.val (.int pa), .val (.int pb), .val (.int pc), .val (.int pe1), .val (.int pe2), .val (.int pf), .val (.int u1), .val (.int u2), .val (.int w1), .val (.int w2), .val (.int ad), .val (.int (((pc.toUInt32 >>> ((1 : Int32) &&& 31).toUInt32).toInt32) &&& (3 : Int32))), .unset, .unset, .unset, .unset, .unset, .unset, .unset, .unset, .unset]) rfl (rfl : 84 + 2 = 86) ?_
      obtain ⟨mo, hmo⟩ : ∃ z : Int32, z = (((pc.toUInt32 >>> ((1 : Int32) &&& 31).toUInt32).toInt32) &&& (3 : Int32)) := ⟨_, rfl⟩
      rw [← hmo]
      show own_W p e (FrameEnd s) below room_1.cells room_1.slots (Q0 Z pa pb pc pe1 pe2 pf h0 n0) s₁ (mkF m 86 #[.val (.int pa), .val (.int pb), .val (.int pc), .val (.int pe1), .val (.int pe2), .val (.int pf), .val (.int u1), .val (.int u2), .val (.int w1), .val (.int w2), .val (.int ad), .val (.int mo), .unset, .unset, .unset, .unset, .unset, .unset, .unset, .unset, .unset] [])
      refine own_iloadN X0 hx (hb hby at_86) (v := pc) rfl (rfl : 86 + 1 = 87) ?_
      refine own_iconst X0 hx (hb hby at_87) (3 : Int32) (by first | rfl | decide) (rfl : 87 + 1 = 88) ?_
      refine own_iushr X0 hx (hb hby at_88) (rfl : 88 + 1 = 89) ?_
      refine own_iconst X0 hx (hb hby at_89) (1 : Int32) (by first | rfl | decide) (rfl : 89 + 1 = 90) ?_
      refine own_iand X0 hx (hb hby at_90) (rfl : 90 + 1 = 91) ?_
      have J99 : ∀ (rd : Int32), own_W p e (FrameEnd s) below room_1.cells room_1.slots (Q0 Z pa pb pc pe1 pe2 pf h0 n0) s₁ (mkF m 99 #[.val (.int pa), .val (.int pb), .val (.int pc), .val (.int pe1), .val (.int pe2), .val (.int pf), .val (.int u1), .val (.int u2), .val (.int w1), .val (.int w2), .val (.int ad), .val (.int mo), .unset, .unset, .unset, .unset, .unset, .unset, .unset, .unset, .unset] [(.int rd)]) := by
        intro rd 
        refine own_istore X0 hx (hb hby at_99) (l' := #[.val (.int pa), .val (.int pb), .val (.int pc), .val (.int pe1), .val (.int pe2), .val (.int pf), .val (.int u1), .val (.int u2), .val (.int w1), .val (.int w2), .val (.int ad), .val (.int mo), .val (.int rd), .unset, .unset, .unset, .unset, .unset, .unset, .unset, .unset]) rfl (rfl : 99 + 2 = 101) ?_
        refine own_iload X0 hx (hb hby at_101) (v := pf) rfl (rfl : 101 + 2 = 103) ?_
        refine own_iconst X0 hx (hb hby at_103) (1 : Int32) (by first | rfl | decide) (rfl : 103 + 1 = 104) ?_
        refine own_iand X0 hx (hb hby at_104) (rfl : 104 + 1 = 105) ?_
        have J113 : ∀ (pk : Int32), own_W p e (FrameEnd s) below room_1.cells room_1.slots (Q0 Z pa pb pc pe1 pe2 pf h0 n0) s₁ (mkF m 113 #[.val (.int pa), .val (.int pb), .val (.int pc), .val (.int pe1), .val (.int pe2), .val (.int pf), .val (.int u1), .val (.int u2), .val (.int w1), .val (.int w2), .val (.int ad), .val (.int mo), .val (.int rd), .unset, .unset, .unset, .unset, .unset, .unset, .unset, .unset] [(.int pk)]) := by
          intro pk 
          refine own_istore X0 hx (hb hby at_113) (l' := #[.val (.int pa), .val (.int pb), .val (.int pc), .val (.int pe1), .val (.int pe2), .val (.int pf), .val (.int u1), .val (.int u2), .val (.int w1), .val (.int w2), .val (.int ad), .val (.int mo), .val (.int rd), .val (.int pk), .unset, .unset, .unset, .unset, .unset, .unset, .unset]) rfl (rfl : 113 + 2 = 115) ?_
          obtain ⟨T1, h1, X1, e1, E1, A1, D1, -, st1⟩ := newO X0 hx hZ hown (hw _ (List.mem_of_getElem? (i := 1) rfl)) (hw _ (List.mem_of_getElem? (i := 2) rfl)) (hw _ (List.mem_of_getElem? (i := 3) rfl)) e0 (g := (mkF m 115 #[.val (.int pa), .val (.int pb), .val (.int pc), .val (.int pe1), .val (.int pe2), .val (.int pf), .val (.int u1), .val (.int u2), .val (.int w1), .val (.int w2), .val (.int ad), .val (.int mo), .val (.int rd), .val (.int pk), .unset, .unset, .unset, .unset, .unset, .unset, .unset] [])) rfl (hb hby at_115) (by decide) (by decide)
          obtain ⟨mt, g1⟩ : ∃ z, z = h0.size := ⟨_, rfl⟩
          rw [← g1] at A1 D1 st1
          refine own_W.step st1 ?_
          have g_mt : n0 ≤ mt := Nat.le_trans Z0 (Nat.le_of_eq g1.symm)
          have z1 : n0 ≤ h1.size := Nat.le_trans Z0 E1.1
          have F1_edges : Fld Z h1 mt "com/example/handfast/handfast/algorithm/Matching" "edges" "[I" .null := D1 (Or.inl (hw _ (List.mem_of_getElem? (i := 12) rfl))) (ty := (.array .int)) (by decide)
          have F1_ends : Fld Z h1 mt "com/example/handfast/handfast/algorithm/Matching" "ends" "[I" .null := D1 (Or.inl (hw _ (List.mem_of_getElem? (i := 14) rfl))) (ty := (.array .int)) (by decide)
          have F1_placeAt : Fld Z h1 mt "com/example/handfast/handfast/algorithm/Matching" "placeAt" "[I" .null := D1 (Or.inr (hw _ (List.mem_of_getElem? (i := 16) rfl))) (ty := (.array .int)) (by decide)
          have F1_size : Fld Z h1 mt "com/example/handfast/handfast/algorithm/Matching" "size" "I" (.int (0 : Int32)) := D1 (Or.inl (hw _ (List.mem_of_getElem? (i := 27) rfl))) (ty := .int) (by decide)
          have F1_members : Fld Z h1 mt "com/example/handfast/handfast/algorithm/Matching" "members" "Lcom/example/handfast/handfast/model/NumberSet;" .null := D1 (Or.inl (hw _ (List.mem_of_getElem? (i := 29) rfl))) (ty := (.object "com/example/handfast/handfast/model/NumberSet")) (by decide)
          show own_W p e (FrameEnd s) below room_1.cells room_1.slots (Q0 Z pa pb pc pe1 pe2 pf h0 n0) T1 (mkF m 118 #[.val (.int pa), .val (.int pb), .val (.int pc), .val (.int pe1), .val (.int pe2), .val (.int pf), .val (.int u1), .val (.int u2), .val (.int w1), .val (.int w2), .val (.int ad), .val (.int mo), .val (.int rd), .val (.int pk), .unset, .unset, .unset, .unset, .unset, .unset, .unset] [(.ref mt)])
          refine own_dup X1 hx (hb hby at_118) rfl (rfl : 118 + 1 = 119) ?_
          refine own_iconst X1 hx (hb hby at_119) (4 : Int32) (by first | rfl | decide) (rfl : 119 + 1 = 120) ?_
          obtain ⟨_, _, ⟨T2, L2, k2, n2⟩, -, X2, ⟨Lc2, hQ2, l2, y2, z2⟩, st2⟩ := X1.specialBack hx (y := (⟨"com/example/handfast/handfast/algorithm/Matching", "<init>", "(I)V"⟩ : MethodName)) rfl hown (mvT hZ (hw _ (List.mem_of_getElem? (i := 4) rfl))) (mvT hZ (hw _ (List.mem_of_getElem? (i := 5) rfl))) (mvT hZ (hw _ (List.mem_of_getElem? (i := 6) rfl))) (by decide) (backOf (W := 1) (rm1 l Z a0 hw [] mt (4 : Int32) 4 h1 n0 z1 A1 F1_edges F1_ends F1_placeAt F1_size F1_members g_mt (⟨by decide, by decide⟩) (by decide)) hZ (hw _ (List.mem_of_getElem? (i := 6) rfl)) (hw _ (List.mem_of_getElem? (i := 3) rfl)) (by decide) (by decide)) (g := (mkF m 120 #[.val (.int pa), .val (.int pb), .val (.int pc), .val (.int pe1), .val (.int pe2), .val (.int pf), .val (.int u1), .val (.int u2), .val (.int w1), .val (.int w2), .val (.int ad), .val (.int mo), .val (.int rd), .val (.int pk), .unset, .unset, .unset, .unset, .unset, .unset, .unset] [(.int (4 : Int32)), (.ref mt), (.ref mt)])) rfl (by rw [hml]; rfl) (Steps.refl _) (a := mt) (argsL := [(.int (4 : Int32))]) (rest := [(.ref mt)]) (lenOf own_pd__I_V rfl) rfl (by show 2 * 0 + _ ≤ _; exact Nat.le_of_eq rfl) (hb hby at_120) (fun _ _ => ⟨rfl, e1, (by decide : 1 + 3 ≤ _), (by decide : 5 + 52 ≤ _)⟩)
          dsimp only [Pt.U, Pt.locs, Pt.cells, Pt.slots] at X2 l2 y2 z2 st2 hQ2
          subst l2 y2 z2
          obtain ⟨ae2, an2, ap2, rfl, N2q, K2, sz2_ae, sz2_an, sz2_ap, fq2_0, fq2_1, fq2_2, fq2_3, fq2_4, fq2_5, fq2_6, fq2_7, fq2_8, hne_2⟩ := hQ2
          have N2 := Fr.app N0 N2q
          have ne_mt_ae2 : mt ≠ ae2 := Nat.ne_of_lt (Nat.lt_of_lt_of_le A1.lt sz2_ae)
          have g_ae2 : n0 ≤ ae2 := Nat.le_trans z1 sz2_ae
          have ne_mt_an2 : mt ≠ an2 := Nat.ne_of_lt (Nat.lt_of_lt_of_le A1.lt sz2_an)
          have g_an2 : n0 ≤ an2 := Nat.le_trans z1 sz2_an
          have ne_mt_ap2 : mt ≠ ap2 := Nat.ne_of_lt (Nat.lt_of_lt_of_le A1.lt sz2_ap)
          have g_ap2 : n0 ≤ ap2 := Nat.le_trans z1 sz2_ap
          have f2_E_mt : Exa Z T2.heap mt "com/example/handfast/handfast/algorithm/Matching" := A1.keep K2
          have z2c : n0 ≤ T2.heap.size := Nat.le_trans z1 K2.1
          refine own_W.steps st2 ?_
          show own_W p e (FrameEnd s) below room_1.cells room_1.slots (Q0 Z pa pb pc pe1 pe2 pf h0 n0) T2 (mkF m 123 #[.val (.int pa), .val (.int pb), .val (.int pc), .val (.int pe1), .val (.int pe2), .val (.int pf), .val (.int u1), .val (.int u2), .val (.int w1), .val (.int w2), .val (.int ad), .val (.int mo), .val (.int rd), .val (.int pk), .unset, .unset, .unset, .unset, .unset, .unset, .unset] [(.ref mt)])
          refine own_astore X2 hx (hb hby at_123) (l' := #[.val (.int pa), .val (.int pb), .val (.int pc), .val (.int pe1), .val (.int pe2), .val (.int pf), .val (.int u1), .val (.int u2), .val (.int w1), .val (.int w2), .val (.int ad), .val (.int mo), .val (.int rd), .val (.int pk), .val (.ref mt), .unset, .unset, .unset, .unset, .unset, .unset]) rfl rfl (rfl : 123 + 2 = 125) ?_
          refine own_aload X2 hx (hb hby at_125) (v := (.ref mt)) rfl rfl (rfl : 125 + 2 = 127) ?_
          refine own_iloadN X2 hx (hb hby at_127) (v := pe1) rfl (rfl : 127 + 1 = 128) ?_
          refine own_iload X2 hx (hb hby at_128) (v := u1) rfl (rfl : 128 + 2 = 130) ?_
          refine own_iload X2 hx (hb hby at_130) (v := u2) rfl (rfl : 130 + 2 = 132) ?_
          obtain ⟨cq3, kq3, q3a, q3b, q3c⟩ := isOf hZ rfl fq2_0
          obtain ⟨_, _, ⟨T3, L3, k3, n3⟩, -, X3, ⟨Lc3, hQ3, l3, y3, z3⟩, st3⟩ := X2.virtualBack hx (y := (⟨"com/example/handfast/handfast/algorithm/Matching", "add", "(III)V"⟩ : MethodName)) (z := (⟨"com/example/handfast/handfast/algorithm/Matching", "add", "(III)V"⟩ : MethodName)) hown (mvT hZ (hw _ (List.mem_of_getElem? (i := 21) rfl))) (mvT hZ (hw _ (List.mem_of_getElem? (i := 22) rfl))) (notFace_of_selects (args := #[]) (mvT hZ (hw _ (List.mem_of_getElem? (i := 24) rfl)))) (mvT hZ (hw _ (List.mem_of_getElem? (i := 24) rfl))) (mvT hZ (hw _ (List.mem_of_getElem? (i := 23) rfl))) (by decide) (backOf (W := 0) (rm4 l Z a0 hw [] mt pe1 u1 u2 ae2 an2 ap2 (0 : Int32) (4) own_k0 own_k0 (own_cst (-1 : Int32)) 0 (u1.toInt.toNat) (u2.toInt.toNat) T2.heap n0 z2c fq2_0 fq2_1 fq2_2 fq2_3 fq2_4 fq2_5 fq2_6 fq2_7 fq2_8 g_mt g_ae2 g_an2 g_ap2 (hne_2) (⟨by decide, by decide⟩) (i1) (i2)) hZ (hw _ (List.mem_of_getElem? (i := 25) rfl)) (hw _ (List.mem_of_getElem? (i := 3) rfl)) (by decide) (by decide)) q3a q3c (g := (mkF m 132 #[.val (.int pa), .val (.int pb), .val (.int pc), .val (.int pe1), .val (.int pe2), .val (.int pf), .val (.int u1), .val (.int u2), .val (.int w1), .val (.int w2), .val (.int ad), .val (.int mo), .val (.int rd), .val (.int pk), .val (.ref mt), .unset, .unset, .unset, .unset, .unset, .unset] [(.int u2), (.int u1), (.int pe1), (.ref mt)])) rfl (by rw [hml]; rfl) (Steps.refl _) (argsL := [(.int pe1), (.int u1), (.int u2)]) (rest := []) (lenOf own_pd__III_V rfl) rfl (by show 2 * 0 + _ ≤ _; exact Nat.le_of_eq rfl) (hb hby at_132) (fun _ _ => ⟨rfl, rfl, (by decide : 4 + 0 ≤ _), (by decide : 57 + 0 ≤ _)⟩)
          dsimp only [Pt.U, Pt.locs, Pt.cells, Pt.slots] at X3 l3 y3 z3 st3 hQ3
          subst l3 y3 z3
          obtain ⟨rfl, N3q, K3, fq3_0, fq3_1, fq3_2, fq3_3, fq3_4, fq3_5, fq3_6, fq3_7, fq3_8⟩ := hQ3
          have N3 := Fr.app N2 N3q
          have f3_E_mt : Exa Z T3.heap mt "com/example/handfast/handfast/algorithm/Matching" := fq2_0.keep K3
          have z3c : n0 ≤ T3.heap.size := Nat.le_trans z2c K3.1
          refine own_W.steps st3 ?_
          show own_W p e (FrameEnd s) below room_1.cells room_1.slots (Q0 Z pa pb pc pe1 pe2 pf h0 n0) T3 (mkF m 135 #[.val (.int pa), .val (.int pb), .val (.int pc), .val (.int pe1), .val (.int pe2), .val (.int pf), .val (.int u1), .val (.int u2), .val (.int w1), .val (.int w2), .val (.int ad), .val (.int mo), .val (.int rd), .val (.int pk), .val (.ref mt), .unset, .unset, .unset, .unset, .unset, .unset] [])
          obtain ⟨usa, fEa, fNa, fPa, hSa, hma_0, hma_1, hma_2, hma_3⟩ : ∃ (usa : Int32) (fEa fNa fPa : Nat → Int32), own_S1 ((4)) usa fEa fNa fPa pe1 u1 u2 ∧ (Fld Z T3.heap mt "com/example/handfast/handfast/algorithm/Matching" "size" "I" (.int usa)) ∧ (own_A Z T3.heap ae2 .int (16) (fun z => .int (fEa z))) ∧ (own_A Z T3.heap an2 .int (32) (fun z => .int (fNa z))) ∧ (own_A Z T3.heap ap2 .int ((4)) (fun z => .int (fPa z))) := ⟨_, _, _, _, own_add0 (own_s0 4) pe1 u1 u2 i1 i2, fq3_4, fq3_6, fq3_7, fq3_8⟩
          refine own_iload X3 hx (hb hby at_135) (v := ad) rfl (rfl : 135 + 2 = 137) ?_
          have J256 : ∀ (c1 : Int32) (c2 : Int32) (gP : Nat → Int32) (TJ256 : State) (hJ256 : Heap) (LJ256 : List Loc), ∀ (XJ256 : Stand p l e room_1 s m #[(.int pa), (.int pb), (.int pc), (.int pe1), (.int pe2), (.int pf)] below meth c TJ256 LJ256 4 57), ∀ (eJ256 : TJ256.heap = hJ256), ∀ (NJ256 : Fr n0 LJ256), ∀ (zJ256 : n0 ≤ hJ256.size), ∀ (fJ256_0 : Exa Z hJ256 mt "com/example/handfast/handfast/algorithm/Matching"), ∀ (fJ256_1 : Fld Z hJ256 mt "com/example/handfast/handfast/algorithm/Matching" "placeAt" "[I" (.ref ap2)), ∀ (fJ256_2 : own_A Z hJ256 ap2 .int (4) (fun z => .int (gP z))), ∀ (hV : own_V gP u1 u2 w1 w2 c1 c2), own_W p e (FrameEnd s) below room_1.cells room_1.slots (Q0 Z pa pb pc pe1 pe2 pf h0 n0) TJ256 (mkF m 256 #[.val (.int pa), .val (.int pb), .val (.int pc), .val (.int pe1), .val (.int pe2), .val (.int pf), .val (.int u1), .val (.int u2), .val (.int w1), .val (.int w2), .val (.int ad), .val (.int mo), .val (.int rd), .val (.int pk), .val (.ref mt), .val (.int c1), .val (.int c2), .unset, .unset, .unset, .unset] []) := by
            intro c1 c2 gP TJ256 hJ256 LJ256 XJ256 eJ256 NJ256 zJ256 fJ256_0 fJ256_1 fJ256_2 hV
            refine own_aload XJ256 hx (hb hby at_256) (v := (.ref mt)) rfl rfl (rfl : 256 + 2 = 258) ?_
            refine own_iconst XJ256 hx (hb hby at_258) (0 : Int32) (by first | rfl | decide) (rfl : 258 + 1 = 259) ?_
            obtain ⟨cq4, kq4, q4a, q4b, q4c⟩ := isOf hZ eJ256 fJ256_0
            obtain ⟨_, _, ⟨T4, L4, k4, n4⟩, -, X4, ⟨Lc4, hQ4, l4, y4, z4⟩, st4⟩ := XJ256.virtualBack hx (y := (⟨"com/example/handfast/handfast/algorithm/Matching", "isFree", "(I)Z"⟩ : MethodName)) (z := (⟨"com/example/handfast/handfast/algorithm/Matching", "isFree", "(I)Z"⟩ : MethodName)) hown (mvT hZ (hw _ (List.mem_of_getElem? (i := 35) rfl))) (mvT hZ (hw _ (List.mem_of_getElem? (i := 36) rfl))) (notFace_of_selects (args := #[]) (mvT hZ (hw _ (List.mem_of_getElem? (i := 38) rfl)))) (mvT hZ (hw _ (List.mem_of_getElem? (i := 38) rfl))) (mvT hZ (hw _ (List.mem_of_getElem? (i := 37) rfl))) (by decide) (backOf (W := 0) (rm6 l Z a0 hw [] mt (0 : Int32) ap2 (4) gP 0 hJ256 n0 zJ256 fJ256_1 fJ256_2 (⟨by decide, by decide⟩)) hZ (hw _ (List.mem_of_getElem? (i := 39) rfl)) (hw _ (List.mem_of_getElem? (i := 3) rfl)) (by decide) (by decide)) q4a q4c (g := (mkF m 259 #[.val (.int pa), .val (.int pb), .val (.int pc), .val (.int pe1), .val (.int pe2), .val (.int pf), .val (.int u1), .val (.int u2), .val (.int w1), .val (.int w2), .val (.int ad), .val (.int mo), .val (.int rd), .val (.int pk), .val (.ref mt), .val (.int c1), .val (.int c2), .unset, .unset, .unset, .unset] [(.int (0 : Int32)), (.ref mt)])) rfl (by rw [hml]; rfl) (Steps.refl _) (argsL := [(.int (0 : Int32))]) (rest := []) (lenOf own_pd__I_Z rfl) rfl (by show 2 * 0 + _ ≤ _; exact Nat.le_of_eq rfl) (hb hby at_259) (fun _ _ => ⟨rfl, eJ256, (by decide : 4 + 0 ≤ _), (by decide : 57 + 0 ≤ _)⟩)
            dsimp only [Pt.U, Pt.locs, Pt.cells, Pt.slots] at X4 l4 y4 z4 st4 hQ4
            subst l4 y4 z4
            obtain ⟨rfl, N4q, e4⟩ := hQ4
            have N4 := Fr.app NJ256 N4q
            refine own_W.steps st4 ?_
            show own_W p e (FrameEnd s) below room_1.cells room_1.slots (Q0 Z pa pb pc pe1 pe2 pf h0 n0) T4 (mkF m 262 #[.val (.int pa), .val (.int pb), .val (.int pc), .val (.int pe1), .val (.int pe2), .val (.int pf), .val (.int u1), .val (.int u2), .val (.int w1), .val (.int w2), .val (.int ad), .val (.int mo), .val (.int rd), .val (.int pk), .val (.ref mt), .val (.int c1), .val (.int c2), .unset, .unset, .unset, .unset] [(.int (own_free (gP 0)))])
            refine own_istore X4 hx (hb hby at_262) (l' := #[.val (.int pa), .val (.int pb), .val (.int pc), .val (.int pe1), .val (.int pe2), .val (.int pf), .val (.int u1), .val (.int u2), .val (.int w1), .val (.int w2), .val (.int ad), .val (.int mo), .val (.int rd), .val (.int pk), .val (.ref mt), .val (.int c1), .val (.int c2), .val (.int (own_free (gP 0))), .unset, .unset, .unset]) rfl (rfl : 262 + 2 = 264) ?_
            refine own_aload X4 hx (hb hby at_264) (v := (.ref mt)) rfl rfl (rfl : 264 + 2 = 266) ?_
            refine own_iconst X4 hx (hb hby at_266) (1 : Int32) (by first | rfl | decide) (rfl : 266 + 1 = 267) ?_
            obtain ⟨cq5, kq5, q5a, q5b, q5c⟩ := isOf hZ e4 fJ256_0
            obtain ⟨_, _, ⟨T5, L5, k5, n5⟩, -, X5, ⟨Lc5, hQ5, l5, y5, z5⟩, st5⟩ := X4.virtualBack hx (y := (⟨"com/example/handfast/handfast/algorithm/Matching", "isFree", "(I)Z"⟩ : MethodName)) (z := (⟨"com/example/handfast/handfast/algorithm/Matching", "isFree", "(I)Z"⟩ : MethodName)) hown (mvT hZ (hw _ (List.mem_of_getElem? (i := 35) rfl))) (mvT hZ (hw _ (List.mem_of_getElem? (i := 36) rfl))) (notFace_of_selects (args := #[]) (mvT hZ (hw _ (List.mem_of_getElem? (i := 38) rfl)))) (mvT hZ (hw _ (List.mem_of_getElem? (i := 38) rfl))) (mvT hZ (hw _ (List.mem_of_getElem? (i := 37) rfl))) (by decide) (backOf (W := 0) (rm6 l Z a0 hw [] mt (1 : Int32) ap2 (4) gP 1 hJ256 n0 zJ256 fJ256_1 fJ256_2 (⟨by decide, by decide⟩)) hZ (hw _ (List.mem_of_getElem? (i := 39) rfl)) (hw _ (List.mem_of_getElem? (i := 3) rfl)) (by decide) (by decide)) q5a q5c (g := (mkF m 267 #[.val (.int pa), .val (.int pb), .val (.int pc), .val (.int pe1), .val (.int pe2), .val (.int pf), .val (.int u1), .val (.int u2), .val (.int w1), .val (.int w2), .val (.int ad), .val (.int mo), .val (.int rd), .val (.int pk), .val (.ref mt), .val (.int c1), .val (.int c2), .val (.int (own_free (gP 0))), .unset, .unset, .unset] [(.int (1 : Int32)), (.ref mt)])) rfl (by rw [hml]; rfl) (Steps.refl _) (argsL := [(.int (1 : Int32))]) (rest := []) (lenOf own_pd__I_Z rfl) rfl (by show 2 * 0 + _ ≤ _; exact Nat.le_of_eq rfl) (hb hby at_267) (fun _ _ => ⟨rfl, e4, (by decide : 4 + 0 ≤ _), (by decide : 57 + 0 ≤ _)⟩)
            dsimp only [Pt.U, Pt.locs, Pt.cells, Pt.slots] at X5 l5 y5 z5 st5 hQ5
            subst l5 y5 z5
            obtain ⟨rfl, N5q, e5⟩ := hQ5
            have N5 := Fr.app N4 N5q
            refine own_W.steps st5 ?_
            show own_W p e (FrameEnd s) below room_1.cells room_1.slots (Q0 Z pa pb pc pe1 pe2 pf h0 n0) T5 (mkF m 270 #[.val (.int pa), .val (.int pb), .val (.int pc), .val (.int pe1), .val (.int pe2), .val (.int pf), .val (.int u1), .val (.int u2), .val (.int w1), .val (.int w2), .val (.int ad), .val (.int mo), .val (.int rd), .val (.int pk), .val (.ref mt), .val (.int c1), .val (.int c2), .val (.int (own_free (gP 0))), .unset, .unset, .unset] [(.int (own_free (gP 1)))])
            refine own_istore X5 hx (hb hby at_270) (l' := #[.val (.int pa), .val (.int pb), .val (.int pc), .val (.int pe1), .val (.int pe2), .val (.int pf), .val (.int u1), .val (.int u2), .val (.int w1), .val (.int w2), .val (.int ad), .val (.int mo), .val (.int rd), .val (.int pk), .val (.ref mt), .val (.int c1), .val (.int c2), .val (.int (own_free (gP 0))), .val (.int (own_free (gP 1))), .unset, .unset]) rfl (rfl : 270 + 2 = 272) ?_
            refine own_aload X5 hx (hb hby at_272) (v := (.ref mt)) rfl rfl (rfl : 272 + 2 = 274) ?_
            refine own_iconst X5 hx (hb hby at_274) (2 : Int32) (by first | rfl | decide) (rfl : 274 + 1 = 275) ?_
            obtain ⟨cq6, kq6, q6a, q6b, q6c⟩ := isOf hZ e5 fJ256_0
            obtain ⟨_, _, ⟨T6, L6, k6, n6⟩, -, X6, ⟨Lc6, hQ6, l6, y6, z6⟩, st6⟩ := X5.virtualBack hx (y := (⟨"com/example/handfast/handfast/algorithm/Matching", "isFree", "(I)Z"⟩ : MethodName)) (z := (⟨"com/example/handfast/handfast/algorithm/Matching", "isFree", "(I)Z"⟩ : MethodName)) hown (mvT hZ (hw _ (List.mem_of_getElem? (i := 35) rfl))) (mvT hZ (hw _ (List.mem_of_getElem? (i := 36) rfl))) (notFace_of_selects (args := #[]) (mvT hZ (hw _ (List.mem_of_getElem? (i := 38) rfl)))) (mvT hZ (hw _ (List.mem_of_getElem? (i := 38) rfl))) (mvT hZ (hw _ (List.mem_of_getElem? (i := 37) rfl))) (by decide) (backOf (W := 0) (rm6 l Z a0 hw [] mt (2 : Int32) ap2 (4) gP 2 hJ256 n0 zJ256 fJ256_1 fJ256_2 (⟨by decide, by decide⟩)) hZ (hw _ (List.mem_of_getElem? (i := 39) rfl)) (hw _ (List.mem_of_getElem? (i := 3) rfl)) (by decide) (by decide)) q6a q6c (g := (mkF m 275 #[.val (.int pa), .val (.int pb), .val (.int pc), .val (.int pe1), .val (.int pe2), .val (.int pf), .val (.int u1), .val (.int u2), .val (.int w1), .val (.int w2), .val (.int ad), .val (.int mo), .val (.int rd), .val (.int pk), .val (.ref mt), .val (.int c1), .val (.int c2), .val (.int (own_free (gP 0))), .val (.int (own_free (gP 1))), .unset, .unset] [(.int (2 : Int32)), (.ref mt)])) rfl (by rw [hml]; rfl) (Steps.refl _) (argsL := [(.int (2 : Int32))]) (rest := []) (lenOf own_pd__I_Z rfl) rfl (by show 2 * 0 + _ ≤ _; exact Nat.le_of_eq rfl) (hb hby at_275) (fun _ _ => ⟨rfl, e5, (by decide : 4 + 0 ≤ _), (by decide : 57 + 0 ≤ _)⟩)
            dsimp only [Pt.U, Pt.locs, Pt.cells, Pt.slots] at X6 l6 y6 z6 st6 hQ6
            subst l6 y6 z6
            obtain ⟨rfl, N6q, e6⟩ := hQ6
            have N6 := Fr.app N5 N6q
            refine own_W.steps st6 ?_
            show own_W p e (FrameEnd s) below room_1.cells room_1.slots (Q0 Z pa pb pc pe1 pe2 pf h0 n0) T6 (mkF m 278 #[.val (.int pa), .val (.int pb), .val (.int pc), .val (.int pe1), .val (.int pe2), .val (.int pf), .val (.int u1), .val (.int u2), .val (.int w1), .val (.int w2), .val (.int ad), .val (.int mo), .val (.int rd), .val (.int pk), .val (.ref mt), .val (.int c1), .val (.int c2), .val (.int (own_free (gP 0))), .val (.int (own_free (gP 1))), .unset, .unset] [(.int (own_free (gP 2)))])
            refine own_istore X6 hx (hb hby at_278) (l' := #[.val (.int pa), .val (.int pb), .val (.int pc), .val (.int pe1), .val (.int pe2), .val (.int pf), .val (.int u1), .val (.int u2), .val (.int w1), .val (.int w2), .val (.int ad), .val (.int mo), .val (.int rd), .val (.int pk), .val (.ref mt), .val (.int c1), .val (.int c2), .val (.int (own_free (gP 0))), .val (.int (own_free (gP 1))), .val (.int (own_free (gP 2))), .unset]) rfl (rfl : 278 + 2 = 280) ?_
            refine own_aload X6 hx (hb hby at_280) (v := (.ref mt)) rfl rfl (rfl : 280 + 2 = 282) ?_
            refine own_iconst X6 hx (hb hby at_282) (3 : Int32) (by first | rfl | decide) (rfl : 282 + 1 = 283) ?_
            obtain ⟨cq7, kq7, q7a, q7b, q7c⟩ := isOf hZ e6 fJ256_0
            obtain ⟨_, _, ⟨T7, L7, k7, n7⟩, -, X7, ⟨Lc7, hQ7, l7, y7, z7⟩, st7⟩ := X6.virtualBack hx (y := (⟨"com/example/handfast/handfast/algorithm/Matching", "isFree", "(I)Z"⟩ : MethodName)) (z := (⟨"com/example/handfast/handfast/algorithm/Matching", "isFree", "(I)Z"⟩ : MethodName)) hown (mvT hZ (hw _ (List.mem_of_getElem? (i := 35) rfl))) (mvT hZ (hw _ (List.mem_of_getElem? (i := 36) rfl))) (notFace_of_selects (args := #[]) (mvT hZ (hw _ (List.mem_of_getElem? (i := 38) rfl)))) (mvT hZ (hw _ (List.mem_of_getElem? (i := 38) rfl))) (mvT hZ (hw _ (List.mem_of_getElem? (i := 37) rfl))) (by decide) (backOf (W := 0) (rm6 l Z a0 hw [] mt (3 : Int32) ap2 (4) gP 3 hJ256 n0 zJ256 fJ256_1 fJ256_2 (⟨by decide, by decide⟩)) hZ (hw _ (List.mem_of_getElem? (i := 39) rfl)) (hw _ (List.mem_of_getElem? (i := 3) rfl)) (by decide) (by decide)) q7a q7c (g := (mkF m 283 #[.val (.int pa), .val (.int pb), .val (.int pc), .val (.int pe1), .val (.int pe2), .val (.int pf), .val (.int u1), .val (.int u2), .val (.int w1), .val (.int w2), .val (.int ad), .val (.int mo), .val (.int rd), .val (.int pk), .val (.ref mt), .val (.int c1), .val (.int c2), .val (.int (own_free (gP 0))), .val (.int (own_free (gP 1))), .val (.int (own_free (gP 2))), .unset] [(.int (3 : Int32)), (.ref mt)])) rfl (by rw [hml]; rfl) (Steps.refl _) (argsL := [(.int (3 : Int32))]) (rest := []) (lenOf own_pd__I_Z rfl) rfl (by show 2 * 0 + _ ≤ _; exact Nat.le_of_eq rfl) (hb hby at_283) (fun _ _ => ⟨rfl, e6, (by decide : 4 + 0 ≤ _), (by decide : 57 + 0 ≤ _)⟩)
            dsimp only [Pt.U, Pt.locs, Pt.cells, Pt.slots] at X7 l7 y7 z7 st7 hQ7
            subst l7 y7 z7
            obtain ⟨rfl, N7q, e7⟩ := hQ7
            have N7 := Fr.app N6 N7q
            refine own_W.steps st7 ?_
            show own_W p e (FrameEnd s) below room_1.cells room_1.slots (Q0 Z pa pb pc pe1 pe2 pf h0 n0) T7 (mkF m 286 #[.val (.int pa), .val (.int pb), .val (.int pc), .val (.int pe1), .val (.int pe2), .val (.int pf), .val (.int u1), .val (.int u2), .val (.int w1), .val (.int w2), .val (.int ad), .val (.int mo), .val (.int rd), .val (.int pk), .val (.ref mt), .val (.int c1), .val (.int c2), .val (.int (own_free (gP 0))), .val (.int (own_free (gP 1))), .val (.int (own_free (gP 2))), .unset] [(.int (own_free (gP 3)))])
            refine own_istore X7 hx (hb hby at_286) (l' := #[.val (.int pa), .val (.int pb), .val (.int pc), .val (.int pe1), .val (.int pe2), .val (.int pf), .val (.int u1), .val (.int u2), .val (.int w1), .val (.int w2), .val (.int ad), .val (.int mo), .val (.int rd), .val (.int pk), .val (.ref mt), .val (.int c1), .val (.int c2), .val (.int (own_free (gP 0))), .val (.int (own_free (gP 1))), .val (.int (own_free (gP 2))), .val (.int (own_free (gP 3)))]) rfl (rfl : 286 + 2 = 288) ?_
            refine own_iload X7 hx (hb hby at_288) (v := (own_free (gP 0))) rfl (rfl : 288 + 2 = 290) ?_
            refine own_iconst X7 hx (hb hby at_290) (0 : Int32) (by first | rfl | decide) (rfl : 290 + 1 = 291) ?_
            refine own_iload X7 hx (hb hby at_291) (v := u1) rfl (rfl : 291 + 2 = 293) ?_
            refine own_iload X7 hx (hb hby at_293) (v := u2) rfl (rfl : 293 + 2 = 295) ?_
            refine own_iload X7 hx (hb hby at_295) (v := w1) rfl (rfl : 295 + 2 = 297) ?_
            refine own_iload X7 hx (hb hby at_297) (v := w2) rfl (rfl : 297 + 2 = 299) ?_
            refine own_iload X7 hx (hb hby at_299) (v := c1) rfl (rfl : 299 + 2 = 301) ?_
            refine own_iload X7 hx (hb hby at_301) (v := c2) rfl (rfl : 301 + 2 = 303) ?_
            obtain ⟨_, _, ⟨T8, L8, k8, n8⟩, -, X8, ⟨Lc8, hQ8, l8, y8, z8⟩, st8⟩ := Jvm.LawKit.callS X7 hx (y := (⟨"com/example/handfast/handfast/algorithm/MatchingIsFreePinLaw", "expectedFree", "(IIIIIZZ)Z"⟩ : MethodName)) hown (mvT hZ (hw _ (List.mem_of_getElem? (i := 40) rfl))) (mvT hZ (hw _ (List.mem_of_getElem? (i := 41) rfl))) (mvT hZ (hw _ (List.mem_of_getElem? (i := 42) rfl))) (mvT hZ (hw _ (List.mem_of_getElem? (i := 43) rfl))) (by decide) (backOf (W := 1) (rm7 l Z a0 hw [] (0 : Int32) u1 u2 w1 w2 c1 c2  hJ256 n0 zJ256 ) hZ (hw _ (List.mem_of_getElem? (i := 43) rfl)) (hw _ (List.mem_of_getElem? (i := 42) rfl)) (by decide) (by decide)) (g := (mkF m 303 #[.val (.int pa), .val (.int pb), .val (.int pc), .val (.int pe1), .val (.int pe2), .val (.int pf), .val (.int u1), .val (.int u2), .val (.int w1), .val (.int w2), .val (.int ad), .val (.int mo), .val (.int rd), .val (.int pk), .val (.ref mt), .val (.int c1), .val (.int c2), .val (.int (own_free (gP 0))), .val (.int (own_free (gP 1))), .val (.int (own_free (gP 2))), .val (.int (own_free (gP 3)))] [(.int c2), (.int c1), (.int w2), (.int w1), (.int u2), (.int u1), (.int (0 : Int32)), (.int (own_free (gP 0)))])) rfl (by rw [hml]; rfl) (argsL := [(.int (0 : Int32)), (.int u1), (.int u2), (.int w1), (.int w2), (.int c1), (.int c2)]) (rest := [(.int (own_free (gP 0)))]) (lenOf own_pd__IIIIIZZ_Z rfl) rfl (by show 2 * 0 + _ ≤ _; exact Nat.le_of_eq rfl) (hb hby at_303) (fun _ _ => ⟨rfl, e7, (by decide : 4 + 0 ≤ _), (by decide : 57 + 0 ≤ _)⟩)
            dsimp only [Pt.U, Pt.locs, Pt.cells, Pt.slots] at X8 l8 y8 z8 st8 hQ8
            subst l8 y8 z8
            obtain ⟨rfl, N8q, e8⟩ := hQ8
            have N8 := Fr.app N7 N8q
            refine own_W.step st8 ?_
            show own_W p e (FrameEnd s) below room_1.cells room_1.slots (Q0 Z pa pb pc pe1 pe2 pf h0 n0) T8 (mkF m 306 #[.val (.int pa), .val (.int pb), .val (.int pc), .val (.int pe1), .val (.int pe2), .val (.int pf), .val (.int u1), .val (.int u2), .val (.int w1), .val (.int w2), .val (.int ad), .val (.int mo), .val (.int rd), .val (.int pk), .val (.ref mt), .val (.int c1), .val (.int c2), .val (.int (own_free (gP 0))), .val (.int (own_free (gP 1))), .val (.int (own_free (gP 2))), .val (.int (own_free (gP 3)))] [(.int (own_exp (0 : Int32) u1 u2 w1 w2 c1 c2)), (.int (own_free (gP 0)))])
            have hc306 : (own_free (gP 0)) = (own_exp (0 : Int32) u1 u2 w1 w2 c1 c2) := own_fin hV (0 : Int32) 0 ⟨by decide, by decide⟩
            refine own_icmpNo X8 hx (hb hby at_306) (teq hc306).2 (rfl : 306 + 3 = 309) ?_
            refine own_iload X8 hx (hb hby at_309) (v := (own_free (gP 1))) rfl (rfl : 309 + 2 = 311) ?_
            refine own_iconst X8 hx (hb hby at_311) (1 : Int32) (by first | rfl | decide) (rfl : 311 + 1 = 312) ?_
            refine own_iload X8 hx (hb hby at_312) (v := u1) rfl (rfl : 312 + 2 = 314) ?_
            refine own_iload X8 hx (hb hby at_314) (v := u2) rfl (rfl : 314 + 2 = 316) ?_
            refine own_iload X8 hx (hb hby at_316) (v := w1) rfl (rfl : 316 + 2 = 318) ?_
            refine own_iload X8 hx (hb hby at_318) (v := w2) rfl (rfl : 318 + 2 = 320) ?_
            refine own_iload X8 hx (hb hby at_320) (v := c1) rfl (rfl : 320 + 2 = 322) ?_
            refine own_iload X8 hx (hb hby at_322) (v := c2) rfl (rfl : 322 + 2 = 324) ?_
            obtain ⟨_, _, ⟨T9, L9, k9, n9⟩, -, X9, ⟨Lc9, hQ9, l9, y9, z9⟩, st9⟩ := Jvm.LawKit.callS X8 hx (y := (⟨"com/example/handfast/handfast/algorithm/MatchingIsFreePinLaw", "expectedFree", "(IIIIIZZ)Z"⟩ : MethodName)) hown (mvT hZ (hw _ (List.mem_of_getElem? (i := 40) rfl))) (mvT hZ (hw _ (List.mem_of_getElem? (i := 41) rfl))) (mvT hZ (hw _ (List.mem_of_getElem? (i := 42) rfl))) (mvT hZ (hw _ (List.mem_of_getElem? (i := 43) rfl))) (by decide) (backOf (W := 1) (rm7 l Z a0 hw [] (1 : Int32) u1 u2 w1 w2 c1 c2  hJ256 n0 zJ256 ) hZ (hw _ (List.mem_of_getElem? (i := 43) rfl)) (hw _ (List.mem_of_getElem? (i := 42) rfl)) (by decide) (by decide)) (g := (mkF m 324 #[.val (.int pa), .val (.int pb), .val (.int pc), .val (.int pe1), .val (.int pe2), .val (.int pf), .val (.int u1), .val (.int u2), .val (.int w1), .val (.int w2), .val (.int ad), .val (.int mo), .val (.int rd), .val (.int pk), .val (.ref mt), .val (.int c1), .val (.int c2), .val (.int (own_free (gP 0))), .val (.int (own_free (gP 1))), .val (.int (own_free (gP 2))), .val (.int (own_free (gP 3)))] [(.int c2), (.int c1), (.int w2), (.int w1), (.int u2), (.int u1), (.int (1 : Int32)), (.int (own_free (gP 1)))])) rfl (by rw [hml]; rfl) (argsL := [(.int (1 : Int32)), (.int u1), (.int u2), (.int w1), (.int w2), (.int c1), (.int c2)]) (rest := [(.int (own_free (gP 1)))]) (lenOf own_pd__IIIIIZZ_Z rfl) rfl (by show 2 * 0 + _ ≤ _; exact Nat.le_of_eq rfl) (hb hby at_324) (fun _ _ => ⟨rfl, e8, (by decide : 4 + 0 ≤ _), (by decide : 57 + 0 ≤ _)⟩)
            dsimp only [Pt.U, Pt.locs, Pt.cells, Pt.slots] at X9 l9 y9 z9 st9 hQ9
            subst l9 y9 z9
            obtain ⟨rfl, N9q, e9⟩ := hQ9
            have N9 := Fr.app N8 N9q
            refine own_W.step st9 ?_
            show own_W p e (FrameEnd s) below room_1.cells room_1.slots (Q0 Z pa pb pc pe1 pe2 pf h0 n0) T9 (mkF m 327 #[.val (.int pa), .val (.int pb), .val (.int pc), .val (.int pe1), .val (.int pe2), .val (.int pf), .val (.int u1), .val (.int u2), .val (.int w1), .val (.int w2), .val (.int ad), .val (.int mo), .val (.int rd), .val (.int pk), .val (.ref mt), .val (.int c1), .val (.int c2), .val (.int (own_free (gP 0))), .val (.int (own_free (gP 1))), .val (.int (own_free (gP 2))), .val (.int (own_free (gP 3)))] [(.int (own_exp (1 : Int32) u1 u2 w1 w2 c1 c2)), (.int (own_free (gP 1)))])
            have hc327 : (own_free (gP 1)) = (own_exp (1 : Int32) u1 u2 w1 w2 c1 c2) := own_fin hV (1 : Int32) 1 ⟨by decide, by decide⟩
            refine own_icmpNo X9 hx (hb hby at_327) (teq hc327).2 (rfl : 327 + 3 = 330) ?_
            refine own_iload X9 hx (hb hby at_330) (v := (own_free (gP 2))) rfl (rfl : 330 + 2 = 332) ?_
            refine own_iconst X9 hx (hb hby at_332) (2 : Int32) (by first | rfl | decide) (rfl : 332 + 1 = 333) ?_
            refine own_iload X9 hx (hb hby at_333) (v := u1) rfl (rfl : 333 + 2 = 335) ?_
            refine own_iload X9 hx (hb hby at_335) (v := u2) rfl (rfl : 335 + 2 = 337) ?_
            refine own_iload X9 hx (hb hby at_337) (v := w1) rfl (rfl : 337 + 2 = 339) ?_
            refine own_iload X9 hx (hb hby at_339) (v := w2) rfl (rfl : 339 + 2 = 341) ?_
            refine own_iload X9 hx (hb hby at_341) (v := c1) rfl (rfl : 341 + 2 = 343) ?_
            refine own_iload X9 hx (hb hby at_343) (v := c2) rfl (rfl : 343 + 2 = 345) ?_
            obtain ⟨_, _, ⟨T10, L10, k10, n10⟩, -, X10, ⟨Lc10, hQ10, l10, y10, z10⟩, st10⟩ := Jvm.LawKit.callS X9 hx (y := (⟨"com/example/handfast/handfast/algorithm/MatchingIsFreePinLaw", "expectedFree", "(IIIIIZZ)Z"⟩ : MethodName)) hown (mvT hZ (hw _ (List.mem_of_getElem? (i := 40) rfl))) (mvT hZ (hw _ (List.mem_of_getElem? (i := 41) rfl))) (mvT hZ (hw _ (List.mem_of_getElem? (i := 42) rfl))) (mvT hZ (hw _ (List.mem_of_getElem? (i := 43) rfl))) (by decide) (backOf (W := 1) (rm7 l Z a0 hw [] (2 : Int32) u1 u2 w1 w2 c1 c2  hJ256 n0 zJ256 ) hZ (hw _ (List.mem_of_getElem? (i := 43) rfl)) (hw _ (List.mem_of_getElem? (i := 42) rfl)) (by decide) (by decide)) (g := (mkF m 345 #[.val (.int pa), .val (.int pb), .val (.int pc), .val (.int pe1), .val (.int pe2), .val (.int pf), .val (.int u1), .val (.int u2), .val (.int w1), .val (.int w2), .val (.int ad), .val (.int mo), .val (.int rd), .val (.int pk), .val (.ref mt), .val (.int c1), .val (.int c2), .val (.int (own_free (gP 0))), .val (.int (own_free (gP 1))), .val (.int (own_free (gP 2))), .val (.int (own_free (gP 3)))] [(.int c2), (.int c1), (.int w2), (.int w1), (.int u2), (.int u1), (.int (2 : Int32)), (.int (own_free (gP 2)))])) rfl (by rw [hml]; rfl) (argsL := [(.int (2 : Int32)), (.int u1), (.int u2), (.int w1), (.int w2), (.int c1), (.int c2)]) (rest := [(.int (own_free (gP 2)))]) (lenOf own_pd__IIIIIZZ_Z rfl) rfl (by show 2 * 0 + _ ≤ _; exact Nat.le_of_eq rfl) (hb hby at_345) (fun _ _ => ⟨rfl, e9, (by decide : 4 + 0 ≤ _), (by decide : 57 + 0 ≤ _)⟩)
            dsimp only [Pt.U, Pt.locs, Pt.cells, Pt.slots] at X10 l10 y10 z10 st10 hQ10
            subst l10 y10 z10
            obtain ⟨rfl, N10q, e10⟩ := hQ10
            have N10 := Fr.app N9 N10q
            refine own_W.step st10 ?_
            show own_W p e (FrameEnd s) below room_1.cells room_1.slots (Q0 Z pa pb pc pe1 pe2 pf h0 n0) T10 (mkF m 348 #[.val (.int pa), .val (.int pb), .val (.int pc), .val (.int pe1), .val (.int pe2), .val (.int pf), .val (.int u1), .val (.int u2), .val (.int w1), .val (.int w2), .val (.int ad), .val (.int mo), .val (.int rd), .val (.int pk), .val (.ref mt), .val (.int c1), .val (.int c2), .val (.int (own_free (gP 0))), .val (.int (own_free (gP 1))), .val (.int (own_free (gP 2))), .val (.int (own_free (gP 3)))] [(.int (own_exp (2 : Int32) u1 u2 w1 w2 c1 c2)), (.int (own_free (gP 2)))])
            have hc348 : (own_free (gP 2)) = (own_exp (2 : Int32) u1 u2 w1 w2 c1 c2) := own_fin hV (2 : Int32) 2 ⟨by decide, by decide⟩
            refine own_icmpNo X10 hx (hb hby at_348) (teq hc348).2 (rfl : 348 + 3 = 351) ?_
            refine own_iload X10 hx (hb hby at_351) (v := (own_free (gP 3))) rfl (rfl : 351 + 2 = 353) ?_
            refine own_iconst X10 hx (hb hby at_353) (3 : Int32) (by first | rfl | decide) (rfl : 353 + 1 = 354) ?_
            refine own_iload X10 hx (hb hby at_354) (v := u1) rfl (rfl : 354 + 2 = 356) ?_
            refine own_iload X10 hx (hb hby at_356) (v := u2) rfl (rfl : 356 + 2 = 358) ?_
            refine own_iload X10 hx (hb hby at_358) (v := w1) rfl (rfl : 358 + 2 = 360) ?_
            refine own_iload X10 hx (hb hby at_360) (v := w2) rfl (rfl : 360 + 2 = 362) ?_
            refine own_iload X10 hx (hb hby at_362) (v := c1) rfl (rfl : 362 + 2 = 364) ?_
            refine own_iload X10 hx (hb hby at_364) (v := c2) rfl (rfl : 364 + 2 = 366) ?_
            obtain ⟨_, _, ⟨T11, L11, k11, n11⟩, -, X11, ⟨Lc11, hQ11, l11, y11, z11⟩, st11⟩ := Jvm.LawKit.callS X10 hx (y := (⟨"com/example/handfast/handfast/algorithm/MatchingIsFreePinLaw", "expectedFree", "(IIIIIZZ)Z"⟩ : MethodName)) hown (mvT hZ (hw _ (List.mem_of_getElem? (i := 40) rfl))) (mvT hZ (hw _ (List.mem_of_getElem? (i := 41) rfl))) (mvT hZ (hw _ (List.mem_of_getElem? (i := 42) rfl))) (mvT hZ (hw _ (List.mem_of_getElem? (i := 43) rfl))) (by decide) (backOf (W := 1) (rm7 l Z a0 hw [] (3 : Int32) u1 u2 w1 w2 c1 c2  hJ256 n0 zJ256 ) hZ (hw _ (List.mem_of_getElem? (i := 43) rfl)) (hw _ (List.mem_of_getElem? (i := 42) rfl)) (by decide) (by decide)) (g := (mkF m 366 #[.val (.int pa), .val (.int pb), .val (.int pc), .val (.int pe1), .val (.int pe2), .val (.int pf), .val (.int u1), .val (.int u2), .val (.int w1), .val (.int w2), .val (.int ad), .val (.int mo), .val (.int rd), .val (.int pk), .val (.ref mt), .val (.int c1), .val (.int c2), .val (.int (own_free (gP 0))), .val (.int (own_free (gP 1))), .val (.int (own_free (gP 2))), .val (.int (own_free (gP 3)))] [(.int c2), (.int c1), (.int w2), (.int w1), (.int u2), (.int u1), (.int (3 : Int32)), (.int (own_free (gP 3)))])) rfl (by rw [hml]; rfl) (argsL := [(.int (3 : Int32)), (.int u1), (.int u2), (.int w1), (.int w2), (.int c1), (.int c2)]) (rest := [(.int (own_free (gP 3)))]) (lenOf own_pd__IIIIIZZ_Z rfl) rfl (by show 2 * 0 + _ ≤ _; exact Nat.le_of_eq rfl) (hb hby at_366) (fun _ _ => ⟨rfl, e10, (by decide : 4 + 0 ≤ _), (by decide : 57 + 0 ≤ _)⟩)
            dsimp only [Pt.U, Pt.locs, Pt.cells, Pt.slots] at X11 l11 y11 z11 st11 hQ11
            subst l11 y11 z11
            obtain ⟨rfl, N11q, e11⟩ := hQ11
            have N11 := Fr.app N10 N11q
            refine own_W.step st11 ?_
            show own_W p e (FrameEnd s) below room_1.cells room_1.slots (Q0 Z pa pb pc pe1 pe2 pf h0 n0) T11 (mkF m 369 #[.val (.int pa), .val (.int pb), .val (.int pc), .val (.int pe1), .val (.int pe2), .val (.int pf), .val (.int u1), .val (.int u2), .val (.int w1), .val (.int w2), .val (.int ad), .val (.int mo), .val (.int rd), .val (.int pk), .val (.ref mt), .val (.int c1), .val (.int c2), .val (.int (own_free (gP 0))), .val (.int (own_free (gP 1))), .val (.int (own_free (gP 2))), .val (.int (own_free (gP 3)))] [(.int (own_exp (3 : Int32) u1 u2 w1 w2 c1 c2)), (.int (own_free (gP 3)))])
            have hc369 : (own_free (gP 3)) = (own_exp (3 : Int32) u1 u2 w1 w2 c1 c2) := own_fin hV (3 : Int32) 3 ⟨by decide, by decide⟩
            refine own_icmpNo X11 hx (hb hby at_369) (teq hc369).2 (rfl : 369 + 3 = 372) ?_
            refine own_iconst X11 hx (hb hby at_372) (1 : Int32) (by first | rfl | decide) (rfl : 372 + 1 = 373) ?_
            refine own_goto X11 hx (hb hby at_373) (pc' := 377) (by decide) (by decide) ?_
            refine own_retN (t := .boolean) X11 hx hlk hret (by simp) (hb hby at_377) (z' := (1 : Int32)) (by decide) (by decide) (by decide) ?_
            show Q0 Z pa pb pc pe1 pe2 pf h0 n0 (some (.int (1 : Int32))) T11.heap _
            rw [e11]
            exact ⟨rfl, N11⟩
          by_cases hc137 : ad = (0 : Int32)
          · skip
            refine own_ifYes X3 hx (hb hby at_137) ((if0 _ _).trans (teq hc137).1) (pc' := 151) (by decide) (by decide) ?_
            refine own_iconst X3 hx (hb hby at_151) (1 : Int32) (by first | rfl | decide) (rfl : 151 + 1 = 152) ?_
            refine own_istore X3 hx (hb hby at_152) (l' := #[.val (.int pa), .val (.int pb), .val (.int pc), .val (.int pe1), .val (.int pe2), .val (.int pf), .val (.int u1), .val (.int u2), .val (.int w1), .val (.int w2), .val (.int ad), .val (.int mo), .val (.int rd), .val (.int pk), .val (.ref mt), .val (.int (1 : Int32)), .unset, .unset, .unset, .unset, .unset]) rfl (rfl : 152 + 2 = 154) ?_
            refine own_iload X3 hx (hb hby at_154) (v := ad) rfl (rfl : 154 + 2 = 156) ?_
            refine own_istore X3 hx (hb hby at_156) (l' := #[.val (.int pa), .val (.int pb), .val (.int pc), .val (.int pe1), .val (.int pe2), .val (.int pf), .val (.int u1), .val (.int u2), .val (.int w1), .val (.int w2), .val (.int ad), .val (.int mo), .val (.int rd), .val (.int pk), .val (.ref mt), .val (.int (1 : Int32)), .val (.int ad), .unset, .unset, .unset, .unset]) rfl (rfl : 156 + 2 = 158) ?_
            refine own_iload X3 hx (hb hby at_158) (v := mo) rfl (rfl : 158 + 2 = 160) ?_
            refine own_iconst X3 hx (hb hby at_160) (1 : Int32) (by first | rfl | decide) (rfl : 160 + 1 = 161) ?_
            by_cases hc161 : mo = (1 : Int32)
            · skip
              refine own_icmpNo X3 hx (hb hby at_161) (teq hc161).2 (rfl : 161 + 3 = 164) ?_
              refine own_aload X3 hx (hb hby at_164) (v := (.ref mt)) rfl rfl (rfl : 164 + 2 = 166) ?_
              refine own_iload X3 hx (hb hby at_166) (v := pk) rfl (rfl : 166 + 2 = 168) ?_
              have J178 : ∀ (rv : Int32), ∀ (hrv : rv = u1 ∨ rv = u2), own_W p e (FrameEnd s) below room_1.cells room_1.slots (Q0 Z pa pb pc pe1 pe2 pf h0 n0) T3 (mkF m 178 #[.val (.int pa), .val (.int pb), .val (.int pc), .val (.int pe1), .val (.int pe2), .val (.int pf), .val (.int u1), .val (.int u2), .val (.int w1), .val (.int w2), .val (.int ad), .val (.int mo), .val (.int rd), .val (.int pk), .val (.ref mt), .val (.int (1 : Int32)), .val (.int ad), .unset, .unset, .unset, .unset] [(.int rv), (.ref mt)]) := by
                intro rv hrv
                obtain ⟨cq12, kq12, q12a, q12b, q12c⟩ := isOf hZ rfl fq3_0
                obtain ⟨_, _, ⟨T12, L12, k12, n12⟩, -, X12, ⟨Lc12, hQ12, l12, y12, z12⟩, st12⟩ := X3.virtualBack hx (y := (⟨"com/example/handfast/handfast/algorithm/Matching", "removeAt", "(I)V"⟩ : MethodName)) (z := (⟨"com/example/handfast/handfast/algorithm/Matching", "removeAt", "(I)V"⟩ : MethodName)) hown (mvT hZ (hw _ (List.mem_of_getElem? (i := 30) rfl))) (mvT hZ (hw _ (List.mem_of_getElem? (i := 31) rfl))) (notFace_of_selects (args := #[]) (mvT hZ (hw _ (List.mem_of_getElem? (i := 33) rfl)))) (mvT hZ (hw _ (List.mem_of_getElem? (i := 33) rfl))) (mvT hZ (hw _ (List.mem_of_getElem? (i := 32) rfl))) (by decide) (backOf (W := 0) (rm5l l Z a0 hw [] mt rv ae2 an2 ap2 usa ((4)) fEa fNa fPa 1 (rv.toInt.toNat) 0 0 (u1.toInt.toNat) (u2.toInt.toNat) T3.heap n0 z3c fq3_0 fq3_1 fq3_2 fq3_3 hma_0 fq3_5 hma_1 hma_2 hma_3 g_mt g_ae2 g_an2 g_ap2 (hne_2) ((show own_In rv rv.toInt.toNat 4 by rcases hrv with q | q <;> rw [q] <;> first | exact i1 | exact i2)) ((show own_In (fPa rv.toInt.toNat) 0 8 from ⟨by rw [(hSa.2.2.2.2 rv.toInt.toNat (by rcases hrv with q | q <;> rw [q] <;> omega)).1 (by rcases hrv with q | q <;> rw [q] <;> omega)]; decide, by decide⟩)) (⟨hSa.1, by decide⟩) ((show own_In (fNa 0) u1.toInt.toNat 4 by rw [hSa.2.2.1]; exact i1)) ((show own_In (fNa 1) u2.toInt.toNat 4 by rw [hSa.2.2.2.1]; exact i2)) (rfl) (rfl)) hZ (hw _ (List.mem_of_getElem? (i := 34) rfl)) (hw _ (List.mem_of_getElem? (i := 3) rfl)) (by decide) (by decide)) q12a q12c (g := (mkF m 178 #[.val (.int pa), .val (.int pb), .val (.int pc), .val (.int pe1), .val (.int pe2), .val (.int pf), .val (.int u1), .val (.int u2), .val (.int w1), .val (.int w2), .val (.int ad), .val (.int mo), .val (.int rd), .val (.int pk), .val (.ref mt), .val (.int (1 : Int32)), .val (.int ad), .unset, .unset, .unset, .unset] [(.int rv), (.ref mt)])) rfl (by rw [hml]; rfl) (Steps.refl _) (argsL := [(.int rv)]) (rest := []) (lenOf own_pd__I_V rfl) rfl (by show 2 * 0 + _ ≤ _; exact Nat.le_of_eq rfl) (hb hby at_178) (fun _ _ => ⟨rfl, rfl, (by decide : 4 + 0 ≤ _), (by decide : 57 + 0 ≤ _)⟩)
                dsimp only [Pt.U, Pt.locs, Pt.cells, Pt.slots] at X12 l12 y12 z12 st12 hQ12
                subst l12 y12 z12
                obtain ⟨rfl, N12q, K12, fq12_0, fq12_1, fq12_2, fq12_3, fq12_4, fq12_5, fq12_6, fq12_7, fq12_8⟩ := hQ12
                have N12 := Fr.app N3 N12q
                have f12_E_mt : Exa Z T12.heap mt "com/example/handfast/handfast/algorithm/Matching" := fq3_0.keep K12
                have z12c : n0 ≤ T12.heap.size := Nat.le_trans z3c K12.1
                refine own_W.steps st12 ?_
                show own_W p e (FrameEnd s) below room_1.cells room_1.slots (Q0 Z pa pb pc pe1 pe2 pf h0 n0) T12 (mkF m 181 #[.val (.int pa), .val (.int pb), .val (.int pc), .val (.int pe1), .val (.int pe2), .val (.int pf), .val (.int u1), .val (.int u2), .val (.int w1), .val (.int w2), .val (.int ad), .val (.int mo), .val (.int rd), .val (.int pk), .val (.ref mt), .val (.int (1 : Int32)), .val (.int ad), .unset, .unset, .unset, .unset] [])
                obtain ⟨usc, fEc, fNc, fPc, hSc, hmc_0, hmc_1, hmc_2, hmc_3⟩ : ∃ (usc : Int32) (fEc fNc fPc : Nat → Int32), own_S0 (((4))) usc fPc  ∧ (Fld Z T12.heap mt "com/example/handfast/handfast/algorithm/Matching" "size" "I" (.int usc)) ∧ (own_A Z T12.heap ae2 .int (16) (fun z => .int (fEc z))) ∧ (own_A Z T12.heap an2 .int (32) (fun z => .int (fNc z))) ∧ (own_A Z T12.heap ap2 .int (((4))) (fun z => .int (fPc z))) := ⟨_, _, _, _, own_rm1 hSa i1 i2, fq12_4, fq12_6, fq12_7, fq12_8⟩
                refine own_iconst X12 hx (hb hby at_181) (0 : Int32) (by first | rfl | decide) (rfl : 181 + 1 = 182) ?_
                refine own_istore X12 hx (hb hby at_182) (l' := #[.val (.int pa), .val (.int pb), .val (.int pc), .val (.int pe1), .val (.int pe2), .val (.int pf), .val (.int u1), .val (.int u2), .val (.int w1), .val (.int w2), .val (.int ad), .val (.int mo), .val (.int rd), .val (.int pk), .val (.ref mt), .val (.int (0 : Int32)), .val (.int ad), .unset, .unset, .unset, .unset]) rfl (rfl : 182 + 2 = 184) ?_
                refine own_iload X12 hx (hb hby at_184) (v := rd) rfl (rfl : 184 + 2 = 186) ?_
                by_cases hc186 : rd = (0 : Int32)
                · skip
                  refine own_ifYes X12 hx (hb hby at_186) ((if0 _ _).trans (teq hc186).1) (pc' := 256) (by decide) (by decide) ?_
                  exact J256 ((0 : Int32)) (ad) (fPc) _ _ _  X12 rfl N12 z12c fq12_0 fq12_3 hmc_3 (own_V0 hSc u1 u2 w1 w2 rfl hc137)
                · skip
                  refine own_ifNo X12 hx (hb hby at_186) ((if0 _ _).trans (feq hc186).1) (rfl : 186 + 3 = 189) ?_
                  refine own_aload X12 hx (hb hby at_189) (v := (.ref mt)) rfl rfl (rfl : 189 + 2 = 191) ?_
                  refine own_iloadN X12 hx (hb hby at_191) (v := pe1) rfl (rfl : 191 + 1 = 192) ?_
                  refine own_iload X12 hx (hb hby at_192) (v := u1) rfl (rfl : 192 + 2 = 194) ?_
                  refine own_iload X12 hx (hb hby at_194) (v := u2) rfl (rfl : 194 + 2 = 196) ?_
                  obtain ⟨cq13, kq13, q13a, q13b, q13c⟩ := isOf hZ rfl fq12_0
                  obtain ⟨_, _, ⟨T13, L13, k13, n13⟩, -, X13, ⟨Lc13, hQ13, l13, y13, z13⟩, st13⟩ := X12.virtualBack hx (y := (⟨"com/example/handfast/handfast/algorithm/Matching", "add", "(III)V"⟩ : MethodName)) (z := (⟨"com/example/handfast/handfast/algorithm/Matching", "add", "(III)V"⟩ : MethodName)) hown (mvT hZ (hw _ (List.mem_of_getElem? (i := 21) rfl))) (mvT hZ (hw _ (List.mem_of_getElem? (i := 22) rfl))) (notFace_of_selects (args := #[]) (mvT hZ (hw _ (List.mem_of_getElem? (i := 24) rfl)))) (mvT hZ (hw _ (List.mem_of_getElem? (i := 24) rfl))) (mvT hZ (hw _ (List.mem_of_getElem? (i := 23) rfl))) (by decide) (backOf (W := 0) (rm4 l Z a0 hw [] mt pe1 u1 u2 ae2 an2 ap2 usc (((4))) fEc fNc fPc 0 (u1.toInt.toNat) (u2.toInt.toNat) T12.heap n0 z12c fq12_0 fq12_1 fq12_2 fq12_3 hmc_0 fq12_5 hmc_1 hmc_2 hmc_3 g_mt g_ae2 g_an2 g_ap2 (hne_2) (⟨hSc.1, by decide⟩) (i1) (i2)) hZ (hw _ (List.mem_of_getElem? (i := 25) rfl)) (hw _ (List.mem_of_getElem? (i := 3) rfl)) (by decide) (by decide)) q13a q13c (g := (mkF m 196 #[.val (.int pa), .val (.int pb), .val (.int pc), .val (.int pe1), .val (.int pe2), .val (.int pf), .val (.int u1), .val (.int u2), .val (.int w1), .val (.int w2), .val (.int ad), .val (.int mo), .val (.int rd), .val (.int pk), .val (.ref mt), .val (.int (0 : Int32)), .val (.int ad), .unset, .unset, .unset, .unset] [(.int u2), (.int u1), (.int pe1), (.ref mt)])) rfl (by rw [hml]; rfl) (Steps.refl _) (argsL := [(.int pe1), (.int u1), (.int u2)]) (rest := []) (lenOf own_pd__III_V rfl) rfl (by show 2 * 0 + _ ≤ _; exact Nat.le_of_eq rfl) (hb hby at_196) (fun _ _ => ⟨rfl, rfl, (by decide : 4 + 0 ≤ _), (by decide : 57 + 0 ≤ _)⟩)
                  dsimp only [Pt.U, Pt.locs, Pt.cells, Pt.slots] at X13 l13 y13 z13 st13 hQ13
                  subst l13 y13 z13
                  obtain ⟨rfl, N13q, K13, fq13_0, fq13_1, fq13_2, fq13_3, fq13_4, fq13_5, fq13_6, fq13_7, fq13_8⟩ := hQ13
                  have N13 := Fr.app N12 N13q
                  have f13_E_mt : Exa Z T13.heap mt "com/example/handfast/handfast/algorithm/Matching" := fq12_0.keep K13
                  have z13c : n0 ≤ T13.heap.size := Nat.le_trans z12c K13.1
                  refine own_W.steps st13 ?_
                  show own_W p e (FrameEnd s) below room_1.cells room_1.slots (Q0 Z pa pb pc pe1 pe2 pf h0 n0) T13 (mkF m 199 #[.val (.int pa), .val (.int pb), .val (.int pc), .val (.int pe1), .val (.int pe2), .val (.int pf), .val (.int u1), .val (.int u2), .val (.int w1), .val (.int w2), .val (.int ad), .val (.int mo), .val (.int rd), .val (.int pk), .val (.ref mt), .val (.int (0 : Int32)), .val (.int ad), .unset, .unset, .unset, .unset] [])
                  obtain ⟨usf, fEf, fNf, fPf, hSf, hmf_0, hmf_1, hmf_2, hmf_3⟩ : ∃ (usf : Int32) (fEf fNf fPf : Nat → Int32), own_S1 ((((4)))) usf fEf fNf fPf pe1 u1 u2 ∧ (Fld Z T13.heap mt "com/example/handfast/handfast/algorithm/Matching" "size" "I" (.int usf)) ∧ (own_A Z T13.heap ae2 .int (16) (fun z => .int (fEf z))) ∧ (own_A Z T13.heap an2 .int (32) (fun z => .int (fNf z))) ∧ (own_A Z T13.heap ap2 .int ((((4)))) (fun z => .int (fPf z))) := ⟨_, _, _, _, own_add0 hSc pe1 u1 u2 i1 i2, fq13_4, fq13_6, fq13_7, fq13_8⟩
                  refine own_iconst X13 hx (hb hby at_199) (1 : Int32) (by first | rfl | decide) (rfl : 199 + 1 = 200) ?_
                  refine own_istore X13 hx (hb hby at_200) (l' := #[.val (.int pa), .val (.int pb), .val (.int pc), .val (.int pe1), .val (.int pe2), .val (.int pf), .val (.int u1), .val (.int u2), .val (.int w1), .val (.int w2), .val (.int ad), .val (.int mo), .val (.int rd), .val (.int pk), .val (.ref mt), .val (.int (1 : Int32)), .val (.int ad), .unset, .unset, .unset, .unset]) rfl (rfl : 200 + 2 = 202) ?_
                  refine own_goto X13 hx (hb hby at_202) (pc' := 256) (by decide) (by decide) ?_
                  exact J256 ((1 : Int32)) (ad) (fPf) _ _ _  X13 rfl N13 z13c fq13_0 fq13_3 hmf_3 (own_V1 hSf w1 w2 (by decide) hc137)
              by_cases hc168 : pk = (0 : Int32)
              · skip
                refine own_ifYes X3 hx (hb hby at_168) ((if0 _ _).trans (teq hc168).1) (pc' := 176) (by decide) (by decide) ?_
                refine own_iload X3 hx (hb hby at_176) (v := u1) rfl (rfl : 176 + 2 = 178) ?_
                exact J178 (u1)   (Or.inl rfl)
              · skip
                refine own_ifNo X3 hx (hb hby at_168) ((if0 _ _).trans (feq hc168).1) (rfl : 168 + 3 = 171) ?_
                refine own_iload X3 hx (hb hby at_171) (v := u2) rfl (rfl : 171 + 2 = 173) ?_
                refine own_goto X3 hx (hb hby at_173) (pc' := 178) (by decide) (by decide) ?_
                exact J178 (u2)   (Or.inr rfl)
            · skip
              refine own_icmpYes X3 hx (hb hby at_161) (feq hc161).2 (pc' := 205) (by decide) (by decide) ?_
              refine own_iload X3 hx (hb hby at_205) (v := mo) rfl (rfl : 205 + 2 = 207) ?_
              refine own_iconst X3 hx (hb hby at_207) (2 : Int32) (by first | rfl | decide) (rfl : 207 + 1 = 208) ?_
              by_cases hc208 : mo = (2 : Int32)
              · skip
                refine own_icmpNo X3 hx (hb hby at_208) (teq hc208).2 (rfl : 208 + 3 = 211) ?_
                refine own_iload X3 hx (hb hby at_211) (v := ad) rfl (rfl : 211 + 2 = 213) ?_
                have hc213 : ad = (0 : Int32) := hc137
                refine own_ifYes X3 hx (hb hby at_213) ((if0 _ _).trans (teq hc213).1) (pc' := 256) (by decide) (by decide) ?_
                exact J256 ((1 : Int32)) (ad) (fPa) _ _ _  X3 rfl N3 z3c fq3_0 fq3_3 hma_3 (own_V1 hSa w1 w2 (by decide) hc137)
              · skip
                refine own_icmpYes X3 hx (hb hby at_208) (feq hc208).2 (pc' := 239) (by decide) (by decide) ?_
                refine own_iload X3 hx (hb hby at_239) (v := mo) rfl (rfl : 239 + 2 = 241) ?_
                refine own_iconst X3 hx (hb hby at_241) (3 : Int32) (by first | rfl | decide) (rfl : 241 + 1 = 242) ?_
                by_cases hc242 : mo = (3 : Int32)
                · skip
                  refine own_icmpNo X3 hx (hb hby at_242) (teq hc242).2 (rfl : 242 + 3 = 245) ?_
                  refine own_aload X3 hx (hb hby at_245) (v := (.ref mt)) rfl rfl (rfl : 245 + 2 = 247) ?_
                  obtain ⟨cq14, kq14, q14a, q14b, q14c⟩ := isOf hZ rfl fq3_0
                  obtain ⟨_, _, ⟨T14, L14, k14, n14⟩, -, X14, ⟨Lc14, hQ14, l14, y14, z14⟩, st14⟩ := X3.virtualBack hx (y := (⟨"com/example/handfast/handfast/algorithm/Matching", "clear", "()V"⟩ : MethodName)) (z := (⟨"com/example/handfast/handfast/algorithm/Matching", "clear", "()V"⟩ : MethodName)) hown (mvT hZ (hw _ (List.mem_of_getElem? (i := 44) rfl))) (mvT hZ (hw _ (List.mem_of_getElem? (i := 45) rfl))) (notFace_of_selects (args := #[]) (mvT hZ (hw _ (List.mem_of_getElem? (i := 47) rfl)))) (mvT hZ (hw _ (List.mem_of_getElem? (i := 47) rfl))) (mvT hZ (hw _ (List.mem_of_getElem? (i := 46) rfl))) (by decide) (backOf (W := 0) (rm8c1 l Z a0 hw [] mt ae2 an2 ap2 usa ((4)) fEa fNa fPa (u1.toInt.toNat) (u2.toInt.toNat) T3.heap n0 z3c fq3_0 fq3_1 fq3_2 fq3_3 hma_0 fq3_5 hma_1 hma_2 hma_3 g_mt g_ae2 g_an2 g_ap2 (hne_2) (hSa.1) ((show own_In (fNa 0) u1.toInt.toNat 4 by rw [hSa.2.2.1]; exact i1)) ((show own_In (fNa 1) u2.toInt.toNat 4 by rw [hSa.2.2.2.1]; exact i2))) hZ (hw _ (List.mem_of_getElem? (i := 48) rfl)) (hw _ (List.mem_of_getElem? (i := 3) rfl)) (by decide) (by decide)) q14a q14c (g := (mkF m 247 #[.val (.int pa), .val (.int pb), .val (.int pc), .val (.int pe1), .val (.int pe2), .val (.int pf), .val (.int u1), .val (.int u2), .val (.int w1), .val (.int w2), .val (.int ad), .val (.int mo), .val (.int rd), .val (.int pk), .val (.ref mt), .val (.int (1 : Int32)), .val (.int ad), .unset, .unset, .unset, .unset] [(.ref mt)])) rfl (by rw [hml]; rfl) (Steps.refl _) (argsL := []) (rest := []) (lenOf own_pd___V rfl) rfl (by show 2 * 0 + _ ≤ _; exact Nat.le_of_eq rfl) (hb hby at_247) (fun _ _ => ⟨rfl, rfl, (by decide : 4 + 0 ≤ _), (by decide : 57 + 0 ≤ _)⟩)
                  dsimp only [Pt.U, Pt.locs, Pt.cells, Pt.slots] at X14 l14 y14 z14 st14 hQ14
                  subst l14 y14 z14
                  obtain ⟨rfl, N14q, K14, fq14_0, fq14_1, fq14_2, fq14_3, fq14_4, fq14_5, fq14_6, fq14_7, fq14_8⟩ := hQ14
                  have N14 := Fr.app N3 N14q
                  have f14_E_mt : Exa Z T14.heap mt "com/example/handfast/handfast/algorithm/Matching" := fq3_0.keep K14
                  have z14c : n0 ≤ T14.heap.size := Nat.le_trans z3c K14.1
                  refine own_W.steps st14 ?_
                  show own_W p e (FrameEnd s) below room_1.cells room_1.slots (Q0 Z pa pb pc pe1 pe2 pf h0 n0) T14 (mkF m 250 #[.val (.int pa), .val (.int pb), .val (.int pc), .val (.int pe1), .val (.int pe2), .val (.int pf), .val (.int u1), .val (.int u2), .val (.int w1), .val (.int w2), .val (.int ad), .val (.int mo), .val (.int rd), .val (.int pk), .val (.ref mt), .val (.int (1 : Int32)), .val (.int ad), .unset, .unset, .unset, .unset] [])
                  obtain ⟨usg, fEg, fNg, fPg, hSg, hmg_0, hmg_1, hmg_2, hmg_3⟩ : ∃ (usg : Int32) (fEg fNg fPg : Nat → Int32), own_S0 (((4))) usg fPg  ∧ (Fld Z T14.heap mt "com/example/handfast/handfast/algorithm/Matching" "size" "I" (.int usg)) ∧ (own_A Z T14.heap ae2 .int (16) (fun z => .int (fEg z))) ∧ (own_A Z T14.heap an2 .int (32) (fun z => .int (fNg z))) ∧ (own_A Z T14.heap ap2 .int (((4))) (fun z => .int (fPg z))) := ⟨_, _, _, _, own_clr1 hSa i1 i2, fq14_4, fq14_6, fq14_7, fq14_8⟩
                  refine own_iconst X14 hx (hb hby at_250) (0 : Int32) (by first | rfl | decide) (rfl : 250 + 1 = 251) ?_
                  refine own_istore X14 hx (hb hby at_251) (l' := #[.val (.int pa), .val (.int pb), .val (.int pc), .val (.int pe1), .val (.int pe2), .val (.int pf), .val (.int u1), .val (.int u2), .val (.int w1), .val (.int w2), .val (.int ad), .val (.int mo), .val (.int rd), .val (.int pk), .val (.ref mt), .val (.int (0 : Int32)), .val (.int ad), .unset, .unset, .unset, .unset]) rfl (rfl : 251 + 2 = 253) ?_
                  refine own_iconst X14 hx (hb hby at_253) (0 : Int32) (by first | rfl | decide) (rfl : 253 + 1 = 254) ?_
                  refine own_istore X14 hx (hb hby at_254) (l' := #[.val (.int pa), .val (.int pb), .val (.int pc), .val (.int pe1), .val (.int pe2), .val (.int pf), .val (.int u1), .val (.int u2), .val (.int w1), .val (.int w2), .val (.int ad), .val (.int mo), .val (.int rd), .val (.int pk), .val (.ref mt), .val (.int (0 : Int32)), .val (.int (0 : Int32)), .unset, .unset, .unset, .unset]) rfl (rfl : 254 + 2 = 256) ?_
                  exact J256 ((0 : Int32)) ((0 : Int32)) (fPg) _ _ _  X14 rfl N14 z14c fq14_0 fq14_3 hmg_3 (own_V0 hSg u1 u2 w1 w2 rfl rfl)
                · skip
                  refine own_icmpYes X3 hx (hb hby at_242) (feq hc242).2 (pc' := 256) (by decide) (by decide) ?_
                  exact J256 ((1 : Int32)) (ad) (fPa) _ _ _  X3 rfl N3 z3c fq3_0 fq3_3 hma_3 (own_V1 hSa w1 w2 (by decide) hc137)
          · skip
            refine own_ifNo X3 hx (hb hby at_137) ((if0 _ _).trans (feq hc137).1) (rfl : 137 + 3 = 140) ?_
            refine own_aload X3 hx (hb hby at_140) (v := (.ref mt)) rfl rfl (rfl : 140 + 2 = 142) ?_
            refine own_iload X3 hx (hb hby at_142) (v := pe2) rfl (rfl : 142 + 2 = 144) ?_
            refine own_iload X3 hx (hb hby at_144) (v := w1) rfl (rfl : 144 + 2 = 146) ?_
            refine own_iload X3 hx (hb hby at_146) (v := w2) rfl (rfl : 146 + 2 = 148) ?_
            obtain ⟨cq15, kq15, q15a, q15b, q15c⟩ := isOf hZ rfl fq3_0
            obtain ⟨_, _, ⟨T15, L15, k15, n15⟩, -, X15, ⟨Lc15, hQ15, l15, y15, z15⟩, st15⟩ := X3.virtualBack hx (y := (⟨"com/example/handfast/handfast/algorithm/Matching", "add", "(III)V"⟩ : MethodName)) (z := (⟨"com/example/handfast/handfast/algorithm/Matching", "add", "(III)V"⟩ : MethodName)) hown (mvT hZ (hw _ (List.mem_of_getElem? (i := 21) rfl))) (mvT hZ (hw _ (List.mem_of_getElem? (i := 22) rfl))) (notFace_of_selects (args := #[]) (mvT hZ (hw _ (List.mem_of_getElem? (i := 24) rfl)))) (mvT hZ (hw _ (List.mem_of_getElem? (i := 24) rfl))) (mvT hZ (hw _ (List.mem_of_getElem? (i := 23) rfl))) (by decide) (backOf (W := 0) (rm4 l Z a0 hw [] mt pe2 w1 w2 ae2 an2 ap2 usa ((4)) fEa fNa fPa 1 (w1.toInt.toNat) (w2.toInt.toNat) T3.heap n0 z3c fq3_0 fq3_1 fq3_2 fq3_3 hma_0 fq3_5 hma_1 hma_2 hma_3 g_mt g_ae2 g_an2 g_ap2 (hne_2) (⟨hSa.1, by decide⟩) (i3) (i4)) hZ (hw _ (List.mem_of_getElem? (i := 25) rfl)) (hw _ (List.mem_of_getElem? (i := 3) rfl)) (by decide) (by decide)) q15a q15c (g := (mkF m 148 #[.val (.int pa), .val (.int pb), .val (.int pc), .val (.int pe1), .val (.int pe2), .val (.int pf), .val (.int u1), .val (.int u2), .val (.int w1), .val (.int w2), .val (.int ad), .val (.int mo), .val (.int rd), .val (.int pk), .val (.ref mt), .unset, .unset, .unset, .unset, .unset, .unset] [(.int w2), (.int w1), (.int pe2), (.ref mt)])) rfl (by rw [hml]; rfl) (Steps.refl _) (argsL := [(.int pe2), (.int w1), (.int w2)]) (rest := []) (lenOf own_pd__III_V rfl) rfl (by show 2 * 0 + _ ≤ _; exact Nat.le_of_eq rfl) (hb hby at_148) (fun _ _ => ⟨rfl, rfl, (by decide : 4 + 0 ≤ _), (by decide : 57 + 0 ≤ _)⟩)
            dsimp only [Pt.U, Pt.locs, Pt.cells, Pt.slots] at X15 l15 y15 z15 st15 hQ15
            subst l15 y15 z15
            obtain ⟨rfl, N15q, K15, fq15_0, fq15_1, fq15_2, fq15_3, fq15_4, fq15_5, fq15_6, fq15_7, fq15_8⟩ := hQ15
            have N15 := Fr.app N3 N15q
            have f15_E_mt : Exa Z T15.heap mt "com/example/handfast/handfast/algorithm/Matching" := fq3_0.keep K15
            have z15c : n0 ≤ T15.heap.size := Nat.le_trans z3c K15.1
            refine own_W.steps st15 ?_
            show own_W p e (FrameEnd s) below room_1.cells room_1.slots (Q0 Z pa pb pc pe1 pe2 pf h0 n0) T15 (mkF m 151 #[.val (.int pa), .val (.int pb), .val (.int pc), .val (.int pe1), .val (.int pe2), .val (.int pf), .val (.int u1), .val (.int u2), .val (.int w1), .val (.int w2), .val (.int ad), .val (.int mo), .val (.int rd), .val (.int pk), .val (.ref mt), .unset, .unset, .unset, .unset, .unset, .unset] [])
            obtain ⟨usb, fEb, fNb, fPb, hSb, hmb_0, hmb_1, hmb_2, hmb_3⟩ : ∃ (usb : Int32) (fEb fNb fPb : Nat → Int32), own_S2 (((4))) usb fEb fNb fPb pe1 u1 u2 pe2 w1 w2 ∧ (Fld Z T15.heap mt "com/example/handfast/handfast/algorithm/Matching" "size" "I" (.int usb)) ∧ (own_A Z T15.heap ae2 .int (16) (fun z => .int (fEb z))) ∧ (own_A Z T15.heap an2 .int (32) (fun z => .int (fNb z))) ∧ (own_A Z T15.heap ap2 .int (((4))) (fun z => .int (fPb z))) := ⟨_, _, _, _, own_add1 hSa pe2 w1 w2 i3 i4 (by omega), fq15_4, fq15_6, fq15_7, fq15_8⟩
            refine own_iconst X15 hx (hb hby at_151) (1 : Int32) (by first | rfl | decide) (rfl : 151 + 1 = 152) ?_
            refine own_istore X15 hx (hb hby at_152) (l' := #[.val (.int pa), .val (.int pb), .val (.int pc), .val (.int pe1), .val (.int pe2), .val (.int pf), .val (.int u1), .val (.int u2), .val (.int w1), .val (.int w2), .val (.int ad), .val (.int mo), .val (.int rd), .val (.int pk), .val (.ref mt), .val (.int (1 : Int32)), .unset, .unset, .unset, .unset, .unset]) rfl (rfl : 152 + 2 = 154) ?_
            refine own_iload X15 hx (hb hby at_154) (v := ad) rfl (rfl : 154 + 2 = 156) ?_
            refine own_istore X15 hx (hb hby at_156) (l' := #[.val (.int pa), .val (.int pb), .val (.int pc), .val (.int pe1), .val (.int pe2), .val (.int pf), .val (.int u1), .val (.int u2), .val (.int w1), .val (.int w2), .val (.int ad), .val (.int mo), .val (.int rd), .val (.int pk), .val (.ref mt), .val (.int (1 : Int32)), .val (.int ad), .unset, .unset, .unset, .unset]) rfl (rfl : 156 + 2 = 158) ?_
            refine own_iload X15 hx (hb hby at_158) (v := mo) rfl (rfl : 158 + 2 = 160) ?_
            refine own_iconst X15 hx (hb hby at_160) (1 : Int32) (by first | rfl | decide) (rfl : 160 + 1 = 161) ?_
            by_cases hc161 : mo = (1 : Int32)
            · skip
              refine own_icmpNo X15 hx (hb hby at_161) (teq hc161).2 (rfl : 161 + 3 = 164) ?_
              refine own_aload X15 hx (hb hby at_164) (v := (.ref mt)) rfl rfl (rfl : 164 + 2 = 166) ?_
              refine own_iload X15 hx (hb hby at_166) (v := pk) rfl (rfl : 166 + 2 = 168) ?_
              have J178 : ∀ (rv : Int32), ∀ (hrv : rv = u1 ∨ rv = u2), own_W p e (FrameEnd s) below room_1.cells room_1.slots (Q0 Z pa pb pc pe1 pe2 pf h0 n0) T15 (mkF m 178 #[.val (.int pa), .val (.int pb), .val (.int pc), .val (.int pe1), .val (.int pe2), .val (.int pf), .val (.int u1), .val (.int u2), .val (.int w1), .val (.int w2), .val (.int ad), .val (.int mo), .val (.int rd), .val (.int pk), .val (.ref mt), .val (.int (1 : Int32)), .val (.int ad), .unset, .unset, .unset, .unset] [(.int rv), (.ref mt)]) := by
                intro rv hrv
                obtain ⟨cq16, kq16, q16a, q16b, q16c⟩ := isOf hZ rfl fq15_0
                obtain ⟨_, _, ⟨T16, L16, k16, n16⟩, -, X16, ⟨Lc16, hQ16, l16, y16, z16⟩, st16⟩ := X15.virtualBack hx (y := (⟨"com/example/handfast/handfast/algorithm/Matching", "removeAt", "(I)V"⟩ : MethodName)) (z := (⟨"com/example/handfast/handfast/algorithm/Matching", "removeAt", "(I)V"⟩ : MethodName)) hown (mvT hZ (hw _ (List.mem_of_getElem? (i := 30) rfl))) (mvT hZ (hw _ (List.mem_of_getElem? (i := 31) rfl))) (notFace_of_selects (args := #[]) (mvT hZ (hw _ (List.mem_of_getElem? (i := 33) rfl)))) (mvT hZ (hw _ (List.mem_of_getElem? (i := 33) rfl))) (mvT hZ (hw _ (List.mem_of_getElem? (i := 32) rfl))) (by decide) (backOf (W := 0) (rm5m l Z a0 hw [] mt rv ae2 an2 ap2 usb (((4))) fEb fNb fPb 2 (rv.toInt.toNat) 0 1 (u1.toInt.toNat) (u2.toInt.toNat) (w1.toInt.toNat) (w2.toInt.toNat) T15.heap n0 z15c fq15_0 fq15_1 fq15_2 fq15_3 hmb_0 fq15_5 hmb_1 hmb_2 hmb_3 g_mt g_ae2 g_an2 g_ap2 (hne_2) ((show own_In rv rv.toInt.toNat 4 by rcases hrv with q | q <;> rw [q] <;> first | exact i1 | exact i2)) ((show own_In (fPb rv.toInt.toNat) 0 8 from ⟨by rw [(hSb.2.2.2.2.2.2.2 rv.toInt.toNat (by rcases hrv with q | q <;> rw [q] <;> omega)).1 (by rcases hrv with q | q <;> rw [q] <;> omega)]; decide, by decide⟩)) (⟨hSb.1, by decide⟩) ((show own_In (fNb 0) u1.toInt.toNat 4 by rw [hSb.2.2.2.1]; exact i1)) ((show own_In (fNb 1) u2.toInt.toNat 4 by rw [hSb.2.2.2.2.1]; exact i2)) (rfl) (by decide) ((show own_In (fNb 2) w1.toInt.toNat 4 by rw [hSb.2.2.2.2.2.1]; exact i3)) ((show own_In (fNb 3) w2.toInt.toNat 4 by rw [hSb.2.2.2.2.2.2.1]; exact i4))) hZ (hw _ (List.mem_of_getElem? (i := 34) rfl)) (hw _ (List.mem_of_getElem? (i := 3) rfl)) (by decide) (by decide)) q16a q16c (g := (mkF m 178 #[.val (.int pa), .val (.int pb), .val (.int pc), .val (.int pe1), .val (.int pe2), .val (.int pf), .val (.int u1), .val (.int u2), .val (.int w1), .val (.int w2), .val (.int ad), .val (.int mo), .val (.int rd), .val (.int pk), .val (.ref mt), .val (.int (1 : Int32)), .val (.int ad), .unset, .unset, .unset, .unset] [(.int rv), (.ref mt)])) rfl (by rw [hml]; rfl) (Steps.refl _) (argsL := [(.int rv)]) (rest := []) (lenOf own_pd__I_V rfl) rfl (by show 2 * 0 + _ ≤ _; exact Nat.le_of_eq rfl) (hb hby at_178) (fun _ _ => ⟨rfl, rfl, (by decide : 4 + 0 ≤ _), (by decide : 57 + 0 ≤ _)⟩)
                dsimp only [Pt.U, Pt.locs, Pt.cells, Pt.slots] at X16 l16 y16 z16 st16 hQ16
                subst l16 y16 z16
                obtain ⟨rfl, N16q, K16, fq16_0, fq16_1, fq16_2, fq16_3, fq16_4, fq16_5, fq16_6, fq16_7, fq16_8⟩ := hQ16
                have N16 := Fr.app N15 N16q
                have f16_E_mt : Exa Z T16.heap mt "com/example/handfast/handfast/algorithm/Matching" := fq15_0.keep K16
                have z16c : n0 ≤ T16.heap.size := Nat.le_trans z15c K16.1
                refine own_W.steps st16 ?_
                show own_W p e (FrameEnd s) below room_1.cells room_1.slots (Q0 Z pa pb pc pe1 pe2 pf h0 n0) T16 (mkF m 181 #[.val (.int pa), .val (.int pb), .val (.int pc), .val (.int pe1), .val (.int pe2), .val (.int pf), .val (.int u1), .val (.int u2), .val (.int w1), .val (.int w2), .val (.int ad), .val (.int mo), .val (.int rd), .val (.int pk), .val (.ref mt), .val (.int (1 : Int32)), .val (.int ad), .unset, .unset, .unset, .unset] [])
                obtain ⟨usc, fEc, fNc, fPc, hSc, hmc_0, hmc_1, hmc_2, hmc_3⟩ : ∃ (usc : Int32) (fEc fNc fPc : Nat → Int32), own_S1 ((((4)))) usc fEc fNc fPc pe2 w1 w2 ∧ (Fld Z T16.heap mt "com/example/handfast/handfast/algorithm/Matching" "size" "I" (.int usc)) ∧ (own_A Z T16.heap ae2 .int (16) (fun z => .int (fEc z))) ∧ (own_A Z T16.heap an2 .int (32) (fun z => .int (fNc z))) ∧ (own_A Z T16.heap ap2 .int ((((4)))) (fun z => .int (fPc z))) := ⟨_, _, _, _, own_rm2m hSb ((hSb.2.2.2.2.2.2.2 rv.toInt.toNat (by rcases hrv with q | q <;> rw [q] <;> omega)).1 (by rcases hrv with q | q <;> rw [q] <;> omega)) i1 i2 i3 i4, fq16_4, fq16_6, fq16_7, fq16_8⟩
                refine own_iconst X16 hx (hb hby at_181) (0 : Int32) (by first | rfl | decide) (rfl : 181 + 1 = 182) ?_
                refine own_istore X16 hx (hb hby at_182) (l' := #[.val (.int pa), .val (.int pb), .val (.int pc), .val (.int pe1), .val (.int pe2), .val (.int pf), .val (.int u1), .val (.int u2), .val (.int w1), .val (.int w2), .val (.int ad), .val (.int mo), .val (.int rd), .val (.int pk), .val (.ref mt), .val (.int (0 : Int32)), .val (.int ad), .unset, .unset, .unset, .unset]) rfl (rfl : 182 + 2 = 184) ?_
                refine own_iload X16 hx (hb hby at_184) (v := rd) rfl (rfl : 184 + 2 = 186) ?_
                by_cases hc186 : rd = (0 : Int32)
                · skip
                  refine own_ifYes X16 hx (hb hby at_186) ((if0 _ _).trans (teq hc186).1) (pc' := 256) (by decide) (by decide) ?_
                  exact J256 ((0 : Int32)) (ad) (fPc) _ _ _  X16 rfl N16 z16c fq16_0 fq16_3 hmc_3 (own_Vs (own_V1 hSc u1 u2 hc137 rfl))
                · skip
                  refine own_ifNo X16 hx (hb hby at_186) ((if0 _ _).trans (feq hc186).1) (rfl : 186 + 3 = 189) ?_
                  refine own_aload X16 hx (hb hby at_189) (v := (.ref mt)) rfl rfl (rfl : 189 + 2 = 191) ?_
                  refine own_iloadN X16 hx (hb hby at_191) (v := pe1) rfl (rfl : 191 + 1 = 192) ?_
                  refine own_iload X16 hx (hb hby at_192) (v := u1) rfl (rfl : 192 + 2 = 194) ?_
                  refine own_iload X16 hx (hb hby at_194) (v := u2) rfl (rfl : 194 + 2 = 196) ?_
                  obtain ⟨cq17, kq17, q17a, q17b, q17c⟩ := isOf hZ rfl fq16_0
                  obtain ⟨_, _, ⟨T17, L17, k17, n17⟩, -, X17, ⟨Lc17, hQ17, l17, y17, z17⟩, st17⟩ := X16.virtualBack hx (y := (⟨"com/example/handfast/handfast/algorithm/Matching", "add", "(III)V"⟩ : MethodName)) (z := (⟨"com/example/handfast/handfast/algorithm/Matching", "add", "(III)V"⟩ : MethodName)) hown (mvT hZ (hw _ (List.mem_of_getElem? (i := 21) rfl))) (mvT hZ (hw _ (List.mem_of_getElem? (i := 22) rfl))) (notFace_of_selects (args := #[]) (mvT hZ (hw _ (List.mem_of_getElem? (i := 24) rfl)))) (mvT hZ (hw _ (List.mem_of_getElem? (i := 24) rfl))) (mvT hZ (hw _ (List.mem_of_getElem? (i := 23) rfl))) (by decide) (backOf (W := 0) (rm4 l Z a0 hw [] mt pe1 u1 u2 ae2 an2 ap2 usc ((((4)))) fEc fNc fPc 1 (u1.toInt.toNat) (u2.toInt.toNat) T16.heap n0 z16c fq16_0 fq16_1 fq16_2 fq16_3 hmc_0 fq16_5 hmc_1 hmc_2 hmc_3 g_mt g_ae2 g_an2 g_ap2 (hne_2) (⟨hSc.1, by decide⟩) (i1) (i2)) hZ (hw _ (List.mem_of_getElem? (i := 25) rfl)) (hw _ (List.mem_of_getElem? (i := 3) rfl)) (by decide) (by decide)) q17a q17c (g := (mkF m 196 #[.val (.int pa), .val (.int pb), .val (.int pc), .val (.int pe1), .val (.int pe2), .val (.int pf), .val (.int u1), .val (.int u2), .val (.int w1), .val (.int w2), .val (.int ad), .val (.int mo), .val (.int rd), .val (.int pk), .val (.ref mt), .val (.int (0 : Int32)), .val (.int ad), .unset, .unset, .unset, .unset] [(.int u2), (.int u1), (.int pe1), (.ref mt)])) rfl (by rw [hml]; rfl) (Steps.refl _) (argsL := [(.int pe1), (.int u1), (.int u2)]) (rest := []) (lenOf own_pd__III_V rfl) rfl (by show 2 * 0 + _ ≤ _; exact Nat.le_of_eq rfl) (hb hby at_196) (fun _ _ => ⟨rfl, rfl, (by decide : 4 + 0 ≤ _), (by decide : 57 + 0 ≤ _)⟩)
                  dsimp only [Pt.U, Pt.locs, Pt.cells, Pt.slots] at X17 l17 y17 z17 st17 hQ17
                  subst l17 y17 z17
                  obtain ⟨rfl, N17q, K17, fq17_0, fq17_1, fq17_2, fq17_3, fq17_4, fq17_5, fq17_6, fq17_7, fq17_8⟩ := hQ17
                  have N17 := Fr.app N16 N17q
                  have f17_E_mt : Exa Z T17.heap mt "com/example/handfast/handfast/algorithm/Matching" := fq16_0.keep K17
                  have z17c : n0 ≤ T17.heap.size := Nat.le_trans z16c K17.1
                  refine own_W.steps st17 ?_
                  show own_W p e (FrameEnd s) below room_1.cells room_1.slots (Q0 Z pa pb pc pe1 pe2 pf h0 n0) T17 (mkF m 199 #[.val (.int pa), .val (.int pb), .val (.int pc), .val (.int pe1), .val (.int pe2), .val (.int pf), .val (.int u1), .val (.int u2), .val (.int w1), .val (.int w2), .val (.int ad), .val (.int mo), .val (.int rd), .val (.int pk), .val (.ref mt), .val (.int (0 : Int32)), .val (.int ad), .unset, .unset, .unset, .unset] [])
                  obtain ⟨usf, fEf, fNf, fPf, hSf, hmf_0, hmf_1, hmf_2, hmf_3⟩ : ∃ (usf : Int32) (fEf fNf fPf : Nat → Int32), own_S2 (((((4))))) usf fEf fNf fPf pe2 w1 w2 pe1 u1 u2 ∧ (Fld Z T17.heap mt "com/example/handfast/handfast/algorithm/Matching" "size" "I" (.int usf)) ∧ (own_A Z T17.heap ae2 .int (16) (fun z => .int (fEf z))) ∧ (own_A Z T17.heap an2 .int (32) (fun z => .int (fNf z))) ∧ (own_A Z T17.heap ap2 .int (((((4))))) (fun z => .int (fPf z))) := ⟨_, _, _, _, own_add1 hSc pe1 u1 u2 i1 i2 (by omega), fq17_4, fq17_6, fq17_7, fq17_8⟩
                  refine own_iconst X17 hx (hb hby at_199) (1 : Int32) (by first | rfl | decide) (rfl : 199 + 1 = 200) ?_
                  refine own_istore X17 hx (hb hby at_200) (l' := #[.val (.int pa), .val (.int pb), .val (.int pc), .val (.int pe1), .val (.int pe2), .val (.int pf), .val (.int u1), .val (.int u2), .val (.int w1), .val (.int w2), .val (.int ad), .val (.int mo), .val (.int rd), .val (.int pk), .val (.ref mt), .val (.int (1 : Int32)), .val (.int ad), .unset, .unset, .unset, .unset]) rfl (rfl : 200 + 2 = 202) ?_
                  refine own_goto X17 hx (hb hby at_202) (pc' := 256) (by decide) (by decide) ?_
                  exact J256 ((1 : Int32)) (ad) (fPf) _ _ _  X17 rfl N17 z17c fq17_0 fq17_3 hmf_3 (own_Vs (own_V2 hSf hc137 (by decide)))
              by_cases hc168 : pk = (0 : Int32)
              · skip
                refine own_ifYes X15 hx (hb hby at_168) ((if0 _ _).trans (teq hc168).1) (pc' := 176) (by decide) (by decide) ?_
                refine own_iload X15 hx (hb hby at_176) (v := u1) rfl (rfl : 176 + 2 = 178) ?_
                exact J178 (u1)   (Or.inl rfl)
              · skip
                refine own_ifNo X15 hx (hb hby at_168) ((if0 _ _).trans (feq hc168).1) (rfl : 168 + 3 = 171) ?_
                refine own_iload X15 hx (hb hby at_171) (v := u2) rfl (rfl : 171 + 2 = 173) ?_
                refine own_goto X15 hx (hb hby at_173) (pc' := 178) (by decide) (by decide) ?_
                exact J178 (u2)   (Or.inr rfl)
            · skip
              refine own_icmpYes X15 hx (hb hby at_161) (feq hc161).2 (pc' := 205) (by decide) (by decide) ?_
              refine own_iload X15 hx (hb hby at_205) (v := mo) rfl (rfl : 205 + 2 = 207) ?_
              refine own_iconst X15 hx (hb hby at_207) (2 : Int32) (by first | rfl | decide) (rfl : 207 + 1 = 208) ?_
              by_cases hc208 : mo = (2 : Int32)
              · skip
                refine own_icmpNo X15 hx (hb hby at_208) (teq hc208).2 (rfl : 208 + 3 = 211) ?_
                refine own_iload X15 hx (hb hby at_211) (v := ad) rfl (rfl : 211 + 2 = 213) ?_
                have hc213 : ¬ (ad = (0 : Int32)) := hc137
                refine own_ifNo X15 hx (hb hby at_213) ((if0 _ _).trans (feq hc213).1) (rfl : 213 + 3 = 216) ?_
                refine own_aload X15 hx (hb hby at_216) (v := (.ref mt)) rfl rfl (rfl : 216 + 2 = 218) ?_
                refine own_iload X15 hx (hb hby at_218) (v := pk) rfl (rfl : 218 + 2 = 220) ?_
                have J230 : ∀ (rx : Int32), ∀ (hrx : rx = w1 ∨ rx = w2), own_W p e (FrameEnd s) below room_1.cells room_1.slots (Q0 Z pa pb pc pe1 pe2 pf h0 n0) T15 (mkF m 230 #[.val (.int pa), .val (.int pb), .val (.int pc), .val (.int pe1), .val (.int pe2), .val (.int pf), .val (.int u1), .val (.int u2), .val (.int w1), .val (.int w2), .val (.int ad), .val (.int mo), .val (.int rd), .val (.int pk), .val (.ref mt), .val (.int (1 : Int32)), .val (.int ad), .unset, .unset, .unset, .unset] [(.int rx), (.ref mt)]) := by
                  intro rx hrx
                  obtain ⟨cq18, kq18, q18a, q18b, q18c⟩ := isOf hZ rfl fq15_0
                  obtain ⟨_, _, ⟨T18, L18, k18, n18⟩, -, X18, ⟨Lc18, hQ18, l18, y18, z18⟩, st18⟩ := X15.virtualBack hx (y := (⟨"com/example/handfast/handfast/algorithm/Matching", "removeAt", "(I)V"⟩ : MethodName)) (z := (⟨"com/example/handfast/handfast/algorithm/Matching", "removeAt", "(I)V"⟩ : MethodName)) hown (mvT hZ (hw _ (List.mem_of_getElem? (i := 30) rfl))) (mvT hZ (hw _ (List.mem_of_getElem? (i := 31) rfl))) (notFace_of_selects (args := #[]) (mvT hZ (hw _ (List.mem_of_getElem? (i := 33) rfl)))) (mvT hZ (hw _ (List.mem_of_getElem? (i := 33) rfl))) (mvT hZ (hw _ (List.mem_of_getElem? (i := 32) rfl))) (by decide) (backOf (W := 0) (rm5l l Z a0 hw [] mt rx ae2 an2 ap2 usb (((4))) fEb fNb fPb 2 (rx.toInt.toNat) 1 1 (w1.toInt.toNat) (w2.toInt.toNat) T15.heap n0 z15c fq15_0 fq15_1 fq15_2 fq15_3 hmb_0 fq15_5 hmb_1 hmb_2 hmb_3 g_mt g_ae2 g_an2 g_ap2 (hne_2) ((show own_In rx rx.toInt.toNat 4 by rcases hrx with q | q <;> rw [q] <;> first | exact i3 | exact i4)) ((show own_In (fPb rx.toInt.toNat) 1 8 from ⟨by rw [(hSb.2.2.2.2.2.2.2 rx.toInt.toNat (by rcases hrx with q | q <;> rw [q] <;> omega)).2.1 (by rcases hrx with q | q <;> rw [q] <;> omega)]; decide, by decide⟩)) (⟨hSb.1, by decide⟩) ((show own_In (fNb 2) w1.toInt.toNat 4 by rw [hSb.2.2.2.2.2.1]; exact i3)) ((show own_In (fNb 3) w2.toInt.toNat 4 by rw [hSb.2.2.2.2.2.2.1]; exact i4)) (rfl) (rfl)) hZ (hw _ (List.mem_of_getElem? (i := 34) rfl)) (hw _ (List.mem_of_getElem? (i := 3) rfl)) (by decide) (by decide)) q18a q18c (g := (mkF m 230 #[.val (.int pa), .val (.int pb), .val (.int pc), .val (.int pe1), .val (.int pe2), .val (.int pf), .val (.int u1), .val (.int u2), .val (.int w1), .val (.int w2), .val (.int ad), .val (.int mo), .val (.int rd), .val (.int pk), .val (.ref mt), .val (.int (1 : Int32)), .val (.int ad), .unset, .unset, .unset, .unset] [(.int rx), (.ref mt)])) rfl (by rw [hml]; rfl) (Steps.refl _) (argsL := [(.int rx)]) (rest := []) (lenOf own_pd__I_V rfl) rfl (by show 2 * 0 + _ ≤ _; exact Nat.le_of_eq rfl) (hb hby at_230) (fun _ _ => ⟨rfl, rfl, (by decide : 4 + 0 ≤ _), (by decide : 57 + 0 ≤ _)⟩)
                  dsimp only [Pt.U, Pt.locs, Pt.cells, Pt.slots] at X18 l18 y18 z18 st18 hQ18
                  subst l18 y18 z18
                  obtain ⟨rfl, N18q, K18, fq18_0, fq18_1, fq18_2, fq18_3, fq18_4, fq18_5, fq18_6, fq18_7, fq18_8⟩ := hQ18
                  have N18 := Fr.app N15 N18q
                  have f18_E_mt : Exa Z T18.heap mt "com/example/handfast/handfast/algorithm/Matching" := fq15_0.keep K18
                  have z18c : n0 ≤ T18.heap.size := Nat.le_trans z15c K18.1
                  refine own_W.steps st18 ?_
                  show own_W p e (FrameEnd s) below room_1.cells room_1.slots (Q0 Z pa pb pc pe1 pe2 pf h0 n0) T18 (mkF m 233 #[.val (.int pa), .val (.int pb), .val (.int pc), .val (.int pe1), .val (.int pe2), .val (.int pf), .val (.int u1), .val (.int u2), .val (.int w1), .val (.int w2), .val (.int ad), .val (.int mo), .val (.int rd), .val (.int pk), .val (.ref mt), .val (.int (1 : Int32)), .val (.int ad), .unset, .unset, .unset, .unset] [])
                  obtain ⟨usd, fEd, fNd, fPd, hSd, hmd_0, hmd_1, hmd_2, hmd_3⟩ : ∃ (usd : Int32) (fEd fNd fPd : Nat → Int32), own_S1 ((((4)))) usd fEd fNd fPd pe1 u1 u2 ∧ (Fld Z T18.heap mt "com/example/handfast/handfast/algorithm/Matching" "size" "I" (.int usd)) ∧ (own_A Z T18.heap ae2 .int (16) (fun z => .int (fEd z))) ∧ (own_A Z T18.heap an2 .int (32) (fun z => .int (fNd z))) ∧ (own_A Z T18.heap ap2 .int ((((4)))) (fun z => .int (fPd z))) := ⟨_, _, _, _, own_rm2l hSb i3 i4 (by omega), fq18_4, fq18_6, fq18_7, fq18_8⟩
                  refine own_iconst X18 hx (hb hby at_233) (0 : Int32) (by first | rfl | decide) (rfl : 233 + 1 = 234) ?_
                  refine own_istore X18 hx (hb hby at_234) (l' := #[.val (.int pa), .val (.int pb), .val (.int pc), .val (.int pe1), .val (.int pe2), .val (.int pf), .val (.int u1), .val (.int u2), .val (.int w1), .val (.int w2), .val (.int ad), .val (.int mo), .val (.int rd), .val (.int pk), .val (.ref mt), .val (.int (1 : Int32)), .val (.int (0 : Int32)), .unset, .unset, .unset, .unset]) rfl (rfl : 234 + 2 = 236) ?_
                  refine own_goto X18 hx (hb hby at_236) (pc' := 256) (by decide) (by decide) ?_
                  exact J256 ((1 : Int32)) ((0 : Int32)) (fPd) _ _ _  X18 rfl N18 z18c fq18_0 fq18_3 hmd_3 (own_V1 hSd w1 w2 (by decide) rfl)
                by_cases hc220 : pk = (0 : Int32)
                · skip
                  refine own_ifYes X15 hx (hb hby at_220) ((if0 _ _).trans (teq hc220).1) (pc' := 228) (by decide) (by decide) ?_
                  refine own_iload X15 hx (hb hby at_228) (v := w1) rfl (rfl : 228 + 2 = 230) ?_
                  exact J230 (w1)   (Or.inl rfl)
                · skip
                  refine own_ifNo X15 hx (hb hby at_220) ((if0 _ _).trans (feq hc220).1) (rfl : 220 + 3 = 223) ?_
                  refine own_iload X15 hx (hb hby at_223) (v := w2) rfl (rfl : 223 + 2 = 225) ?_
                  refine own_goto X15 hx (hb hby at_225) (pc' := 230) (by decide) (by decide) ?_
                  exact J230 (w2)   (Or.inr rfl)
              · skip
                refine own_icmpYes X15 hx (hb hby at_208) (feq hc208).2 (pc' := 239) (by decide) (by decide) ?_
                refine own_iload X15 hx (hb hby at_239) (v := mo) rfl (rfl : 239 + 2 = 241) ?_
                refine own_iconst X15 hx (hb hby at_241) (3 : Int32) (by first | rfl | decide) (rfl : 241 + 1 = 242) ?_
                by_cases hc242 : mo = (3 : Int32)
                · skip
                  refine own_icmpNo X15 hx (hb hby at_242) (teq hc242).2 (rfl : 242 + 3 = 245) ?_
                  refine own_aload X15 hx (hb hby at_245) (v := (.ref mt)) rfl rfl (rfl : 245 + 2 = 247) ?_
                  obtain ⟨cq19, kq19, q19a, q19b, q19c⟩ := isOf hZ rfl fq15_0
                  obtain ⟨_, _, ⟨T19, L19, k19, n19⟩, -, X19, ⟨Lc19, hQ19, l19, y19, z19⟩, st19⟩ := X15.virtualBack hx (y := (⟨"com/example/handfast/handfast/algorithm/Matching", "clear", "()V"⟩ : MethodName)) (z := (⟨"com/example/handfast/handfast/algorithm/Matching", "clear", "()V"⟩ : MethodName)) hown (mvT hZ (hw _ (List.mem_of_getElem? (i := 44) rfl))) (mvT hZ (hw _ (List.mem_of_getElem? (i := 45) rfl))) (notFace_of_selects (args := #[]) (mvT hZ (hw _ (List.mem_of_getElem? (i := 47) rfl)))) (mvT hZ (hw _ (List.mem_of_getElem? (i := 47) rfl))) (mvT hZ (hw _ (List.mem_of_getElem? (i := 46) rfl))) (by decide) (backOf (W := 0) (rm8c2 l Z a0 hw [] mt ae2 an2 ap2 usb (((4))) fEb fNb fPb (u1.toInt.toNat) (u2.toInt.toNat) (w1.toInt.toNat) (w2.toInt.toNat) T15.heap n0 z15c fq15_0 fq15_1 fq15_2 fq15_3 hmb_0 fq15_5 hmb_1 hmb_2 hmb_3 g_mt g_ae2 g_an2 g_ap2 (hne_2) (hSb.1) ((show own_In (fNb 0) u1.toInt.toNat 4 by rw [hSb.2.2.2.1]; exact i1)) ((show own_In (fNb 1) u2.toInt.toNat 4 by rw [hSb.2.2.2.2.1]; exact i2)) ((show own_In (fNb 2) w1.toInt.toNat 4 by rw [hSb.2.2.2.2.2.1]; exact i3)) ((show own_In (fNb 3) w2.toInt.toNat 4 by rw [hSb.2.2.2.2.2.2.1]; exact i4))) hZ (hw _ (List.mem_of_getElem? (i := 48) rfl)) (hw _ (List.mem_of_getElem? (i := 3) rfl)) (by decide) (by decide)) q19a q19c (g := (mkF m 247 #[.val (.int pa), .val (.int pb), .val (.int pc), .val (.int pe1), .val (.int pe2), .val (.int pf), .val (.int u1), .val (.int u2), .val (.int w1), .val (.int w2), .val (.int ad), .val (.int mo), .val (.int rd), .val (.int pk), .val (.ref mt), .val (.int (1 : Int32)), .val (.int ad), .unset, .unset, .unset, .unset] [(.ref mt)])) rfl (by rw [hml]; rfl) (Steps.refl _) (argsL := []) (rest := []) (lenOf own_pd___V rfl) rfl (by show 2 * 0 + _ ≤ _; exact Nat.le_of_eq rfl) (hb hby at_247) (fun _ _ => ⟨rfl, rfl, (by decide : 4 + 0 ≤ _), (by decide : 57 + 0 ≤ _)⟩)
                  dsimp only [Pt.U, Pt.locs, Pt.cells, Pt.slots] at X19 l19 y19 z19 st19 hQ19
                  subst l19 y19 z19
                  obtain ⟨rfl, N19q, K19, fq19_0, fq19_1, fq19_2, fq19_3, fq19_4, fq19_5, fq19_6, fq19_7, fq19_8⟩ := hQ19
                  have N19 := Fr.app N15 N19q
                  have f19_E_mt : Exa Z T19.heap mt "com/example/handfast/handfast/algorithm/Matching" := fq15_0.keep K19
                  have z19c : n0 ≤ T19.heap.size := Nat.le_trans z15c K19.1
                  refine own_W.steps st19 ?_
                  show own_W p e (FrameEnd s) below room_1.cells room_1.slots (Q0 Z pa pb pc pe1 pe2 pf h0 n0) T19 (mkF m 250 #[.val (.int pa), .val (.int pb), .val (.int pc), .val (.int pe1), .val (.int pe2), .val (.int pf), .val (.int u1), .val (.int u2), .val (.int w1), .val (.int w2), .val (.int ad), .val (.int mo), .val (.int rd), .val (.int pk), .val (.ref mt), .val (.int (1 : Int32)), .val (.int ad), .unset, .unset, .unset, .unset] [])
                  obtain ⟨usg, fEg, fNg, fPg, hSg, hmg_0, hmg_1, hmg_2, hmg_3⟩ : ∃ (usg : Int32) (fEg fNg fPg : Nat → Int32), own_S0 ((((4)))) usg fPg  ∧ (Fld Z T19.heap mt "com/example/handfast/handfast/algorithm/Matching" "size" "I" (.int usg)) ∧ (own_A Z T19.heap ae2 .int (16) (fun z => .int (fEg z))) ∧ (own_A Z T19.heap an2 .int (32) (fun z => .int (fNg z))) ∧ (own_A Z T19.heap ap2 .int ((((4)))) (fun z => .int (fPg z))) := ⟨_, _, _, _, own_clr2 hSb i1 i2 i3 i4, fq19_4, fq19_6, fq19_7, fq19_8⟩
                  refine own_iconst X19 hx (hb hby at_250) (0 : Int32) (by first | rfl | decide) (rfl : 250 + 1 = 251) ?_
                  refine own_istore X19 hx (hb hby at_251) (l' := #[.val (.int pa), .val (.int pb), .val (.int pc), .val (.int pe1), .val (.int pe2), .val (.int pf), .val (.int u1), .val (.int u2), .val (.int w1), .val (.int w2), .val (.int ad), .val (.int mo), .val (.int rd), .val (.int pk), .val (.ref mt), .val (.int (0 : Int32)), .val (.int ad), .unset, .unset, .unset, .unset]) rfl (rfl : 251 + 2 = 253) ?_
                  refine own_iconst X19 hx (hb hby at_253) (0 : Int32) (by first | rfl | decide) (rfl : 253 + 1 = 254) ?_
                  refine own_istore X19 hx (hb hby at_254) (l' := #[.val (.int pa), .val (.int pb), .val (.int pc), .val (.int pe1), .val (.int pe2), .val (.int pf), .val (.int u1), .val (.int u2), .val (.int w1), .val (.int w2), .val (.int ad), .val (.int mo), .val (.int rd), .val (.int pk), .val (.ref mt), .val (.int (0 : Int32)), .val (.int (0 : Int32)), .unset, .unset, .unset, .unset]) rfl (rfl : 254 + 2 = 256) ?_
                  exact J256 ((0 : Int32)) ((0 : Int32)) (fPg) _ _ _  X19 rfl N19 z19c fq19_0 fq19_3 hmg_3 (own_V0 hSg u1 u2 w1 w2 rfl rfl)
                · skip
                  refine own_icmpYes X15 hx (hb hby at_242) (feq hc242).2 (pc' := 256) (by decide) (by decide) ?_
                  exact J256 ((1 : Int32)) (ad) (fPb) _ _ _  X15 rfl N15 z15c fq15_0 fq15_3 hmb_3 (own_V2 hSb (by decide) hc137)
        by_cases hc105 : (pf &&& (1 : Int32)) = (0 : Int32)
        · skip
          refine own_ifYes X0 hx (hb hby at_105) ((if0 _ _).trans (teq hc105).1) (pc' := 112) (by decide) (by decide) ?_
          refine own_iconst X0 hx (hb hby at_112) (0 : Int32) (by first | rfl | decide) (rfl : 112 + 1 = 113) ?_
          exact J113 ((0 : Int32))   
        · skip
          refine own_ifNo X0 hx (hb hby at_105) ((if0 _ _).trans (feq hc105).1) (rfl : 105 + 3 = 108) ?_
          refine own_iconst X0 hx (hb hby at_108) (1 : Int32) (by first | rfl | decide) (rfl : 108 + 1 = 109) ?_
          refine own_goto X0 hx (hb hby at_109) (pc' := 113) (by decide) (by decide) ?_
          exact J113 ((1 : Int32))   
      by_cases hc91 : (((pc.toUInt32 >>> ((3 : Int32) &&& 31).toUInt32).toInt32) &&& (1 : Int32)) = (0 : Int32)
      · skip
        refine own_ifYes X0 hx (hb hby at_91) ((if0 _ _).trans (teq hc91).1) (pc' := 98) (by decide) (by decide) ?_
        refine own_iconst X0 hx (hb hby at_98) (0 : Int32) (by first | rfl | decide) (rfl : 98 + 1 = 99) ?_
        exact J99 ((0 : Int32))   
      · skip
        refine own_ifNo X0 hx (hb hby at_91) ((if0 _ _).trans (feq hc91).1) (rfl : 91 + 3 = 94) ?_
        refine own_iconst X0 hx (hb hby at_94) (1 : Int32) (by first | rfl | decide) (rfl : 94 + 1 = 95) ?_
        refine own_goto X0 hx (hb hby at_95) (pc' := 99) (by decide) (by decide) ?_
        exact J99 ((1 : Int32))   
    by_cases hc69 : (pc &&& (1 : Int32)) = (0 : Int32)
    · skip
      refine own_ifYes X0 hx (hb hby at_69) ((if0 _ _).trans (teq hc69).1) (pc' := 76) (by decide) (by decide) ?_
      refine own_iconst X0 hx (hb hby at_76) (0 : Int32) (by first | rfl | decide) (rfl : 76 + 1 = 77) ?_
      exact J77 ((0 : Int32))   
    · skip
      refine own_ifNo X0 hx (hb hby at_69) ((if0 _ _).trans (feq hc69).1) (rfl : 69 + 3 = 72) ?_
      refine own_iconst X0 hx (hb hby at_72) (1 : Int32) (by first | rfl | decide) (rfl : 72 + 1 = 73) ?_
      refine own_goto X0 hx (hb hby at_73) (pc' := 77) (by decide) (by decide) ?_
      exact J77 ((1 : Int32))   
  by_cases hc22 : u1 = (0 : Int32)
  · skip
    refine own_ifYes X0 hx (hb hby at_22) ((if0 _ _).trans (teq hc22).1) (pc' := 34) (by decide) (by decide) ?_
    refine own_iload X0 hx (hb hby at_34) (v := u1) rfl (rfl : 34 + 2 = 36) ?_
    refine own_iconst X0 hx (hb hby at_36) (1 : Int32) (by first | rfl | decide) (rfl : 36 + 1 = 37) ?_
    by_cases hc37 : u1 = (1 : Int32)
    · skip
      refine own_icmpYes X0 hx (hb hby at_37) (teq hc37).1 (pc' := 50) (by decide) (by decide) ?_
      refine own_iconst X0 hx (hb hby at_50) (2 : Int32) (by first | rfl | decide) (rfl : 50 + 1 = 51) ?_
      exact J51 ((2 : Int32))   (by have z0 := hc22; rw [← Int32.toInt_inj] at z0; have z1 := hc37; rw [← Int32.toInt_inj] at z1; rw [show (2 : Int32).toInt = 2 from by decide]; omega)
    · skip
      refine own_icmpNo X0 hx (hb hby at_37) (feq hc37).1 (rfl : 37 + 3 = 40) ?_
      refine own_iload X0 hx (hb hby at_40) (v := u2) rfl (rfl : 40 + 2 = 42) ?_
      refine own_iconst X0 hx (hb hby at_42) (1 : Int32) (by first | rfl | decide) (rfl : 42 + 1 = 43) ?_
      by_cases hc43 : u2 = (1 : Int32)
      · skip
        refine own_icmpYes X0 hx (hb hby at_43) (teq hc43).1 (pc' := 50) (by decide) (by decide) ?_
        refine own_iconst X0 hx (hb hby at_50) (2 : Int32) (by first | rfl | decide) (rfl : 50 + 1 = 51) ?_
        exact J51 ((2 : Int32))   (by have z0 := hc22; rw [← Int32.toInt_inj] at z0; have z1 := hc37; rw [← Int32.toInt_inj] at z1; have z2 := hc43; rw [← Int32.toInt_inj] at z2; rw [show (2 : Int32).toInt = 2 from by decide]; omega)
      · skip
        refine own_icmpNo X0 hx (hb hby at_43) (feq hc43).1 (rfl : 43 + 3 = 46) ?_
        refine own_iconst X0 hx (hb hby at_46) (1 : Int32) (by first | rfl | decide) (rfl : 46 + 1 = 47) ?_
        refine own_goto X0 hx (hb hby at_47) (pc' := 51) (by decide) (by decide) ?_
        exact J51 ((1 : Int32))   (by have z0 := hc22; rw [← Int32.toInt_inj] at z0; have z1 := hc37; rw [← Int32.toInt_inj] at z1; have z2 := hc43; rw [← Int32.toInt_inj] at z2; rw [show (1 : Int32).toInt = 1 from by decide]; omega)
  · skip
    refine own_ifNo X0 hx (hb hby at_22) ((if0 _ _).trans (feq hc22).1) (rfl : 22 + 3 = 25) ?_
    refine own_iload X0 hx (hb hby at_25) (v := u2) rfl (rfl : 25 + 2 = 27) ?_
    by_cases hc27 : u2 = (0 : Int32)
    · skip
      refine own_ifYes X0 hx (hb hby at_27) ((if0 _ _).trans (teq hc27).1) (pc' := 34) (by decide) (by decide) ?_
      refine own_iload X0 hx (hb hby at_34) (v := u1) rfl (rfl : 34 + 2 = 36) ?_
      refine own_iconst X0 hx (hb hby at_36) (1 : Int32) (by first | rfl | decide) (rfl : 36 + 1 = 37) ?_
      by_cases hc37 : u1 = (1 : Int32)
      · skip
        refine own_icmpYes X0 hx (hb hby at_37) (teq hc37).1 (pc' := 50) (by decide) (by decide) ?_
        refine own_iconst X0 hx (hb hby at_50) (2 : Int32) (by first | rfl | decide) (rfl : 50 + 1 = 51) ?_
        exact J51 ((2 : Int32))   (by have z0 := hc22; rw [← Int32.toInt_inj] at z0; have z1 := hc27; rw [← Int32.toInt_inj] at z1; have z2 := hc37; rw [← Int32.toInt_inj] at z2; rw [show (2 : Int32).toInt = 2 from by decide]; omega)
      · skip
        refine own_icmpNo X0 hx (hb hby at_37) (feq hc37).1 (rfl : 37 + 3 = 40) ?_
        refine own_iload X0 hx (hb hby at_40) (v := u2) rfl (rfl : 40 + 2 = 42) ?_
        refine own_iconst X0 hx (hb hby at_42) (1 : Int32) (by first | rfl | decide) (rfl : 42 + 1 = 43) ?_
        by_cases hc43 : u2 = (1 : Int32)
        · skip
          refine own_icmpYes X0 hx (hb hby at_43) (teq hc43).1 (pc' := 50) (by decide) (by decide) ?_
          refine own_iconst X0 hx (hb hby at_50) (2 : Int32) (by first | rfl | decide) (rfl : 50 + 1 = 51) ?_
          exact J51 ((2 : Int32))   (by have z0 := hc22; rw [← Int32.toInt_inj] at z0; have z1 := hc27; rw [← Int32.toInt_inj] at z1; have z2 := hc37; rw [← Int32.toInt_inj] at z2; have z3 := hc43; rw [← Int32.toInt_inj] at z3; rw [show (2 : Int32).toInt = 2 from by decide]; omega)
        · skip
          refine own_icmpNo X0 hx (hb hby at_43) (feq hc43).1 (rfl : 43 + 3 = 46) ?_
          refine own_iconst X0 hx (hb hby at_46) (1 : Int32) (by first | rfl | decide) (rfl : 46 + 1 = 47) ?_
          refine own_goto X0 hx (hb hby at_47) (pc' := 51) (by decide) (by decide) ?_
          exact J51 ((1 : Int32))   (by have z0 := hc22; rw [← Int32.toInt_inj] at z0; have z1 := hc27; rw [← Int32.toInt_inj] at z1; have z2 := hc37; rw [← Int32.toInt_inj] at z2; have z3 := hc43; rw [← Int32.toInt_inj] at z3; rw [show (1 : Int32).toInt = 1 from by decide]; omega)
    · skip
      refine own_ifNo X0 hx (hb hby at_27) ((if0 _ _).trans (feq hc27).1) (rfl : 27 + 3 = 30) ?_
      refine own_iconst X0 hx (hb hby at_30) (0 : Int32) (by first | rfl | decide) (rfl : 30 + 1 = 31) ?_
      refine own_goto X0 hx (hb hby at_31) (pc' := 51) (by decide) (by decide) ?_
      exact J51 ((0 : Int32))   (by have z0 := hc22; rw [← Int32.toInt_inj] at z0; have z1 := hc27; rw [← Int32.toInt_inj] at z1; rw [show (0 : Int32).toInt = 0 from by decide]; omega)
set_option maxRecDepth 65536 in
set_option maxHeartbeats 40000000 in
theorem comes_1 {Post : Tables → Env → Array Value → State → Outcome → State → Prop} (hpost : ∀ tb e args s v u, (limb_1_1.after args s (.returned v) u = true ∧ limb_1_2.after args s (.returned v) u = true ∧ True) → FrameEnd s (.returned v) u (Jvm.fieldLocs frame_1_writes args s ++ Jvm.arrayLocs frame_1_arrays args s ++ Jvm.staticLocs frame_1_statics s) 16 192 → Post tb e args s (.returned v) u) :
    ArmFor flags0 classFile x code maxLocals ret World_1 tables_1 room_1 Calls_1 rest_1 Pre_1 Post := by
  intro l hfl _ _ p e ha hc hk s m args below hf hA hF happ hP
  obtain ⟨hcalls, hrest, hpre⟩ := hP
  obtain ⟨-, -, -, hnamed, -, -, -, hat⟩ := (Spec.applies_iff hf).mp happ
  obtain ⟨hg, hn⟩ := and_e (Cond.before_iff.mp (show (Jvm.Cond.and given_1 narrow_1).before args s = true from hpre))
  obtain ⟨hg0, hr0⟩ := and_e hg
  obtain ⟨hg1, hr1⟩ := and_e hr0
  obtain ⟨hg2, hr2⟩ := and_e hr1
  obtain ⟨hg3, hr3⟩ := and_e hr2
  obtain ⟨hg4, hr4⟩ := and_e hr3
  obtain ⟨hg5, hr5⟩ := and_e hr4
  obtain ⟨w0, w1, w2, w3, w4, w5, rfl⟩ : ∃ w0 w1 w2 w3 w4 w5 : Value, args = #[w0, w1, w2, w3, w4, w5] := by
    have hs : args.size = 6 := by simpa [Cond.value, given_1] using hg0
    obtain ⟨L⟩ := args
    match L, hs with
    | [w0, w1, w2, w3, w4, w5], _ => exact ⟨w0, w1, w2, w3, w4, w5, rfl⟩
  have hw := fun d (hd : d ∈ tables_1) => atoms_spec (ws := Jvm.Cond.code x code maxLocals ret :: tables_1) hat d (List.mem_cons_of_mem _ hd)
  obtain ⟨i0, ei0⟩ := is_v hg1
  obtain rfl : w0 = (.int i0) := Option.some.inj ei0
  obtain ⟨i1, ei1⟩ := is_v hg2
  obtain rfl : w1 = (.int i1) := Option.some.inj ei1
  obtain ⟨i2, ei2⟩ := is_v hg3
  obtain rfl : w2 = (.int i2) := Option.some.inj ei2
  obtain ⟨i3, ei3⟩ := is_v hg4
  obtain rfl : w3 = (.int i3) := Option.some.inj ei3
  obtain ⟨i4, ei4⟩ := is_v hg5
  obtain rfl : w4 = (.int i4) := Option.some.inj ei4
  obtain ⟨i5, ei5⟩ := is_v hr5
  obtain rfl : w5 = (.int i5) := Option.some.inj ei5
  obtain ⟨n, o, h1, h2, h3, _, L, rfl, ⟨rfl, N⟩, hq⟩ := rm0 l s _ hw tables_1 i0 i1 i2 i3 i4 i5 s.heap s.heap.size (Nat.le_refl _) p e ha hc hk s m _ below hf ((Spec.applies_iff_loose hf).mp happ).1 ⟨rfl, State.Warmed39.refl s, rfl⟩ trivial
  refine ⟨n, _, h1, h2, h3, hpost _ _ _ _ _ _ ⟨Cond.after_iff.mpr rfl, Cond.after_iff.mpr (eq_i res_at (Term.int_eval (1)) rfl), trivial⟩ ⟨hq.1, hq.2.1, (hq.2.2.sift fun y hy => Or.inr (N y hy)).mono (by decide) (by decide)⟩⟩
theorem main_1_1 : Claimed_1_1 := comes_1 fun _ _ _ _ _ _ h hF => ⟨h.1, hF⟩
theorem main_1_2 : Claimed_1_2 := comes_1 fun _ _ _ _ _ _ h hF => ⟨h.2.1, hF⟩
end Jvm.Pilot.@@N@@
namespace Jvm.Pilot.@@N@@
open Jvm Jvm.ClassFile Sem Op Lib Jvm.Free Jvm.Stand Jvm.Pilot.@@N@@.Jvm.D
/-! MADE BY PROGRAM (witnessworld.py) out of the Statement's table words and the real class files: 10 classes; the members and pool entries that the words name. The judged class is class 1, her method 1. -/
namespace start1
open Jvm.ClassFile
def u (s : String) : CpInfo := .utf8 (stringToUtf16 s)
/-- a pool by its gaps: so many unusable entries, then the entry; so many at the end -/
def gap : Nat → List CpInfo → List CpInfo
  | 0, r => r
  | n + 1, r => .unusable :: gap n r
def poolList (es : List (Nat × CpInfo)) (last : Nat) : List CpInfo := es.foldr (fun e r => gap e.1 (e.2 :: r)) (gap last [])
def pool (es : List (Nat × CpInfo)) (last : Nat) : Array CpInfo := ⟨poolList es last⟩
def fileOf (pool : Array CpInfo) (this : Nat) (attrs : Array Attribute := #[]) (ms : Array MethodInfo := #[]) (fl : Nat := 33) (sup : Nat := 0) (ifs : Array Nat := #[]) (fds : Array FieldInfo := #[]) : ClassFile where
  minorVersion := 0
  majorVersion := 65
  constantPool := pool
  accessFlags := fl
  thisClass := this
  superClass := sup
  interfaces := ifs
  fields := fds
  methods := ms
  attributes := attrs
def plain (name : String) (sup : Option ClassId) : Class where
  name := name
  kind := .ordinary
  loader := none
  accessFlags := 33
  super := sup
  interfaces := #[]
  cf := none
  fields := #[]
  methods := #[]
  instanceTypes := #[]
  staticTypes := #[]
  resolved := #[]
  callSites := []
  init := .initialized
  statics := none
  mirror := none

def pool0 : Array CpInfo := pool [(5, u "<init>"), (0, u "()V"), (1, .class_ 10), (1, u "java/lang/Object")] 113

def k0c0 : Code := { maxStack := 0, maxLocals := 1, code := object_method_1_code, exceptionTable := #[], attributes := #[] }
def k0m0 : Method := { name := "<init>", desc := "()V", sig := { parameters := [], returnType := none }, accessFlags := 1, code := some k0c0 }
/-- java/lang/Object -/
def k0 : Class := { plain "java/lang/Object" none with
  accessFlags := 33
  interfaces := #[]
  cf := some (fileOf pool0 8 #[] #[{ accessFlags := 1, nameIndex := 5, descriptorIndex := 6, attributes := #[] }] 33 0 #[] #[])
  fields := #[]
  methods := #[k0m0]
  instanceTypes := #[]
  staticTypes := #[]
  resolved := Array.replicate 124 none
  statics := none }

def pool1 : Array CpInfo := pool [(2, .class_ 4), (1, u "java/lang/Object"), (0, u "<init>"), (0, u "()V"), (0, .integer 2147483647), (0, .class_ 9), (0, u "com/example/handfast/handfast/algorithm/Matching"), (0, .methodref 8 11), (0, .nameAndType 5 12), (0, u "(I)V"), (0, .methodref 8 14), (0, .nameAndType 15 16), (0, u "add"), (0, u "(III)V"), (0, .methodref 8 18), (0, .nameAndType 19 12), (0, u "removeAt"), (0, .methodref 8 21), (0, .nameAndType 22 6), (0, u "clear"), (0, .methodref 8 24), (0, .nameAndType 25 26), (0, u "isFree"), (0, u "(I)Z"), (0, .methodref 28 29), (0, .class_ 30), (0, .nameAndType 31 32), (0, u "com/example/handfast/handfast/algorithm/MatchingIsFreePinLaw"), (0, u "expectedFree"), (0, u "(IIIIIZZ)Z"), (2, u "law"), (0, u "(IIIIII)Z")] 3

def k1m0 : Method := { name := "<init>", desc := "()V", sig := { parameters := [], returnType := none }, accessFlags := 1, code := none }
def k1c1 : Code := { maxStack := 8, maxLocals := 21, code := code, exceptionTable := #[], attributes := #[] }
def k1m1 : Method := { name := "law", desc := "(IIIIII)Z", sig := { parameters := [.int, .int, .int, .int, .int, .int], returnType := some .boolean }, accessFlags := 9, code := some k1c1 }
def k1c2 : Code := { maxStack := 2, maxLocals := 9, code := method_3_code, exceptionTable := #[], attributes := #[] }
def k1m2 : Method := { name := "expectedFree", desc := "(IIIIIZZ)Z", sig := { parameters := [.int, .int, .int, .int, .int, .boolean, .boolean], returnType := some .boolean }, accessFlags := 10, code := some k1c2 }
/-- com/example/handfast/handfast/algorithm/MatchingIsFreePinLaw -/
def k1 : Class := { plain "com/example/handfast/handfast/algorithm/MatchingIsFreePinLaw" (some 0) with
  accessFlags := 49
  interfaces := #[]
  cf := some (fileOf pool1 28 #[] #[{ accessFlags := 1, nameIndex := 5, descriptorIndex := 6, attributes := #[] }, { accessFlags := 9, nameIndex := 35, descriptorIndex := 36, attributes := #[] }, { accessFlags := 10, nameIndex := 31, descriptorIndex := 32, attributes := #[] }] 49 2 #[] #[])
  fields := #[]
  methods := #[k1m0, k1m1, k1m2]
  instanceTypes := #[]
  staticTypes := #[]
  resolved := Array.replicate 40 none
  statics := none }

def pool2 : Array CpInfo := pool [(1, .methodref 2 3), (0, .class_ 4), (0, .nameAndType 5 6), (0, u "java/lang/Object"), (0, u "<init>"), (0, u "()V"), (0, .class_ 8), (0, u "com/example/handfast/handfast/algorithm/Matching"), (0, .fieldref 7 10), (0, .nameAndType 11 12), (0, u "edges"), (0, u "[I"), (0, .fieldref 7 14), (0, .nameAndType 15 12), (0, u "ends"), (0, .fieldref 7 17), (0, .nameAndType 18 12), (0, u "placeAt"), (0, .methodref 20 21), (0, .class_ 22), (0, .nameAndType 23 24), (0, u "java/util/Arrays"), (0, u "fill"), (0, u "([II)V"), (0, .fieldref 7 26), (0, .nameAndType 27 28), (0, u "size"), (0, u "I"), (4, .fieldref 7 34), (0, .nameAndType 35 36), (0, u "members"), (0, u "Lcom/example/handfast/handfast/model/NumberSet;"), (5, u "add"), (12, u "NONE"), (2, u "FIRST_ROOM"), (1, u "(I)V"), (3, u "isFree"), (0, u "(I)Z"), (3, u "(III)V"), (0, u "removeAt"), (0, u "clear")] 5

def k2c0 : Code := { maxStack := 2, maxLocals := 2, code := prog_15_method_1_code, exceptionTable := #[], attributes := #[] }
def k2m0 : Method := { name := "<init>", desc := "(I)V", sig := { parameters := [.int], returnType := none }, accessFlags := 0, code := some k2c0 }
def k2c1 : Code := { maxStack := 2, maxLocals := 2, code := prog_15_method_3_code, exceptionTable := #[], attributes := #[] }
def k2m1 : Method := { name := "isFree", desc := "(I)Z", sig := { parameters := [.int], returnType := some .boolean }, accessFlags := 0, code := some k2c1 }
def k2c2 : Code := { maxStack := 4, maxLocals := 4, code := prog_15_method_8_code, exceptionTable := #[], attributes := #[] }
def k2m2 : Method := { name := "add", desc := "(III)V", sig := { parameters := [.int, .int, .int], returnType := none }, accessFlags := 0, code := some k2c2 }
def k2c3 : Code := { maxStack := 5, maxLocals := 3, code := prog_15_method_9_code, exceptionTable := #[], attributes := #[] }
def k2m3 : Method := { name := "removeAt", desc := "(I)V", sig := { parameters := [.int], returnType := none }, accessFlags := 0, code := some k2c3 }
def k2c4 : Code := { maxStack := 4, maxLocals := 2, code := prog_15_method_10_code, exceptionTable := #[], attributes := #[] }
def k2m4 : Method := { name := "clear", desc := "()V", sig := { parameters := [], returnType := none }, accessFlags := 0, code := some k2c4 }
/-- com/example/handfast/handfast/algorithm/Matching -/
def k2 : Class := { plain "com/example/handfast/handfast/algorithm/Matching" (some 0) with
  accessFlags := 48
  interfaces := #[]
  cf := some (fileOf pool2 7 #[] #[{ accessFlags := 0, nameIndex := 5, descriptorIndex := 60, attributes := #[] }, { accessFlags := 0, nameIndex := 64, descriptorIndex := 65, attributes := #[] }, { accessFlags := 0, nameIndex := 42, descriptorIndex := 69, attributes := #[] }, { accessFlags := 0, nameIndex := 70, descriptorIndex := 60, attributes := #[] }, { accessFlags := 0, nameIndex := 71, descriptorIndex := 6, attributes := #[] }] 48 2 #[] #[{ accessFlags := 24, nameIndex := 55, descriptorIndex := 28, attributes := #[] }, { accessFlags := 26, nameIndex := 58, descriptorIndex := 28, attributes := #[] }, { accessFlags := 18, nameIndex := 18, descriptorIndex := 12, attributes := #[] }, { accessFlags := 2, nameIndex := 35, descriptorIndex := 36, attributes := #[] }, { accessFlags := 2, nameIndex := 11, descriptorIndex := 12, attributes := #[] }, { accessFlags := 2, nameIndex := 15, descriptorIndex := 12, attributes := #[] }, { accessFlags := 2, nameIndex := 27, descriptorIndex := 28, attributes := #[] }])
  fields := #[{ name := "NONE", type := .int, accessFlags := 24, slot := 0, constantValue := 0 }, { name := "FIRST_ROOM", type := .int, accessFlags := 26, slot := 1, constantValue := 0 }, { name := "placeAt", type := (.array .int), accessFlags := 18, slot := 0, constantValue := 0 }, { name := "members", type := (.object "com/example/handfast/handfast/model/NumberSet"), accessFlags := 2, slot := 1, constantValue := 0 }, { name := "edges", type := (.array .int), accessFlags := 2, slot := 2, constantValue := 0 }, { name := "ends", type := (.array .int), accessFlags := 2, slot := 3, constantValue := 0 }, { name := "size", type := .int, accessFlags := 2, slot := 4, constantValue := 0 }]
  methods := #[k2m0, k2m1, k2m2, k2m3, k2m4]
  instanceTypes := #[(.array .int), (.object "com/example/handfast/handfast/model/NumberSet"), (.array .int), (.array .int), .int]
  staticTypes := #[.int, .int]
  resolved := Array.replicate 77 none
  statics := none }

def pool3 : Array CpInfo := pool [(2, .class_ 4), (1, u "java/lang/Object"), (0, u "<init>"), (0, u "()V"), (7, .class_ 16), (1, u "java/util/Arrays"), (57, .class_ 76), (1, u "java/util/Arrays$NaturalOrder"), (36, .class_ 115), (1, u "java/util/Arrays$LegacyMergeSort"), (1, u "Z"), (257, .class_ 376), (0, u "java/util/Arrays$ArrayList"), (68, u "$assertionsDisabled"), (269, u "MIN_ARRAY_SORT_GRAN"), (0, u "I"), (2, u "INSERTIONSORT_THRESHOLD"), (120, u "fill"), (4, u "([II)V"), (129, .class_ 976), (0, u "java/util/Arrays$ArrayItr")] 52

def k3m0 : Method := { name := "<init>", desc := "()V", sig := { parameters := [], returnType := none }, accessFlags := 2, code := none }
def k3c1 : Code := { maxStack := 3, maxLocals := 4, code := jdk_65_method_103_code, exceptionTable := #[], attributes := #[] }
def k3m1 : Method := { name := "fill", desc := "([II)V", sig := { parameters := [(.array .int), .int], returnType := none }, accessFlags := 9, code := some k3c1 }
/-- java/util/Arrays -/
def k3 : Class := { plain "java/util/Arrays" (some 0) with
  accessFlags := 49
  interfaces := #[]
  cf := some (fileOf pool3 14 #[.nestMembers #[975, 375, 113, 74]] #[{ accessFlags := 2, nameIndex := 5, descriptorIndex := 6, attributes := #[] }, { accessFlags := 9, nameIndex := 840, descriptorIndex := 845, attributes := #[] }] 49 2 #[] #[{ accessFlags := 26, nameIndex := 715, descriptorIndex := 716, attributes := #[] }, { accessFlags := 26, nameIndex := 719, descriptorIndex := 716, attributes := #[] }, { accessFlags := 4120, nameIndex := 445, descriptorIndex := 117, attributes := #[] }])
  fields := #[{ name := "MIN_ARRAY_SORT_GRAN", type := .int, accessFlags := 26, slot := 0, constantValue := 0 }, { name := "INSERTIONSORT_THRESHOLD", type := .int, accessFlags := 26, slot := 1, constantValue := 0 }, { name := "$assertionsDisabled", type := .boolean, accessFlags := 4120, slot := 2, constantValue := 0 }]
  methods := #[k3m0, k3m1]
  instanceTypes := #[]
  staticTypes := #[.int, .int, .boolean]
  resolved := Array.replicate 1029 none
  statics := none }

def pool4 : Array CpInfo := pool [(1, u "java/lang/Cloneable"), (0, .class_ 1), (0, u "java/lang/Object"), (0, .class_ 3)] 3

/-- java/lang/Cloneable -/
def k4 : Class := { plain "java/lang/Cloneable" (some 0) with
  accessFlags := 1537
  interfaces := #[]
  cf := some (fileOf pool4 2 #[] #[] 1537 4 #[] #[])
  fields := #[]
  methods := #[]
  instanceTypes := #[]
  staticTypes := #[]
  resolved := Array.replicate 8 none
  statics := none }

def pool5 : Array CpInfo := pool [(1, u "java/io/Serializable"), (0, .class_ 1), (0, u "java/lang/Object"), (0, .class_ 3)] 3

/-- java/io/Serializable -/
def k5 : Class := { plain "java/io/Serializable" (some 0) with
  accessFlags := 1537
  interfaces := #[]
  cf := some (fileOf pool5 2 #[] #[] 1537 4 #[] #[])
  fields := #[]
  methods := #[]
  instanceTypes := #[]
  staticTypes := #[]
  resolved := Array.replicate 8 none
  statics := none }

/-- the primitive byte -/
def k6 : Class := { plain "byte" none with kind := .primitive 'B', accessFlags := 0x411 }
/-- [B -/
def k7 : Class := { plain "[B" (some 0) with kind := .array 6 .byte, interfaces := #[4, 5], accessFlags := 1041 }

/-- the primitive int -/
def k8 : Class := { plain "int" none with kind := .primitive 'I', accessFlags := 0x411 }
/-- [I -/
def k9 : Class := { plain "[I" (some 0) with kind := .array 8 .int, interfaces := #[4, 5], accessFlags := 1041 }

def heap : Heap := #[]
def classes : Array Class := #[k0, k1, k2, k3, k4, k5, k6, k7, k8, k9]
def interned : List (Array UInt16 × Addr) := []
def slotsUsed : Nat := 0
def theMethod : MethodId := ⟨1, 1⟩
def args0 : Array Value := #[.int 5, .int 5, .int 5, .int 5, .int 5, .int 5]
def aboutOver (below : List Frame) : State where
  vm := { classes := classes, interned := interned.toArray }
  heap := heap
  slotsUsed := slotsUsed
  threads := #[{ frames := .invoking theMethod args0 :: below }]
def below0 : List Frame := [.native { method := ⟨0, 0⟩, args := #[] }]
def about1 : State := aboutOver below0
def p0 : Program := .bare "" "" ""
def e0 : Env := launch0.env 0 0 0
theorem w_frames : about1.frames = Frame.invoking theMethod args0 :: below0 := rfl
set_option maxRecDepth 65536 in
theorem w_args : argsFit about1.vm theMethod args0 = true := by decide +kernel
set_option maxRecDepth 65536 in
theorem w_heap : heapFits about1 = true := by decide +kernel
set_option maxRecDepth 65536 in
theorem w_runnable : about1.curStatus? = some .runnable := by decide +kernel
set_option maxRecDepth 65536 in
theorem w_alone : about1.alone = true := by decide +kernel
set_option maxRecDepth 65536 in
theorem w_named : about1.methodNamed? x = some theMethod := by decide +kernel
set_option maxRecDepth 65536 in
theorem w_hears : about1.hears theMethod below0 = true := by decide +kernel
set_option maxRecDepth 65536 in
theorem w_ripe : about1.ripe theMethod args0 below0 = true := by decide +kernel
theorem w_running : about1.status = .running := rfl
set_option maxRecDepth 65536 in
theorem w_room : about1.hasRoom e0.platform room_1 = true :=
  launch0.hasRoom_least _ room_1 (by decide +kernel) (by decide +kernel) (by decide +kernel) (by decide +kernel) (by decide +kernel) (by decide +kernel)
theorem allAtoms_all (ts : List Jvm.Cond) (a : Array Jvm.Value) (st : Jvm.State) : (allAtoms ts).before a st = ts.all (fun c => c.before a st) := by
  induction ts with
  | nil => rfl
  | cons c t ih =>
    show (Jvm.Cond.and c (allAtoms t)).before a st = _
    rw [Jvm.Cond.before_and, ih, List.all_cons]
def words1 : List Jvm.Cond := Jvm.Cond.code x code maxLocals ret :: tables_1
/-- a 'code' word, met by the world's own term for the bytes: nothing is compared byte by byte -/
theorem code_word {y : MethodName} {bytes : ByteArray} {mx : Nat} {rt : Option FieldType} {a : Array Value} {s : State} {m : MethodId} {meth : Method} {c : Code} (h1 : s.methodNamed? y = some m) (h2 : s.vm.method? m = some meth) (h3 : meth.code = some c) (h4 : c.code = bytes)
    (h5 : (c.maxLocals == mx && c.exceptionTable.isEmpty && decide (c.maxStack ≤ mostOperands) && decide (meth.sig.returnType = rt) && !meth.locks && decide (parseMethodDescriptor y.desc = some meth.sig)) = true) : (Jvm.Cond.code y bytes mx rt).before a s = true := by
  simp only [Bool.and_eq_true, beq_iff_eq, Bool.not_eq_true', decide_eq_true_eq] at h5
  obtain ⟨⟨⟨⟨⟨g1, g2⟩, g3⟩, g4⟩, g5⟩, g6⟩ := h5
  simp [Cond.before, Cond.holds, Cond.value, h1, h2, h3, h4, g1, g2, g3, g4, g5, g6]
def isCode : Jvm.Cond → Bool
  | .code _ _ _ _ => true
  | _ => false
theorem all_split {L : List Jvm.Cond} {P : Jvm.Cond → Bool} (h1 : L.all (fun c => isCode c || P c) = true) (h2 : ∀ c ∈ L.filter isCode, P c = true) : L.all P = true := by
  refine List.all_eq_true.mpr fun c hc => ?_
  have h := List.all_eq_true.mp h1 c hc
  rcases Bool.eq_false_or_eq_true (isCode c) with hi | hi
  · exact h2 c (List.mem_filter.mpr ⟨hc, hi⟩)
  · simpa [hi] using h
set_option maxRecDepth 65536 in
theorem w_c0 : (Jvm.Cond.code x code maxLocals ret).before args0 about1 = true := code_word (m := ⟨1, 1⟩) (meth := k1m1) (c := k1c1) (by decide +kernel) rfl rfl rfl (by decide +kernel)
set_option maxRecDepth 65536 in
theorem w_c1 : (Jvm.Cond.code ({ cls := "com/example/handfast/handfast/algorithm/Matching", name := "<init>", desc := "(I)V" } : Jvm.MethodName) prog_15_method_1_code (2 : Nat) (Option.none : Option Jvm.ClassFile.FieldType)).before args0 about1 = true := code_word (m := ⟨2, 0⟩) (meth := k2m0) (c := k2c0) (by decide +kernel) rfl rfl rfl (by decide +kernel)
set_option maxRecDepth 65536 in
theorem w_c2 : (Jvm.Cond.code ({ cls := "java/lang/Object", name := "<init>", desc := "()V" } : Jvm.MethodName) object_method_1_code (1 : Nat) (Option.none : Option Jvm.ClassFile.FieldType)).before args0 about1 = true := code_word (m := ⟨0, 0⟩) (meth := k0m0) (c := k0c0) (by decide +kernel) rfl rfl rfl (by decide +kernel)
set_option maxRecDepth 65536 in
theorem w_c3 : (Jvm.Cond.code ({ cls := "java/util/Arrays", name := "fill", desc := "([II)V" } : Jvm.MethodName) jdk_65_method_103_code (4 : Nat) (Option.none : Option Jvm.ClassFile.FieldType)).before args0 about1 = true := code_word (m := ⟨3, 1⟩) (meth := k3m1) (c := k3c1) (by decide +kernel) rfl rfl rfl (by decide +kernel)
set_option maxRecDepth 65536 in
theorem w_c4 : (Jvm.Cond.code ({ cls := "com/example/handfast/handfast/algorithm/Matching", name := "add", desc := "(III)V" } : Jvm.MethodName) prog_15_method_8_code (4 : Nat) (Option.none : Option Jvm.ClassFile.FieldType)).before args0 about1 = true := code_word (m := ⟨2, 2⟩) (meth := k2m2) (c := k2c2) (by decide +kernel) rfl rfl rfl (by decide +kernel)
set_option maxRecDepth 65536 in
theorem w_c5 : (Jvm.Cond.code ({ cls := "com/example/handfast/handfast/algorithm/Matching", name := "removeAt", desc := "(I)V" } : Jvm.MethodName) prog_15_method_9_code (3 : Nat) (Option.none : Option Jvm.ClassFile.FieldType)).before args0 about1 = true := code_word (m := ⟨2, 3⟩) (meth := k2m3) (c := k2c3) (by decide +kernel) rfl rfl rfl (by decide +kernel)
set_option maxRecDepth 65536 in
theorem w_c6 : (Jvm.Cond.code ({ cls := "com/example/handfast/handfast/algorithm/Matching", name := "isFree", desc := "(I)Z" } : Jvm.MethodName) prog_15_method_3_code (2 : Nat) (Option.some Jvm.ClassFile.FieldType.boolean)).before args0 about1 = true := code_word (m := ⟨2, 1⟩) (meth := k2m1) (c := k2c1) (by decide +kernel) rfl rfl rfl (by decide +kernel)
set_option maxRecDepth 65536 in
theorem w_c7 : (Jvm.Cond.code ({ cls := "com/example/handfast/handfast/algorithm/MatchingIsFreePinLaw", name := "expectedFree", desc := "(IIIIIZZ)Z" } : Jvm.MethodName) method_3_code (9 : Nat) (Option.some Jvm.ClassFile.FieldType.boolean)).before args0 about1 = true := code_word (m := ⟨1, 2⟩) (meth := k1m2) (c := k1c2) (by decide +kernel) rfl rfl rfl (by decide +kernel)
set_option maxRecDepth 65536 in
theorem w_c8 : (Jvm.Cond.code ({ cls := "com/example/handfast/handfast/algorithm/Matching", name := "clear", desc := "()V" } : Jvm.MethodName) prog_15_method_10_code (2 : Nat) (Option.none : Option Jvm.ClassFile.FieldType)).before args0 about1 = true := code_word (m := ⟨2, 4⟩) (meth := k2m4) (c := k2c4) (by decide +kernel) rfl rfl rfl (by decide +kernel)
def codes1 : List Jvm.Cond := [Jvm.Cond.code x code maxLocals ret, Jvm.Cond.code ({ cls := "com/example/handfast/handfast/algorithm/Matching", name := "<init>", desc := "(I)V" } : Jvm.MethodName) prog_15_method_1_code (2 : Nat) (Option.none : Option Jvm.ClassFile.FieldType), Jvm.Cond.code ({ cls := "java/lang/Object", name := "<init>", desc := "()V" } : Jvm.MethodName) object_method_1_code (1 : Nat) (Option.none : Option Jvm.ClassFile.FieldType), Jvm.Cond.code ({ cls := "java/util/Arrays", name := "fill", desc := "([II)V" } : Jvm.MethodName) jdk_65_method_103_code (4 : Nat) (Option.none : Option Jvm.ClassFile.FieldType), Jvm.Cond.code ({ cls := "com/example/handfast/handfast/algorithm/Matching", name := "add", desc := "(III)V" } : Jvm.MethodName) prog_15_method_8_code (4 : Nat) (Option.none : Option Jvm.ClassFile.FieldType), Jvm.Cond.code ({ cls := "com/example/handfast/handfast/algorithm/Matching", name := "removeAt", desc := "(I)V" } : Jvm.MethodName) prog_15_method_9_code (3 : Nat) (Option.none : Option Jvm.ClassFile.FieldType), Jvm.Cond.code ({ cls := "com/example/handfast/handfast/algorithm/Matching", name := "isFree", desc := "(I)Z" } : Jvm.MethodName) prog_15_method_3_code (2 : Nat) (Option.some Jvm.ClassFile.FieldType.boolean), Jvm.Cond.code ({ cls := "com/example/handfast/handfast/algorithm/MatchingIsFreePinLaw", name := "expectedFree", desc := "(IIIIIZZ)Z" } : Jvm.MethodName) method_3_code (9 : Nat) (Option.some Jvm.ClassFile.FieldType.boolean), Jvm.Cond.code ({ cls := "com/example/handfast/handfast/algorithm/Matching", name := "clear", desc := "()V" } : Jvm.MethodName) prog_15_method_10_code (2 : Nat) (Option.none : Option Jvm.ClassFile.FieldType)]
set_option maxRecDepth 65536 in
theorem codes_eq : words1.filter isCode = codes1 := rfl
theorem w_codes : ∀ c ∈ words1.filter isCode, c.before args0 about1 = true := by
  rw [codes_eq]
  intro c hc
  simp only [codes1, List.mem_cons, List.not_mem_nil, or_false] at hc
  rcases hc with rfl | rfl | rfl | rfl | rfl | rfl | rfl | rfl | rfl
  · exact w_c0
  · exact w_c1
  · exact w_c2
  · exact w_c3
  · exact w_c4
  · exact w_c5
  · exact w_c6
  · exact w_c7
  · exact w_c8
set_option maxRecDepth 65536 in
theorem w_t1 : (words1.take 24).all (fun c => isCode c || c.before args0 about1) = true := by decide +kernel
set_option maxRecDepth 65536 in
theorem w_t2 : ((words1.drop 24).take 24).all (fun c => isCode c || c.before args0 about1) = true := by decide +kernel
set_option maxRecDepth 65536 in
theorem w_t3 : ((words1.drop 24).drop 24).all (fun c => isCode c || c.before args0 about1) = true := by decide +kernel
theorem w_tables : (allAtoms (Jvm.Cond.code x code maxLocals ret :: tables_1)).before args0 about1 = true := by
  rw [allAtoms_all]
  show words1.all (fun c => c.before args0 about1) = true
  refine all_split ?_ w_codes
  rw [← List.take_append_drop 24 words1, List.all_append, w_t1, ← List.take_append_drop 24 (words1.drop 24), List.all_append, w_t2, w_t3]
  rfl
set_option maxRecDepth 65536 in
theorem w_case : (Jvm.Cond.and given_1 narrow_1).before args0 about1 = true := by decide +kernel
theorem w_applies : (headSpec (Jvm.Cond.code x code maxLocals ret :: tables_1) room_1).applies x e0.platform about1 = true :=
  (Spec.applies_iff w_frames).mpr ⟨w_running, w_runnable, w_alone, w_named, w_hears, w_ripe, w_room, w_tables⟩
theorem atStart : AtStart classFile x code maxLocals ret World_1 tables_1 room_1 Calls_1 rest_1 Pre_1 launch0 p0 e0 about1 theMethod args0 below0 :=
  ⟨lists_1, trivial, launch0.admits_env _ _ _, launch0.least_env, fairChoices_fair.cas, fairChoices_fair.clock, w_frames, w_args, w_heap, w_applies, trivial, trivial, w_case⟩
end start1
theorem witness_1 : WitnessClaimed_1 := ⟨start1.p0, start1.e0, start1.about1, start1.theMethod, start1.args0, start1.below0, start1.atStart⟩
end Jvm.Pilot.@@N@@
