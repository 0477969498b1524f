import JvmDerived
import JvmDerived.Pilot.@@N@@Statement
import JvmDerived.Pilot.@@N@@Code
set_option linter.unusedVariables false
set_option linter.unusedSimpArgs false
namespace Jvm.Pilot.@@N@@
open Jvm Jvm.ClassFile Sem Op Lib Jvm.Free Jvm.Stand Jvm.LawKit Jvm.RoadKit Bundle Jvm.Pilot.@@N@@.Jvm.D
/-! 0. one goal for a walk: from T with the frame g on top the run comes back with what Q says -/
def own_W (p : Program) (e : Env) (En : Outcome → State → List Loc → Nat → Nat → Prop) (below : List Frame) (kc ks : Nat) (Q : Option Value → Heap → List Loc → Prop) (T : State) (g : JFrame) : Prop :=
  ∃ s₂ o, Steps p.tables e below (T.setTop g) s₂ ∧ s₂.status = .running ∧ Ended s₂ below o ∧ ∃ v L, o = .returned v ∧ Q v s₂.heap L ∧ En o s₂ L kc ks
section OwnW
variable {En : Outcome → State → List Loc → Nat → Nat → Prop} {p : Program} {l : Launch} {e : Env} {R : Room} {s : State} {m : MethodId} {args : Array Value} {below : List Frame} {meth : Method} {c : Code} {T T' : State} {locs : List Loc} {cells slots kc ks : Nat} {Q : Option Value → Heap → List Loc → Prop} {g g' : JFrame} {pc pc' : Nat} {Ls : Array Slot} {st rest : List Value} {Z : State} {h h' : Heap} {a b : Addr} {sl : Nat}
theorem own_W.step (k : ∀ t, Steps p.tables e below (T'.setTop g') t → Steps p.tables e below (T.setTop g) t) (w : own_W p e En below kc ks Q T' g') : own_W p e En below kc ks Q T g := by
  obtain ⟨s2, o, h1, h2⟩ := w
  exact ⟨s2, o, k _ h1, h2⟩
theorem own_W.steps (k : Steps p.tables e below (T.setTop g) (T'.setTop g')) (w : own_W p e En below kc ks Q T' g') : own_W p e En below kc ks Q T g := by
  obtain ⟨s2, o, h1, h2⟩ := w
  exact ⟨s2, o, k.trans h1, h2⟩
theorem own_leave (X : Stand p l e R s m args below meth c T locs cells slots) (hlk : meth.locks = false) {v : Option Value} (hv : meth.sig.returnType = none → v = none) (hc : cells ≤ kc) (hs : slots ≤ ks)
    (k : ∀ fs, (∀ (f : JFrame) (acts : List Action), f.method = m → f.locked = none → f.entered = [] → (doReturn e (T.setTop f) acts v).1 = T.setFrames fs) → Steps p.tables e below (T.setTop g) (T.setFrames fs)) (hQ : Q v T.heap locs) : own_W p e (FrameEnd s) below kc ks Q T g := by
  obtain ⟨fs, hr, hrun, hended, hW, hsame⟩ := X.leave (v := v) hv hlk
  exact ⟨_, _, k fs hr, hrun, hended, v, locs, rfl, hQ, ⟨_, rfl⟩, hW, hsame.mono hc hs⟩
theorem own_retV (X : Stand p l e R s m args below meth c T locs cells slots) (hx : p.tables.exec = Jvm.exec) (hlk : meth.locks = false) (hret : meth.sig.returnType = none) (hd : decode c.code pc = .ok (.return_, 1)) (hc : cells ≤ kc) (hs : slots ≤ ks) (hQ : Q none T.heap locs) : own_W p e (FrameEnd s) below kc ks Q T (mkF m pc Ls []) :=
  own_leave X hlk (fun _ => rfl) hc hs (fun fs hr => X.returnOut hx hret hd hr) hQ
theorem own_retN {t : FieldType} (X : Stand p l e R s m args below meth c T locs cells slots) (hx : p.tables.exec = Jvm.exec) (hlk : meth.locks = false) (hret : meth.sig.returnType = some t) (ht : t = .boolean ∨ t = .byte ∨ t = .char ∨ t = .short) (hd : decode c.code pc = .ok (.ireturn, 1)) {z z' : Int32} (hz : nar t z = z') (hc : cells ≤ kc) (hs : slots ≤ ks) (hQ : Q (some (.int z')) T.heap locs) : own_W p e (FrameEnd s) below kc ks Q T (mkF m pc Ls (.int z :: rest)) := by
  subst hz
  exact own_leave X hlk (fun q => by rw [hret] at q; cases q) hc hs (fun fs hr => retN X hx hret ht hd hr) hQ
theorem own_retI (X : Stand p l e R s m args below meth c T locs cells slots) (hx : p.tables.exec = Jvm.exec) (hlk : meth.locks = false) (hret : meth.sig.returnType = some .int) (hd : decode c.code pc = .ok (.ireturn, 1)) {z : Int32} (hc : cells ≤ kc) (hs : slots ≤ ks) (hQ : Q (some (.int z)) T.heap locs) : own_W p e (FrameEnd s) below kc ks Q T (mkF m pc Ls (.int z :: rest)) :=
  own_leave X hlk (fun q => by rw [hret] at q; cases q) hc hs (fun fs hr => retOut X hx (t := .int) (w := .int z) (i := .ireturn) hret rfl (Or.inl ⟨rfl, Or.inl rfl, z, rfl⟩) hd hr) hQ
theorem own_retJ (X : Stand p l e R s m args below meth c T locs cells slots) (hx : p.tables.exec = Jvm.exec) (hlk : meth.locks = false) (hret : meth.sig.returnType = some .long) (hd : decode c.code pc = .ok (.lreturn, 1)) {z : Int64} (hc : cells ≤ kc) (hs : slots ≤ ks) (hQ : Q (some (.long z)) T.heap locs) : own_W p e (FrameEnd s) below kc ks Q T (mkF m pc Ls (.long z :: rest)) :=
  own_leave X hlk (fun q => by rw [hret] at q; cases q) hc hs (fun fs hr => retOut X hx (t := .long) (w := .long z) (i := .lreturn) hret rfl (Or.inr (Or.inl ⟨rfl, rfl, z, rfl⟩)) hd hr) hQ
theorem own_retA {t : FieldType} (X : Stand p l e R s m args below meth c T locs cells slots) (hx : p.tables.exec = Jvm.exec) (hlk : meth.locks = false) (hret : meth.sig.returnType = some t) (hn : narrow t (.ref a) = .ref a) (ht : t.isReference = true) (hd : decode c.code pc = .ok (.areturn, 1)) (hc : cells ≤ kc) (hs : slots ≤ ks) (hQ : Q (some (.ref a)) T.heap locs) : own_W p e (FrameEnd s) below kc ks Q T (mkF m pc Ls (.ref a :: rest)) :=
  own_leave X hlk (fun q => by rw [hret] at q; cases q) hc hs (fun fs hr => retOut X hx (t := t) (w := .ref a) (i := .areturn) hret hn (Or.inr (Or.inr (Or.inr (Or.inr ⟨rfl, ht, rfl⟩)))) hd hr) hQ
theorem own_iload (X : Stand p l e R s m args below meth c T locs cells slots) (hx : p.tables.exec = Jvm.exec) {k : Nat} {v : Int32} (hd : decode c.code pc = .ok (.iload k, 2)) (hl : Ls[k]? = some (.val (.int v))) (hp : pc + 2 = pc') (w : own_W p e En below kc ks Q T (mkF m pc' Ls (.int v :: st))) : own_W p e En below kc ks Q T (mkF m pc Ls (st)) := by
  subst hp; exact own_W.step (fun _ q => XS.iload X.here hx rfl hd hl q) w
theorem own_iloadN (X : Stand p l e R s m args below meth c T locs cells slots) (hx : p.tables.exec = Jvm.exec) {k : Fin 4} {v : Int32} (hd : decode c.code pc = .ok (.iload_n k, 1)) (hl : Ls[k.val]? = some (.val (.int v))) (hp : pc + 1 = pc') (w : own_W p e En below kc ks Q T (mkF m pc' Ls (.int v :: st))) : own_W p e En below kc ks Q T (mkF m pc Ls (st)) := by
  subst hp; exact own_W.step (fun _ q => XS.iloadN X.here hx rfl hd hl q) w
theorem own_lload (X : Stand p l e R s m args below meth c T locs cells slots) (hx : p.tables.exec = Jvm.exec) {k : Nat} {v : Int64} (hd : decode c.code pc = .ok (.lload k, 2)) (hl : Ls[k]? = some (.val (.long v))) (hp : pc + 2 = pc') (w : own_W p e En below kc ks Q T (mkF m pc' Ls (.long v :: st))) : own_W p e En below kc ks Q T (mkF m pc Ls (st)) := by
  subst hp; exact own_W.step (fun _ q => XS.lload X.here hx rfl hd hl q) w
theorem own_lloadN (X : Stand p l e R s m args below meth c T locs cells slots) (hx : p.tables.exec = Jvm.exec) {k : Fin 4} {v : Int64} (hd : decode c.code pc = .ok (.lload_n k, 1)) (hl : Ls[k.val]? = some (.val (.long v))) (hp : pc + 1 = pc') (w : own_W p e En below kc ks Q T (mkF m pc' Ls (.long v :: st))) : own_W p e En below kc ks Q T (mkF m pc Ls (st)) := by
  subst hp; exact own_W.step (fun _ q => XS.lloadN X.here hx rfl hd hl q) w
theorem own_aload (X : Stand p l e R s m args below meth c T locs cells slots) (hx : p.tables.exec = Jvm.exec) {k : Nat} {v : Value} (hd : decode c.code pc = .ok (.aload k, 2)) (hl : Ls[k]? = some (.val v)) (hv : v.isRef = true) (hp : pc + 2 = pc') (w : own_W p e En below kc ks Q T (mkF m pc' Ls (v :: st))) : own_W p e En below kc ks Q T (mkF m pc Ls (st)) := by
  subst hp; exact own_W.step (fun _ q => XS.aload X.here hx rfl hd hl hv q) w
theorem own_aloadN (X : Stand p l e R s m args below meth c T locs cells slots) (hx : p.tables.exec = Jvm.exec) {k : Fin 4} {v : Value} (hd : decode c.code pc = .ok (.aload_n k, 1)) (hl : Ls[k.val]? = some (.val v)) (hv : v.isRef = true) (hp : pc + 1 = pc') (w : own_W p e En below kc ks Q T (mkF m pc' Ls (v :: st))) : own_W p e En below kc ks Q T (mkF m pc Ls (st)) := by
  subst hp; exact own_W.step (fun _ q => XS.aloadN X.here hx rfl hd hl hv q) w
theorem own_istore (X : Stand p l e R s m args below meth c T locs cells slots) (hx : p.tables.exec = Jvm.exec) {k : Nat} {v : Int32} {l' : Array Slot} (hd : decode c.code pc = .ok (.istore k, 2)) (hl : storeLocals Ls k (.int v) = some l') (hp : pc + 2 = pc') (w : own_W p e En below kc ks Q T (mkF m pc' l' (st))) : own_W p e En below kc ks Q T (mkF m pc Ls (.int v :: st)) := by
  subst hp; exact own_W.step (fun _ q => XS.istore X.here hx rfl hd rfl hl q) w
theorem own_istoreN (X : Stand p l e R s m args below meth c T locs cells slots) (hx : p.tables.exec = Jvm.exec) {k : Fin 4} {v : Int32} {l' : Array Slot} (hd : decode c.code pc = .ok (.istore_n k, 1)) (hl : storeLocals Ls k.val (.int v) = some l') (hp : pc + 1 = pc') (w : own_W p e En below kc ks Q T (mkF m pc' l' (st))) : own_W p e En below kc ks Q T (mkF m pc Ls (.int v :: st)) := by
  subst hp; exact own_W.step (fun _ q => XS.istoreN X.here hx rfl hd rfl hl q) w
theorem own_lstore (X : Stand p l e R s m args below meth c T locs cells slots) (hx : p.tables.exec = Jvm.exec) {k : Nat} {v : Int64} {l' : Array Slot} (hd : decode c.code pc = .ok (.lstore k, 2)) (hl : storeLocals Ls k (.long v) = some l') (hp : pc + 2 = pc') (w : own_W p e En below kc ks Q T (mkF m pc' l' (st))) : own_W p e En below kc ks Q T (mkF m pc Ls (.long v :: st)) := by
  subst hp; exact own_W.step (fun _ q => XS.lstore X.here hx rfl hd rfl hl q) w
theorem own_lstoreN (X : Stand p l e R s m args below meth c T locs cells slots) (hx : p.tables.exec = Jvm.exec) {k : Fin 4} {v : Int64} {l' : Array Slot} (hd : decode c.code pc = .ok (.lstore_n k, 1)) (hl : storeLocals Ls k.val (.long v) = some l') (hp : pc + 1 = pc') (w : own_W p e En below kc ks Q T (mkF m pc' l' (st))) : own_W p e En below kc ks Q T (mkF m pc Ls (.long v :: st)) := by
  subst hp; exact own_W.step (fun _ q => XS.lstoreN X.here hx rfl hd rfl hl q) w
theorem own_astore (X : Stand p l e R s m args below meth c T locs cells slots) (hx : p.tables.exec = Jvm.exec) {k : Nat} {v : Value} {l' : Array Slot} (hd : decode c.code pc = .ok (.astore k, 2)) (hv : v.isRef = true) (hl : storeLocals Ls k v = some l') (hp : pc + 2 = pc') (w : own_W p e En below kc ks Q T (mkF m pc' l' (st))) : own_W p e En below kc ks Q T (mkF m pc Ls (v :: st)) := by
  subst hp; exact own_W.step (fun _ q => XS.astore X.here hx rfl hd rfl hv hl q) w
theorem own_astoreN (X : Stand p l e R s m args below meth c T locs cells slots) (hx : p.tables.exec = Jvm.exec) {k : Fin 4} {v : Value} {l' : Array Slot} (hd : decode c.code pc = .ok (.astore_n k, 1)) (hv : v.isRef = true) (hl : storeLocals Ls k.val v = some l') (hp : pc + 1 = pc') (w : own_W p e En below kc ks Q T (mkF m pc' l' (st))) : own_W p e En below kc ks Q T (mkF m pc Ls (v :: st)) := by
  subst hp; exact own_W.step (fun _ q => XS.astoreN X.here hx rfl hd rfl hv hl q) w
theorem own_iconst (X : Stand p l e R s m args below meth c T locs cells slots) (hx : p.tables.exec = Jvm.exec) {i : Int} (hd : decode c.code pc = .ok (.iconst i, 1)) (v : Int32) (hv : Int32.ofInt i = v) (hp : pc + 1 = pc') (w : own_W p e En below kc ks Q T (mkF m pc' Ls (.int v :: st))) : own_W p e En below kc ks Q T (mkF m pc Ls (st)) := by
  subst hp; exact own_W.step (fun _ q => XT.iconstV X.here hx rfl v hd hv q) w
theorem own_bipush (X : Stand p l e R s m args below meth c T locs cells slots) (hx : p.tables.exec = Jvm.exec) {i : Int} (hd : decode c.code pc = .ok (.bipush i, 2)) (v : Int32) (hv : (Int8.ofInt i).toInt32 = v) (hp : pc + 2 = pc') (w : own_W p e En below kc ks Q T (mkF m pc' Ls (.int v :: st))) : own_W p e En below kc ks Q T (mkF m pc Ls (st)) := by
  subst hp; exact own_W.step (fun _ q => XT.bipushV X.here hx rfl v hd hv q) w
theorem own_sipush (X : Stand p l e R s m args below meth c T locs cells slots) (hx : p.tables.exec = Jvm.exec) {i : Int} (hd : decode c.code pc = .ok (.sipush i, 3)) (v : Int32) (hv : (Int16.ofInt i).toInt32 = v) (hp : pc + 3 = pc') (w : own_W p e En below kc ks Q T (mkF m pc' Ls (.int v :: st))) : own_W p e En below kc ks Q T (mkF m pc Ls (st)) := by
  subst hp; exact own_W.step (fun _ q => XT.sipushV X.here hx rfl v hd hv q) w
theorem own_lconst (X : Stand p l e R s m args below meth c T locs cells slots) (hx : p.tables.exec = Jvm.exec) {k : Fin 2} (hd : decode c.code pc = .ok (.lconst k, 1)) (v : Int64) (hv : Int64.ofNat k = v) (hp : pc + 1 = pc') (w : own_W p e En below kc ks Q T (mkF m pc' Ls (.long v :: st))) : own_W p e En below kc ks Q T (mkF m pc Ls (st)) := by
  subst hp; exact own_W.step (fun _ q => XT.lconstV X.here hx rfl v hd hv q) w
theorem own_aconstNull (X : Stand p l e R s m args below meth c T locs cells slots) (hx : p.tables.exec = Jvm.exec)  (hd : decode c.code pc = .ok (.aconst_null, 1))  (hp : pc + 1 = pc') (w : own_W p e En below kc ks Q T (mkF m pc' Ls (.null :: st))) : own_W p e En below kc ks Q T (mkF m pc Ls (st)) := by
  subst hp; exact own_W.step (fun _ q => XS.aconstNull X.here hx rfl hd q) w
theorem own_ldcInt (X : Stand p l e R s m args below meth c T locs cells slots) (hx : p.tables.exec = Jvm.exec) {own : String} {index : Nat} {v : Int32} (hown : s.vm.findClass own = some m.cls) (hk : (Jvm.Cond.constant own index v).before args s = true) (hd : decode c.code pc = .ok (.ldc index, 2)) (hp : pc + 2 = pc') (w : own_W p e En below kc ks Q T (mkF m pc' Ls (.int v :: st))) : own_W p e En below kc ks Q T (mkF m pc Ls st) := by
  subst hp; exact own_W.step (X.ldcInt hx hown hk (g := mkF m pc Ls st) rfl hd) w
theorem own_ldcwInt (X : Stand p l e R s m args below meth c T locs cells slots) (hx : p.tables.exec = Jvm.exec) {own : String} {index : Nat} {v : Int32} (hown : s.vm.findClass own = some m.cls) (hk : (Jvm.Cond.constant own index v).before args s = true) (hd : decode c.code pc = .ok (.ldc_w index, 3)) (hp : pc + 3 = pc') (w : own_W p e En below kc ks Q T (mkF m pc' Ls (.int v :: st))) : own_W p e En below kc ks Q T (mkF m pc Ls st) := by
  subst hp; exact own_W.step (X.ldcwInt hx hown hk (g := mkF m pc Ls st) rfl hd) w
theorem own_ldc2Long (X : Stand p l e R s m args below meth c T locs cells slots) (hx : p.tables.exec = Jvm.exec) {own : String} {index : Nat} {v : Int64} (hown : s.vm.findClass own = some m.cls) (hk : (Jvm.Cond.constantLong own index v).before args s = true) (hd : decode c.code pc = .ok (.ldc2_w index, 3)) (hp : pc + 3 = pc') (w : own_W p e En below kc ks Q T (mkF m pc' Ls (.long v :: st))) : own_W p e En below kc ks Q T (mkF m pc Ls st) := by
  subst hp; exact own_W.step (X.ldc2Long hx hown hk (g := mkF m pc Ls st) rfl hd) w
theorem own_iadd (X : Stand p l e R s m args below meth c T locs cells slots) (hx : p.tables.exec = Jvm.exec) {x y : Int32} (hd : decode c.code pc = .ok (.iadd, 1))  (hp : pc + 1 = pc') (w : own_W p e En below kc ks Q T (mkF m pc' Ls (.int (x + y) :: st))) : own_W p e En below kc ks Q T (mkF m pc Ls (.int y :: .int x :: st)) := by
  subst hp; exact own_W.step (fun _ q => XS.iadd X.here hx rfl hd rfl q) w
theorem own_ladd (X : Stand p l e R s m args below meth c T locs cells slots) (hx : p.tables.exec = Jvm.exec) {x y : Int64} (hd : decode c.code pc = .ok (.ladd, 1))  (hp : pc + 1 = pc') (w : own_W p e En below kc ks Q T (mkF m pc' Ls (.long (x + y) :: st))) : own_W p e En below kc ks Q T (mkF m pc Ls (.long y :: .long x :: st)) := by
  subst hp; exact own_W.step (fun _ q => XS.ladd X.here hx rfl hd rfl q) w
theorem own_isub (X : Stand p l e R s m args below meth c T locs cells slots) (hx : p.tables.exec = Jvm.exec) {x y : Int32} (hd : decode c.code pc = .ok (.isub, 1))  (hp : pc + 1 = pc') (w : own_W p e En below kc ks Q T (mkF m pc' Ls (.int (x - y) :: st))) : own_W p e En below kc ks Q T (mkF m pc Ls (.int y :: .int x :: st)) := by
  subst hp; exact own_W.step (fun _ q => XS.isub X.here hx rfl hd rfl q) w
theorem own_lsub (X : Stand p l e R s m args below meth c T locs cells slots) (hx : p.tables.exec = Jvm.exec) {x y : Int64} (hd : decode c.code pc = .ok (.lsub, 1))  (hp : pc + 1 = pc') (w : own_W p e En below kc ks Q T (mkF m pc' Ls (.long (x - y) :: st))) : own_W p e En below kc ks Q T (mkF m pc Ls (.long y :: .long x :: st)) := by
  subst hp; exact own_W.step (fun _ q => XS.lsub X.here hx rfl hd rfl q) w
theorem own_imul (X : Stand p l e R s m args below meth c T locs cells slots) (hx : p.tables.exec = Jvm.exec) {x y : Int32} (hd : decode c.code pc = .ok (.imul, 1))  (hp : pc + 1 = pc') (w : own_W p e En below kc ks Q T (mkF m pc' Ls (.int (x * y) :: st))) : own_W p e En below kc ks Q T (mkF m pc Ls (.int y :: .int x :: st)) := by
  subst hp; exact own_W.step (fun _ q => XS.imul X.here hx rfl hd rfl q) w
theorem own_lmul (X : Stand p l e R s m args below meth c T locs cells slots) (hx : p.tables.exec = Jvm.exec) {x y : Int64} (hd : decode c.code pc = .ok (.lmul, 1))  (hp : pc + 1 = pc') (w : own_W p e En below kc ks Q T (mkF m pc' Ls (.long (x * y) :: st))) : own_W p e En below kc ks Q T (mkF m pc Ls (.long y :: .long x :: st)) := by
  subst hp; exact own_W.step (fun _ q => XS.lmul X.here hx rfl hd rfl q) w
theorem own_iand (X : Stand p l e R s m args below meth c T locs cells slots) (hx : p.tables.exec = Jvm.exec) {x y : Int32} (hd : decode c.code pc = .ok (.iand, 1))  (hp : pc + 1 = pc') (w : own_W p e En below kc ks Q T (mkF m pc' Ls (.int (x &&& y) :: st))) : own_W p e En below kc ks Q T (mkF m pc Ls (.int y :: .int x :: st)) := by
  subst hp; exact own_W.step (fun _ q => XS.iand X.here hx rfl hd rfl q) w
theorem own_land (X : Stand p l e R s m args below meth c T locs cells slots) (hx : p.tables.exec = Jvm.exec) {x y : Int64} (hd : decode c.code pc = .ok (.land, 1))  (hp : pc + 1 = pc') (w : own_W p e En below kc ks Q T (mkF m pc' Ls (.long (x &&& y) :: st))) : own_W p e En below kc ks Q T (mkF m pc Ls (.long y :: .long x :: st)) := by
  subst hp; exact own_W.step (fun _ q => XS.land X.here hx rfl hd rfl q) w
theorem own_ior (X : Stand p l e R s m args below meth c T locs cells slots) (hx : p.tables.exec = Jvm.exec) {x y : Int32} (hd : decode c.code pc = .ok (.ior, 1))  (hp : pc + 1 = pc') (w : own_W p e En below kc ks Q T (mkF m pc' Ls (.int (x ||| y) :: st))) : own_W p e En below kc ks Q T (mkF m pc Ls (.int y :: .int x :: st)) := by
  subst hp; exact own_W.step (fun _ q => XS.ior X.here hx rfl hd rfl q) w
theorem own_lor (X : Stand p l e R s m args below meth c T locs cells slots) (hx : p.tables.exec = Jvm.exec) {x y : Int64} (hd : decode c.code pc = .ok (.lor, 1))  (hp : pc + 1 = pc') (w : own_W p e En below kc ks Q T (mkF m pc' Ls (.long (x ||| y) :: st))) : own_W p e En below kc ks Q T (mkF m pc Ls (.long y :: .long x :: st)) := by
  subst hp; exact own_W.step (fun _ q => XS.lor X.here hx rfl hd rfl q) w
theorem own_ixor (X : Stand p l e R s m args below meth c T locs cells slots) (hx : p.tables.exec = Jvm.exec) {x y : Int32} (hd : decode c.code pc = .ok (.ixor, 1))  (hp : pc + 1 = pc') (w : own_W p e En below kc ks Q T (mkF m pc' Ls (.int (x ^^^ y) :: st))) : own_W p e En below kc ks Q T (mkF m pc Ls (.int y :: .int x :: st)) := by
  subst hp; exact own_W.step (fun _ q => XS.ixor X.here hx rfl hd rfl q) w
theorem own_lxor (X : Stand p l e R s m args below meth c T locs cells slots) (hx : p.tables.exec = Jvm.exec) {x y : Int64} (hd : decode c.code pc = .ok (.lxor, 1))  (hp : pc + 1 = pc') (w : own_W p e En below kc ks Q T (mkF m pc' Ls (.long (x ^^^ y) :: st))) : own_W p e En below kc ks Q T (mkF m pc Ls (.long y :: .long x :: st)) := by
  subst hp; exact own_W.step (fun _ q => XS.lxor X.here hx rfl hd rfl q) w
theorem own_idiv (X : Stand p l e R s m args below meth c T locs cells slots) (hx : p.tables.exec = Jvm.exec) {x y : Int32} (hd : decode c.code pc = .ok (.idiv, 1)) (hy : y ≠ 0) (hp : pc + 1 = pc') (w : own_W p e En below kc ks Q T (mkF m pc' Ls (.int (x / y) :: st))) : own_W p e En below kc ks Q T (mkF m pc Ls (.int y :: .int x :: st)) := by
  subst hp; exact own_W.step (fun _ q => XS.idiv X.here hx rfl hd rfl hy q) w
theorem own_ldiv (X : Stand p l e R s m args below meth c T locs cells slots) (hx : p.tables.exec = Jvm.exec) {x y : Int64} (hd : decode c.code pc = .ok (.ldiv, 1)) (hy : y ≠ 0) (hp : pc + 1 = pc') (w : own_W p e En below kc ks Q T (mkF m pc' Ls (.long (x / y) :: st))) : own_W p e En below kc ks Q T (mkF m pc Ls (.long y :: .long x :: st)) := by
  subst hp; exact own_W.step (fun _ q => XS.ldiv X.here hx rfl hd rfl hy q) w
theorem own_irem (X : Stand p l e R s m args below meth c T locs cells slots) (hx : p.tables.exec = Jvm.exec) {x y : Int32} (hd : decode c.code pc = .ok (.irem, 1)) (hy : y ≠ 0) (hp : pc + 1 = pc') (w : own_W p e En below kc ks Q T (mkF m pc' Ls (.int (x % y) :: st))) : own_W p e En below kc ks Q T (mkF m pc Ls (.int y :: .int x :: st)) := by
  subst hp; exact own_W.step (fun _ q => iremM X hx rfl hd rfl hy q) w
theorem own_lrem (X : Stand p l e R s m args below meth c T locs cells slots) (hx : p.tables.exec = Jvm.exec) {x y : Int64} (hd : decode c.code pc = .ok (.lrem, 1)) (hy : y ≠ 0) (hp : pc + 1 = pc') (w : own_W p e En below kc ks Q T (mkF m pc' Ls (.long (x % y) :: st))) : own_W p e En below kc ks Q T (mkF m pc Ls (.long y :: .long x :: st)) := by
  subst hp; exact own_W.step (fun _ q => XS.lrem X.here hx rfl hd rfl hy (by rw [lrem_mod]; exact q)) w
theorem own_ineg (X : Stand p l e R s m args below meth c T locs cells slots) (hx : p.tables.exec = Jvm.exec) {x : Int32} (hd : decode c.code pc = .ok (.ineg, 1))  (hp : pc + 1 = pc') (w : own_W p e En below kc ks Q T (mkF m pc' Ls (.int (-x) :: st))) : own_W p e En below kc ks Q T (mkF m pc Ls (.int x :: st)) := by
  subst hp; exact own_W.step (fun _ q => XS.ineg X.here hx rfl hd rfl q) w
theorem own_lneg (X : Stand p l e R s m args below meth c T locs cells slots) (hx : p.tables.exec = Jvm.exec) {x : Int64} (hd : decode c.code pc = .ok (.lneg, 1))  (hp : pc + 1 = pc') (w : own_W p e En below kc ks Q T (mkF m pc' Ls (.long (-x) :: st))) : own_W p e En below kc ks Q T (mkF m pc Ls (.long x :: st)) := by
  subst hp; exact own_W.step (fun _ q => XS.lneg X.here hx rfl hd rfl q) w
theorem own_i2l (X : Stand p l e R s m args below meth c T locs cells slots) (hx : p.tables.exec = Jvm.exec) {x : Int32} (hd : decode c.code pc = .ok (.i2l, 1))  (hp : pc + 1 = pc') (w : own_W p e En below kc ks Q T (mkF m pc' Ls (.long (x.toInt64) :: st))) : own_W p e En below kc ks Q T (mkF m pc Ls (.int x :: st)) := by
  subst hp; exact own_W.step (fun _ q => XS.i2l X.here hx rfl hd rfl q) w
theorem own_l2i (X : Stand p l e R s m args below meth c T locs cells slots) (hx : p.tables.exec = Jvm.exec) {x : Int64} (hd : decode c.code pc = .ok (.l2i, 1))  (hp : pc + 1 = pc') (w : own_W p e En below kc ks Q T (mkF m pc' Ls (.int (x.toInt32) :: st))) : own_W p e En below kc ks Q T (mkF m pc Ls (.long x :: st)) := by
  subst hp; exact own_W.step (fun _ q => XS.l2i X.here hx rfl hd rfl q) w
theorem own_i2b (X : Stand p l e R s m args below meth c T locs cells slots) (hx : p.tables.exec = Jvm.exec) {x : Int32} (hd : decode c.code pc = .ok (.i2b, 1))  (hp : pc + 1 = pc') (w : own_W p e En below kc ks Q T (mkF m pc' Ls (.int (x.toInt8.toInt32) :: st))) : own_W p e En below kc ks Q T (mkF m pc Ls (.int x :: st)) := by
  subst hp; exact own_W.step (fun _ q => XS.i2b X.here hx rfl hd rfl q) w
theorem own_i2s (X : Stand p l e R s m args below meth c T locs cells slots) (hx : p.tables.exec = Jvm.exec) {x : Int32} (hd : decode c.code pc = .ok (.i2s, 1))  (hp : pc + 1 = pc') (w : own_W p e En below kc ks Q T (mkF m pc' Ls (.int (x.toInt16.toInt32) :: st))) : own_W p e En below kc ks Q T (mkF m pc Ls (.int x :: st)) := by
  subst hp; exact own_W.step (fun _ q => XS.i2s X.here hx rfl hd rfl q) w
theorem own_i2c (X : Stand p l e R s m args below meth c T locs cells slots) (hx : p.tables.exec = Jvm.exec) {x : Int32} (hd : decode c.code pc = .ok (.i2c, 1))  (hp : pc + 1 = pc') (w : own_W p e En below kc ks Q T (mkF m pc' Ls (.int (x.toUInt32.toUInt16.toUInt32.toInt32) :: st))) : own_W p e En below kc ks Q T (mkF m pc Ls (.int x :: st)) := by
  subst hp; exact own_W.step (fun _ q => XS.i2c X.here hx rfl hd rfl q) w
theorem own_ishl (X : Stand p l e R s m args below meth c T locs cells slots) (hx : p.tables.exec = Jvm.exec) {x y : Int32} (hd : decode c.code pc = .ok (.ishl, 1))  (hp : pc + 1 = pc') (w : own_W p e En below kc ks Q T (mkF m pc' Ls (.int (x <<< (y &&& 31)) :: st))) : own_W p e En below kc ks Q T (mkF m pc Ls (.int y :: .int x :: st)) := by
  subst hp; exact own_W.step (fun _ q => XS.ishl X.here hx rfl hd rfl q) w
theorem own_ishr (X : Stand p l e R s m args below meth c T locs cells slots) (hx : p.tables.exec = Jvm.exec) {x y : Int32} (hd : decode c.code pc = .ok (.ishr, 1))  (hp : pc + 1 = pc') (w : own_W p e En below kc ks Q T (mkF m pc' Ls (.int (x >>> (y &&& 31)) :: st))) : own_W p e En below kc ks Q T (mkF m pc Ls (.int y :: .int x :: st)) := by
  subst hp; exact own_W.step (fun _ q => XS.ishr X.here hx rfl hd rfl q) w
theorem own_iushr (X : Stand p l e R s m args below meth c T locs cells slots) (hx : p.tables.exec = Jvm.exec) {x y : Int32} (hd : decode c.code pc = .ok (.iushr, 1))  (hp : pc + 1 = pc') (w : own_W p e En below kc ks Q T (mkF m pc' Ls (.int ((x.toUInt32 >>> (y &&& 31).toUInt32).toInt32) :: st))) : own_W p e En below kc ks Q T (mkF m pc Ls (.int y :: .int x :: st)) := by
  subst hp; exact own_W.step (fun _ q => XS.iushr X.here hx rfl hd rfl q) w
theorem own_lshl (X : Stand p l e R s m args below meth c T locs cells slots) (hx : p.tables.exec = Jvm.exec) {x : Int64} {y : Int32} (hd : decode c.code pc = .ok (.lshl, 1))  (hp : pc + 1 = pc') (w : own_W p e En below kc ks Q T (mkF m pc' Ls (.long (x <<< (y &&& 0x3f).toInt64) :: st))) : own_W p e En below kc ks Q T (mkF m pc Ls (.int y :: .long x :: st)) := by
  subst hp; exact own_W.step (fun _ q => XS.lshl X.here hx rfl hd rfl q) w
theorem own_lshr (X : Stand p l e R s m args below meth c T locs cells slots) (hx : p.tables.exec = Jvm.exec) {x : Int64} {y : Int32} (hd : decode c.code pc = .ok (.lshr, 1))  (hp : pc + 1 = pc') (w : own_W p e En below kc ks Q T (mkF m pc' Ls (.long (x >>> (y &&& 0x3f).toInt64) :: st))) : own_W p e En below kc ks Q T (mkF m pc Ls (.int y :: .long x :: st)) := by
  subst hp; exact own_W.step (fun _ q => XS.lshr X.here hx rfl hd rfl q) w
theorem own_lushr (X : Stand p l e R s m args below meth c T locs cells slots) (hx : p.tables.exec = Jvm.exec) {x : Int64} {y : Int32} (hd : decode c.code pc = .ok (.lushr, 1))  (hp : pc + 1 = pc') (w : own_W p e En below kc ks Q T (mkF m pc' Ls (.long ((x.toUInt64 >>> (y &&& 0x3f).toInt64.toUInt64).toInt64) :: st))) : own_W p e En below kc ks Q T (mkF m pc Ls (.int y :: .long x :: st)) := by
  subst hp; exact own_W.step (fun _ q => XS.lushr X.here hx rfl hd rfl q) w
theorem own_lcmp (X : Stand p l e R s m args below meth c T locs cells slots) (hx : p.tables.exec = Jvm.exec) {x y : Int64} (hd : decode c.code pc = .ok (.lcmp, 1))  (hp : pc + 1 = pc') (w : own_W p e En below kc ks Q T (mkF m pc' Ls (.int (XT.cmpL x y) :: st))) : own_W p e En below kc ks Q T (mkF m pc Ls (.long y :: .long x :: st)) := by
  subst hp; exact own_W.step (fun _ q => XT.lcmp X.here hx rfl hd rfl q) w
theorem own_iinc (X : Stand p l e R s m args below meth c T locs cells slots) (hx : p.tables.exec = Jvm.exec) {k : Nat} {cst : Int} (hd : decode c.code pc = .ok (.iinc k cst, 3)) (v : Int32) (hv : Int32.ofInt cst = v) {x : Int32} {l' : Array Slot} (hl : Ls[k]? = some (.val (.int x))) (hl' : storeLocals Ls k (.int (x + v)) = some l') (hp : pc + 3 = pc') (w : own_W p e En below kc ks Q T (mkF m pc' l' (st))) : own_W p e En below kc ks Q T (mkF m pc Ls (st)) := by
  subst hp; exact own_W.step (fun _ q => XT.iincV X.here hx rfl v hd hv hl hl' q) w
theorem own_dup (X : Stand p l e R s m args below meth c T locs cells slots) (hx : p.tables.exec = Jvm.exec) {x : Value} (hd : decode c.code pc = .ok (.dup, 1)) (hc : x.category = 1) (hp : pc + 1 = pc') (w : own_W p e En below kc ks Q T (mkF m pc' Ls (x :: x :: st))) : own_W p e En below kc ks Q T (mkF m pc Ls (x :: st)) := by
  subst hp; exact own_W.step (fun _ q => XS.dup X.here hx rfl hd rfl hc q) w
theorem own_pop (X : Stand p l e R s m args below meth c T locs cells slots) (hx : p.tables.exec = Jvm.exec) {x : Value} (hd : decode c.code pc = .ok (.pop, 1)) (hc : x.category = 1) (hp : pc + 1 = pc') (w : own_W p e En below kc ks Q T (mkF m pc' Ls (st))) : own_W p e En below kc ks Q T (mkF m pc Ls (x :: st)) := by
  subst hp; exact own_W.step (fun _ q => XS.pop X.here hx rfl hd rfl hc q) w
theorem own_dupX1 (X : Stand p l e R s m args below meth c T locs cells slots) (hx : p.tables.exec = Jvm.exec) {x y : Value} (hd : decode c.code pc = .ok (.dup_x1, 1)) (hc : x.category = 1) (hc2 : y.category = 1) (hp : pc + 1 = pc') (w : own_W p e En below kc ks Q T (mkF m pc' Ls (x :: y :: x :: st))) : own_W p e En below kc ks Q T (mkF m pc Ls (x :: y :: st)) := by
  subst hp; exact own_W.step (fun _ q => XS.dupX1 X.here hx rfl hd rfl hc hc2 q) w
theorem own_dup2 (X : Stand p l e R s m args below meth c T locs cells slots) (hx : p.tables.exec = Jvm.exec) {x y : Value} (hd : decode c.code pc = .ok (.dup2, 1)) (hc : x.category = 1) (hc2 : y.category = 1) (hp : pc + 1 = pc') (w : own_W p e En below kc ks Q T (mkF m pc' Ls (x :: y :: x :: y :: st))) : own_W p e En below kc ks Q T (mkF m pc Ls (x :: y :: st)) := by
  subst hp; exact own_W.step (fun _ q => XT.dup2 X.here hx rfl hd rfl hc hc2 q) w
theorem own_dup2L (X : Stand p l e R s m args below meth c T locs cells slots) (hx : p.tables.exec = Jvm.exec) {x : Int64} (hd : decode c.code pc = .ok (.dup2, 1))  (hp : pc + 1 = pc') (w : own_W p e En below kc ks Q T (mkF m pc' Ls (.long x :: .long x :: st))) : own_W p e En below kc ks Q T (mkF m pc Ls (.long x :: st)) := by
  subst hp; exact own_W.step (fun _ q => XT.dup2L X.here hx rfl hd rfl q) w
theorem own_goto (X : Stand p l e R s m args below meth c T locs cells slots) (hx : p.tables.exec = Jvm.exec) {o : Int} (hd : decode c.code pc = .ok (.goto o, 3)) {pc' : Nat} (ho : 0 ≤ (pc : Int) + o) (hp : ((pc : Int) + o).toNat = pc') (w : own_W p e En below kc ks Q T (mkF m pc' Ls st)) : own_W p e En below kc ks Q T (mkF m pc Ls st) :=
  own_W.step (fun _ q => XS.goto X.here hx rfl rfl hd ho hp q) w
theorem own_ifYes (X : Stand p l e R s m args below meth c T locs cells slots) (hx : p.tables.exec = Jvm.exec) {cd : Jvm.ClassFile.Cond} {x : Int32} {o : Int} (hd : decode c.code pc = .ok (.ifCond cd o, 3)) (hc : ifCond.holds cd x = true) {pc' : Nat} (ho : 0 ≤ (pc : Int) + o) (hp : ((pc : Int) + o).toNat = pc') (w : own_W p e En below kc ks Q T (mkF m pc' Ls st)) : own_W p e En below kc ks Q T (mkF m pc Ls (.int x :: st)) :=
  own_W.step (fun _ q => XS.ifYes X.here hx rfl rfl hd rfl hc ho hp q) w
theorem own_ifNo (X : Stand p l e R s m args below meth c T locs cells slots) (hx : p.tables.exec = Jvm.exec) {cd : Jvm.ClassFile.Cond} {x : Int32} {o : Int} (hd : decode c.code pc = .ok (.ifCond cd o, 3)) (hc : ifCond.holds cd x = false) (hp : pc + 3 = pc') (w : own_W p e En below kc ks Q T (mkF m pc' Ls st)) : own_W p e En below kc ks Q T (mkF m pc Ls (.int x :: st)) := by
  subst hp; exact own_W.step (fun _ q => XS.ifNo X.here hx rfl hd rfl hc q) w
theorem own_icmpYes (X : Stand p l e R s m args below meth c T locs cells slots) (hx : p.tables.exec = Jvm.exec) {cd : Jvm.ClassFile.Cond} {x y : Int32} {o : Int} (hd : decode c.code pc = .ok (.if_icmp cd o, 3)) (hc : if_icmp.holds cd x y = true) {pc' : Nat} (ho : 0 ≤ (pc : Int) + o) (hp : ((pc : Int) + o).toNat = pc') (w : own_W p e En below kc ks Q T (mkF m pc' Ls st)) : own_W p e En below kc ks Q T (mkF m pc Ls (.int y :: .int x :: st)) :=
  own_W.step (fun _ q => XS.icmpYes X.here hx rfl rfl hd rfl hc ho hp q) w
theorem own_icmpNo (X : Stand p l e R s m args below meth c T locs cells slots) (hx : p.tables.exec = Jvm.exec) {cd : Jvm.ClassFile.Cond} {x y : Int32} {o : Int} (hd : decode c.code pc = .ok (.if_icmp cd o, 3)) (hc : if_icmp.holds cd x y = false) (hp : pc + 3 = pc') (w : own_W p e En below kc ks Q T (mkF m pc' Ls st)) : own_W p e En below kc ks Q T (mkF m pc Ls (.int y :: .int x :: st)) := by
  subst hp; exact own_W.step (fun _ q => XS.icmpNo X.here hx rfl hd rfl hc q) w
theorem own_ifnullYes (X : Stand p l e R s m args below meth c T locs cells slots) (hx : p.tables.exec = Jvm.exec) {o : Int} (hd : decode c.code pc = .ok (.ifnull o, 3)) {pc' : Nat} (ho : 0 ≤ (pc : Int) + o) (hp : ((pc : Int) + o).toNat = pc') (w : own_W p e En below kc ks Q T (mkF m pc' Ls st)) : own_W p e En below kc ks Q T (mkF m pc Ls (.null :: st)) :=
  own_W.step (fun _ q => XS.ifnullYes X.here hx rfl rfl hd rfl ho hp q) w
theorem own_ifnullNo (X : Stand p l e R s m args below meth c T locs cells slots) (hx : p.tables.exec = Jvm.exec) {o : Int} (hd : decode c.code pc = .ok (.ifnull o, 3)) (hp : pc + 3 = pc') (w : own_W p e En below kc ks Q T (mkF m pc' Ls st)) : own_W p e En below kc ks Q T (mkF m pc Ls (.ref b :: st)) := by
  subst hp; exact own_W.step (fun _ q => XS.ifnullNo X.here hx rfl hd rfl q) w
theorem own_ifnonnullYes (X : Stand p l e R s m args below meth c T locs cells slots) (hx : p.tables.exec = Jvm.exec) {o : Int} (hd : decode c.code pc = .ok (.ifnonnull o, 3)) {pc' : Nat} (ho : 0 ≤ (pc : Int) + o) (hp : ((pc : Int) + o).toNat = pc') (w : own_W p e En below kc ks Q T (mkF m pc' Ls st)) : own_W p e En below kc ks Q T (mkF m pc Ls (.ref b :: st)) :=
  own_W.step (fun _ q => XS.ifnonnullYes X.here hx rfl rfl hd rfl ho hp q) w
theorem own_ifnonnullNo (X : Stand p l e R s m args below meth c T locs cells slots) (hx : p.tables.exec = Jvm.exec) {o : Int} (hd : decode c.code pc = .ok (.ifnonnull o, 3)) (hp : pc + 3 = pc') (w : own_W p e En below kc ks Q T (mkF m pc' Ls st)) : own_W p e En below kc ks Q T (mkF m pc Ls (.null :: st)) := by
  subst hp; exact own_W.step (fun _ q => XS.ifnonnullNo X.here hx rfl hd rfl q) w
/-- an array: its kind, its length, what each place holds -/
def own_A (Z : State) (h : Heap) (a : Addr) (ty : FieldType) (n : Nat) (f : Nat → Value) : Prop := ∃ c : Cell, Arr Z h a c ty ∧ c.slots.size = n ∧ n < 2 ^ 31 ∧ (∀ i, i < n → c.slots[i]? = some (f i)) ∧ ∀ i, i < n → fits ty (f i) = true
/-- the int j names the place i, which lies in an array of n places -/
def own_In (j : Int32) (i n : Nat) : Prop := j.toInt = (i : Int) ∧ i < n
variable {ty : FieldType} {n i : Nat} {f f' : Nat → Value} {j : Int32}
def own_k0 (_ : Nat) : Int32 := 0
def own_k0L (_ : Nat) : Int64 := 0
def own_up {α : Type} (f : Nat → α) (k : Nat) (x : α) (z : Nat) : α := if z = k then x else f z
theorem own_up_same {α : Type} (f : Nat → α) (k : Nat) (x : α) : own_up f k x k = x := if_pos rfl
theorem own_up_other {α : Type} (f : Nat → α) (k : Nat) (x : α) (z : Nat) (q : z ≠ k) : own_up f k x z = f z := if_neg q
theorem own_In.nat (q : own_In j i n) : j.toNatClampNeg = i := by
  show j.toInt.toNat = i
  rw [q.1]; rfl
theorem own_In.inb {cl : Cell} (q : own_In j i n) (S : cl.slots.size = n) : ¬ (j < 0 ∨ cl.slots.size ≤ j.toNatClampNeg) := by
  rw [q.nat, S]
  have q1 := q.1
  have q2 := q.2
  rintro (r | r)
  · rw [Int32.lt_iff_toInt_lt] at r
    have z : (0 : Int32).toInt = 0 := rfl
    omega
  · omega
theorem own_A.lt (F : own_A Z h a ty n f) : a < h.size := by obtain ⟨c, A, -⟩ := F; exact A.lt
theorem own_A.len (F : own_A Z h a ty n f) : n < 2 ^ 31 := by obtain ⟨c, -, -, q, -, -⟩ := F; exact q
theorem own_A.ext (F : own_A Z h a ty n f) (E : Ext h h') : own_A Z h' a ty n f := by obtain ⟨c, A, r⟩ := F; exact ⟨c, A.ext E, r⟩
theorem own_A.other {v : Value} (F : own_A Z h b ty n f) (W : Wr h h' a sl v) (q : b ≠ a) : own_A Z h' b ty n f := by obtain ⟨c, A, r⟩ := F; exact ⟨c, A.other W q, r⟩
theorem own_A.keep {ws : List Addr} (F : own_A Z h a ty n f) (K : Keep h h' ws) (q : a ∉ ws) : own_A Z h' a ty n f := by obtain ⟨c, A, r⟩ := F; exact ⟨c, ⟨K.2.1 a c A.1 q, A.2⟩, r⟩
theorem own_A.congr (F : own_A Z h a ty n f) (q : ∀ i, i < n → f i = f' i) : own_A Z h a ty n f' := by
  obtain ⟨c, A, r1, r2, r3, r4⟩ := F
  exact ⟨c, A, r1, r2, fun i hi => by rw [r3 i hi, q i hi], fun i hi => by rw [← q i hi]; exact r4 i hi⟩
theorem own_A.fit (F : own_A Z h a ty n f) {i : Nat} (hi : i < n) : fits ty (f i) = true := by obtain ⟨c, A, r1, r2, r3, r4⟩ := F; exact r4 i hi
theorem own_A.new {k : ClassId} {z : Int32} (A : Arr Z h a (newA k ty z) ty) (q : ¬ z < 0) (hn : z.toNatClampNeg = n) : own_A Z h a ty n (fun _ => defaultValue ty) := by
  subst hn
  refine ⟨_, A, sz_new _ _ _, (back32 q).2, fun i hi => ?_, fun i _ => by cases ty <;> rfl⟩
  show (Array.replicate z.toNatClampNeg (defaultValue ty))[i]? = _
  rw [Array.getElem?_replicate, if_pos hi]
theorem own_A.put {cl : Cell} {v : Value} (A : Arr Z h a cl ty) (S : cl.slots.size = n) (hn : n < 2 ^ 31) (H : ∀ i, i < n → cl.slots[i]? = some (f i)) (G : ∀ i, i < n → fits ty (f i) = true) (hv : fits ty v = true) (q : own_In j i n) (W : Wr h h' a j.toNatClampNeg v) : own_A Z h' a ty n (fun z => if z = i then v else f z) := by
  refine ⟨_, A.same W, by rw [sz_set]; exact S, hn, fun k hk => ?_, fun k hk => ?_⟩
  rotate_left
  · show fits ty (if k = i then v else f k) = true
    by_cases e : k = i
    · rw [if_pos e]; exact hv
    · rw [if_neg e]; exact G k hk
  show (cl.slots.setIfInBounds j.toNatClampNeg v)[k]? = some (if k = i then v else f k)
  rw [q.nat, Array.getElem?_setIfInBounds]
  by_cases e : i = k
  · subst e
    rw [if_pos rfl, if_pos (by rw [S]; exact hk), if_pos rfl]
  · rw [if_neg e, if_neg (fun z => e z.symm), H k hk]
theorem own_stI (X : Stand p l e R s m args below meth c T locs cells slots) (hx : p.tables.exec = Jvm.exec) (hZ : Z.Warmed39 s.vm) (eT : T.heap = h) (F : own_A Z h a .int n f) {x : Int32} (hi : own_In j i n) {g : JFrame} (hg : g.method = m) {rest : List Value} (hs : g.stack = .int x :: .int j :: .ref a :: rest) (hd : decode c.code g.pc = .ok (.iastore, 1)) :
    ∃ T' h', Stand p l e R s m args below meth c T' (locs ++ [⟨a, j.toNatClampNeg⟩]) cells slots ∧ T'.heap = h' ∧ Wr h h' a j.toNatClampNeg (.int (x)) ∧ own_A Z h' a .int n (fun z => if z = i then .int (x) else f z) ∧ ∀ target, Steps p.tables e below (T'.setTop { g with pc := g.pc + 1, stack := rest }) target → Steps p.tables e below (T.setTop g) target := by
  obtain ⟨cl, A, S, hn, H, G⟩ := F
  obtain ⟨T', h', X', e', W', st'⟩ := stI X hx hZ eT A (hi.inb S) hg hs hd
  exact ⟨T', h', X', e', W', own_A.put A S hn H G rfl hi W', st'⟩
theorem own_stJ (X : Stand p l e R s m args below meth c T locs cells slots) (hx : p.tables.exec = Jvm.exec) (hZ : Z.Warmed39 s.vm) (eT : T.heap = h) (F : own_A Z h a .long n f) {x : Int64} (hi : own_In j i n) {g : JFrame} (hg : g.method = m) {rest : List Value} (hs : g.stack = .long x :: .int j :: .ref a :: rest) (hd : decode c.code g.pc = .ok (.lastore, 1)) :
    ∃ T' h', Stand p l e R s m args below meth c T' (locs ++ [⟨a, j.toNatClampNeg⟩]) cells slots ∧ T'.heap = h' ∧ Wr h h' a j.toNatClampNeg (.long (x)) ∧ own_A Z h' a .long n (fun z => if z = i then .long (x) else f z) ∧ ∀ target, Steps p.tables e below (T'.setTop { g with pc := g.pc + 1, stack := rest }) target → Steps p.tables e below (T.setTop g) target := by
  obtain ⟨cl, A, S, hn, H, G⟩ := F
  obtain ⟨T', h', X', e', W', st'⟩ := stJ X hx hZ eT A (hi.inb S) hg hs hd
  exact ⟨T', h', X', e', W', own_A.put A S hn H G rfl hi W', st'⟩
theorem own_stB (X : Stand p l e R s m args below meth c T locs cells slots) (hx : p.tables.exec = Jvm.exec) (hZ : Z.Warmed39 s.vm) (eT : T.heap = h) (F : own_A Z h a .byte n f) {x : Int32} (hi : own_In j i n) {g : JFrame} (hg : g.method = m) {rest : List Value} (hs : g.stack = .int x :: .int j :: .ref a :: rest) (hd : decode c.code g.pc = .ok (.bastore, 1)) :
    ∃ T' h', Stand p l e R s m args below meth c T' (locs ++ [⟨a, j.toNatClampNeg⟩]) cells slots ∧ T'.heap = h' ∧ Wr h h' a j.toNatClampNeg (.int (x.toInt8.toInt32)) ∧ own_A Z h' a .byte n (fun z => if z = i then .int (x.toInt8.toInt32) else f z) ∧ ∀ target, Steps p.tables e below (T'.setTop { g with pc := g.pc + 1, stack := rest }) target → Steps p.tables e below (T.setTop g) target := by
  obtain ⟨cl, A, S, hn, H, G⟩ := F
  obtain ⟨T', h', X', e', W', st'⟩ := stB X hx hZ eT A (hi.inb S) hg hs hd
  exact ⟨T', h', X', e', W', own_A.put A S hn H G (fits_nar_byte _) hi W', st'⟩
theorem own_iaload (X : Stand p l e R s m args below meth c T locs cells slots) (hx : p.tables.exec = Jvm.exec) (hZ : Z.Warmed39 s.vm) (eT : T.heap = h) (F : own_A Z h a .int n f) (hi : own_In j i n) {v : Int32} (hv : f i = .int v) {g : JFrame} (hg : g.method = m) {rest : List Value} (hs : g.stack = .int j :: .ref a :: rest) (hd : decode c.code g.pc = .ok (.iaload, 1)) (w : own_W p e En below kc ks Q T { g with pc := g.pc + 1, stack := .int v :: rest }) : own_W p e En below kc ks Q T g := by
  obtain ⟨cl, A, S, hn, H, -⟩ := F
  exact own_W.step (X.iaload hx (j := j) (v := .int v) (by rw [eT]; exact A.1) (State.isArrayOf_alike hZ.alike A.2.1) A.2.2 (hi.inb S) (by rw [hi.nat, H i hi.2, hv]) (g := g) hg hs hd) w
theorem own_laload (X : Stand p l e R s m args below meth c T locs cells slots) (hx : p.tables.exec = Jvm.exec) (hZ : Z.Warmed39 s.vm) (eT : T.heap = h) (F : own_A Z h a .long n f) (hi : own_In j i n) {v : Int64} (hv : f i = .long v) {g : JFrame} (hg : g.method = m) {rest : List Value} (hs : g.stack = .int j :: .ref a :: rest) (hd : decode c.code g.pc = .ok (.laload, 1)) (w : own_W p e En below kc ks Q T { g with pc := g.pc + 1, stack := .long v :: rest }) : own_W p e En below kc ks Q T g := by
  obtain ⟨cl, A, S, hn, H, -⟩ := F
  exact own_W.step (X.laload hx (j := j) (v := .long v) (by rw [eT]; exact A.1) (State.isArrayOf_alike hZ.alike A.2.1) A.2.2 (hi.inb S) (by rw [hi.nat, H i hi.2, hv]) (g := g) hg hs hd) w
theorem own_baload (X : Stand p l e R s m args below meth c T locs cells slots) (hx : p.tables.exec = Jvm.exec) (hZ : Z.Warmed39 s.vm) (eT : T.heap = h) (F : own_A Z h a .byte n f) (hi : own_In j i n) {v : Int32} (hv : f i = .int v) {g : JFrame} (hg : g.method = m) {rest : List Value} (hs : g.stack = .int j :: .ref a :: rest) (hd : decode c.code g.pc = .ok (.baload, 1)) (w : own_W p e En below kc ks Q T { g with pc := g.pc + 1, stack := .int v :: rest }) : own_W p e En below kc ks Q T g := by
  obtain ⟨cl, A, S, hn, H, -⟩ := F
  exact own_W.step (X.baloadBytes hx (j := j) (v := .int v) (by rw [eT]; exact A.1) (State.isArrayOf_alike hZ.alike A.2.1) A.2.2 (hi.inb S) (by rw [hi.nat, H i hi.2, hv]) (g := g) hg hs hd) w
theorem own_alen (X : Stand p l e R s m args below meth c T locs cells slots) (hx : p.tables.exec = Jvm.exec) (hZ : Z.Warmed39 s.vm) (eT : T.heap = h) (F : own_A Z h a ty n f) {z : Int32} (hz : n.toInt32 = z) {g : JFrame} (hg : g.method = m) {rest : List Value} (hs : g.stack = .ref a :: rest) (hd : decode c.code g.pc = .ok (.arraylength, 1)) (w : own_W p e En below kc ks Q T { g with pc := g.pc + 1, stack := .int z :: rest }) : own_W p e En below kc ks Q T g := by
  obtain ⟨cl, A, S, hn, H, -⟩ := F
  subst hz S
  exact own_W.step (X.arraylength hx (by rw [eT]; exact A.1) (State.isArrayOf_alike hZ.alike A.2.1) (g := g) hg hs hd) w

/-- a constructor whose entry is resolved already (a nest mate's private one) -/
theorem own_ready {a0 : Array Value} {own : String} {index : Nat} {y : MethodName} (hZ : Z.Warmed39 s.vm) (hown : s.vm.findClass own = some m.cls) (hy : y.cls ≠ "java/lang/invoke/MethodHandle" ∧ y.cls ≠ "java/lang/invoke/VarHandle") (w : (Jvm.Cond.methodRef own index y).before a0 Z = true) (wi : (Jvm.Cond.instanceMethod y).before a0 Z = true) (ev : Env) :
    ∀ (U : State) (r : MethodId), s.WarmedH U.vm → s.methodNamed? y = some r → namesResolved U.vm m.cls index r.cls ∧ U.vm.methodReady m.cls index r := by
  intro U r hW hn
  obtain ⟨mk, methM, hnZ, -⟩ := Cond.instanceMethod_spec wi
  have hZU : Z.Warmed39 U.vm := wtrans hZ hW
  have h1 := Cond.methodRef_warmed39 hZU hnZ hy w
  have e0 : (Z.setVm s.vm).methodNamed? y = Z.methodNamed? y := State.methodNamed?_setVm hZ.alike y
  have e1 : s.methodNamed? y = (Z.setVm s.vm).methodNamed? y := rfl
  have e2 : mk = r := by rw [e1, e0, hnZ] at hn; exact Option.some.inj hn
  subst e2
  have e3 : (Z.setVm U.vm).methodNamed? y = some mk := by rw [State.methodNamed?_setVm hZU.alike y]; exact hnZ
  have hcur : (Z.setVm U.vm).vm.findClass own = some m.cls := by
    show U.vm.findClass own = _
    rw [hW.alike.findClass]; exact hown
  obtain ⟨m', c', hm, hready, hfind, hnr⟩ := Cond.methodRef_named ev hcur h1
  cases hm.symm.trans (State.methodFound?_of_named e3 hy)
  cases hfind.symm.trans (findClass_of_methodNamed e3)
  exact ⟨hnr, hready⟩
theorem own_specialRef (X : Stand p l e R s m args below meth c T locs cells slots) (hexec : p.tables.exec = Jvm.exec) (hZ : Z.Warmed39 s.vm) {a0 : Array Value} {own : String} {index : Nat} {y : MethodName} (hy1 : y.name = "<init>") (hown : s.vm.findClass own = some m.cls) (w : (Jvm.Cond.methodRef own index y).before a0 Z = true) (wi : (Jvm.Cond.instanceMethod y).before a0 Z = true)
    {bytes : ByteArray} {maxL : Nat} (wc : (Jvm.Cond.code y bytes maxL none).before a0 Z = true) (hy : y.cls ≠ "java/lang/invoke/MethodHandle" ∧ y.cls ≠ "java/lang/invoke/VarHandle")
    {W : Nat} {Pre : Pt → Array Value → Prop} {Post : Pt → Array Value → Option Value → Pt → Prop} (hK : Back l R p e below s args y 3 W Pre Post)
    {g : JFrame} (hg : g.method = m) (hsize : g.locals.size = c.maxLocals) {s₀ : State} (hcome : Steps p.tables e below s₀ (T.setTop g)) {a : Addr} {argsL rest : List Value}
    (hlen : ∀ sig, parseMethodDescriptor y.desc = some sig → argsL.length = sig.parameters.length) (hstack : g.stack = argsL.reverse ++ .ref a :: rest) (hW : 2 * g.monitorRoom + (rest.map fun v => v.category).sum ≤ W)
    (hdg : decode c.code g.pc = .ok (.invokespecial index, 3)) (hpre : ∀ vm₁, s.WarmedH vm₁ → Pre ⟨T.setVm vm₁, locs, cells, slots⟩ (.ref a :: argsL).toArray) :
    ∃ (v : Option Value) (vm₁ : Vm) (B : Pt), s.WarmedH vm₁ ∧ Stand p l e R s m args below meth c B.U B.locs B.cells B.slots ∧ Post ⟨T.setVm vm₁, locs, cells, slots⟩ (.ref a :: argsL).toArray v B ∧
      Steps p.tables e below s₀ (B.U.setTop { g with pc := g.pc + 3, stack := v.toList ++ rest }) :=
  (SCall.of_ready hexec hy1 (mvT hZ wi) (mvT hZ wc) (own_ready hZ hown hy w wi e)) X hK hg hsize hcome hlen hstack hW hdg hpre
theorem own_selP {a0 : Array Value} {y : MethodName} {n : Nat} (wp : (Jvm.Cond.privateMethod y).before a0 Z = true) (wi : (Jvm.Cond.instanceMethod y).before a0 Z = true) (wn : (Jvm.Cond.instantiable y.cls n).before a0 Z = true) (hy : y.cls ≠ "java/lang/invoke/MethodHandle" ∧ y.cls ≠ "java/lang/invoke/VarHandle") : (Jvm.Cond.selects y.cls y y).before a0 Z = true := by
  obtain ⟨mk, methM, hn, hm, hst, hab⟩ := Cond.instanceMethod_spec wi
  obtain ⟨c, k, hc, hk, -, hi, -⟩ := Cond.instantiable_spec wn
  have hcls : Z.vm.findClass y.cls = some mk.cls := findClass_of_methodNamed hn
  cases hc.symm.trans hcls
  have hf := State.methodFound?_of_named hn hy
  have hs : selectMethod {} Z.vm mk.cls mk = .method mk := selectMethod_private hm (Cond.privateMethod_at wp mk methM hn hm)
  have hki : k.isInterface = false := (Bool.or_eq_false_iff.mp hi).1
  simp [Cond.before, Cond.holds, Cond.value, hcls, hf, hn, hs, hk, hki]
end OwnW

/-! 1. plain law -/
def own_both (o g : Int32) : Int32 := if o = (0 : Int32) then 0 else if g = (0 : Int32) then 0 else 1
theorem own_nb {z : Int32} (h : z = (0 : Int32) ∨ z = (1 : Int32)) : narrow .boolean (.int z) = .int z := by rcases h with rfl | rfl <;> rfl
theorem own_fb {z : Int32} (h : z = (0 : Int32) ∨ z = (1 : Int32)) : fits .boolean (.int z) = true := by rcases h with rfl | rfl <;> rfl
theorem own_nar {z : Int32} (h : z = (0 : Int32) ∨ z = (1 : Int32)) : nar .boolean z = z := by rcases h with rfl | rfl <;> rfl
theorem d2_0 : decode jdk_30_method_1_code 0 = .ok (.aload_n 0, 1) := by decide +kernel
theorem d2_1 : decode jdk_30_method_1_code 1 = .ok (.invokespecial 1, 3) := by decide +kernel
theorem d2_4 : decode jdk_30_method_1_code 4 = .ok (.return_, 1) := by decide +kernel
theorem own_pn_java_lang_Record : plainName "java/lang/Record" = true := by first | (simp [plainName, overriddenIn]; done) | decide +kernel
theorem ef_2 (m : MethodId) (ar : Addr) : entryFrame m #[(.ref ar)] 1 = mkF m 0 #[.val (.ref ar)] [] := by first | (simp [entryFrame, mkF, argsToLocals, Value.category]; done) | rfl
def Q2 (Z : State) (ar : Addr)  (h0 : Heap) (n0 : Nat) (v : Option Value) (h : Heap) (L : List Loc) : Prop := v = none ∧ Fr n0 L ∧ h = h0
set_option maxRecDepth 65536 in
set_option maxHeartbeats 40000000 in
theorem rm2 (l : Launch) (Z : State) (a0 : Array Value) (hw : ∀ d ∈ tables_1, d.before a0 Z = true) (ws : List Jvm.Cond) (ar : Addr)  (h0 : Heap) (n0 : Nat) (Z0 : n0 ≤ h0.size)  :
    MetFree l (⟨"java/lang/Record", "<init>", "()V"⟩ : MethodName) (head1 (Jvm.Cond.code (⟨"java/lang/Record", "<init>", "()V"⟩ : MethodName) jdk_30_method_1_code 1 none :: ws) ({ frames := 1, cells := 0, slots := 0, locals := 12 } : Room)) (fun avs U => avs = #[(.ref ar)] ∧ Z.Warmed39 U.vm ∧ U.heap = h0) (fun _ _ _ _ _ => True) (fun _ U o U' => ∃ v L, o = .returned v ∧ Q2 Z ar h0 n0 v U'.heap L ∧ FrameEnd U o U' L ({ frames := 1, cells := 0, slots := 0, locals := 12 } : Room).cells ({ frames := 1, cells := 0, slots := 0, locals := 12 } : Room).slots) := by
  refine MetFree.of_bodySF (plainFor_of_name own_pn_java_lang_Record) hisR ?_
  intro p e s m args below meth c s₁ Bd hml0 hP hK
  obtain ⟨rfl, hZ, hh⟩ := hP
  have hx := Bd.exec
  have hby := Bd.bytes
  have hml : c.maxLocals = 1 := hml0
  have hown : s.vm.findClass "java/lang/Record" = some m.cls := findClass_of_methodNamed Bd.named
  have hnm := (name_of_methodNamed Bd.named Bd.method).1
  have hlk := Bd.notSynchronized
  have hret := Bd.returns
  have X0 : Stand p l e ({ frames := 1, cells := 0, slots := 0, locals := 12 } : Room) s m #[(.ref ar)] below meth c s₁ [] 0 0 := Stand.of_body Bd
  have e0 : s₁.heap = h0 := by rw [← hh, Bd.state]; rfl
  have N0 := Fr.nil n0
  show own_W p e (FrameEnd s) below ({ frames := 1, cells := 0, slots := 0, locals := 12 } : Room).cells ({ frames := 1, cells := 0, slots := 0, locals := 12 } : Room).slots (Q2 Z ar h0 n0) s₁ (entryFrame m #[(.ref ar)] 1)
  rw [ef_2]
  refine own_aloadN X0 hx (hb hby d2_0) (v := (.ref ar)) rfl rfl (rfl : 0 + 1 = 1) ?_
  obtain ⟨T1, X1, e1, st1⟩ := initO X0 hx hZ hown (hw _ (List.mem_of_getElem? (i := 11) rfl)) (hw _ (List.mem_of_getElem? (i := 12) rfl)) (hw _ (List.mem_of_getElem? (i := 13) rfl)) e0 (g := (mkF m 1 #[.val (.ref ar)] [(.ref ar)])) rfl (by rw [hml]; rfl) rfl (hb hby d2_1) (by decide) (W := 0) (by show 2 * 0 + _ ≤ _; exact Nat.le_of_eq rfl) (by decide)
  refine own_W.step st1 ?_
  show own_W p e (FrameEnd s) below ({ frames := 1, cells := 0, slots := 0, locals := 12 } : Room).cells ({ frames := 1, cells := 0, slots := 0, locals := 12 } : Room).slots (Q2 Z ar h0 n0) T1 (mkF m 4 #[.val (.ref ar)] [])
  refine own_retV X1 hx hlk hret (hb hby d2_4) (by decide) (by decide) ?_
  show Q2 Z ar h0 n0 none T1.heap _
  rw [e1]
  exact ⟨rfl, N0, rfl⟩
theorem own_pd___V : parseMethodDescriptor "()V" = some ⟨[], none⟩ := by decide +kernel
theorem d1_0 : decode prog_4_method_1_code 0 = .ok (.aload_n 0, 1) := by decide +kernel
theorem d1_1 : decode prog_4_method_1_code 1 = .ok (.invokespecial 1, 3) := by decide +kernel
theorem d1_4 : decode prog_4_method_1_code 4 = .ok (.aload_n 0, 1) := by decide +kernel
theorem d1_5 : decode prog_4_method_1_code 5 = .ok (.iload_n 1, 1) := by decide +kernel
theorem d1_6 : decode prog_4_method_1_code 6 = .ok (.putfield 7, 3) := by decide +kernel
theorem d1_9 : decode prog_4_method_1_code 9 = .ok (.aload_n 0, 1) := by decide +kernel
theorem d1_10 : decode prog_4_method_1_code 10 = .ok (.iload_n 2, 1) := by decide +kernel
theorem d1_11 : decode prog_4_method_1_code 11 = .ok (.putfield 13, 3) := by decide +kernel
theorem d1_14 : decode prog_4_method_1_code 14 = .ok (.return_, 1) := by decide +kernel
theorem own_pn_com_example_galapagos_galapagos_FileOwners_Taken : plainName "com/example/galapagos/galapagos/FileOwners$Taken" = true := by first | (simp [plainName, overriddenIn]; done) | decide +kernel
theorem ef_1 (m : MethodId) (ob : Addr) (po : Int32) (pg : Int32) : entryFrame m #[(.ref ob), (.int po), (.int pg)] 3 = mkF m 0 #[.val (.ref ob), .val (.int po), .val (.int pg)] [] := by first | (simp [entryFrame, mkF, argsToLocals, Value.category]; done) | rfl
def Q1 (Z : State) (ob : Addr) (po : Int32) (pg : Int32)  (h0 : Heap) (n0 : Nat) (v : Option Value) (h : Heap) (L : List Loc) : Prop := v = none ∧ Fr n0 L ∧ Keep h0 h [ob] ∧ Exa Z h ob "com/example/galapagos/galapagos/FileOwners$Taken" ∧ Fld Z h ob "com/example/galapagos/galapagos/FileOwners$Taken" "owner" "Z" (.int po) ∧ Fld Z h ob "com/example/galapagos/galapagos/FileOwners$Taken" "group" "Z" (.int pg)
set_option maxRecDepth 65536 in
set_option maxHeartbeats 40000000 in
theorem rm1 (l : Launch) (Z : State) (a0 : Array Value) (hw : ∀ d ∈ tables_1, d.before a0 Z = true) (ws : List Jvm.Cond) (ob : Addr) (po : Int32) (pg : Int32)  (h0 : Heap) (n0 : Nat) (Z0 : n0 ≤ h0.size) (f_E_ob : Exa Z h0 ob "com/example/galapagos/galapagos/FileOwners$Taken") (f_F_ob_owner : Fld Z h0 ob "com/example/galapagos/galapagos/FileOwners$Taken" "owner" "Z" (.int (0 : Int32))) (f_F_ob_group : Fld Z h0 ob "com/example/galapagos/galapagos/FileOwners$Taken" "group" "Z" (.int (0 : Int32))) (g_ob : n0 ≤ ob) (bo : po = (0 : Int32) ∨ po = (1 : Int32)) (bg : pg = (0 : Int32) ∨ pg = (1 : Int32)) :
    MetFree l (⟨"com/example/galapagos/galapagos/FileOwners$Taken", "<init>", "(ZZ)V"⟩ : MethodName) (head1 (Jvm.Cond.code (⟨"com/example/galapagos/galapagos/FileOwners$Taken", "<init>", "(ZZ)V"⟩ : MethodName) prog_4_method_1_code 3 none :: ws) ({ frames := 2, cells := 0, slots := 0, locals := 24 } : Room)) (fun avs U => avs = #[(.ref ob), (.int po), (.int pg)] ∧ Z.Warmed39 U.vm ∧ U.heap = h0) (fun _ _ _ _ _ => True) (fun _ U o U' => ∃ v L, o = .returned v ∧ Q1 Z ob po pg h0 n0 v U'.heap L ∧ FrameEnd U o U' L ({ frames := 2, cells := 0, slots := 0, locals := 24 } : Room).cells ({ frames := 2, cells := 0, slots := 0, locals := 24 } : Room).slots) := by
  refine MetFree.of_bodySF (plainFor_of_name own_pn_com_example_galapagos_galapagos_FileOwners_Taken) hisR ?_
  intro p e s m args below meth c s₁ Bd hml0 hP hK
  obtain ⟨rfl, hZ, hh⟩ := hP
  have hx := Bd.exec
  have hby := Bd.bytes
  have hml : c.maxLocals = 3 := hml0
  have hown : s.vm.findClass "com/example/galapagos/galapagos/FileOwners$Taken" = some m.cls := findClass_of_methodNamed Bd.named
  have hnm := (name_of_methodNamed Bd.named Bd.method).1
  have hlk := Bd.notSynchronized
  have hret := Bd.returns
  have X0 : Stand p l e ({ frames := 2, cells := 0, slots := 0, locals := 24 } : Room) s m #[(.ref ob), (.int po), (.int pg)] below meth c s₁ [] 0 0 := Stand.of_body Bd
  have e0 : s₁.heap = h0 := by rw [← hh, Bd.state]; rfl
  have N0 := Fr.nil n0
  show own_W p e (FrameEnd s) below ({ frames := 2, cells := 0, slots := 0, locals := 24 } : Room).cells ({ frames := 2, cells := 0, slots := 0, locals := 24 } : Room).slots (Q1 Z ob po pg h0 n0) s₁ (entryFrame m #[(.ref ob), (.int po), (.int pg)] 3)
  rw [ef_1]
  have K0 : Keep h0 h0 [ob] := Keep.refl h0 _
  refine own_aloadN X0 hx (hb hby d1_0) (v := (.ref ob)) rfl rfl (rfl : 0 + 1 = 1) ?_
  obtain ⟨_, _, ⟨T1, L1, k1, n1⟩, -, X1, ⟨Lc1, hQ1, l1, y1, z1⟩, st1⟩ := X0.specialBack hx (y := (⟨"java/lang/Record", "<init>", "()V"⟩ : MethodName)) rfl hown (mvT hZ (hw _ (List.mem_of_getElem? (i := 6) rfl))) (mvT hZ (hw _ (List.mem_of_getElem? (i := 7) rfl))) (mvT hZ (hw _ (List.mem_of_getElem? (i := 10) rfl))) (by decide) (backOf (W := 0) (rm2 l Z a0 hw [] ob  h0 n0 Z0 ) hZ (hw _ (List.mem_of_getElem? (i := 10) rfl)) (hw _ (List.mem_of_getElem? (i := 9) rfl)) (by decide) (by decide)) (g := (mkF m 1 #[.val (.ref ob), .val (.int po), .val (.int pg)] [(.ref ob)])) rfl (by rw [hml]; rfl) (Steps.refl _) (a := ob) (argsL := []) (rest := []) (lenOf own_pd___V rfl) rfl (by show 2 * 0 + _ ≤ _; exact Nat.le_of_eq rfl) (hb hby d1_1) (fun _ _ => ⟨rfl, e0, (by decide : 0 + 0 ≤ _), (by decide : 0 + 0 ≤ _)⟩)
  dsimp only [Pt.U, Pt.locs, Pt.cells, Pt.slots] at X1 l1 y1 z1 st1 hQ1
  subst l1 y1 z1
  obtain ⟨rfl, N1q, e1⟩ := hQ1
  have N1 := Fr.app N0 N1q
  refine own_W.steps st1 ?_
  show own_W p e (FrameEnd s) below ({ frames := 2, cells := 0, slots := 0, locals := 24 } : Room).cells ({ frames := 2, cells := 0, slots := 0, locals := 24 } : Room).slots (Q1 Z ob po pg h0 n0) T1 (mkF m 4 #[.val (.ref ob), .val (.int po), .val (.int pg)] [])
  refine own_aloadN X1 hx (hb hby d1_4) (v := (.ref ob)) rfl rfl (rfl : 4 + 1 = 5) ?_
  refine own_iloadN X1 hx (hb hby d1_5) (v := po) rfl (rfl : 5 + 1 = 6) ?_
  obtain ⟨T2, h2, X2, e2, W2, st2⟩ := putFN X1 hx hZ hown (hw _ (List.mem_of_getElem? (i := 14) rfl)) Via.refl e1 f_F_ob_owner f_E_ob (Or.inr ⟨(hw _ (List.mem_of_getElem? (i := 15) rfl)), rfl, hnm⟩) (hw _ (List.mem_of_getElem? (i := 1) rfl)) (ty := .boolean) (v' := .int po) (by decide) (own_nb bo) (own_fb bo) (g := (mkF m 6 #[.val (.ref ob), .val (.int po), .val (.int pg)] [(.int po), (.ref ob)])) rfl rfl (hb hby d1_6)
  refine own_W.step st2 ?_
  have N2 := Fr.snoc X2 N1 g_ob
  have f2_E_ob : Exa Z h2 ob "com/example/galapagos/galapagos/FileOwners$Taken" := f_E_ob.wr W2
  have f2_F_ob_group : Fld Z h2 ob "com/example/galapagos/galapagos/FileOwners$Taken" "group" "Z" (.int (0 : Int32)) := f_F_ob_group.other W2 (Or.inr (slot_ne (Or.inr (hw _ (List.mem_of_getElem? (i := 17) rfl))) (Or.inr (hw _ (List.mem_of_getElem? (i := 15) rfl))) (by decide) (t := .boolean) (t' := .boolean) (by decide) (by decide)))
  have f2_K : Keep h0 h2 [ob] := K0.wr W2 (Or.inl (by simp))
  have fw2 : Fld Z h2 ob "com/example/galapagos/galapagos/FileOwners$Taken" "owner" "Z" (.int po) := f_F_ob_owner.same W2
  have z2 : n0 ≤ h2.size := by rw [W2.size]; exact Z0
  show own_W p e (FrameEnd s) below ({ frames := 2, cells := 0, slots := 0, locals := 24 } : Room).cells ({ frames := 2, cells := 0, slots := 0, locals := 24 } : Room).slots (Q1 Z ob po pg h0 n0) T2 (mkF m 9 #[.val (.ref ob), .val (.int po), .val (.int pg)] [])
  refine own_aloadN X2 hx (hb hby d1_9) (v := (.ref ob)) rfl rfl (rfl : 9 + 1 = 10) ?_
  refine own_iloadN X2 hx (hb hby d1_10) (v := pg) rfl (rfl : 10 + 1 = 11) ?_
  obtain ⟨T3, h3, X3, e3, W3, st3⟩ := putFN X2 hx hZ hown (hw _ (List.mem_of_getElem? (i := 16) rfl)) Via.refl e2 f2_F_ob_group f2_E_ob (Or.inr ⟨(hw _ (List.mem_of_getElem? (i := 17) rfl)), rfl, hnm⟩) (hw _ (List.mem_of_getElem? (i := 1) rfl)) (ty := .boolean) (v' := .int pg) (by decide) (own_nb bg) (own_fb bg) (g := (mkF m 11 #[.val (.ref ob), .val (.int po), .val (.int pg)] [(.int pg), (.ref ob)])) rfl rfl (hb hby d1_11)
  refine own_W.step st3 ?_
  have N3 := Fr.snoc X3 N2 g_ob
  have f3_E_ob : Exa Z h3 ob "com/example/galapagos/galapagos/FileOwners$Taken" := f2_E_ob.wr W3
  have f3_F_ob_owner : Fld Z h3 ob "com/example/galapagos/galapagos/FileOwners$Taken" "owner" "Z" (.int po) := fw2.other W3 (Or.inr (slot_ne (Or.inr (hw _ (List.mem_of_getElem? (i := 15) rfl))) (Or.inr (hw _ (List.mem_of_getElem? (i := 17) rfl))) (by decide) (t := .boolean) (t' := .boolean) (by decide) (by decide)))
  have f3_K : Keep h0 h3 [ob] := f2_K.wr W3 (Or.inl (by simp))
  have fw3 : Fld Z h3 ob "com/example/galapagos/galapagos/FileOwners$Taken" "group" "Z" (.int pg) := f2_F_ob_group.same W3
  have z3 : n0 ≤ h3.size := by rw [W3.size]; exact z2
  show own_W p e (FrameEnd s) below ({ frames := 2, cells := 0, slots := 0, locals := 24 } : Room).cells ({ frames := 2, cells := 0, slots := 0, locals := 24 } : Room).slots (Q1 Z ob po pg h0 n0) T3 (mkF m 14 #[.val (.ref ob), .val (.int po), .val (.int pg)] [])
  refine own_retV X3 hx hlk hret (hb hby d1_14) (by decide) (by decide) ?_
  show Q1 Z ob po pg h0 n0 none T3.heap _
  rw [e3]
  exact ⟨rfl, N3, f3_K, f3_E_ob, f3_F_ob_owner, fw3⟩
theorem d5_0 : decode prog_4_method_6_code 0 = .ok (.aload_n 0, 1) := by decide +kernel
theorem d5_1 : decode prog_4_method_6_code 1 = .ok (.getfield 7, 3) := by decide +kernel
theorem d5_4 : decode prog_4_method_6_code 4 = .ok (.ireturn, 1) := by decide +kernel
theorem ef_5 (m : MethodId) (ob : Addr) : entryFrame m #[(.ref ob)] 1 = mkF m 0 #[.val (.ref ob)] [] := by first | (simp [entryFrame, mkF, argsToLocals, Value.category]; done) | rfl
def Q5 (Z : State) (ob : Addr) (uo : Int32) (h0 : Heap) (n0 : Nat) (v : Option Value) (h : Heap) (L : List Loc) : Prop := v = some (.int uo) ∧ Fr n0 L ∧ h = h0
set_option maxRecDepth 65536 in
set_option maxHeartbeats 40000000 in
theorem rm5 (l : Launch) (Z : State) (a0 : Array Value) (hw : ∀ d ∈ tables_1, d.before a0 Z = true) (ws : List Jvm.Cond) (ob : Addr) (uo : Int32) (h0 : Heap) (n0 : Nat) (Z0 : n0 ≤ h0.size) (f_F_ob_owner : Fld Z h0 ob "com/example/galapagos/galapagos/FileOwners$Taken" "owner" "Z" (.int uo)) (bu : uo = (0 : Int32) ∨ uo = (1 : Int32)) :
    MetFree l (⟨"com/example/galapagos/galapagos/FileOwners$Taken", "owner", "()Z"⟩ : MethodName) (head1 (Jvm.Cond.code (⟨"com/example/galapagos/galapagos/FileOwners$Taken", "owner", "()Z"⟩ : MethodName) prog_4_method_6_code 1 (some .boolean) :: ws) ({ frames := 0, cells := 0, slots := 0, locals := 0 } : Room)) (fun avs U => avs = #[(.ref ob)] ∧ Z.Warmed39 U.vm ∧ U.heap = h0) (fun _ _ _ _ _ => True) (fun _ U o U' => ∃ v L, o = .returned v ∧ Q5 Z ob uo h0 n0 v U'.heap L ∧ FrameEnd U o U' L ({ frames := 0, cells := 0, slots := 0, locals := 0 } : Room).cells ({ frames := 0, cells := 0, slots := 0, locals := 0 } : Room).slots) := by
  refine MetFree.of_bodySF (plainFor_of_name own_pn_com_example_galapagos_galapagos_FileOwners_Taken) hisR ?_
  intro p e s m args below meth c s₁ Bd hml0 hP hK
  obtain ⟨rfl, hZ, hh⟩ := hP
  have hx := Bd.exec
  have hby := Bd.bytes
  have hml : c.maxLocals = 1 := hml0
  have hown : s.vm.findClass "com/example/galapagos/galapagos/FileOwners$Taken" = some m.cls := findClass_of_methodNamed Bd.named
  have hnm := (name_of_methodNamed Bd.named Bd.method).1
  have hlk := Bd.notSynchronized
  have hret := Bd.returns
  have X0 : Stand p l e ({ frames := 0, cells := 0, slots := 0, locals := 0 } : Room) s m #[(.ref ob)] below meth c s₁ [] 0 0 := Stand.of_body Bd
  have e0 : s₁.heap = h0 := by rw [← hh, Bd.state]; rfl
  have N0 := Fr.nil n0
  show own_W p e (FrameEnd s) below ({ frames := 0, cells := 0, slots := 0, locals := 0 } : Room).cells ({ frames := 0, cells := 0, slots := 0, locals := 0 } : Room).slots (Q5 Z ob uo h0 n0) s₁ (entryFrame m #[(.ref ob)] 1)
  rw [ef_5]
  refine own_aloadN X0 hx (hb hby d5_0) (v := (.ref ob)) rfl rfl (rfl : 0 + 1 = 1) ?_
  obtain ⟨T1, X1, e1, st1⟩ := getF X0 hx hZ hown (host := "") (Or.inl (hw _ (List.mem_of_getElem? (i := 14) rfl))) Via.refl e0 f_F_ob_owner (g := (mkF m 1 #[.val (.ref ob)] [(.ref ob)])) rfl rfl (hb hby d5_1)
  refine own_W.step st1 ?_
  show own_W p e (FrameEnd s) below ({ frames := 0, cells := 0, slots := 0, locals := 0 } : Room).cells ({ frames := 0, cells := 0, slots := 0, locals := 0 } : Room).slots (Q5 Z ob uo h0 n0) T1 (mkF m 4 #[.val (.ref ob)] [(.int uo)])
  refine own_retN (t := .boolean) X1 hx hlk hret (by simp) (hb hby d5_4) (z' := uo) (own_nar bu) (by decide) (by decide) ?_
  show Q5 Z ob uo h0 n0 (some (.int uo)) T1.heap _
  rw [e1]
  exact ⟨rfl, N0, rfl⟩
theorem d6_0 : decode prog_4_method_7_code 0 = .ok (.aload_n 0, 1) := by decide +kernel
theorem d6_1 : decode prog_4_method_7_code 1 = .ok (.getfield 13, 3) := by decide +kernel
theorem d6_4 : decode prog_4_method_7_code 4 = .ok (.ireturn, 1) := by decide +kernel
theorem ef_6 (m : MethodId) (ob : Addr) : entryFrame m #[(.ref ob)] 1 = mkF m 0 #[.val (.ref ob)] [] := by first | (simp [entryFrame, mkF, argsToLocals, Value.category]; done) | rfl
def Q6 (Z : State) (ob : Addr) (ug : Int32) (h0 : Heap) (n0 : Nat) (v : Option Value) (h : Heap) (L : List Loc) : Prop := v = some (.int ug) ∧ Fr n0 L ∧ h = h0
set_option maxRecDepth 65536 in
set_option maxHeartbeats 40000000 in
theorem rm6 (l : Launch) (Z : State) (a0 : Array Value) (hw : ∀ d ∈ tables_1, d.before a0 Z = true) (ws : List Jvm.Cond) (ob : Addr) (ug : Int32) (h0 : Heap) (n0 : Nat) (Z0 : n0 ≤ h0.size) (f_F_ob_group : Fld Z h0 ob "com/example/galapagos/galapagos/FileOwners$Taken" "group" "Z" (.int ug)) (bu : ug = (0 : Int32) ∨ ug = (1 : Int32)) :
    MetFree l (⟨"com/example/galapagos/galapagos/FileOwners$Taken", "group", "()Z"⟩ : MethodName) (head1 (Jvm.Cond.code (⟨"com/example/galapagos/galapagos/FileOwners$Taken", "group", "()Z"⟩ : MethodName) prog_4_method_7_code 1 (some .boolean) :: ws) ({ frames := 0, cells := 0, slots := 0, locals := 0 } : Room)) (fun avs U => avs = #[(.ref ob)] ∧ Z.Warmed39 U.vm ∧ U.heap = h0) (fun _ _ _ _ _ => True) (fun _ U o U' => ∃ v L, o = .returned v ∧ Q6 Z ob ug h0 n0 v U'.heap L ∧ FrameEnd U o U' L ({ frames := 0, cells := 0, slots := 0, locals := 0 } : Room).cells ({ frames := 0, cells := 0, slots := 0, locals := 0 } : Room).slots) := by
  refine MetFree.of_bodySF (plainFor_of_name own_pn_com_example_galapagos_galapagos_FileOwners_Taken) hisR ?_
  intro p e s m args below meth c s₁ Bd hml0 hP hK
  obtain ⟨rfl, hZ, hh⟩ := hP
  have hx := Bd.exec
  have hby := Bd.bytes
  have hml : c.maxLocals = 1 := hml0
  have hown : s.vm.findClass "com/example/galapagos/galapagos/FileOwners$Taken" = some m.cls := findClass_of_methodNamed Bd.named
  have hnm := (name_of_methodNamed Bd.named Bd.method).1
  have hlk := Bd.notSynchronized
  have hret := Bd.returns
  have X0 : Stand p l e ({ frames := 0, cells := 0, slots := 0, locals := 0 } : Room) s m #[(.ref ob)] below meth c s₁ [] 0 0 := Stand.of_body Bd
  have e0 : s₁.heap = h0 := by rw [← hh, Bd.state]; rfl
  have N0 := Fr.nil n0
  show own_W p e (FrameEnd s) below ({ frames := 0, cells := 0, slots := 0, locals := 0 } : Room).cells ({ frames := 0, cells := 0, slots := 0, locals := 0 } : Room).slots (Q6 Z ob ug h0 n0) s₁ (entryFrame m #[(.ref ob)] 1)
  rw [ef_6]
  refine own_aloadN X0 hx (hb hby d6_0) (v := (.ref ob)) rfl rfl (rfl : 0 + 1 = 1) ?_
  obtain ⟨T1, X1, e1, st1⟩ := getF X0 hx hZ hown (host := "") (Or.inl (hw _ (List.mem_of_getElem? (i := 16) rfl))) Via.refl e0 f_F_ob_group (g := (mkF m 1 #[.val (.ref ob)] [(.ref ob)])) rfl rfl (hb hby d6_1)
  refine own_W.step st1 ?_
  show own_W p e (FrameEnd s) below ({ frames := 0, cells := 0, slots := 0, locals := 0 } : Room).cells ({ frames := 0, cells := 0, slots := 0, locals := 0 } : Room).slots (Q6 Z ob ug h0 n0) T1 (mkF m 4 #[.val (.ref ob)] [(.int ug)])
  refine own_retN (t := .boolean) X1 hx hlk hret (by simp) (hb hby d6_4) (z' := ug) (own_nar bu) (by decide) (by decide) ?_
  show Q6 Z ob ug h0 n0 (some (.int ug)) T1.heap _
  rw [e1]
  exact ⟨rfl, N0, rfl⟩
theorem d4_0 : decode prog_4_method_2_code 0 = .ok (.aload_n 0, 1) := by decide +kernel
theorem d4_1 : decode prog_4_method_2_code 1 = .ok (.getfield 7, 3) := by decide +kernel
theorem d4_4 : decode prog_4_method_2_code 4 = .ok (.ifCond .eq 14, 3) := by decide +kernel
theorem d4_7 : decode prog_4_method_2_code 7 = .ok (.aload_n 0, 1) := by decide +kernel
theorem d4_8 : decode prog_4_method_2_code 8 = .ok (.getfield 13, 3) := by decide +kernel
theorem d4_11 : decode prog_4_method_2_code 11 = .ok (.ifCond .eq 7, 3) := by decide +kernel
theorem d4_14 : decode prog_4_method_2_code 14 = .ok (.iconst 1, 1) := by decide +kernel
theorem d4_15 : decode prog_4_method_2_code 15 = .ok (.goto 4, 3) := by decide +kernel
theorem d4_18 : decode prog_4_method_2_code 18 = .ok (.iconst 0, 1) := by decide +kernel
theorem d4_19 : decode prog_4_method_2_code 19 = .ok (.ireturn, 1) := by decide +kernel
theorem ef_4 (m : MethodId) (ob : Addr) : entryFrame m #[(.ref ob)] 1 = mkF m 0 #[.val (.ref ob)] [] := by first | (simp [entryFrame, mkF, argsToLocals, Value.category]; done) | rfl
def Q4 (Z : State) (ob : Addr) (uo : Int32) (ug : Int32) (h0 : Heap) (n0 : Nat) (v : Option Value) (h : Heap) (L : List Loc) : Prop := v = some (.int (own_both uo ug)) ∧ Fr n0 L ∧ h = h0
set_option maxRecDepth 65536 in
set_option maxHeartbeats 40000000 in
theorem rm4 (l : Launch) (Z : State) (a0 : Array Value) (hw : ∀ d ∈ tables_1, d.before a0 Z = true) (ws : List Jvm.Cond) (ob : Addr) (uo : Int32) (ug : Int32) (h0 : Heap) (n0 : Nat) (Z0 : n0 ≤ h0.size) (f_F_ob_owner : Fld Z h0 ob "com/example/galapagos/galapagos/FileOwners$Taken" "owner" "Z" (.int uo)) (f_F_ob_group : Fld Z h0 ob "com/example/galapagos/galapagos/FileOwners$Taken" "group" "Z" (.int ug)) :
    MetFree l (⟨"com/example/galapagos/galapagos/FileOwners$Taken", "both", "()Z"⟩ : MethodName) (head1 (Jvm.Cond.code (⟨"com/example/galapagos/galapagos/FileOwners$Taken", "both", "()Z"⟩ : MethodName) prog_4_method_2_code 1 (some .boolean) :: ws) ({ frames := 0, cells := 0, slots := 0, locals := 0 } : Room)) (fun avs U => avs = #[(.ref ob)] ∧ Z.Warmed39 U.vm ∧ U.heap = h0) (fun _ _ _ _ _ => True) (fun _ U o U' => ∃ v L, o = .returned v ∧ Q4 Z ob uo ug h0 n0 v U'.heap L ∧ FrameEnd U o U' L ({ frames := 0, cells := 0, slots := 0, locals := 0 } : Room).cells ({ frames := 0, cells := 0, slots := 0, locals := 0 } : Room).slots) := by
  refine MetFree.of_bodySF (plainFor_of_name own_pn_com_example_galapagos_galapagos_FileOwners_Taken) hisR ?_
  intro p e s m args below meth c s₁ Bd hml0 hP hK
  obtain ⟨rfl, hZ, hh⟩ := hP
  have hx := Bd.exec
  have hby := Bd.bytes
  have hml : c.maxLocals = 1 := hml0
  have hown : s.vm.findClass "com/example/galapagos/galapagos/FileOwners$Taken" = some m.cls := findClass_of_methodNamed Bd.named
  have hnm := (name_of_methodNamed Bd.named Bd.method).1
  have hlk := Bd.notSynchronized
  have hret := Bd.returns
  have X0 : Stand p l e ({ frames := 0, cells := 0, slots := 0, locals := 0 } : Room) s m #[(.ref ob)] below meth c s₁ [] 0 0 := Stand.of_body Bd
  have e0 : s₁.heap = h0 := by rw [← hh, Bd.state]; rfl
  have N0 := Fr.nil n0
  show own_W p e (FrameEnd s) below ({ frames := 0, cells := 0, slots := 0, locals := 0 } : Room).cells ({ frames := 0, cells := 0, slots := 0, locals := 0 } : Room).slots (Q4 Z ob uo ug h0 n0) s₁ (entryFrame m #[(.ref ob)] 1)
  rw [ef_4]
  refine own_aloadN X0 hx (hb hby d4_0) (v := (.ref ob)) rfl rfl (rfl : 0 + 1 = 1) ?_
  obtain ⟨T1, X1, e1, st1⟩ := getF X0 hx hZ hown (host := "") (Or.inl (hw _ (List.mem_of_getElem? (i := 14) rfl))) Via.refl e0 f_F_ob_owner (g := (mkF m 1 #[.val (.ref ob)] [(.ref ob)])) rfl rfl (hb hby d4_1)
  refine own_W.step st1 ?_
  show own_W p e (FrameEnd s) below ({ frames := 0, cells := 0, slots := 0, locals := 0 } : Room).cells ({ frames := 0, cells := 0, slots := 0, locals := 0 } : Room).slots (Q4 Z ob uo ug h0 n0) T1 (mkF m 4 #[.val (.ref ob)] [(.int uo)])
  by_cases hc4 : uo = (0 : Int32)
  · skip
    refine own_ifYes X1 hx (hb hby d4_4) ((if0 _ _).trans (teq hc4).1) (pc' := 18) (by decide) (by decide) ?_
    refine own_iconst X1 hx (hb hby d4_18) (0 : Int32) (by first | rfl | decide) (rfl : 18 + 1 = 19) ?_
    refine own_retN (t := .boolean) X1 hx hlk hret (by simp) (hb hby d4_19) (z' := (0 : Int32)) (by decide) (by decide) (by decide) ?_
    show Q4 Z ob uo ug h0 n0 (some (.int (0 : Int32))) T1.heap _
    rw [e1]
    exact ⟨by simp only [own_both, if_pos hc4], N0, rfl⟩
  · skip
    refine own_ifNo X1 hx (hb hby d4_4) ((if0 _ _).trans (feq hc4).1) (rfl : 4 + 3 = 7) ?_
    refine own_aloadN X1 hx (hb hby d4_7) (v := (.ref ob)) rfl rfl (rfl : 7 + 1 = 8) ?_
    obtain ⟨T2, X2, e2, st2⟩ := getF X1 hx hZ hown (host := "") (Or.inl (hw _ (List.mem_of_getElem? (i := 16) rfl))) Via.refl e1 f_F_ob_group (g := (mkF m 8 #[.val (.ref ob)] [(.ref ob)])) rfl rfl (hb hby d4_8)
    refine own_W.step st2 ?_
    show own_W p e (FrameEnd s) below ({ frames := 0, cells := 0, slots := 0, locals := 0 } : Room).cells ({ frames := 0, cells := 0, slots := 0, locals := 0 } : Room).slots (Q4 Z ob uo ug h0 n0) T2 (mkF m 11 #[.val (.ref ob)] [(.int ug)])
    by_cases hc11 : ug = (0 : Int32)
    · skip
      refine own_ifYes X2 hx (hb hby d4_11) ((if0 _ _).trans (teq hc11).1) (pc' := 18) (by decide) (by decide) ?_
      refine own_iconst X2 hx (hb hby d4_18) (0 : Int32) (by first | rfl | decide) (rfl : 18 + 1 = 19) ?_
      refine own_retN (t := .boolean) X2 hx hlk hret (by simp) (hb hby d4_19) (z' := (0 : Int32)) (by decide) (by decide) (by decide) ?_
      show Q4 Z ob uo ug h0 n0 (some (.int (0 : Int32))) T2.heap _
      rw [e2]
      exact ⟨by simp only [own_both, if_neg hc4, if_pos hc11], N0, rfl⟩
    · skip
      refine own_ifNo X2 hx (hb hby d4_11) ((if0 _ _).trans (feq hc11).1) (rfl : 11 + 3 = 14) ?_
      refine own_iconst X2 hx (hb hby d4_14) (1 : Int32) (by first | rfl | decide) (rfl : 14 + 1 = 15) ?_
      refine own_goto X2 hx (hb hby d4_15) (pc' := 19) (by decide) (by decide) ?_
      refine own_retN (t := .boolean) X2 hx hlk hret (by simp) (hb hby d4_19) (z' := (1 : Int32)) (by decide) (by decide) (by decide) ?_
      show Q4 Z ob uo ug h0 n0 (some (.int (1 : Int32))) T2.heap _
      rw [e2]
      exact ⟨by simp only [own_both, if_neg hc4, if_neg hc11], N0, rfl⟩
theorem own_pd__ZZ_V : parseMethodDescriptor "(ZZ)V" = some ⟨[.boolean, .boolean], none⟩ := by decide +kernel
theorem own_pd___Z : parseMethodDescriptor "()Z" = some ⟨[], some .boolean⟩ := by decide +kernel
theorem own_pn_com_example_galapagos_galapagos_TakenBothPinLaw : plainName "com/example/galapagos/galapagos/TakenBothPinLaw" = true := by first | (simp [plainName, overriddenIn]; done) | decide +kernel
theorem ef_0 (m : MethodId) (pf : Int32) : entryFrame m #[(.int pf)] maxLocals = mkF m 0 #[.val (.int pf), .unset, .unset, .unset, .unset] [] := by first | (simp [entryFrame, mkF, argsToLocals, Value.category, maxLocals]; done) | rfl
def Q0 (Z : State) (pf : Int32)  (h0 : Heap) (n0 : Nat) (v : Option Value) (h : Heap) (L : List Loc) : Prop := v = some (.int 1) ∧ Fr n0 L
set_option maxRecDepth 65536 in
set_option maxHeartbeats 40000000 in
theorem rm0 (l : Launch) (Z : State) (a0 : Array Value) (hw : ∀ d ∈ tables_1, d.before a0 Z = true) (ws : List Jvm.Cond) (pf : Int32)  (h0 : Heap) (n0 : Nat) (Z0 : n0 ≤ h0.size)  :
    MetFree l x (head1 (Jvm.Cond.code x code maxLocals ret :: ws) room_1) (fun avs U => avs = #[(.int pf)] ∧ Z.Warmed39 U.vm ∧ U.heap = h0) (fun _ _ _ _ _ => True) (fun _ U o U' => ∃ v L, o = .returned v ∧ Q0 Z pf h0 n0 v U'.heap L ∧ FrameEnd U o U' L room_1.cells room_1.slots) := by
  refine MetFree.of_bodySF (plainFor_of_name own_pn_com_example_galapagos_galapagos_TakenBothPinLaw) hisR ?_
  intro p e s m args below meth c s₁ Bd hml0 hP hK
  obtain ⟨rfl, hZ, hh⟩ := hP
  have hx := Bd.exec
  have hby := Bd.bytes
  have hml : c.maxLocals = 5 := hml0
  have hown : s.vm.findClass "com/example/galapagos/galapagos/TakenBothPinLaw" = some m.cls := findClass_of_methodNamed Bd.named
  have hnm := (name_of_methodNamed Bd.named Bd.method).1
  have hlk := Bd.notSynchronized
  have hret := Bd.returns
  have X0 : Stand p l e room_1 s m #[(.int pf)] below meth c s₁ [] 0 0 := Stand.of_body Bd
  have e0 : s₁.heap = h0 := by rw [← hh, Bd.state]; rfl
  have N0 := Fr.nil n0
  show own_W p e (FrameEnd s) below room_1.cells room_1.slots (Q0 Z pf h0 n0) s₁ (entryFrame m #[(.int pf)] maxLocals)
  rw [ef_0]
  refine own_iloadN X0 hx (hb hby at_0) (v := pf) rfl (rfl : 0 + 1 = 1) ?_
  refine own_iconst X0 hx (hb hby at_1) (1 : Int32) (by first | rfl | decide) (rfl : 1 + 1 = 2) ?_
  refine own_iand X0 hx (hb hby at_2) (rfl : 2 + 1 = 3) ?_
  have J11 : ∀ (oo : Int32), ∀ (hoo : oo = (0 : Int32) ∨ oo = (1 : Int32)), own_W p e (FrameEnd s) below room_1.cells room_1.slots (Q0 Z pf h0 n0) s₁ (mkF m 11 #[.val (.int pf), .unset, .unset, .unset, .unset] [(.int oo)]) := by
    intro oo hoo
    refine own_istoreN X0 hx (hb hby at_11) (l' := #[.val (.int pf), .val (.int oo), .unset, .unset, .unset]) rfl (rfl : 11 + 1 = 12) ?_
    refine own_iloadN X0 hx (hb hby at_12) (v := pf) rfl (rfl : 12 + 1 = 13) ?_
    refine own_iconst X0 hx (hb hby at_13) (2 : Int32) (by first | rfl | decide) (rfl : 13 + 1 = 14) ?_
    refine own_iand X0 hx (hb hby at_14) (rfl : 14 + 1 = 15) ?_
    have J23 : ∀ (gg : Int32), ∀ (hgg : gg = (0 : Int32) ∨ gg = (1 : Int32)), own_W p e (FrameEnd s) below room_1.cells room_1.slots (Q0 Z pf h0 n0) s₁ (mkF m 23 #[.val (.int pf), .val (.int oo), .unset, .unset, .unset] [(.int gg)]) := by
      intro gg hgg
      refine own_istoreN X0 hx (hb hby at_23) (l' := #[.val (.int pf), .val (.int oo), .val (.int gg), .unset, .unset]) rfl (rfl : 23 + 1 = 24) ?_
      obtain ⟨T1, h1, X1, e1, E1, A1, D1, -, st1⟩ := newO X0 hx hZ hown (hw _ (List.mem_of_getElem? (i := 0) rfl)) (hw _ (List.mem_of_getElem? (i := 1) rfl)) (hw _ (List.mem_of_getElem? (i := 2) rfl)) e0 (g := (mkF m 24 #[.val (.int pf), .val (.int oo), .val (.int gg), .unset, .unset] [])) rfl (hb hby at_24) (by decide) (by decide)
      obtain ⟨b1, g1⟩ : ∃ z, z = h0.size := ⟨_, rfl⟩
      rw [← g1] at A1 D1 st1
      refine own_W.step st1 ?_
      have g_b1 : n0 ≤ b1 := Nat.le_trans Z0 (Nat.le_of_eq g1.symm)
      have z1 : n0 ≤ h1.size := Nat.le_trans Z0 E1.1
      have F1_owner : Fld Z h1 b1 "com/example/galapagos/galapagos/FileOwners$Taken" "owner" "Z" (.int (0 : Int32)) := D1 (Or.inr (hw _ (List.mem_of_getElem? (i := 15) rfl))) (ty := .boolean) (by decide)
      have F1_group : Fld Z h1 b1 "com/example/galapagos/galapagos/FileOwners$Taken" "group" "Z" (.int (0 : Int32)) := D1 (Or.inr (hw _ (List.mem_of_getElem? (i := 17) rfl))) (ty := .boolean) (by decide)
      show own_W p e (FrameEnd s) below room_1.cells room_1.slots (Q0 Z pf h0 n0) T1 (mkF m 27 #[.val (.int pf), .val (.int oo), .val (.int gg), .unset, .unset] [(.ref b1)])
      refine own_dup X1 hx (hb hby at_27) rfl (rfl : 27 + 1 = 28) ?_
      refine own_iloadN X1 hx (hb hby at_28) (v := oo) rfl (rfl : 28 + 1 = 29) ?_
      refine own_iloadN X1 hx (hb hby at_29) (v := gg) rfl (rfl : 29 + 1 = 30) ?_
      obtain ⟨_, _, ⟨T2, L2, k2, n2⟩, -, X2, ⟨Lc2, hQ2, l2, y2, z2⟩, st2⟩ := X1.specialBack hx (y := (⟨"com/example/galapagos/galapagos/FileOwners$Taken", "<init>", "(ZZ)V"⟩ : MethodName)) rfl hown (mvT hZ (hw _ (List.mem_of_getElem? (i := 3) rfl))) (mvT hZ (hw _ (List.mem_of_getElem? (i := 4) rfl))) (mvT hZ (hw _ (List.mem_of_getElem? (i := 5) rfl))) (by decide) (backOf (W := 1) (rm1 l Z a0 hw [] b1 oo gg  h1 n0 z1 A1 F1_owner F1_group g_b1 (hoo) (hgg)) hZ (hw _ (List.mem_of_getElem? (i := 5) rfl)) (hw _ (List.mem_of_getElem? (i := 2) rfl)) (by decide) (by decide)) (g := (mkF m 30 #[.val (.int pf), .val (.int oo), .val (.int gg), .unset, .unset] [(.int gg), (.int oo), (.ref b1), (.ref b1)])) rfl (by rw [hml]; rfl) (Steps.refl _) (a := b1) (argsL := [(.int oo), (.int gg)]) (rest := [(.ref b1)]) (lenOf own_pd__ZZ_V rfl) rfl (by show 2 * 0 + _ ≤ _; exact Nat.le_of_eq rfl) (hb hby at_30) (fun _ _ => ⟨rfl, e1, (by decide : 1 + 0 ≤ _), (by decide : 2 + 0 ≤ _)⟩)
      dsimp only [Pt.U, Pt.locs, Pt.cells, Pt.slots] at X2 l2 y2 z2 st2 hQ2
      subst l2 y2 z2
      obtain ⟨rfl, N2q, K2, fq2_0, fq2_1, fq2_2⟩ := hQ2
      have N2 := Fr.app N0 N2q
      have f2_E_b1 : Exa Z T2.heap b1 "com/example/galapagos/galapagos/FileOwners$Taken" := A1.keep K2
      have z2c : n0 ≤ T2.heap.size := Nat.le_trans z1 K2.1
      refine own_W.steps st2 ?_
      show own_W p e (FrameEnd s) below room_1.cells room_1.slots (Q0 Z pf h0 n0) T2 (mkF m 33 #[.val (.int pf), .val (.int oo), .val (.int gg), .unset, .unset] [(.ref b1)])
      refine own_astoreN X2 hx (hb hby at_33) (l' := #[.val (.int pf), .val (.int oo), .val (.int gg), .val (.ref b1), .unset]) rfl rfl (rfl : 33 + 1 = 34) ?_
      refine own_iloadN X2 hx (hb hby at_34) (v := oo) rfl (rfl : 34 + 1 = 35) ?_
      have J57 : ∀ (ex : Int32), ∀ (hex : ex = own_both oo gg), own_W p e (FrameEnd s) below room_1.cells room_1.slots (Q0 Z pf h0 n0) T2 (mkF m 57 #[.val (.int pf), .val (.int oo), .val (.int gg), .val (.ref b1), .val (.int ex)] []) := by
        intro ex hex
        refine own_aloadN X2 hx (hb hby at_57) (v := (.ref b1)) rfl rfl (rfl : 57 + 1 = 58) ?_
        obtain ⟨cq3, kq3, q3a, q3b, q3c⟩ := isOf hZ rfl fq2_0
        obtain ⟨_, _, ⟨T3, L3, k3, n3⟩, -, X3, ⟨Lc3, hQ3, l3, y3, z3⟩, st3⟩ := X2.virtualBack hx (y := (⟨"com/example/galapagos/galapagos/FileOwners$Taken", "both", "()Z"⟩ : MethodName)) (z := (⟨"com/example/galapagos/galapagos/FileOwners$Taken", "both", "()Z"⟩ : MethodName)) hown (mvT hZ (hw _ (List.mem_of_getElem? (i := 18) rfl))) (mvT hZ (hw _ (List.mem_of_getElem? (i := 19) rfl))) (notFace_of_selects (args := #[]) (mvT hZ (hw _ (List.mem_of_getElem? (i := 21) rfl)))) (mvT hZ (hw _ (List.mem_of_getElem? (i := 21) rfl))) (mvT hZ (hw _ (List.mem_of_getElem? (i := 20) rfl))) (by decide) (backOf (W := 0) (rm4 l Z a0 hw [] b1 oo gg T2.heap n0 z2c fq2_1 fq2_2) hZ (hw _ (List.mem_of_getElem? (i := 22) rfl)) (hw _ (List.mem_of_getElem? (i := 2) rfl)) (by decide) (by decide)) q3a q3c (g := (mkF m 58 #[.val (.int pf), .val (.int oo), .val (.int gg), .val (.ref b1), .val (.int ex)] [(.ref b1)])) rfl (by rw [hml]; rfl) (Steps.refl _) (argsL := []) (rest := []) (lenOf own_pd___Z rfl) rfl (by show 2 * 0 + _ ≤ _; exact Nat.le_of_eq rfl) (hb hby at_58) (fun _ _ => ⟨rfl, rfl, (by decide : 1 + 0 ≤ _), (by decide : 2 + 0 ≤ _)⟩)
        dsimp only [Pt.U, Pt.locs, Pt.cells, Pt.slots] at X3 l3 y3 z3 st3 hQ3
        subst l3 y3 z3
        obtain ⟨rfl, N3q, e3⟩ := hQ3
        have N3 := Fr.app N2 N3q
        refine own_W.steps st3 ?_
        show own_W p e (FrameEnd s) below room_1.cells room_1.slots (Q0 Z pf h0 n0) T3 (mkF m 61 #[.val (.int pf), .val (.int oo), .val (.int gg), .val (.ref b1), .val (.int ex)] [(.int (own_both oo gg))])
        refine own_iload X3 hx (hb hby at_61) (v := ex) rfl (rfl : 61 + 2 = 63) ?_
        have hc63 : (own_both oo gg) = ex := hex.symm
        refine own_icmpNo X3 hx (hb hby at_63) (teq hc63).2 (rfl : 63 + 3 = 66) ?_
        refine own_aloadN X3 hx (hb hby at_66) (v := (.ref b1)) rfl rfl (rfl : 66 + 1 = 67) ?_
        obtain ⟨cq4, kq4, q4a, q4b, q4c⟩ := isOf hZ e3 fq2_0
        obtain ⟨_, _, ⟨T4, L4, k4, n4⟩, -, X4, ⟨Lc4, hQ4, l4, y4, z4⟩, st4⟩ := X3.virtualBack hx (y := (⟨"com/example/galapagos/galapagos/FileOwners$Taken", "owner", "()Z"⟩ : MethodName)) (z := (⟨"com/example/galapagos/galapagos/FileOwners$Taken", "owner", "()Z"⟩ : MethodName)) hown (mvT hZ (hw _ (List.mem_of_getElem? (i := 23) rfl))) (mvT hZ (hw _ (List.mem_of_getElem? (i := 24) rfl))) (notFace_of_selects (args := #[]) (mvT hZ (hw _ (List.mem_of_getElem? (i := 26) rfl)))) (mvT hZ (hw _ (List.mem_of_getElem? (i := 26) rfl))) (mvT hZ (hw _ (List.mem_of_getElem? (i := 25) rfl))) (by decide) (backOf (W := 0) (rm5 l Z a0 hw [] b1 oo T2.heap n0 z2c fq2_1 (hoo)) hZ (hw _ (List.mem_of_getElem? (i := 27) rfl)) (hw _ (List.mem_of_getElem? (i := 2) rfl)) (by decide) (by decide)) q4a q4c (g := (mkF m 67 #[.val (.int pf), .val (.int oo), .val (.int gg), .val (.ref b1), .val (.int ex)] [(.ref b1)])) rfl (by rw [hml]; rfl) (Steps.refl _) (argsL := []) (rest := []) (lenOf own_pd___Z rfl) rfl (by show 2 * 0 + _ ≤ _; exact Nat.le_of_eq rfl) (hb hby at_67) (fun _ _ => ⟨rfl, e3, (by decide : 1 + 0 ≤ _), (by decide : 2 + 0 ≤ _)⟩)
        dsimp only [Pt.U, Pt.locs, Pt.cells, Pt.slots] at X4 l4 y4 z4 st4 hQ4
        subst l4 y4 z4
        obtain ⟨rfl, N4q, e4⟩ := hQ4
        have N4 := Fr.app N3 N4q
        refine own_W.steps st4 ?_
        show own_W p e (FrameEnd s) below room_1.cells room_1.slots (Q0 Z pf h0 n0) T4 (mkF m 70 #[.val (.int pf), .val (.int oo), .val (.int gg), .val (.ref b1), .val (.int ex)] [(.int oo)])
        refine own_iloadN X4 hx (hb hby at_70) (v := oo) rfl (rfl : 70 + 1 = 71) ?_
        have hc71 : oo = oo := rfl
        refine own_icmpNo X4 hx (hb hby at_71) (teq hc71).2 (rfl : 71 + 3 = 74) ?_
        refine own_aloadN X4 hx (hb hby at_74) (v := (.ref b1)) rfl rfl (rfl : 74 + 1 = 75) ?_
        obtain ⟨cq5, kq5, q5a, q5b, q5c⟩ := isOf hZ e4 fq2_0
        obtain ⟨_, _, ⟨T5, L5, k5, n5⟩, -, X5, ⟨Lc5, hQ5, l5, y5, z5⟩, st5⟩ := X4.virtualBack hx (y := (⟨"com/example/galapagos/galapagos/FileOwners$Taken", "group", "()Z"⟩ : MethodName)) (z := (⟨"com/example/galapagos/galapagos/FileOwners$Taken", "group", "()Z"⟩ : MethodName)) hown (mvT hZ (hw _ (List.mem_of_getElem? (i := 28) rfl))) (mvT hZ (hw _ (List.mem_of_getElem? (i := 29) rfl))) (notFace_of_selects (args := #[]) (mvT hZ (hw _ (List.mem_of_getElem? (i := 31) rfl)))) (mvT hZ (hw _ (List.mem_of_getElem? (i := 31) rfl))) (mvT hZ (hw _ (List.mem_of_getElem? (i := 30) rfl))) (by decide) (backOf (W := 0) (rm6 l Z a0 hw [] b1 gg T2.heap n0 z2c fq2_2 (hgg)) hZ (hw _ (List.mem_of_getElem? (i := 32) rfl)) (hw _ (List.mem_of_getElem? (i := 2) rfl)) (by decide) (by decide)) q5a q5c (g := (mkF m 75 #[.val (.int pf), .val (.int oo), .val (.int gg), .val (.ref b1), .val (.int ex)] [(.ref b1)])) rfl (by rw [hml]; rfl) (Steps.refl _) (argsL := []) (rest := []) (lenOf own_pd___Z rfl) rfl (by show 2 * 0 + _ ≤ _; exact Nat.le_of_eq rfl) (hb hby at_75) (fun _ _ => ⟨rfl, e4, (by decide : 1 + 0 ≤ _), (by decide : 2 + 0 ≤ _)⟩)
        dsimp only [Pt.U, Pt.locs, Pt.cells, Pt.slots] at X5 l5 y5 z5 st5 hQ5
        subst l5 y5 z5
        obtain ⟨rfl, N5q, e5⟩ := hQ5
        have N5 := Fr.app N4 N5q
        refine own_W.steps st5 ?_
        show own_W p e (FrameEnd s) below room_1.cells room_1.slots (Q0 Z pf h0 n0) T5 (mkF m 78 #[.val (.int pf), .val (.int oo), .val (.int gg), .val (.ref b1), .val (.int ex)] [(.int gg)])
        refine own_iloadN X5 hx (hb hby at_78) (v := gg) rfl (rfl : 78 + 1 = 79) ?_
        have hc79 : gg = gg := rfl
        refine own_icmpNo X5 hx (hb hby at_79) (teq hc79).2 (rfl : 79 + 3 = 82) ?_
        refine own_iconst X5 hx (hb hby at_82) (1 : Int32) (by first | rfl | decide) (rfl : 82 + 1 = 83) ?_
        refine own_goto X5 hx (hb hby at_83) (pc' := 87) (by decide) (by decide) ?_
        refine own_retN (t := .boolean) X5 hx hlk hret (by simp) (hb hby at_87) (z' := (1 : Int32)) (by decide) (by decide) (by decide) ?_
        show Q0 Z pf h0 n0 (some (.int (1 : Int32))) T5.heap _
        rw [e5]
        exact ⟨rfl, N5⟩
      by_cases hc35 : oo = (0 : Int32)
      · skip
        refine own_ifYes X2 hx (hb hby at_35) ((if0 _ _).trans (teq hc35).1) (pc' := 54) (by decide) (by decide) ?_
        refine own_iconst X2 hx (hb hby at_54) (0 : Int32) (by first | rfl | decide) (rfl : 54 + 1 = 55) ?_
        refine own_istore X2 hx (hb hby at_55) (l' := #[.val (.int pf), .val (.int oo), .val (.int gg), .val (.ref b1), .val (.int (0 : Int32))]) rfl (rfl : 55 + 2 = 57) ?_
        exact J57 ((0 : Int32))   (by simp only [own_both, if_pos hc35])
      · skip
        refine own_ifNo X2 hx (hb hby at_35) ((if0 _ _).trans (feq hc35).1) (rfl : 35 + 3 = 38) ?_
        refine own_iloadN X2 hx (hb hby at_38) (v := gg) rfl (rfl : 38 + 1 = 39) ?_
        by_cases hc39 : gg = (0 : Int32)
        · skip
          refine own_ifYes X2 hx (hb hby at_39) ((if0 _ _).trans (teq hc39).1) (pc' := 48) (by decide) (by decide) ?_
          refine own_iconst X2 hx (hb hby at_48) (0 : Int32) (by first | rfl | decide) (rfl : 48 + 1 = 49) ?_
          refine own_istore X2 hx (hb hby at_49) (l' := #[.val (.int pf), .val (.int oo), .val (.int gg), .val (.ref b1), .val (.int (0 : Int32))]) rfl (rfl : 49 + 2 = 51) ?_
          refine own_goto X2 hx (hb hby at_51) (pc' := 57) (by decide) (by decide) ?_
          exact J57 ((0 : Int32))   (by simp only [own_both, if_neg hc35, if_pos hc39])
        · skip
          refine own_ifNo X2 hx (hb hby at_39) ((if0 _ _).trans (feq hc39).1) (rfl : 39 + 3 = 42) ?_
          refine own_iconst X2 hx (hb hby at_42) (1 : Int32) (by first | rfl | decide) (rfl : 42 + 1 = 43) ?_
          refine own_istore X2 hx (hb hby at_43) (l' := #[.val (.int pf), .val (.int oo), .val (.int gg), .val (.ref b1), .val (.int (1 : Int32))]) rfl (rfl : 43 + 2 = 45) ?_
          refine own_goto X2 hx (hb hby at_45) (pc' := 57) (by decide) (by decide) ?_
          exact J57 ((1 : Int32))   (by simp only [own_both, if_neg hc35, if_neg hc39])
    by_cases hc15 : (pf &&& (2 : Int32)) = (0 : Int32)
    · skip
      refine own_ifYes X0 hx (hb hby at_15) ((if0 _ _).trans (teq hc15).1) (pc' := 22) (by decide) (by decide) ?_
      refine own_iconst X0 hx (hb hby at_22) (0 : Int32) (by first | rfl | decide) (rfl : 22 + 1 = 23) ?_
      exact J23 ((0 : Int32))   (Or.inl rfl)
    · skip
      refine own_ifNo X0 hx (hb hby at_15) ((if0 _ _).trans (feq hc15).1) (rfl : 15 + 3 = 18) ?_
      refine own_iconst X0 hx (hb hby at_18) (1 : Int32) (by first | rfl | decide) (rfl : 18 + 1 = 19) ?_
      refine own_goto X0 hx (hb hby at_19) (pc' := 23) (by decide) (by decide) ?_
      exact J23 ((1 : Int32))   (Or.inr rfl)
  by_cases hc3 : (pf &&& (1 : Int32)) = (0 : Int32)
  · skip
    refine own_ifYes X0 hx (hb hby at_3) ((if0 _ _).trans (teq hc3).1) (pc' := 10) (by decide) (by decide) ?_
    refine own_iconst X0 hx (hb hby at_10) (0 : Int32) (by first | rfl | decide) (rfl : 10 + 1 = 11) ?_
    exact J11 ((0 : Int32))   (Or.inl rfl)
  · skip
    refine own_ifNo X0 hx (hb hby at_3) ((if0 _ _).trans (feq hc3).1) (rfl : 3 + 3 = 6) ?_
    refine own_iconst X0 hx (hb hby at_6) (1 : Int32) (by first | rfl | decide) (rfl : 6 + 1 = 7) ?_
    refine own_goto X0 hx (hb hby at_7) (pc' := 11) (by decide) (by decide) ?_
    exact J11 ((1 : Int32))   (Or.inr rfl)
set_option maxRecDepth 65536 in
set_option maxHeartbeats 40000000 in
theorem comes_1 {Post : Tables → Env → Array Value → State → Outcome → State → Prop} (hpost : ∀ tb e args s v u, (limb_1_1.after args s (.returned v) u = true ∧ limb_1_2.after args s (.returned v) u = true ∧ True) → FrameEnd s (.returned v) u (Jvm.fieldLocs frame_1_writes args s ++ Jvm.arrayLocs frame_1_arrays args s ++ Jvm.staticLocs frame_1_statics s) 16 128 → Post tb e args s (.returned v) u) :
    ArmFor flags0 classFile x code maxLocals ret World_1 tables_1 room_1 Calls_1 rest_1 Pre_1 Post := by
  intro l hfl _ _ p e ha hc hk s m args below hf hA hF happ hP
  obtain ⟨hcalls, hrest, hpre⟩ := hP
  obtain ⟨-, -, -, hnamed, -, -, -, hat⟩ := (Spec.applies_iff hf).mp happ
  obtain ⟨hg, hn⟩ := and_e (Cond.before_iff.mp (show (Jvm.Cond.and given_1 narrow_1).before args s = true from hpre))
  obtain ⟨hg0, hr0⟩ := and_e hg
  obtain ⟨w0, rfl⟩ : ∃ w0 : Value, args = #[w0] := by
    have hs : args.size = 1 := by simpa [Cond.value, given_1] using hg0
    obtain ⟨L⟩ := args
    match L, hs with
    | [w0], _ => exact ⟨w0, rfl⟩
  have hw := fun d (hd : d ∈ tables_1) => atoms_spec (ws := Jvm.Cond.code x code maxLocals ret :: tables_1) hat d (List.mem_cons_of_mem _ hd)
  obtain ⟨i0, ei0⟩ := is_v hr0
  obtain rfl : w0 = (.int i0) := Option.some.inj ei0
  obtain ⟨n, o, h1, h2, h3, _, L, rfl, ⟨rfl, N⟩, hq⟩ := rm0 l s _ hw tables_1 i0 s.heap s.heap.size (Nat.le_refl _) p e ha hc hk s m _ below hf ((Spec.applies_iff_loose hf).mp happ).1 ⟨rfl, State.Warmed39.refl s, rfl⟩ trivial
  refine ⟨n, _, h1, h2, h3, hpost _ _ _ _ _ _ ⟨Cond.after_iff.mpr rfl, Cond.after_iff.mpr (eq_i res_at (Term.int_eval (1)) rfl), trivial⟩ ⟨hq.1, hq.2.1, (hq.2.2.sift fun y hy => Or.inr (N y hy)).mono (by decide) (by decide)⟩⟩
theorem main_1_1 : Claimed_1_1 := comes_1 fun _ _ _ _ _ _ h hF => ⟨h.1, hF⟩
theorem main_1_2 : Claimed_1_2 := comes_1 fun _ _ _ _ _ _ h hF => ⟨h.2.1, hF⟩
end Jvm.Pilot.@@N@@
namespace Jvm.Pilot.@@N@@
open Jvm Jvm.ClassFile Sem Op Lib Jvm.Free Jvm.Stand Jvm.Pilot.@@N@@.Jvm.D
/-! MADE BY PROGRAM (witnessworld.py) out of the Statement's table words and the real class files: 10 classes; the members and pool entries that the words name. The judged class is class 1, her method 1. -/
namespace start1
open Jvm.ClassFile
def u (s : String) : CpInfo := .utf8 (stringToUtf16 s)
/-- a pool by its gaps: so many unusable entries, then the entry; so many at the end -/
def gap : Nat → List CpInfo → List CpInfo
  | 0, r => r
  | n + 1, r => .unusable :: gap n r
def poolList (es : List (Nat × CpInfo)) (last : Nat) : List CpInfo := es.foldr (fun e r => gap e.1 (e.2 :: r)) (gap last [])
def pool (es : List (Nat × CpInfo)) (last : Nat) : Array CpInfo := ⟨poolList es last⟩
def fileOf (pool : Array CpInfo) (this : Nat) (attrs : Array Attribute := #[]) (ms : Array MethodInfo := #[]) (fl : Nat := 33) (sup : Nat := 0) (ifs : Array Nat := #[]) (fds : Array FieldInfo := #[]) : ClassFile where
  minorVersion := 0
  majorVersion := 65
  constantPool := pool
  accessFlags := fl
  thisClass := this
  superClass := sup
  interfaces := ifs
  fields := fds
  methods := ms
  attributes := attrs
def plain (name : String) (sup : Option ClassId) : Class where
  name := name
  kind := .ordinary
  loader := none
  accessFlags := 33
  super := sup
  interfaces := #[]
  cf := none
  fields := #[]
  methods := #[]
  instanceTypes := #[]
  staticTypes := #[]
  resolved := #[]
  callSites := []
  init := .initialized
  statics := none
  mirror := none

def pool0 : Array CpInfo := pool [(5, u "<init>"), (0, u "()V"), (1, .class_ 10), (1, u "java/lang/Object")] 113

def k0c0 : Code := { maxStack := 0, maxLocals := 1, code := object_method_1_code, exceptionTable := #[], attributes := #[] }
def k0m0 : Method := { name := "<init>", desc := "()V", sig := { parameters := [], returnType := none }, accessFlags := 1, code := some k0c0 }
/-- java/lang/Object -/
def k0 : Class := { plain "java/lang/Object" none with
  accessFlags := 33
  interfaces := #[]
  cf := some (fileOf pool0 8 #[] #[{ accessFlags := 1, nameIndex := 5, descriptorIndex := 6, attributes := #[] }] 33 0 #[] #[])
  fields := #[]
  methods := #[k0m0]
  instanceTypes := #[]
  staticTypes := #[]
  resolved := Array.replicate 124 none
  statics := none }

def pool1 : Array CpInfo := pool [(2, .class_ 4), (1, u "java/lang/Object"), (0, u "<init>"), (0, u "()V"), (0, .class_ 8), (0, u "com/example/galapagos/galapagos/FileOwners$Taken"), (0, .methodref 7 10), (0, .nameAndType 5 11), (0, u "(ZZ)V"), (0, .methodref 7 13), (0, .nameAndType 14 15), (0, u "both"), (0, u "()Z"), (0, .methodref 7 17), (0, .nameAndType 18 15), (0, u "owner"), (0, .methodref 7 20), (0, .nameAndType 21 15), (0, u "group"), (0, .class_ 23), (0, u "com/example/galapagos/galapagos/TakenBothPinLaw"), (2, u "law"), (0, u "(I)Z")] 7

def k1m0 : Method := { name := "<init>", desc := "()V", sig := { parameters := [], returnType := none }, accessFlags := 2, code := none }
def k1c1 : Code := { maxStack := 4, maxLocals := 5, code := code, exceptionTable := #[], attributes := #[] }
def k1m1 : Method := { name := "law", desc := "(I)Z", sig := { parameters := [.int], returnType := some .boolean }, accessFlags := 9, code := some k1c1 }
/-- com/example/galapagos/galapagos/TakenBothPinLaw -/
def k1 : Class := { plain "com/example/galapagos/galapagos/TakenBothPinLaw" (some 0) with
  accessFlags := 49
  interfaces := #[]
  cf := some (fileOf pool1 22 #[] #[{ accessFlags := 2, nameIndex := 5, descriptorIndex := 6, attributes := #[] }, { accessFlags := 9, nameIndex := 26, descriptorIndex := 27, attributes := #[] }] 49 2 #[] #[])
  fields := #[]
  methods := #[k1m0, k1m1]
  instanceTypes := #[]
  staticTypes := #[]
  resolved := Array.replicate 35 none
  statics := none }

def pool2 : Array CpInfo := pool [(1, .methodref 2 3), (0, .class_ 4), (0, .nameAndType 5 6), (0, u "java/lang/Object"), (0, u "<init>"), (0, u "()V"), (0, .class_ 8), (0, u "java/lang/Record")] 13

def k2c0 : Code := { maxStack := 1, maxLocals := 1, code := jdk_30_method_1_code, exceptionTable := #[], attributes := #[] }
def k2m0 : Method := { name := "<init>", desc := "()V", sig := { parameters := [], returnType := none }, accessFlags := 4, code := some k2c0 }
/-- java/lang/Record -/
def k2 : Class := { plain "java/lang/Record" (some 0) with
  accessFlags := 1057
  interfaces := #[]
  cf := some (fileOf pool2 7 #[] #[{ accessFlags := 4, nameIndex := 5, descriptorIndex := 6, attributes := #[] }] 1057 2 #[] #[])
  fields := #[]
  methods := #[k2m0]
  instanceTypes := #[]
  staticTypes := #[]
  resolved := Array.replicate 22 none
  statics := none }

def pool3 : Array CpInfo := pool [(1, .methodref 2 3), (0, .class_ 4), (0, .nameAndType 5 6), (0, u "java/lang/Record"), (0, u "<init>"), (0, u "()V"), (0, .fieldref 8 9), (0, .class_ 10), (0, .nameAndType 11 12), (0, u "com/example/galapagos/galapagos/FileOwners$Taken"), (0, u "owner"), (0, u "Z"), (0, .fieldref 8 14), (0, .nameAndType 15 12), (0, u "group"), (12, u "(ZZ)V"), (3, u "both"), (0, u "()Z"), (7, .class_ 42), (0, u "com/example/galapagos/galapagos/FileOwners")] 20

def k3c0 : Code := { maxStack := 2, maxLocals := 3, code := prog_4_method_1_code, exceptionTable := #[], attributes := #[] }
def k3m0 : Method := { name := "<init>", desc := "(ZZ)V", sig := { parameters := [.boolean, .boolean], returnType := none }, accessFlags := 0, code := some k3c0 }
def k3c1 : Code := { maxStack := 1, maxLocals := 1, code := prog_4_method_2_code, exceptionTable := #[], attributes := #[] }
def k3m1 : Method := { name := "both", desc := "()Z", sig := { parameters := [], returnType := some .boolean }, accessFlags := 0, code := some k3c1 }
def k3c2 : Code := { maxStack := 1, maxLocals := 1, code := prog_4_method_6_code, exceptionTable := #[], attributes := #[] }
def k3m2 : Method := { name := "owner", desc := "()Z", sig := { parameters := [], returnType := some .boolean }, accessFlags := 1, code := some k3c2 }
def k3c3 : Code := { maxStack := 1, maxLocals := 1, code := prog_4_method_7_code, exceptionTable := #[], attributes := #[] }
def k3m3 : Method := { name := "group", desc := "()Z", sig := { parameters := [], returnType := some .boolean }, accessFlags := 1, code := some k3c3 }
/-- com/example/galapagos/galapagos/FileOwners$Taken -/
def k3 : Class := { plain "com/example/galapagos/galapagos/FileOwners$Taken" (some 2) with
  accessFlags := 48
  interfaces := #[]
  cf := some (fileOf pool3 8 #[.nestHost 41] #[{ accessFlags := 0, nameIndex := 5, descriptorIndex := 28, attributes := #[] }, { accessFlags := 0, nameIndex := 32, descriptorIndex := 33, attributes := #[] }, { accessFlags := 1, nameIndex := 11, descriptorIndex := 33, attributes := #[] }, { accessFlags := 1, nameIndex := 15, descriptorIndex := 33, attributes := #[] }] 48 2 #[] #[{ accessFlags := 18, nameIndex := 11, descriptorIndex := 12, attributes := #[] }, { accessFlags := 18, nameIndex := 15, descriptorIndex := 12, attributes := #[] }])
  fields := #[{ name := "owner", type := .boolean, accessFlags := 18, slot := 0, constantValue := 0 }, { name := "group", type := .boolean, accessFlags := 18, slot := 1, constantValue := 0 }]
  methods := #[k3m0, k3m1, k3m2, k3m3]
  instanceTypes := #[.boolean, .boolean]
  staticTypes := #[]
  resolved := Array.replicate 63 none
  statics := none }

def pool4 : Array CpInfo := pool [(1, u "java/lang/Cloneable"), (0, .class_ 1), (0, u "java/lang/Object"), (0, .class_ 3)] 3

/-- java/lang/Cloneable -/
def k4 : Class := { plain "java/lang/Cloneable" (some 0) with
  accessFlags := 1537
  interfaces := #[]
  cf := some (fileOf pool4 2 #[] #[] 1537 4 #[] #[])
  fields := #[]
  methods := #[]
  instanceTypes := #[]
  staticTypes := #[]
  resolved := Array.replicate 8 none
  statics := none }

def pool5 : Array CpInfo := pool [(1, u "java/io/Serializable"), (0, .class_ 1), (0, u "java/lang/Object"), (0, .class_ 3)] 3

/-- java/io/Serializable -/
def k5 : Class := { plain "java/io/Serializable" (some 0) with
  accessFlags := 1537
  interfaces := #[]
  cf := some (fileOf pool5 2 #[] #[] 1537 4 #[] #[])
  fields := #[]
  methods := #[]
  instanceTypes := #[]
  staticTypes := #[]
  resolved := Array.replicate 8 none
  statics := none }

/-- the primitive byte -/
def k6 : Class := { plain "byte" none with kind := .primitive 'B', accessFlags := 0x411 }
/-- [B -/
def k7 : Class := { plain "[B" (some 0) with kind := .array 6 .byte, interfaces := #[4, 5], accessFlags := 1041 }

/-- the primitive int -/
def k8 : Class := { plain "int" none with kind := .primitive 'I', accessFlags := 0x411 }
/-- [I -/
def k9 : Class := { plain "[I" (some 0) with kind := .array 8 .int, interfaces := #[4, 5], accessFlags := 1041 }

def heap : Heap := #[]
def classes : Array Class := #[k0, k1, k2, k3, k4, k5, k6, k7, k8, k9]
def interned : List (Array UInt16 × Addr) := []
def slotsUsed : Nat := 0
def theMethod : MethodId := ⟨1, 1⟩
def args0 : Array Value := #[.int 1]
def aboutOver (below : List Frame) : State where
  vm := { classes := classes, interned := interned.toArray }
  heap := heap
  slotsUsed := slotsUsed
  threads := #[{ frames := .invoking theMethod args0 :: below }]
def below0 : List Frame := [.native { method := ⟨0, 0⟩, args := #[] }]
def about1 : State := aboutOver below0
def p0 : Program := .bare "" "" ""
def e0 : Env := launch0.env 0 0 0
theorem w_frames : about1.frames = Frame.invoking theMethod args0 :: below0 := rfl
set_option maxRecDepth 65536 in
theorem w_args : argsFit about1.vm theMethod args0 = true := by decide +kernel
set_option maxRecDepth 65536 in
theorem w_heap : heapFits about1 = true := by decide +kernel
set_option maxRecDepth 65536 in
theorem w_runnable : about1.curStatus? = some .runnable := by decide +kernel
set_option maxRecDepth 65536 in
theorem w_alone : about1.alone = true := by decide +kernel
set_option maxRecDepth 65536 in
theorem w_named : about1.methodNamed? x = some theMethod := by decide +kernel
set_option maxRecDepth 65536 in
theorem w_hears : about1.hears theMethod below0 = true := by decide +kernel
set_option maxRecDepth 65536 in
theorem w_ripe : about1.ripe theMethod args0 below0 = true := by decide +kernel
theorem w_running : about1.status = .running := rfl
set_option maxRecDepth 65536 in
theorem w_room : about1.hasRoom e0.platform room_1 = true :=
  launch0.hasRoom_least _ room_1 (by decide +kernel) (by decide +kernel) (by decide +kernel) (by decide +kernel) (by decide +kernel) (by decide +kernel)
theorem allAtoms_all (ts : List Jvm.Cond) (a : Array Jvm.Value) (st : Jvm.State) : (allAtoms ts).before a st = ts.all (fun c => c.before a st) := by
  induction ts with
  | nil => rfl
  | cons c t ih =>
    show (Jvm.Cond.and c (allAtoms t)).before a st = _
    rw [Jvm.Cond.before_and, ih, List.all_cons]
def words1 : List Jvm.Cond := Jvm.Cond.code x code maxLocals ret :: tables_1
/-- a 'code' word, met by the world's own term for the bytes: nothing is compared byte by byte -/
theorem code_word {y : MethodName} {bytes : ByteArray} {mx : Nat} {rt : Option FieldType} {a : Array Value} {s : State} {m : MethodId} {meth : Method} {c : Code} (h1 : s.methodNamed? y = some m) (h2 : s.vm.method? m = some meth) (h3 : meth.code = some c) (h4 : c.code = bytes)
    (h5 : (c.maxLocals == mx && c.exceptionTable.isEmpty && decide (c.maxStack ≤ mostOperands) && decide (meth.sig.returnType = rt) && !meth.locks && decide (parseMethodDescriptor y.desc = some meth.sig)) = true) : (Jvm.Cond.code y bytes mx rt).before a s = true := by
  simp only [Bool.and_eq_true, beq_iff_eq, Bool.not_eq_true', decide_eq_true_eq] at h5
  obtain ⟨⟨⟨⟨⟨g1, g2⟩, g3⟩, g4⟩, g5⟩, g6⟩ := h5
  simp [Cond.before, Cond.holds, Cond.value, h1, h2, h3, h4, g1, g2, g3, g4, g5, g6]
def isCode : Jvm.Cond → Bool
  | .code _ _ _ _ => true
  | _ => false
theorem all_split {L : List Jvm.Cond} {P : Jvm.Cond → Bool} (h1 : L.all (fun c => isCode c || P c) = true) (h2 : ∀ c ∈ L.filter isCode, P c = true) : L.all P = true := by
  refine List.all_eq_true.mpr fun c hc => ?_
  have h := List.all_eq_true.mp h1 c hc
  rcases Bool.eq_false_or_eq_true (isCode c) with hi | hi
  · exact h2 c (List.mem_filter.mpr ⟨hc, hi⟩)
  · simpa [hi] using h
set_option maxRecDepth 65536 in
theorem w_c0 : (Jvm.Cond.code x code maxLocals ret).before args0 about1 = true := code_word (m := ⟨1, 1⟩) (meth := k1m1) (c := k1c1) (by decide +kernel) rfl rfl rfl (by decide +kernel)
set_option maxRecDepth 65536 in
theorem w_c1 : (Jvm.Cond.code ({ cls := "com/example/galapagos/galapagos/FileOwners$Taken", name := "<init>", desc := "(ZZ)V" } : Jvm.MethodName) prog_4_method_1_code (3 : Nat) (Option.none : Option Jvm.ClassFile.FieldType)).before args0 about1 = true := code_word (m := ⟨3, 0⟩) (meth := k3m0) (c := k3c0) (by decide +kernel) rfl rfl rfl (by decide +kernel)
set_option maxRecDepth 65536 in
theorem w_c2 : (Jvm.Cond.code ({ cls := "java/lang/Record", name := "<init>", desc := "()V" } : Jvm.MethodName) jdk_30_method_1_code (1 : Nat) (Option.none : Option Jvm.ClassFile.FieldType)).before args0 about1 = true := code_word (m := ⟨2, 0⟩) (meth := k2m0) (c := k2c0) (by decide +kernel) rfl rfl rfl (by decide +kernel)
set_option maxRecDepth 65536 in
theorem w_c3 : (Jvm.Cond.code ({ cls := "java/lang/Object", name := "<init>", desc := "()V" } : Jvm.MethodName) object_method_1_code (1 : Nat) (Option.none : Option Jvm.ClassFile.FieldType)).before args0 about1 = true := code_word (m := ⟨0, 0⟩) (meth := k0m0) (c := k0c0) (by decide +kernel) rfl rfl rfl (by decide +kernel)
set_option maxRecDepth 65536 in
theorem w_c4 : (Jvm.Cond.code ({ cls := "com/example/galapagos/galapagos/FileOwners$Taken", name := "both", desc := "()Z" } : Jvm.MethodName) prog_4_method_2_code (1 : Nat) (Option.some Jvm.ClassFile.FieldType.boolean)).before args0 about1 = true := code_word (m := ⟨3, 1⟩) (meth := k3m1) (c := k3c1) (by decide +kernel) rfl rfl rfl (by decide +kernel)
set_option maxRecDepth 65536 in
theorem w_c5 : (Jvm.Cond.code ({ cls := "com/example/galapagos/galapagos/FileOwners$Taken", name := "owner", desc := "()Z" } : Jvm.MethodName) prog_4_method_6_code (1 : Nat) (Option.some Jvm.ClassFile.FieldType.boolean)).before args0 about1 = true := code_word (m := ⟨3, 2⟩) (meth := k3m2) (c := k3c2) (by decide +kernel) rfl rfl rfl (by decide +kernel)
set_option maxRecDepth 65536 in
theorem w_c6 : (Jvm.Cond.code ({ cls := "com/example/galapagos/galapagos/FileOwners$Taken", name := "group", desc := "()Z" } : Jvm.MethodName) prog_4_method_7_code (1 : Nat) (Option.some Jvm.ClassFile.FieldType.boolean)).before args0 about1 = true := code_word (m := ⟨3, 3⟩) (meth := k3m3) (c := k3c3) (by decide +kernel) rfl rfl rfl (by decide +kernel)
def codes1 : List Jvm.Cond := [Jvm.Cond.code x code maxLocals ret, Jvm.Cond.code ({ cls := "com/example/galapagos/galapagos/FileOwners$Taken", name := "<init>", desc := "(ZZ)V" } : Jvm.MethodName) prog_4_method_1_code (3 : Nat) (Option.none : Option Jvm.ClassFile.FieldType), Jvm.Cond.code ({ cls := "java/lang/Record", name := "<init>", desc := "()V" } : Jvm.MethodName) jdk_30_method_1_code (1 : Nat) (Option.none : Option Jvm.ClassFile.FieldType), Jvm.Cond.code ({ cls := "java/lang/Object", name := "<init>", desc := "()V" } : Jvm.MethodName) object_method_1_code (1 : Nat) (Option.none : Option Jvm.ClassFile.FieldType), Jvm.Cond.code ({ cls := "com/example/galapagos/galapagos/FileOwners$Taken", name := "both", desc := "()Z" } : Jvm.MethodName) prog_4_method_2_code (1 : Nat) (Option.some Jvm.ClassFile.FieldType.boolean), Jvm.Cond.code ({ cls := "com/example/galapagos/galapagos/FileOwners$Taken", name := "owner", desc := "()Z" } : Jvm.MethodName) prog_4_method_6_code (1 : Nat) (Option.some Jvm.ClassFile.FieldType.boolean), Jvm.Cond.code ({ cls := "com/example/galapagos/galapagos/FileOwners$Taken", name := "group", desc := "()Z" } : Jvm.MethodName) prog_4_method_7_code (1 : Nat) (Option.some Jvm.ClassFile.FieldType.boolean)]
set_option maxRecDepth 65536 in
theorem codes_eq : words1.filter isCode = codes1 := rfl
theorem w_codes : ∀ c ∈ words1.filter isCode, c.before args0 about1 = true := by
  rw [codes_eq]
  intro c hc
  simp only [codes1, List.mem_cons, List.not_mem_nil, or_false] at hc
  rcases hc with rfl | rfl | rfl | rfl | rfl | rfl | rfl
  · exact w_c0
  · exact w_c1
  · exact w_c2
  · exact w_c3
  · exact w_c4
  · exact w_c5
  · exact w_c6
set_option maxRecDepth 65536 in
theorem w_t1 : (words1.take 24).all (fun c => isCode c || c.before args0 about1) = true := by decide +kernel
set_option maxRecDepth 65536 in
theorem w_t2 : (words1.drop 24).all (fun c => isCode c || c.before args0 about1) = true := by decide +kernel
theorem w_tables : (allAtoms (Jvm.Cond.code x code maxLocals ret :: tables_1)).before args0 about1 = true := by
  rw [allAtoms_all]
  show words1.all (fun c => c.before args0 about1) = true
  refine all_split ?_ w_codes
  rw [← List.take_append_drop 24 words1, List.all_append, w_t1, w_t2]
  rfl
set_option maxRecDepth 65536 in
theorem w_case : (Jvm.Cond.and given_1 narrow_1).before args0 about1 = true := by decide +kernel
theorem w_applies : (headSpec (Jvm.Cond.code x code maxLocals ret :: tables_1) room_1).applies x e0.platform about1 = true :=
  (Spec.applies_iff w_frames).mpr ⟨w_running, w_runnable, w_alone, w_named, w_hears, w_ripe, w_room, w_tables⟩
theorem atStart : AtStart classFile x code maxLocals ret World_1 tables_1 room_1 Calls_1 rest_1 Pre_1 launch0 p0 e0 about1 theMethod args0 below0 :=
  ⟨lists_1, trivial, launch0.admits_env _ _ _, launch0.least_env, fairChoices_fair.cas, fairChoices_fair.clock, w_frames, w_args, w_heap, w_applies, trivial, trivial, w_case⟩
end start1
theorem witness_1 : WitnessClaimed_1 := ⟨start1.p0, start1.e0, start1.about1, start1.theMethod, start1.args0, start1.below0, start1.atStart⟩
end Jvm.Pilot.@@N@@
