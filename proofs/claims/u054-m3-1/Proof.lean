import JvmDerived
import JvmDerived.Pilot.@@N@@Statement
import JvmDerived.Pilot.@@N@@Code
set_option linter.unusedVariables false
set_option linter.unusedSimpArgs false
namespace Jvm.Pilot.@@N@@
open Jvm Jvm.ClassFile Sem Op Lib Jvm.Free Jvm.Stand Jvm.LawKit Jvm.RoadKit Bundle Jvm.Pilot.@@N@@.Jvm.D
/-! 0. one goal for a walk: from T with the frame g on top the run comes back with what Q says -/
def own_W (p : Program) (e : Env) (En : Outcome → State → List Loc → Nat → Nat → Prop) (below : List Frame) (kc ks : Nat) (Q : Option Value → Heap → List Loc → Prop) (T : State) (g : JFrame) : Prop :=
  ∃ s₂ o, Steps p.tables e below (T.setTop g) s₂ ∧ s₂.status = .running ∧ Ended s₂ below o ∧ ∃ v L, o = .returned v ∧ Q v s₂.heap L ∧ En o s₂ L kc ks
section OwnW
variable {En : Outcome → State → List Loc → Nat → Nat → Prop} {p : Program} {l : Launch} {e : Env} {R : Room} {s : State} {m : MethodId} {args : Array Value} {below : List Frame} {meth : Method} {c : Code} {T T' : State} {locs : List Loc} {cells slots kc ks : Nat} {Q : Option Value → Heap → List Loc → Prop} {g g' : JFrame} {pc pc' : Nat} {Ls : Array Slot} {st rest : List Value} {Z : State} {h h' : Heap} {a b : Addr} {sl : Nat}
theorem own_W.step (k : ∀ t, Steps p.tables e below (T'.setTop g') t → Steps p.tables e below (T.setTop g) t) (w : own_W p e En below kc ks Q T' g') : own_W p e En below kc ks Q T g := by
  obtain ⟨s2, o, h1, h2⟩ := w
  exact ⟨s2, o, k _ h1, h2⟩
theorem own_W.steps (k : Steps p.tables e below (T.setTop g) (T'.setTop g')) (w : own_W p e En below kc ks Q T' g') : own_W p e En below kc ks Q T g := by
  obtain ⟨s2, o, h1, h2⟩ := w
  exact ⟨s2, o, k.trans h1, h2⟩
theorem own_leave (X : Stand p l e R s m args below meth c T locs cells slots) (hlk : meth.locks = false) {v : Option Value} (hv : meth.sig.returnType = none → v = none) (hc : cells ≤ kc) (hs : slots ≤ ks)
    (k : ∀ fs, (∀ (f : JFrame) (acts : List Action), f.method = m → f.locked = none → f.entered = [] → (doReturn e (T.setTop f) acts v).1 = T.setFrames fs) → Steps p.tables e below (T.setTop g) (T.setFrames fs)) (hQ : Q v T.heap locs) : own_W p e (FrameEnd s) below kc ks Q T g := by
  obtain ⟨fs, hr, hrun, hended, hW, hsame⟩ := X.leave (v := v) hv hlk
  exact ⟨_, _, k fs hr, hrun, hended, v, locs, rfl, hQ, ⟨_, rfl⟩, hW, hsame.mono hc hs⟩
theorem own_retV (X : Stand p l e R s m args below meth c T locs cells slots) (hx : p.tables.exec = Jvm.exec) (hlk : meth.locks = false) (hret : meth.sig.returnType = none) (hd : decode c.code pc = .ok (.return_, 1)) (hc : cells ≤ kc) (hs : slots ≤ ks) (hQ : Q none T.heap locs) : own_W p e (FrameEnd s) below kc ks Q T (mkF m pc Ls []) :=
  own_leave X hlk (fun _ => rfl) hc hs (fun fs hr => X.returnOut hx hret hd hr) hQ
theorem own_retN {t : FieldType} (X : Stand p l e R s m args below meth c T locs cells slots) (hx : p.tables.exec = Jvm.exec) (hlk : meth.locks = false) (hret : meth.sig.returnType = some t) (ht : t = .boolean ∨ t = .byte ∨ t = .char ∨ t = .short) (hd : decode c.code pc = .ok (.ireturn, 1)) {z z' : Int32} (hz : nar t z = z') (hc : cells ≤ kc) (hs : slots ≤ ks) (hQ : Q (some (.int z')) T.heap locs) : own_W p e (FrameEnd s) below kc ks Q T (mkF m pc Ls (.int z :: rest)) := by
  subst hz
  exact own_leave X hlk (fun q => by rw [hret] at q; cases q) hc hs (fun fs hr => retN X hx hret ht hd hr) hQ
theorem own_retI (X : Stand p l e R s m args below meth c T locs cells slots) (hx : p.tables.exec = Jvm.exec) (hlk : meth.locks = false) (hret : meth.sig.returnType = some .int) (hd : decode c.code pc = .ok (.ireturn, 1)) {z : Int32} (hc : cells ≤ kc) (hs : slots ≤ ks) (hQ : Q (some (.int z)) T.heap locs) : own_W p e (FrameEnd s) below kc ks Q T (mkF m pc Ls (.int z :: rest)) :=
  own_leave X hlk (fun q => by rw [hret] at q; cases q) hc hs (fun fs hr => retOut X hx (t := .int) (w := .int z) (i := .ireturn) hret rfl (Or.inl ⟨rfl, Or.inl rfl, z, rfl⟩) hd hr) hQ
theorem own_retJ (X : Stand p l e R s m args below meth c T locs cells slots) (hx : p.tables.exec = Jvm.exec) (hlk : meth.locks = false) (hret : meth.sig.returnType = some .long) (hd : decode c.code pc = .ok (.lreturn, 1)) {z : Int64} (hc : cells ≤ kc) (hs : slots ≤ ks) (hQ : Q (some (.long z)) T.heap locs) : own_W p e (FrameEnd s) below kc ks Q T (mkF m pc Ls (.long z :: rest)) :=
  own_leave X hlk (fun q => by rw [hret] at q; cases q) hc hs (fun fs hr => retOut X hx (t := .long) (w := .long z) (i := .lreturn) hret rfl (Or.inr (Or.inl ⟨rfl, rfl, z, rfl⟩)) hd hr) hQ
theorem own_retA {t : FieldType} (X : Stand p l e R s m args below meth c T locs cells slots) (hx : p.tables.exec = Jvm.exec) (hlk : meth.locks = false) (hret : meth.sig.returnType = some t) (hn : narrow t (.ref a) = .ref a) (ht : t.isReference = true) (hd : decode c.code pc = .ok (.areturn, 1)) (hc : cells ≤ kc) (hs : slots ≤ ks) (hQ : Q (some (.ref a)) T.heap locs) : own_W p e (FrameEnd s) below kc ks Q T (mkF m pc Ls (.ref a :: rest)) :=
  own_leave X hlk (fun q => by rw [hret] at q; cases q) hc hs (fun fs hr => retOut X hx (t := t) (w := .ref a) (i := .areturn) hret hn (Or.inr (Or.inr (Or.inr (Or.inr ⟨rfl, ht, rfl⟩)))) hd hr) hQ
theorem own_iload (X : Stand p l e R s m args below meth c T locs cells slots) (hx : p.tables.exec = Jvm.exec) {k : Nat} {v : Int32} (hd : decode c.code pc = .ok (.iload k, 2)) (hl : Ls[k]? = some (.val (.int v))) (hp : pc + 2 = pc') (w : own_W p e En below kc ks Q T (mkF m pc' Ls (.int v :: st))) : own_W p e En below kc ks Q T (mkF m pc Ls (st)) := by
  subst hp; exact own_W.step (fun _ q => XS.iload X.here hx rfl hd hl q) w
theorem own_iloadN (X : Stand p l e R s m args below meth c T locs cells slots) (hx : p.tables.exec = Jvm.exec) {k : Fin 4} {v : Int32} (hd : decode c.code pc = .ok (.iload_n k, 1)) (hl : Ls[k.val]? = some (.val (.int v))) (hp : pc + 1 = pc') (w : own_W p e En below kc ks Q T (mkF m pc' Ls (.int v :: st))) : own_W p e En below kc ks Q T (mkF m pc Ls (st)) := by
  subst hp; exact own_W.step (fun _ q => XS.iloadN X.here hx rfl hd hl q) w
theorem own_lload (X : Stand p l e R s m args below meth c T locs cells slots) (hx : p.tables.exec = Jvm.exec) {k : Nat} {v : Int64} (hd : decode c.code pc = .ok (.lload k, 2)) (hl : Ls[k]? = some (.val (.long v))) (hp : pc + 2 = pc') (w : own_W p e En below kc ks Q T (mkF m pc' Ls (.long v :: st))) : own_W p e En below kc ks Q T (mkF m pc Ls (st)) := by
  subst hp; exact own_W.step (fun _ q => XS.lload X.here hx rfl hd hl q) w
theorem own_lloadN (X : Stand p l e R s m args below meth c T locs cells slots) (hx : p.tables.exec = Jvm.exec) {k : Fin 4} {v : Int64} (hd : decode c.code pc = .ok (.lload_n k, 1)) (hl : Ls[k.val]? = some (.val (.long v))) (hp : pc + 1 = pc') (w : own_W p e En below kc ks Q T (mkF m pc' Ls (.long v :: st))) : own_W p e En below kc ks Q T (mkF m pc Ls (st)) := by
  subst hp; exact own_W.step (fun _ q => XS.lloadN X.here hx rfl hd hl q) w
theorem own_aload (X : Stand p l e R s m args below meth c T locs cells slots) (hx : p.tables.exec = Jvm.exec) {k : Nat} {v : Value} (hd : decode c.code pc = .ok (.aload k, 2)) (hl : Ls[k]? = some (.val v)) (hv : v.isRef = true) (hp : pc + 2 = pc') (w : own_W p e En below kc ks Q T (mkF m pc' Ls (v :: st))) : own_W p e En below kc ks Q T (mkF m pc Ls (st)) := by
  subst hp; exact own_W.step (fun _ q => XS.aload X.here hx rfl hd hl hv q) w
theorem own_aloadN (X : Stand p l e R s m args below meth c T locs cells slots) (hx : p.tables.exec = Jvm.exec) {k : Fin 4} {v : Value} (hd : decode c.code pc = .ok (.aload_n k, 1)) (hl : Ls[k.val]? = some (.val v)) (hv : v.isRef = true) (hp : pc + 1 = pc') (w : own_W p e En below kc ks Q T (mkF m pc' Ls (v :: st))) : own_W p e En below kc ks Q T (mkF m pc Ls (st)) := by
  subst hp; exact own_W.step (fun _ q => XS.aloadN X.here hx rfl hd hl hv q) w
theorem own_istore (X : Stand p l e R s m args below meth c T locs cells slots) (hx : p.tables.exec = Jvm.exec) {k : Nat} {v : Int32} {l' : Array Slot} (hd : decode c.code pc = .ok (.istore k, 2)) (hl : storeLocals Ls k (.int v) = some l') (hp : pc + 2 = pc') (w : own_W p e En below kc ks Q T (mkF m pc' l' (st))) : own_W p e En below kc ks Q T (mkF m pc Ls (.int v :: st)) := by
  subst hp; exact own_W.step (fun _ q => XS.istore X.here hx rfl hd rfl hl q) w
theorem own_istoreN (X : Stand p l e R s m args below meth c T locs cells slots) (hx : p.tables.exec = Jvm.exec) {k : Fin 4} {v : Int32} {l' : Array Slot} (hd : decode c.code pc = .ok (.istore_n k, 1)) (hl : storeLocals Ls k.val (.int v) = some l') (hp : pc + 1 = pc') (w : own_W p e En below kc ks Q T (mkF m pc' l' (st))) : own_W p e En below kc ks Q T (mkF m pc Ls (.int v :: st)) := by
  subst hp; exact own_W.step (fun _ q => XS.istoreN X.here hx rfl hd rfl hl q) w
theorem own_lstore (X : Stand p l e R s m args below meth c T locs cells slots) (hx : p.tables.exec = Jvm.exec) {k : Nat} {v : Int64} {l' : Array Slot} (hd : decode c.code pc = .ok (.lstore k, 2)) (hl : storeLocals Ls k (.long v) = some l') (hp : pc + 2 = pc') (w : own_W p e En below kc ks Q T (mkF m pc' l' (st))) : own_W p e En below kc ks Q T (mkF m pc Ls (.long v :: st)) := by
  subst hp; exact own_W.step (fun _ q => XS.lstore X.here hx rfl hd rfl hl q) w
theorem own_lstoreN (X : Stand p l e R s m args below meth c T locs cells slots) (hx : p.tables.exec = Jvm.exec) {k : Fin 4} {v : Int64} {l' : Array Slot} (hd : decode c.code pc = .ok (.lstore_n k, 1)) (hl : storeLocals Ls k.val (.long v) = some l') (hp : pc + 1 = pc') (w : own_W p e En below kc ks Q T (mkF m pc' l' (st))) : own_W p e En below kc ks Q T (mkF m pc Ls (.long v :: st)) := by
  subst hp; exact own_W.step (fun _ q => XS.lstoreN X.here hx rfl hd rfl hl q) w
theorem own_astore (X : Stand p l e R s m args below meth c T locs cells slots) (hx : p.tables.exec = Jvm.exec) {k : Nat} {v : Value} {l' : Array Slot} (hd : decode c.code pc = .ok (.astore k, 2)) (hv : v.isRef = true) (hl : storeLocals Ls k v = some l') (hp : pc + 2 = pc') (w : own_W p e En below kc ks Q T (mkF m pc' l' (st))) : own_W p e En below kc ks Q T (mkF m pc Ls (v :: st)) := by
  subst hp; exact own_W.step (fun _ q => XS.astore X.here hx rfl hd rfl hv hl q) w
theorem own_astoreN (X : Stand p l e R s m args below meth c T locs cells slots) (hx : p.tables.exec = Jvm.exec) {k : Fin 4} {v : Value} {l' : Array Slot} (hd : decode c.code pc = .ok (.astore_n k, 1)) (hv : v.isRef = true) (hl : storeLocals Ls k.val v = some l') (hp : pc + 1 = pc') (w : own_W p e En below kc ks Q T (mkF m pc' l' (st))) : own_W p e En below kc ks Q T (mkF m pc Ls (v :: st)) := by
  subst hp; exact own_W.step (fun _ q => XS.astoreN X.here hx rfl hd rfl hv hl q) w
theorem own_iconst (X : Stand p l e R s m args below meth c T locs cells slots) (hx : p.tables.exec = Jvm.exec) {i : Int} (hd : decode c.code pc = .ok (.iconst i, 1)) (v : Int32) (hv : Int32.ofInt i = v) (hp : pc + 1 = pc') (w : own_W p e En below kc ks Q T (mkF m pc' Ls (.int v :: st))) : own_W p e En below kc ks Q T (mkF m pc Ls (st)) := by
  subst hp; exact own_W.step (fun _ q => XT.iconstV X.here hx rfl v hd hv q) w
theorem own_bipush (X : Stand p l e R s m args below meth c T locs cells slots) (hx : p.tables.exec = Jvm.exec) {i : Int} (hd : decode c.code pc = .ok (.bipush i, 2)) (v : Int32) (hv : (Int8.ofInt i).toInt32 = v) (hp : pc + 2 = pc') (w : own_W p e En below kc ks Q T (mkF m pc' Ls (.int v :: st))) : own_W p e En below kc ks Q T (mkF m pc Ls (st)) := by
  subst hp; exact own_W.step (fun _ q => XT.bipushV X.here hx rfl v hd hv q) w
theorem own_sipush (X : Stand p l e R s m args below meth c T locs cells slots) (hx : p.tables.exec = Jvm.exec) {i : Int} (hd : decode c.code pc = .ok (.sipush i, 3)) (v : Int32) (hv : (Int16.ofInt i).toInt32 = v) (hp : pc + 3 = pc') (w : own_W p e En below kc ks Q T (mkF m pc' Ls (.int v :: st))) : own_W p e En below kc ks Q T (mkF m pc Ls (st)) := by
  subst hp; exact own_W.step (fun _ q => XT.sipushV X.here hx rfl v hd hv q) w
theorem own_lconst (X : Stand p l e R s m args below meth c T locs cells slots) (hx : p.tables.exec = Jvm.exec) {k : Fin 2} (hd : decode c.code pc = .ok (.lconst k, 1)) (v : Int64) (hv : Int64.ofNat k = v) (hp : pc + 1 = pc') (w : own_W p e En below kc ks Q T (mkF m pc' Ls (.long v :: st))) : own_W p e En below kc ks Q T (mkF m pc Ls (st)) := by
  subst hp; exact own_W.step (fun _ q => XT.lconstV X.here hx rfl v hd hv q) w
theorem own_aconstNull (X : Stand p l e R s m args below meth c T locs cells slots) (hx : p.tables.exec = Jvm.exec)  (hd : decode c.code pc = .ok (.aconst_null, 1))  (hp : pc + 1 = pc') (w : own_W p e En below kc ks Q T (mkF m pc' Ls (.null :: st))) : own_W p e En below kc ks Q T (mkF m pc Ls (st)) := by
  subst hp; exact own_W.step (fun _ q => XS.aconstNull X.here hx rfl hd q) w
theorem own_ldcInt (X : Stand p l e R s m args below meth c T locs cells slots) (hx : p.tables.exec = Jvm.exec) {own : String} {index : Nat} {v : Int32} (hown : s.vm.findClass own = some m.cls) (hk : (Jvm.Cond.constant own index v).before args s = true) (hd : decode c.code pc = .ok (.ldc index, 2)) (hp : pc + 2 = pc') (w : own_W p e En below kc ks Q T (mkF m pc' Ls (.int v :: st))) : own_W p e En below kc ks Q T (mkF m pc Ls st) := by
  subst hp; exact own_W.step (X.ldcInt hx hown hk (g := mkF m pc Ls st) rfl hd) w
theorem own_ldcwInt (X : Stand p l e R s m args below meth c T locs cells slots) (hx : p.tables.exec = Jvm.exec) {own : String} {index : Nat} {v : Int32} (hown : s.vm.findClass own = some m.cls) (hk : (Jvm.Cond.constant own index v).before args s = true) (hd : decode c.code pc = .ok (.ldc_w index, 3)) (hp : pc + 3 = pc') (w : own_W p e En below kc ks Q T (mkF m pc' Ls (.int v :: st))) : own_W p e En below kc ks Q T (mkF m pc Ls st) := by
  subst hp; exact own_W.step (X.ldcwInt hx hown hk (g := mkF m pc Ls st) rfl hd) w
theorem own_ldc2Long (X : Stand p l e R s m args below meth c T locs cells slots) (hx : p.tables.exec = Jvm.exec) {own : String} {index : Nat} {v : Int64} (hown : s.vm.findClass own = some m.cls) (hk : (Jvm.Cond.constantLong own index v).before args s = true) (hd : decode c.code pc = .ok (.ldc2_w index, 3)) (hp : pc + 3 = pc') (w : own_W p e En below kc ks Q T (mkF m pc' Ls (.long v :: st))) : own_W p e En below kc ks Q T (mkF m pc Ls st) := by
  subst hp; exact own_W.step (X.ldc2Long hx hown hk (g := mkF m pc Ls st) rfl hd) w
theorem own_iadd (X : Stand p l e R s m args below meth c T locs cells slots) (hx : p.tables.exec = Jvm.exec) {x y : Int32} (hd : decode c.code pc = .ok (.iadd, 1))  (hp : pc + 1 = pc') (w : own_W p e En below kc ks Q T (mkF m pc' Ls (.int (x + y) :: st))) : own_W p e En below kc ks Q T (mkF m pc Ls (.int y :: .int x :: st)) := by
  subst hp; exact own_W.step (fun _ q => XS.iadd X.here hx rfl hd rfl q) w
theorem own_ladd (X : Stand p l e R s m args below meth c T locs cells slots) (hx : p.tables.exec = Jvm.exec) {x y : Int64} (hd : decode c.code pc = .ok (.ladd, 1))  (hp : pc + 1 = pc') (w : own_W p e En below kc ks Q T (mkF m pc' Ls (.long (x + y) :: st))) : own_W p e En below kc ks Q T (mkF m pc Ls (.long y :: .long x :: st)) := by
  subst hp; exact own_W.step (fun _ q => XS.ladd X.here hx rfl hd rfl q) w
theorem own_isub (X : Stand p l e R s m args below meth c T locs cells slots) (hx : p.tables.exec = Jvm.exec) {x y : Int32} (hd : decode c.code pc = .ok (.isub, 1))  (hp : pc + 1 = pc') (w : own_W p e En below kc ks Q T (mkF m pc' Ls (.int (x - y) :: st))) : own_W p e En below kc ks Q T (mkF m pc Ls (.int y :: .int x :: st)) := by
  subst hp; exact own_W.step (fun _ q => XS.isub X.here hx rfl hd rfl q) w
theorem own_lsub (X : Stand p l e R s m args below meth c T locs cells slots) (hx : p.tables.exec = Jvm.exec) {x y : Int64} (hd : decode c.code pc = .ok (.lsub, 1))  (hp : pc + 1 = pc') (w : own_W p e En below kc ks Q T (mkF m pc' Ls (.long (x - y) :: st))) : own_W p e En below kc ks Q T (mkF m pc Ls (.long y :: .long x :: st)) := by
  subst hp; exact own_W.step (fun _ q => XS.lsub X.here hx rfl hd rfl q) w
theorem own_imul (X : Stand p l e R s m args below meth c T locs cells slots) (hx : p.tables.exec = Jvm.exec) {x y : Int32} (hd : decode c.code pc = .ok (.imul, 1))  (hp : pc + 1 = pc') (w : own_W p e En below kc ks Q T (mkF m pc' Ls (.int (x * y) :: st))) : own_W p e En below kc ks Q T (mkF m pc Ls (.int y :: .int x :: st)) := by
  subst hp; exact own_W.step (fun _ q => XS.imul X.here hx rfl hd rfl q) w
theorem own_lmul (X : Stand p l e R s m args below meth c T locs cells slots) (hx : p.tables.exec = Jvm.exec) {x y : Int64} (hd : decode c.code pc = .ok (.lmul, 1))  (hp : pc + 1 = pc') (w : own_W p e En below kc ks Q T (mkF m pc' Ls (.long (x * y) :: st))) : own_W p e En below kc ks Q T (mkF m pc Ls (.long y :: .long x :: st)) := by
  subst hp; exact own_W.step (fun _ q => XS.lmul X.here hx rfl hd rfl q) w
theorem own_iand (X : Stand p l e R s m args below meth c T locs cells slots) (hx : p.tables.exec = Jvm.exec) {x y : Int32} (hd : decode c.code pc = .ok (.iand, 1))  (hp : pc + 1 = pc') (w : own_W p e En below kc ks Q T (mkF m pc' Ls (.int (x &&& y) :: st))) : own_W p e En below kc ks Q T (mkF m pc Ls (.int y :: .int x :: st)) := by
  subst hp; exact own_W.step (fun _ q => XS.iand X.here hx rfl hd rfl q) w
theorem own_land (X : Stand p l e R s m args below meth c T locs cells slots) (hx : p.tables.exec = Jvm.exec) {x y : Int64} (hd : decode c.code pc = .ok (.land, 1))  (hp : pc + 1 = pc') (w : own_W p e En below kc ks Q T (mkF m pc' Ls (.long (x &&& y) :: st))) : own_W p e En below kc ks Q T (mkF m pc Ls (.long y :: .long x :: st)) := by
  subst hp; exact own_W.step (fun _ q => XS.land X.here hx rfl hd rfl q) w
theorem own_ior (X : Stand p l e R s m args below meth c T locs cells slots) (hx : p.tables.exec = Jvm.exec) {x y : Int32} (hd : decode c.code pc = .ok (.ior, 1))  (hp : pc + 1 = pc') (w : own_W p e En below kc ks Q T (mkF m pc' Ls (.int (x ||| y) :: st))) : own_W p e En below kc ks Q T (mkF m pc Ls (.int y :: .int x :: st)) := by
  subst hp; exact own_W.step (fun _ q => XS.ior X.here hx rfl hd rfl q) w
theorem own_lor (X : Stand p l e R s m args below meth c T locs cells slots) (hx : p.tables.exec = Jvm.exec) {x y : Int64} (hd : decode c.code pc = .ok (.lor, 1))  (hp : pc + 1 = pc') (w : own_W p e En below kc ks Q T (mkF m pc' Ls (.long (x ||| y) :: st))) : own_W p e En below kc ks Q T (mkF m pc Ls (.long y :: .long x :: st)) := by
  subst hp; exact own_W.step (fun _ q => XS.lor X.here hx rfl hd rfl q) w
theorem own_ixor (X : Stand p l e R s m args below meth c T locs cells slots) (hx : p.tables.exec = Jvm.exec) {x y : Int32} (hd : decode c.code pc = .ok (.ixor, 1))  (hp : pc + 1 = pc') (w : own_W p e En below kc ks Q T (mkF m pc' Ls (.int (x ^^^ y) :: st))) : own_W p e En below kc ks Q T (mkF m pc Ls (.int y :: .int x :: st)) := by
  subst hp; exact own_W.step (fun _ q => XS.ixor X.here hx rfl hd rfl q) w
theorem own_lxor (X : Stand p l e R s m args below meth c T locs cells slots) (hx : p.tables.exec = Jvm.exec) {x y : Int64} (hd : decode c.code pc = .ok (.lxor, 1))  (hp : pc + 1 = pc') (w : own_W p e En below kc ks Q T (mkF m pc' Ls (.long (x ^^^ y) :: st))) : own_W p e En below kc ks Q T (mkF m pc Ls (.long y :: .long x :: st)) := by
  subst hp; exact own_W.step (fun _ q => XS.lxor X.here hx rfl hd rfl q) w
theorem own_idiv (X : Stand p l e R s m args below meth c T locs cells slots) (hx : p.tables.exec = Jvm.exec) {x y : Int32} (hd : decode c.code pc = .ok (.idiv, 1)) (hy : y ≠ 0) (hp : pc + 1 = pc') (w : own_W p e En below kc ks Q T (mkF m pc' Ls (.int (x / y) :: st))) : own_W p e En below kc ks Q T (mkF m pc Ls (.int y :: .int x :: st)) := by
  subst hp; exact own_W.step (fun _ q => XS.idiv X.here hx rfl hd rfl hy q) w
theorem own_ldiv (X : Stand p l e R s m args below meth c T locs cells slots) (hx : p.tables.exec = Jvm.exec) {x y : Int64} (hd : decode c.code pc = .ok (.ldiv, 1)) (hy : y ≠ 0) (hp : pc + 1 = pc') (w : own_W p e En below kc ks Q T (mkF m pc' Ls (.long (x / y) :: st))) : own_W p e En below kc ks Q T (mkF m pc Ls (.long y :: .long x :: st)) := by
  subst hp; exact own_W.step (fun _ q => XS.ldiv X.here hx rfl hd rfl hy q) w
theorem own_irem (X : Stand p l e R s m args below meth c T locs cells slots) (hx : p.tables.exec = Jvm.exec) {x y : Int32} (hd : decode c.code pc = .ok (.irem, 1)) (hy : y ≠ 0) (hp : pc + 1 = pc') (w : own_W p e En below kc ks Q T (mkF m pc' Ls (.int (x % y) :: st))) : own_W p e En below kc ks Q T (mkF m pc Ls (.int y :: .int x :: st)) := by
  subst hp; exact own_W.step (fun _ q => iremM X hx rfl hd rfl hy q) w
theorem own_lrem (X : Stand p l e R s m args below meth c T locs cells slots) (hx : p.tables.exec = Jvm.exec) {x y : Int64} (hd : decode c.code pc = .ok (.lrem, 1)) (hy : y ≠ 0) (hp : pc + 1 = pc') (w : own_W p e En below kc ks Q T (mkF m pc' Ls (.long (x % y) :: st))) : own_W p e En below kc ks Q T (mkF m pc Ls (.long y :: .long x :: st)) := by
  subst hp; exact own_W.step (fun _ q => XS.lrem X.here hx rfl hd rfl hy (by rw [lrem_mod]; exact q)) w
theorem own_ineg (X : Stand p l e R s m args below meth c T locs cells slots) (hx : p.tables.exec = Jvm.exec) {x : Int32} (hd : decode c.code pc = .ok (.ineg, 1))  (hp : pc + 1 = pc') (w : own_W p e En below kc ks Q T (mkF m pc' Ls (.int (-x) :: st))) : own_W p e En below kc ks Q T (mkF m pc Ls (.int x :: st)) := by
  subst hp; exact own_W.step (fun _ q => XS.ineg X.here hx rfl hd rfl q) w
theorem own_lneg (X : Stand p l e R s m args below meth c T locs cells slots) (hx : p.tables.exec = Jvm.exec) {x : Int64} (hd : decode c.code pc = .ok (.lneg, 1))  (hp : pc + 1 = pc') (w : own_W p e En below kc ks Q T (mkF m pc' Ls (.long (-x) :: st))) : own_W p e En below kc ks Q T (mkF m pc Ls (.long x :: st)) := by
  subst hp; exact own_W.step (fun _ q => XS.lneg X.here hx rfl hd rfl q) w
theorem own_i2l (X : Stand p l e R s m args below meth c T locs cells slots) (hx : p.tables.exec = Jvm.exec) {x : Int32} (hd : decode c.code pc = .ok (.i2l, 1))  (hp : pc + 1 = pc') (w : own_W p e En below kc ks Q T (mkF m pc' Ls (.long (x.toInt64) :: st))) : own_W p e En below kc ks Q T (mkF m pc Ls (.int x :: st)) := by
  subst hp; exact own_W.step (fun _ q => XS.i2l X.here hx rfl hd rfl q) w
theorem own_l2i (X : Stand p l e R s m args below meth c T locs cells slots) (hx : p.tables.exec = Jvm.exec) {x : Int64} (hd : decode c.code pc = .ok (.l2i, 1))  (hp : pc + 1 = pc') (w : own_W p e En below kc ks Q T (mkF m pc' Ls (.int (x.toInt32) :: st))) : own_W p e En below kc ks Q T (mkF m pc Ls (.long x :: st)) := by
  subst hp; exact own_W.step (fun _ q => XS.l2i X.here hx rfl hd rfl q) w
theorem own_i2b (X : Stand p l e R s m args below meth c T locs cells slots) (hx : p.tables.exec = Jvm.exec) {x : Int32} (hd : decode c.code pc = .ok (.i2b, 1))  (hp : pc + 1 = pc') (w : own_W p e En below kc ks Q T (mkF m pc' Ls (.int (x.toInt8.toInt32) :: st))) : own_W p e En below kc ks Q T (mkF m pc Ls (.int x :: st)) := by
  subst hp; exact own_W.step (fun _ q => XS.i2b X.here hx rfl hd rfl q) w
theorem own_i2s (X : Stand p l e R s m args below meth c T locs cells slots) (hx : p.tables.exec = Jvm.exec) {x : Int32} (hd : decode c.code pc = .ok (.i2s, 1))  (hp : pc + 1 = pc') (w : own_W p e En below kc ks Q T (mkF m pc' Ls (.int (x.toInt16.toInt32) :: st))) : own_W p e En below kc ks Q T (mkF m pc Ls (.int x :: st)) := by
  subst hp; exact own_W.step (fun _ q => XS.i2s X.here hx rfl hd rfl q) w
theorem own_i2c (X : Stand p l e R s m args below meth c T locs cells slots) (hx : p.tables.exec = Jvm.exec) {x : Int32} (hd : decode c.code pc = .ok (.i2c, 1))  (hp : pc + 1 = pc') (w : own_W p e En below kc ks Q T (mkF m pc' Ls (.int (x.toUInt32.toUInt16.toUInt32.toInt32) :: st))) : own_W p e En below kc ks Q T (mkF m pc Ls (.int x :: st)) := by
  subst hp; exact own_W.step (fun _ q => XS.i2c X.here hx rfl hd rfl q) w
theorem own_ishl (X : Stand p l e R s m args below meth c T locs cells slots) (hx : p.tables.exec = Jvm.exec) {x y : Int32} (hd : decode c.code pc = .ok (.ishl, 1))  (hp : pc + 1 = pc') (w : own_W p e En below kc ks Q T (mkF m pc' Ls (.int (x <<< (y &&& 31)) :: st))) : own_W p e En below kc ks Q T (mkF m pc Ls (.int y :: .int x :: st)) := by
  subst hp; exact own_W.step (fun _ q => XS.ishl X.here hx rfl hd rfl q) w
theorem own_ishr (X : Stand p l e R s m args below meth c T locs cells slots) (hx : p.tables.exec = Jvm.exec) {x y : Int32} (hd : decode c.code pc = .ok (.ishr, 1))  (hp : pc + 1 = pc') (w : own_W p e En below kc ks Q T (mkF m pc' Ls (.int (x >>> (y &&& 31)) :: st))) : own_W p e En below kc ks Q T (mkF m pc Ls (.int y :: .int x :: st)) := by
  subst hp; exact own_W.step (fun _ q => XS.ishr X.here hx rfl hd rfl q) w
theorem own_iushr (X : Stand p l e R s m args below meth c T locs cells slots) (hx : p.tables.exec = Jvm.exec) {x y : Int32} (hd : decode c.code pc = .ok (.iushr, 1))  (hp : pc + 1 = pc') (w : own_W p e En below kc ks Q T (mkF m pc' Ls (.int ((x.toUInt32 >>> (y &&& 31).toUInt32).toInt32) :: st))) : own_W p e En below kc ks Q T (mkF m pc Ls (.int y :: .int x :: st)) := by
  subst hp; exact own_W.step (fun _ q => XS.iushr X.here hx rfl hd rfl q) w
theorem own_lshl (X : Stand p l e R s m args below meth c T locs cells slots) (hx : p.tables.exec = Jvm.exec) {x : Int64} {y : Int32} (hd : decode c.code pc = .ok (.lshl, 1))  (hp : pc + 1 = pc') (w : own_W p e En below kc ks Q T (mkF m pc' Ls (.long (x <<< (y &&& 0x3f).toInt64) :: st))) : own_W p e En below kc ks Q T (mkF m pc Ls (.int y :: .long x :: st)) := by
  subst hp; exact own_W.step (fun _ q => XS.lshl X.here hx rfl hd rfl q) w
theorem own_lshr (X : Stand p l e R s m args below meth c T locs cells slots) (hx : p.tables.exec = Jvm.exec) {x : Int64} {y : Int32} (hd : decode c.code pc = .ok (.lshr, 1))  (hp : pc + 1 = pc') (w : own_W p e En below kc ks Q T (mkF m pc' Ls (.long (x >>> (y &&& 0x3f).toInt64) :: st))) : own_W p e En below kc ks Q T (mkF m pc Ls (.int y :: .long x :: st)) := by
  subst hp; exact own_W.step (fun _ q => XS.lshr X.here hx rfl hd rfl q) w
theorem own_lushr (X : Stand p l e R s m args below meth c T locs cells slots) (hx : p.tables.exec = Jvm.exec) {x : Int64} {y : Int32} (hd : decode c.code pc = .ok (.lushr, 1))  (hp : pc + 1 = pc') (w : own_W p e En below kc ks Q T (mkF m pc' Ls (.long ((x.toUInt64 >>> (y &&& 0x3f).toInt64.toUInt64).toInt64) :: st))) : own_W p e En below kc ks Q T (mkF m pc Ls (.int y :: .long x :: st)) := by
  subst hp; exact own_W.step (fun _ q => XS.lushr X.here hx rfl hd rfl q) w
theorem own_lcmp (X : Stand p l e R s m args below meth c T locs cells slots) (hx : p.tables.exec = Jvm.exec) {x y : Int64} (hd : decode c.code pc = .ok (.lcmp, 1))  (hp : pc + 1 = pc') (w : own_W p e En below kc ks Q T (mkF m pc' Ls (.int (XT.cmpL x y) :: st))) : own_W p e En below kc ks Q T (mkF m pc Ls (.long y :: .long x :: st)) := by
  subst hp; exact own_W.step (fun _ q => XT.lcmp X.here hx rfl hd rfl q) w
theorem own_iinc (X : Stand p l e R s m args below meth c T locs cells slots) (hx : p.tables.exec = Jvm.exec) {k : Nat} {cst : Int} (hd : decode c.code pc = .ok (.iinc k cst, 3)) (v : Int32) (hv : Int32.ofInt cst = v) {x : Int32} {l' : Array Slot} (hl : Ls[k]? = some (.val (.int x))) (hl' : storeLocals Ls k (.int (x + v)) = some l') (hp : pc + 3 = pc') (w : own_W p e En below kc ks Q T (mkF m pc' l' (st))) : own_W p e En below kc ks Q T (mkF m pc Ls (st)) := by
  subst hp; exact own_W.step (fun _ q => XT.iincV X.here hx rfl v hd hv hl hl' q) w
theorem own_dup (X : Stand p l e R s m args below meth c T locs cells slots) (hx : p.tables.exec = Jvm.exec) {x : Value} (hd : decode c.code pc = .ok (.dup, 1)) (hc : x.category = 1) (hp : pc + 1 = pc') (w : own_W p e En below kc ks Q T (mkF m pc' Ls (x :: x :: st))) : own_W p e En below kc ks Q T (mkF m pc Ls (x :: st)) := by
  subst hp; exact own_W.step (fun _ q => XS.dup X.here hx rfl hd rfl hc q) w
theorem own_pop (X : Stand p l e R s m args below meth c T locs cells slots) (hx : p.tables.exec = Jvm.exec) {x : Value} (hd : decode c.code pc = .ok (.pop, 1)) (hc : x.category = 1) (hp : pc + 1 = pc') (w : own_W p e En below kc ks Q T (mkF m pc' Ls (st))) : own_W p e En below kc ks Q T (mkF m pc Ls (x :: st)) := by
  subst hp; exact own_W.step (fun _ q => XS.pop X.here hx rfl hd rfl hc q) w
theorem own_dupX1 (X : Stand p l e R s m args below meth c T locs cells slots) (hx : p.tables.exec = Jvm.exec) {x y : Value} (hd : decode c.code pc = .ok (.dup_x1, 1)) (hc : x.category = 1) (hc2 : y.category = 1) (hp : pc + 1 = pc') (w : own_W p e En below kc ks Q T (mkF m pc' Ls (x :: y :: x :: st))) : own_W p e En below kc ks Q T (mkF m pc Ls (x :: y :: st)) := by
  subst hp; exact own_W.step (fun _ q => XS.dupX1 X.here hx rfl hd rfl hc hc2 q) w
theorem own_dup2 (X : Stand p l e R s m args below meth c T locs cells slots) (hx : p.tables.exec = Jvm.exec) {x y : Value} (hd : decode c.code pc = .ok (.dup2, 1)) (hc : x.category = 1) (hc2 : y.category = 1) (hp : pc + 1 = pc') (w : own_W p e En below kc ks Q T (mkF m pc' Ls (x :: y :: x :: y :: st))) : own_W p e En below kc ks Q T (mkF m pc Ls (x :: y :: st)) := by
  subst hp; exact own_W.step (fun _ q => XT.dup2 X.here hx rfl hd rfl hc hc2 q) w
theorem own_dup2L (X : Stand p l e R s m args below meth c T locs cells slots) (hx : p.tables.exec = Jvm.exec) {x : Int64} (hd : decode c.code pc = .ok (.dup2, 1))  (hp : pc + 1 = pc') (w : own_W p e En below kc ks Q T (mkF m pc' Ls (.long x :: .long x :: st))) : own_W p e En below kc ks Q T (mkF m pc Ls (.long x :: st)) := by
  subst hp; exact own_W.step (fun _ q => XT.dup2L X.here hx rfl hd rfl q) w
theorem own_goto (X : Stand p l e R s m args below meth c T locs cells slots) (hx : p.tables.exec = Jvm.exec) {o : Int} (hd : decode c.code pc = .ok (.goto o, 3)) {pc' : Nat} (ho : 0 ≤ (pc : Int) + o) (hp : ((pc : Int) + o).toNat = pc') (w : own_W p e En below kc ks Q T (mkF m pc' Ls st)) : own_W p e En below kc ks Q T (mkF m pc Ls st) :=
  own_W.step (fun _ q => XS.goto X.here hx rfl rfl hd ho hp q) w
theorem own_ifYes (X : Stand p l e R s m args below meth c T locs cells slots) (hx : p.tables.exec = Jvm.exec) {cd : Jvm.ClassFile.Cond} {x : Int32} {o : Int} (hd : decode c.code pc = .ok (.ifCond cd o, 3)) (hc : ifCond.holds cd x = true) {pc' : Nat} (ho : 0 ≤ (pc : Int) + o) (hp : ((pc : Int) + o).toNat = pc') (w : own_W p e En below kc ks Q T (mkF m pc' Ls st)) : own_W p e En below kc ks Q T (mkF m pc Ls (.int x :: st)) :=
  own_W.step (fun _ q => XS.ifYes X.here hx rfl rfl hd rfl hc ho hp q) w
theorem own_ifNo (X : Stand p l e R s m args below meth c T locs cells slots) (hx : p.tables.exec = Jvm.exec) {cd : Jvm.ClassFile.Cond} {x : Int32} {o : Int} (hd : decode c.code pc = .ok (.ifCond cd o, 3)) (hc : ifCond.holds cd x = false) (hp : pc + 3 = pc') (w : own_W p e En below kc ks Q T (mkF m pc' Ls st)) : own_W p e En below kc ks Q T (mkF m pc Ls (.int x :: st)) := by
  subst hp; exact own_W.step (fun _ q => XS.ifNo X.here hx rfl hd rfl hc q) w
theorem own_icmpYes (X : Stand p l e R s m args below meth c T locs cells slots) (hx : p.tables.exec = Jvm.exec) {cd : Jvm.ClassFile.Cond} {x y : Int32} {o : Int} (hd : decode c.code pc = .ok (.if_icmp cd o, 3)) (hc : if_icmp.holds cd x y = true) {pc' : Nat} (ho : 0 ≤ (pc : Int) + o) (hp : ((pc : Int) + o).toNat = pc') (w : own_W p e En below kc ks Q T (mkF m pc' Ls st)) : own_W p e En below kc ks Q T (mkF m pc Ls (.int y :: .int x :: st)) :=
  own_W.step (fun _ q => XS.icmpYes X.here hx rfl rfl hd rfl hc ho hp q) w
theorem own_icmpNo (X : Stand p l e R s m args below meth c T locs cells slots) (hx : p.tables.exec = Jvm.exec) {cd : Jvm.ClassFile.Cond} {x y : Int32} {o : Int} (hd : decode c.code pc = .ok (.if_icmp cd o, 3)) (hc : if_icmp.holds cd x y = false) (hp : pc + 3 = pc') (w : own_W p e En below kc ks Q T (mkF m pc' Ls st)) : own_W p e En below kc ks Q T (mkF m pc Ls (.int y :: .int x :: st)) := by
  subst hp; exact own_W.step (fun _ q => XS.icmpNo X.here hx rfl hd rfl hc q) w
theorem own_ifnullYes (X : Stand p l e R s m args below meth c T locs cells slots) (hx : p.tables.exec = Jvm.exec) {o : Int} (hd : decode c.code pc = .ok (.ifnull o, 3)) {pc' : Nat} (ho : 0 ≤ (pc : Int) + o) (hp : ((pc : Int) + o).toNat = pc') (w : own_W p e En below kc ks Q T (mkF m pc' Ls st)) : own_W p e En below kc ks Q T (mkF m pc Ls (.null :: st)) :=
  own_W.step (fun _ q => XS.ifnullYes X.here hx rfl rfl hd rfl ho hp q) w
theorem own_ifnullNo (X : Stand p l e R s m args below meth c T locs cells slots) (hx : p.tables.exec = Jvm.exec) {o : Int} (hd : decode c.code pc = .ok (.ifnull o, 3)) (hp : pc + 3 = pc') (w : own_W p e En below kc ks Q T (mkF m pc' Ls st)) : own_W p e En below kc ks Q T (mkF m pc Ls (.ref b :: st)) := by
  subst hp; exact own_W.step (fun _ q => XS.ifnullNo X.here hx rfl hd rfl q) w
theorem own_ifnonnullYes (X : Stand p l e R s m args below meth c T locs cells slots) (hx : p.tables.exec = Jvm.exec) {o : Int} (hd : decode c.code pc = .ok (.ifnonnull o, 3)) {pc' : Nat} (ho : 0 ≤ (pc : Int) + o) (hp : ((pc : Int) + o).toNat = pc') (w : own_W p e En below kc ks Q T (mkF m pc' Ls st)) : own_W p e En below kc ks Q T (mkF m pc Ls (.ref b :: st)) :=
  own_W.step (fun _ q => XS.ifnonnullYes X.here hx rfl rfl hd rfl ho hp q) w
theorem own_ifnonnullNo (X : Stand p l e R s m args below meth c T locs cells slots) (hx : p.tables.exec = Jvm.exec) {o : Int} (hd : decode c.code pc = .ok (.ifnonnull o, 3)) (hp : pc + 3 = pc') (w : own_W p e En below kc ks Q T (mkF m pc' Ls st)) : own_W p e En below kc ks Q T (mkF m pc Ls (.null :: st)) := by
  subst hp; exact own_W.step (fun _ q => XS.ifnonnullNo X.here hx rfl hd rfl q) w
/-- an array: its kind, its length, what each place holds -/
def own_A (Z : State) (h : Heap) (a : Addr) (ty : FieldType) (n : Nat) (f : Nat → Value) : Prop := ∃ c : Cell, Arr Z h a c ty ∧ c.slots.size = n ∧ n < 2 ^ 31 ∧ (∀ i, i < n → c.slots[i]? = some (f i)) ∧ ∀ i, i < n → fits ty (f i) = true
/-- the int j names the place i, which lies in an array of n places -/
def own_In (j : Int32) (i n : Nat) : Prop := j.toInt = (i : Int) ∧ i < n
variable {ty : FieldType} {n i : Nat} {f f' : Nat → Value} {j : Int32}
def own_k0 (_ : Nat) : Int32 := 0
def own_k0L (_ : Nat) : Int64 := 0
def own_up {α : Type} (f : Nat → α) (k : Nat) (x : α) (z : Nat) : α := if z = k then x else f z
theorem own_up_same {α : Type} (f : Nat → α) (k : Nat) (x : α) : own_up f k x k = x := if_pos rfl
theorem own_up_other {α : Type} (f : Nat → α) (k : Nat) (x : α) (z : Nat) (q : z ≠ k) : own_up f k x z = f z := if_neg q
theorem own_In.nat (q : own_In j i n) : j.toNatClampNeg = i := by
  show j.toInt.toNat = i
  rw [q.1]; rfl
theorem own_In.inb {cl : Cell} (q : own_In j i n) (S : cl.slots.size = n) : ¬ (j < 0 ∨ cl.slots.size ≤ j.toNatClampNeg) := by
  rw [q.nat, S]
  have q1 := q.1
  have q2 := q.2
  rintro (r | r)
  · rw [Int32.lt_iff_toInt_lt] at r
    have z : (0 : Int32).toInt = 0 := rfl
    omega
  · omega
theorem own_A.lt (F : own_A Z h a ty n f) : a < h.size := by obtain ⟨c, A, -⟩ := F; exact A.lt
theorem own_A.len (F : own_A Z h a ty n f) : n < 2 ^ 31 := by obtain ⟨c, -, -, q, -, -⟩ := F; exact q
theorem own_A.ext (F : own_A Z h a ty n f) (E : Ext h h') : own_A Z h' a ty n f := by obtain ⟨c, A, r⟩ := F; exact ⟨c, A.ext E, r⟩
theorem own_A.other {v : Value} (F : own_A Z h b ty n f) (W : Wr h h' a sl v) (q : b ≠ a) : own_A Z h' b ty n f := by obtain ⟨c, A, r⟩ := F; exact ⟨c, A.other W q, r⟩
theorem own_A.keep {ws : List Addr} (F : own_A Z h a ty n f) (K : Keep h h' ws) (q : a ∉ ws) : own_A Z h' a ty n f := by obtain ⟨c, A, r⟩ := F; exact ⟨c, ⟨K.2.1 a c A.1 q, A.2⟩, r⟩
theorem own_A.congr (F : own_A Z h a ty n f) (q : ∀ i, i < n → f i = f' i) : own_A Z h a ty n f' := by
  obtain ⟨c, A, r1, r2, r3, r4⟩ := F
  exact ⟨c, A, r1, r2, fun i hi => by rw [r3 i hi, q i hi], fun i hi => by rw [← q i hi]; exact r4 i hi⟩
theorem own_A.fit (F : own_A Z h a ty n f) {i : Nat} (hi : i < n) : fits ty (f i) = true := by obtain ⟨c, A, r1, r2, r3, r4⟩ := F; exact r4 i hi
theorem own_A.new {k : ClassId} {z : Int32} (A : Arr Z h a (newA k ty z) ty) (q : ¬ z < 0) (hn : z.toNatClampNeg = n) : own_A Z h a ty n (fun _ => defaultValue ty) := by
  subst hn
  refine ⟨_, A, sz_new _ _ _, (back32 q).2, fun i hi => ?_, fun i _ => by cases ty <;> rfl⟩
  show (Array.replicate z.toNatClampNeg (defaultValue ty))[i]? = _
  rw [Array.getElem?_replicate, if_pos hi]
theorem own_A.put {cl : Cell} {v : Value} (A : Arr Z h a cl ty) (S : cl.slots.size = n) (hn : n < 2 ^ 31) (H : ∀ i, i < n → cl.slots[i]? = some (f i)) (G : ∀ i, i < n → fits ty (f i) = true) (hv : fits ty v = true) (q : own_In j i n) (W : Wr h h' a j.toNatClampNeg v) : own_A Z h' a ty n (fun z => if z = i then v else f z) := by
  refine ⟨_, A.same W, by rw [sz_set]; exact S, hn, fun k hk => ?_, fun k hk => ?_⟩
  rotate_left
  · show fits ty (if k = i then v else f k) = true
    by_cases e : k = i
    · rw [if_pos e]; exact hv
    · rw [if_neg e]; exact G k hk
  show (cl.slots.setIfInBounds j.toNatClampNeg v)[k]? = some (if k = i then v else f k)
  rw [q.nat, Array.getElem?_setIfInBounds]
  by_cases e : i = k
  · subst e
    rw [if_pos rfl, if_pos (by rw [S]; exact hk), if_pos rfl]
  · rw [if_neg e, if_neg (fun z => e z.symm), H k hk]
theorem own_stI (X : Stand p l e R s m args below meth c T locs cells slots) (hx : p.tables.exec = Jvm.exec) (hZ : Z.Warmed39 s.vm) (eT : T.heap = h) (F : own_A Z h a .int n f) {x : Int32} (hi : own_In j i n) {g : JFrame} (hg : g.method = m) {rest : List Value} (hs : g.stack = .int x :: .int j :: .ref a :: rest) (hd : decode c.code g.pc = .ok (.iastore, 1)) :
    ∃ T' h', Stand p l e R s m args below meth c T' (locs ++ [⟨a, j.toNatClampNeg⟩]) cells slots ∧ T'.heap = h' ∧ Wr h h' a j.toNatClampNeg (.int (x)) ∧ own_A Z h' a .int n (fun z => if z = i then .int (x) else f z) ∧ ∀ target, Steps p.tables e below (T'.setTop { g with pc := g.pc + 1, stack := rest }) target → Steps p.tables e below (T.setTop g) target := by
  obtain ⟨cl, A, S, hn, H, G⟩ := F
  obtain ⟨T', h', X', e', W', st'⟩ := stI X hx hZ eT A (hi.inb S) hg hs hd
  exact ⟨T', h', X', e', W', own_A.put A S hn H G rfl hi W', st'⟩
theorem own_stJ (X : Stand p l e R s m args below meth c T locs cells slots) (hx : p.tables.exec = Jvm.exec) (hZ : Z.Warmed39 s.vm) (eT : T.heap = h) (F : own_A Z h a .long n f) {x : Int64} (hi : own_In j i n) {g : JFrame} (hg : g.method = m) {rest : List Value} (hs : g.stack = .long x :: .int j :: .ref a :: rest) (hd : decode c.code g.pc = .ok (.lastore, 1)) :
    ∃ T' h', Stand p l e R s m args below meth c T' (locs ++ [⟨a, j.toNatClampNeg⟩]) cells slots ∧ T'.heap = h' ∧ Wr h h' a j.toNatClampNeg (.long (x)) ∧ own_A Z h' a .long n (fun z => if z = i then .long (x) else f z) ∧ ∀ target, Steps p.tables e below (T'.setTop { g with pc := g.pc + 1, stack := rest }) target → Steps p.tables e below (T.setTop g) target := by
  obtain ⟨cl, A, S, hn, H, G⟩ := F
  obtain ⟨T', h', X', e', W', st'⟩ := stJ X hx hZ eT A (hi.inb S) hg hs hd
  exact ⟨T', h', X', e', W', own_A.put A S hn H G rfl hi W', st'⟩
theorem own_stB (X : Stand p l e R s m args below meth c T locs cells slots) (hx : p.tables.exec = Jvm.exec) (hZ : Z.Warmed39 s.vm) (eT : T.heap = h) (F : own_A Z h a .byte n f) {x : Int32} (hi : own_In j i n) {g : JFrame} (hg : g.method = m) {rest : List Value} (hs : g.stack = .int x :: .int j :: .ref a :: rest) (hd : decode c.code g.pc = .ok (.bastore, 1)) :
    ∃ T' h', Stand p l e R s m args below meth c T' (locs ++ [⟨a, j.toNatClampNeg⟩]) cells slots ∧ T'.heap = h' ∧ Wr h h' a j.toNatClampNeg (.int (x.toInt8.toInt32)) ∧ own_A Z h' a .byte n (fun z => if z = i then .int (x.toInt8.toInt32) else f z) ∧ ∀ target, Steps p.tables e below (T'.setTop { g with pc := g.pc + 1, stack := rest }) target → Steps p.tables e below (T.setTop g) target := by
  obtain ⟨cl, A, S, hn, H, G⟩ := F
  obtain ⟨T', h', X', e', W', st'⟩ := stB X hx hZ eT A (hi.inb S) hg hs hd
  exact ⟨T', h', X', e', W', own_A.put A S hn H G (fits_nar_byte _) hi W', st'⟩
theorem own_iaload (X : Stand p l e R s m args below meth c T locs cells slots) (hx : p.tables.exec = Jvm.exec) (hZ : Z.Warmed39 s.vm) (eT : T.heap = h) (F : own_A Z h a .int n f) (hi : own_In j i n) {v : Int32} (hv : f i = .int v) {g : JFrame} (hg : g.method = m) {rest : List Value} (hs : g.stack = .int j :: .ref a :: rest) (hd : decode c.code g.pc = .ok (.iaload, 1)) (w : own_W p e En below kc ks Q T { g with pc := g.pc + 1, stack := .int v :: rest }) : own_W p e En below kc ks Q T g := by
  obtain ⟨cl, A, S, hn, H, -⟩ := F
  exact own_W.step (X.iaload hx (j := j) (v := .int v) (by rw [eT]; exact A.1) (State.isArrayOf_alike hZ.alike A.2.1) A.2.2 (hi.inb S) (by rw [hi.nat, H i hi.2, hv]) (g := g) hg hs hd) w
theorem own_laload (X : Stand p l e R s m args below meth c T locs cells slots) (hx : p.tables.exec = Jvm.exec) (hZ : Z.Warmed39 s.vm) (eT : T.heap = h) (F : own_A Z h a .long n f) (hi : own_In j i n) {v : Int64} (hv : f i = .long v) {g : JFrame} (hg : g.method = m) {rest : List Value} (hs : g.stack = .int j :: .ref a :: rest) (hd : decode c.code g.pc = .ok (.laload, 1)) (w : own_W p e En below kc ks Q T { g with pc := g.pc + 1, stack := .long v :: rest }) : own_W p e En below kc ks Q T g := by
  obtain ⟨cl, A, S, hn, H, -⟩ := F
  exact own_W.step (X.laload hx (j := j) (v := .long v) (by rw [eT]; exact A.1) (State.isArrayOf_alike hZ.alike A.2.1) A.2.2 (hi.inb S) (by rw [hi.nat, H i hi.2, hv]) (g := g) hg hs hd) w
theorem own_baload (X : Stand p l e R s m args below meth c T locs cells slots) (hx : p.tables.exec = Jvm.exec) (hZ : Z.Warmed39 s.vm) (eT : T.heap = h) (F : own_A Z h a .byte n f) (hi : own_In j i n) {v : Int32} (hv : f i = .int v) {g : JFrame} (hg : g.method = m) {rest : List Value} (hs : g.stack = .int j :: .ref a :: rest) (hd : decode c.code g.pc = .ok (.baload, 1)) (w : own_W p e En below kc ks Q T { g with pc := g.pc + 1, stack := .int v :: rest }) : own_W p e En below kc ks Q T g := by
  obtain ⟨cl, A, S, hn, H, -⟩ := F
  exact own_W.step (X.baloadBytes hx (j := j) (v := .int v) (by rw [eT]; exact A.1) (State.isArrayOf_alike hZ.alike A.2.1) A.2.2 (hi.inb S) (by rw [hi.nat, H i hi.2, hv]) (g := g) hg hs hd) w
theorem own_alen (X : Stand p l e R s m args below meth c T locs cells slots) (hx : p.tables.exec = Jvm.exec) (hZ : Z.Warmed39 s.vm) (eT : T.heap = h) (F : own_A Z h a ty n f) {z : Int32} (hz : n.toInt32 = z) {g : JFrame} (hg : g.method = m) {rest : List Value} (hs : g.stack = .ref a :: rest) (hd : decode c.code g.pc = .ok (.arraylength, 1)) (w : own_W p e En below kc ks Q T { g with pc := g.pc + 1, stack := .int z :: rest }) : own_W p e En below kc ks Q T g := by
  obtain ⟨cl, A, S, hn, H, -⟩ := F
  subst hz S
  exact own_W.step (X.arraylength hx (by rw [eT]; exact A.1) (State.isArrayOf_alike hZ.alike A.2.1) (g := g) hg hs hd) w

/-- a constructor whose entry is resolved already (a nest mate's private one) -/
theorem own_ready {a0 : Array Value} {own : String} {index : Nat} {y : MethodName} (hZ : Z.Warmed39 s.vm) (hown : s.vm.findClass own = some m.cls) (hy : y.cls ≠ "java/lang/invoke/MethodHandle" ∧ y.cls ≠ "java/lang/invoke/VarHandle") (w : (Jvm.Cond.methodRef own index y).before a0 Z = true) (wi : (Jvm.Cond.instanceMethod y).before a0 Z = true) (ev : Env) :
    ∀ (U : State) (r : MethodId), s.WarmedH U.vm → s.methodNamed? y = some r → namesResolved U.vm m.cls index r.cls ∧ U.vm.methodReady m.cls index r := by
  intro U r hW hn
  obtain ⟨mk, methM, hnZ, -⟩ := Cond.instanceMethod_spec wi
  have hZU : Z.Warmed39 U.vm := wtrans hZ hW
  have h1 := Cond.methodRef_warmed39 hZU hnZ hy w
  have e0 : (Z.setVm s.vm).methodNamed? y = Z.methodNamed? y := State.methodNamed?_setVm hZ.alike y
  have e1 : s.methodNamed? y = (Z.setVm s.vm).methodNamed? y := rfl
  have e2 : mk = r := by rw [e1, e0, hnZ] at hn; exact Option.some.inj hn
  subst e2
  have e3 : (Z.setVm U.vm).methodNamed? y = some mk := by rw [State.methodNamed?_setVm hZU.alike y]; exact hnZ
  have hcur : (Z.setVm U.vm).vm.findClass own = some m.cls := by
    show U.vm.findClass own = _
    rw [hW.alike.findClass]; exact hown
  obtain ⟨m', c', hm, hready, hfind, hnr⟩ := Cond.methodRef_named ev hcur h1
  cases hm.symm.trans (State.methodFound?_of_named e3 hy)
  cases hfind.symm.trans (findClass_of_methodNamed e3)
  exact ⟨hnr, hready⟩
theorem own_specialRef (X : Stand p l e R s m args below meth c T locs cells slots) (hexec : p.tables.exec = Jvm.exec) (hZ : Z.Warmed39 s.vm) {a0 : Array Value} {own : String} {index : Nat} {y : MethodName} (hy1 : y.name = "<init>") (hown : s.vm.findClass own = some m.cls) (w : (Jvm.Cond.methodRef own index y).before a0 Z = true) (wi : (Jvm.Cond.instanceMethod y).before a0 Z = true)
    {bytes : ByteArray} {maxL : Nat} (wc : (Jvm.Cond.code y bytes maxL none).before a0 Z = true) (hy : y.cls ≠ "java/lang/invoke/MethodHandle" ∧ y.cls ≠ "java/lang/invoke/VarHandle")
    {W : Nat} {Pre : Pt → Array Value → Prop} {Post : Pt → Array Value → Option Value → Pt → Prop} (hK : Back l R p e below s args y 3 W Pre Post)
    {g : JFrame} (hg : g.method = m) (hsize : g.locals.size = c.maxLocals) {s₀ : State} (hcome : Steps p.tables e below s₀ (T.setTop g)) {a : Addr} {argsL rest : List Value}
    (hlen : ∀ sig, parseMethodDescriptor y.desc = some sig → argsL.length = sig.parameters.length) (hstack : g.stack = argsL.reverse ++ .ref a :: rest) (hW : 2 * g.monitorRoom + (rest.map fun v => v.category).sum ≤ W)
    (hdg : decode c.code g.pc = .ok (.invokespecial index, 3)) (hpre : ∀ vm₁, s.WarmedH vm₁ → Pre ⟨T.setVm vm₁, locs, cells, slots⟩ (.ref a :: argsL).toArray) :
    ∃ (v : Option Value) (vm₁ : Vm) (B : Pt), s.WarmedH vm₁ ∧ Stand p l e R s m args below meth c B.U B.locs B.cells B.slots ∧ Post ⟨T.setVm vm₁, locs, cells, slots⟩ (.ref a :: argsL).toArray v B ∧
      Steps p.tables e below s₀ (B.U.setTop { g with pc := g.pc + 3, stack := v.toList ++ rest }) :=
  (SCall.of_ready hexec hy1 (mvT hZ wi) (mvT hZ wc) (own_ready hZ hown hy w wi e)) X hK hg hsize hcome hlen hstack hW hdg hpre
theorem own_selP {a0 : Array Value} {y : MethodName} {n : Nat} (wp : (Jvm.Cond.privateMethod y).before a0 Z = true) (wi : (Jvm.Cond.instanceMethod y).before a0 Z = true) (wn : (Jvm.Cond.instantiable y.cls n).before a0 Z = true) (hy : y.cls ≠ "java/lang/invoke/MethodHandle" ∧ y.cls ≠ "java/lang/invoke/VarHandle") : (Jvm.Cond.selects y.cls y y).before a0 Z = true := by
  obtain ⟨mk, methM, hn, hm, hst, hab⟩ := Cond.instanceMethod_spec wi
  obtain ⟨c, k, hc, hk, -, hi, -⟩ := Cond.instantiable_spec wn
  have hcls : Z.vm.findClass y.cls = some mk.cls := findClass_of_methodNamed hn
  cases hc.symm.trans hcls
  have hf := State.methodFound?_of_named hn hy
  have hs : selectMethod {} Z.vm mk.cls mk = .method mk := selectMethod_private hm (Cond.privateMethod_at wp mk methM hn hm)
  have hki : k.isInterface = false := (Bool.or_eq_false_iff.mp hi).1
  simp [Cond.before, Cond.holds, Cond.value, hcls, hf, hn, hs, hk, hki]
end OwnW

section OwnArr
variable {p : Program} {l : Launch} {e : Env} {R : Room} {s : State} {m : MethodId} {args : Array Value} {below : List Frame} {meth : Method} {c : Code} {T : State} {locs : List Loc} {cells slots : Nat} {Z : State} {h h' : Heap} {a b : Addr} {ty : FieldType} {n n' : Nat} {f f' : Nat → Value}
theorem own_A.arv {z : Int32} (F : own_A Z h a ty n f) (hz : z.toInt = (n : Int)) (dv : Value) : ∃ k, Arv Z h a k ty z ((List.range n).map f) dv := by
  obtain ⟨cl, A, S, hn, H, G⟩ := F
  have hz' : z.toNatClampNeg = n := by show z.toInt.toNat = n; rw [hz]; rfl
  have hz0 : ¬ z < 0 := by rw [Int32.lt_iff_toInt_lt, hz, show (0 : Int32).toInt = 0 from rfl]; omega
  have gd : ∀ i, i < n → ((List.range n).map f).getD i dv = f i := fun i hi => by
    rw [List.getD_eq_getElem?_getD, List.getElem?_map, List.getElem?_range hi]; rfl
  refine ⟨cl.cls, cl, A, rfl, by rw [S, hz'], hz0, fun i hi => ?_, fun i hi => ?_⟩
  · rw [S] at hi; rw [gd i hi]; exact H i hi
  · rw [S] at hi; rw [gd i hi]; exact G i hi
theorem own_A.of_arv {k : ClassId} {z : Int32} {vs : List Value} {dv : Value} (F : Arv Z h a k ty z vs dv) (hz : z.toInt = (n : Int)) : own_A Z h a ty n (fun i => vs.getD i dv) := by
  obtain ⟨cl, A, -, S, hz0, H, G⟩ := F
  have hz' : z.toNatClampNeg = n := by show z.toInt.toNat = n; rw [hz]; rfl
  have r := rng32 z
  refine ⟨cl, A, by rw [S, hz'], by omega, fun i hi => H i (by rw [S, hz']; exact hi), fun i hi => G i (by rw [S, hz']; exact hi)⟩
theorem own_cp (X : Stand p l e R s m args below meth c T locs cells slots) (hx : p.tables.exec = Jvm.exec) (hZ : Z.Warmed39 s.vm) {a0 : Array Value} {own : String} {index : Nat} (hown : s.vm.findClass own = some m.cls)
    (w1 : (Jvm.Cond.methodLink own index Jvm.Stand.acN).before a0 Z = true) (w2 : (Jvm.Cond.native Jvm.Stand.acN).before a0 Z = true) (w3 : (Jvm.Cond.static Jvm.Stand.acN).before a0 Z = true) (w4 : (Jvm.Cond.initialized "java/lang/System").before a0 Z = true) (eT : T.heap = h)
    (A : own_A Z h a .byte n f) (B : own_A Z h b .byte n' f') {sp dp nn : Int32} {ps pd k : Nat} (h1 : sp.toInt = (ps : Int)) (h2 : dp.toInt = (pd : Int)) (h3 : nn.toInt = (k : Int)) (h4 : ps + k ≤ n) (h5 : pd + k ≤ n') {n0 : Nat} (N : Fr n0 locs) (ge : n0 ≤ b)
    {g : JFrame} (hg : g.method = m) (hsize : g.locals.size = c.maxLocals) {rest : List Value} (hs : g.stack = .int nn :: .int dp :: .ref b :: .int sp :: .ref a :: rest) (hd : decode c.code g.pc = .ok (.invokestatic index, 3))
    (hf : 1 ≤ R.frames) {W : Nat} (hW : 2 * g.monitorRoom + (rest.map fun v => v.category).sum ≤ W) (hlo : W + (nativeFrameWords "java/lang/System" "arraycopy" 5 + 11) ≤ R.locals) :
    ∃ T' h' L, Stand p l e R s m args below meth c T' L cells slots ∧ T'.heap = h' ∧ Fr n0 L ∧ Keep h h' [b] ∧ own_A Z h' b .byte n' (fun i => if pd ≤ i ∧ i < pd + k then f (ps + (i - pd)) else f' i) ∧
      ∀ target, Steps p.tables e below (T'.setTop { g with pc := g.pc + 3, stack := rest }) target → Steps p.tables e below (T.setTop g) target := by
  have ln := A.len
  have ln' := B.len
  have z1 : (Int32.ofNat n).toInt = (n : Int) := Int32.toInt_ofNat_of_lt ln
  have z2 : (Int32.ofNat n').toInt = (n' : Int) := Int32.toInt_ofNat_of_lt ln'
  obtain ⟨k1, A'⟩ := A.arv z1 (.int 0)
  obtain ⟨k2, B'⟩ := B.arv z2 (.int 0)
  have c1 : sp.toNatClampNeg = ps := by show sp.toInt.toNat = ps; rw [h1]; rfl
  have c2 : dp.toNatClampNeg = pd := by show dp.toInt.toNat = pd; rw [h2]; rfl
  have c3 : nn.toNatClampNeg = k := by show nn.toInt.toNat = k; rw [h3]; rfl
  have c4 : (Int32.ofNat n).toNatClampNeg = n := by show (Int32.ofNat n).toInt.toNat = n; rw [z1]; rfl
  have c5 : (Int32.ofNat n').toNatClampNeg = n' := by show (Int32.ofNat n').toInt.toNat = n'; rw [z2]; rfl
  have t0 : (0 : Int32).toInt = 0 := rfl
  obtain ⟨T', h', L, X', e', N', K', V', st⟩ := cpA X hx hZ hown w1 w2 w3 w4 eT A' B' (Or.inl ⟨rfl, rfl⟩) (sp := sp) (dp := dp) (nn := nn) (by rw [Int32.lt_iff_toInt_lt]; omega) (by rw [Int32.lt_iff_toInt_lt]; omega) (by rw [Int32.lt_iff_toInt_lt]; omega) (by rw [c1, c3, c4]; exact h4) (by rw [c2, c3, c5]; exact h5) rfl (by rw [c2, c3, List.length_map, List.length_range]; exact h5) N ge hg hsize hs hd hf hW hlo
  refine ⟨T', h', L, X', e', N', K', ?_, st⟩
  refine (own_A.of_arv V' z2).congr fun i hi => ?_
  rw [c1, c2, c3, List.getD_eq_getElem?_getD, List.getElem?_append, List.getElem?_append, List.length_append, List.length_take, List.length_map, List.length_map, List.length_range, List.length_range, Nat.min_eq_left (by omega)]
  by_cases q1 : i < pd
  · rw [if_pos (by omega), if_pos q1, if_neg (by omega), List.getElem?_take, if_pos q1, List.getElem?_map, List.getElem?_range hi]
    rfl
  · by_cases q2 : i < pd + k
    · rw [if_pos q2, if_neg q1, if_pos (by omega), List.getElem?_map, List.getElem?_range (by omega)]
      show (((List.range n).map f).getD (ps + (i - pd)) (.int 0)) = _
      rw [List.getD_eq_getElem?_getD, List.getElem?_map, List.getElem?_range (by omega)]
      rfl
    · rw [if_neg q2, if_neg (by omega), List.getElem?_drop, List.getElem?_map, List.getElem?_range (by omega)]
      show f' (pd + k + (i - (pd + k))) = _
      congr 1
      omega
theorem own_clone (X : Stand p l e R s m args below meth c T locs cells slots) (hx : p.tables.exec = Jvm.exec) (hZ : Z.Warmed39 s.vm) {a0 : Array Value} {own : String} {index : Nat} (hown : s.vm.findClass own = some m.cls)
    (w1 : (Jvm.Cond.methodLink own index ⟨"[B", "clone", "()Ljava/lang/Object;"⟩).before a0 Z = true) (w2 : (Jvm.Cond.sameMethod "[B" "java/lang/Object" "clone" "()Ljava/lang/Object;").before a0 Z = true) (w3 : (Jvm.Cond.native ⟨"java/lang/Object", "clone", "()Ljava/lang/Object;"⟩).before a0 Z = true)
    (w4 : (Jvm.Cond.instanceMethod ⟨"java/lang/Object", "clone", "()Ljava/lang/Object;"⟩).before a0 Z = true) (w5 : (Jvm.Cond.selects "[B" ⟨"[B", "clone", "()Ljava/lang/Object;"⟩ ⟨"java/lang/Object", "clone", "()Ljava/lang/Object;"⟩).before a0 Z = true) (w6 : (Jvm.Cond.castable "[B" "java/lang/Cloneable").before a0 Z = true)
    (eT : T.heap = h) (A : own_A Z h a .byte n f) (E : Exa Z h a "[B") {g : JFrame} (hg : g.method = m) (hsize : g.locals.size = c.maxLocals) {rest : List Value} (hst : g.stack = .ref a :: rest) (hd : decode c.code g.pc = .ok (.invokevirtual index, 3))
    (hf : 1 ≤ R.frames) {W cap : Nat} (hW : 2 * g.monitorRoom + (rest.map fun v => v.category).sum ≤ W) (hl : W + 14 ≤ R.locals) (hcap : n ≤ cap) (hc : cells + 1 ≤ R.cells) (hsl : slots + cap ≤ R.slots) :
    ∃ T' h', Stand p l e R s m args below meth c T' locs (cells + 1) (slots + cap) ∧ T'.heap = h' ∧ Ext h h' ∧ own_A Z h' h.size .byte n f ∧ Exa Z h' h.size "[B" ∧
      ∀ target, Steps p.tables e below (T'.setTop { g with pc := g.pc + 3, stack := .ref h.size :: rest }) target → Steps p.tables e below (T.setTop g) target := by
  have ln := A.len
  have z1 : (Int32.ofNat n).toInt = (n : Int) := Int32.toInt_ofNat_of_lt ln
  have c4 : (Int32.ofNat n).toNatClampNeg = n := by show (Int32.ofNat n).toInt.toNat = n; rw [z1]; rfl
  obtain ⟨k1, A'⟩ := A.arv z1 (.int 0)
  obtain ⟨T', h', X', e', E', V', Y', st⟩ := cloneH X hx hZ hown w1 w2 w3 w4 w5 w6 eT A'.arh E hg hsize hst hd hf hW hl (by rw [c4]; exact hcap) hc hsl
  refine ⟨T', h', X', e', E', ?_, Y', st⟩
  refine (own_A.of_arv (show Arv Z h' h.size k1 .byte (Int32.ofNat n) ((List.range n).map f) (.int 0) from V') z1).congr fun i hi => ?_
  rw [List.getD_eq_getElem?_getD, List.getElem?_map, List.getElem?_range hi]
  rfl
end OwnArr
/-! the writer's bytes as functions -/
def own_cpf (f1 f2 : Nat → Int32) (ps pd k z : Nat) : Int32 := if pd ≤ z ∧ z < pd + k then f1 (ps + (z - pd)) else f2 z
def own_imax (x y : Int32) : Int32 := if x < y then y else x
def own_imin (x y : Int32) : Int32 := if y < x then y else x
def own_cap (cap need : Nat) : Nat := if need ≤ cap then cap else if 2 * cap < need then need else 2 * cap
def own_gr (f : Nat → Int32) (cap need z : Nat) : Int32 := if need ≤ cap then f z else if z < cap then f z else 0
def own_pre (f : Nat → Int32) (n z : Nat) : Int32 := if z < n then f z else 0
theorem own_add {x y : Int32} {a b : Nat} (hx : x.toInt = (a : Int)) (hy : y.toInt = (b : Int)) (h : a + b < 2000) : (x + y).toInt = ((a + b : Nat) : Int) := by
  have e := c_iadd x y
  have r := rng32 (x + y)
  omega
theorem own_maxV {x y : Int32} {a b : Nat} (hx : x.toInt = (a : Int)) (hy : y.toInt = (b : Int)) : (own_imax x y).toInt = ((if a < b then b else a : Nat) : Int) := by
  unfold own_imax
  simp only [Int32.lt_iff_toInt_lt, hx, hy]
  split
  · rw [if_pos (by omega), hy]
  · rw [if_neg (by omega), hx]
theorem own_minV {x y : Int32} {a b : Nat} (hx : x.toInt = (a : Int)) (hy : y.toInt = (b : Int)) : (own_imin x y).toInt = ((if b < a then b else a : Nat) : Int) := by
  unfold own_imin
  simp only [Int32.lt_iff_toInt_lt, hx, hy]
  split
  · rw [if_pos (by omega), hy]
  · rw [if_neg (by omega), hx]
theorem own_len {n : Nat} (h : n < 2000) : (Int32.ofNat n).toInt = (n : Int) := Int32.toInt_ofNat_of_lt (by omega)
theorem own_i8 (x : Int32) : x.toInt8.toInt32.toInt8.toInt32 = x.toInt8.toInt32 := by rw [Int8.toInt8_toInt32]
theorem own_b8 {x y : Int32} (h : (x.toInt - y.toInt) % 256 = 0) : x.toInt8.toInt32 = y.toInt8.toInt32 := by
  have e1 := c_i2b x
  have e2 := c_i2b y
  apply Int32.toInt_inj.mp
  omega
def own_ush (x : Int64) (k : Int32) : Int64 := (x.toUInt64 >>> (k &&& 0x3f).toInt64.toUInt64).toInt64
def own_shr (x : Int64) (k : Int32) : Int64 := x >>> (k &&& 0x3f).toInt64
theorem own_us8 (x : Int64) (k : Int32) (h : k = 0 ∨ k = 8 ∨ k = 16 ∨ k = 24 ∨ k = 32 ∨ k = 40 ∨ k = 48 ∨ k = 56) : (own_ush x k).toInt32.toInt8.toInt32 = (own_shr x k).toInt32.toInt8.toInt32 := by
  apply own_b8
  have e1 := c_l2i (own_ush x k)
  have e2 := c_l2i (own_shr x k)
  unfold own_ush own_shr at *
  rcases h with rfl | rfl | rfl | rfl | rfl | rfl | rfl | rfl
  · have q : (x.toUInt64 >>> ((0 : Int32) &&& 0x3f).toInt64.toUInt64).toInt64 = x := by
      apply Int64.toBitVec_inj.mp
      show x.toBitVec >>> (_ : Nat) = x.toBitVec
      exact BitVec.ushiftRight_zero _
    have q2 := c_lshr x (0 : Int32) 0 (by decide)
    rw [q] at e1 ⊢
    omega
  · have q1 := c_lushr x (8 : Int32) 8 (by decide) (by decide)
    have q2 := c_lshr x (8 : Int32) 8 (by decide)
    omega
  · have q1 := c_lushr x (16 : Int32) 16 (by decide) (by decide)
    have q2 := c_lshr x (16 : Int32) 16 (by decide)
    omega
  · have q1 := c_lushr x (24 : Int32) 24 (by decide) (by decide)
    have q2 := c_lshr x (24 : Int32) 24 (by decide)
    omega
  · have q1 := c_lushr x (32 : Int32) 32 (by decide) (by decide)
    have q2 := c_lshr x (32 : Int32) 32 (by decide)
    omega
  · have q1 := c_lushr x (40 : Int32) 40 (by decide) (by decide)
    have q2 := c_lshr x (40 : Int32) 40 (by decide)
    omega
  · have q1 := c_lushr x (48 : Int32) 48 (by decide) (by decide)
    have q2 := c_lshr x (48 : Int32) 48 (by decide)
    omega
  · have q1 := c_lushr x (56 : Int32) 56 (by decide) (by decide)
    have q2 := c_lshr x (56 : Int32) 56 (by decide)
    omega
/-- the byte that writeBigEndian writes as its j-th of w -/
def own_bb (v : Int64) (w j : Nat) : Int32 := (own_ush v (Int32.ofInt (8 * ((w : Int) - 1 - (j : Int))))).toInt32.toInt8.toInt32
def own_be (v : Int64) (w k : Nat) (f : Nat → Int32) (i z : Nat) : Int32 := if k ≤ z ∧ z < k + i then own_bb v w (z - k) else f z
theorem own_be0 (v : Int64) (w k : Nat) (f : Nat → Int32) (z : Nat) : f z = own_be v w k f 0 z := by
  unfold own_be
  rw [if_neg (by omega)]
theorem own_bes (v : Int64) (w k : Nat) (f : Nat → Int32) (i : Nat) (x : Int32) (z : Nat) (hx : x = own_bb v w i) : (if z = k + i then Value.int x else .int (own_be v w k f i z)) = .int (own_be v w k f (i + 1) z) := by
  by_cases q : z = k + i
  · rw [if_pos q, hx]
    unfold own_be
    rw [if_pos (by omega)]
    congr 2
    omega
  · rw [if_neg q]
    unfold own_be
    by_cases r : k ≤ z ∧ z < k + i
    · rw [if_pos r, if_pos (by omega)]
    · rw [if_neg r, if_neg (by omega)]
theorem own_shf (w : Int32) (nw : Nat) (h : w.toInt = (nw : Int)) (hn : nw ≤ 8) : (8 : Int32) * (w - (1 : Int32)) = Int32.ofInt (8 * ((nw : Int) - 1 - ((0 : Nat) : Int))) ∧ ((8 : Int32) * (w - (1 : Int32))).toInt = 8 * ((nw : Int) - 1) := by
  have e1 := c_isub w (1 : Int32)
  have r1 := rng32 (w - (1 : Int32))
  have t1 : (1 : Int32).toInt = 1 := by decide
  have t8 : (8 : Int32).toInt = 8 := by decide
  have e2 := c_imul (8 : Int32) (w - (1 : Int32))
  have r2 := rng32 ((8 : Int32) * (w - (1 : Int32)))
  have v1 : (w - (1 : Int32)).toInt = (nw : Int) - 1 := by omega
  rw [t8, v1] at e2
  have v2 : ((8 : Int32) * (w - (1 : Int32))).toInt = 8 * ((nw : Int) - 1) := by omega
  refine ⟨?_, v2⟩
  apply Int32.toInt_inj.mp
  have sz : (Int32.size : Int) = 4294967296 := rfl
  rw [v2, Int32.toInt_ofInt, Int.bmod_eq_of_le (by omega) (by omega)]
  omega
theorem own_dec8 (s : Int32) (nw i : Nat) (hs : s.toInt = 8 * ((nw : Int) - 1 - (i : Int))) (hn : nw ≤ 8) (hi : i < nw) : (s + (-8 : Int32)).toInt = 8 * ((nw : Int) - 1 - ((i + 1 : Nat) : Int)) := by
  have e := c_iadd s (-8 : Int32)
  have r := rng32 (s + (-8 : Int32))
  have t : (-8 : Int32).toInt = -8 := by decide
  omega
theorem own_ofs (s : Int32) (x : Int) (h : s.toInt = x) : s = Int32.ofInt x := by rw [← h, Int32.ofInt_toInt]
/-! the law's own numbers -/
theorem own_w9 (x : Int32) : ∃ n : Nat, ((x &&& (2147483647 : Int32)) % (9 : Int32)).toInt = (n : Int) ∧ n ≤ 8 := by
  have e1 := c_mask x (2147483647 : Int32) 31 (by decide) (by decide)
  have e2 := c_irem (x &&& (2147483647 : Int32)) (9 : Int32) 9 (by decide)
  refine ⟨((x &&& (2147483647 : Int32)) % (9 : Int32)).toInt.toNat, ?_, ?_⟩ <;> omega
theorem own_p64 (x : Int32) : ∃ n : Nat, (x &&& (63 : Int32)).toInt = (n : Int) ∧ n ≤ 63 := by
  have e1 := c_mask x (63 : Int32) 6 (by decide) (by decide)
  refine ⟨(x &&& (63 : Int32)).toInt.toNat, ?_, ?_⟩ <;> omega
theorem own_cap2 {c n : Nat} (hc : c = 64 ∨ c = 128) (hn : n ≤ 128) : own_cap c n = 64 ∨ own_cap c n = 128 := by
  unfold own_cap
  split
  · exact hc
  · split
    · omega
    · omega
theorem own_capb {c : Nat} (hc : c = 64 ∨ c = 128) : c ≤ 128 := by omega
theorem own_caps {c : Nat} (hc : c = 64 ∨ c = 128) : c < 1000 := by omega
theorem own_capge (c n : Nat) : n ≤ own_cap c n := by
  unfold own_cap
  split
  · assumption
  · split <;> omega
def own_o3 (b1 b2 : Int32) (v : Int64) (p w z : Nat) : Int32 := if z < p then 0 else if z = p then b1 else if z < p + 1 + w then own_bb v w (z - (p + 1)) else b2
theorem own_grl {f : Nat → Int32} {cap need z : Nat} (h : z < cap) : own_gr f cap need z = f z := by
  unfold own_gr
  by_cases q : need ≤ cap
  · rw [if_pos q]
  · rw [if_neg q, if_pos h]
theorem own_gr0 {f : Nat → Int32} {cap need z : Nat} (h : f z = 0) : own_gr f cap need z = 0 := by
  unfold own_gr
  by_cases q : need ≤ cap
  · rw [if_pos q]
    exact h
  · rw [if_neg q]
    by_cases r : z < cap
    · rw [if_pos r]
      exact h
    · rw [if_neg r]
theorem own_o3e (p w : Nat) (b1 b2 : Int32) (v : Int64) (c0 c1 c2 c3 c4 : Nat) (h2 : p + 1 ≤ c2) (h3 : p + 1 + w ≤ c3) (h4 : p + 1 + w + 1 ≤ c4) (z : Nat) (hz : z < p + 1 + w + 1) :
    own_pre (own_up (own_gr (own_be v w (p + 1) (own_gr (own_up (own_gr (own_cpf own_k0 (own_gr own_k0 c0 (0 + p)) 0 0 p) c1 (p + 1)) p b1) c2 (p + 1 + w)) w) c3 (p + 1 + w + 1)) (p + 1 + w) b2) c4 z = own_o3 b1 b2 v p w z := by
  unfold own_pre
  rw [if_pos (by omega)]
  unfold own_up
  by_cases q4 : z = p + 1 + w
  · rw [if_pos q4]
    unfold own_o3
    rw [if_neg (by omega), if_neg (by omega), if_neg (by omega)]
  · rw [if_neg q4, own_grl (by omega)]
    unfold own_be
    by_cases q3 : p + 1 ≤ z ∧ z < p + 1 + w
    · rw [if_pos q3]
      unfold own_o3
      rw [if_neg (by omega), if_neg (by omega), if_pos (by omega)]
    · rw [if_neg q3, own_grl (by omega)]
      unfold own_o3
      by_cases q2 : z = p
      · rw [if_pos q2, if_neg (by omega), if_pos q2]
      · rw [if_neg q2, if_pos (by omega)]
        apply own_gr0
        unfold own_cpf
        split
        · rfl
        · exact own_gr0 rfl
theorem own_o3a (b1 b2 : Int32) (v : Int64) (p w : Nat) : own_o3 b1 b2 v p w p = b1 := by
  unfold own_o3
  rw [if_neg (by omega), if_pos rfl]
theorem own_o3c (b1 b2 : Int32) (v : Int64) (p w : Nat) : own_o3 b1 b2 v p w (p + w + 1) = b2 := by
  unfold own_o3
  rw [if_neg (by omega), if_neg (by omega), if_neg (by omega)]
theorem own_at3 {pp ww : Int32} {p w : Nat} (hp : pp.toInt = (p : Int)) (hw : ww.toInt = (w : Int)) (h1 : p ≤ 63) (h2 : w ≤ 8) (b1 b2 : Int32) (v : Int64) (k : Int32) (j : Nat) (hk : k.toInt = (j : Int)) (hj : j < 8) (hq : k < ww) :
    ∃ i : Nat, own_In ((pp + (1 : Int32)) + ww - (1 : Int32) - k) i (p + 1 + w + 1) ∧ own_o3 b1 b2 v p w i = (v >>> (((8 : Int32) * k) &&& 0x3f).toInt64).toInt32.toInt8.toInt32 := by
  rw [Int32.lt_iff_toInt_lt] at hq
  have t1 : (1 : Int32).toInt = 1 := by decide
  have e1 := c_iadd pp (1 : Int32)
  have r1 := rng32 (pp + (1 : Int32))
  have e2 := c_iadd (pp + (1 : Int32)) ww
  have r2 := rng32 ((pp + (1 : Int32)) + ww)
  have e3 := c_isub ((pp + (1 : Int32)) + ww) (1 : Int32)
  have r3 := rng32 ((pp + (1 : Int32)) + ww - (1 : Int32))
  have e4 := c_isub ((pp + (1 : Int32)) + ww - (1 : Int32)) k
  have r4 := rng32 ((pp + (1 : Int32)) + ww - (1 : Int32) - k)
  refine ⟨p + w - j, ⟨by omega, by omega⟩, ?_⟩
  unfold own_o3
  rw [if_neg (by omega), if_neg (by omega), if_pos (by omega)]
  unfold own_bb
  have e : (w : Int) - 1 - ((p + w - j - (p + 1) : Nat) : Int) = (j : Int) := by omega
  rw [e]
  obtain rfl := own_ofs k _ hk
  clear hk hq e e1 e2 e3 e4 r1 r2 r3 r4
  obtain rfl | rfl | rfl | rfl | rfl | rfl | rfl | rfl : j = 0 ∨ j = 1 ∨ j = 2 ∨ j = 3 ∨ j = 4 ∨ j = 5 ∨ j = 6 ∨ j = 7 := by omega
  · rw [show Int32.ofInt (8 * ((0 : Nat) : Int)) = (0 : Int32) from by decide, show (8 : Int32) * Int32.ofInt ((0 : Nat) : Int) = (0 : Int32) from by decide]
    exact own_us8 v (0 : Int32) (by decide)
  · rw [show Int32.ofInt (8 * ((1 : Nat) : Int)) = (8 : Int32) from by decide, show (8 : Int32) * Int32.ofInt ((1 : Nat) : Int) = (8 : Int32) from by decide]
    exact own_us8 v (8 : Int32) (by decide)
  · rw [show Int32.ofInt (8 * ((2 : Nat) : Int)) = (16 : Int32) from by decide, show (8 : Int32) * Int32.ofInt ((2 : Nat) : Int) = (16 : Int32) from by decide]
    exact own_us8 v (16 : Int32) (by decide)
  · rw [show Int32.ofInt (8 * ((3 : Nat) : Int)) = (24 : Int32) from by decide, show (8 : Int32) * Int32.ofInt ((3 : Nat) : Int) = (24 : Int32) from by decide]
    exact own_us8 v (24 : Int32) (by decide)
  · rw [show Int32.ofInt (8 * ((4 : Nat) : Int)) = (32 : Int32) from by decide, show (8 : Int32) * Int32.ofInt ((4 : Nat) : Int) = (32 : Int32) from by decide]
    exact own_us8 v (32 : Int32) (by decide)
  · rw [show Int32.ofInt (8 * ((5 : Nat) : Int)) = (40 : Int32) from by decide, show (8 : Int32) * Int32.ofInt ((5 : Nat) : Int) = (40 : Int32) from by decide]
    exact own_us8 v (40 : Int32) (by decide)
  · rw [show Int32.ofInt (8 * ((6 : Nat) : Int)) = (48 : Int32) from by decide, show (8 : Int32) * Int32.ofInt ((6 : Nat) : Int) = (48 : Int32) from by decide]
    exact own_us8 v (48 : Int32) (by decide)
  · rw [show Int32.ofInt (8 * ((7 : Nat) : Int)) = (56 : Int32) from by decide, show (8 : Int32) * Int32.ofInt ((7 : Nat) : Int) = (56 : Int32) from by decide]
    exact own_us8 v (56 : Int32) (by decide)
theorem d9_0 : decode jdk_29_method_69_code 0 = .ok (.iload_n 0, 1) := by decide +kernel
theorem d9_1 : decode jdk_29_method_69_code 1 = .ok (.iload_n 1, 1) := by decide +kernel
theorem d9_2 : decode jdk_29_method_69_code 2 = .ok (.if_icmp .gt 7, 3) := by decide +kernel
theorem d9_5 : decode jdk_29_method_69_code 5 = .ok (.iload_n 0, 1) := by decide +kernel
theorem d9_6 : decode jdk_29_method_69_code 6 = .ok (.goto 4, 3) := by decide +kernel
theorem d9_9 : decode jdk_29_method_69_code 9 = .ok (.iload_n 1, 1) := by decide +kernel
theorem d9_10 : decode jdk_29_method_69_code 10 = .ok (.ireturn, 1) := by decide +kernel
theorem ef_9 (m : MethodId) (xa : Int32) (xb : Int32) : entryFrame m #[(.int xa), (.int xb)] 2 = mkF m 0 #[.val (.int xa), .val (.int xb)] [] := by first | (simp [entryFrame, mkF, argsToLocals, Value.category]; done) | rfl
def Q9 (Z : State) (xa : Int32) (xb : Int32)  (h0 : Heap) (n0 : Nat) (v : Option Value) (h : Heap) (L : List Loc) : Prop := v = some (.int (own_imin xa xb)) ∧ Fr n0 L ∧ h = h0
set_option maxRecDepth 65536 in
set_option maxHeartbeats 40000000 in
theorem rm9 (l : Launch) (Z : State) (a0 : Array Value) (hw : ∀ d ∈ tables_1, d.before a0 Z = true) (ws : List Jvm.Cond) (xa : Int32) (xb : Int32)  (h0 : Heap) (n0 : Nat) (Z0 : n0 ≤ h0.size)  :
    MetFree l (⟨"java/lang/Math", "min", "(II)I"⟩ : MethodName) (head1 (Jvm.Cond.code (⟨"java/lang/Math", "min", "(II)I"⟩ : MethodName) jdk_29_method_69_code 2 (some .int) :: ws) ({ frames := 0, cells := 0, slots := 0, locals := 0 } : Room)) (fun avs U => avs = #[(.int xa), (.int xb)] ∧ Z.Warmed39 U.vm ∧ U.heap = h0) (fun _ _ _ _ _ => True) (fun _ U o U' => ∃ v L, o = .returned v ∧ Q9 Z xa xb h0 n0 v U'.heap L ∧ FrameEnd U o U' L ({ frames := 0, cells := 0, slots := 0, locals := 0 } : Room).cells ({ frames := 0, cells := 0, slots := 0, locals := 0 } : Room).slots) := by
  refine MetFree.of_bodySF (Jvm.Free.JP.mathPlain rfl (by decide +kernel)) hisR ?_
  intro p e s m args below meth c s₁ Bd hml0 hP hK
  obtain ⟨rfl, hZ, hh⟩ := hP
  have hx := Bd.exec
  have hby := Bd.bytes
  have hml : c.maxLocals = 2 := hml0
  have hown : s.vm.findClass "java/lang/Math" = some m.cls := findClass_of_methodNamed Bd.named
  have hnm := (name_of_methodNamed Bd.named Bd.method).1
  have hlk := Bd.notSynchronized
  have hret := Bd.returns
  have X0 : Stand p l e ({ frames := 0, cells := 0, slots := 0, locals := 0 } : Room) s m #[(.int xa), (.int xb)] below meth c s₁ [] 0 0 := Stand.of_body Bd
  have e0 : s₁.heap = h0 := by rw [← hh, Bd.state]; rfl
  have N0 := Fr.nil n0
  show own_W p e (FrameEnd s) below ({ frames := 0, cells := 0, slots := 0, locals := 0 } : Room).cells ({ frames := 0, cells := 0, slots := 0, locals := 0 } : Room).slots (Q9 Z xa xb h0 n0) s₁ (entryFrame m #[(.int xa), (.int xb)] 2)
  rw [ef_9]
  refine own_iloadN X0 hx (hb hby d9_0) (v := xa) rfl (rfl : 0 + 1 = 1) ?_
  refine own_iloadN X0 hx (hb hby d9_1) (v := xb) rfl (rfl : 1 + 1 = 2) ?_
  by_cases hc2 : xb < xa
  · skip
    refine own_icmpYes X0 hx (hb hby d9_2) (tlt hc2).2.2.1 (pc' := 9) (by decide) (by decide) ?_
    refine own_iloadN X0 hx (hb hby d9_9) (v := xb) rfl (rfl : 9 + 1 = 10) ?_
    refine own_retI X0 hx hlk hret (hb hby d9_10) (by decide) (by decide) ?_
    show Q9 Z xa xb h0 n0 (some (.int xb)) s₁.heap _
    rw [e0]
    exact ⟨by simp only [own_imin, if_pos hc2], N0, rfl⟩
  · skip
    refine own_icmpNo X0 hx (hb hby d9_2) (flt hc2).2.2.1 (rfl : 2 + 3 = 5) ?_
    refine own_iloadN X0 hx (hb hby d9_5) (v := xa) rfl (rfl : 5 + 1 = 6) ?_
    refine own_goto X0 hx (hb hby d9_6) (pc' := 10) (by decide) (by decide) ?_
    refine own_retI X0 hx hlk hret (hb hby d9_10) (by decide) (by decide) ?_
    show Q9 Z xa xb h0 n0 (some (.int xa)) s₁.heap _
    rw [e0]
    exact ⟨by simp only [own_imin, if_neg hc2], N0, rfl⟩
theorem d11_0 : decode jdk_29_method_65_code 0 = .ok (.iload_n 0, 1) := by decide +kernel
theorem d11_1 : decode jdk_29_method_65_code 1 = .ok (.iload_n 1, 1) := by decide +kernel
theorem d11_2 : decode jdk_29_method_65_code 2 = .ok (.if_icmp .lt 7, 3) := by decide +kernel
theorem d11_5 : decode jdk_29_method_65_code 5 = .ok (.iload_n 0, 1) := by decide +kernel
theorem d11_6 : decode jdk_29_method_65_code 6 = .ok (.goto 4, 3) := by decide +kernel
theorem d11_9 : decode jdk_29_method_65_code 9 = .ok (.iload_n 1, 1) := by decide +kernel
theorem d11_10 : decode jdk_29_method_65_code 10 = .ok (.ireturn, 1) := by decide +kernel
theorem ef_11 (m : MethodId) (xa : Int32) (xb : Int32) : entryFrame m #[(.int xa), (.int xb)] 2 = mkF m 0 #[.val (.int xa), .val (.int xb)] [] := by first | (simp [entryFrame, mkF, argsToLocals, Value.category]; done) | rfl
def Q11 (Z : State) (xa : Int32) (xb : Int32)  (h0 : Heap) (n0 : Nat) (v : Option Value) (h : Heap) (L : List Loc) : Prop := v = some (.int (own_imax xa xb)) ∧ Fr n0 L ∧ h = h0
set_option maxRecDepth 65536 in
set_option maxHeartbeats 40000000 in
theorem rm11 (l : Launch) (Z : State) (a0 : Array Value) (hw : ∀ d ∈ tables_1, d.before a0 Z = true) (ws : List Jvm.Cond) (xa : Int32) (xb : Int32)  (h0 : Heap) (n0 : Nat) (Z0 : n0 ≤ h0.size)  :
    MetFree l (⟨"java/lang/Math", "max", "(II)I"⟩ : MethodName) (head1 (Jvm.Cond.code (⟨"java/lang/Math", "max", "(II)I"⟩ : MethodName) jdk_29_method_65_code 2 (some .int) :: ws) ({ frames := 0, cells := 0, slots := 0, locals := 0 } : Room)) (fun avs U => avs = #[(.int xa), (.int xb)] ∧ Z.Warmed39 U.vm ∧ U.heap = h0) (fun _ _ _ _ _ => True) (fun _ U o U' => ∃ v L, o = .returned v ∧ Q11 Z xa xb h0 n0 v U'.heap L ∧ FrameEnd U o U' L ({ frames := 0, cells := 0, slots := 0, locals := 0 } : Room).cells ({ frames := 0, cells := 0, slots := 0, locals := 0 } : Room).slots) := by
  refine MetFree.of_bodySF (Jvm.Free.JP.mathPlain rfl (by decide +kernel)) hisR ?_
  intro p e s m args below meth c s₁ Bd hml0 hP hK
  obtain ⟨rfl, hZ, hh⟩ := hP
  have hx := Bd.exec
  have hby := Bd.bytes
  have hml : c.maxLocals = 2 := hml0
  have hown : s.vm.findClass "java/lang/Math" = some m.cls := findClass_of_methodNamed Bd.named
  have hnm := (name_of_methodNamed Bd.named Bd.method).1
  have hlk := Bd.notSynchronized
  have hret := Bd.returns
  have X0 : Stand p l e ({ frames := 0, cells := 0, slots := 0, locals := 0 } : Room) s m #[(.int xa), (.int xb)] below meth c s₁ [] 0 0 := Stand.of_body Bd
  have e0 : s₁.heap = h0 := by rw [← hh, Bd.state]; rfl
  have N0 := Fr.nil n0
  show own_W p e (FrameEnd s) below ({ frames := 0, cells := 0, slots := 0, locals := 0 } : Room).cells ({ frames := 0, cells := 0, slots := 0, locals := 0 } : Room).slots (Q11 Z xa xb h0 n0) s₁ (entryFrame m #[(.int xa), (.int xb)] 2)
  rw [ef_11]
  refine own_iloadN X0 hx (hb hby d11_0) (v := xa) rfl (rfl : 0 + 1 = 1) ?_
  refine own_iloadN X0 hx (hb hby d11_1) (v := xb) rfl (rfl : 1 + 1 = 2) ?_
  by_cases hc2 : xa < xb
  · skip
    refine own_icmpYes X0 hx (hb hby d11_2) (tlt hc2).1 (pc' := 9) (by decide) (by decide) ?_
    refine own_iloadN X0 hx (hb hby d11_9) (v := xb) rfl (rfl : 9 + 1 = 10) ?_
    refine own_retI X0 hx hlk hret (hb hby d11_10) (by decide) (by decide) ?_
    show Q11 Z xa xb h0 n0 (some (.int xb)) s₁.heap _
    rw [e0]
    exact ⟨by simp only [own_imax, if_pos hc2], N0, rfl⟩
  · skip
    refine own_icmpNo X0 hx (hb hby d11_2) (flt hc2).1 (rfl : 2 + 3 = 5) ?_
    refine own_iloadN X0 hx (hb hby d11_5) (v := xa) rfl (rfl : 5 + 1 = 6) ?_
    refine own_goto X0 hx (hb hby d11_6) (pc' := 10) (by decide) (by decide) ?_
    refine own_retI X0 hx hlk hret (hb hby d11_10) (by decide) (by decide) ?_
    show Q11 Z xa xb h0 n0 (some (.int xa)) s₁.heap _
    rw [e0]
    exact ⟨by simp only [own_imax, if_neg hc2], N0, rfl⟩
theorem own_pd__II_I : parseMethodDescriptor "(II)I" = some ⟨[.int, .int], some .int⟩ := by decide +kernel
theorem d8_0 : decode jdk_65_method_121_code 0 = .ok (.iload_n 1, 1) := by decide +kernel
theorem d8_1 : decode jdk_65_method_121_code 1 = .ok (.aload_n 0, 1) := by decide +kernel
theorem d8_2 : decode jdk_65_method_121_code 2 = .ok (.arraylength, 1) := by decide +kernel
theorem d8_3 : decode jdk_65_method_121_code 3 = .ok (.if_icmp .ne 11, 3) := by decide +kernel
theorem d8_6 : decode jdk_65_method_121_code 6 = .ok (.aload_n 0, 1) := by decide +kernel
theorem d8_7 : decode jdk_65_method_121_code 7 = .ok (.invokevirtual 310, 3) := by decide +kernel
theorem d8_10 : decode jdk_65_method_121_code 10 = .ok (.checkcast 311, 3) := by decide +kernel
theorem d8_13 : decode jdk_65_method_121_code 13 = .ok (.areturn, 1) := by decide +kernel
theorem d8_14 : decode jdk_65_method_121_code 14 = .ok (.iload_n 1, 1) := by decide +kernel
theorem d8_15 : decode jdk_65_method_121_code 15 = .ok (.newarray .byte, 2) := by decide +kernel
theorem d8_17 : decode jdk_65_method_121_code 17 = .ok (.astore_n 2, 1) := by decide +kernel
theorem d8_18 : decode jdk_65_method_121_code 18 = .ok (.aload_n 0, 1) := by decide +kernel
theorem d8_19 : decode jdk_65_method_121_code 19 = .ok (.iconst 0, 1) := by decide +kernel
theorem d8_20 : decode jdk_65_method_121_code 20 = .ok (.aload_n 2, 1) := by decide +kernel
theorem d8_21 : decode jdk_65_method_121_code 21 = .ok (.iconst 0, 1) := by decide +kernel
theorem d8_22 : decode jdk_65_method_121_code 22 = .ok (.aload_n 0, 1) := by decide +kernel
theorem d8_23 : decode jdk_65_method_121_code 23 = .ok (.arraylength, 1) := by decide +kernel
theorem d8_24 : decode jdk_65_method_121_code 24 = .ok (.iload_n 1, 1) := by decide +kernel
theorem d8_25 : decode jdk_65_method_121_code 25 = .ok (.invokestatic 304, 3) := by decide +kernel
theorem d8_28 : decode jdk_65_method_121_code 28 = .ok (.invokestatic 150, 3) := by decide +kernel
theorem d8_31 : decode jdk_65_method_121_code 31 = .ok (.aload_n 2, 1) := by decide +kernel
theorem d8_32 : decode jdk_65_method_121_code 32 = .ok (.areturn, 1) := by decide +kernel
theorem own_pn_java_util_Arrays : plainName "java/util/Arrays" = true := by first | (simp [plainName, overriddenIn]; done) | decide +kernel
theorem ef_8 (m : MethodId) (ar : Addr) (pn : Int32) : entryFrame m #[(.ref ar), (.int pn)] 3 = mkF m 0 #[.val (.ref ar), .val (.int pn), .unset] [] := by first | (simp [entryFrame, mkF, argsToLocals, Value.category]; done) | rfl
def Q8 (Z : State) (ar : Addr) (pn : Int32) (nn : Nat) (fa : Nat → Int32) (nl : Nat) (h0 : Heap) (n0 : Nat) (v : Option Value) (h : Heap) (L : List Loc) : Prop := ∃ (br : Addr), v = some (.ref br) ∧ Fr n0 L ∧ Keep h0 h [] ∧ h0.size ≤ br ∧ Exa Z h br "[B" ∧ own_A Z h br .byte (nl) (fun z => .int (own_pre fa nn z))
set_option maxRecDepth 65536 in
set_option maxHeartbeats 40000000 in
theorem rm8 (l : Launch) (Z : State) (a0 : Array Value) (hw : ∀ d ∈ tables_1, d.before a0 Z = true) (ws : List Jvm.Cond) (ar : Addr) (pn : Int32) (nn : Nat) (fa : Nat → Int32) (nl : Nat) (h0 : Heap) (n0 : Nat) (Z0 : n0 ≤ h0.size) (f_E_ar : Exa Z h0 ar "[B") (f_A_ar : own_A Z h0 ar .byte (nn) (fun z => .int (fa z))) (hnn : nn < 2000) (hnl : pn.toInt = (nl : Int)) (hcp : nl ≤ 128) :
    MetFree l (⟨"java/util/Arrays", "copyOf", "([BI)[B"⟩ : MethodName) (head1 (Jvm.Cond.code (⟨"java/util/Arrays", "copyOf", "([BI)[B"⟩ : MethodName) jdk_65_method_121_code 3 (some (.array .byte)) :: ws) ({ frames := 1, cells := 1, slots := 128, locals := 18 } : Room)) (fun avs U => avs = #[(.ref ar), (.int pn)] ∧ Z.Warmed39 U.vm ∧ U.heap = h0) (fun _ _ _ _ _ => True) (fun _ U o U' => ∃ v L, o = .returned v ∧ Q8 Z ar pn nn fa nl h0 n0 v U'.heap L ∧ FrameEnd U o U' L ({ frames := 1, cells := 1, slots := 128, locals := 18 } : Room).cells ({ frames := 1, cells := 1, slots := 128, locals := 18 } : Room).slots) := by
  refine MetFree.of_bodySF (plainFor_of_name own_pn_java_util_Arrays) hisR ?_
  intro p e s m args below meth c s₁ Bd hml0 hP hK
  obtain ⟨rfl, hZ, hh⟩ := hP
  have hx := Bd.exec
  have hby := Bd.bytes
  have hml : c.maxLocals = 3 := hml0
  have hown : s.vm.findClass "java/util/Arrays" = some m.cls := findClass_of_methodNamed Bd.named
  have hnm := (name_of_methodNamed Bd.named Bd.method).1
  have hlk := Bd.notSynchronized
  have hret := Bd.returns
  have X0 : Stand p l e ({ frames := 1, cells := 1, slots := 128, locals := 18 } : Room) s m #[(.ref ar), (.int pn)] below meth c s₁ [] 0 0 := Stand.of_body Bd
  have e0 : s₁.heap = h0 := by rw [← hh, Bd.state]; rfl
  have N0 := Fr.nil n0
  show own_W p e (FrameEnd s) below ({ frames := 1, cells := 1, slots := 128, locals := 18 } : Room).cells ({ frames := 1, cells := 1, slots := 128, locals := 18 } : Room).slots (Q8 Z ar pn nn fa nl h0 n0) s₁ (entryFrame m #[(.ref ar), (.int pn)] 3)
  rw [ef_8]
  have K0 : Keep h0 h0 [] := Keep.refl h0 _
  refine own_iloadN X0 hx (hb hby d8_0) (v := pn) rfl (rfl : 0 + 1 = 1) ?_
  refine own_aloadN X0 hx (hb hby d8_1) (v := (.ref ar)) rfl rfl (rfl : 1 + 1 = 2) ?_
  refine own_alen X0 hx hZ e0 f_A_ar (z := (Int32.ofNat (nn))) rfl (g := (mkF m 2 #[.val (.ref ar), .val (.int pn), .unset] [(.ref ar), (.int pn)])) rfl rfl (hb hby d8_2) ?_
  show own_W p e (FrameEnd s) below ({ frames := 1, cells := 1, slots := 128, locals := 18 } : Room).cells ({ frames := 1, cells := 1, slots := 128, locals := 18 } : Room).slots (Q8 Z ar pn nn fa nl h0 n0) s₁ (mkF m 3 #[.val (.ref ar), .val (.int pn), .unset] [(.int (Int32.ofNat (nn))), (.int pn)])
  by_cases hc3 : pn = (Int32.ofNat (nn))
  · skip
    refine own_icmpNo X0 hx (hb hby d8_3) (teq hc3).2 (rfl : 3 + 3 = 6) ?_
    refine own_aloadN X0 hx (hb hby d8_6) (v := (.ref ar)) rfl rfl (rfl : 6 + 1 = 7) ?_
    obtain ⟨T2, h2, X2, e2, E2, V2, Y2, st2⟩ := own_clone X0 hx hZ hown (hw _ (List.mem_of_getElem? (i := 59) rfl)) (hw _ (List.mem_of_getElem? (i := 60) rfl)) (hw _ (List.mem_of_getElem? (i := 64) rfl)) (hw _ (List.mem_of_getElem? (i := 62) rfl)) (hw _ (List.mem_of_getElem? (i := 63) rfl)) (hw _ (List.mem_of_getElem? (i := 65) rfl)) e0 f_A_ar f_E_ar (g := (mkF m 7 #[.val (.ref ar), .val (.int pn), .unset] [(.ref ar)])) rfl (by rw [hml]; rfl) rfl (hb hby d8_7) (by decide) (W := 0) (cap := 128) (by show 2 * 0 + _ ≤ _; exact Nat.le_of_eq rfl) (by decide) (by have z := congrArg Int32.toInt hc3; rw [hnl, own_len hnn] at z; omega) (by decide) (by decide)
    obtain ⟨b2, g2⟩ : ∃ z, z = h0.size := ⟨_, rfl⟩
    rw [← g2] at V2 Y2 st2
    refine own_W.step st2 ?_
    have ne_ar_b2 : ar ≠ b2 := Nat.ne_of_lt (Nat.lt_of_lt_of_le f_E_ar.lt (Nat.le_of_eq g2.symm))
    have sz_b2 : h0.size ≤ b2 := Nat.le_trans K0.1 (Nat.le_of_eq g2.symm)
    have g_b2 : n0 ≤ b2 := Nat.le_trans Z0 (Nat.le_of_eq g2.symm)
    have f2_E_ar : Exa Z h2 ar "[B" := f_E_ar.ext E2
    have f2_A_ar : own_A Z h2 ar .byte (nn) (fun z => .int (fa z)) := f_A_ar.ext E2
    have f2_K : Keep h0 h2 [] := K0.ext E2
    have z2 : n0 ≤ h2.size := Nat.le_trans Z0 E2.1
    show own_W p e (FrameEnd s) below ({ frames := 1, cells := 1, slots := 128, locals := 18 } : Room).cells ({ frames := 1, cells := 1, slots := 128, locals := 18 } : Room).slots (Q8 Z ar pn nn fa nl h0 n0) T2 (mkF m 10 #[.val (.ref ar), .val (.int pn), .unset] [(.ref b2)])
    obtain ⟨T3, X3, e3, st3⟩ := castY X2 hx hZ hown (hw _ (List.mem_of_getElem? (i := 66) rfl)) e2 (Ins.self Y2) (g := (mkF m 10 #[.val (.ref ar), .val (.int pn), .unset] [(.ref b2)])) rfl rfl (hb hby d8_10)
    refine own_W.step st3 ?_
    show own_W p e (FrameEnd s) below ({ frames := 1, cells := 1, slots := 128, locals := 18 } : Room).cells ({ frames := 1, cells := 1, slots := 128, locals := 18 } : Room).slots (Q8 Z ar pn nn fa nl h0 n0) T3 (mkF m 13 #[.val (.ref ar), .val (.int pn), .unset] [(.ref b2)])
    refine own_retA (t := (.array .byte)) X3 hx hlk hret rfl rfl (hb hby d8_13) (by decide) (by decide) ?_
    show Q8 Z ar pn nn fa nl h0 n0 (some (.ref b2)) T3.heap _
    rw [e3]
    exact ⟨b2, rfl, N0, f2_K, sz_b2, Y2, (by
          have e : nl = nn := by have z := congrArg Int32.toInt hc3; rw [hnl, own_len hnn] at z; omega
          rw [e]; exact V2.congr (fun z hz => congrArg Value.int (if_pos hz).symm))⟩
  · skip
    refine own_icmpYes X0 hx (hb hby d8_3) (feq hc3).2 (pc' := 14) (by decide) (by decide) ?_
    refine own_iloadN X0 hx (hb hby d8_14) (v := pn) rfl (rfl : 14 + 1 = 15) ?_
    obtain ⟨T4, h4, k4, X4, e4, E4, A4, Y4, st4⟩ := newPE X0 hx hZ (hw _ (List.mem_of_getElem? (i := 1) rfl)) e0 (g := (mkF m 15 #[.val (.ref ar), .val (.int pn), .unset] [(.int pn)])) rfl (hb hby d8_15) rfl (by rw [Int32.lt_iff_toInt_lt, hnl, show (0 : Int32).toInt = 0 from rfl]; omega) (cap := 128) (by show pn.toInt.toNat ≤ _; rw [hnl]; omega) (by decide) (by decide) (by decide) (ad := "[B") (by decide)
    obtain ⟨b4, g4⟩ : ∃ z, z = h0.size := ⟨_, rfl⟩
    rw [← g4] at A4 Y4 st4
    refine own_W.step st4 ?_
    have ne_ar_b4 : ar ≠ b4 := Nat.ne_of_lt (Nat.lt_of_lt_of_le f_E_ar.lt (Nat.le_of_eq g4.symm))
    have sz_b4 : h0.size ≤ b4 := Nat.le_trans K0.1 (Nat.le_of_eq g4.symm)
    have g_b4 : n0 ≤ b4 := Nat.le_trans Z0 (Nat.le_of_eq g4.symm)
    have f4_E_ar : Exa Z h4 ar "[B" := f_E_ar.ext E4
    have f4_A_ar : own_A Z h4 ar .byte (nn) (fun z => .int (fa z)) := f_A_ar.ext E4
    have f4_K : Keep h0 h4 [] := K0.ext E4
    have z4 : n0 ≤ h4.size := Nat.le_trans Z0 E4.1
    have V4 : own_A Z h4 b4 .byte (nl) (fun z => .int (own_k0 z)) := own_A.new A4 (by rw [Int32.lt_iff_toInt_lt, hnl, show (0 : Int32).toInt = 0 from rfl]; omega) (by show pn.toInt.toNat = _; rw [hnl]; rfl)
    show own_W p e (FrameEnd s) below ({ frames := 1, cells := 1, slots := 128, locals := 18 } : Room).cells ({ frames := 1, cells := 1, slots := 128, locals := 18 } : Room).slots (Q8 Z ar pn nn fa nl h0 n0) T4 (mkF m 17 #[.val (.ref ar), .val (.int pn), .unset] [(.ref b4)])
    refine own_astoreN X4 hx (hb hby d8_17) (l' := #[.val (.ref ar), .val (.int pn), .val (.ref b4)]) rfl rfl (rfl : 17 + 1 = 18) ?_
    refine own_aloadN X4 hx (hb hby d8_18) (v := (.ref ar)) rfl rfl (rfl : 18 + 1 = 19) ?_
    refine own_iconst X4 hx (hb hby d8_19) (0 : Int32) (by first | rfl | decide) (rfl : 19 + 1 = 20) ?_
    refine own_aloadN X4 hx (hb hby d8_20) (v := (.ref b4)) rfl rfl (rfl : 20 + 1 = 21) ?_
    refine own_iconst X4 hx (hb hby d8_21) (0 : Int32) (by first | rfl | decide) (rfl : 21 + 1 = 22) ?_
    refine own_aloadN X4 hx (hb hby d8_22) (v := (.ref ar)) rfl rfl (rfl : 22 + 1 = 23) ?_
    refine own_alen X4 hx hZ e4 f4_A_ar (z := (Int32.ofNat (nn))) rfl (g := (mkF m 23 #[.val (.ref ar), .val (.int pn), .val (.ref b4)] [(.ref ar), (.int (0 : Int32)), (.ref b4), (.int (0 : Int32)), (.ref ar)])) rfl rfl (hb hby d8_23) ?_
    show own_W p e (FrameEnd s) below ({ frames := 1, cells := 1, slots := 128, locals := 18 } : Room).cells ({ frames := 1, cells := 1, slots := 128, locals := 18 } : Room).slots (Q8 Z ar pn nn fa nl h0 n0) T4 (mkF m 24 #[.val (.ref ar), .val (.int pn), .val (.ref b4)] [(.int (Int32.ofNat (nn))), (.int (0 : Int32)), (.ref b4), (.int (0 : Int32)), (.ref ar)])
    refine own_iloadN X4 hx (hb hby d8_24) (v := pn) rfl (rfl : 24 + 1 = 25) ?_
    obtain ⟨_, _, ⟨T6, L6, k6, n6⟩, -, X6, ⟨Lc6, hQ6, l6, y6, z6⟩, st6⟩ := Jvm.LawKit.callS X4 hx (y := (⟨"java/lang/Math", "min", "(II)I"⟩ : MethodName)) hown (mvT hZ (hw _ (List.mem_of_getElem? (i := 47) rfl))) (mvT hZ (hw _ (List.mem_of_getElem? (i := 48) rfl))) (mvT hZ (hw _ (List.mem_of_getElem? (i := 49) rfl))) (mvT hZ (hw _ (List.mem_of_getElem? (i := 50) rfl))) (by decide) (backOf (W := 4) (rm9 l Z a0 hw [] (Int32.ofNat (nn)) pn  h4 n0 z4 ) hZ (hw _ (List.mem_of_getElem? (i := 50) rfl)) (hw _ (List.mem_of_getElem? (i := 49) rfl)) (by decide) (by decide)) (g := (mkF m 25 #[.val (.ref ar), .val (.int pn), .val (.ref b4)] [(.int pn), (.int (Int32.ofNat (nn))), (.int (0 : Int32)), (.ref b4), (.int (0 : Int32)), (.ref ar)])) rfl (by rw [hml]; rfl) (argsL := [(.int (Int32.ofNat (nn))), (.int pn)]) (rest := [(.int (0 : Int32)), (.ref b4), (.int (0 : Int32)), (.ref ar)]) (lenOf own_pd__II_I rfl) rfl (by show 2 * 0 + _ ≤ _; exact Nat.le_of_eq rfl) (hb hby d8_25) (fun _ _ => ⟨rfl, e4, (by decide : 1 + 0 ≤ _), (by decide : 128 + 0 ≤ _)⟩)
    dsimp only [Pt.U, Pt.locs, Pt.cells, Pt.slots] at X6 l6 y6 z6 st6 hQ6
    subst l6 y6 z6
    obtain ⟨rfl, N6q, e6⟩ := hQ6
    have N6 := Fr.app N0 N6q
    refine own_W.step st6 ?_
    show own_W p e (FrameEnd s) below ({ frames := 1, cells := 1, slots := 128, locals := 18 } : Room).cells ({ frames := 1, cells := 1, slots := 128, locals := 18 } : Room).slots (Q8 Z ar pn nn fa nl h0 n0) T6 (mkF m 28 #[.val (.ref ar), .val (.int pn), .val (.ref b4)] [(.int (own_imin (Int32.ofNat (nn)) pn)), (.int (0 : Int32)), (.ref b4), (.int (0 : Int32)), (.ref ar)])
    have hmin : (own_imin (Int32.ofNat (nn)) pn).toInt.toNat = if nl < nn then nl else nn := by have z := own_minV (own_len hnn) hnl; rw [z]; omega
    obtain ⟨T7, h7, L7, X7, e7, N7, K7, V7, st7⟩ := own_cp X6 hx hZ hown (hw _ (List.mem_of_getElem? (i := 51) rfl)) (hw _ (List.mem_of_getElem? (i := 27) rfl)) (hw _ (List.mem_of_getElem? (i := 25) rfl)) (hw _ (List.mem_of_getElem? (i := 26) rfl)) e6 f4_A_ar V4 (ps := 0) (pd := 0) (k := (own_imin (Int32.ofNat (nn)) pn).toInt.toNat) rfl rfl (by have z := own_minV (own_len hnn) hnl; rw [z]; omega) (by have z := own_minV (own_len hnn) hnl; rw [z]; split <;> omega) (by have z := own_minV (own_len hnn) hnl; rw [z]; split <;> omega) N6 g_b4 (g := (mkF m 28 #[.val (.ref ar), .val (.int pn), .val (.ref b4)] [(.int (own_imin (Int32.ofNat (nn)) pn)), (.int (0 : Int32)), (.ref b4), (.int (0 : Int32)), (.ref ar)])) rfl (by rw [hml]; rfl) rfl (hb hby d8_28) (by decide) (W := 0) (by show 2 * 0 + _ ≤ _; exact Nat.le_of_eq rfl) (by decide)
    refine own_W.step st7 ?_
    have f7_E_ar : Exa Z h7 ar "[B" := f4_E_ar.keep K7
    have f7_A_ar : own_A Z h7 ar .byte (nn) (fun z => .int (fa z)) := f4_A_ar.keep K7 (ninS ne_ar_b4 nin0)
    have f7_K : Keep h0 h7 [] := f4_K.trans K7 (allS (Or.inr sz_b4) all0)
    have f7_E_b4 : Exa Z h7 b4 "[B" := Y4.keep K7
    have U7 : own_A Z h7 b4 .byte (nl) (fun z => .int (own_cpf fa own_k0 0 0 ((own_imin (Int32.ofNat (nn)) pn).toInt.toNat) z)) := V7.congr (fun z _ => by unfold own_cpf; split <;> rfl)
    have z7c : n0 ≤ h7.size := Nat.le_trans z4 K7.1
    show own_W p e (FrameEnd s) below ({ frames := 1, cells := 1, slots := 128, locals := 18 } : Room).cells ({ frames := 1, cells := 1, slots := 128, locals := 18 } : Room).slots (Q8 Z ar pn nn fa nl h0 n0) T7 (mkF m 31 #[.val (.ref ar), .val (.int pn), .val (.ref b4)] [])
    refine own_aloadN X7 hx (hb hby d8_31) (v := (.ref b4)) rfl rfl (rfl : 31 + 1 = 32) ?_
    refine own_retA (t := (.array .byte)) X7 hx hlk hret rfl rfl (hb hby d8_32) (by decide) (by decide) ?_
    show Q8 Z ar pn nn fa nl h0 n0 (some (.ref b4)) T7.heap _
    rw [e7]
    exact ⟨b4, rfl, N7, f7_K, sz_b4, f7_E_b4, (U7.congr (fun z hz => congrArg Value.int (by
            unfold own_cpf own_pre own_k0; rw [hmin]
            by_cases q : z < nn
            · rw [if_pos q, if_pos (by split <;> omega)]; congr 1; omega
            · rw [if_neg q, if_neg (by split <;> omega)])))⟩
def Q8b (Z : State) (ar : Addr) (pn : Int32) (nn : Nat) (fa : Nat → Int32) (nl : Nat) (h0 : Heap) (n0 : Nat) (v : Option Value) (h : Heap) (L : List Loc) : Prop := ∃ (br : Addr), v = some (.ref br) ∧ Fr n0 L ∧ Keep h0 h [] ∧ h0.size ≤ br ∧ Exa Z h br "[B" ∧ own_A Z h br .byte (nl) (fun z => .int (own_pre fa nn z))
set_option maxRecDepth 65536 in
set_option maxHeartbeats 40000000 in
theorem rm8b (l : Launch) (Z : State) (a0 : Array Value) (hw : ∀ d ∈ tables_1, d.before a0 Z = true) (ws : List Jvm.Cond) (ar : Addr) (pn : Int32) (nn : Nat) (fa : Nat → Int32) (nl : Nat) (h0 : Heap) (n0 : Nat) (Z0 : n0 ≤ h0.size) (f_E_ar : Exa Z h0 ar "[B") (f_A_ar : own_A Z h0 ar .byte (nn) (fun z => .int (fa z))) (hnn : nn < 2000) (hnl : pn.toInt = (nl : Int)) (hcp : nl ≤ 74) :
    MetFree l (⟨"java/util/Arrays", "copyOf", "([BI)[B"⟩ : MethodName) (head1 (Jvm.Cond.code (⟨"java/util/Arrays", "copyOf", "([BI)[B"⟩ : MethodName) jdk_65_method_121_code 3 (some (.array .byte)) :: ws) ({ frames := 1, cells := 1, slots := 74, locals := 18 } : Room)) (fun avs U => avs = #[(.ref ar), (.int pn)] ∧ Z.Warmed39 U.vm ∧ U.heap = h0) (fun _ _ _ _ _ => True) (fun _ U o U' => ∃ v L, o = .returned v ∧ Q8b Z ar pn nn fa nl h0 n0 v U'.heap L ∧ FrameEnd U o U' L ({ frames := 1, cells := 1, slots := 74, locals := 18 } : Room).cells ({ frames := 1, cells := 1, slots := 74, locals := 18 } : Room).slots) := by
  refine MetFree.of_bodySF (plainFor_of_name own_pn_java_util_Arrays) hisR ?_
  intro p e s m args below meth c s₁ Bd hml0 hP hK
  obtain ⟨rfl, hZ, hh⟩ := hP
  have hx := Bd.exec
  have hby := Bd.bytes
  have hml : c.maxLocals = 3 := hml0
  have hown : s.vm.findClass "java/util/Arrays" = some m.cls := findClass_of_methodNamed Bd.named
  have hnm := (name_of_methodNamed Bd.named Bd.method).1
  have hlk := Bd.notSynchronized
  have hret := Bd.returns
  have X0 : Stand p l e ({ frames := 1, cells := 1, slots := 74, locals := 18 } : Room) s m #[(.ref ar), (.int pn)] below meth c s₁ [] 0 0 := Stand.of_body Bd
  have e0 : s₁.heap = h0 := by rw [← hh, Bd.state]; rfl
  have N0 := Fr.nil n0
  show own_W p e (FrameEnd s) below ({ frames := 1, cells := 1, slots := 74, locals := 18 } : Room).cells ({ frames := 1, cells := 1, slots := 74, locals := 18 } : Room).slots (Q8b Z ar pn nn fa nl h0 n0) s₁ (entryFrame m #[(.ref ar), (.int pn)] 3)
  rw [ef_8]
  have K0 : Keep h0 h0 [] := Keep.refl h0 _
  refine own_iloadN X0 hx (hb hby d8_0) (v := pn) rfl (rfl : 0 + 1 = 1) ?_
  refine own_aloadN X0 hx (hb hby d8_1) (v := (.ref ar)) rfl rfl (rfl : 1 + 1 = 2) ?_
  refine own_alen X0 hx hZ e0 f_A_ar (z := (Int32.ofNat (nn))) rfl (g := (mkF m 2 #[.val (.ref ar), .val (.int pn), .unset] [(.ref ar), (.int pn)])) rfl rfl (hb hby d8_2) ?_
  show own_W p e (FrameEnd s) below ({ frames := 1, cells := 1, slots := 74, locals := 18 } : Room).cells ({ frames := 1, cells := 1, slots := 74, locals := 18 } : Room).slots (Q8b Z ar pn nn fa nl h0 n0) s₁ (mkF m 3 #[.val (.ref ar), .val (.int pn), .unset] [(.int (Int32.ofNat (nn))), (.int pn)])
  by_cases hc3 : pn = (Int32.ofNat (nn))
  · skip
    refine own_icmpNo X0 hx (hb hby d8_3) (teq hc3).2 (rfl : 3 + 3 = 6) ?_
    refine own_aloadN X0 hx (hb hby d8_6) (v := (.ref ar)) rfl rfl (rfl : 6 + 1 = 7) ?_
    obtain ⟨T2, h2, X2, e2, E2, V2, Y2, st2⟩ := own_clone X0 hx hZ hown (hw _ (List.mem_of_getElem? (i := 59) rfl)) (hw _ (List.mem_of_getElem? (i := 60) rfl)) (hw _ (List.mem_of_getElem? (i := 64) rfl)) (hw _ (List.mem_of_getElem? (i := 62) rfl)) (hw _ (List.mem_of_getElem? (i := 63) rfl)) (hw _ (List.mem_of_getElem? (i := 65) rfl)) e0 f_A_ar f_E_ar (g := (mkF m 7 #[.val (.ref ar), .val (.int pn), .unset] [(.ref ar)])) rfl (by rw [hml]; rfl) rfl (hb hby d8_7) (by decide) (W := 0) (cap := 74) (by show 2 * 0 + _ ≤ _; exact Nat.le_of_eq rfl) (by decide) (by have z := congrArg Int32.toInt hc3; rw [hnl, own_len hnn] at z; omega) (by decide) (by decide)
    obtain ⟨b2, g2⟩ : ∃ z, z = h0.size := ⟨_, rfl⟩
    rw [← g2] at V2 Y2 st2
    refine own_W.step st2 ?_
    have ne_ar_b2 : ar ≠ b2 := Nat.ne_of_lt (Nat.lt_of_lt_of_le f_E_ar.lt (Nat.le_of_eq g2.symm))
    have sz_b2 : h0.size ≤ b2 := Nat.le_trans K0.1 (Nat.le_of_eq g2.symm)
    have g_b2 : n0 ≤ b2 := Nat.le_trans Z0 (Nat.le_of_eq g2.symm)
    have f2_E_ar : Exa Z h2 ar "[B" := f_E_ar.ext E2
    have f2_A_ar : own_A Z h2 ar .byte (nn) (fun z => .int (fa z)) := f_A_ar.ext E2
    have f2_K : Keep h0 h2 [] := K0.ext E2
    have z2 : n0 ≤ h2.size := Nat.le_trans Z0 E2.1
    show own_W p e (FrameEnd s) below ({ frames := 1, cells := 1, slots := 74, locals := 18 } : Room).cells ({ frames := 1, cells := 1, slots := 74, locals := 18 } : Room).slots (Q8b Z ar pn nn fa nl h0 n0) T2 (mkF m 10 #[.val (.ref ar), .val (.int pn), .unset] [(.ref b2)])
    obtain ⟨T3, X3, e3, st3⟩ := castY X2 hx hZ hown (hw _ (List.mem_of_getElem? (i := 66) rfl)) e2 (Ins.self Y2) (g := (mkF m 10 #[.val (.ref ar), .val (.int pn), .unset] [(.ref b2)])) rfl rfl (hb hby d8_10)
    refine own_W.step st3 ?_
    show own_W p e (FrameEnd s) below ({ frames := 1, cells := 1, slots := 74, locals := 18 } : Room).cells ({ frames := 1, cells := 1, slots := 74, locals := 18 } : Room).slots (Q8b Z ar pn nn fa nl h0 n0) T3 (mkF m 13 #[.val (.ref ar), .val (.int pn), .unset] [(.ref b2)])
    refine own_retA (t := (.array .byte)) X3 hx hlk hret rfl rfl (hb hby d8_13) (by decide) (by decide) ?_
    show Q8b Z ar pn nn fa nl h0 n0 (some (.ref b2)) T3.heap _
    rw [e3]
    exact ⟨b2, rfl, N0, f2_K, sz_b2, Y2, (by
          have e : nl = nn := by have z := congrArg Int32.toInt hc3; rw [hnl, own_len hnn] at z; omega
          rw [e]; exact V2.congr (fun z hz => congrArg Value.int (if_pos hz).symm))⟩
  · skip
    refine own_icmpYes X0 hx (hb hby d8_3) (feq hc3).2 (pc' := 14) (by decide) (by decide) ?_
    refine own_iloadN X0 hx (hb hby d8_14) (v := pn) rfl (rfl : 14 + 1 = 15) ?_
    obtain ⟨T4, h4, k4, X4, e4, E4, A4, Y4, st4⟩ := newPE X0 hx hZ (hw _ (List.mem_of_getElem? (i := 1) rfl)) e0 (g := (mkF m 15 #[.val (.ref ar), .val (.int pn), .unset] [(.int pn)])) rfl (hb hby d8_15) rfl (by rw [Int32.lt_iff_toInt_lt, hnl, show (0 : Int32).toInt = 0 from rfl]; omega) (cap := 74) (by show pn.toInt.toNat ≤ _; rw [hnl]; omega) (by decide) (by decide) (by decide) (ad := "[B") (by decide)
    obtain ⟨b4, g4⟩ : ∃ z, z = h0.size := ⟨_, rfl⟩
    rw [← g4] at A4 Y4 st4
    refine own_W.step st4 ?_
    have ne_ar_b4 : ar ≠ b4 := Nat.ne_of_lt (Nat.lt_of_lt_of_le f_E_ar.lt (Nat.le_of_eq g4.symm))
    have sz_b4 : h0.size ≤ b4 := Nat.le_trans K0.1 (Nat.le_of_eq g4.symm)
    have g_b4 : n0 ≤ b4 := Nat.le_trans Z0 (Nat.le_of_eq g4.symm)
    have f4_E_ar : Exa Z h4 ar "[B" := f_E_ar.ext E4
    have f4_A_ar : own_A Z h4 ar .byte (nn) (fun z => .int (fa z)) := f_A_ar.ext E4
    have f4_K : Keep h0 h4 [] := K0.ext E4
    have z4 : n0 ≤ h4.size := Nat.le_trans Z0 E4.1
    have V4 : own_A Z h4 b4 .byte (nl) (fun z => .int (own_k0 z)) := own_A.new A4 (by rw [Int32.lt_iff_toInt_lt, hnl, show (0 : Int32).toInt = 0 from rfl]; omega) (by show pn.toInt.toNat = _; rw [hnl]; rfl)
    show own_W p e (FrameEnd s) below ({ frames := 1, cells := 1, slots := 74, locals := 18 } : Room).cells ({ frames := 1, cells := 1, slots := 74, locals := 18 } : Room).slots (Q8b Z ar pn nn fa nl h0 n0) T4 (mkF m 17 #[.val (.ref ar), .val (.int pn), .unset] [(.ref b4)])
    refine own_astoreN X4 hx (hb hby d8_17) (l' := #[.val (.ref ar), .val (.int pn), .val (.ref b4)]) rfl rfl (rfl : 17 + 1 = 18) ?_
    refine own_aloadN X4 hx (hb hby d8_18) (v := (.ref ar)) rfl rfl (rfl : 18 + 1 = 19) ?_
    refine own_iconst X4 hx (hb hby d8_19) (0 : Int32) (by first | rfl | decide) (rfl : 19 + 1 = 20) ?_
    refine own_aloadN X4 hx (hb hby d8_20) (v := (.ref b4)) rfl rfl (rfl : 20 + 1 = 21) ?_
    refine own_iconst X4 hx (hb hby d8_21) (0 : Int32) (by first | rfl | decide) (rfl : 21 + 1 = 22) ?_
    refine own_aloadN X4 hx (hb hby d8_22) (v := (.ref ar)) rfl rfl (rfl : 22 + 1 = 23) ?_
    refine own_alen X4 hx hZ e4 f4_A_ar (z := (Int32.ofNat (nn))) rfl (g := (mkF m 23 #[.val (.ref ar), .val (.int pn), .val (.ref b4)] [(.ref ar), (.int (0 : Int32)), (.ref b4), (.int (0 : Int32)), (.ref ar)])) rfl rfl (hb hby d8_23) ?_
    show own_W p e (FrameEnd s) below ({ frames := 1, cells := 1, slots := 74, locals := 18 } : Room).cells ({ frames := 1, cells := 1, slots := 74, locals := 18 } : Room).slots (Q8b Z ar pn nn fa nl h0 n0) T4 (mkF m 24 #[.val (.ref ar), .val (.int pn), .val (.ref b4)] [(.int (Int32.ofNat (nn))), (.int (0 : Int32)), (.ref b4), (.int (0 : Int32)), (.ref ar)])
    refine own_iloadN X4 hx (hb hby d8_24) (v := pn) rfl (rfl : 24 + 1 = 25) ?_
    obtain ⟨_, _, ⟨T6, L6, k6, n6⟩, -, X6, ⟨Lc6, hQ6, l6, y6, z6⟩, st6⟩ := Jvm.LawKit.callS X4 hx (y := (⟨"java/lang/Math", "min", "(II)I"⟩ : MethodName)) hown (mvT hZ (hw _ (List.mem_of_getElem? (i := 47) rfl))) (mvT hZ (hw _ (List.mem_of_getElem? (i := 48) rfl))) (mvT hZ (hw _ (List.mem_of_getElem? (i := 49) rfl))) (mvT hZ (hw _ (List.mem_of_getElem? (i := 50) rfl))) (by decide) (backOf (W := 4) (rm9 l Z a0 hw [] (Int32.ofNat (nn)) pn  h4 n0 z4 ) hZ (hw _ (List.mem_of_getElem? (i := 50) rfl)) (hw _ (List.mem_of_getElem? (i := 49) rfl)) (by decide) (by decide)) (g := (mkF m 25 #[.val (.ref ar), .val (.int pn), .val (.ref b4)] [(.int pn), (.int (Int32.ofNat (nn))), (.int (0 : Int32)), (.ref b4), (.int (0 : Int32)), (.ref ar)])) rfl (by rw [hml]; rfl) (argsL := [(.int (Int32.ofNat (nn))), (.int pn)]) (rest := [(.int (0 : Int32)), (.ref b4), (.int (0 : Int32)), (.ref ar)]) (lenOf own_pd__II_I rfl) rfl (by show 2 * 0 + _ ≤ _; exact Nat.le_of_eq rfl) (hb hby d8_25) (fun _ _ => ⟨rfl, e4, (by decide : 1 + 0 ≤ _), (by decide : 74 + 0 ≤ _)⟩)
    dsimp only [Pt.U, Pt.locs, Pt.cells, Pt.slots] at X6 l6 y6 z6 st6 hQ6
    subst l6 y6 z6
    obtain ⟨rfl, N6q, e6⟩ := hQ6
    have N6 := Fr.app N0 N6q
    refine own_W.step st6 ?_
    show own_W p e (FrameEnd s) below ({ frames := 1, cells := 1, slots := 74, locals := 18 } : Room).cells ({ frames := 1, cells := 1, slots := 74, locals := 18 } : Room).slots (Q8b Z ar pn nn fa nl h0 n0) T6 (mkF m 28 #[.val (.ref ar), .val (.int pn), .val (.ref b4)] [(.int (own_imin (Int32.ofNat (nn)) pn)), (.int (0 : Int32)), (.ref b4), (.int (0 : Int32)), (.ref ar)])
    have hmin : (own_imin (Int32.ofNat (nn)) pn).toInt.toNat = if nl < nn then nl else nn := by have z := own_minV (own_len hnn) hnl; rw [z]; omega
    obtain ⟨T7, h7, L7, X7, e7, N7, K7, V7, st7⟩ := own_cp X6 hx hZ hown (hw _ (List.mem_of_getElem? (i := 51) rfl)) (hw _ (List.mem_of_getElem? (i := 27) rfl)) (hw _ (List.mem_of_getElem? (i := 25) rfl)) (hw _ (List.mem_of_getElem? (i := 26) rfl)) e6 f4_A_ar V4 (ps := 0) (pd := 0) (k := (own_imin (Int32.ofNat (nn)) pn).toInt.toNat) rfl rfl (by have z := own_minV (own_len hnn) hnl; rw [z]; omega) (by have z := own_minV (own_len hnn) hnl; rw [z]; split <;> omega) (by have z := own_minV (own_len hnn) hnl; rw [z]; split <;> omega) N6 g_b4 (g := (mkF m 28 #[.val (.ref ar), .val (.int pn), .val (.ref b4)] [(.int (own_imin (Int32.ofNat (nn)) pn)), (.int (0 : Int32)), (.ref b4), (.int (0 : Int32)), (.ref ar)])) rfl (by rw [hml]; rfl) rfl (hb hby d8_28) (by decide) (W := 0) (by show 2 * 0 + _ ≤ _; exact Nat.le_of_eq rfl) (by decide)
    refine own_W.step st7 ?_
    have f7_E_ar : Exa Z h7 ar "[B" := f4_E_ar.keep K7
    have f7_A_ar : own_A Z h7 ar .byte (nn) (fun z => .int (fa z)) := f4_A_ar.keep K7 (ninS ne_ar_b4 nin0)
    have f7_K : Keep h0 h7 [] := f4_K.trans K7 (allS (Or.inr sz_b4) all0)
    have f7_E_b4 : Exa Z h7 b4 "[B" := Y4.keep K7
    have U7 : own_A Z h7 b4 .byte (nl) (fun z => .int (own_cpf fa own_k0 0 0 ((own_imin (Int32.ofNat (nn)) pn).toInt.toNat) z)) := V7.congr (fun z _ => by unfold own_cpf; split <;> rfl)
    have z7c : n0 ≤ h7.size := Nat.le_trans z4 K7.1
    show own_W p e (FrameEnd s) below ({ frames := 1, cells := 1, slots := 74, locals := 18 } : Room).cells ({ frames := 1, cells := 1, slots := 74, locals := 18 } : Room).slots (Q8b Z ar pn nn fa nl h0 n0) T7 (mkF m 31 #[.val (.ref ar), .val (.int pn), .val (.ref b4)] [])
    refine own_aloadN X7 hx (hb hby d8_31) (v := (.ref b4)) rfl rfl (rfl : 31 + 1 = 32) ?_
    refine own_retA (t := (.array .byte)) X7 hx hlk hret rfl rfl (hb hby d8_32) (by decide) (by decide) ?_
    show Q8b Z ar pn nn fa nl h0 n0 (some (.ref b4)) T7.heap _
    rw [e7]
    exact ⟨b4, rfl, N7, f7_K, sz_b4, f7_E_b4, (U7.congr (fun z hz => congrArg Value.int (by
            unfold own_cpf own_pre own_k0; rw [hmin]
            by_cases q : z < nn
            · rw [if_pos q, if_pos (by split <;> omega)]; congr 1; omega
            · rw [if_neg q, if_neg (by split <;> omega)])))⟩
theorem d1_0 : decode prog_1_method_1_code 0 = .ok (.aload_n 0, 1) := by decide +kernel
theorem d1_1 : decode prog_1_method_1_code 1 = .ok (.invokespecial 1, 3) := by decide +kernel
theorem d1_4 : decode prog_1_method_1_code 4 = .ok (.aload_n 0, 1) := by decide +kernel
theorem d1_5 : decode prog_1_method_1_code 5 = .ok (.bipush 64, 2) := by decide +kernel
theorem d1_7 : decode prog_1_method_1_code 7 = .ok (.newarray .byte, 2) := by decide +kernel
theorem d1_9 : decode prog_1_method_1_code 9 = .ok (.putfield 7, 3) := by decide +kernel
theorem d1_12 : decode prog_1_method_1_code 12 = .ok (.return_, 1) := by decide +kernel
theorem own_pn_com_example_galapagos_galapagos_ByteWriter : plainName "com/example/galapagos/galapagos/ByteWriter" = true := by first | (simp [plainName, overriddenIn]; done) | decide +kernel
theorem ef_1 (m : MethodId) (ob : Addr) : entryFrame m #[(.ref ob)] 1 = mkF m 0 #[.val (.ref ob)] [] := by first | (simp [entryFrame, mkF, argsToLocals, Value.category]; done) | rfl
def Q1 (Z : State) (ob : Addr)  (h0 : Heap) (n0 : Nat) (v : Option Value) (h : Heap) (L : List Loc) : Prop := ∃ (ab : Addr), v = none ∧ Fr n0 L ∧ Keep h0 h [ob] ∧ h0.size ≤ ab ∧ Exa Z h ob "com/example/galapagos/galapagos/ByteWriter" ∧ Fld Z h ob "com/example/galapagos/galapagos/ByteWriter" "bytes" "[B" (.ref ab) ∧ Fld Z h ob "com/example/galapagos/galapagos/ByteWriter" "size" "I" (.int (0 : Int32)) ∧ Exa Z h ab "[B" ∧ own_A Z h ab .byte (64) (fun z => .int (own_k0 z))
set_option maxRecDepth 65536 in
set_option maxHeartbeats 40000000 in
theorem rm1 (l : Launch) (Z : State) (a0 : Array Value) (hw : ∀ d ∈ tables_1, d.before a0 Z = true) (ws : List Jvm.Cond) (ob : Addr)  (h0 : Heap) (n0 : Nat) (Z0 : n0 ≤ h0.size) (f_E_ob : Exa Z h0 ob "com/example/galapagos/galapagos/ByteWriter") (f_F_ob_bytes : Fld Z h0 ob "com/example/galapagos/galapagos/ByteWriter" "bytes" "[B" .null) (f_F_ob_size : Fld Z h0 ob "com/example/galapagos/galapagos/ByteWriter" "size" "I" (.int (0 : Int32))) (g_ob : n0 ≤ ob) :
    MetFree l (⟨"com/example/galapagos/galapagos/ByteWriter", "<init>", "()V"⟩ : MethodName) (head1 (Jvm.Cond.code (⟨"com/example/galapagos/galapagos/ByteWriter", "<init>", "()V"⟩ : MethodName) prog_1_method_1_code 1 none :: ws) ({ frames := 1, cells := 1, slots := 64, locals := 12 } : Room)) (fun avs U => avs = #[(.ref ob)] ∧ Z.Warmed39 U.vm ∧ U.heap = h0) (fun _ _ _ _ _ => True) (fun _ U o U' => ∃ v L, o = .returned v ∧ Q1 Z ob h0 n0 v U'.heap L ∧ FrameEnd U o U' L ({ frames := 1, cells := 1, slots := 64, locals := 12 } : Room).cells ({ frames := 1, cells := 1, slots := 64, locals := 12 } : Room).slots) := by
  refine MetFree.of_bodySF (plainFor_of_name own_pn_com_example_galapagos_galapagos_ByteWriter) hisR ?_
  intro p e s m args below meth c s₁ Bd hml0 hP hK
  obtain ⟨rfl, hZ, hh⟩ := hP
  have hx := Bd.exec
  have hby := Bd.bytes
  have hml : c.maxLocals = 1 := hml0
  have hown : s.vm.findClass "com/example/galapagos/galapagos/ByteWriter" = some m.cls := findClass_of_methodNamed Bd.named
  have hnm := (name_of_methodNamed Bd.named Bd.method).1
  have hlk := Bd.notSynchronized
  have hret := Bd.returns
  have X0 : Stand p l e ({ frames := 1, cells := 1, slots := 64, locals := 12 } : Room) s m #[(.ref ob)] below meth c s₁ [] 0 0 := Stand.of_body Bd
  have e0 : s₁.heap = h0 := by rw [← hh, Bd.state]; rfl
  have N0 := Fr.nil n0
  show own_W p e (FrameEnd s) below ({ frames := 1, cells := 1, slots := 64, locals := 12 } : Room).cells ({ frames := 1, cells := 1, slots := 64, locals := 12 } : Room).slots (Q1 Z ob h0 n0) s₁ (entryFrame m #[(.ref ob)] 1)
  rw [ef_1]
  have K0 : Keep h0 h0 [ob] := Keep.refl h0 _
  refine own_aloadN X0 hx (hb hby d1_0) (v := (.ref ob)) rfl rfl (rfl : 0 + 1 = 1) ?_
  obtain ⟨T1, X1, e1, st1⟩ := initO X0 hx hZ hown (hw _ (List.mem_of_getElem? (i := 8) rfl)) (hw _ (List.mem_of_getElem? (i := 9) rfl)) (hw _ (List.mem_of_getElem? (i := 10) rfl)) e0 (g := (mkF m 1 #[.val (.ref ob)] [(.ref ob)])) rfl (by rw [hml]; rfl) rfl (hb hby d1_1) (by decide) (W := 0) (by show 2 * 0 + _ ≤ _; exact Nat.le_of_eq rfl) (by decide)
  refine own_W.step st1 ?_
  show own_W p e (FrameEnd s) below ({ frames := 1, cells := 1, slots := 64, locals := 12 } : Room).cells ({ frames := 1, cells := 1, slots := 64, locals := 12 } : Room).slots (Q1 Z ob h0 n0) T1 (mkF m 4 #[.val (.ref ob)] [])
  refine own_aloadN X1 hx (hb hby d1_4) (v := (.ref ob)) rfl rfl (rfl : 4 + 1 = 5) ?_
  refine own_bipush X1 hx (hb hby d1_5) (64 : Int32) (by first | rfl | decide) (rfl : 5 + 2 = 7) ?_
  obtain ⟨T2, h2, k2, X2, e2, E2, A2, Y2, st2⟩ := newPE X1 hx hZ (hw _ (List.mem_of_getElem? (i := 1) rfl)) e1 (g := (mkF m 7 #[.val (.ref ob)] [(.int (64 : Int32)), (.ref ob)])) rfl (hb hby d1_7) rfl (by decide) (cap := 64) (by decide) (by decide) (by decide) (by decide) (ad := "[B") (by decide)
  obtain ⟨bb, g2⟩ : ∃ z, z = h0.size := ⟨_, rfl⟩
  rw [← g2] at A2 Y2 st2
  refine own_W.step st2 ?_
  have ne_ob_bb : ob ≠ bb := Nat.ne_of_lt (Nat.lt_of_lt_of_le f_E_ob.lt (Nat.le_of_eq g2.symm))
  have sz_bb : h0.size ≤ bb := Nat.le_trans K0.1 (Nat.le_of_eq g2.symm)
  have g_bb : n0 ≤ bb := Nat.le_trans Z0 (Nat.le_of_eq g2.symm)
  have f2_E_ob : Exa Z h2 ob "com/example/galapagos/galapagos/ByteWriter" := f_E_ob.ext E2
  have f2_F_ob_bytes : Fld Z h2 ob "com/example/galapagos/galapagos/ByteWriter" "bytes" "[B" .null := f_F_ob_bytes.ext E2
  have f2_F_ob_size : Fld Z h2 ob "com/example/galapagos/galapagos/ByteWriter" "size" "I" (.int (0 : Int32)) := f_F_ob_size.ext E2
  have f2_K : Keep h0 h2 [ob] := K0.ext E2
  have z2 : n0 ≤ h2.size := Nat.le_trans Z0 E2.1
  have V2 : own_A Z h2 bb .byte (64) (fun z => .int (own_k0 z)) := own_A.new A2 (by decide) (by decide)
  show own_W p e (FrameEnd s) below ({ frames := 1, cells := 1, slots := 64, locals := 12 } : Room).cells ({ frames := 1, cells := 1, slots := 64, locals := 12 } : Room).slots (Q1 Z ob h0 n0) T2 (mkF m 9 #[.val (.ref ob)] [(.ref bb), (.ref ob)])
  obtain ⟨T3, h3, X3, e3, W3, st3⟩ := putF X2 hx hZ hown (host := "") (Or.inl (hw _ (List.mem_of_getElem? (i := 11) rfl))) Via.refl e2 f2_F_ob_bytes f2_E_ob (Or.inl (hw _ (List.mem_of_getElem? (i := 12) rfl))) (hw _ (List.mem_of_getElem? (i := 3) rfl)) (ty := (.array .byte)) (by decide) rfl rfl (g := (mkF m 9 #[.val (.ref ob)] [(.ref bb), (.ref ob)])) rfl rfl (hb hby d1_9)
  refine own_W.step st3 ?_
  have N3 := Fr.snoc X3 N0 g_ob
  have f3_E_ob : Exa Z h3 ob "com/example/galapagos/galapagos/ByteWriter" := f2_E_ob.wr W3
  have f3_F_ob_size : Fld Z h3 ob "com/example/galapagos/galapagos/ByteWriter" "size" "I" (.int (0 : Int32)) := f2_F_ob_size.other W3 (Or.inr (slot_ne (Or.inl (hw _ (List.mem_of_getElem? (i := 23) rfl))) (Or.inl (hw _ (List.mem_of_getElem? (i := 12) rfl))) (by decide) (t := .int) (t' := (.array .byte)) (by decide) (by decide)))
  have f3_K : Keep h0 h3 [ob] := f2_K.wr W3 (Or.inl (by simp))
  have f3_A_bb : own_A Z h3 bb .byte (64) (fun z => .int (own_k0 z)) := V2.other W3 (Ne.symm ne_ob_bb)
  have f3_E_bb : Exa Z h3 bb "[B" := Y2.wr W3
  have fw3 : Fld Z h3 ob "com/example/galapagos/galapagos/ByteWriter" "bytes" "[B" (.ref bb) := f2_F_ob_bytes.same W3
  have z3 : n0 ≤ h3.size := by rw [W3.size]; exact z2
  show own_W p e (FrameEnd s) below ({ frames := 1, cells := 1, slots := 64, locals := 12 } : Room).cells ({ frames := 1, cells := 1, slots := 64, locals := 12 } : Room).slots (Q1 Z ob h0 n0) T3 (mkF m 12 #[.val (.ref ob)] [])
  refine own_retV X3 hx hlk hret (hb hby d1_12) (by decide) (by decide) ?_
  show Q1 Z ob h0 n0 none T3.heap _
  rw [e3]
  exact ⟨bb, rfl, N3, f3_K, sz_bb, f3_E_ob, fw3, f3_F_ob_size, f3_E_bb, f3_A_bb⟩
theorem own_pd___BI__B : parseMethodDescriptor "([BI)[B" = some ⟨[(.array .byte), .int], some (.array .byte)⟩ := by decide +kernel
theorem d4_0 : decode prog_1_method_6_code 0 = .ok (.aload_n 0, 1) := by decide +kernel
theorem d4_1 : decode prog_1_method_6_code 1 = .ok (.getfield 17, 3) := by decide +kernel
theorem d4_4 : decode prog_1_method_6_code 4 = .ok (.iload_n 1, 1) := by decide +kernel
theorem d4_5 : decode prog_1_method_6_code 5 = .ok (.iadd, 1) := by decide +kernel
theorem d4_6 : decode prog_1_method_6_code 6 = .ok (.aload_n 0, 1) := by decide +kernel
theorem d4_7 : decode prog_1_method_6_code 7 = .ok (.getfield 7, 3) := by decide +kernel
theorem d4_10 : decode prog_1_method_6_code 10 = .ok (.arraylength, 1) := by decide +kernel
theorem d4_11 : decode prog_1_method_6_code 11 = .ok (.if_icmp .le 30, 3) := by decide +kernel
theorem d4_14 : decode prog_1_method_6_code 14 = .ok (.aload_n 0, 1) := by decide +kernel
theorem d4_15 : decode prog_1_method_6_code 15 = .ok (.aload_n 0, 1) := by decide +kernel
theorem d4_16 : decode prog_1_method_6_code 16 = .ok (.getfield 7, 3) := by decide +kernel
theorem d4_19 : decode prog_1_method_6_code 19 = .ok (.aload_n 0, 1) := by decide +kernel
theorem d4_20 : decode prog_1_method_6_code 20 = .ok (.getfield 7, 3) := by decide +kernel
theorem d4_23 : decode prog_1_method_6_code 23 = .ok (.arraylength, 1) := by decide +kernel
theorem d4_24 : decode prog_1_method_6_code 24 = .ok (.iconst 2, 1) := by decide +kernel
theorem d4_25 : decode prog_1_method_6_code 25 = .ok (.imul, 1) := by decide +kernel
theorem d4_26 : decode prog_1_method_6_code 26 = .ok (.aload_n 0, 1) := by decide +kernel
theorem d4_27 : decode prog_1_method_6_code 27 = .ok (.getfield 17, 3) := by decide +kernel
theorem d4_30 : decode prog_1_method_6_code 30 = .ok (.iload_n 1, 1) := by decide +kernel
theorem d4_31 : decode prog_1_method_6_code 31 = .ok (.iadd, 1) := by decide +kernel
theorem d4_32 : decode prog_1_method_6_code 32 = .ok (.invokestatic 33, 3) := by decide +kernel
theorem d4_35 : decode prog_1_method_6_code 35 = .ok (.invokestatic 27, 3) := by decide +kernel
theorem d4_38 : decode prog_1_method_6_code 38 = .ok (.putfield 7, 3) := by decide +kernel
theorem d4_41 : decode prog_1_method_6_code 41 = .ok (.return_, 1) := by decide +kernel
theorem ef_4 (m : MethodId) (ob : Addr) (pn : Int32) : entryFrame m #[(.ref ob), (.int pn)] 2 = mkF m 0 #[.val (.ref ob), .val (.int pn)] [] := by first | (simp [entryFrame, mkF, argsToLocals, Value.category]; done) | rfl
def Q4 (Z : State) (ob : Addr) (pn : Int32) (ab : Addr) (us : Int32) (cp : Nat) (fa : Nat → Int32) (kk : Nat) (nw : Nat) (h0 : Heap) (n0 : Nat) (v : Option Value) (h : Heap) (L : List Loc) : Prop := ∃ (an : Addr), v = none ∧ Fr n0 L ∧ Keep h0 h [ob] ∧ Exa Z h ob "com/example/galapagos/galapagos/ByteWriter" ∧ Fld Z h ob "com/example/galapagos/galapagos/ByteWriter" "bytes" "[B" (.ref an) ∧ Fld Z h ob "com/example/galapagos/galapagos/ByteWriter" "size" "I" (.int us) ∧ Exa Z h an "[B" ∧ own_A Z h an .byte (own_cap cp (kk + nw)) (fun z => .int (own_gr fa cp (kk + nw) z)) ∧ (an = ab ∨ h0.size ≤ an) ∧ (ob ≠ an) ∧ (n0 ≤ an)
set_option maxRecDepth 65536 in
set_option maxHeartbeats 40000000 in
theorem rm4 (l : Launch) (Z : State) (a0 : Array Value) (hw : ∀ d ∈ tables_1, d.before a0 Z = true) (ws : List Jvm.Cond) (ob : Addr) (pn : Int32) (ab : Addr) (us : Int32) (cp : Nat) (fa : Nat → Int32) (kk : Nat) (nw : Nat) (h0 : Heap) (n0 : Nat) (Z0 : n0 ≤ h0.size) (f_E_ob : Exa Z h0 ob "com/example/galapagos/galapagos/ByteWriter") (f_F_ob_bytes : Fld Z h0 ob "com/example/galapagos/galapagos/ByteWriter" "bytes" "[B" (.ref ab)) (f_F_ob_size : Fld Z h0 ob "com/example/galapagos/galapagos/ByteWriter" "size" "I" (.int us)) (f_E_ab : Exa Z h0 ab "[B") (f_A_ab : own_A Z h0 ab .byte (cp) (fun z => .int (fa z))) (g_ob : n0 ≤ ob) (g_ab : n0 ≤ ab) (hne : ob ≠ ab) (hus : us.toInt = (kk : Int)) (hpn : pn.toInt = (nw : Int)) (hb1 : kk + nw ≤ 73) (hb2 : own_cap cp (kk + nw) ≤ 128) (hb3 : cp < 1000) :
    MetFree l (⟨"com/example/galapagos/galapagos/ByteWriter", "reserve", "(I)V"⟩ : MethodName) (head1 (Jvm.Cond.code (⟨"com/example/galapagos/galapagos/ByteWriter", "reserve", "(I)V"⟩ : MethodName) prog_1_method_6_code 2 none :: ws) ({ frames := 2, cells := 1, slots := 128, locals := 33 } : Room)) (fun avs U => avs = #[(.ref ob), (.int pn)] ∧ Z.Warmed39 U.vm ∧ U.heap = h0) (fun _ _ _ _ _ => True) (fun _ U o U' => ∃ v L, o = .returned v ∧ Q4 Z ob pn ab us cp fa kk nw h0 n0 v U'.heap L ∧ FrameEnd U o U' L ({ frames := 2, cells := 1, slots := 128, locals := 33 } : Room).cells ({ frames := 2, cells := 1, slots := 128, locals := 33 } : Room).slots) := by
  refine MetFree.of_bodySF (plainFor_of_name own_pn_com_example_galapagos_galapagos_ByteWriter) hisR ?_
  intro p e s m args below meth c s₁ Bd hml0 hP hK
  obtain ⟨rfl, hZ, hh⟩ := hP
  have hx := Bd.exec
  have hby := Bd.bytes
  have hml : c.maxLocals = 2 := hml0
  have hown : s.vm.findClass "com/example/galapagos/galapagos/ByteWriter" = some m.cls := findClass_of_methodNamed Bd.named
  have hnm := (name_of_methodNamed Bd.named Bd.method).1
  have hlk := Bd.notSynchronized
  have hret := Bd.returns
  have X0 : Stand p l e ({ frames := 2, cells := 1, slots := 128, locals := 33 } : Room) s m #[(.ref ob), (.int pn)] below meth c s₁ [] 0 0 := Stand.of_body Bd
  have e0 : s₁.heap = h0 := by rw [← hh, Bd.state]; rfl
  have N0 := Fr.nil n0
  show own_W p e (FrameEnd s) below ({ frames := 2, cells := 1, slots := 128, locals := 33 } : Room).cells ({ frames := 2, cells := 1, slots := 128, locals := 33 } : Room).slots (Q4 Z ob pn ab us cp fa kk nw h0 n0) s₁ (entryFrame m #[(.ref ob), (.int pn)] 2)
  rw [ef_4]
  have K0 : Keep h0 h0 [ob] := Keep.refl h0 _
  have hadd := own_add hus hpn (by omega)
  have hlen := own_len (n := cp) (by omega)
  refine own_aloadN X0 hx (hb hby d4_0) (v := (.ref ob)) rfl rfl (rfl : 0 + 1 = 1) ?_
  obtain ⟨T1, X1, e1, st1⟩ := getF X0 hx hZ hown (host := "") (Or.inl (hw _ (List.mem_of_getElem? (i := 22) rfl))) Via.refl e0 f_F_ob_size (g := (mkF m 1 #[.val (.ref ob), .val (.int pn)] [(.ref ob)])) rfl rfl (hb hby d4_1)
  refine own_W.step st1 ?_
  show own_W p e (FrameEnd s) below ({ frames := 2, cells := 1, slots := 128, locals := 33 } : Room).cells ({ frames := 2, cells := 1, slots := 128, locals := 33 } : Room).slots (Q4 Z ob pn ab us cp fa kk nw h0 n0) T1 (mkF m 4 #[.val (.ref ob), .val (.int pn)] [(.int us)])
  refine own_iloadN X1 hx (hb hby d4_4) (v := pn) rfl (rfl : 4 + 1 = 5) ?_
  refine own_iadd X1 hx (hb hby d4_5) (rfl : 5 + 1 = 6) ?_
  refine own_aloadN X1 hx (hb hby d4_6) (v := (.ref ob)) rfl rfl (rfl : 6 + 1 = 7) ?_
  obtain ⟨T2, X2, e2, st2⟩ := getF X1 hx hZ hown (host := "") (Or.inl (hw _ (List.mem_of_getElem? (i := 11) rfl))) Via.refl e1 f_F_ob_bytes (g := (mkF m 7 #[.val (.ref ob), .val (.int pn)] [(.ref ob), (.int (us + pn))])) rfl rfl (hb hby d4_7)
  refine own_W.step st2 ?_
  show own_W p e (FrameEnd s) below ({ frames := 2, cells := 1, slots := 128, locals := 33 } : Room).cells ({ frames := 2, cells := 1, slots := 128, locals := 33 } : Room).slots (Q4 Z ob pn ab us cp fa kk nw h0 n0) T2 (mkF m 10 #[.val (.ref ob), .val (.int pn)] [(.ref ab), (.int (us + pn))])
  refine own_alen X2 hx hZ e2 f_A_ab (z := (Int32.ofNat (cp))) rfl (g := (mkF m 10 #[.val (.ref ob), .val (.int pn)] [(.ref ab), (.int (us + pn))])) rfl rfl (hb hby d4_10) ?_
  show own_W p e (FrameEnd s) below ({ frames := 2, cells := 1, slots := 128, locals := 33 } : Room).cells ({ frames := 2, cells := 1, slots := 128, locals := 33 } : Room).slots (Q4 Z ob pn ab us cp fa kk nw h0 n0) T2 (mkF m 11 #[.val (.ref ob), .val (.int pn)] [(.int (Int32.ofNat (cp))), (.int (us + pn))])
  by_cases hc11 : (Int32.ofNat (cp)) < (us + pn)
  · skip
    refine own_icmpNo X2 hx (hb hby d4_11) (tlt hc11).2.2.2 (rfl : 11 + 3 = 14) ?_
    have hgt : ¬ (kk + nw ≤ cp) := by have z := hc11; rw [Int32.lt_iff_toInt_lt, hadd, hlen] at z; omega
    refine own_aloadN X2 hx (hb hby d4_14) (v := (.ref ob)) rfl rfl (rfl : 14 + 1 = 15) ?_
    refine own_aloadN X2 hx (hb hby d4_15) (v := (.ref ob)) rfl rfl (rfl : 15 + 1 = 16) ?_
    obtain ⟨T4, X4, e4, st4⟩ := getF X2 hx hZ hown (host := "") (Or.inl (hw _ (List.mem_of_getElem? (i := 11) rfl))) Via.refl e2 f_F_ob_bytes (g := (mkF m 16 #[.val (.ref ob), .val (.int pn)] [(.ref ob), (.ref ob)])) rfl rfl (hb hby d4_16)
    refine own_W.step st4 ?_
    show own_W p e (FrameEnd s) below ({ frames := 2, cells := 1, slots := 128, locals := 33 } : Room).cells ({ frames := 2, cells := 1, slots := 128, locals := 33 } : Room).slots (Q4 Z ob pn ab us cp fa kk nw h0 n0) T4 (mkF m 19 #[.val (.ref ob), .val (.int pn)] [(.ref ab), (.ref ob)])
    refine own_aloadN X4 hx (hb hby d4_19) (v := (.ref ob)) rfl rfl (rfl : 19 + 1 = 20) ?_
    obtain ⟨T5, X5, e5, st5⟩ := getF X4 hx hZ hown (host := "") (Or.inl (hw _ (List.mem_of_getElem? (i := 11) rfl))) Via.refl e4 f_F_ob_bytes (g := (mkF m 20 #[.val (.ref ob), .val (.int pn)] [(.ref ob), (.ref ab), (.ref ob)])) rfl rfl (hb hby d4_20)
    refine own_W.step st5 ?_
    show own_W p e (FrameEnd s) below ({ frames := 2, cells := 1, slots := 128, locals := 33 } : Room).cells ({ frames := 2, cells := 1, slots := 128, locals := 33 } : Room).slots (Q4 Z ob pn ab us cp fa kk nw h0 n0) T5 (mkF m 23 #[.val (.ref ob), .val (.int pn)] [(.ref ab), (.ref ab), (.ref ob)])
    refine own_alen X5 hx hZ e5 f_A_ab (z := (Int32.ofNat (cp))) rfl (g := (mkF m 23 #[.val (.ref ob), .val (.int pn)] [(.ref ab), (.ref ab), (.ref ob)])) rfl rfl (hb hby d4_23) ?_
    show own_W p e (FrameEnd s) below ({ frames := 2, cells := 1, slots := 128, locals := 33 } : Room).cells ({ frames := 2, cells := 1, slots := 128, locals := 33 } : Room).slots (Q4 Z ob pn ab us cp fa kk nw h0 n0) T5 (mkF m 24 #[.val (.ref ob), .val (.int pn)] [(.int (Int32.ofNat (cp))), (.ref ab), (.ref ob)])
    refine own_iconst X5 hx (hb hby d4_24) (2 : Int32) (by first | rfl | decide) (rfl : 24 + 1 = 25) ?_
    refine own_imul X5 hx (hb hby d4_25) (rfl : 25 + 1 = 26) ?_
    have hdbl : (Int32.ofNat (cp) * (2 : Int32)).toInt = ((2 * cp : Nat) : Int) := by have e := c_imul (Int32.ofNat (cp)) (2 : Int32); have r := rng32 (Int32.ofNat (cp) * (2 : Int32)); rw [show (2 : Int32).toInt = 2 from by decide, hlen] at e; omega
    refine own_aloadN X5 hx (hb hby d4_26) (v := (.ref ob)) rfl rfl (rfl : 26 + 1 = 27) ?_
    obtain ⟨T7, X7, e7, st7⟩ := getF X5 hx hZ hown (host := "") (Or.inl (hw _ (List.mem_of_getElem? (i := 22) rfl))) Via.refl e5 f_F_ob_size (g := (mkF m 27 #[.val (.ref ob), .val (.int pn)] [(.ref ob), (.int ((Int32.ofNat (cp)) * (2 : Int32))), (.ref ab), (.ref ob)])) rfl rfl (hb hby d4_27)
    refine own_W.step st7 ?_
    show own_W p e (FrameEnd s) below ({ frames := 2, cells := 1, slots := 128, locals := 33 } : Room).cells ({ frames := 2, cells := 1, slots := 128, locals := 33 } : Room).slots (Q4 Z ob pn ab us cp fa kk nw h0 n0) T7 (mkF m 30 #[.val (.ref ob), .val (.int pn)] [(.int us), (.int ((Int32.ofNat (cp)) * (2 : Int32))), (.ref ab), (.ref ob)])
    refine own_iloadN X7 hx (hb hby d4_30) (v := pn) rfl (rfl : 30 + 1 = 31) ?_
    refine own_iadd X7 hx (hb hby d4_31) (rfl : 31 + 1 = 32) ?_
    obtain ⟨_, _, ⟨T8, L8, k8, n8⟩, -, X8, ⟨Lc8, hQ8, l8, y8, z8⟩, st8⟩ := Jvm.LawKit.callS X7 hx (y := (⟨"java/lang/Math", "max", "(II)I"⟩ : MethodName)) hown (mvT hZ (hw _ (List.mem_of_getElem? (i := 56) rfl))) (mvT hZ (hw _ (List.mem_of_getElem? (i := 57) rfl))) (mvT hZ (hw _ (List.mem_of_getElem? (i := 49) rfl))) (mvT hZ (hw _ (List.mem_of_getElem? (i := 58) rfl))) (by decide) (backOf (W := 2) (rm11 l Z a0 hw [] ((Int32.ofNat (cp)) * (2 : Int32)) (us + pn)  h0 n0 Z0 ) hZ (hw _ (List.mem_of_getElem? (i := 58) rfl)) (hw _ (List.mem_of_getElem? (i := 49) rfl)) (by decide) (by decide)) (g := (mkF m 32 #[.val (.ref ob), .val (.int pn)] [(.int (us + pn)), (.int ((Int32.ofNat (cp)) * (2 : Int32))), (.ref ab), (.ref ob)])) rfl (by rw [hml]; rfl) (argsL := [(.int ((Int32.ofNat (cp)) * (2 : Int32))), (.int (us + pn))]) (rest := [(.ref ab), (.ref ob)]) (lenOf own_pd__II_I rfl) rfl (by show 2 * 0 + _ ≤ _; exact Nat.le_of_eq rfl) (hb hby d4_32) (fun _ _ => ⟨rfl, e7, (by decide : 0 + 0 ≤ _), (by decide : 0 + 0 ≤ _)⟩)
    dsimp only [Pt.U, Pt.locs, Pt.cells, Pt.slots] at X8 l8 y8 z8 st8 hQ8
    subst l8 y8 z8
    obtain ⟨rfl, N8q, e8⟩ := hQ8
    have N8 := Fr.app N0 N8q
    refine own_W.step st8 ?_
    show own_W p e (FrameEnd s) below ({ frames := 2, cells := 1, slots := 128, locals := 33 } : Room).cells ({ frames := 2, cells := 1, slots := 128, locals := 33 } : Room).slots (Q4 Z ob pn ab us cp fa kk nw h0 n0) T8 (mkF m 35 #[.val (.ref ob), .val (.int pn)] [(.int (own_imax ((Int32.ofNat (cp)) * (2 : Int32)) (us + pn))), (.ref ab), (.ref ob)])
    obtain ⟨_, _, ⟨T9, L9, k9, n9⟩, -, X9, ⟨Lc9, hQ9, l9, y9, z9⟩, st9⟩ := Jvm.LawKit.callS X8 hx (y := (⟨"java/util/Arrays", "copyOf", "([BI)[B"⟩ : MethodName)) hown (mvT hZ (hw _ (List.mem_of_getElem? (i := 43) rfl))) (mvT hZ (hw _ (List.mem_of_getElem? (i := 44) rfl))) (mvT hZ (hw _ (List.mem_of_getElem? (i := 45) rfl))) (mvT hZ (hw _ (List.mem_of_getElem? (i := 46) rfl))) (by decide) (backOf (W := 1) (rm8 l Z a0 hw [] ab (own_imax ((Int32.ofNat (cp)) * (2 : Int32)) (us + pn)) (cp) fa (if 2 * cp < kk + nw then kk + nw else 2 * cp) h0 n0 Z0 f_E_ab f_A_ab (by omega) (own_maxV hdbl hadd) (by unfold own_cap at hb2; rw [if_neg hgt] at hb2; exact hb2)) hZ (hw _ (List.mem_of_getElem? (i := 46) rfl)) (hw _ (List.mem_of_getElem? (i := 45) rfl)) (by decide) (by decide)) (g := (mkF m 35 #[.val (.ref ob), .val (.int pn)] [(.int (own_imax ((Int32.ofNat (cp)) * (2 : Int32)) (us + pn))), (.ref ab), (.ref ob)])) rfl (by rw [hml]; rfl) (argsL := [(.ref ab), (.int (own_imax ((Int32.ofNat (cp)) * (2 : Int32)) (us + pn)))]) (rest := [(.ref ob)]) (lenOf own_pd___BI__B rfl) rfl (by show 2 * 0 + _ ≤ _; exact Nat.le_of_eq rfl) (hb hby d4_35) (fun _ _ => ⟨rfl, e8, (by decide : 0 + 1 ≤ _), (by decide : 0 + 128 ≤ _)⟩)
    dsimp only [Pt.U, Pt.locs, Pt.cells, Pt.slots] at X9 l9 y9 z9 st9 hQ9
    subst l9 y9 z9
    obtain ⟨br9, rfl, N9q, K9, sz9_br, fq9_0, fq9_1⟩ := hQ9
    have N9 := Fr.app N8 N9q
    have ne_ob_br9 : ob ≠ br9 := Nat.ne_of_lt (Nat.lt_of_lt_of_le f_E_ob.lt sz9_br)
    have ne_ab_br9 : ab ≠ br9 := Nat.ne_of_lt (Nat.lt_of_lt_of_le f_E_ab.lt sz9_br)
    have sz_br9 : h0.size ≤ br9 := Nat.le_trans K0.1 sz9_br
    have g_br9 : n0 ≤ br9 := Nat.le_trans Z0 sz9_br
    have f9_E_ob : Exa Z T9.heap ob "com/example/galapagos/galapagos/ByteWriter" := f_E_ob.keep K9
    have f9_F_ob_bytes : Fld Z T9.heap ob "com/example/galapagos/galapagos/ByteWriter" "bytes" "[B" (.ref ab) := f_F_ob_bytes.keep K9 nin0
    have f9_F_ob_size : Fld Z T9.heap ob "com/example/galapagos/galapagos/ByteWriter" "size" "I" (.int us) := f_F_ob_size.keep K9 nin0
    have f9_E_ab : Exa Z T9.heap ab "[B" := f_E_ab.keep K9
    have f9_A_ab : own_A Z T9.heap ab .byte (cp) (fun z => .int (fa z)) := f_A_ab.keep K9 nin0
    have f9_K : Keep h0 T9.heap [ob] := K0.trans K9 all0
    have z9c : n0 ≤ T9.heap.size := Nat.le_trans Z0 K9.1
    refine own_W.step st9 ?_
    show own_W p e (FrameEnd s) below ({ frames := 2, cells := 1, slots := 128, locals := 33 } : Room).cells ({ frames := 2, cells := 1, slots := 128, locals := 33 } : Room).slots (Q4 Z ob pn ab us cp fa kk nw h0 n0) T9 (mkF m 38 #[.val (.ref ob), .val (.int pn)] [(.ref br9), (.ref ob)])
    obtain ⟨T10, h10, X10, e10, W10, st10⟩ := putF X9 hx hZ hown (host := "") (Or.inl (hw _ (List.mem_of_getElem? (i := 11) rfl))) Via.refl rfl f9_F_ob_bytes f9_E_ob (Or.inl (hw _ (List.mem_of_getElem? (i := 12) rfl))) (hw _ (List.mem_of_getElem? (i := 3) rfl)) (ty := (.array .byte)) (by decide) rfl rfl (g := (mkF m 38 #[.val (.ref ob), .val (.int pn)] [(.ref br9), (.ref ob)])) rfl rfl (hb hby d4_38)
    refine own_W.step st10 ?_
    have N10 := Fr.snoc X10 N9 g_ob
    have f10_E_ob : Exa Z h10 ob "com/example/galapagos/galapagos/ByteWriter" := f9_E_ob.wr W10
    have f10_F_ob_size : Fld Z h10 ob "com/example/galapagos/galapagos/ByteWriter" "size" "I" (.int us) := f9_F_ob_size.other W10 (Or.inr (slot_ne (Or.inl (hw _ (List.mem_of_getElem? (i := 23) rfl))) (Or.inl (hw _ (List.mem_of_getElem? (i := 12) rfl))) (by decide) (t := .int) (t' := (.array .byte)) (by decide) (by decide)))
    have f10_E_ab : Exa Z h10 ab "[B" := f9_E_ab.wr W10
    have f10_A_ab : own_A Z h10 ab .byte (cp) (fun z => .int (fa z)) := f9_A_ab.other W10 (Ne.symm hne)
    have f10_K : Keep h0 h10 [ob] := f9_K.wr W10 (Or.inl (by simp))
    have f10_E_br9 : Exa Z h10 br9 "[B" := fq9_0.wr W10
    have f10_A_br9 : own_A Z h10 br9 .byte ((if 2 * cp < kk + nw then kk + nw else 2 * cp)) (fun z => .int (own_pre fa (cp) z)) := fq9_1.other W10 (Ne.symm ne_ob_br9)
    have fw10 : Fld Z h10 ob "com/example/galapagos/galapagos/ByteWriter" "bytes" "[B" (.ref br9) := f9_F_ob_bytes.same W10
    have z10 : n0 ≤ h10.size := by rw [W10.size]; exact z9c
    show own_W p e (FrameEnd s) below ({ frames := 2, cells := 1, slots := 128, locals := 33 } : Room).cells ({ frames := 2, cells := 1, slots := 128, locals := 33 } : Room).slots (Q4 Z ob pn ab us cp fa kk nw h0 n0) T10 (mkF m 41 #[.val (.ref ob), .val (.int pn)] [])
    refine own_retV X10 hx hlk hret (hb hby d4_41) (by decide) (by decide) ?_
    show Q4 Z ob pn ab us cp fa kk nw h0 n0 none T10.heap _
    rw [e10]
    exact ⟨br9, rfl, N10, f10_K, f10_E_ob, fw10, f10_F_ob_size, f10_E_br9, (by rw [show own_cap cp (kk + nw) = (if 2 * cp < kk + nw then kk + nw else 2 * cp) from if_neg (by omega)]; exact f10_A_br9.congr (fun z hz => congrArg Value.int (if_neg hgt).symm)), Or.inr sz_br9, ne_ob_br9, g_br9⟩
  · skip
    refine own_icmpYes X2 hx (hb hby d4_11) (flt hc11).2.2.2 (pc' := 41) (by decide) (by decide) ?_
    have hgt : kk + nw ≤ cp := by have z := hc11; rw [Int32.lt_iff_toInt_lt, hadd, hlen] at z; omega
    refine own_retV X2 hx hlk hret (hb hby d4_41) (by decide) (by decide) ?_
    show Q4 Z ob pn ab us cp fa kk nw h0 n0 none T2.heap _
    rw [e2]
    exact ⟨ab, rfl, N0, K0, f_E_ob, f_F_ob_bytes, f_F_ob_size, f_E_ab, (by rw [show own_cap cp (kk + nw) = cp from if_pos (by omega)]; exact f_A_ab.congr (fun z hz => congrArg Value.int (if_pos (by omega)).symm)), Or.inl rfl, hne, g_ab⟩
theorem own_pd__I_V : parseMethodDescriptor "(I)V" = some ⟨[.int], none⟩ := by decide +kernel
theorem d5_0 : decode prog_1_method_2_code 0 = .ok (.aload_n 0, 1) := by decide +kernel
theorem d5_1 : decode prog_1_method_2_code 1 = .ok (.iconst 1, 1) := by decide +kernel
theorem d5_2 : decode prog_1_method_2_code 2 = .ok (.invokevirtual 13, 3) := by decide +kernel
theorem d5_5 : decode prog_1_method_2_code 5 = .ok (.aload_n 0, 1) := by decide +kernel
theorem d5_6 : decode prog_1_method_2_code 6 = .ok (.getfield 7, 3) := by decide +kernel
theorem d5_9 : decode prog_1_method_2_code 9 = .ok (.aload_n 0, 1) := by decide +kernel
theorem d5_10 : decode prog_1_method_2_code 10 = .ok (.dup, 1) := by decide +kernel
theorem d5_11 : decode prog_1_method_2_code 11 = .ok (.getfield 17, 3) := by decide +kernel
theorem d5_14 : decode prog_1_method_2_code 14 = .ok (.dup_x1, 1) := by decide +kernel
theorem d5_15 : decode prog_1_method_2_code 15 = .ok (.iconst 1, 1) := by decide +kernel
theorem d5_16 : decode prog_1_method_2_code 16 = .ok (.iadd, 1) := by decide +kernel
theorem d5_17 : decode prog_1_method_2_code 17 = .ok (.putfield 17, 3) := by decide +kernel
theorem d5_20 : decode prog_1_method_2_code 20 = .ok (.iload_n 1, 1) := by decide +kernel
theorem d5_21 : decode prog_1_method_2_code 21 = .ok (.i2b, 1) := by decide +kernel
theorem d5_22 : decode prog_1_method_2_code 22 = .ok (.bastore, 1) := by decide +kernel
theorem d5_23 : decode prog_1_method_2_code 23 = .ok (.return_, 1) := by decide +kernel
theorem ef_5 (m : MethodId) (ob : Addr) (pv : Int32) : entryFrame m #[(.ref ob), (.int pv)] 2 = mkF m 0 #[.val (.ref ob), .val (.int pv)] [] := by first | (simp [entryFrame, mkF, argsToLocals, Value.category]; done) | rfl
def Q5 (Z : State) (ob : Addr) (pv : Int32) (ab : Addr) (us : Int32) (cp : Nat) (fa : Nat → Int32) (kk : Nat) (h0 : Heap) (n0 : Nat) (v : Option Value) (h : Heap) (L : List Loc) : Prop := ∃ (an : Addr), v = none ∧ Fr n0 L ∧ Keep h0 h [ob, ab] ∧ Exa Z h ob "com/example/galapagos/galapagos/ByteWriter" ∧ Fld Z h ob "com/example/galapagos/galapagos/ByteWriter" "bytes" "[B" (.ref an) ∧ Fld Z h ob "com/example/galapagos/galapagos/ByteWriter" "size" "I" (.int (us + (1 : Int32))) ∧ Exa Z h an "[B" ∧ own_A Z h an .byte (own_cap cp (kk + 1)) (fun z => .int (own_up (own_gr fa cp (kk + 1)) kk (pv.toInt8.toInt32) z)) ∧ (an = ab ∨ h0.size ≤ an) ∧ (ob ≠ an) ∧ (n0 ≤ an)
set_option maxRecDepth 65536 in
set_option maxHeartbeats 40000000 in
theorem rm5 (l : Launch) (Z : State) (a0 : Array Value) (hw : ∀ d ∈ tables_1, d.before a0 Z = true) (ws : List Jvm.Cond) (ob : Addr) (pv : Int32) (ab : Addr) (us : Int32) (cp : Nat) (fa : Nat → Int32) (kk : Nat) (h0 : Heap) (n0 : Nat) (Z0 : n0 ≤ h0.size) (f_E_ob : Exa Z h0 ob "com/example/galapagos/galapagos/ByteWriter") (f_F_ob_bytes : Fld Z h0 ob "com/example/galapagos/galapagos/ByteWriter" "bytes" "[B" (.ref ab)) (f_F_ob_size : Fld Z h0 ob "com/example/galapagos/galapagos/ByteWriter" "size" "I" (.int us)) (f_E_ab : Exa Z h0 ab "[B") (f_A_ab : own_A Z h0 ab .byte (cp) (fun z => .int (fa z))) (g_ob : n0 ≤ ob) (g_ab : n0 ≤ ab) (hne : ob ≠ ab) (hus : us.toInt = (kk : Int)) (hb1 : kk + 1 ≤ 73) (hb2 : own_cap cp (kk + 1) ≤ 128) (hb3 : cp < 1000) :
    MetFree l (⟨"com/example/galapagos/galapagos/ByteWriter", "writeByte", "(I)V"⟩ : MethodName) (head1 (Jvm.Cond.code (⟨"com/example/galapagos/galapagos/ByteWriter", "writeByte", "(I)V"⟩ : MethodName) prog_1_method_2_code 2 none :: ws) ({ frames := 3, cells := 1, slots := 128, locals := 46 } : Room)) (fun avs U => avs = #[(.ref ob), (.int pv)] ∧ Z.Warmed39 U.vm ∧ U.heap = h0) (fun _ _ _ _ _ => True) (fun _ U o U' => ∃ v L, o = .returned v ∧ Q5 Z ob pv ab us cp fa kk h0 n0 v U'.heap L ∧ FrameEnd U o U' L ({ frames := 3, cells := 1, slots := 128, locals := 46 } : Room).cells ({ frames := 3, cells := 1, slots := 128, locals := 46 } : Room).slots) := by
  refine MetFree.of_bodySF (plainFor_of_name own_pn_com_example_galapagos_galapagos_ByteWriter) hisR ?_
  intro p e s m args below meth c s₁ Bd hml0 hP hK
  obtain ⟨rfl, hZ, hh⟩ := hP
  have hx := Bd.exec
  have hby := Bd.bytes
  have hml : c.maxLocals = 2 := hml0
  have hown : s.vm.findClass "com/example/galapagos/galapagos/ByteWriter" = some m.cls := findClass_of_methodNamed Bd.named
  have hnm := (name_of_methodNamed Bd.named Bd.method).1
  have hlk := Bd.notSynchronized
  have hret := Bd.returns
  have X0 : Stand p l e ({ frames := 3, cells := 1, slots := 128, locals := 46 } : Room) s m #[(.ref ob), (.int pv)] below meth c s₁ [] 0 0 := Stand.of_body Bd
  have e0 : s₁.heap = h0 := by rw [← hh, Bd.state]; rfl
  have N0 := Fr.nil n0
  show own_W p e (FrameEnd s) below ({ frames := 3, cells := 1, slots := 128, locals := 46 } : Room).cells ({ frames := 3, cells := 1, slots := 128, locals := 46 } : Room).slots (Q5 Z ob pv ab us cp fa kk h0 n0) s₁ (entryFrame m #[(.ref ob), (.int pv)] 2)
  rw [ef_5]
  have K0 : Keep h0 h0 [ob, ab] := Keep.refl h0 _
  refine own_aloadN X0 hx (hb hby d5_0) (v := (.ref ob)) rfl rfl (rfl : 0 + 1 = 1) ?_
  refine own_iconst X0 hx (hb hby d5_1) (1 : Int32) (by first | rfl | decide) (rfl : 1 + 1 = 2) ?_
  obtain ⟨cq1, q1, q1'⟩ := f_E_ob.cell
  obtain ⟨_, _, ⟨T1, L1, k1, n1⟩, -, X1, ⟨Lc1, hQ1, l1, y1, z1⟩, st1⟩ := X0.privateBack hx (y := (⟨"com/example/galapagos/galapagos/ByteWriter", "reserve", "(I)V"⟩ : MethodName)) hown (mvT hZ (hw _ (List.mem_of_getElem? (i := 18) rfl))) (mvT hZ (hw _ (List.mem_of_getElem? (i := 19) rfl))) (mvT hZ (own_selP (hw _ (List.mem_of_getElem? (i := 20) rfl)) (hw _ (List.mem_of_getElem? (i := 19) rfl)) (hw _ (List.mem_of_getElem? (i := 3) rfl)) (by decide))) (Cond.privateMethod_at (mvP hZ (hw _ (List.mem_of_getElem? (i := 20) rfl)) (args := #[]))) (mvT hZ (hw _ (List.mem_of_getElem? (i := 21) rfl))) (by decide) (backOf (W := 0) (rm4 l Z a0 hw [] ob (1 : Int32) ab us (cp) fa kk 1 h0 n0 Z0 f_E_ob f_F_ob_bytes f_F_ob_size f_E_ab f_A_ab g_ob g_ab (hne) (hus) (by decide) (hb1) (hb2) (hb3)) hZ (hw _ (List.mem_of_getElem? (i := 21) rfl)) (hw _ (List.mem_of_getElem? (i := 4) rfl)) (by decide) (by decide)) (g := (mkF m 2 #[.val (.ref ob), .val (.int pv)] [(.int (1 : Int32)), (.ref ob)])) rfl (by rw [hml]; rfl) (Steps.refl _) (a := ob) (by rw [e0]; exact q1) q1' (argsL := [(.int (1 : Int32))]) (rest := []) (lenOf own_pd__I_V rfl) rfl (by show 2 * 0 + _ ≤ _; exact Nat.le_of_eq rfl) (hb hby d5_2) (fun _ _ => ⟨rfl, e0, (by decide : 0 + 1 ≤ _), (by decide : 0 + 128 ≤ _)⟩)
  dsimp only [Pt.U, Pt.locs, Pt.cells, Pt.slots] at X1 l1 y1 z1 st1 hQ1
  subst l1 y1 z1
  obtain ⟨an1, rfl, N1q, K1, fq1_0, fq1_1, fq1_2, fq1_3, fq1_4, hold_1, hnw_1, hbs_1⟩ := hQ1
  have N1 := Fr.app N0 N1q
  have f1_E_ob : Exa Z T1.heap ob "com/example/galapagos/galapagos/ByteWriter" := f_E_ob.keep K1
  have f1_E_ab : Exa Z T1.heap ab "[B" := f_E_ab.keep K1
  have f1_A_ab : own_A Z T1.heap ab .byte (cp) (fun z => .int (fa z)) := f_A_ab.keep K1 (ninS (Ne.symm hne) nin0)
  have f1_K : Keep h0 T1.heap [ob, ab] := K0.trans K1 (allS (Or.inl (by simp)) all0)
  have z1c : n0 ≤ T1.heap.size := Nat.le_trans Z0 K1.1
  refine own_W.steps st1 ?_
  show own_W p e (FrameEnd s) below ({ frames := 3, cells := 1, slots := 128, locals := 46 } : Room).cells ({ frames := 3, cells := 1, slots := 128, locals := 46 } : Room).slots (Q5 Z ob pv ab us cp fa kk h0 n0) T1 (mkF m 5 #[.val (.ref ob), .val (.int pv)] [])
  have g_an1 := hbs_1
  refine own_aloadN X1 hx (hb hby d5_5) (v := (.ref ob)) rfl rfl (rfl : 5 + 1 = 6) ?_
  obtain ⟨T2, X2, e2, st2⟩ := getF X1 hx hZ hown (host := "") (Or.inl (hw _ (List.mem_of_getElem? (i := 11) rfl))) Via.refl rfl fq1_1 (g := (mkF m 6 #[.val (.ref ob), .val (.int pv)] [(.ref ob)])) rfl rfl (hb hby d5_6)
  refine own_W.step st2 ?_
  show own_W p e (FrameEnd s) below ({ frames := 3, cells := 1, slots := 128, locals := 46 } : Room).cells ({ frames := 3, cells := 1, slots := 128, locals := 46 } : Room).slots (Q5 Z ob pv ab us cp fa kk h0 n0) T2 (mkF m 9 #[.val (.ref ob), .val (.int pv)] [(.ref an1)])
  refine own_aloadN X2 hx (hb hby d5_9) (v := (.ref ob)) rfl rfl (rfl : 9 + 1 = 10) ?_
  refine own_dup X2 hx (hb hby d5_10) rfl (rfl : 10 + 1 = 11) ?_
  obtain ⟨T3, X3, e3, st3⟩ := getF X2 hx hZ hown (host := "") (Or.inl (hw _ (List.mem_of_getElem? (i := 22) rfl))) Via.refl e2 fq1_2 (g := (mkF m 11 #[.val (.ref ob), .val (.int pv)] [(.ref ob), (.ref ob), (.ref an1)])) rfl rfl (hb hby d5_11)
  refine own_W.step st3 ?_
  show own_W p e (FrameEnd s) below ({ frames := 3, cells := 1, slots := 128, locals := 46 } : Room).cells ({ frames := 3, cells := 1, slots := 128, locals := 46 } : Room).slots (Q5 Z ob pv ab us cp fa kk h0 n0) T3 (mkF m 14 #[.val (.ref ob), .val (.int pv)] [(.int us), (.ref ob), (.ref an1)])
  refine own_dupX1 X3 hx (hb hby d5_14) rfl rfl (rfl : 14 + 1 = 15) ?_
  refine own_iconst X3 hx (hb hby d5_15) (1 : Int32) (by first | rfl | decide) (rfl : 15 + 1 = 16) ?_
  refine own_iadd X3 hx (hb hby d5_16) (rfl : 16 + 1 = 17) ?_
  obtain ⟨T4, h4, X4, e4, W4, st4⟩ := putF X3 hx hZ hown (host := "") (Or.inl (hw _ (List.mem_of_getElem? (i := 22) rfl))) Via.refl e3 fq1_2 fq1_0 (Or.inl (hw _ (List.mem_of_getElem? (i := 23) rfl))) (hw _ (List.mem_of_getElem? (i := 3) rfl)) (ty := .int) (by decide) rfl rfl (g := (mkF m 17 #[.val (.ref ob), .val (.int pv)] [(.int (us + (1 : Int32))), (.ref ob), (.int us), (.ref an1)])) rfl rfl (hb hby d5_17)
  refine own_W.step st4 ?_
  have N4 := Fr.snoc X4 N1 g_ob
  have f4_E_ob : Exa Z h4 ob "com/example/galapagos/galapagos/ByteWriter" := fq1_0.wr W4
  have f4_K : Keep h0 h4 [ob, ab] := f1_K.wr W4 (Or.inl (by simp))
  have f4_F_ob_bytes : Fld Z h4 ob "com/example/galapagos/galapagos/ByteWriter" "bytes" "[B" (.ref an1) := fq1_1.other W4 (Or.inr (slot_ne (Or.inl (hw _ (List.mem_of_getElem? (i := 12) rfl))) (Or.inl (hw _ (List.mem_of_getElem? (i := 23) rfl))) (by decide) (t := (.array .byte)) (t' := .int) (by decide) (by decide)))
  have f4_E_an1 : Exa Z h4 an1 "[B" := fq1_3.wr W4
  have f4_A_an1 : own_A Z h4 an1 .byte (own_cap (cp) (kk + 1)) (fun z => .int (own_gr fa (cp) (kk + 1) z)) := fq1_4.other W4 (Ne.symm hnw_1)
  have fw4 : Fld Z h4 ob "com/example/galapagos/galapagos/ByteWriter" "size" "I" (.int (us + (1 : Int32))) := fq1_2.same W4
  have z4 : n0 ≤ h4.size := by rw [W4.size]; exact z1c
  show own_W p e (FrameEnd s) below ({ frames := 3, cells := 1, slots := 128, locals := 46 } : Room).cells ({ frames := 3, cells := 1, slots := 128, locals := 46 } : Room).slots (Q5 Z ob pv ab us cp fa kk h0 n0) T4 (mkF m 20 #[.val (.ref ob), .val (.int pv)] [(.int us), (.ref an1)])
  refine own_iloadN X4 hx (hb hby d5_20) (v := pv) rfl (rfl : 20 + 1 = 21) ?_
  refine own_i2b X4 hx (hb hby d5_21) (rfl : 21 + 1 = 22) ?_
  have hi5 : own_In us (kk) (own_cap (cp) (kk + 1)) := ⟨hus, by unfold own_cap; split; omega; split <;> omega⟩
  obtain ⟨T5, h5, X5, e5, W5, V5, st5⟩ := own_stB X4 hx hZ e4 f4_A_an1 hi5 (g := (mkF m 22 #[.val (.ref ob), .val (.int pv)] [(.int (pv.toInt8.toInt32)), (.int us), (.ref an1)])) rfl rfl (hb hby d5_22)
  refine own_W.step st5 ?_
  have N5 := Fr.snoc X5 N4 g_an1
  have f5_E_ob : Exa Z h5 ob "com/example/galapagos/galapagos/ByteWriter" := f4_E_ob.wr W5
  have f5_K : Keep h0 h5 [ob, ab] := f4_K.wr W5 (hold_1.elim (fun q => Or.inl (by simp [q])) Or.inr)
  have f5_F_ob_bytes : Fld Z h5 ob "com/example/galapagos/galapagos/ByteWriter" "bytes" "[B" (.ref an1) := f4_F_ob_bytes.other W5 (Or.inl hnw_1)
  have f5_F_ob_size : Fld Z h5 ob "com/example/galapagos/galapagos/ByteWriter" "size" "I" (.int (us + (1 : Int32))) := fw4.other W5 (Or.inl hnw_1)
  have f5_E_an1 : Exa Z h5 an1 "[B" := f4_E_an1.wr W5
  have U5 : own_A Z h5 an1 .byte (own_cap (cp) (kk + 1)) (fun z => .int (own_up (own_gr fa (cp) (kk + 1)) kk ((pv.toInt8.toInt32).toInt8.toInt32) z)) := V5.congr (fun z _ => by unfold own_up; split <;> rfl)
  have z5 : n0 ≤ h5.size := by rw [W5.size]; exact z4
  show own_W p e (FrameEnd s) below ({ frames := 3, cells := 1, slots := 128, locals := 46 } : Room).cells ({ frames := 3, cells := 1, slots := 128, locals := 46 } : Room).slots (Q5 Z ob pv ab us cp fa kk h0 n0) T5 (mkF m 23 #[.val (.ref ob), .val (.int pv)] [])
  refine own_retV X5 hx hlk hret (hb hby d5_23) (by decide) (by decide) ?_
  show Q5 Z ob pv ab us cp fa kk h0 n0 none T5.heap _
  rw [e5]
  exact ⟨an1, rfl, N5, f5_K, f5_E_ob, f5_F_ob_bytes, f5_F_ob_size, f5_E_an1, (U5.congr (fun z _ => congrArg Value.int (by rw [Int8.toInt8_toInt32]))), hold_1, hnw_1, hbs_1⟩
theorem d3_0 : decode prog_1_method_4_code 0 = .ok (.aload_n 0, 1) := by decide +kernel
theorem d3_1 : decode prog_1_method_4_code 1 = .ok (.iload_n 3, 1) := by decide +kernel
theorem d3_2 : decode prog_1_method_4_code 2 = .ok (.invokevirtual 13, 3) := by decide +kernel
theorem d3_5 : decode prog_1_method_4_code 5 = .ok (.aload_n 1, 1) := by decide +kernel
theorem d3_6 : decode prog_1_method_4_code 6 = .ok (.iload_n 2, 1) := by decide +kernel
theorem d3_7 : decode prog_1_method_4_code 7 = .ok (.aload_n 0, 1) := by decide +kernel
theorem d3_8 : decode prog_1_method_4_code 8 = .ok (.getfield 7, 3) := by decide +kernel
theorem d3_11 : decode prog_1_method_4_code 11 = .ok (.aload_n 0, 1) := by decide +kernel
theorem d3_12 : decode prog_1_method_4_code 12 = .ok (.getfield 17, 3) := by decide +kernel
theorem d3_15 : decode prog_1_method_4_code 15 = .ok (.iload_n 3, 1) := by decide +kernel
theorem d3_16 : decode prog_1_method_4_code 16 = .ok (.invokestatic 21, 3) := by decide +kernel
theorem d3_19 : decode prog_1_method_4_code 19 = .ok (.aload_n 0, 1) := by decide +kernel
theorem d3_20 : decode prog_1_method_4_code 20 = .ok (.dup, 1) := by decide +kernel
theorem d3_21 : decode prog_1_method_4_code 21 = .ok (.getfield 17, 3) := by decide +kernel
theorem d3_24 : decode prog_1_method_4_code 24 = .ok (.iload_n 3, 1) := by decide +kernel
theorem d3_25 : decode prog_1_method_4_code 25 = .ok (.iadd, 1) := by decide +kernel
theorem d3_26 : decode prog_1_method_4_code 26 = .ok (.putfield 17, 3) := by decide +kernel
theorem d3_29 : decode prog_1_method_4_code 29 = .ok (.return_, 1) := by decide +kernel
theorem ef_3 (m : MethodId) (ob : Addr) (ar : Addr) (po : Int32) (pl : Int32) : entryFrame m #[(.ref ob), (.ref ar), (.int po), (.int pl)] 4 = mkF m 0 #[.val (.ref ob), .val (.ref ar), .val (.int po), .val (.int pl)] [] := by first | (simp [entryFrame, mkF, argsToLocals, Value.category]; done) | rfl
def Q3 (Z : State) (ob : Addr) (ar : Addr) (po : Int32) (pl : Int32) (ab : Addr) (us : Int32) (cp : Nat) (fa : Nat → Int32) (kk : Nat) (fs : Nat → Int32) (nw : Nat) (h0 : Heap) (n0 : Nat) (v : Option Value) (h : Heap) (L : List Loc) : Prop := ∃ (an : Addr), v = none ∧ Fr n0 L ∧ Keep h0 h [ob, ab] ∧ Exa Z h ob "com/example/galapagos/galapagos/ByteWriter" ∧ Fld Z h ob "com/example/galapagos/galapagos/ByteWriter" "bytes" "[B" (.ref an) ∧ Fld Z h ob "com/example/galapagos/galapagos/ByteWriter" "size" "I" (.int (us + pl)) ∧ Exa Z h an "[B" ∧ own_A Z h an .byte (own_cap cp (kk + nw)) (fun z => .int (own_cpf fs (own_gr fa cp (kk + nw)) 0 kk nw z)) ∧ own_A Z h ar .byte (64) (fun z => .int (fs z)) ∧ (an = ab ∨ h0.size ≤ an) ∧ (ob ≠ an) ∧ (n0 ≤ an)
set_option maxRecDepth 65536 in
set_option maxHeartbeats 40000000 in
theorem rm3 (l : Launch) (Z : State) (a0 : Array Value) (hw : ∀ d ∈ tables_1, d.before a0 Z = true) (ws : List Jvm.Cond) (ob : Addr) (ar : Addr) (po : Int32) (pl : Int32) (ab : Addr) (us : Int32) (cp : Nat) (fa : Nat → Int32) (kk : Nat) (fs : Nat → Int32) (nw : Nat) (h0 : Heap) (n0 : Nat) (Z0 : n0 ≤ h0.size) (f_E_ob : Exa Z h0 ob "com/example/galapagos/galapagos/ByteWriter") (f_F_ob_bytes : Fld Z h0 ob "com/example/galapagos/galapagos/ByteWriter" "bytes" "[B" (.ref ab)) (f_F_ob_size : Fld Z h0 ob "com/example/galapagos/galapagos/ByteWriter" "size" "I" (.int us)) (f_E_ab : Exa Z h0 ab "[B") (f_A_ab : own_A Z h0 ab .byte (cp) (fun z => .int (fa z))) (f_A_ar : own_A Z h0 ar .byte (64) (fun z => .int (fs z))) (g_ob : n0 ≤ ob) (g_ab : n0 ≤ ab) (hne : ob ≠ ab) (hus : us.toInt = (kk : Int)) (hb1 : kk + nw ≤ 73) (hb2 : own_cap cp (kk + nw) ≤ 128) (hb3 : cp < 1000) (hnb : ar ≠ ab) (hno : ar ≠ ob) (hpo : po.toInt = ((0 : Nat) : Int)) (hpl : pl.toInt = (nw : Int)) (hnw0 : nw ≤ 64) :
    MetFree l (⟨"com/example/galapagos/galapagos/ByteWriter", "write", "([BII)V"⟩ : MethodName) (head1 (Jvm.Cond.code (⟨"com/example/galapagos/galapagos/ByteWriter", "write", "([BII)V"⟩ : MethodName) prog_1_method_4_code 4 none :: ws) ({ frames := 3, cells := 1, slots := 128, locals := 46 } : Room)) (fun avs U => avs = #[(.ref ob), (.ref ar), (.int po), (.int pl)] ∧ Z.Warmed39 U.vm ∧ U.heap = h0) (fun _ _ _ _ _ => True) (fun _ U o U' => ∃ v L, o = .returned v ∧ Q3 Z ob ar po pl ab us cp fa kk fs nw h0 n0 v U'.heap L ∧ FrameEnd U o U' L ({ frames := 3, cells := 1, slots := 128, locals := 46 } : Room).cells ({ frames := 3, cells := 1, slots := 128, locals := 46 } : Room).slots) := by
  refine MetFree.of_bodySF (plainFor_of_name own_pn_com_example_galapagos_galapagos_ByteWriter) hisR ?_
  intro p e s m args below meth c s₁ Bd hml0 hP hK
  obtain ⟨rfl, hZ, hh⟩ := hP
  have hx := Bd.exec
  have hby := Bd.bytes
  have hml : c.maxLocals = 4 := hml0
  have hown : s.vm.findClass "com/example/galapagos/galapagos/ByteWriter" = some m.cls := findClass_of_methodNamed Bd.named
  have hnm := (name_of_methodNamed Bd.named Bd.method).1
  have hlk := Bd.notSynchronized
  have hret := Bd.returns
  have X0 : Stand p l e ({ frames := 3, cells := 1, slots := 128, locals := 46 } : Room) s m #[(.ref ob), (.ref ar), (.int po), (.int pl)] below meth c s₁ [] 0 0 := Stand.of_body Bd
  have e0 : s₁.heap = h0 := by rw [← hh, Bd.state]; rfl
  have N0 := Fr.nil n0
  show own_W p e (FrameEnd s) below ({ frames := 3, cells := 1, slots := 128, locals := 46 } : Room).cells ({ frames := 3, cells := 1, slots := 128, locals := 46 } : Room).slots (Q3 Z ob ar po pl ab us cp fa kk fs nw h0 n0) s₁ (entryFrame m #[(.ref ob), (.ref ar), (.int po), (.int pl)] 4)
  rw [ef_3]
  have K0 : Keep h0 h0 [ob, ab] := Keep.refl h0 _
  refine own_aloadN X0 hx (hb hby d3_0) (v := (.ref ob)) rfl rfl (rfl : 0 + 1 = 1) ?_
  refine own_iloadN X0 hx (hb hby d3_1) (v := pl) rfl (rfl : 1 + 1 = 2) ?_
  obtain ⟨cq1, q1, q1'⟩ := f_E_ob.cell
  obtain ⟨_, _, ⟨T1, L1, k1, n1⟩, -, X1, ⟨Lc1, hQ1, l1, y1, z1⟩, st1⟩ := X0.privateBack hx (y := (⟨"com/example/galapagos/galapagos/ByteWriter", "reserve", "(I)V"⟩ : MethodName)) hown (mvT hZ (hw _ (List.mem_of_getElem? (i := 18) rfl))) (mvT hZ (hw _ (List.mem_of_getElem? (i := 19) rfl))) (mvT hZ (own_selP (hw _ (List.mem_of_getElem? (i := 20) rfl)) (hw _ (List.mem_of_getElem? (i := 19) rfl)) (hw _ (List.mem_of_getElem? (i := 3) rfl)) (by decide))) (Cond.privateMethod_at (mvP hZ (hw _ (List.mem_of_getElem? (i := 20) rfl)) (args := #[]))) (mvT hZ (hw _ (List.mem_of_getElem? (i := 21) rfl))) (by decide) (backOf (W := 0) (rm4 l Z a0 hw [] ob pl ab us (cp) fa kk nw h0 n0 Z0 f_E_ob f_F_ob_bytes f_F_ob_size f_E_ab f_A_ab g_ob g_ab (hne) (hus) (hpl) (hb1) (hb2) (hb3)) hZ (hw _ (List.mem_of_getElem? (i := 21) rfl)) (hw _ (List.mem_of_getElem? (i := 4) rfl)) (by decide) (by decide)) (g := (mkF m 2 #[.val (.ref ob), .val (.ref ar), .val (.int po), .val (.int pl)] [(.int pl), (.ref ob)])) rfl (by rw [hml]; rfl) (Steps.refl _) (a := ob) (by rw [e0]; exact q1) q1' (argsL := [(.int pl)]) (rest := []) (lenOf own_pd__I_V rfl) rfl (by show 2 * 0 + _ ≤ _; exact Nat.le_of_eq rfl) (hb hby d3_2) (fun _ _ => ⟨rfl, e0, (by decide : 0 + 1 ≤ _), (by decide : 0 + 128 ≤ _)⟩)
  dsimp only [Pt.U, Pt.locs, Pt.cells, Pt.slots] at X1 l1 y1 z1 st1 hQ1
  subst l1 y1 z1
  obtain ⟨an1, rfl, N1q, K1, fq1_0, fq1_1, fq1_2, fq1_3, fq1_4, hold_1, hnw_1, hbs_1⟩ := hQ1
  have N1 := Fr.app N0 N1q
  have f1_E_ob : Exa Z T1.heap ob "com/example/galapagos/galapagos/ByteWriter" := f_E_ob.keep K1
  have f1_E_ab : Exa Z T1.heap ab "[B" := f_E_ab.keep K1
  have f1_A_ab : own_A Z T1.heap ab .byte (cp) (fun z => .int (fa z)) := f_A_ab.keep K1 (ninS (Ne.symm hne) nin0)
  have f1_A_ar : own_A Z T1.heap ar .byte (64) (fun z => .int (fs z)) := f_A_ar.keep K1 (ninS hno nin0)
  have f1_K : Keep h0 T1.heap [ob, ab] := K0.trans K1 (allS (Or.inl (by simp)) all0)
  have z1c : n0 ≤ T1.heap.size := Nat.le_trans Z0 K1.1
  refine own_W.steps st1 ?_
  show own_W p e (FrameEnd s) below ({ frames := 3, cells := 1, slots := 128, locals := 46 } : Room).cells ({ frames := 3, cells := 1, slots := 128, locals := 46 } : Room).slots (Q3 Z ob ar po pl ab us cp fa kk fs nw h0 n0) T1 (mkF m 5 #[.val (.ref ob), .val (.ref ar), .val (.int po), .val (.int pl)] [])
  have g_an1 := hbs_1
  have ne_ar_an1 : ar ≠ an1 := hold_1.elim (fun q => by rw [q]; exact hnb) (fun q => Nat.ne_of_lt (Nat.lt_of_lt_of_le f_A_ar.lt q))
  refine own_aloadN X1 hx (hb hby d3_5) (v := (.ref ar)) rfl rfl (rfl : 5 + 1 = 6) ?_
  refine own_iloadN X1 hx (hb hby d3_6) (v := po) rfl (rfl : 6 + 1 = 7) ?_
  refine own_aloadN X1 hx (hb hby d3_7) (v := (.ref ob)) rfl rfl (rfl : 7 + 1 = 8) ?_
  obtain ⟨T2, X2, e2, st2⟩ := getF X1 hx hZ hown (host := "") (Or.inl (hw _ (List.mem_of_getElem? (i := 11) rfl))) Via.refl rfl fq1_1 (g := (mkF m 8 #[.val (.ref ob), .val (.ref ar), .val (.int po), .val (.int pl)] [(.ref ob), (.int po), (.ref ar)])) rfl rfl (hb hby d3_8)
  refine own_W.step st2 ?_
  show own_W p e (FrameEnd s) below ({ frames := 3, cells := 1, slots := 128, locals := 46 } : Room).cells ({ frames := 3, cells := 1, slots := 128, locals := 46 } : Room).slots (Q3 Z ob ar po pl ab us cp fa kk fs nw h0 n0) T2 (mkF m 11 #[.val (.ref ob), .val (.ref ar), .val (.int po), .val (.int pl)] [(.ref an1), (.int po), (.ref ar)])
  refine own_aloadN X2 hx (hb hby d3_11) (v := (.ref ob)) rfl rfl (rfl : 11 + 1 = 12) ?_
  obtain ⟨T3, X3, e3, st3⟩ := getF X2 hx hZ hown (host := "") (Or.inl (hw _ (List.mem_of_getElem? (i := 22) rfl))) Via.refl e2 fq1_2 (g := (mkF m 12 #[.val (.ref ob), .val (.ref ar), .val (.int po), .val (.int pl)] [(.ref ob), (.ref an1), (.int po), (.ref ar)])) rfl rfl (hb hby d3_12)
  refine own_W.step st3 ?_
  show own_W p e (FrameEnd s) below ({ frames := 3, cells := 1, slots := 128, locals := 46 } : Room).cells ({ frames := 3, cells := 1, slots := 128, locals := 46 } : Room).slots (Q3 Z ob ar po pl ab us cp fa kk fs nw h0 n0) T3 (mkF m 15 #[.val (.ref ob), .val (.ref ar), .val (.int po), .val (.int pl)] [(.int us), (.ref an1), (.int po), (.ref ar)])
  refine own_iloadN X3 hx (hb hby d3_15) (v := pl) rfl (rfl : 15 + 1 = 16) ?_
  obtain ⟨T4, h4, L4, X4, e4, N4, K4, V4, st4⟩ := own_cp X3 hx hZ hown (hw _ (List.mem_of_getElem? (i := 24) rfl)) (hw _ (List.mem_of_getElem? (i := 27) rfl)) (hw _ (List.mem_of_getElem? (i := 25) rfl)) (hw _ (List.mem_of_getElem? (i := 26) rfl)) e3 f1_A_ar fq1_4 (ps := 0) (pd := kk) (k := nw) hpo hus hpl (by omega) (by unfold own_cap; split; omega; split <;> omega) N1 g_an1 (g := (mkF m 16 #[.val (.ref ob), .val (.ref ar), .val (.int po), .val (.int pl)] [(.int pl), (.int us), (.ref an1), (.int po), (.ref ar)])) rfl (by rw [hml]; rfl) rfl (hb hby d3_16) (by decide) (W := 0) (by show 2 * 0 + _ ≤ _; exact Nat.le_of_eq rfl) (by decide)
  refine own_W.step st4 ?_
  have f4_E_ob : Exa Z h4 ob "com/example/galapagos/galapagos/ByteWriter" := fq1_0.keep K4
  have f4_A_ar : own_A Z h4 ar .byte (64) (fun z => .int (fs z)) := f1_A_ar.keep K4 (ninS ne_ar_an1 nin0)
  have f4_K : Keep h0 h4 [ob, ab] := f1_K.trans K4 (allS (hold_1.elim (fun q => Or.inl (by simp [q])) Or.inr) all0)
  have f4_F_ob_bytes : Fld Z h4 ob "com/example/galapagos/galapagos/ByteWriter" "bytes" "[B" (.ref an1) := fq1_1.keep K4 (ninS hnw_1 nin0)
  have f4_F_ob_size : Fld Z h4 ob "com/example/galapagos/galapagos/ByteWriter" "size" "I" (.int us) := fq1_2.keep K4 (ninS hnw_1 nin0)
  have f4_E_an1 : Exa Z h4 an1 "[B" := fq1_3.keep K4
  have U4 : own_A Z h4 an1 .byte (own_cap (cp) (kk + nw)) (fun z => .int (own_cpf fs (own_gr fa (cp) (kk + nw)) 0 kk nw z)) := V4.congr (fun z _ => by unfold own_cpf; split <;> rfl)
  have z4c : n0 ≤ h4.size := Nat.le_trans z1c K4.1
  show own_W p e (FrameEnd s) below ({ frames := 3, cells := 1, slots := 128, locals := 46 } : Room).cells ({ frames := 3, cells := 1, slots := 128, locals := 46 } : Room).slots (Q3 Z ob ar po pl ab us cp fa kk fs nw h0 n0) T4 (mkF m 19 #[.val (.ref ob), .val (.ref ar), .val (.int po), .val (.int pl)] [])
  refine own_aloadN X4 hx (hb hby d3_19) (v := (.ref ob)) rfl rfl (rfl : 19 + 1 = 20) ?_
  refine own_dup X4 hx (hb hby d3_20) rfl (rfl : 20 + 1 = 21) ?_
  obtain ⟨T5, X5, e5, st5⟩ := getF X4 hx hZ hown (host := "") (Or.inl (hw _ (List.mem_of_getElem? (i := 22) rfl))) Via.refl e4 f4_F_ob_size (g := (mkF m 21 #[.val (.ref ob), .val (.ref ar), .val (.int po), .val (.int pl)] [(.ref ob), (.ref ob)])) rfl rfl (hb hby d3_21)
  refine own_W.step st5 ?_
  show own_W p e (FrameEnd s) below ({ frames := 3, cells := 1, slots := 128, locals := 46 } : Room).cells ({ frames := 3, cells := 1, slots := 128, locals := 46 } : Room).slots (Q3 Z ob ar po pl ab us cp fa kk fs nw h0 n0) T5 (mkF m 24 #[.val (.ref ob), .val (.ref ar), .val (.int po), .val (.int pl)] [(.int us), (.ref ob)])
  refine own_iloadN X5 hx (hb hby d3_24) (v := pl) rfl (rfl : 24 + 1 = 25) ?_
  refine own_iadd X5 hx (hb hby d3_25) (rfl : 25 + 1 = 26) ?_
  obtain ⟨T6, h6, X6, e6, W6, st6⟩ := putF X5 hx hZ hown (host := "") (Or.inl (hw _ (List.mem_of_getElem? (i := 22) rfl))) Via.refl e5 f4_F_ob_size f4_E_ob (Or.inl (hw _ (List.mem_of_getElem? (i := 23) rfl))) (hw _ (List.mem_of_getElem? (i := 3) rfl)) (ty := .int) (by decide) rfl rfl (g := (mkF m 26 #[.val (.ref ob), .val (.ref ar), .val (.int po), .val (.int pl)] [(.int (us + pl)), (.ref ob)])) rfl rfl (hb hby d3_26)
  refine own_W.step st6 ?_
  have N6 := Fr.snoc X6 N4 g_ob
  have f6_E_ob : Exa Z h6 ob "com/example/galapagos/galapagos/ByteWriter" := f4_E_ob.wr W6
  have f6_A_ar : own_A Z h6 ar .byte (64) (fun z => .int (fs z)) := f4_A_ar.other W6 hno
  have f6_K : Keep h0 h6 [ob, ab] := f4_K.wr W6 (Or.inl (by simp))
  have f6_F_ob_bytes : Fld Z h6 ob "com/example/galapagos/galapagos/ByteWriter" "bytes" "[B" (.ref an1) := f4_F_ob_bytes.other W6 (Or.inr (slot_ne (Or.inl (hw _ (List.mem_of_getElem? (i := 12) rfl))) (Or.inl (hw _ (List.mem_of_getElem? (i := 23) rfl))) (by decide) (t := (.array .byte)) (t' := .int) (by decide) (by decide)))
  have f6_E_an1 : Exa Z h6 an1 "[B" := f4_E_an1.wr W6
  have f6_A_an1 : own_A Z h6 an1 .byte (own_cap (cp) (kk + nw)) (fun z => .int (own_cpf fs (own_gr fa (cp) (kk + nw)) 0 kk nw z)) := U4.other W6 (Ne.symm hnw_1)
  have fw6 : Fld Z h6 ob "com/example/galapagos/galapagos/ByteWriter" "size" "I" (.int (us + pl)) := f4_F_ob_size.same W6
  have z6 : n0 ≤ h6.size := by rw [W6.size]; exact z4c
  show own_W p e (FrameEnd s) below ({ frames := 3, cells := 1, slots := 128, locals := 46 } : Room).cells ({ frames := 3, cells := 1, slots := 128, locals := 46 } : Room).slots (Q3 Z ob ar po pl ab us cp fa kk fs nw h0 n0) T6 (mkF m 29 #[.val (.ref ob), .val (.ref ar), .val (.int po), .val (.int pl)] [])
  refine own_retV X6 hx hlk hret (hb hby d3_29) (by decide) (by decide) ?_
  show Q3 Z ob ar po pl ab us cp fa kk fs nw h0 n0 none T6.heap _
  rw [e6]
  exact ⟨an1, rfl, N6, f6_K, f6_E_ob, f6_F_ob_bytes, fw6, f6_E_an1, f6_A_an1, f6_A_ar, hold_1, hnw_1, hbs_1⟩
theorem d6_0 : decode prog_1_method_3_code 0 = .ok (.aload_n 0, 1) := by decide +kernel
theorem d6_1 : decode prog_1_method_3_code 1 = .ok (.iload_n 3, 1) := by decide +kernel
theorem d6_2 : decode prog_1_method_3_code 2 = .ok (.invokevirtual 13, 3) := by decide +kernel
theorem d6_5 : decode prog_1_method_3_code 5 = .ok (.bipush 8, 2) := by decide +kernel
theorem d6_7 : decode prog_1_method_3_code 7 = .ok (.iload_n 3, 1) := by decide +kernel
theorem d6_8 : decode prog_1_method_3_code 8 = .ok (.iconst 1, 1) := by decide +kernel
theorem d6_9 : decode prog_1_method_3_code 9 = .ok (.isub, 1) := by decide +kernel
theorem d6_10 : decode prog_1_method_3_code 10 = .ok (.imul, 1) := by decide +kernel
theorem d6_11 : decode prog_1_method_3_code 11 = .ok (.istore 4, 2) := by decide +kernel
theorem d6_13 : decode prog_1_method_3_code 13 = .ok (.iload 4, 2) := by decide +kernel
theorem d6_15 : decode prog_1_method_3_code 15 = .ok (.ifCond .lt 31, 3) := by decide +kernel
theorem d6_18 : decode prog_1_method_3_code 18 = .ok (.aload_n 0, 1) := by decide +kernel
theorem d6_19 : decode prog_1_method_3_code 19 = .ok (.getfield 7, 3) := by decide +kernel
theorem d6_22 : decode prog_1_method_3_code 22 = .ok (.aload_n 0, 1) := by decide +kernel
theorem d6_23 : decode prog_1_method_3_code 23 = .ok (.dup, 1) := by decide +kernel
theorem d6_24 : decode prog_1_method_3_code 24 = .ok (.getfield 17, 3) := by decide +kernel
theorem d6_27 : decode prog_1_method_3_code 27 = .ok (.dup_x1, 1) := by decide +kernel
theorem d6_28 : decode prog_1_method_3_code 28 = .ok (.iconst 1, 1) := by decide +kernel
theorem d6_29 : decode prog_1_method_3_code 29 = .ok (.iadd, 1) := by decide +kernel
theorem d6_30 : decode prog_1_method_3_code 30 = .ok (.putfield 17, 3) := by decide +kernel
theorem d6_33 : decode prog_1_method_3_code 33 = .ok (.lload_n 1, 1) := by decide +kernel
theorem d6_34 : decode prog_1_method_3_code 34 = .ok (.iload 4, 2) := by decide +kernel
theorem d6_36 : decode prog_1_method_3_code 36 = .ok (.lushr, 1) := by decide +kernel
theorem d6_37 : decode prog_1_method_3_code 37 = .ok (.l2i, 1) := by decide +kernel
theorem d6_38 : decode prog_1_method_3_code 38 = .ok (.i2b, 1) := by decide +kernel
theorem d6_39 : decode prog_1_method_3_code 39 = .ok (.bastore, 1) := by decide +kernel
theorem d6_40 : decode prog_1_method_3_code 40 = .ok (.iinc 4 (-8), 3) := by decide +kernel
theorem d6_43 : decode prog_1_method_3_code 43 = .ok (.goto (-30), 3) := by decide +kernel
theorem d6_46 : decode prog_1_method_3_code 46 = .ok (.return_, 1) := by decide +kernel
theorem ef_6 (m : MethodId) (ob : Addr) (qv : Int64) (pw : Int32) : entryFrame m #[(.ref ob), (.long qv), (.int pw)] 5 = mkF m 0 #[.val (.ref ob), .val (.long qv), .second, .val (.int pw), .unset] [] := by first | (simp [entryFrame, mkF, argsToLocals, Value.category]; done) | rfl
def Q6 (Z : State) (ob : Addr) (qv : Int64) (pw : Int32) (ab : Addr) (us : Int32) (cp : Nat) (fa : Nat → Int32) (kk : Nat) (nw : Nat) (h0 : Heap) (n0 : Nat) (v : Option Value) (h : Heap) (L : List Loc) : Prop := ∃ (an : Addr) (un : Int32), v = none ∧ Fr n0 L ∧ Keep h0 h [ob, ab] ∧ Exa Z h ob "com/example/galapagos/galapagos/ByteWriter" ∧ Fld Z h ob "com/example/galapagos/galapagos/ByteWriter" "bytes" "[B" (.ref an) ∧ Fld Z h ob "com/example/galapagos/galapagos/ByteWriter" "size" "I" (.int un) ∧ Exa Z h an "[B" ∧ own_A Z h an .byte (own_cap cp (kk + nw)) (fun z => .int (own_be qv nw kk (own_gr fa cp (kk + nw)) nw z)) ∧ (an = ab ∨ h0.size ≤ an) ∧ (ob ≠ an) ∧ (n0 ≤ an) ∧ (un.toInt = ((kk + nw : Nat) : Int))
set_option maxRecDepth 65536 in
set_option maxHeartbeats 40000000 in
theorem rm6 (l : Launch) (Z : State) (a0 : Array Value) (hw : ∀ d ∈ tables_1, d.before a0 Z = true) (ws : List Jvm.Cond) (ob : Addr) (qv : Int64) (pw : Int32) (ab : Addr) (us : Int32) (cp : Nat) (fa : Nat → Int32) (kk : Nat) (nw : Nat) (h0 : Heap) (n0 : Nat) (Z0 : n0 ≤ h0.size) (f_E_ob : Exa Z h0 ob "com/example/galapagos/galapagos/ByteWriter") (f_F_ob_bytes : Fld Z h0 ob "com/example/galapagos/galapagos/ByteWriter" "bytes" "[B" (.ref ab)) (f_F_ob_size : Fld Z h0 ob "com/example/galapagos/galapagos/ByteWriter" "size" "I" (.int us)) (f_E_ab : Exa Z h0 ab "[B") (f_A_ab : own_A Z h0 ab .byte (cp) (fun z => .int (fa z))) (g_ob : n0 ≤ ob) (g_ab : n0 ≤ ab) (hne : ob ≠ ab) (hus : us.toInt = (kk : Int)) (hb1 : kk + nw ≤ 73) (hb2 : own_cap cp (kk + nw) ≤ 128) (hb3 : cp < 1000) (hpw : pw.toInt = (nw : Int)) (hw8 : nw ≤ 8) :
    MetFree l (⟨"com/example/galapagos/galapagos/ByteWriter", "writeBigEndian", "(JI)V"⟩ : MethodName) (head1 (Jvm.Cond.code (⟨"com/example/galapagos/galapagos/ByteWriter", "writeBigEndian", "(JI)V"⟩ : MethodName) prog_1_method_3_code 5 none :: ws) ({ frames := 3, cells := 1, slots := 128, locals := 46 } : Room)) (fun avs U => avs = #[(.ref ob), (.long qv), (.int pw)] ∧ Z.Warmed39 U.vm ∧ U.heap = h0) (fun _ _ _ _ _ => True) (fun _ U o U' => ∃ v L, o = .returned v ∧ Q6 Z ob qv pw ab us cp fa kk nw h0 n0 v U'.heap L ∧ FrameEnd U o U' L ({ frames := 3, cells := 1, slots := 128, locals := 46 } : Room).cells ({ frames := 3, cells := 1, slots := 128, locals := 46 } : Room).slots) := by
  refine MetFree.of_bodySF (plainFor_of_name own_pn_com_example_galapagos_galapagos_ByteWriter) hisR ?_
  intro p e s m args below meth c s₁ Bd hml0 hP hK
  obtain ⟨rfl, hZ, hh⟩ := hP
  have hx := Bd.exec
  have hby := Bd.bytes
  have hml : c.maxLocals = 5 := hml0
  have hown : s.vm.findClass "com/example/galapagos/galapagos/ByteWriter" = some m.cls := findClass_of_methodNamed Bd.named
  have hnm := (name_of_methodNamed Bd.named Bd.method).1
  have hlk := Bd.notSynchronized
  have hret := Bd.returns
  have X0 : Stand p l e ({ frames := 3, cells := 1, slots := 128, locals := 46 } : Room) s m #[(.ref ob), (.long qv), (.int pw)] below meth c s₁ [] 0 0 := Stand.of_body Bd
  have e0 : s₁.heap = h0 := by rw [← hh, Bd.state]; rfl
  have N0 := Fr.nil n0
  show own_W p e (FrameEnd s) below ({ frames := 3, cells := 1, slots := 128, locals := 46 } : Room).cells ({ frames := 3, cells := 1, slots := 128, locals := 46 } : Room).slots (Q6 Z ob qv pw ab us cp fa kk nw h0 n0) s₁ (entryFrame m #[(.ref ob), (.long qv), (.int pw)] 5)
  rw [ef_6]
  have K0 : Keep h0 h0 [ob, ab] := Keep.refl h0 _
  refine own_aloadN X0 hx (hb hby d6_0) (v := (.ref ob)) rfl rfl (rfl : 0 + 1 = 1) ?_
  refine own_iloadN X0 hx (hb hby d6_1) (v := pw) rfl (rfl : 1 + 1 = 2) ?_
  obtain ⟨cq1, q1, q1'⟩ := f_E_ob.cell
  obtain ⟨_, _, ⟨T1, L1, k1, n1⟩, -, X1, ⟨Lc1, hQ1, l1, y1, z1⟩, st1⟩ := X0.privateBack hx (y := (⟨"com/example/galapagos/galapagos/ByteWriter", "reserve", "(I)V"⟩ : MethodName)) hown (mvT hZ (hw _ (List.mem_of_getElem? (i := 18) rfl))) (mvT hZ (hw _ (List.mem_of_getElem? (i := 19) rfl))) (mvT hZ (own_selP (hw _ (List.mem_of_getElem? (i := 20) rfl)) (hw _ (List.mem_of_getElem? (i := 19) rfl)) (hw _ (List.mem_of_getElem? (i := 3) rfl)) (by decide))) (Cond.privateMethod_at (mvP hZ (hw _ (List.mem_of_getElem? (i := 20) rfl)) (args := #[]))) (mvT hZ (hw _ (List.mem_of_getElem? (i := 21) rfl))) (by decide) (backOf (W := 0) (rm4 l Z a0 hw [] ob pw ab us (cp) fa kk nw h0 n0 Z0 f_E_ob f_F_ob_bytes f_F_ob_size f_E_ab f_A_ab g_ob g_ab (hne) (hus) (hpw) (hb1) (hb2) (hb3)) hZ (hw _ (List.mem_of_getElem? (i := 21) rfl)) (hw _ (List.mem_of_getElem? (i := 4) rfl)) (by decide) (by decide)) (g := (mkF m 2 #[.val (.ref ob), .val (.long qv), .second, .val (.int pw), .unset] [(.int pw), (.ref ob)])) rfl (by rw [hml]; rfl) (Steps.refl _) (a := ob) (by rw [e0]; exact q1) q1' (argsL := [(.int pw)]) (rest := []) (lenOf own_pd__I_V rfl) rfl (by show 2 * 0 + _ ≤ _; exact Nat.le_of_eq rfl) (hb hby d6_2) (fun _ _ => ⟨rfl, e0, (by decide : 0 + 1 ≤ _), (by decide : 0 + 128 ≤ _)⟩)
  dsimp only [Pt.U, Pt.locs, Pt.cells, Pt.slots] at X1 l1 y1 z1 st1 hQ1
  subst l1 y1 z1
  obtain ⟨an1, rfl, N1q, K1, fq1_0, fq1_1, fq1_2, fq1_3, fq1_4, hold_1, hnw_1, hbs_1⟩ := hQ1
  have N1 := Fr.app N0 N1q
  have f1_E_ob : Exa Z T1.heap ob "com/example/galapagos/galapagos/ByteWriter" := f_E_ob.keep K1
  have f1_E_ab : Exa Z T1.heap ab "[B" := f_E_ab.keep K1
  have f1_A_ab : own_A Z T1.heap ab .byte (cp) (fun z => .int (fa z)) := f_A_ab.keep K1 (ninS (Ne.symm hne) nin0)
  have f1_K : Keep h0 T1.heap [ob, ab] := K0.trans K1 (allS (Or.inl (by simp)) all0)
  have z1c : n0 ≤ T1.heap.size := Nat.le_trans Z0 K1.1
  refine own_W.steps st1 ?_
  show own_W p e (FrameEnd s) below ({ frames := 3, cells := 1, slots := 128, locals := 46 } : Room).cells ({ frames := 3, cells := 1, slots := 128, locals := 46 } : Room).slots (Q6 Z ob qv pw ab us cp fa kk nw h0 n0) T1 (mkF m 5 #[.val (.ref ob), .val (.long qv), .second, .val (.int pw), .unset] [])
  have g_an1 := hbs_1
  have A0 : own_A Z T1.heap an1 .byte (own_cap cp (kk + nw)) (fun z => .int (own_be qv nw kk (own_gr fa cp (kk + nw)) 0 z)) := fq1_4.congr (fun z _ => congrArg Value.int (own_be0 qv nw kk _ z))
  refine own_bipush X1 hx (hb hby d6_5) (8 : Int32) (by first | rfl | decide) (rfl : 5 + 2 = 7) ?_
  refine own_iloadN X1 hx (hb hby d6_7) (v := pw) rfl (rfl : 7 + 1 = 8) ?_
  refine own_iconst X1 hx (hb hby d6_8) (1 : Int32) (by first | rfl | decide) (rfl : 8 + 1 = 9) ?_
  refine own_isub X1 hx (hb hby d6_9) (rfl : 9 + 1 = 10) ?_
  refine own_imul X1 hx (hb hby d6_10) (rfl : 10 + 1 = 11) ?_
  refine own_istore X1 hx (hb hby d6_11) (l' := #[.val (.ref ob), .val (.long qv), .second, .val (.int pw), .val (.int ((8 : Int32) * (pw - (1 : Int32))))]) rfl (rfl : 11 + 2 = 13) ?_
  have J13 : ∀ (fuel : Nat) (sh : Int32) (it : Nat) (uz : Int32) (TJ13 : State) (hJ13 : Heap) (LJ13 : List Loc), (nw - it < fuel) → ∀ (XJ13 : Stand p l e ({ frames := 3, cells := 1, slots := 128, locals := 46 } : Room) s m #[(.ref ob), (.long qv), (.int pw)] below meth c TJ13 LJ13 1 128), ∀ (eJ13 : TJ13.heap = hJ13), ∀ (NJ13 : Fr n0 LJ13), ∀ (zJ13 : n0 ≤ hJ13.size), ∀ (fJ13_0 : Exa Z hJ13 ob "com/example/galapagos/galapagos/ByteWriter"), ∀ (fJ13_1 : Fld Z hJ13 ob "com/example/galapagos/galapagos/ByteWriter" "bytes" "[B" (.ref an1)), ∀ (fJ13_2 : Fld Z hJ13 ob "com/example/galapagos/galapagos/ByteWriter" "size" "I" (.int uz)), ∀ (fJ13_3 : Exa Z hJ13 an1 "[B"), ∀ (fJ13_4 : own_A Z hJ13 an1 .byte (own_cap cp (kk + nw)) (fun z => .int (own_be qv nw kk (own_gr fa cp (kk + nw)) it z))), ∀ (fJ13_5 : Keep h0 hJ13 [ob, ab]), ∀ (hsz : uz.toInt = ((kk + it : Nat) : Int)), ∀ (hsh : sh.toInt = 8 * ((nw : Int) - 1 - (it : Int))), ∀ (hit : it ≤ nw), own_W p e (FrameEnd s) below ({ frames := 3, cells := 1, slots := 128, locals := 46 } : Room).cells ({ frames := 3, cells := 1, slots := 128, locals := 46 } : Room).slots (Q6 Z ob qv pw ab us cp fa kk nw h0 n0) TJ13 (mkF m 13 #[.val (.ref ob), .val (.long qv), .second, .val (.int pw), .val (.int sh)] []) := by
    intro fuel
    induction fuel with
    | zero => intro sh it uz TJ13 hJ13 LJ13 hfuel; exact absurd hfuel (Nat.not_lt_zero _)
    | succ fuel ih =>
      intro sh it uz TJ13 hJ13 LJ13 hfuel XJ13 eJ13 NJ13 zJ13 fJ13_0 fJ13_1 fJ13_2 fJ13_3 fJ13_4 fJ13_5 hsz hsh hit
      refine own_iload XJ13 hx (hb hby d6_13) (v := sh) rfl (rfl : 13 + 2 = 15) ?_
      by_cases hc15 : sh < (0 : Int32)
      · skip
        refine own_ifYes XJ13 hx (hb hby d6_15) ((if0 _ _).trans (tlt hc15).1) (pc' := 46) (by decide) (by decide) ?_
        refine own_retV XJ13 hx hlk hret (hb hby d6_46) (by decide) (by decide) ?_
        show Q6 Z ob qv pw ab us cp fa kk nw h0 n0 none TJ13.heap _
        rw [eJ13]
        exact ⟨an1, uz, rfl, NJ13, fJ13_5, fJ13_0, fJ13_1, fJ13_2, fJ13_3, (fJ13_4.congr (fun z _ => by rw [show it = nw from by have q := hc15; rw [Int32.lt_iff_toInt_lt, show (0 : Int32).toInt = 0 from rfl, hsh] at q; omega])), hold_1, hnw_1, hbs_1, (by rw [hsz]; have z := hc15; rw [Int32.lt_iff_toInt_lt, show (0 : Int32).toInt = 0 from rfl, hsh] at z; omega)⟩
      · skip
        refine own_ifNo XJ13 hx (hb hby d6_15) ((if0 _ _).trans (flt hc15).1) (rfl : 15 + 3 = 18) ?_
        have hlt : it < nw := by have z := hc15; rw [Int32.lt_iff_toInt_lt, show (0 : Int32).toInt = 0 from rfl, hsh] at z; omega
        refine own_aloadN XJ13 hx (hb hby d6_18) (v := (.ref ob)) rfl rfl (rfl : 18 + 1 = 19) ?_
        obtain ⟨T2, X2, e2, st2⟩ := getF XJ13 hx hZ hown (host := "") (Or.inl (hw _ (List.mem_of_getElem? (i := 11) rfl))) Via.refl eJ13 fJ13_1 (g := (mkF m 19 #[.val (.ref ob), .val (.long qv), .second, .val (.int pw), .val (.int sh)] [(.ref ob)])) rfl rfl (hb hby d6_19)
        refine own_W.step st2 ?_
        show own_W p e (FrameEnd s) below ({ frames := 3, cells := 1, slots := 128, locals := 46 } : Room).cells ({ frames := 3, cells := 1, slots := 128, locals := 46 } : Room).slots (Q6 Z ob qv pw ab us cp fa kk nw h0 n0) T2 (mkF m 22 #[.val (.ref ob), .val (.long qv), .second, .val (.int pw), .val (.int sh)] [(.ref an1)])
        refine own_aloadN X2 hx (hb hby d6_22) (v := (.ref ob)) rfl rfl (rfl : 22 + 1 = 23) ?_
        refine own_dup X2 hx (hb hby d6_23) rfl (rfl : 23 + 1 = 24) ?_
        obtain ⟨T3, X3, e3, st3⟩ := getF X2 hx hZ hown (host := "") (Or.inl (hw _ (List.mem_of_getElem? (i := 22) rfl))) Via.refl e2 fJ13_2 (g := (mkF m 24 #[.val (.ref ob), .val (.long qv), .second, .val (.int pw), .val (.int sh)] [(.ref ob), (.ref ob), (.ref an1)])) rfl rfl (hb hby d6_24)
        refine own_W.step st3 ?_
        show own_W p e (FrameEnd s) below ({ frames := 3, cells := 1, slots := 128, locals := 46 } : Room).cells ({ frames := 3, cells := 1, slots := 128, locals := 46 } : Room).slots (Q6 Z ob qv pw ab us cp fa kk nw h0 n0) T3 (mkF m 27 #[.val (.ref ob), .val (.long qv), .second, .val (.int pw), .val (.int sh)] [(.int uz), (.ref ob), (.ref an1)])
        refine own_dupX1 X3 hx (hb hby d6_27) rfl rfl (rfl : 27 + 1 = 28) ?_
        refine own_iconst X3 hx (hb hby d6_28) (1 : Int32) (by first | rfl | decide) (rfl : 28 + 1 = 29) ?_
        refine own_iadd X3 hx (hb hby d6_29) (rfl : 29 + 1 = 30) ?_
        obtain ⟨T4, h4, X4, e4, W4, st4⟩ := putF X3 hx hZ hown (host := "") (Or.inl (hw _ (List.mem_of_getElem? (i := 22) rfl))) Via.refl e3 fJ13_2 fJ13_0 (Or.inl (hw _ (List.mem_of_getElem? (i := 23) rfl))) (hw _ (List.mem_of_getElem? (i := 3) rfl)) (ty := .int) (by decide) rfl rfl (g := (mkF m 30 #[.val (.ref ob), .val (.long qv), .second, .val (.int pw), .val (.int sh)] [(.int (uz + (1 : Int32))), (.ref ob), (.int uz), (.ref an1)])) rfl rfl (hb hby d6_30)
        refine own_W.step st4 ?_
        have N4 := Fr.snoc X4 NJ13 g_ob
        have f4_E_ob : Exa Z h4 ob "com/example/galapagos/galapagos/ByteWriter" := fJ13_0.wr W4
        have f4_F_ob_bytes : Fld Z h4 ob "com/example/galapagos/galapagos/ByteWriter" "bytes" "[B" (.ref an1) := fJ13_1.other W4 (Or.inr (slot_ne (Or.inl (hw _ (List.mem_of_getElem? (i := 12) rfl))) (Or.inl (hw _ (List.mem_of_getElem? (i := 23) rfl))) (by decide) (t := (.array .byte)) (t' := .int) (by decide) (by decide)))
        have f4_E_an1 : Exa Z h4 an1 "[B" := fJ13_3.wr W4
        have f4_A_an1 : own_A Z h4 an1 .byte (own_cap cp (kk + nw)) (fun z => .int (own_be qv nw kk (own_gr fa cp (kk + nw)) it z)) := fJ13_4.other W4 (Ne.symm hnw_1)
        have f4_K : Keep h0 h4 [ob, ab] := fJ13_5.wr W4 (Or.inl (by simp))
        have fw4 : Fld Z h4 ob "com/example/galapagos/galapagos/ByteWriter" "size" "I" (.int (uz + (1 : Int32))) := fJ13_2.same W4
        have z4 : n0 ≤ h4.size := by rw [W4.size]; exact zJ13
        show own_W p e (FrameEnd s) below ({ frames := 3, cells := 1, slots := 128, locals := 46 } : Room).cells ({ frames := 3, cells := 1, slots := 128, locals := 46 } : Room).slots (Q6 Z ob qv pw ab us cp fa kk nw h0 n0) T4 (mkF m 33 #[.val (.ref ob), .val (.long qv), .second, .val (.int pw), .val (.int sh)] [(.int uz), (.ref an1)])
        refine own_lloadN X4 hx (hb hby d6_33) (v := qv) rfl (rfl : 33 + 1 = 34) ?_
        refine own_iload X4 hx (hb hby d6_34) (v := sh) rfl (rfl : 34 + 2 = 36) ?_
        refine own_lushr X4 hx (hb hby d6_36) (rfl : 36 + 1 = 37) ?_
        refine own_l2i X4 hx (hb hby d6_37) (rfl : 37 + 1 = 38) ?_
        refine own_i2b X4 hx (hb hby d6_38) (rfl : 38 + 1 = 39) ?_
        have hi5 : own_In uz (kk + it) (own_cap cp (kk + nw)) := ⟨hsz, by unfold own_cap; split; omega; split <;> omega⟩
        obtain ⟨T5, h5, X5, e5, W5, V5, st5⟩ := own_stB X4 hx hZ e4 f4_A_an1 hi5 (g := (mkF m 39 #[.val (.ref ob), .val (.long qv), .second, .val (.int pw), .val (.int sh)] [(.int ((((qv.toUInt64 >>> (sh &&& 0x3f).toInt64.toUInt64).toInt64).toInt32).toInt8.toInt32)), (.int uz), (.ref an1)])) rfl rfl (hb hby d6_39)
        refine own_W.step st5 ?_
        have N5 := Fr.snoc X5 N4 g_an1
        have f5_E_ob : Exa Z h5 ob "com/example/galapagos/galapagos/ByteWriter" := f4_E_ob.wr W5
        have f5_F_ob_bytes : Fld Z h5 ob "com/example/galapagos/galapagos/ByteWriter" "bytes" "[B" (.ref an1) := f4_F_ob_bytes.other W5 (Or.inl hnw_1)
        have f5_F_ob_size : Fld Z h5 ob "com/example/galapagos/galapagos/ByteWriter" "size" "I" (.int (uz + (1 : Int32))) := fw4.other W5 (Or.inl hnw_1)
        have f5_E_an1 : Exa Z h5 an1 "[B" := f4_E_an1.wr W5
        have f5_K : Keep h0 h5 [ob, ab] := f4_K.wr W5 (hold_1.elim (fun q => Or.inl (by simp [q])) Or.inr)
        have U5 : own_A Z h5 an1 .byte (own_cap cp (kk + nw)) (fun z => .int (own_be qv nw kk (own_gr fa cp (kk + nw)) (it + 1) z)) := V5.congr (fun z _ => own_bes qv nw kk _ it _ z (by rw [Int8.toInt8_toInt32, own_ofs sh _ hsh]; rfl))
        have z5 : n0 ≤ h5.size := by rw [W5.size]; exact z4
        show own_W p e (FrameEnd s) below ({ frames := 3, cells := 1, slots := 128, locals := 46 } : Room).cells ({ frames := 3, cells := 1, slots := 128, locals := 46 } : Room).slots (Q6 Z ob qv pw ab us cp fa kk nw h0 n0) T5 (mkF m 40 #[.val (.ref ob), .val (.long qv), .second, .val (.int pw), .val (.int sh)] [])
        refine own_iinc X5 hx (hb hby d6_40) (-8 : Int32) rfl (x := sh) rfl (l' := #[.val (.ref ob), .val (.long qv), .second, .val (.int pw), .val (.int (sh + (-8 : Int32)))]) rfl (rfl : 40 + 3 = 43) ?_
        refine own_goto X5 hx (hb hby d6_43) (pc' := 13) (by decide) (by decide) ?_
        exact ih  ((sh + (-8 : Int32))) (it + 1) ((uz + (1 : Int32))) _ _ _ (by omega) X5 e5 N5 z5 f5_E_ob f5_F_ob_bytes f5_F_ob_size f5_E_an1 U5 f5_K (by rw [own_add (b := 1) hsz (by decide) (by omega)]; omega) (own_dec8 sh nw it hsh hw8 hlt) (by omega)
  exact J13 (nw - (0) + 1) (((8 : Int32) * (pw - (1 : Int32)))) (0) (us) _ _ _ (Nat.lt_succ_self _) X1 rfl N1 z1c fq1_0 fq1_1 fq1_2 fq1_3 A0 f1_K (by rw [hus]; omega) (by rw [(own_shf pw nw hpw hw8).2]; omega) (Nat.zero_le _)
theorem d7_0 : decode prog_1_method_5_code 0 = .ok (.aload_n 0, 1) := by decide +kernel
theorem d7_1 : decode prog_1_method_5_code 1 = .ok (.getfield 7, 3) := by decide +kernel
theorem d7_4 : decode prog_1_method_5_code 4 = .ok (.aload_n 0, 1) := by decide +kernel
theorem d7_5 : decode prog_1_method_5_code 5 = .ok (.getfield 17, 3) := by decide +kernel
theorem d7_8 : decode prog_1_method_5_code 8 = .ok (.invokestatic 27, 3) := by decide +kernel
theorem d7_11 : decode prog_1_method_5_code 11 = .ok (.areturn, 1) := by decide +kernel
theorem ef_7 (m : MethodId) (ob : Addr) : entryFrame m #[(.ref ob)] 1 = mkF m 0 #[.val (.ref ob)] [] := by first | (simp [entryFrame, mkF, argsToLocals, Value.category]; done) | rfl
def Q7 (Z : State) (ob : Addr) (ab : Addr) (us : Int32) (cp : Nat) (fa : Nat → Int32) (kk : Nat) (h0 : Heap) (n0 : Nat) (v : Option Value) (h : Heap) (L : List Loc) : Prop := ∃ (br : Addr), v = some (.ref br) ∧ Fr n0 L ∧ Keep h0 h [] ∧ h0.size ≤ br ∧ Exa Z h br "[B" ∧ own_A Z h br .byte (kk) (fun z => .int (own_pre fa cp z))
set_option maxRecDepth 65536 in
set_option maxHeartbeats 40000000 in
theorem rm7 (l : Launch) (Z : State) (a0 : Array Value) (hw : ∀ d ∈ tables_1, d.before a0 Z = true) (ws : List Jvm.Cond) (ob : Addr) (ab : Addr) (us : Int32) (cp : Nat) (fa : Nat → Int32) (kk : Nat) (h0 : Heap) (n0 : Nat) (Z0 : n0 ≤ h0.size) (f_F_ob_bytes : Fld Z h0 ob "com/example/galapagos/galapagos/ByteWriter" "bytes" "[B" (.ref ab)) (f_F_ob_size : Fld Z h0 ob "com/example/galapagos/galapagos/ByteWriter" "size" "I" (.int us)) (f_E_ab : Exa Z h0 ab "[B") (f_A_ab : own_A Z h0 ab .byte (cp) (fun z => .int (fa z))) (hus : us.toInt = (kk : Int)) (hb3 : cp < 1000) (hkc : kk ≤ 73) :
    MetFree l (⟨"com/example/galapagos/galapagos/ByteWriter", "toByteArray", "()[B"⟩ : MethodName) (head1 (Jvm.Cond.code (⟨"com/example/galapagos/galapagos/ByteWriter", "toByteArray", "()[B"⟩ : MethodName) prog_1_method_5_code 1 (some (.array .byte)) :: ws) ({ frames := 2, cells := 1, slots := 74, locals := 32 } : Room)) (fun avs U => avs = #[(.ref ob)] ∧ Z.Warmed39 U.vm ∧ U.heap = h0) (fun _ _ _ _ _ => True) (fun _ U o U' => ∃ v L, o = .returned v ∧ Q7 Z ob ab us cp fa kk h0 n0 v U'.heap L ∧ FrameEnd U o U' L ({ frames := 2, cells := 1, slots := 74, locals := 32 } : Room).cells ({ frames := 2, cells := 1, slots := 74, locals := 32 } : Room).slots) := by
  refine MetFree.of_bodySF (plainFor_of_name own_pn_com_example_galapagos_galapagos_ByteWriter) hisR ?_
  intro p e s m args below meth c s₁ Bd hml0 hP hK
  obtain ⟨rfl, hZ, hh⟩ := hP
  have hx := Bd.exec
  have hby := Bd.bytes
  have hml : c.maxLocals = 1 := hml0
  have hown : s.vm.findClass "com/example/galapagos/galapagos/ByteWriter" = some m.cls := findClass_of_methodNamed Bd.named
  have hnm := (name_of_methodNamed Bd.named Bd.method).1
  have hlk := Bd.notSynchronized
  have hret := Bd.returns
  have X0 : Stand p l e ({ frames := 2, cells := 1, slots := 74, locals := 32 } : Room) s m #[(.ref ob)] below meth c s₁ [] 0 0 := Stand.of_body Bd
  have e0 : s₁.heap = h0 := by rw [← hh, Bd.state]; rfl
  have N0 := Fr.nil n0
  show own_W p e (FrameEnd s) below ({ frames := 2, cells := 1, slots := 74, locals := 32 } : Room).cells ({ frames := 2, cells := 1, slots := 74, locals := 32 } : Room).slots (Q7 Z ob ab us cp fa kk h0 n0) s₁ (entryFrame m #[(.ref ob)] 1)
  rw [ef_7]
  have K0 : Keep h0 h0 [] := Keep.refl h0 _
  refine own_aloadN X0 hx (hb hby d7_0) (v := (.ref ob)) rfl rfl (rfl : 0 + 1 = 1) ?_
  obtain ⟨T1, X1, e1, st1⟩ := getF X0 hx hZ hown (host := "") (Or.inl (hw _ (List.mem_of_getElem? (i := 11) rfl))) Via.refl e0 f_F_ob_bytes (g := (mkF m 1 #[.val (.ref ob)] [(.ref ob)])) rfl rfl (hb hby d7_1)
  refine own_W.step st1 ?_
  show own_W p e (FrameEnd s) below ({ frames := 2, cells := 1, slots := 74, locals := 32 } : Room).cells ({ frames := 2, cells := 1, slots := 74, locals := 32 } : Room).slots (Q7 Z ob ab us cp fa kk h0 n0) T1 (mkF m 4 #[.val (.ref ob)] [(.ref ab)])
  refine own_aloadN X1 hx (hb hby d7_4) (v := (.ref ob)) rfl rfl (rfl : 4 + 1 = 5) ?_
  obtain ⟨T2, X2, e2, st2⟩ := getF X1 hx hZ hown (host := "") (Or.inl (hw _ (List.mem_of_getElem? (i := 22) rfl))) Via.refl e1 f_F_ob_size (g := (mkF m 5 #[.val (.ref ob)] [(.ref ob), (.ref ab)])) rfl rfl (hb hby d7_5)
  refine own_W.step st2 ?_
  show own_W p e (FrameEnd s) below ({ frames := 2, cells := 1, slots := 74, locals := 32 } : Room).cells ({ frames := 2, cells := 1, slots := 74, locals := 32 } : Room).slots (Q7 Z ob ab us cp fa kk h0 n0) T2 (mkF m 8 #[.val (.ref ob)] [(.int us), (.ref ab)])
  obtain ⟨_, _, ⟨T3, L3, k3, n3⟩, -, X3, ⟨Lc3, hQ3, l3, y3, z3⟩, st3⟩ := Jvm.LawKit.callS X2 hx (y := (⟨"java/util/Arrays", "copyOf", "([BI)[B"⟩ : MethodName)) hown (mvT hZ (hw _ (List.mem_of_getElem? (i := 43) rfl))) (mvT hZ (hw _ (List.mem_of_getElem? (i := 44) rfl))) (mvT hZ (hw _ (List.mem_of_getElem? (i := 45) rfl))) (mvT hZ (hw _ (List.mem_of_getElem? (i := 46) rfl))) (by decide) (backOf (W := 0) (rm8b l Z a0 hw [] ab us (cp) fa kk h0 n0 Z0 f_E_ab f_A_ab (by omega) (hus) (by omega)) hZ (hw _ (List.mem_of_getElem? (i := 46) rfl)) (hw _ (List.mem_of_getElem? (i := 45) rfl)) (by decide) (by decide)) (g := (mkF m 8 #[.val (.ref ob)] [(.int us), (.ref ab)])) rfl (by rw [hml]; rfl) (argsL := [(.ref ab), (.int us)]) (rest := []) (lenOf own_pd___BI__B rfl) rfl (by show 2 * 0 + _ ≤ _; exact Nat.le_of_eq rfl) (hb hby d7_8) (fun _ _ => ⟨rfl, e2, (by decide : 0 + 1 ≤ _), (by decide : 0 + 74 ≤ _)⟩)
  dsimp only [Pt.U, Pt.locs, Pt.cells, Pt.slots] at X3 l3 y3 z3 st3 hQ3
  subst l3 y3 z3
  obtain ⟨br3, rfl, N3q, K3, sz3_br, fq3_0, fq3_1⟩ := hQ3
  have N3 := Fr.app N0 N3q
  have ne_ob_br3 : ob ≠ br3 := Nat.ne_of_lt (Nat.lt_of_lt_of_le f_F_ob_bytes.lt sz3_br)
  have ne_ab_br3 : ab ≠ br3 := Nat.ne_of_lt (Nat.lt_of_lt_of_le f_E_ab.lt sz3_br)
  have sz_br3 : h0.size ≤ br3 := Nat.le_trans K0.1 sz3_br
  have g_br3 : n0 ≤ br3 := Nat.le_trans Z0 sz3_br
  have f3_F_ob_bytes : Fld Z T3.heap ob "com/example/galapagos/galapagos/ByteWriter" "bytes" "[B" (.ref ab) := f_F_ob_bytes.keep K3 nin0
  have f3_F_ob_size : Fld Z T3.heap ob "com/example/galapagos/galapagos/ByteWriter" "size" "I" (.int us) := f_F_ob_size.keep K3 nin0
  have f3_E_ab : Exa Z T3.heap ab "[B" := f_E_ab.keep K3
  have f3_A_ab : own_A Z T3.heap ab .byte (cp) (fun z => .int (fa z)) := f_A_ab.keep K3 nin0
  have f3_K : Keep h0 T3.heap [] := K0.trans K3 all0
  have z3c : n0 ≤ T3.heap.size := Nat.le_trans Z0 K3.1
  refine own_W.step st3 ?_
  show own_W p e (FrameEnd s) below ({ frames := 2, cells := 1, slots := 74, locals := 32 } : Room).cells ({ frames := 2, cells := 1, slots := 74, locals := 32 } : Room).slots (Q7 Z ob ab us cp fa kk h0 n0) T3 (mkF m 11 #[.val (.ref ob)] [(.ref br3)])
  refine own_retA (t := (.array .byte)) X3 hx hlk hret rfl rfl (hb hby d7_11) (by decide) (by decide) ?_
  show Q7 Z ob ab us cp fa kk h0 n0 (some (.ref br3)) T3.heap _
  skip
  exact ⟨br3, rfl, N3, f3_K, sz_br3, fq3_0, fq3_1⟩
theorem d10_0 : decode method_3_code 0 = .ok (.iload 5, 2) := by decide +kernel
theorem d10_2 : decode method_3_code 2 = .ok (.iload_n 2, 1) := by decide +kernel
theorem d10_3 : decode method_3_code 3 = .ok (.if_icmp .lt 5, 3) := by decide +kernel
theorem d10_6 : decode method_3_code 6 = .ok (.iconst 1, 1) := by decide +kernel
theorem d10_7 : decode method_3_code 7 = .ok (.ireturn, 1) := by decide +kernel
theorem d10_8 : decode method_3_code 8 = .ok (.aload_n 0, 1) := by decide +kernel
theorem d10_9 : decode method_3_code 9 = .ok (.iload_n 1, 1) := by decide +kernel
theorem d10_10 : decode method_3_code 10 = .ok (.iload_n 2, 1) := by decide +kernel
theorem d10_11 : decode method_3_code 11 = .ok (.iadd, 1) := by decide +kernel
theorem d10_12 : decode method_3_code 12 = .ok (.iconst 1, 1) := by decide +kernel
theorem d10_13 : decode method_3_code 13 = .ok (.isub, 1) := by decide +kernel
theorem d10_14 : decode method_3_code 14 = .ok (.iload 5, 2) := by decide +kernel
theorem d10_16 : decode method_3_code 16 = .ok (.isub, 1) := by decide +kernel
theorem d10_17 : decode method_3_code 17 = .ok (.baload, 1) := by decide +kernel
theorem d10_18 : decode method_3_code 18 = .ok (.lload_n 3, 1) := by decide +kernel
theorem d10_19 : decode method_3_code 19 = .ok (.bipush 8, 2) := by decide +kernel
theorem d10_21 : decode method_3_code 21 = .ok (.iload 5, 2) := by decide +kernel
theorem d10_23 : decode method_3_code 23 = .ok (.imul, 1) := by decide +kernel
theorem d10_24 : decode method_3_code 24 = .ok (.lshr, 1) := by decide +kernel
theorem d10_25 : decode method_3_code 25 = .ok (.l2i, 1) := by decide +kernel
theorem d10_26 : decode method_3_code 26 = .ok (.i2b, 1) := by decide +kernel
theorem d10_27 : decode method_3_code 27 = .ok (.if_icmp .ne 7, 3) := by decide +kernel
theorem d10_30 : decode method_3_code 30 = .ok (.iconst 1, 1) := by decide +kernel
theorem d10_31 : decode method_3_code 31 = .ok (.goto 4, 3) := by decide +kernel
theorem d10_35 : decode method_3_code 35 = .ok (.ireturn, 1) := by decide +kernel
theorem own_pn_com_example_galapagos_galapagos_ByteWriterWriteBigEndianPinLaw : plainName "com/example/galapagos/galapagos/ByteWriterWriteBigEndianPinLaw" = true := by first | (simp [plainName, overriddenIn]; done) | decide +kernel
theorem ef_10 (m : MethodId) (ar : Addr) (pb : Int32) (pw : Int32) (qv : Int64) (pk : Int32) : entryFrame m #[(.ref ar), (.int pb), (.int pw), (.long qv), (.int pk)] 6 = mkF m 0 #[.val (.ref ar), .val (.int pb), .val (.int pw), .val (.long qv), .second, .val (.int pk)] [] := by first | (simp [entryFrame, mkF, argsToLocals, Value.category]; done) | rfl
def Q10 (Z : State) (ar : Addr) (pb : Int32) (pw : Int32) (qv : Int64) (pk : Int32) (nn : Nat) (fa : Nat → Int32) (h0 : Heap) (n0 : Nat) (v : Option Value) (h : Heap) (L : List Loc) : Prop := v = some (.int (1 : Int32)) ∧ Fr n0 L ∧ h = h0
set_option maxRecDepth 65536 in
set_option maxHeartbeats 40000000 in
theorem rm10 (l : Launch) (Z : State) (a0 : Array Value) (hw : ∀ d ∈ tables_1, d.before a0 Z = true) (ws : List Jvm.Cond) (ar : Addr) (pb : Int32) (pw : Int32) (qv : Int64) (pk : Int32) (nn : Nat) (fa : Nat → Int32) (h0 : Heap) (n0 : Nat) (Z0 : n0 ≤ h0.size) (f_A_ar : own_A Z h0 ar .byte (nn) (fun z => .int (fa z))) (hat : pk < pw → ∃ i : Nat, own_In (pb + pw - (1 : Int32) - pk) i nn ∧ fa i = (qv >>> (((8 : Int32) * pk) &&& 0x3f).toInt64).toInt32.toInt8.toInt32) :
    MetFree l (⟨"com/example/galapagos/galapagos/ByteWriterWriteBigEndianPinLaw", "at", "([BIIJI)Z"⟩ : MethodName) (head1 (Jvm.Cond.code (⟨"com/example/galapagos/galapagos/ByteWriterWriteBigEndianPinLaw", "at", "([BIIJI)Z"⟩ : MethodName) method_3_code 6 (some .boolean) :: ws) ({ frames := 0, cells := 0, slots := 0, locals := 0 } : Room)) (fun avs U => avs = #[(.ref ar), (.int pb), (.int pw), (.long qv), (.int pk)] ∧ Z.Warmed39 U.vm ∧ U.heap = h0) (fun _ _ _ _ _ => True) (fun _ U o U' => ∃ v L, o = .returned v ∧ Q10 Z ar pb pw qv pk nn fa h0 n0 v U'.heap L ∧ FrameEnd U o U' L ({ frames := 0, cells := 0, slots := 0, locals := 0 } : Room).cells ({ frames := 0, cells := 0, slots := 0, locals := 0 } : Room).slots) := by
  refine MetFree.of_bodySF (plainFor_of_name own_pn_com_example_galapagos_galapagos_ByteWriterWriteBigEndianPinLaw) hisR ?_
  intro p e s m args below meth c s₁ Bd hml0 hP hK
  obtain ⟨rfl, hZ, hh⟩ := hP
  have hx := Bd.exec
  have hby := Bd.bytes
  have hml : c.maxLocals = 6 := hml0
  have hown : s.vm.findClass "com/example/galapagos/galapagos/ByteWriterWriteBigEndianPinLaw" = some m.cls := findClass_of_methodNamed Bd.named
  have hnm := (name_of_methodNamed Bd.named Bd.method).1
  have hlk := Bd.notSynchronized
  have hret := Bd.returns
  have X0 : Stand p l e ({ frames := 0, cells := 0, slots := 0, locals := 0 } : Room) s m #[(.ref ar), (.int pb), (.int pw), (.long qv), (.int pk)] below meth c s₁ [] 0 0 := Stand.of_body Bd
  have e0 : s₁.heap = h0 := by rw [← hh, Bd.state]; rfl
  have N0 := Fr.nil n0
  show own_W p e (FrameEnd s) below ({ frames := 0, cells := 0, slots := 0, locals := 0 } : Room).cells ({ frames := 0, cells := 0, slots := 0, locals := 0 } : Room).slots (Q10 Z ar pb pw qv pk nn fa h0 n0) s₁ (entryFrame m #[(.ref ar), (.int pb), (.int pw), (.long qv), (.int pk)] 6)
  rw [ef_10]
  refine own_iload X0 hx (hb hby d10_0) (v := pk) rfl (rfl : 0 + 2 = 2) ?_
  refine own_iloadN X0 hx (hb hby d10_2) (v := pw) rfl (rfl : 2 + 1 = 3) ?_
  by_cases hc3 : pk < pw
  · skip
    refine own_icmpYes X0 hx (hb hby d10_3) (tlt hc3).1 (pc' := 8) (by decide) (by decide) ?_
    obtain ⟨ix, hin, hfa⟩ := hat hc3
    refine own_aloadN X0 hx (hb hby d10_8) (v := (.ref ar)) rfl rfl (rfl : 8 + 1 = 9) ?_
    refine own_iloadN X0 hx (hb hby d10_9) (v := pb) rfl (rfl : 9 + 1 = 10) ?_
    refine own_iloadN X0 hx (hb hby d10_10) (v := pw) rfl (rfl : 10 + 1 = 11) ?_
    refine own_iadd X0 hx (hb hby d10_11) (rfl : 11 + 1 = 12) ?_
    refine own_iconst X0 hx (hb hby d10_12) (1 : Int32) (by first | rfl | decide) (rfl : 12 + 1 = 13) ?_
    refine own_isub X0 hx (hb hby d10_13) (rfl : 13 + 1 = 14) ?_
    refine own_iload X0 hx (hb hby d10_14) (v := pk) rfl (rfl : 14 + 2 = 16) ?_
    refine own_isub X0 hx (hb hby d10_16) (rfl : 16 + 1 = 17) ?_
    have hi1 : own_In (((pb + pw) - (1 : Int32)) - pk) (ix) (nn) := hin
    refine own_baload X0 hx hZ e0 f_A_ar hi1 (v := (fa (ix))) rfl (g := (mkF m 17 #[.val (.ref ar), .val (.int pb), .val (.int pw), .val (.long qv), .second, .val (.int pk)] [(.int (((pb + pw) - (1 : Int32)) - pk)), (.ref ar)])) rfl rfl (hb hby d10_17) ?_
    show own_W p e (FrameEnd s) below ({ frames := 0, cells := 0, slots := 0, locals := 0 } : Room).cells ({ frames := 0, cells := 0, slots := 0, locals := 0 } : Room).slots (Q10 Z ar pb pw qv pk nn fa h0 n0) s₁ (mkF m 18 #[.val (.ref ar), .val (.int pb), .val (.int pw), .val (.long qv), .second, .val (.int pk)] [(.int (fa (ix)))])
    refine own_lloadN X0 hx (hb hby d10_18) (v := qv) rfl (rfl : 18 + 1 = 19) ?_
    refine own_bipush X0 hx (hb hby d10_19) (8 : Int32) (by first | rfl | decide) (rfl : 19 + 2 = 21) ?_
    refine own_iload X0 hx (hb hby d10_21) (v := pk) rfl (rfl : 21 + 2 = 23) ?_
    refine own_imul X0 hx (hb hby d10_23) (rfl : 23 + 1 = 24) ?_
    refine own_lshr X0 hx (hb hby d10_24) (rfl : 24 + 1 = 25) ?_
    refine own_l2i X0 hx (hb hby d10_25) (rfl : 25 + 1 = 26) ?_
    refine own_i2b X0 hx (hb hby d10_26) (rfl : 26 + 1 = 27) ?_
    have hc27 : (fa (ix)) = (((qv >>> (((8 : Int32) * pk) &&& 0x3f).toInt64).toInt32).toInt8.toInt32) := hfa
    refine own_icmpNo X0 hx (hb hby d10_27) (teq hc27).2 (rfl : 27 + 3 = 30) ?_
    refine own_iconst X0 hx (hb hby d10_30) (1 : Int32) (by first | rfl | decide) (rfl : 30 + 1 = 31) ?_
    refine own_goto X0 hx (hb hby d10_31) (pc' := 35) (by decide) (by decide) ?_
    refine own_retN (t := .boolean) X0 hx hlk hret (by simp) (hb hby d10_35) (z' := (1 : Int32)) (by decide) (by decide) (by decide) ?_
    show Q10 Z ar pb pw qv pk nn fa h0 n0 (some (.int (1 : Int32))) s₁.heap _
    rw [e0]
    exact ⟨rfl, N0, rfl⟩
  · skip
    refine own_icmpNo X0 hx (hb hby d10_3) (flt hc3).1 (rfl : 3 + 3 = 6) ?_
    refine own_iconst X0 hx (hb hby d10_6) (1 : Int32) (by first | rfl | decide) (rfl : 6 + 1 = 7) ?_
    refine own_retN (t := .boolean) X0 hx hlk hret (by simp) (hb hby d10_7) (z' := (1 : Int32)) (by decide) (by decide) (by decide) ?_
    show Q10 Z ar pb pw qv pk nn fa h0 n0 (some (.int (1 : Int32))) s₁.heap _
    rw [e0]
    exact ⟨rfl, N0, rfl⟩
theorem own_pd___V : parseMethodDescriptor "()V" = some ⟨[], none⟩ := by decide +kernel
theorem own_pd___BII_V : parseMethodDescriptor "([BII)V" = some ⟨[(.array .byte), .int, .int], none⟩ := by decide +kernel
theorem own_pd__JI_V : parseMethodDescriptor "(JI)V" = some ⟨[.long, .int], none⟩ := by decide +kernel
theorem own_pd____B : parseMethodDescriptor "()[B" = some ⟨[], some (.array .byte)⟩ := by decide +kernel
theorem own_pd___BIIJI_Z : parseMethodDescriptor "([BIIJI)Z" = some ⟨[(.array .byte), .int, .int, .long, .int], some .boolean⟩ := by decide +kernel
theorem ef_0 (m : MethodId) (qv : Int64) (pw : Int32) (pr : Int32) (pm : Int32) (pn : Int32) : entryFrame m #[(.long qv), (.int pw), (.int pr), (.int pm), (.int pn)] maxLocals = mkF m 0 #[.val (.long qv), .second, .val (.int pw), .val (.int pr), .val (.int pm), .val (.int pn), .unset, .unset, .unset, .unset, .unset, .unset] [] := by first | (simp [entryFrame, mkF, argsToLocals, Value.category, maxLocals]; done) | rfl
def Q0 (Z : State) (qv : Int64) (pw : Int32) (pr : Int32) (pm : Int32) (pn : Int32)  (h0 : Heap) (n0 : Nat) (v : Option Value) (h : Heap) (L : List Loc) : Prop := v = some (.int 1) ∧ Fr n0 L
set_option maxRecDepth 65536 in
set_option maxHeartbeats 40000000 in
theorem rm0 (l : Launch) (Z : State) (a0 : Array Value) (hw : ∀ d ∈ tables_1, d.before a0 Z = true) (ws : List Jvm.Cond) (qv : Int64) (pw : Int32) (pr : Int32) (pm : Int32) (pn : Int32)  (h0 : Heap) (n0 : Nat) (Z0 : n0 ≤ h0.size)  :
    MetFree l x (head1 (Jvm.Cond.code x code maxLocals ret :: ws) room_1) (fun avs U => avs = #[(.long qv), (.int pw), (.int pr), (.int pm), (.int pn)] ∧ Z.Warmed39 U.vm ∧ U.heap = h0) (fun _ _ _ _ _ => True) (fun _ U o U' => ∃ v L, o = .returned v ∧ Q0 Z qv pw pr pm pn h0 n0 v U'.heap L ∧ FrameEnd U o U' L room_1.cells room_1.slots) := by
  refine MetFree.of_bodySF (plainFor_of_name own_pn_com_example_galapagos_galapagos_ByteWriterWriteBigEndianPinLaw) hisR ?_
  intro p e s m args below meth c s₁ Bd hml0 hP hK
  obtain ⟨rfl, hZ, hh⟩ := hP
  have hx := Bd.exec
  have hby := Bd.bytes
  have hml : c.maxLocals = 12 := hml0
  have hown : s.vm.findClass "com/example/galapagos/galapagos/ByteWriterWriteBigEndianPinLaw" = some m.cls := findClass_of_methodNamed Bd.named
  have hnm := (name_of_methodNamed Bd.named Bd.method).1
  have hlk := Bd.notSynchronized
  have hret := Bd.returns
  have X0 : Stand p l e room_1 s m #[(.long qv), (.int pw), (.int pr), (.int pm), (.int pn)] below meth c s₁ [] 0 0 := Stand.of_body Bd
  have e0 : s₁.heap = h0 := by rw [← hh, Bd.state]; rfl
  have N0 := Fr.nil n0
  show own_W p e (FrameEnd s) below room_1.cells room_1.slots (Q0 Z qv pw pr pm pn h0 n0) s₁ (entryFrame m #[(.long qv), (.int pw), (.int pr), (.int pm), (.int pn)] maxLocals)
  rw [ef_0]
  refine own_iloadN X0 hx (hb hby at_0) (v := pw) rfl (rfl : 0 + 1 = 1) ?_
  refine own_ldcInt X0 hx hown (mvT hZ (hw _ (List.mem_of_getElem? (i := 0) rfl))) (hb hby at_1) (rfl : 1 + 2 = 3) ?_
  refine own_iand X0 hx (hb hby at_3) (rfl : 3 + 1 = 4) ?_
  refine own_bipush X0 hx (hb hby at_4) (9 : Int32) (by first | rfl | decide) (rfl : 4 + 2 = 6) ?_
  refine own_irem X0 hx (hb hby at_6) (by decide) (rfl : 6 + 1 = 7) ?_
  refine own_istore X0 hx (hb hby at_7) (l' := #[.val (.long qv), .second, .val (.int pw), .val (.int pr), .val (.int pm), .val (.int pn), .val (.int ((pw &&& (2147483647 : Int32)) % (9 : Int32))), .unset, .unset, .unset, .unset, .unset]) rfl (rfl : 7 + 2 = 9) ?_
  obtain ⟨ww, hww⟩ : ∃ z : Int32, z = ((pw &&& (2147483647 : Int32)) % (9 : Int32)) := ⟨_, rfl⟩
  rw [← hww]
  show own_W p e (FrameEnd s) below room_1.cells room_1.slots (Q0 Z qv pw pr pm pn h0 n0) s₁ (mkF m 9 #[.val (.long qv), .second, .val (.int pw), .val (.int pr), .val (.int pm), .val (.int pn), .val (.int ww), .unset, .unset, .unset, .unset, .unset] [])
  obtain ⟨wN, hwN, hwle⟩ : ∃ n : Nat, ww.toInt = (n : Int) ∧ n ≤ 8 := by rw [hww]; exact own_w9 pw
  refine own_iloadN X0 hx (hb hby at_9) (v := pr) rfl (rfl : 9 + 1 = 10) ?_
  refine own_bipush X0 hx (hb hby at_10) (63 : Int32) (by first | rfl | decide) (rfl : 10 + 2 = 12) ?_
  refine own_iand X0 hx (hb hby at_12) (rfl : 12 + 1 = 13) ?_
  refine own_istore X0 hx (hb hby at_13) (l' := #[.val (.long qv), .second, .val (.int pw), .val (.int pr), .val (.int pm), .val (.int pn), .val (.int ww), .val (.int (pr &&& (63 : Int32))), .unset, .unset, .unset, .unset]) rfl (rfl : 13 + 2 = 15) ?_
  obtain ⟨pp, hpp⟩ : ∃ z : Int32, z = (pr &&& (63 : Int32)) := ⟨_, rfl⟩
  rw [← hpp]
  show own_W p e (FrameEnd s) below room_1.cells room_1.slots (Q0 Z qv pw pr pm pn h0 n0) s₁ (mkF m 15 #[.val (.long qv), .second, .val (.int pw), .val (.int pr), .val (.int pm), .val (.int pn), .val (.int ww), .val (.int pp), .unset, .unset, .unset, .unset] [])
  obtain ⟨pN, hpN, hple⟩ : ∃ n : Nat, pp.toInt = (n : Int) ∧ n ≤ 63 := by rw [hpp]; exact own_p64 pr
  refine own_bipush X0 hx (hb hby at_15) (64 : Int32) (by first | rfl | decide) (rfl : 15 + 2 = 17) ?_
  obtain ⟨T1, h1, k1, X1, e1, E1, A1, Y1, st1⟩ := newPE X0 hx hZ (hw _ (List.mem_of_getElem? (i := 1) rfl)) e0 (g := (mkF m 17 #[.val (.long qv), .second, .val (.int pw), .val (.int pr), .val (.int pm), .val (.int pn), .val (.int ww), .val (.int pp), .unset, .unset, .unset, .unset] [(.int (64 : Int32))])) rfl (hb hby at_17) rfl (by decide) (cap := 64) (by decide) (by decide) (by decide) (by decide) (ad := "[B") (by decide)
  obtain ⟨zb, g1⟩ : ∃ z, z = h0.size := ⟨_, rfl⟩
  rw [← g1] at A1 Y1 st1
  refine own_W.step st1 ?_
  have g_zb : n0 ≤ zb := Nat.le_trans Z0 (Nat.le_of_eq g1.symm)
  have z1 : n0 ≤ h1.size := Nat.le_trans Z0 E1.1
  have V1 : own_A Z h1 zb .byte (64) (fun z => .int (own_k0 z)) := own_A.new A1 (by decide) (by decide)
  show own_W p e (FrameEnd s) below room_1.cells room_1.slots (Q0 Z qv pw pr pm pn h0 n0) T1 (mkF m 19 #[.val (.long qv), .second, .val (.int pw), .val (.int pr), .val (.int pm), .val (.int pn), .val (.int ww), .val (.int pp), .unset, .unset, .unset, .unset] [(.ref zb)])
  refine own_astore X1 hx (hb hby at_19) (l' := #[.val (.long qv), .second, .val (.int pw), .val (.int pr), .val (.int pm), .val (.int pn), .val (.int ww), .val (.int pp), .val (.ref zb), .unset, .unset, .unset]) rfl rfl (rfl : 19 + 2 = 21) ?_
  obtain ⟨T2, h2, X2, e2, E2, A2, D2, -, st2⟩ := newO X1 hx hZ hown (hw _ (List.mem_of_getElem? (i := 2) rfl)) (hw _ (List.mem_of_getElem? (i := 3) rfl)) (hw _ (List.mem_of_getElem? (i := 4) rfl)) e1 (g := (mkF m 21 #[.val (.long qv), .second, .val (.int pw), .val (.int pr), .val (.int pm), .val (.int pn), .val (.int ww), .val (.int pp), .val (.ref zb), .unset, .unset, .unset] [])) rfl (hb hby at_21) (by decide) (by decide)
  obtain ⟨ob, g2⟩ : ∃ z, z = h1.size := ⟨_, rfl⟩
  rw [← g2] at A2 D2 st2
  refine own_W.step st2 ?_
  have ne_zb_ob : zb ≠ ob := Nat.ne_of_lt (Nat.lt_of_lt_of_le V1.lt (Nat.le_of_eq g2.symm))
  have g_ob : n0 ≤ ob := Nat.le_trans z1 (Nat.le_of_eq g2.symm)
  have f2_A_zb : own_A Z h2 zb .byte (64) (fun z => .int (own_k0 z)) := V1.ext E2
  have f2_E_zb : Exa Z h2 zb "[B" := Y1.ext E2
  have z2 : n0 ≤ h2.size := Nat.le_trans z1 E2.1
  have F2_bytes : Fld Z h2 ob "com/example/galapagos/galapagos/ByteWriter" "bytes" "[B" .null := D2 (Or.inl (hw _ (List.mem_of_getElem? (i := 12) rfl))) (ty := (.array .byte)) (by decide)
  have F2_size : Fld Z h2 ob "com/example/galapagos/galapagos/ByteWriter" "size" "I" (.int (0 : Int32)) := D2 (Or.inl (hw _ (List.mem_of_getElem? (i := 23) rfl))) (ty := .int) (by decide)
  show own_W p e (FrameEnd s) below room_1.cells room_1.slots (Q0 Z qv pw pr pm pn h0 n0) T2 (mkF m 24 #[.val (.long qv), .second, .val (.int pw), .val (.int pr), .val (.int pm), .val (.int pn), .val (.int ww), .val (.int pp), .val (.ref zb), .unset, .unset, .unset] [(.ref ob)])
  refine own_dup X2 hx (hb hby at_24) rfl (rfl : 24 + 1 = 25) ?_
  obtain ⟨_, _, ⟨T3, L3, k3, n3⟩, -, X3, ⟨Lc3, hQ3, l3, y3, z3⟩, st3⟩ := X2.specialBack hx (y := (⟨"com/example/galapagos/galapagos/ByteWriter", "<init>", "()V"⟩ : MethodName)) rfl hown (mvT hZ (hw _ (List.mem_of_getElem? (i := 5) rfl))) (mvT hZ (hw _ (List.mem_of_getElem? (i := 6) rfl))) (mvT hZ (hw _ (List.mem_of_getElem? (i := 7) rfl))) (by decide) (backOf (W := 1) (rm1 l Z a0 hw [] ob  h2 n0 z2 A2 F2_bytes F2_size g_ob) hZ (hw _ (List.mem_of_getElem? (i := 7) rfl)) (hw _ (List.mem_of_getElem? (i := 4) rfl)) (by decide) (by decide)) (g := (mkF m 25 #[.val (.long qv), .second, .val (.int pw), .val (.int pr), .val (.int pm), .val (.int pn), .val (.int ww), .val (.int pp), .val (.ref zb), .unset, .unset, .unset] [(.ref ob), (.ref ob)])) rfl (by rw [hml]; rfl) (Steps.refl _) (a := ob) (argsL := []) (rest := [(.ref ob)]) (lenOf own_pd___V rfl) rfl (by show 2 * 0 + _ ≤ _; exact Nat.le_of_eq rfl) (hb hby at_25) (fun _ _ => ⟨rfl, e2, (by decide : 2 + 1 ≤ _), (by decide : 66 + 64 ≤ _)⟩)
  dsimp only [Pt.U, Pt.locs, Pt.cells, Pt.slots] at X3 l3 y3 z3 st3 hQ3
  subst l3 y3 z3
  obtain ⟨ab3, rfl, N3q, K3, sz3_ab, fq3_0, fq3_1, fq3_2, fq3_3, fq3_4⟩ := hQ3
  have N3 := Fr.app N0 N3q
  have ne_zb_ab3 : zb ≠ ab3 := Nat.ne_of_lt (Nat.lt_of_lt_of_le f2_A_zb.lt sz3_ab)
  have ne_ob_ab3 : ob ≠ ab3 := Nat.ne_of_lt (Nat.lt_of_lt_of_le A2.lt sz3_ab)
  have g_ab3 : n0 ≤ ab3 := Nat.le_trans z2 sz3_ab
  have f3_A_zb : own_A Z T3.heap zb .byte (64) (fun z => .int (own_k0 z)) := f2_A_zb.keep K3 (ninS ne_zb_ob nin0)
  have f3_E_zb : Exa Z T3.heap zb "[B" := f2_E_zb.keep K3
  have f3_E_ob : Exa Z T3.heap ob "com/example/galapagos/galapagos/ByteWriter" := A2.keep K3
  have z3c : n0 ≤ T3.heap.size := Nat.le_trans z2 K3.1
  refine own_W.steps st3 ?_
  show own_W p e (FrameEnd s) below room_1.cells room_1.slots (Q0 Z qv pw pr pm pn h0 n0) T3 (mkF m 28 #[.val (.long qv), .second, .val (.int pw), .val (.int pr), .val (.int pm), .val (.int pn), .val (.int ww), .val (.int pp), .val (.ref zb), .unset, .unset, .unset] [(.ref ob)])
  refine own_astore X3 hx (hb hby at_28) (l' := #[.val (.long qv), .second, .val (.int pw), .val (.int pr), .val (.int pm), .val (.int pn), .val (.int ww), .val (.int pp), .val (.ref zb), .val (.ref ob), .unset, .unset]) rfl rfl (rfl : 28 + 2 = 30) ?_
  refine own_aload X3 hx (hb hby at_30) (v := (.ref ob)) rfl rfl (rfl : 30 + 2 = 32) ?_
  refine own_aload X3 hx (hb hby at_32) (v := (.ref zb)) rfl rfl (rfl : 32 + 2 = 34) ?_
  refine own_iconst X3 hx (hb hby at_34) (0 : Int32) (by first | rfl | decide) (rfl : 34 + 1 = 35) ?_
  refine own_iload X3 hx (hb hby at_35) (v := pp) rfl (rfl : 35 + 2 = 37) ?_
  obtain ⟨cq4, kq4, q4a, q4b, q4c⟩ := isOf hZ rfl fq3_0
  obtain ⟨_, _, ⟨T4, L4, k4, n4⟩, -, X4, ⟨Lc4, hQ4, l4, y4, z4⟩, st4⟩ := X3.virtualBack hx (y := (⟨"com/example/galapagos/galapagos/ByteWriter", "write", "([BII)V"⟩ : MethodName)) (z := (⟨"com/example/galapagos/galapagos/ByteWriter", "write", "([BII)V"⟩ : MethodName)) hown (mvT hZ (hw _ (List.mem_of_getElem? (i := 13) rfl))) (mvT hZ (hw _ (List.mem_of_getElem? (i := 14) rfl))) (notFace_of_selects (args := #[]) (mvT hZ (hw _ (List.mem_of_getElem? (i := 16) rfl)))) (mvT hZ (hw _ (List.mem_of_getElem? (i := 16) rfl))) (mvT hZ (hw _ (List.mem_of_getElem? (i := 15) rfl))) (by decide) (backOf (W := 0) (rm3 l Z a0 hw [] ob zb (0 : Int32) pp ab3 (0 : Int32) (64) own_k0 0 own_k0 pN T3.heap n0 z3c fq3_0 fq3_1 fq3_2 fq3_3 fq3_4 f3_A_zb g_ob g_ab3 (ne_ob_ab3) (rfl) (by omega) (own_capb (own_cap2 (Or.inl rfl) (by omega))) (own_caps (Or.inl rfl)) (ne_zb_ab3) (ne_zb_ob) (rfl) (hpN) (by omega)) hZ (hw _ (List.mem_of_getElem? (i := 17) rfl)) (hw _ (List.mem_of_getElem? (i := 4) rfl)) (by decide) (by decide)) q4a q4c (g := (mkF m 37 #[.val (.long qv), .second, .val (.int pw), .val (.int pr), .val (.int pm), .val (.int pn), .val (.int ww), .val (.int pp), .val (.ref zb), .val (.ref ob), .unset, .unset] [(.int pp), (.int (0 : Int32)), (.ref zb), (.ref ob)])) rfl (by rw [hml]; rfl) (Steps.refl _) (argsL := [(.ref zb), (.int (0 : Int32)), (.int pp)]) (rest := []) (lenOf own_pd___BII_V rfl) rfl (by show 2 * 0 + _ ≤ _; exact Nat.le_of_eq rfl) (hb hby at_37) (fun _ _ => ⟨rfl, rfl, (by decide : 3 + 1 ≤ _), (by decide : 130 + 128 ≤ _)⟩)
  dsimp only [Pt.U, Pt.locs, Pt.cells, Pt.slots] at X4 l4 y4 z4 st4 hQ4
  subst l4 y4 z4
  obtain ⟨an4, rfl, N4q, K4, fq4_0, fq4_1, fq4_2, fq4_3, fq4_4, fq4_5, hold_4, hnw_4, hbs_4⟩ := hQ4
  have N4 := Fr.app N3 N4q
  have f4_A_zb : own_A Z T4.heap zb .byte (64) (fun z => .int (own_k0 z)) := f3_A_zb.keep K4 (ninS ne_zb_ob (ninS ne_zb_ab3 nin0))
  have f4_E_zb : Exa Z T4.heap zb "[B" := f3_E_zb.keep K4
  have f4_E_ob : Exa Z T4.heap ob "com/example/galapagos/galapagos/ByteWriter" := fq3_0.keep K4
  have f4_E_ab3 : Exa Z T4.heap ab3 "[B" := fq3_3.keep K4
  have z4c : n0 ≤ T4.heap.size := Nat.le_trans z3c K4.1
  refine own_W.steps st4 ?_
  show own_W p e (FrameEnd s) below room_1.cells room_1.slots (Q0 Z qv pw pr pm pn h0 n0) T4 (mkF m 40 #[.val (.long qv), .second, .val (.int pw), .val (.int pr), .val (.int pm), .val (.int pn), .val (.int ww), .val (.int pp), .val (.ref zb), .val (.ref ob), .unset, .unset] [])
  have g_an4 := hbs_4
  have hcp1 : own_cap (64) (0 + pN) = 64 ∨ own_cap (64) (0 + pN) = 128 := own_cap2 (Or.inl rfl) (by omega)
  refine own_aload X4 hx (hb hby at_40) (v := (.ref ob)) rfl rfl (rfl : 40 + 2 = 42) ?_
  refine own_iload X4 hx (hb hby at_42) (v := pm) rfl (rfl : 42 + 2 = 44) ?_
  obtain ⟨cq5, kq5, q5a, q5b, q5c⟩ := isOf hZ rfl fq4_0
  obtain ⟨_, _, ⟨T5, L5, k5, n5⟩, -, X5, ⟨Lc5, hQ5, l5, y5, z5⟩, st5⟩ := X4.virtualBack hx (y := (⟨"com/example/galapagos/galapagos/ByteWriter", "writeByte", "(I)V"⟩ : MethodName)) (z := (⟨"com/example/galapagos/galapagos/ByteWriter", "writeByte", "(I)V"⟩ : MethodName)) hown (mvT hZ (hw _ (List.mem_of_getElem? (i := 28) rfl))) (mvT hZ (hw _ (List.mem_of_getElem? (i := 29) rfl))) (notFace_of_selects (args := #[]) (mvT hZ (hw _ (List.mem_of_getElem? (i := 31) rfl)))) (mvT hZ (hw _ (List.mem_of_getElem? (i := 31) rfl))) (mvT hZ (hw _ (List.mem_of_getElem? (i := 30) rfl))) (by decide) (backOf (W := 0) (rm5 l Z a0 hw [] ob pm an4 ((0 : Int32) + pp) (own_cap (64) (0 + pN)) (own_cpf own_k0 (own_gr own_k0 (64) (0 + pN)) 0 0 pN) pN T4.heap n0 z4c fq4_0 fq4_1 fq4_2 fq4_3 fq4_4 g_ob g_an4 (hnw_4) (by have z := own_add (a := 0) (b := pN) (x := (0 : Int32)) rfl hpN (by omega); rw [z]; omega) (by omega) (own_capb (own_cap2 hcp1 (by omega))) (own_caps hcp1)) hZ (hw _ (List.mem_of_getElem? (i := 32) rfl)) (hw _ (List.mem_of_getElem? (i := 4) rfl)) (by decide) (by decide)) q5a q5c (g := (mkF m 44 #[.val (.long qv), .second, .val (.int pw), .val (.int pr), .val (.int pm), .val (.int pn), .val (.int ww), .val (.int pp), .val (.ref zb), .val (.ref ob), .unset, .unset] [(.int pm), (.ref ob)])) rfl (by rw [hml]; rfl) (Steps.refl _) (argsL := [(.int pm)]) (rest := []) (lenOf own_pd__I_V rfl) rfl (by show 2 * 0 + _ ≤ _; exact Nat.le_of_eq rfl) (hb hby at_44) (fun _ _ => ⟨rfl, rfl, (by decide : 4 + 1 ≤ _), (by decide : 258 + 128 ≤ _)⟩)
  dsimp only [Pt.U, Pt.locs, Pt.cells, Pt.slots] at X5 l5 y5 z5 st5 hQ5
  subst l5 y5 z5
  obtain ⟨an5, rfl, N5q, K5, fq5_0, fq5_1, fq5_2, fq5_3, fq5_4, hold_5, hnw_5, hbs_5⟩ := hQ5
  have N5 := Fr.app N4 N5q
  have f5_E_ob : Exa Z T5.heap ob "com/example/galapagos/galapagos/ByteWriter" := fq4_0.keep K5
  have f5_E_an4 : Exa Z T5.heap an4 "[B" := fq4_3.keep K5
  have z5c : n0 ≤ T5.heap.size := Nat.le_trans z4c K5.1
  refine own_W.steps st5 ?_
  show own_W p e (FrameEnd s) below room_1.cells room_1.slots (Q0 Z qv pw pr pm pn h0 n0) T5 (mkF m 47 #[.val (.long qv), .second, .val (.int pw), .val (.int pr), .val (.int pm), .val (.int pn), .val (.int ww), .val (.int pp), .val (.ref zb), .val (.ref ob), .unset, .unset] [])
  have g_an5 := hbs_5
  have hcp2 : own_cap (own_cap (64) (0 + pN)) (pN + 1) = 64 ∨ own_cap (own_cap (64) (0 + pN)) (pN + 1) = 128 := own_cap2 hcp1 (by omega)
  refine own_aload X5 hx (hb hby at_47) (v := (.ref ob)) rfl rfl (rfl : 47 + 2 = 49) ?_
  refine own_lloadN X5 hx (hb hby at_49) (v := qv) rfl (rfl : 49 + 1 = 50) ?_
  refine own_iload X5 hx (hb hby at_50) (v := ww) rfl (rfl : 50 + 2 = 52) ?_
  obtain ⟨cq6, kq6, q6a, q6b, q6c⟩ := isOf hZ rfl fq5_0
  obtain ⟨_, _, ⟨T6, L6, k6, n6⟩, -, X6, ⟨Lc6, hQ6, l6, y6, z6⟩, st6⟩ := X5.virtualBack hx (y := (⟨"com/example/galapagos/galapagos/ByteWriter", "writeBigEndian", "(JI)V"⟩ : MethodName)) (z := (⟨"com/example/galapagos/galapagos/ByteWriter", "writeBigEndian", "(JI)V"⟩ : MethodName)) hown (mvT hZ (hw _ (List.mem_of_getElem? (i := 33) rfl))) (mvT hZ (hw _ (List.mem_of_getElem? (i := 34) rfl))) (notFace_of_selects (args := #[]) (mvT hZ (hw _ (List.mem_of_getElem? (i := 36) rfl)))) (mvT hZ (hw _ (List.mem_of_getElem? (i := 36) rfl))) (mvT hZ (hw _ (List.mem_of_getElem? (i := 35) rfl))) (by decide) (backOf (W := 0) (rm6 l Z a0 hw [] ob qv ww an5 (((0 : Int32) + pp) + (1 : Int32)) (own_cap (own_cap (64) (0 + pN)) (pN + 1)) (own_up (own_gr (own_cpf own_k0 (own_gr own_k0 (64) (0 + pN)) 0 0 pN) (own_cap (64) (0 + pN)) (pN + 1)) pN (pm.toInt8.toInt32)) (pN + 1) wN T5.heap n0 z5c fq5_0 fq5_1 fq5_2 fq5_3 fq5_4 g_ob g_an5 (hnw_5) (by have z := own_add (a := 0) (b := pN) (x := (0 : Int32)) rfl hpN (by omega); have y := own_add (b := 1) (y := (1 : Int32)) z rfl (by omega); rw [y]; omega) (by omega) (own_capb (own_cap2 hcp2 (by omega))) (own_caps hcp2) (hwN) (hwle)) hZ (hw _ (List.mem_of_getElem? (i := 37) rfl)) (hw _ (List.mem_of_getElem? (i := 4) rfl)) (by decide) (by decide)) q6a q6c (g := (mkF m 52 #[.val (.long qv), .second, .val (.int pw), .val (.int pr), .val (.int pm), .val (.int pn), .val (.int ww), .val (.int pp), .val (.ref zb), .val (.ref ob), .unset, .unset] [(.int ww), (.long qv), (.ref ob)])) rfl (by rw [hml]; rfl) (Steps.refl _) (argsL := [(.long qv), (.int ww)]) (rest := []) (lenOf own_pd__JI_V rfl) rfl (by show 2 * 0 + _ ≤ _; exact Nat.le_of_eq rfl) (hb hby at_52) (fun _ _ => ⟨rfl, rfl, (by decide : 5 + 1 ≤ _), (by decide : 386 + 128 ≤ _)⟩)
  dsimp only [Pt.U, Pt.locs, Pt.cells, Pt.slots] at X6 l6 y6 z6 st6 hQ6
  subst l6 y6 z6
  obtain ⟨an6, un6, rfl, N6q, K6, fq6_0, fq6_1, fq6_2, fq6_3, fq6_4, hold_6, hnw_6, hbs_6, hun_6⟩ := hQ6
  have N6 := Fr.app N5 N6q
  have f6_E_ob : Exa Z T6.heap ob "com/example/galapagos/galapagos/ByteWriter" := fq5_0.keep K6
  have f6_E_an5 : Exa Z T6.heap an5 "[B" := fq5_3.keep K6
  have z6c : n0 ≤ T6.heap.size := Nat.le_trans z5c K6.1
  refine own_W.steps st6 ?_
  show own_W p e (FrameEnd s) below room_1.cells room_1.slots (Q0 Z qv pw pr pm pn h0 n0) T6 (mkF m 55 #[.val (.long qv), .second, .val (.int pw), .val (.int pr), .val (.int pm), .val (.int pn), .val (.int ww), .val (.int pp), .val (.ref zb), .val (.ref ob), .unset, .unset] [])
  have g_an6 := hbs_6
  have hcp3 : own_cap (own_cap (own_cap (64) (0 + pN)) (pN + 1)) ((pN + 1) + wN) = 64 ∨ own_cap (own_cap (own_cap (64) (0 + pN)) (pN + 1)) ((pN + 1) + wN) = 128 := own_cap2 hcp2 (by omega)
  refine own_aload X6 hx (hb hby at_55) (v := (.ref ob)) rfl rfl (rfl : 55 + 2 = 57) ?_
  refine own_iload X6 hx (hb hby at_57) (v := pn) rfl (rfl : 57 + 2 = 59) ?_
  obtain ⟨cq7, kq7, q7a, q7b, q7c⟩ := isOf hZ rfl fq6_0
  obtain ⟨_, _, ⟨T7, L7, k7, n7⟩, -, X7, ⟨Lc7, hQ7, l7, y7, z7⟩, st7⟩ := X6.virtualBack hx (y := (⟨"com/example/galapagos/galapagos/ByteWriter", "writeByte", "(I)V"⟩ : MethodName)) (z := (⟨"com/example/galapagos/galapagos/ByteWriter", "writeByte", "(I)V"⟩ : MethodName)) hown (mvT hZ (hw _ (List.mem_of_getElem? (i := 28) rfl))) (mvT hZ (hw _ (List.mem_of_getElem? (i := 29) rfl))) (notFace_of_selects (args := #[]) (mvT hZ (hw _ (List.mem_of_getElem? (i := 31) rfl)))) (mvT hZ (hw _ (List.mem_of_getElem? (i := 31) rfl))) (mvT hZ (hw _ (List.mem_of_getElem? (i := 30) rfl))) (by decide) (backOf (W := 0) (rm5 l Z a0 hw [] ob pn an6 un6 (own_cap (own_cap (own_cap (64) (0 + pN)) (pN + 1)) ((pN + 1) + wN)) (own_be qv wN (pN + 1) (own_gr (own_up (own_gr (own_cpf own_k0 (own_gr own_k0 (64) (0 + pN)) 0 0 pN) (own_cap (64) (0 + pN)) (pN + 1)) pN (pm.toInt8.toInt32)) (own_cap (own_cap (64) (0 + pN)) (pN + 1)) ((pN + 1) + wN)) wN) (pN + 1 + wN) T6.heap n0 z6c fq6_0 fq6_1 fq6_2 fq6_3 fq6_4 g_ob g_an6 (hnw_6) (hun_6) (by omega) (own_capb (own_cap2 hcp3 (by omega))) (own_caps hcp3)) hZ (hw _ (List.mem_of_getElem? (i := 32) rfl)) (hw _ (List.mem_of_getElem? (i := 4) rfl)) (by decide) (by decide)) q7a q7c (g := (mkF m 59 #[.val (.long qv), .second, .val (.int pw), .val (.int pr), .val (.int pm), .val (.int pn), .val (.int ww), .val (.int pp), .val (.ref zb), .val (.ref ob), .unset, .unset] [(.int pn), (.ref ob)])) rfl (by rw [hml]; rfl) (Steps.refl _) (argsL := [(.int pn)]) (rest := []) (lenOf own_pd__I_V rfl) rfl (by show 2 * 0 + _ ≤ _; exact Nat.le_of_eq rfl) (hb hby at_59) (fun _ _ => ⟨rfl, rfl, (by decide : 6 + 1 ≤ _), (by decide : 514 + 128 ≤ _)⟩)
  dsimp only [Pt.U, Pt.locs, Pt.cells, Pt.slots] at X7 l7 y7 z7 st7 hQ7
  subst l7 y7 z7
  obtain ⟨an7, rfl, N7q, K7, fq7_0, fq7_1, fq7_2, fq7_3, fq7_4, hold_7, hnw_7, hbs_7⟩ := hQ7
  have N7 := Fr.app N6 N7q
  have f7_E_ob : Exa Z T7.heap ob "com/example/galapagos/galapagos/ByteWriter" := fq6_0.keep K7
  have f7_E_an6 : Exa Z T7.heap an6 "[B" := fq6_3.keep K7
  have z7c : n0 ≤ T7.heap.size := Nat.le_trans z6c K7.1
  refine own_W.steps st7 ?_
  show own_W p e (FrameEnd s) below room_1.cells room_1.slots (Q0 Z qv pw pr pm pn h0 n0) T7 (mkF m 62 #[.val (.long qv), .second, .val (.int pw), .val (.int pr), .val (.int pm), .val (.int pn), .val (.int ww), .val (.int pp), .val (.ref zb), .val (.ref ob), .unset, .unset] [])
  have g_an7 := hbs_7
  have hcp4 : own_cap (own_cap (own_cap (own_cap (64) (0 + pN)) (pN + 1)) ((pN + 1) + wN)) ((pN + 1 + wN) + 1) = 64 ∨ own_cap (own_cap (own_cap (own_cap (64) (0 + pN)) (pN + 1)) ((pN + 1) + wN)) ((pN + 1 + wN) + 1) = 128 := own_cap2 hcp3 (by omega)
  refine own_aload X7 hx (hb hby at_62) (v := (.ref ob)) rfl rfl (rfl : 62 + 2 = 64) ?_
  obtain ⟨cq8, kq8, q8a, q8b, q8c⟩ := isOf hZ rfl fq7_0
  obtain ⟨_, _, ⟨T8, L8, k8, n8⟩, -, X8, ⟨Lc8, hQ8, l8, y8, z8⟩, st8⟩ := X7.virtualBack hx (y := (⟨"com/example/galapagos/galapagos/ByteWriter", "toByteArray", "()[B"⟩ : MethodName)) (z := (⟨"com/example/galapagos/galapagos/ByteWriter", "toByteArray", "()[B"⟩ : MethodName)) hown (mvT hZ (hw _ (List.mem_of_getElem? (i := 38) rfl))) (mvT hZ (hw _ (List.mem_of_getElem? (i := 39) rfl))) (notFace_of_selects (args := #[]) (mvT hZ (hw _ (List.mem_of_getElem? (i := 41) rfl)))) (mvT hZ (hw _ (List.mem_of_getElem? (i := 41) rfl))) (mvT hZ (hw _ (List.mem_of_getElem? (i := 40) rfl))) (by decide) (backOf (W := 0) (rm7 l Z a0 hw [] ob an7 (un6 + (1 : Int32)) (own_cap (own_cap (own_cap (own_cap (64) (0 + pN)) (pN + 1)) ((pN + 1) + wN)) ((pN + 1 + wN) + 1)) (own_up (own_gr (own_be qv wN (pN + 1) (own_gr (own_up (own_gr (own_cpf own_k0 (own_gr own_k0 (64) (0 + pN)) 0 0 pN) (own_cap (64) (0 + pN)) (pN + 1)) pN (pm.toInt8.toInt32)) (own_cap (own_cap (64) (0 + pN)) (pN + 1)) ((pN + 1) + wN)) wN) (own_cap (own_cap (own_cap (64) (0 + pN)) (pN + 1)) ((pN + 1) + wN)) ((pN + 1 + wN) + 1)) (pN + 1 + wN) (pn.toInt8.toInt32)) (pN + 1 + wN + 1) T7.heap n0 z7c fq7_1 fq7_2 fq7_3 fq7_4 (own_add (b := 1) (y := (1 : Int32)) hun_6 rfl (by omega)) (own_caps hcp4) (by omega)) hZ (hw _ (List.mem_of_getElem? (i := 42) rfl)) (hw _ (List.mem_of_getElem? (i := 4) rfl)) (by decide) (by decide)) q8a q8c (g := (mkF m 64 #[.val (.long qv), .second, .val (.int pw), .val (.int pr), .val (.int pm), .val (.int pn), .val (.int ww), .val (.int pp), .val (.ref zb), .val (.ref ob), .unset, .unset] [(.ref ob)])) rfl (by rw [hml]; rfl) (Steps.refl _) (argsL := []) (rest := []) (lenOf own_pd____B rfl) rfl (by show 2 * 0 + _ ≤ _; exact Nat.le_of_eq rfl) (hb hby at_64) (fun _ _ => ⟨rfl, rfl, (by decide : 7 + 1 ≤ _), (by decide : 642 + 74 ≤ _)⟩)
  dsimp only [Pt.U, Pt.locs, Pt.cells, Pt.slots] at X8 l8 y8 z8 st8 hQ8
  subst l8 y8 z8
  obtain ⟨br8, rfl, N8q, K8, sz8_br, fq8_0, fq8_1⟩ := hQ8
  have N8 := Fr.app N7 N8q
  have ne_ob_br8 : ob ≠ br8 := Nat.ne_of_lt (Nat.lt_of_lt_of_le fq7_0.lt sz8_br)
  have ne_an7_br8 : an7 ≠ br8 := Nat.ne_of_lt (Nat.lt_of_lt_of_le fq7_3.lt sz8_br)
  have g_br8 : n0 ≤ br8 := Nat.le_trans z7c sz8_br
  have f8_E_ob : Exa Z T8.heap ob "com/example/galapagos/galapagos/ByteWriter" := fq7_0.keep K8
  have f8_F_ob_bytes : Fld Z T8.heap ob "com/example/galapagos/galapagos/ByteWriter" "bytes" "[B" (.ref an7) := fq7_1.keep K8 nin0
  have f8_F_ob_size : Fld Z T8.heap ob "com/example/galapagos/galapagos/ByteWriter" "size" "I" (.int (un6 + (1 : Int32))) := fq7_2.keep K8 nin0
  have f8_E_an7 : Exa Z T8.heap an7 "[B" := fq7_3.keep K8
  have f8_A_an7 : own_A Z T8.heap an7 .byte (own_cap (own_cap (own_cap (own_cap (64) (0 + pN)) (pN + 1)) ((pN + 1) + wN)) ((pN + 1 + wN) + 1)) (fun z => .int (own_up (own_gr (own_be qv wN (pN + 1) (own_gr (own_up (own_gr (own_cpf own_k0 (own_gr own_k0 (64) (0 + pN)) 0 0 pN) (own_cap (64) (0 + pN)) (pN + 1)) pN (pm.toInt8.toInt32)) (own_cap (own_cap (64) (0 + pN)) (pN + 1)) ((pN + 1) + wN)) wN) (own_cap (own_cap (own_cap (64) (0 + pN)) (pN + 1)) ((pN + 1) + wN)) ((pN + 1 + wN) + 1)) (pN + 1 + wN) (pn.toInt8.toInt32) z)) := fq7_4.keep K8 nin0
  have z8c : n0 ≤ T8.heap.size := Nat.le_trans z7c K8.1
  refine own_W.steps st8 ?_
  show own_W p e (FrameEnd s) below room_1.cells room_1.slots (Q0 Z qv pw pr pm pn h0 n0) T8 (mkF m 67 #[.val (.long qv), .second, .val (.int pw), .val (.int pr), .val (.int pm), .val (.int pn), .val (.int ww), .val (.int pp), .val (.ref zb), .val (.ref ob), .unset, .unset] [(.ref br8)])
  have AO : own_A Z T8.heap br8 .byte (pN + 1 + wN + 1) (fun z => .int (own_o3 (pm.toInt8.toInt32) (pn.toInt8.toInt32) qv pN wN z)) := fq8_1.congr (fun z hz => congrArg Value.int (own_o3e pN wN _ _ qv _ _ _ _ _ (own_capge _ _) (own_capge _ _) (own_capge _ _) z hz))
  refine own_astore X8 hx (hb hby at_67) (l' := #[.val (.long qv), .second, .val (.int pw), .val (.int pr), .val (.int pm), .val (.int pn), .val (.int ww), .val (.int pp), .val (.ref zb), .val (.ref ob), .val (.ref br8), .unset]) rfl rfl (rfl : 67 + 2 = 69) ?_
  refine own_aload X8 hx (hb hby at_69) (v := (.ref br8)) rfl rfl (rfl : 69 + 2 = 71) ?_
  refine own_alen X8 hx hZ rfl AO (z := (Int32.ofNat (pN + 1 + wN + 1))) rfl (g := (mkF m 71 #[.val (.long qv), .second, .val (.int pw), .val (.int pr), .val (.int pm), .val (.int pn), .val (.int ww), .val (.int pp), .val (.ref zb), .val (.ref ob), .val (.ref br8), .unset] [(.ref br8)])) rfl rfl (hb hby at_71) ?_
  show own_W p e (FrameEnd s) below room_1.cells room_1.slots (Q0 Z qv pw pr pm pn h0 n0) T8 (mkF m 72 #[.val (.long qv), .second, .val (.int pw), .val (.int pr), .val (.int pm), .val (.int pn), .val (.int ww), .val (.int pp), .val (.ref zb), .val (.ref ob), .val (.ref br8), .unset] [(.int (Int32.ofNat (pN + 1 + wN + 1)))])
  refine own_iload X8 hx (hb hby at_72) (v := pp) rfl (rfl : 72 + 2 = 74) ?_
  refine own_iload X8 hx (hb hby at_74) (v := ww) rfl (rfl : 74 + 2 = 76) ?_
  refine own_iadd X8 hx (hb hby at_76) (rfl : 76 + 1 = 77) ?_
  refine own_iconst X8 hx (hb hby at_77) (2 : Int32) (by first | rfl | decide) (rfl : 77 + 1 = 78) ?_
  refine own_iadd X8 hx (hb hby at_78) (rfl : 78 + 1 = 79) ?_
  have hc79 : (Int32.ofNat (pN + 1 + wN + 1)) = ((pp + ww) + (2 : Int32)) := Int32.toInt_inj.mp (by rw [own_len (by omega), own_add (b := 2) (y := (2 : Int32)) (own_add hpN hwN (by omega)) rfl (by omega)]; omega)
  refine own_icmpYes X8 hx (hb hby at_79) (teq hc79).1 (pc' := 84) (by decide) (by decide) ?_
  refine own_aload X8 hx (hb hby at_84) (v := (.ref br8)) rfl rfl (rfl : 84 + 2 = 86) ?_
  refine own_iload X8 hx (hb hby at_86) (v := pp) rfl (rfl : 86 + 2 = 88) ?_
  have hi10 : own_In pp (pN) (pN + 1 + wN + 1) := ⟨hpN, by omega⟩
  refine own_baload X8 hx hZ rfl AO hi10 (v := (own_o3 (pm.toInt8.toInt32) (pn.toInt8.toInt32) qv pN wN (pN))) rfl (g := (mkF m 88 #[.val (.long qv), .second, .val (.int pw), .val (.int pr), .val (.int pm), .val (.int pn), .val (.int ww), .val (.int pp), .val (.ref zb), .val (.ref ob), .val (.ref br8), .unset] [(.int pp), (.ref br8)])) rfl rfl (hb hby at_88) ?_
  show own_W p e (FrameEnd s) below room_1.cells room_1.slots (Q0 Z qv pw pr pm pn h0 n0) T8 (mkF m 89 #[.val (.long qv), .second, .val (.int pw), .val (.int pr), .val (.int pm), .val (.int pn), .val (.int ww), .val (.int pp), .val (.ref zb), .val (.ref ob), .val (.ref br8), .unset] [(.int (own_o3 (pm.toInt8.toInt32) (pn.toInt8.toInt32) qv pN wN (pN)))])
  refine own_iload X8 hx (hb hby at_89) (v := pm) rfl (rfl : 89 + 2 = 91) ?_
  refine own_i2b X8 hx (hb hby at_91) (rfl : 91 + 1 = 92) ?_
  have hc92 : (own_o3 (pm.toInt8.toInt32) (pn.toInt8.toInt32) qv pN wN (pN)) = (pm.toInt8.toInt32) := own_o3a _ _ _ _ _
  refine own_icmpYes X8 hx (hb hby at_92) (teq hc92).1 (pc' := 97) (by decide) (by decide) ?_
  refine own_aload X8 hx (hb hby at_97) (v := (.ref br8)) rfl rfl (rfl : 97 + 2 = 99) ?_
  refine own_iload X8 hx (hb hby at_99) (v := pp) rfl (rfl : 99 + 2 = 101) ?_
  refine own_iload X8 hx (hb hby at_101) (v := ww) rfl (rfl : 101 + 2 = 103) ?_
  refine own_iadd X8 hx (hb hby at_103) (rfl : 103 + 1 = 104) ?_
  refine own_iconst X8 hx (hb hby at_104) (1 : Int32) (by first | rfl | decide) (rfl : 104 + 1 = 105) ?_
  refine own_iadd X8 hx (hb hby at_105) (rfl : 105 + 1 = 106) ?_
  have hi11 : own_In ((pp + ww) + (1 : Int32)) (pN + wN + 1) (pN + 1 + wN + 1) := ⟨own_add (b := 1) (y := (1 : Int32)) (own_add hpN hwN (by omega)) rfl (by omega), by omega⟩
  refine own_baload X8 hx hZ rfl AO hi11 (v := (own_o3 (pm.toInt8.toInt32) (pn.toInt8.toInt32) qv pN wN (pN + wN + 1))) rfl (g := (mkF m 106 #[.val (.long qv), .second, .val (.int pw), .val (.int pr), .val (.int pm), .val (.int pn), .val (.int ww), .val (.int pp), .val (.ref zb), .val (.ref ob), .val (.ref br8), .unset] [(.int ((pp + ww) + (1 : Int32))), (.ref br8)])) rfl rfl (hb hby at_106) ?_
  show own_W p e (FrameEnd s) below room_1.cells room_1.slots (Q0 Z qv pw pr pm pn h0 n0) T8 (mkF m 107 #[.val (.long qv), .second, .val (.int pw), .val (.int pr), .val (.int pm), .val (.int pn), .val (.int ww), .val (.int pp), .val (.ref zb), .val (.ref ob), .val (.ref br8), .unset] [(.int (own_o3 (pm.toInt8.toInt32) (pn.toInt8.toInt32) qv pN wN (pN + wN + 1)))])
  refine own_iload X8 hx (hb hby at_107) (v := pn) rfl (rfl : 107 + 2 = 109) ?_
  refine own_i2b X8 hx (hb hby at_109) (rfl : 109 + 1 = 110) ?_
  have hc110 : (own_o3 (pm.toInt8.toInt32) (pn.toInt8.toInt32) qv pN wN (pN + wN + 1)) = (pn.toInt8.toInt32) := own_o3c _ _ _ _ _
  refine own_icmpYes X8 hx (hb hby at_110) (teq hc110).1 (pc' := 115) (by decide) (by decide) ?_
  refine own_iload X8 hx (hb hby at_115) (v := pp) rfl (rfl : 115 + 2 = 117) ?_
  refine own_iconst X8 hx (hb hby at_117) (1 : Int32) (by first | rfl | decide) (rfl : 117 + 1 = 118) ?_
  refine own_iadd X8 hx (hb hby at_118) (rfl : 118 + 1 = 119) ?_
  refine own_istore X8 hx (hb hby at_119) (l' := #[.val (.long qv), .second, .val (.int pw), .val (.int pr), .val (.int pm), .val (.int pn), .val (.int ww), .val (.int pp), .val (.ref zb), .val (.ref ob), .val (.ref br8), .val (.int (pp + (1 : Int32)))]) rfl (rfl : 119 + 2 = 121) ?_
  refine own_aload X8 hx (hb hby at_121) (v := (.ref br8)) rfl rfl (rfl : 121 + 2 = 123) ?_
  refine own_iload X8 hx (hb hby at_123) (v := (pp + (1 : Int32))) rfl (rfl : 123 + 2 = 125) ?_
  refine own_iload X8 hx (hb hby at_125) (v := ww) rfl (rfl : 125 + 2 = 127) ?_
  refine own_lloadN X8 hx (hb hby at_127) (v := qv) rfl (rfl : 127 + 1 = 128) ?_
  refine own_iconst X8 hx (hb hby at_128) (0 : Int32) (by first | rfl | decide) (rfl : 128 + 1 = 129) ?_
  obtain ⟨_, _, ⟨T12, L12, k12, n12⟩, -, X12, ⟨Lc12, hQ12, l12, y12, z12⟩, st12⟩ := Jvm.LawKit.callS X8 hx (y := (⟨"com/example/galapagos/galapagos/ByteWriterWriteBigEndianPinLaw", "at", "([BIIJI)Z"⟩ : MethodName)) hown (mvT hZ (hw _ (List.mem_of_getElem? (i := 52) rfl))) (mvT hZ (hw _ (List.mem_of_getElem? (i := 53) rfl))) (mvT hZ (hw _ (List.mem_of_getElem? (i := 54) rfl))) (mvT hZ (hw _ (List.mem_of_getElem? (i := 55) rfl))) (by decide) (backOf (W := 0) (rm10 l Z a0 hw [] br8 (pp + (1 : Int32)) ww qv (0 : Int32) (pN + 1 + wN + 1) (own_o3 (pm.toInt8.toInt32) (pn.toInt8.toInt32) qv pN wN) T8.heap n0 z8c AO (own_at3 hpN hwN hple hwle _ _ qv (0 : Int32) 0 (by decide) (by decide))) hZ (hw _ (List.mem_of_getElem? (i := 55) rfl)) (hw _ (List.mem_of_getElem? (i := 54) rfl)) (by decide) (by decide)) (g := (mkF m 129 #[.val (.long qv), .second, .val (.int pw), .val (.int pr), .val (.int pm), .val (.int pn), .val (.int ww), .val (.int pp), .val (.ref zb), .val (.ref ob), .val (.ref br8), .val (.int (pp + (1 : Int32)))] [(.int (0 : Int32)), (.long qv), (.int ww), (.int (pp + (1 : Int32))), (.ref br8)])) rfl (by rw [hml]; rfl) (argsL := [(.ref br8), (.int (pp + (1 : Int32))), (.int ww), (.long qv), (.int (0 : Int32))]) (rest := []) (lenOf own_pd___BIIJI_Z rfl) rfl (by show 2 * 0 + _ ≤ _; exact Nat.le_of_eq rfl) (hb hby at_129) (fun _ _ => ⟨rfl, rfl, (by decide : 8 + 0 ≤ _), (by decide : 716 + 0 ≤ _)⟩)
  dsimp only [Pt.U, Pt.locs, Pt.cells, Pt.slots] at X12 l12 y12 z12 st12 hQ12
  subst l12 y12 z12
  obtain ⟨rfl, N12q, e12⟩ := hQ12
  have N12 := Fr.app N8 N12q
  refine own_W.step st12 ?_
  show own_W p e (FrameEnd s) below room_1.cells room_1.slots (Q0 Z qv pw pr pm pn h0 n0) T12 (mkF m 132 #[.val (.long qv), .second, .val (.int pw), .val (.int pr), .val (.int pm), .val (.int pn), .val (.int ww), .val (.int pp), .val (.ref zb), .val (.ref ob), .val (.ref br8), .val (.int (pp + (1 : Int32)))] [(.int (1 : Int32))])
  have hc132 : ¬ ((1 : Int32) = (0 : Int32)) := by decide
  refine own_ifNo X12 hx (hb hby at_132) ((if0 _ _).trans (feq hc132).1) (rfl : 132 + 3 = 135) ?_
  refine own_aload X12 hx (hb hby at_135) (v := (.ref br8)) rfl rfl (rfl : 135 + 2 = 137) ?_
  refine own_iload X12 hx (hb hby at_137) (v := (pp + (1 : Int32))) rfl (rfl : 137 + 2 = 139) ?_
  refine own_iload X12 hx (hb hby at_139) (v := ww) rfl (rfl : 139 + 2 = 141) ?_
  refine own_lloadN X12 hx (hb hby at_141) (v := qv) rfl (rfl : 141 + 1 = 142) ?_
  refine own_iconst X12 hx (hb hby at_142) (1 : Int32) (by first | rfl | decide) (rfl : 142 + 1 = 143) ?_
  obtain ⟨_, _, ⟨T13, L13, k13, n13⟩, -, X13, ⟨Lc13, hQ13, l13, y13, z13⟩, st13⟩ := Jvm.LawKit.callS X12 hx (y := (⟨"com/example/galapagos/galapagos/ByteWriterWriteBigEndianPinLaw", "at", "([BIIJI)Z"⟩ : MethodName)) hown (mvT hZ (hw _ (List.mem_of_getElem? (i := 52) rfl))) (mvT hZ (hw _ (List.mem_of_getElem? (i := 53) rfl))) (mvT hZ (hw _ (List.mem_of_getElem? (i := 54) rfl))) (mvT hZ (hw _ (List.mem_of_getElem? (i := 55) rfl))) (by decide) (backOf (W := 0) (rm10 l Z a0 hw [] br8 (pp + (1 : Int32)) ww qv (1 : Int32) (pN + 1 + wN + 1) (own_o3 (pm.toInt8.toInt32) (pn.toInt8.toInt32) qv pN wN) T8.heap n0 z8c AO (own_at3 hpN hwN hple hwle _ _ qv (1 : Int32) 1 (by decide) (by decide))) hZ (hw _ (List.mem_of_getElem? (i := 55) rfl)) (hw _ (List.mem_of_getElem? (i := 54) rfl)) (by decide) (by decide)) (g := (mkF m 143 #[.val (.long qv), .second, .val (.int pw), .val (.int pr), .val (.int pm), .val (.int pn), .val (.int ww), .val (.int pp), .val (.ref zb), .val (.ref ob), .val (.ref br8), .val (.int (pp + (1 : Int32)))] [(.int (1 : Int32)), (.long qv), (.int ww), (.int (pp + (1 : Int32))), (.ref br8)])) rfl (by rw [hml]; rfl) (argsL := [(.ref br8), (.int (pp + (1 : Int32))), (.int ww), (.long qv), (.int (1 : Int32))]) (rest := []) (lenOf own_pd___BIIJI_Z rfl) rfl (by show 2 * 0 + _ ≤ _; exact Nat.le_of_eq rfl) (hb hby at_143) (fun _ _ => ⟨rfl, e12, (by decide : 8 + 0 ≤ _), (by decide : 716 + 0 ≤ _)⟩)
  dsimp only [Pt.U, Pt.locs, Pt.cells, Pt.slots] at X13 l13 y13 z13 st13 hQ13
  subst l13 y13 z13
  obtain ⟨rfl, N13q, e13⟩ := hQ13
  have N13 := Fr.app N12 N13q
  refine own_W.step st13 ?_
  show own_W p e (FrameEnd s) below room_1.cells room_1.slots (Q0 Z qv pw pr pm pn h0 n0) T13 (mkF m 146 #[.val (.long qv), .second, .val (.int pw), .val (.int pr), .val (.int pm), .val (.int pn), .val (.int ww), .val (.int pp), .val (.ref zb), .val (.ref ob), .val (.ref br8), .val (.int (pp + (1 : Int32)))] [(.int (1 : Int32))])
  have hc146 : ¬ ((1 : Int32) = (0 : Int32)) := by decide
  refine own_ifNo X13 hx (hb hby at_146) ((if0 _ _).trans (feq hc146).1) (rfl : 146 + 3 = 149) ?_
  refine own_aload X13 hx (hb hby at_149) (v := (.ref br8)) rfl rfl (rfl : 149 + 2 = 151) ?_
  refine own_iload X13 hx (hb hby at_151) (v := (pp + (1 : Int32))) rfl (rfl : 151 + 2 = 153) ?_
  refine own_iload X13 hx (hb hby at_153) (v := ww) rfl (rfl : 153 + 2 = 155) ?_
  refine own_lloadN X13 hx (hb hby at_155) (v := qv) rfl (rfl : 155 + 1 = 156) ?_
  refine own_iconst X13 hx (hb hby at_156) (2 : Int32) (by first | rfl | decide) (rfl : 156 + 1 = 157) ?_
  obtain ⟨_, _, ⟨T14, L14, k14, n14⟩, -, X14, ⟨Lc14, hQ14, l14, y14, z14⟩, st14⟩ := Jvm.LawKit.callS X13 hx (y := (⟨"com/example/galapagos/galapagos/ByteWriterWriteBigEndianPinLaw", "at", "([BIIJI)Z"⟩ : MethodName)) hown (mvT hZ (hw _ (List.mem_of_getElem? (i := 52) rfl))) (mvT hZ (hw _ (List.mem_of_getElem? (i := 53) rfl))) (mvT hZ (hw _ (List.mem_of_getElem? (i := 54) rfl))) (mvT hZ (hw _ (List.mem_of_getElem? (i := 55) rfl))) (by decide) (backOf (W := 0) (rm10 l Z a0 hw [] br8 (pp + (1 : Int32)) ww qv (2 : Int32) (pN + 1 + wN + 1) (own_o3 (pm.toInt8.toInt32) (pn.toInt8.toInt32) qv pN wN) T8.heap n0 z8c AO (own_at3 hpN hwN hple hwle _ _ qv (2 : Int32) 2 (by decide) (by decide))) hZ (hw _ (List.mem_of_getElem? (i := 55) rfl)) (hw _ (List.mem_of_getElem? (i := 54) rfl)) (by decide) (by decide)) (g := (mkF m 157 #[.val (.long qv), .second, .val (.int pw), .val (.int pr), .val (.int pm), .val (.int pn), .val (.int ww), .val (.int pp), .val (.ref zb), .val (.ref ob), .val (.ref br8), .val (.int (pp + (1 : Int32)))] [(.int (2 : Int32)), (.long qv), (.int ww), (.int (pp + (1 : Int32))), (.ref br8)])) rfl (by rw [hml]; rfl) (argsL := [(.ref br8), (.int (pp + (1 : Int32))), (.int ww), (.long qv), (.int (2 : Int32))]) (rest := []) (lenOf own_pd___BIIJI_Z rfl) rfl (by show 2 * 0 + _ ≤ _; exact Nat.le_of_eq rfl) (hb hby at_157) (fun _ _ => ⟨rfl, e13, (by decide : 8 + 0 ≤ _), (by decide : 716 + 0 ≤ _)⟩)
  dsimp only [Pt.U, Pt.locs, Pt.cells, Pt.slots] at X14 l14 y14 z14 st14 hQ14
  subst l14 y14 z14
  obtain ⟨rfl, N14q, e14⟩ := hQ14
  have N14 := Fr.app N13 N14q
  refine own_W.step st14 ?_
  show own_W p e (FrameEnd s) below room_1.cells room_1.slots (Q0 Z qv pw pr pm pn h0 n0) T14 (mkF m 160 #[.val (.long qv), .second, .val (.int pw), .val (.int pr), .val (.int pm), .val (.int pn), .val (.int ww), .val (.int pp), .val (.ref zb), .val (.ref ob), .val (.ref br8), .val (.int (pp + (1 : Int32)))] [(.int (1 : Int32))])
  have hc160 : ¬ ((1 : Int32) = (0 : Int32)) := by decide
  refine own_ifNo X14 hx (hb hby at_160) ((if0 _ _).trans (feq hc160).1) (rfl : 160 + 3 = 163) ?_
  refine own_aload X14 hx (hb hby at_163) (v := (.ref br8)) rfl rfl (rfl : 163 + 2 = 165) ?_
  refine own_iload X14 hx (hb hby at_165) (v := (pp + (1 : Int32))) rfl (rfl : 165 + 2 = 167) ?_
  refine own_iload X14 hx (hb hby at_167) (v := ww) rfl (rfl : 167 + 2 = 169) ?_
  refine own_lloadN X14 hx (hb hby at_169) (v := qv) rfl (rfl : 169 + 1 = 170) ?_
  refine own_iconst X14 hx (hb hby at_170) (3 : Int32) (by first | rfl | decide) (rfl : 170 + 1 = 171) ?_
  obtain ⟨_, _, ⟨T15, L15, k15, n15⟩, -, X15, ⟨Lc15, hQ15, l15, y15, z15⟩, st15⟩ := Jvm.LawKit.callS X14 hx (y := (⟨"com/example/galapagos/galapagos/ByteWriterWriteBigEndianPinLaw", "at", "([BIIJI)Z"⟩ : MethodName)) hown (mvT hZ (hw _ (List.mem_of_getElem? (i := 52) rfl))) (mvT hZ (hw _ (List.mem_of_getElem? (i := 53) rfl))) (mvT hZ (hw _ (List.mem_of_getElem? (i := 54) rfl))) (mvT hZ (hw _ (List.mem_of_getElem? (i := 55) rfl))) (by decide) (backOf (W := 0) (rm10 l Z a0 hw [] br8 (pp + (1 : Int32)) ww qv (3 : Int32) (pN + 1 + wN + 1) (own_o3 (pm.toInt8.toInt32) (pn.toInt8.toInt32) qv pN wN) T8.heap n0 z8c AO (own_at3 hpN hwN hple hwle _ _ qv (3 : Int32) 3 (by decide) (by decide))) hZ (hw _ (List.mem_of_getElem? (i := 55) rfl)) (hw _ (List.mem_of_getElem? (i := 54) rfl)) (by decide) (by decide)) (g := (mkF m 171 #[.val (.long qv), .second, .val (.int pw), .val (.int pr), .val (.int pm), .val (.int pn), .val (.int ww), .val (.int pp), .val (.ref zb), .val (.ref ob), .val (.ref br8), .val (.int (pp + (1 : Int32)))] [(.int (3 : Int32)), (.long qv), (.int ww), (.int (pp + (1 : Int32))), (.ref br8)])) rfl (by rw [hml]; rfl) (argsL := [(.ref br8), (.int (pp + (1 : Int32))), (.int ww), (.long qv), (.int (3 : Int32))]) (rest := []) (lenOf own_pd___BIIJI_Z rfl) rfl (by show 2 * 0 + _ ≤ _; exact Nat.le_of_eq rfl) (hb hby at_171) (fun _ _ => ⟨rfl, e14, (by decide : 8 + 0 ≤ _), (by decide : 716 + 0 ≤ _)⟩)
  dsimp only [Pt.U, Pt.locs, Pt.cells, Pt.slots] at X15 l15 y15 z15 st15 hQ15
  subst l15 y15 z15
  obtain ⟨rfl, N15q, e15⟩ := hQ15
  have N15 := Fr.app N14 N15q
  refine own_W.step st15 ?_
  show own_W p e (FrameEnd s) below room_1.cells room_1.slots (Q0 Z qv pw pr pm pn h0 n0) T15 (mkF m 174 #[.val (.long qv), .second, .val (.int pw), .val (.int pr), .val (.int pm), .val (.int pn), .val (.int ww), .val (.int pp), .val (.ref zb), .val (.ref ob), .val (.ref br8), .val (.int (pp + (1 : Int32)))] [(.int (1 : Int32))])
  have hc174 : ¬ ((1 : Int32) = (0 : Int32)) := by decide
  refine own_ifNo X15 hx (hb hby at_174) ((if0 _ _).trans (feq hc174).1) (rfl : 174 + 3 = 177) ?_
  refine own_aload X15 hx (hb hby at_177) (v := (.ref br8)) rfl rfl (rfl : 177 + 2 = 179) ?_
  refine own_iload X15 hx (hb hby at_179) (v := (pp + (1 : Int32))) rfl (rfl : 179 + 2 = 181) ?_
  refine own_iload X15 hx (hb hby at_181) (v := ww) rfl (rfl : 181 + 2 = 183) ?_
  refine own_lloadN X15 hx (hb hby at_183) (v := qv) rfl (rfl : 183 + 1 = 184) ?_
  refine own_iconst X15 hx (hb hby at_184) (4 : Int32) (by first | rfl | decide) (rfl : 184 + 1 = 185) ?_
  obtain ⟨_, _, ⟨T16, L16, k16, n16⟩, -, X16, ⟨Lc16, hQ16, l16, y16, z16⟩, st16⟩ := Jvm.LawKit.callS X15 hx (y := (⟨"com/example/galapagos/galapagos/ByteWriterWriteBigEndianPinLaw", "at", "([BIIJI)Z"⟩ : MethodName)) hown (mvT hZ (hw _ (List.mem_of_getElem? (i := 52) rfl))) (mvT hZ (hw _ (List.mem_of_getElem? (i := 53) rfl))) (mvT hZ (hw _ (List.mem_of_getElem? (i := 54) rfl))) (mvT hZ (hw _ (List.mem_of_getElem? (i := 55) rfl))) (by decide) (backOf (W := 0) (rm10 l Z a0 hw [] br8 (pp + (1 : Int32)) ww qv (4 : Int32) (pN + 1 + wN + 1) (own_o3 (pm.toInt8.toInt32) (pn.toInt8.toInt32) qv pN wN) T8.heap n0 z8c AO (own_at3 hpN hwN hple hwle _ _ qv (4 : Int32) 4 (by decide) (by decide))) hZ (hw _ (List.mem_of_getElem? (i := 55) rfl)) (hw _ (List.mem_of_getElem? (i := 54) rfl)) (by decide) (by decide)) (g := (mkF m 185 #[.val (.long qv), .second, .val (.int pw), .val (.int pr), .val (.int pm), .val (.int pn), .val (.int ww), .val (.int pp), .val (.ref zb), .val (.ref ob), .val (.ref br8), .val (.int (pp + (1 : Int32)))] [(.int (4 : Int32)), (.long qv), (.int ww), (.int (pp + (1 : Int32))), (.ref br8)])) rfl (by rw [hml]; rfl) (argsL := [(.ref br8), (.int (pp + (1 : Int32))), (.int ww), (.long qv), (.int (4 : Int32))]) (rest := []) (lenOf own_pd___BIIJI_Z rfl) rfl (by show 2 * 0 + _ ≤ _; exact Nat.le_of_eq rfl) (hb hby at_185) (fun _ _ => ⟨rfl, e15, (by decide : 8 + 0 ≤ _), (by decide : 716 + 0 ≤ _)⟩)
  dsimp only [Pt.U, Pt.locs, Pt.cells, Pt.slots] at X16 l16 y16 z16 st16 hQ16
  subst l16 y16 z16
  obtain ⟨rfl, N16q, e16⟩ := hQ16
  have N16 := Fr.app N15 N16q
  refine own_W.step st16 ?_
  show own_W p e (FrameEnd s) below room_1.cells room_1.slots (Q0 Z qv pw pr pm pn h0 n0) T16 (mkF m 188 #[.val (.long qv), .second, .val (.int pw), .val (.int pr), .val (.int pm), .val (.int pn), .val (.int ww), .val (.int pp), .val (.ref zb), .val (.ref ob), .val (.ref br8), .val (.int (pp + (1 : Int32)))] [(.int (1 : Int32))])
  have hc188 : ¬ ((1 : Int32) = (0 : Int32)) := by decide
  refine own_ifNo X16 hx (hb hby at_188) ((if0 _ _).trans (feq hc188).1) (rfl : 188 + 3 = 191) ?_
  refine own_aload X16 hx (hb hby at_191) (v := (.ref br8)) rfl rfl (rfl : 191 + 2 = 193) ?_
  refine own_iload X16 hx (hb hby at_193) (v := (pp + (1 : Int32))) rfl (rfl : 193 + 2 = 195) ?_
  refine own_iload X16 hx (hb hby at_195) (v := ww) rfl (rfl : 195 + 2 = 197) ?_
  refine own_lloadN X16 hx (hb hby at_197) (v := qv) rfl (rfl : 197 + 1 = 198) ?_
  refine own_iconst X16 hx (hb hby at_198) (5 : Int32) (by first | rfl | decide) (rfl : 198 + 1 = 199) ?_
  obtain ⟨_, _, ⟨T17, L17, k17, n17⟩, -, X17, ⟨Lc17, hQ17, l17, y17, z17⟩, st17⟩ := Jvm.LawKit.callS X16 hx (y := (⟨"com/example/galapagos/galapagos/ByteWriterWriteBigEndianPinLaw", "at", "([BIIJI)Z"⟩ : MethodName)) hown (mvT hZ (hw _ (List.mem_of_getElem? (i := 52) rfl))) (mvT hZ (hw _ (List.mem_of_getElem? (i := 53) rfl))) (mvT hZ (hw _ (List.mem_of_getElem? (i := 54) rfl))) (mvT hZ (hw _ (List.mem_of_getElem? (i := 55) rfl))) (by decide) (backOf (W := 0) (rm10 l Z a0 hw [] br8 (pp + (1 : Int32)) ww qv (5 : Int32) (pN + 1 + wN + 1) (own_o3 (pm.toInt8.toInt32) (pn.toInt8.toInt32) qv pN wN) T8.heap n0 z8c AO (own_at3 hpN hwN hple hwle _ _ qv (5 : Int32) 5 (by decide) (by decide))) hZ (hw _ (List.mem_of_getElem? (i := 55) rfl)) (hw _ (List.mem_of_getElem? (i := 54) rfl)) (by decide) (by decide)) (g := (mkF m 199 #[.val (.long qv), .second, .val (.int pw), .val (.int pr), .val (.int pm), .val (.int pn), .val (.int ww), .val (.int pp), .val (.ref zb), .val (.ref ob), .val (.ref br8), .val (.int (pp + (1 : Int32)))] [(.int (5 : Int32)), (.long qv), (.int ww), (.int (pp + (1 : Int32))), (.ref br8)])) rfl (by rw [hml]; rfl) (argsL := [(.ref br8), (.int (pp + (1 : Int32))), (.int ww), (.long qv), (.int (5 : Int32))]) (rest := []) (lenOf own_pd___BIIJI_Z rfl) rfl (by show 2 * 0 + _ ≤ _; exact Nat.le_of_eq rfl) (hb hby at_199) (fun _ _ => ⟨rfl, e16, (by decide : 8 + 0 ≤ _), (by decide : 716 + 0 ≤ _)⟩)
  dsimp only [Pt.U, Pt.locs, Pt.cells, Pt.slots] at X17 l17 y17 z17 st17 hQ17
  subst l17 y17 z17
  obtain ⟨rfl, N17q, e17⟩ := hQ17
  have N17 := Fr.app N16 N17q
  refine own_W.step st17 ?_
  show own_W p e (FrameEnd s) below room_1.cells room_1.slots (Q0 Z qv pw pr pm pn h0 n0) T17 (mkF m 202 #[.val (.long qv), .second, .val (.int pw), .val (.int pr), .val (.int pm), .val (.int pn), .val (.int ww), .val (.int pp), .val (.ref zb), .val (.ref ob), .val (.ref br8), .val (.int (pp + (1 : Int32)))] [(.int (1 : Int32))])
  have hc202 : ¬ ((1 : Int32) = (0 : Int32)) := by decide
  refine own_ifNo X17 hx (hb hby at_202) ((if0 _ _).trans (feq hc202).1) (rfl : 202 + 3 = 205) ?_
  refine own_aload X17 hx (hb hby at_205) (v := (.ref br8)) rfl rfl (rfl : 205 + 2 = 207) ?_
  refine own_iload X17 hx (hb hby at_207) (v := (pp + (1 : Int32))) rfl (rfl : 207 + 2 = 209) ?_
  refine own_iload X17 hx (hb hby at_209) (v := ww) rfl (rfl : 209 + 2 = 211) ?_
  refine own_lloadN X17 hx (hb hby at_211) (v := qv) rfl (rfl : 211 + 1 = 212) ?_
  refine own_bipush X17 hx (hb hby at_212) (6 : Int32) (by first | rfl | decide) (rfl : 212 + 2 = 214) ?_
  obtain ⟨_, _, ⟨T18, L18, k18, n18⟩, -, X18, ⟨Lc18, hQ18, l18, y18, z18⟩, st18⟩ := Jvm.LawKit.callS X17 hx (y := (⟨"com/example/galapagos/galapagos/ByteWriterWriteBigEndianPinLaw", "at", "([BIIJI)Z"⟩ : MethodName)) hown (mvT hZ (hw _ (List.mem_of_getElem? (i := 52) rfl))) (mvT hZ (hw _ (List.mem_of_getElem? (i := 53) rfl))) (mvT hZ (hw _ (List.mem_of_getElem? (i := 54) rfl))) (mvT hZ (hw _ (List.mem_of_getElem? (i := 55) rfl))) (by decide) (backOf (W := 0) (rm10 l Z a0 hw [] br8 (pp + (1 : Int32)) ww qv (6 : Int32) (pN + 1 + wN + 1) (own_o3 (pm.toInt8.toInt32) (pn.toInt8.toInt32) qv pN wN) T8.heap n0 z8c AO (own_at3 hpN hwN hple hwle _ _ qv (6 : Int32) 6 (by decide) (by decide))) hZ (hw _ (List.mem_of_getElem? (i := 55) rfl)) (hw _ (List.mem_of_getElem? (i := 54) rfl)) (by decide) (by decide)) (g := (mkF m 214 #[.val (.long qv), .second, .val (.int pw), .val (.int pr), .val (.int pm), .val (.int pn), .val (.int ww), .val (.int pp), .val (.ref zb), .val (.ref ob), .val (.ref br8), .val (.int (pp + (1 : Int32)))] [(.int (6 : Int32)), (.long qv), (.int ww), (.int (pp + (1 : Int32))), (.ref br8)])) rfl (by rw [hml]; rfl) (argsL := [(.ref br8), (.int (pp + (1 : Int32))), (.int ww), (.long qv), (.int (6 : Int32))]) (rest := []) (lenOf own_pd___BIIJI_Z rfl) rfl (by show 2 * 0 + _ ≤ _; exact Nat.le_of_eq rfl) (hb hby at_214) (fun _ _ => ⟨rfl, e17, (by decide : 8 + 0 ≤ _), (by decide : 716 + 0 ≤ _)⟩)
  dsimp only [Pt.U, Pt.locs, Pt.cells, Pt.slots] at X18 l18 y18 z18 st18 hQ18
  subst l18 y18 z18
  obtain ⟨rfl, N18q, e18⟩ := hQ18
  have N18 := Fr.app N17 N18q
  refine own_W.step st18 ?_
  show own_W p e (FrameEnd s) below room_1.cells room_1.slots (Q0 Z qv pw pr pm pn h0 n0) T18 (mkF m 217 #[.val (.long qv), .second, .val (.int pw), .val (.int pr), .val (.int pm), .val (.int pn), .val (.int ww), .val (.int pp), .val (.ref zb), .val (.ref ob), .val (.ref br8), .val (.int (pp + (1 : Int32)))] [(.int (1 : Int32))])
  have hc217 : ¬ ((1 : Int32) = (0 : Int32)) := by decide
  refine own_ifNo X18 hx (hb hby at_217) ((if0 _ _).trans (feq hc217).1) (rfl : 217 + 3 = 220) ?_
  refine own_aload X18 hx (hb hby at_220) (v := (.ref br8)) rfl rfl (rfl : 220 + 2 = 222) ?_
  refine own_iload X18 hx (hb hby at_222) (v := (pp + (1 : Int32))) rfl (rfl : 222 + 2 = 224) ?_
  refine own_iload X18 hx (hb hby at_224) (v := ww) rfl (rfl : 224 + 2 = 226) ?_
  refine own_lloadN X18 hx (hb hby at_226) (v := qv) rfl (rfl : 226 + 1 = 227) ?_
  refine own_bipush X18 hx (hb hby at_227) (7 : Int32) (by first | rfl | decide) (rfl : 227 + 2 = 229) ?_
  obtain ⟨_, _, ⟨T19, L19, k19, n19⟩, -, X19, ⟨Lc19, hQ19, l19, y19, z19⟩, st19⟩ := Jvm.LawKit.callS X18 hx (y := (⟨"com/example/galapagos/galapagos/ByteWriterWriteBigEndianPinLaw", "at", "([BIIJI)Z"⟩ : MethodName)) hown (mvT hZ (hw _ (List.mem_of_getElem? (i := 52) rfl))) (mvT hZ (hw _ (List.mem_of_getElem? (i := 53) rfl))) (mvT hZ (hw _ (List.mem_of_getElem? (i := 54) rfl))) (mvT hZ (hw _ (List.mem_of_getElem? (i := 55) rfl))) (by decide) (backOf (W := 0) (rm10 l Z a0 hw [] br8 (pp + (1 : Int32)) ww qv (7 : Int32) (pN + 1 + wN + 1) (own_o3 (pm.toInt8.toInt32) (pn.toInt8.toInt32) qv pN wN) T8.heap n0 z8c AO (own_at3 hpN hwN hple hwle _ _ qv (7 : Int32) 7 (by decide) (by decide))) hZ (hw _ (List.mem_of_getElem? (i := 55) rfl)) (hw _ (List.mem_of_getElem? (i := 54) rfl)) (by decide) (by decide)) (g := (mkF m 229 #[.val (.long qv), .second, .val (.int pw), .val (.int pr), .val (.int pm), .val (.int pn), .val (.int ww), .val (.int pp), .val (.ref zb), .val (.ref ob), .val (.ref br8), .val (.int (pp + (1 : Int32)))] [(.int (7 : Int32)), (.long qv), (.int ww), (.int (pp + (1 : Int32))), (.ref br8)])) rfl (by rw [hml]; rfl) (argsL := [(.ref br8), (.int (pp + (1 : Int32))), (.int ww), (.long qv), (.int (7 : Int32))]) (rest := []) (lenOf own_pd___BIIJI_Z rfl) rfl (by show 2 * 0 + _ ≤ _; exact Nat.le_of_eq rfl) (hb hby at_229) (fun _ _ => ⟨rfl, e18, (by decide : 8 + 0 ≤ _), (by decide : 716 + 0 ≤ _)⟩)
  dsimp only [Pt.U, Pt.locs, Pt.cells, Pt.slots] at X19 l19 y19 z19 st19 hQ19
  subst l19 y19 z19
  obtain ⟨rfl, N19q, e19⟩ := hQ19
  have N19 := Fr.app N18 N19q
  refine own_W.step st19 ?_
  show own_W p e (FrameEnd s) below room_1.cells room_1.slots (Q0 Z qv pw pr pm pn h0 n0) T19 (mkF m 232 #[.val (.long qv), .second, .val (.int pw), .val (.int pr), .val (.int pm), .val (.int pn), .val (.int ww), .val (.int pp), .val (.ref zb), .val (.ref ob), .val (.ref br8), .val (.int (pp + (1 : Int32)))] [(.int (1 : Int32))])
  have hc232 : ¬ ((1 : Int32) = (0 : Int32)) := by decide
  refine own_ifNo X19 hx (hb hby at_232) ((if0 _ _).trans (feq hc232).1) (rfl : 232 + 3 = 235) ?_
  refine own_iconst X19 hx (hb hby at_235) (1 : Int32) (by first | rfl | decide) (rfl : 235 + 1 = 236) ?_
  refine own_goto X19 hx (hb hby at_236) (pc' := 240) (by decide) (by decide) ?_
  refine own_retN (t := .boolean) X19 hx hlk hret (by simp) (hb hby at_240) (z' := (1 : Int32)) (by decide) (by decide) (by decide) ?_
  show Q0 Z qv pw pr pm pn h0 n0 (some (.int (1 : Int32))) T19.heap _
  rw [e19]
  exact ⟨rfl, N19⟩
set_option maxRecDepth 65536 in
set_option maxHeartbeats 40000000 in
theorem comes_1 {Post : Tables → Env → Array Value → State → Outcome → State → Prop} (hpost : ∀ tb e args s v u, (limb_1_1.after args s (.returned v) u = true ∧ limb_1_2.after args s (.returned v) u = true ∧ True) → FrameEnd s (.returned v) u (Jvm.fieldLocs frame_1_writes args s ++ Jvm.arrayLocs frame_1_arrays args s ++ Jvm.staticLocs frame_1_statics s) 24 768 → Post tb e args s (.returned v) u) :
    ArmFor flags0 classFile x code maxLocals ret World_1 tables_1 room_1 Calls_1 rest_1 Pre_1 Post := by
  intro l hfl _ _ p e ha hc hk s m args below hf hA hF happ hP
  obtain ⟨hcalls, hrest, hpre⟩ := hP
  obtain ⟨-, -, -, hnamed, -, -, -, hat⟩ := (Spec.applies_iff hf).mp happ
  obtain ⟨hg, hn⟩ := and_e (Cond.before_iff.mp (show (Jvm.Cond.and given_1 narrow_1).before args s = true from hpre))
  obtain ⟨hg0, hr0⟩ := and_e hg
  obtain ⟨hg1, hr1⟩ := and_e hr0
  obtain ⟨hg2, hr2⟩ := and_e hr1
  obtain ⟨hg3, hr3⟩ := and_e hr2
  obtain ⟨hg4, hr4⟩ := and_e hr3
  obtain ⟨w0, w1, w2, w3, w4, rfl⟩ : ∃ w0 w1 w2 w3 w4 : Value, args = #[w0, w1, w2, w3, w4] := by
    have hs : args.size = 5 := by simpa [Cond.value, given_1] using hg0
    obtain ⟨L⟩ := args
    match L, hs with
    | [w0, w1, w2, w3, w4], _ => exact ⟨w0, w1, w2, w3, w4, rfl⟩
  have hw := fun d (hd : d ∈ tables_1) => atoms_spec (ws := Jvm.Cond.code x code maxLocals ret :: tables_1) hat d (List.mem_cons_of_mem _ hd)
  obtain ⟨i0, ei0⟩ := isL_v hg1
  obtain rfl : w0 = (.long i0) := Option.some.inj ei0
  obtain ⟨i1, ei1⟩ := is_v hg2
  obtain rfl : w1 = (.int i1) := Option.some.inj ei1
  obtain ⟨i2, ei2⟩ := is_v hg3
  obtain rfl : w2 = (.int i2) := Option.some.inj ei2
  obtain ⟨i3, ei3⟩ := is_v hg4
  obtain rfl : w3 = (.int i3) := Option.some.inj ei3
  obtain ⟨i4, ei4⟩ := is_v hr4
  obtain rfl : w4 = (.int i4) := Option.some.inj ei4
  obtain ⟨n, o, h1, h2, h3, _, L, rfl, ⟨rfl, N⟩, hq⟩ := rm0 l s _ hw tables_1 i0 i1 i2 i3 i4 s.heap s.heap.size (Nat.le_refl _) p e ha hc hk s m _ below hf ((Spec.applies_iff_loose hf).mp happ).1 ⟨rfl, State.Warmed39.refl s, rfl⟩ trivial
  refine ⟨n, _, h1, h2, h3, hpost _ _ _ _ _ _ ⟨Cond.after_iff.mpr rfl, Cond.after_iff.mpr (eq_i res_at (Term.int_eval (1)) rfl), trivial⟩ ⟨hq.1, hq.2.1, (hq.2.2.sift fun y hy => Or.inr (N y hy)).mono (by decide) (by decide)⟩⟩
theorem main_1_1 : Claimed_1_1 := comes_1 fun _ _ _ _ _ _ h hF => ⟨h.1, hF⟩
theorem main_1_2 : Claimed_1_2 := comes_1 fun _ _ _ _ _ _ h hF => ⟨h.2.1, hF⟩
end Jvm.Pilot.@@N@@
namespace Jvm.Pilot.@@N@@
open Jvm Jvm.ClassFile Sem Op Lib Jvm.Free Jvm.Stand Jvm.Pilot.@@N@@.Jvm.D
/-! MADE BY PROGRAM (witnessworld.py) out of the Statement's table words and the real class files: 12 classes; the members and pool entries that the words name. The judged class is class 1, her method 1. -/
namespace start1
open Jvm.ClassFile
def u (s : String) : CpInfo := .utf8 (stringToUtf16 s)
/-- a pool by its gaps: so many unusable entries, then the entry; so many at the end -/
def gap : Nat → List CpInfo → List CpInfo
  | 0, r => r
  | n + 1, r => .unusable :: gap n r
def poolList (es : List (Nat × CpInfo)) (last : Nat) : List CpInfo := es.foldr (fun e r => gap e.1 (e.2 :: r)) (gap last [])
def pool (es : List (Nat × CpInfo)) (last : Nat) : Array CpInfo := ⟨poolList es last⟩
def fileOf (pool : Array CpInfo) (this : Nat) (attrs : Array Attribute := #[]) (ms : Array MethodInfo := #[]) (fl : Nat := 33) (sup : Nat := 0) (ifs : Array Nat := #[]) (fds : Array FieldInfo := #[]) : ClassFile where
  minorVersion := 0
  majorVersion := 65
  constantPool := pool
  accessFlags := fl
  thisClass := this
  superClass := sup
  interfaces := ifs
  fields := fds
  methods := ms
  attributes := attrs
def plain (name : String) (sup : Option ClassId) : Class where
  name := name
  kind := .ordinary
  loader := none
  accessFlags := 33
  super := sup
  interfaces := #[]
  cf := none
  fields := #[]
  methods := #[]
  instanceTypes := #[]
  staticTypes := #[]
  resolved := #[]
  callSites := []
  init := .initialized
  statics := none
  mirror := none

def pool0 : Array CpInfo := pool [(5, u "<init>"), (0, u "()V"), (1, .class_ 10), (1, u "java/lang/Object"), (85, u "clone"), (0, u "()Ljava/lang/Object;")] 26

def k0c0 : Code := { maxStack := 0, maxLocals := 1, code := object_method_1_code, exceptionTable := #[], attributes := #[] }
def k0m0 : Method := { name := "<init>", desc := "()V", sig := { parameters := [], returnType := none }, accessFlags := 1, code := some k0c0 }
def k0m1 : Method := { name := "clone", desc := "()Ljava/lang/Object;", sig := { parameters := [], returnType := some (.object "java/lang/Object") }, accessFlags := 260, code := none }
/-- java/lang/Object -/
def k0 : Class := { plain "java/lang/Object" none with
  accessFlags := 33
  interfaces := #[]
  cf := some (fileOf pool0 8 #[] #[{ accessFlags := 1, nameIndex := 5, descriptorIndex := 6, attributes := #[] }, { accessFlags := 260, nameIndex := 96, descriptorIndex := 97, attributes := #[] }] 33 0 #[] #[])
  fields := #[]
  methods := #[k0m0, k0m1]
  instanceTypes := #[]
  staticTypes := #[]
  resolved := Array.replicate 124 none
  statics := none }

def pool1 : Array CpInfo := pool [(2, .class_ 4), (0, .nameAndType 5 6), (0, u "java/lang/Object"), (0, u "<init>"), (0, u "()V"), (0, .integer 2147483647), (0, .class_ 9), (0, u "com/example/galapagos/galapagos/ByteWriter"), (0, .methodref 8 3), (0, .methodref 8 12), (0, .nameAndType 13 14), (0, u "write"), (0, u "([BII)V"), (0, .methodref 8 16), (0, .nameAndType 17 18), (0, u "writeByte"), (0, u "(I)V"), (0, .methodref 8 20), (0, .nameAndType 21 22), (0, u "writeBigEndian"), (0, u "(JI)V"), (0, .methodref 8 24), (0, .nameAndType 25 26), (0, u "toByteArray"), (0, u "()[B"), (0, .methodref 28 29), (0, .class_ 30), (0, .nameAndType 31 32), (0, u "com/example/galapagos/galapagos/ByteWriterWriteBigEndianPinLaw"), (0, u "at"), (0, u "([BIIJI)Z"), (2, u "law"), (0, u "(JIIII)Z")] 5

def k1m0 : Method := { name := "<init>", desc := "()V", sig := { parameters := [], returnType := none }, accessFlags := 1, code := none }
def k1c1 : Code := { maxStack := 6, maxLocals := 12, code := code, exceptionTable := #[], attributes := #[] }
def k1m1 : Method := { name := "law", desc := "(JIIII)Z", sig := { parameters := [.long, .int, .int, .int, .int], returnType := some .boolean }, accessFlags := 9, code := some k1c1 }
def k1c2 : Code := { maxStack := 5, maxLocals := 6, code := method_3_code, exceptionTable := #[], attributes := #[] }
def k1m2 : Method := { name := "at", desc := "([BIIJI)Z", sig := { parameters := [(.array .byte), .int, .int, .long, .int], returnType := some .boolean }, accessFlags := 10, code := some k1c2 }
/-- com/example/galapagos/galapagos/ByteWriterWriteBigEndianPinLaw -/
def k1 : Class := { plain "com/example/galapagos/galapagos/ByteWriterWriteBigEndianPinLaw" (some 0) with
  accessFlags := 49
  interfaces := #[]
  cf := some (fileOf pool1 28 #[] #[{ accessFlags := 1, nameIndex := 5, descriptorIndex := 6, attributes := #[] }, { accessFlags := 9, nameIndex := 35, descriptorIndex := 36, attributes := #[] }, { accessFlags := 10, nameIndex := 31, descriptorIndex := 32, attributes := #[] }] 49 2 #[] #[])
  fields := #[]
  methods := #[k1m0, k1m1, k1m2]
  instanceTypes := #[]
  staticTypes := #[]
  resolved := Array.replicate 42 none
  statics := none }

def pool2 : Array CpInfo := pool [(1, .methodref 2 3), (0, .class_ 4), (0, .nameAndType 5 6), (0, u "java/lang/Object"), (0, u "<init>"), (0, u "()V"), (0, .fieldref 8 9), (0, .class_ 10), (0, .nameAndType 11 12), (0, u "com/example/galapagos/galapagos/ByteWriter"), (0, u "bytes"), (0, u "[B"), (0, .methodref 8 14), (0, .nameAndType 15 16), (0, u "reserve"), (0, u "(I)V"), (0, .fieldref 8 18), (0, .nameAndType 19 20), (0, u "size"), (0, u "I"), (0, .methodref 22 23), (0, .class_ 24), (0, .nameAndType 25 26), (0, u "java/lang/System"), (0, u "arraycopy"), (0, u "(Ljava/lang/Object;ILjava/lang/Object;II)V"), (0, .methodref 28 29), (0, .class_ 30), (0, .nameAndType 31 32), (0, u "java/util/Arrays"), (0, u "copyOf"), (0, u "([BI)[B"), (0, .methodref 34 35), (0, .class_ 36), (0, .nameAndType 37 38), (0, u "java/lang/Math"), (0, u "max"), (0, u "(II)I"), (2, u "writeByte"), (0, u "writeBigEndian"), (0, u "(JI)V"), (1, u "write"), (0, u "([BII)V"), (0, u "toByteArray"), (0, u "()[B")] 2

def k2c0 : Code := { maxStack := 2, maxLocals := 1, code := prog_1_method_1_code, exceptionTable := #[], attributes := #[] }
def k2m0 : Method := { name := "<init>", desc := "()V", sig := { parameters := [], returnType := none }, accessFlags := 0, code := some k2c0 }
def k2c1 : Code := { maxStack := 5, maxLocals := 2, code := prog_1_method_2_code, exceptionTable := #[], attributes := #[] }
def k2m1 : Method := { name := "writeByte", desc := "(I)V", sig := { parameters := [.int], returnType := none }, accessFlags := 0, code := some k2c1 }
def k2c2 : Code := { maxStack := 5, maxLocals := 5, code := prog_1_method_3_code, exceptionTable := #[], attributes := #[] }
def k2m2 : Method := { name := "writeBigEndian", desc := "(JI)V", sig := { parameters := [.long, .int], returnType := none }, accessFlags := 0, code := some k2c2 }
def k2c3 : Code := { maxStack := 5, maxLocals := 4, code := prog_1_method_4_code, exceptionTable := #[], attributes := #[] }
def k2m3 : Method := { name := "write", desc := "([BII)V", sig := { parameters := [(.array .byte), .int, .int], returnType := none }, accessFlags := 0, code := some k2c3 }
def k2c4 : Code := { maxStack := 2, maxLocals := 1, code := prog_1_method_5_code, exceptionTable := #[], attributes := #[] }
def k2m4 : Method := { name := "toByteArray", desc := "()[B", sig := { parameters := [], returnType := some (.array .byte) }, accessFlags := 0, code := some k2c4 }
def k2c5 : Code := { maxStack := 5, maxLocals := 2, code := prog_1_method_6_code, exceptionTable := #[], attributes := #[] }
def k2m5 : Method := { name := "reserve", desc := "(I)V", sig := { parameters := [.int], returnType := none }, accessFlags := 2, code := some k2c5 }
/-- com/example/galapagos/galapagos/ByteWriter -/
def k2 : Class := { plain "com/example/galapagos/galapagos/ByteWriter" (some 0) with
  accessFlags := 48
  interfaces := #[]
  cf := some (fileOf pool2 8 #[] #[{ accessFlags := 0, nameIndex := 5, descriptorIndex := 6, attributes := #[] }, { accessFlags := 0, nameIndex := 41, descriptorIndex := 16, attributes := #[] }, { accessFlags := 0, nameIndex := 42, descriptorIndex := 43, attributes := #[] }, { accessFlags := 0, nameIndex := 45, descriptorIndex := 46, attributes := #[] }, { accessFlags := 0, nameIndex := 47, descriptorIndex := 48, attributes := #[] }, { accessFlags := 2, nameIndex := 15, descriptorIndex := 16, attributes := #[] }] 48 2 #[] #[{ accessFlags := 2, nameIndex := 11, descriptorIndex := 12, attributes := #[] }, { accessFlags := 2, nameIndex := 19, descriptorIndex := 20, attributes := #[] }])
  fields := #[{ name := "bytes", type := (.array .byte), accessFlags := 2, slot := 0, constantValue := 0 }, { name := "size", type := .int, accessFlags := 2, slot := 1, constantValue := 0 }]
  methods := #[k2m0, k2m1, k2m2, k2m3, k2m4, k2m5]
  instanceTypes := #[(.array .byte), .int]
  staticTypes := #[]
  resolved := Array.replicate 51 none
  statics := none }

def pool3 : Array CpInfo := pool [(2, .class_ 4), (1, u "java/lang/Object"), (0, u "<init>"), (0, u "()V"), (1, .class_ 10), (1, u "java/lang/System"), (0, u "allowSecurityManager"), (0, u "I"), (16, u "cons"), (0, u "Ljava/io/Console;"), (77, .class_ 110), (1, u "java/lang/System$CallersHolder"), (43, u "initialErrStream"), (0, u "Ljava/io/PrintStream;"), (19, u "security"), (0, u "Ljava/lang/SecurityManager;"), (31, .class_ 209), (0, u "java/lang/System$1"), (7, u "props"), (0, u "Ljava/util/Properties;"), (2, u "lineSeparator"), (0, u "Ljava/lang/String;"), (96, .class_ 321), (1, u "java/lang/System$LoggerFinder"), (5, .class_ 328), (0, u "java/lang/System$Logger"), (67, u "err"), (2, u "out"), (91, u "notSupportedJnuEncoding"), (15, u "in"), (17, u "initialIn"), (0, u "Ljava/io/InputStream;"), (35, u "bootLayer"), (0, u "Ljava/lang/ModuleLayer;"), (99, .class_ 664), (0, u "java/lang/System$2"), (9, u "NEVER"), (2, u "MAYBE"), (49, u "arraycopy"), (0, u "(Ljava/lang/Object;ILjava/lang/Object;II)V"), (72, .class_ 802), (0, u "java/lang/System$Logger$Level")] 31

def k3m0 : Method := { name := "<init>", desc := "()V", sig := { parameters := [], returnType := none }, accessFlags := 2, code := none }
def k3m1 : Method := { name := "arraycopy", desc := "(Ljava/lang/Object;ILjava/lang/Object;II)V", sig := { parameters := [(.object "java/lang/Object"), .int, (.object "java/lang/Object"), .int, .int], returnType := none }, accessFlags := 265, code := none }
/-- java/lang/System -/
def k3 : Class := { plain "java/lang/System" (some 0) with
  accessFlags := 49
  interfaces := #[]
  cf := some (fileOf pool3 8 #[.nestMembers #[319, 327, 801, 108, 663, 208]] #[{ accessFlags := 2, nameIndex := 5, descriptorIndex := 6, attributes := #[] }, { accessFlags := 265, nameIndex := 727, descriptorIndex := 728, attributes := #[] }] 49 2 #[] #[{ accessFlags := 25, nameIndex := 507, descriptorIndex := 526, attributes := #[] }, { accessFlags := 25, nameIndex := 399, descriptorIndex := 155, attributes := #[] }, { accessFlags := 25, nameIndex := 396, descriptorIndex := 155, attributes := #[] }, { accessFlags := 10, nameIndex := 525, descriptorIndex := 526, attributes := #[] }, { accessFlags := 26, nameIndex := 674, descriptorIndex := 12, attributes := #[] }, { accessFlags := 26, nameIndex := 677, descriptorIndex := 12, attributes := #[] }, { accessFlags := 10, nameIndex := 11, descriptorIndex := 12, attributes := #[] }, { accessFlags := 74, nameIndex := 175, descriptorIndex := 176, attributes := #[] }, { accessFlags := 10, nameIndex := 491, descriptorIndex := 222, attributes := #[] }, { accessFlags := 74, nameIndex := 29, descriptorIndex := 30, attributes := #[] }, { accessFlags := 74, nameIndex := 154, descriptorIndex := 155, attributes := #[] }, { accessFlags := 10, nameIndex := 217, descriptorIndex := 218, attributes := #[] }, { accessFlags := 10, nameIndex := 221, descriptorIndex := 222, attributes := #[] }, { accessFlags := 8, nameIndex := 562, descriptorIndex := 563, attributes := #[] }])
  fields := #[{ name := "in", type := (.object "java/io/InputStream"), accessFlags := 25, slot := 0, constantValue := 0 }, { name := "out", type := (.object "java/io/PrintStream"), accessFlags := 25, slot := 1, constantValue := 0 }, { name := "err", type := (.object "java/io/PrintStream"), accessFlags := 25, slot := 2, constantValue := 0 }, { name := "initialIn", type := (.object "java/io/InputStream"), accessFlags := 10, slot := 3, constantValue := 0 }, { name := "NEVER", type := .int, accessFlags := 26, slot := 4, constantValue := 0 }, { name := "MAYBE", type := .int, accessFlags := 26, slot := 5, constantValue := 0 }, { name := "allowSecurityManager", type := .int, accessFlags := 10, slot := 6, constantValue := 0 }, { name := "security", type := (.object "java/lang/SecurityManager"), accessFlags := 74, slot := 7, constantValue := 0 }, { name := "notSupportedJnuEncoding", type := (.object "java/lang/String"), accessFlags := 10, slot := 8, constantValue := 0 }, { name := "cons", type := (.object "java/io/Console"), accessFlags := 74, slot := 9, constantValue := 0 }, { name := "initialErrStream", type := (.object "java/io/PrintStream"), accessFlags := 74, slot := 10, constantValue := 0 }, { name := "props", type := (.object "java/util/Properties"), accessFlags := 10, slot := 11, constantValue := 0 }, { name := "lineSeparator", type := (.object "java/lang/String"), accessFlags := 10, slot := 12, constantValue := 0 }, { name := "bootLayer", type := (.object "java/lang/ModuleLayer"), accessFlags := 8, slot := 13, constantValue := 0 }]
  methods := #[k3m0, k3m1]
  instanceTypes := #[]
  staticTypes := #[(.object "java/io/InputStream"), (.object "java/io/PrintStream"), (.object "java/io/PrintStream"), (.object "java/io/InputStream"), .int, .int, .int, (.object "java/lang/SecurityManager"), (.object "java/lang/String"), (.object "java/io/Console"), (.object "java/io/PrintStream"), (.object "java/util/Properties"), (.object "java/lang/String"), (.object "java/lang/ModuleLayer")]
  resolved := Array.replicate 834 none
  statics := none }

def pool4 : Array CpInfo := pool [(2, .class_ 4), (1, u "java/lang/Object"), (0, u "<init>"), (0, u "()V"), (7, .class_ 16), (1, u "java/util/Arrays"), (57, .class_ 76), (1, u "java/util/Arrays$NaturalOrder"), (32, u "()Ljava/lang/Object;"), (3, .class_ 115), (1, u "java/util/Arrays$LegacyMergeSort"), (1, u "Z"), (10, .nameAndType 129 109), (0, u "clone"), (20, .methodref 151 152), (0, .class_ 153), (0, .nameAndType 154 155), (0, u "java/lang/System"), (0, u "arraycopy"), (0, u "(Ljava/lang/Object;ILjava/lang/Object;II)V"), (146, u "copyOf"), (1, .methodref 305 306), (0, .class_ 307), (0, .nameAndType 308 309), (0, u "java/lang/Math"), (0, u "min"), (0, u "(II)I"), (0, .methodref 311 128), (0, .class_ 312), (0, u "[B"), (62, .class_ 376), (0, u "java/util/Arrays$ArrayList"), (68, u "$assertionsDisabled"), (269, u "MIN_ARRAY_SORT_GRAN"), (0, u "I"), (2, u "INSERTIONSORT_THRESHOLD"), (149, u "([BI)[B"), (105, .class_ 976), (0, u "java/util/Arrays$ArrayItr")] 52

def k4m0 : Method := { name := "<init>", desc := "()V", sig := { parameters := [], returnType := none }, accessFlags := 2, code := none }
def k4c1 : Code := { maxStack := 6, maxLocals := 3, code := jdk_65_method_121_code, exceptionTable := #[], attributes := #[] }
def k4m1 : Method := { name := "copyOf", desc := "([BI)[B", sig := { parameters := [(.array .byte), .int], returnType := some (.array .byte) }, accessFlags := 9, code := some k4c1 }
/-- java/util/Arrays -/
def k4 : Class := { plain "java/util/Arrays" (some 0) with
  accessFlags := 49
  interfaces := #[]
  cf := some (fileOf pool4 14 #[.nestMembers #[975, 375, 113, 74]] #[{ accessFlags := 2, nameIndex := 5, descriptorIndex := 6, attributes := #[] }, { accessFlags := 9, nameIndex := 302, descriptorIndex := 869, attributes := #[] }] 49 2 #[] #[{ accessFlags := 26, nameIndex := 715, descriptorIndex := 716, attributes := #[] }, { accessFlags := 26, nameIndex := 719, descriptorIndex := 716, attributes := #[] }, { accessFlags := 4120, nameIndex := 445, descriptorIndex := 117, attributes := #[] }])
  fields := #[{ name := "MIN_ARRAY_SORT_GRAN", type := .int, accessFlags := 26, slot := 0, constantValue := 0 }, { name := "INSERTIONSORT_THRESHOLD", type := .int, accessFlags := 26, slot := 1, constantValue := 0 }, { name := "$assertionsDisabled", type := .boolean, accessFlags := 4120, slot := 2, constantValue := 0 }]
  methods := #[k4m0, k4m1]
  instanceTypes := #[]
  staticTypes := #[.int, .int, .boolean]
  resolved := Array.replicate 1029 none
  statics := none }

def pool5 : Array CpInfo := pool [(1, .class_ 2), (0, u "java/lang/Math"), (1, .class_ 6), (1, u "java/lang/Object"), (0, u "<init>"), (0, u "()V"), (89, .class_ 100), (1, u "java/lang/Math$RandomNumberGeneratorHolder"), (71, u "negativeZeroFloatBits"), (0, u "J"), (2, u "negativeZeroDoubleBits"), (21, u "max"), (2, u "min"), (43, u "$assertionsDisabled"), (0, u "Z"), (88, u "(II)I"), (2, u "twoToTheDoubleScaleDown"), (0, u "D"), (4, u "twoToTheDoubleScaleUp"), (9, u "E"), (3, u "PI"), (2, u "TAU"), (2, u "DEGREES_TO_RADIANS"), (0, u "RADIANS_TO_DEGREES")] 94

def k5m0 : Method := { name := "<init>", desc := "()V", sig := { parameters := [], returnType := none }, accessFlags := 2, code := none }
def k5c1 : Code := { maxStack := 2, maxLocals := 2, code := jdk_29_method_65_code, exceptionTable := #[], attributes := #[] }
def k5m1 : Method := { name := "max", desc := "(II)I", sig := { parameters := [.int, .int], returnType := some .int }, accessFlags := 9, code := some k5c1 }
def k5c2 : Code := { maxStack := 2, maxLocals := 2, code := jdk_29_method_69_code, exceptionTable := #[], attributes := #[] }
def k5m2 : Method := { name := "min", desc := "(II)I", sig := { parameters := [.int, .int], returnType := some .int }, accessFlags := 9, code := some k5c2 }
/-- java/lang/Math -/
def k5 : Class := { plain "java/lang/Math" (some 0) with
  accessFlags := 49
  interfaces := #[]
  cf := some (fileOf pool5 1 #[.nestMembers #[98]] #[{ accessFlags := 2, nameIndex := 7, descriptorIndex := 8, attributes := #[] }, { accessFlags := 9, nameIndex := 198, descriptorIndex := 335, attributes := #[] }, { accessFlags := 9, nameIndex := 201, descriptorIndex := 335, attributes := #[] }] 49 4 #[] #[{ accessFlags := 25, nameIndex := 354, descriptorIndex := 339, attributes := #[] }, { accessFlags := 25, nameIndex := 358, descriptorIndex := 339, attributes := #[] }, { accessFlags := 25, nameIndex := 361, descriptorIndex := 339, attributes := #[] }, { accessFlags := 26, nameIndex := 364, descriptorIndex := 339, attributes := #[] }, { accessFlags := 26, nameIndex := 365, descriptorIndex := 339, attributes := #[] }, { accessFlags := 26, nameIndex := 172, descriptorIndex := 173, attributes := #[] }, { accessFlags := 26, nameIndex := 176, descriptorIndex := 173, attributes := #[] }, { accessFlags := 8, nameIndex := 344, descriptorIndex := 339, attributes := #[] }, { accessFlags := 8, nameIndex := 338, descriptorIndex := 339, attributes := #[] }, { accessFlags := 4120, nameIndex := 245, descriptorIndex := 246, attributes := #[] }])
  fields := #[{ name := "E", type := .double, accessFlags := 25, slot := 0, constantValue := 0 }, { name := "PI", type := .double, accessFlags := 25, slot := 1, constantValue := 0 }, { name := "TAU", type := .double, accessFlags := 25, slot := 2, constantValue := 0 }, { name := "DEGREES_TO_RADIANS", type := .double, accessFlags := 26, slot := 3, constantValue := 0 }, { name := "RADIANS_TO_DEGREES", type := .double, accessFlags := 26, slot := 4, constantValue := 0 }, { name := "negativeZeroFloatBits", type := .long, accessFlags := 26, slot := 5, constantValue := 0 }, { name := "negativeZeroDoubleBits", type := .long, accessFlags := 26, slot := 6, constantValue := 0 }, { name := "twoToTheDoubleScaleUp", type := .double, accessFlags := 8, slot := 7, constantValue := 0 }, { name := "twoToTheDoubleScaleDown", type := .double, accessFlags := 8, slot := 8, constantValue := 0 }, { name := "$assertionsDisabled", type := .boolean, accessFlags := 4120, slot := 9, constantValue := 0 }]
  methods := #[k5m0, k5m1, k5m2]
  instanceTypes := #[]
  staticTypes := #[.double, .double, .double, .double, .double, .long, .long, .double, .double, .boolean]
  resolved := Array.replicate 460 none
  statics := none }

def pool6 : Array CpInfo := pool [(1, .class_ 2), (0, u "java/lang/Cloneable"), (0, .class_ 4), (0, u "java/lang/Object")] 2

/-- java/lang/Cloneable -/
def k6 : Class := { plain "java/lang/Cloneable" (some 0) with
  accessFlags := 1537
  interfaces := #[]
  cf := some (fileOf pool6 1 #[] #[] 1537 3 #[] #[])
  fields := #[]
  methods := #[]
  instanceTypes := #[]
  staticTypes := #[]
  resolved := Array.replicate 7 none
  statics := none }

def pool7 : Array CpInfo := pool [(1, u "java/io/Serializable"), (0, .class_ 1), (0, u "java/lang/Object"), (0, .class_ 3)] 3

/-- java/io/Serializable -/
def k7 : Class := { plain "java/io/Serializable" (some 0) with
  accessFlags := 1537
  interfaces := #[]
  cf := some (fileOf pool7 2 #[] #[] 1537 4 #[] #[])
  fields := #[]
  methods := #[]
  instanceTypes := #[]
  staticTypes := #[]
  resolved := Array.replicate 8 none
  statics := none }

/-- the primitive byte -/
def k8 : Class := { plain "byte" none with kind := .primitive 'B', accessFlags := 0x411 }
/-- [B -/
def k9 : Class := { plain "[B" (some 0) with kind := .array 8 .byte, interfaces := #[6, 7], accessFlags := 1041 }

/-- the primitive int -/
def k10 : Class := { plain "int" none with kind := .primitive 'I', accessFlags := 0x411 }
/-- [I -/
def k11 : Class := { plain "[I" (some 0) with kind := .array 10 .int, interfaces := #[6, 7], accessFlags := 1041 }

def heap : Heap := #[]
def classes : Array Class := #[k0, k1, k2, k3, k4, k5, k6, k7, k8, k9, k10, k11]
def interned : List (Array UInt16 × Addr) := []
def slotsUsed : Nat := 0
def theMethod : MethodId := ⟨1, 1⟩
def args0 : Array Value := #[.long 7, .int 5, .int 5, .int 5, .int 5]
def aboutOver (below : List Frame) : State where
  vm := { classes := classes, interned := interned.toArray }
  heap := heap
  slotsUsed := slotsUsed
  threads := #[{ frames := .invoking theMethod args0 :: below }]
def below0 : List Frame := [.native { method := ⟨0, 0⟩, args := #[] }]
def about1 : State := aboutOver below0
def p0 : Program := .bare "" "" ""
def e0 : Env := launch0.env 0 0 0
theorem w_frames : about1.frames = Frame.invoking theMethod args0 :: below0 := rfl
set_option maxRecDepth 65536 in
theorem w_args : argsFit about1.vm theMethod args0 = true := by decide +kernel
set_option maxRecDepth 65536 in
theorem w_heap : heapFits about1 = true := by decide +kernel
set_option maxRecDepth 65536 in
theorem w_runnable : about1.curStatus? = some .runnable := by decide +kernel
set_option maxRecDepth 65536 in
theorem w_alone : about1.alone = true := by decide +kernel
set_option maxRecDepth 65536 in
theorem w_named : about1.methodNamed? x = some theMethod := by decide +kernel
set_option maxRecDepth 65536 in
theorem w_hears : about1.hears theMethod below0 = true := by decide +kernel
set_option maxRecDepth 65536 in
theorem w_ripe : about1.ripe theMethod args0 below0 = true := by decide +kernel
theorem w_running : about1.status = .running := rfl
set_option maxRecDepth 65536 in
theorem w_room : about1.hasRoom e0.platform room_1 = true :=
  launch0.hasRoom_least _ room_1 (by decide +kernel) (by decide +kernel) (by decide +kernel) (by decide +kernel) (by decide +kernel) (by decide +kernel)
theorem allAtoms_all (ts : List Jvm.Cond) (a : Array Jvm.Value) (st : Jvm.State) : (allAtoms ts).before a st = ts.all (fun c => c.before a st) := by
  induction ts with
  | nil => rfl
  | cons c t ih =>
    show (Jvm.Cond.and c (allAtoms t)).before a st = _
    rw [Jvm.Cond.before_and, ih, List.all_cons]
def words1 : List Jvm.Cond := Jvm.Cond.code x code maxLocals ret :: tables_1
/-- a 'code' word, met by the world's own term for the bytes: nothing is compared byte by byte -/
theorem code_word {y : MethodName} {bytes : ByteArray} {mx : Nat} {rt : Option FieldType} {a : Array Value} {s : State} {m : MethodId} {meth : Method} {c : Code} (h1 : s.methodNamed? y = some m) (h2 : s.vm.method? m = some meth) (h3 : meth.code = some c) (h4 : c.code = bytes)
    (h5 : (c.maxLocals == mx && c.exceptionTable.isEmpty && decide (c.maxStack ≤ mostOperands) && decide (meth.sig.returnType = rt) && !meth.locks && decide (parseMethodDescriptor y.desc = some meth.sig)) = true) : (Jvm.Cond.code y bytes mx rt).before a s = true := by
  simp only [Bool.and_eq_true, beq_iff_eq, Bool.not_eq_true', decide_eq_true_eq] at h5
  obtain ⟨⟨⟨⟨⟨g1, g2⟩, g3⟩, g4⟩, g5⟩, g6⟩ := h5
  simp [Cond.before, Cond.holds, Cond.value, h1, h2, h3, h4, g1, g2, g3, g4, g5, g6]
def isCode : Jvm.Cond → Bool
  | .code _ _ _ _ => true
  | _ => false
theorem all_split {L : List Jvm.Cond} {P : Jvm.Cond → Bool} (h1 : L.all (fun c => isCode c || P c) = true) (h2 : ∀ c ∈ L.filter isCode, P c = true) : L.all P = true := by
  refine List.all_eq_true.mpr fun c hc => ?_
  have h := List.all_eq_true.mp h1 c hc
  rcases Bool.eq_false_or_eq_true (isCode c) with hi | hi
  · exact h2 c (List.mem_filter.mpr ⟨hc, hi⟩)
  · simpa [hi] using h
set_option maxRecDepth 65536 in
theorem w_c0 : (Jvm.Cond.code x code maxLocals ret).before args0 about1 = true := code_word (m := ⟨1, 1⟩) (meth := k1m1) (c := k1c1) (by decide +kernel) rfl rfl rfl (by decide +kernel)
set_option maxRecDepth 65536 in
theorem w_c1 : (Jvm.Cond.code ({ cls := "com/example/galapagos/galapagos/ByteWriter", name := "<init>", desc := "()V" } : Jvm.MethodName) prog_1_method_1_code (1 : Nat) (Option.none : Option Jvm.ClassFile.FieldType)).before args0 about1 = true := code_word (m := ⟨2, 0⟩) (meth := k2m0) (c := k2c0) (by decide +kernel) rfl rfl rfl (by decide +kernel)
set_option maxRecDepth 65536 in
theorem w_c2 : (Jvm.Cond.code ({ cls := "java/lang/Object", name := "<init>", desc := "()V" } : Jvm.MethodName) object_method_1_code (1 : Nat) (Option.none : Option Jvm.ClassFile.FieldType)).before args0 about1 = true := code_word (m := ⟨0, 0⟩) (meth := k0m0) (c := k0c0) (by decide +kernel) rfl rfl rfl (by decide +kernel)
set_option maxRecDepth 65536 in
theorem w_c3 : (Jvm.Cond.code ({ cls := "com/example/galapagos/galapagos/ByteWriter", name := "write", desc := "([BII)V" } : Jvm.MethodName) prog_1_method_4_code (4 : Nat) (Option.none : Option Jvm.ClassFile.FieldType)).before args0 about1 = true := code_word (m := ⟨2, 3⟩) (meth := k2m3) (c := k2c3) (by decide +kernel) rfl rfl rfl (by decide +kernel)
set_option maxRecDepth 65536 in
theorem w_c4 : (Jvm.Cond.code ({ cls := "com/example/galapagos/galapagos/ByteWriter", name := "reserve", desc := "(I)V" } : Jvm.MethodName) prog_1_method_6_code (2 : Nat) (Option.none : Option Jvm.ClassFile.FieldType)).before args0 about1 = true := code_word (m := ⟨2, 5⟩) (meth := k2m5) (c := k2c5) (by decide +kernel) rfl rfl rfl (by decide +kernel)
set_option maxRecDepth 65536 in
theorem w_c5 : (Jvm.Cond.code ({ cls := "com/example/galapagos/galapagos/ByteWriter", name := "writeByte", desc := "(I)V" } : Jvm.MethodName) prog_1_method_2_code (2 : Nat) (Option.none : Option Jvm.ClassFile.FieldType)).before args0 about1 = true := code_word (m := ⟨2, 1⟩) (meth := k2m1) (c := k2c1) (by decide +kernel) rfl rfl rfl (by decide +kernel)
set_option maxRecDepth 65536 in
theorem w_c6 : (Jvm.Cond.code ({ cls := "com/example/galapagos/galapagos/ByteWriter", name := "writeBigEndian", desc := "(JI)V" } : Jvm.MethodName) prog_1_method_3_code (5 : Nat) (Option.none : Option Jvm.ClassFile.FieldType)).before args0 about1 = true := code_word (m := ⟨2, 2⟩) (meth := k2m2) (c := k2c2) (by decide +kernel) rfl rfl rfl (by decide +kernel)
set_option maxRecDepth 65536 in
theorem w_c7 : (Jvm.Cond.code ({ cls := "com/example/galapagos/galapagos/ByteWriter", name := "toByteArray", desc := "()[B" } : Jvm.MethodName) prog_1_method_5_code (1 : Nat) (Option.some (Jvm.ClassFile.FieldType.array Jvm.ClassFile.FieldType.byte))).before args0 about1 = true := code_word (m := ⟨2, 4⟩) (meth := k2m4) (c := k2c4) (by decide +kernel) rfl rfl rfl (by decide +kernel)
set_option maxRecDepth 65536 in
theorem w_c8 : (Jvm.Cond.code ({ cls := "java/util/Arrays", name := "copyOf", desc := "([BI)[B" } : Jvm.MethodName) jdk_65_method_121_code (3 : Nat) (Option.some (Jvm.ClassFile.FieldType.array Jvm.ClassFile.FieldType.byte))).before args0 about1 = true := code_word (m := ⟨4, 1⟩) (meth := k4m1) (c := k4c1) (by decide +kernel) rfl rfl rfl (by decide +kernel)
set_option maxRecDepth 65536 in
theorem w_c9 : (Jvm.Cond.code ({ cls := "java/lang/Math", name := "min", desc := "(II)I" } : Jvm.MethodName) jdk_29_method_69_code (2 : Nat) (Option.some Jvm.ClassFile.FieldType.int)).before args0 about1 = true := code_word (m := ⟨5, 2⟩) (meth := k5m2) (c := k5c2) (by decide +kernel) rfl rfl rfl (by decide +kernel)
set_option maxRecDepth 65536 in
theorem w_c10 : (Jvm.Cond.code ({ cls := "com/example/galapagos/galapagos/ByteWriterWriteBigEndianPinLaw", name := "at", desc := "([BIIJI)Z" } : Jvm.MethodName) method_3_code (6 : Nat) (Option.some Jvm.ClassFile.FieldType.boolean)).before args0 about1 = true := code_word (m := ⟨1, 2⟩) (meth := k1m2) (c := k1c2) (by decide +kernel) rfl rfl rfl (by decide +kernel)
set_option maxRecDepth 65536 in
theorem w_c11 : (Jvm.Cond.code ({ cls := "java/lang/Math", name := "max", desc := "(II)I" } : Jvm.MethodName) jdk_29_method_65_code (2 : Nat) (Option.some Jvm.ClassFile.FieldType.int)).before args0 about1 = true := code_word (m := ⟨5, 1⟩) (meth := k5m1) (c := k5c1) (by decide +kernel) rfl rfl rfl (by decide +kernel)
def codes1 : List Jvm.Cond := [Jvm.Cond.code x code maxLocals ret, Jvm.Cond.code ({ cls := "com/example/galapagos/galapagos/ByteWriter", name := "<init>", desc := "()V" } : Jvm.MethodName) prog_1_method_1_code (1 : Nat) (Option.none : Option Jvm.ClassFile.FieldType), Jvm.Cond.code ({ cls := "java/lang/Object", name := "<init>", desc := "()V" } : Jvm.MethodName) object_method_1_code (1 : Nat) (Option.none : Option Jvm.ClassFile.FieldType), Jvm.Cond.code ({ cls := "com/example/galapagos/galapagos/ByteWriter", name := "write", desc := "([BII)V" } : Jvm.MethodName) prog_1_method_4_code (4 : Nat) (Option.none : Option Jvm.ClassFile.FieldType), Jvm.Cond.code ({ cls := "com/example/galapagos/galapagos/ByteWriter", name := "reserve", desc := "(I)V" } : Jvm.MethodName) prog_1_method_6_code (2 : Nat) (Option.none : Option Jvm.ClassFile.FieldType), Jvm.Cond.code ({ cls := "com/example/galapagos/galapagos/ByteWriter", name := "writeByte", desc := "(I)V" } : Jvm.MethodName) prog_1_method_2_code (2 : Nat) (Option.none : Option Jvm.ClassFile.FieldType), Jvm.Cond.code ({ cls := "com/example/galapagos/galapagos/ByteWriter", name := "writeBigEndian", desc := "(JI)V" } : Jvm.MethodName) prog_1_method_3_code (5 : Nat) (Option.none : Option Jvm.ClassFile.FieldType), Jvm.Cond.code ({ cls := "com/example/galapagos/galapagos/ByteWriter", name := "toByteArray", desc := "()[B" } : Jvm.MethodName) prog_1_method_5_code (1 : Nat) (Option.some (Jvm.ClassFile.FieldType.array Jvm.ClassFile.FieldType.byte)), Jvm.Cond.code ({ cls := "java/util/Arrays", name := "copyOf", desc := "([BI)[B" } : Jvm.MethodName) jdk_65_method_121_code (3 : Nat) (Option.some (Jvm.ClassFile.FieldType.array Jvm.ClassFile.FieldType.byte)), Jvm.Cond.code ({ cls := "java/lang/Math", name := "min", desc := "(II)I" } : Jvm.MethodName) jdk_29_method_69_code (2 : Nat) (Option.some Jvm.ClassFile.FieldType.int), Jvm.Cond.code ({ cls := "com/example/galapagos/galapagos/ByteWriterWriteBigEndianPinLaw", name := "at", desc := "([BIIJI)Z" } : Jvm.MethodName) method_3_code (6 : Nat) (Option.some Jvm.ClassFile.FieldType.boolean), Jvm.Cond.code ({ cls := "java/lang/Math", name := "max", desc := "(II)I" } : Jvm.MethodName) jdk_29_method_65_code (2 : Nat) (Option.some Jvm.ClassFile.FieldType.int)]
set_option maxRecDepth 65536 in
theorem codes_eq : words1.filter isCode = codes1 := rfl
theorem w_codes : ∀ c ∈ words1.filter isCode, c.before args0 about1 = true := by
  rw [codes_eq]
  intro c hc
  simp only [codes1, List.mem_cons, List.not_mem_nil, or_false] at hc
  rcases hc with rfl | rfl | rfl | rfl | rfl | rfl | rfl | rfl | rfl | rfl | rfl | rfl
  · exact w_c0
  · exact w_c1
  · exact w_c2
  · exact w_c3
  · exact w_c4
  · exact w_c5
  · exact w_c6
  · exact w_c7
  · exact w_c8
  · exact w_c9
  · exact w_c10
  · exact w_c11
set_option maxRecDepth 65536 in
theorem w_t1 : (words1.take 24).all (fun c => isCode c || c.before args0 about1) = true := by decide +kernel
set_option maxRecDepth 65536 in
theorem w_t2 : ((words1.drop 24).take 24).all (fun c => isCode c || c.before args0 about1) = true := by decide +kernel
set_option maxRecDepth 65536 in
theorem w_t3 : ((words1.drop 24).drop 24).all (fun c => isCode c || c.before args0 about1) = true := by decide +kernel
theorem w_tables : (allAtoms (Jvm.Cond.code x code maxLocals ret :: tables_1)).before args0 about1 = true := by
  rw [allAtoms_all]
  show words1.all (fun c => c.before args0 about1) = true
  refine all_split ?_ w_codes
  rw [← List.take_append_drop 24 words1, List.all_append, w_t1, ← List.take_append_drop 24 (words1.drop 24), List.all_append, w_t2, w_t3]
  rfl
set_option maxRecDepth 65536 in
theorem w_case : (Jvm.Cond.and given_1 narrow_1).before args0 about1 = true := by decide +kernel
theorem w_applies : (headSpec (Jvm.Cond.code x code maxLocals ret :: tables_1) room_1).applies x e0.platform about1 = true :=
  (Spec.applies_iff w_frames).mpr ⟨w_running, w_runnable, w_alone, w_named, w_hears, w_ripe, w_room, w_tables⟩
theorem atStart : AtStart classFile x code maxLocals ret World_1 tables_1 room_1 Calls_1 rest_1 Pre_1 launch0 p0 e0 about1 theMethod args0 below0 :=
  ⟨lists_1, trivial, launch0.admits_env _ _ _, launch0.least_env, fairChoices_fair.cas, fairChoices_fair.clock, w_frames, w_args, w_heap, w_applies, trivial, trivial, w_case⟩
end start1
theorem witness_1 : WitnessClaimed_1 := ⟨start1.p0, start1.e0, start1.about1, start1.theMethod, start1.args0, start1.below0, start1.atStart⟩
end Jvm.Pilot.@@N@@
