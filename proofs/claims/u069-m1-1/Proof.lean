import JvmDerived
import JvmDerived.Pilot.@@N@@Statement
import JvmDerived.Pilot.@@N@@Code
set_option linter.unusedVariables false
set_option linter.unusedSimpArgs false
namespace Jvm.Pilot.@@N@@
open Jvm Jvm.ClassFile Sem Op Lib Jvm.Free Jvm.Stand Jvm.LawKit Jvm.RoadKit Bundle Jvm.Pilot.@@N@@.Jvm.D
/-! 0. one goal for a walk: from T with the frame g on top the run comes back with what Q says -/
def own_W (p : Program) (e : Env) (En : Outcome → State → List Loc → Nat → Nat → Prop) (below : List Frame) (kc ks : Nat) (Q : Option Value → Heap → List Loc → Prop) (T : State) (g : JFrame) : Prop :=
  ∃ s₂ o, Steps p.tables e below (T.setTop g) s₂ ∧ s₂.status = .running ∧ Ended s₂ below o ∧ ∃ v L, o = .returned v ∧ Q v s₂.heap L ∧ En o s₂ L kc ks
section OwnW
variable {En : Outcome → State → List Loc → Nat → Nat → Prop} {p : Program} {l : Launch} {e : Env} {R : Room} {s : State} {m : MethodId} {args : Array Value} {below : List Frame} {meth : Method} {c : Code} {T T' : State} {locs : List Loc} {cells slots kc ks : Nat} {Q : Option Value → Heap → List Loc → Prop} {g g' : JFrame} {pc pc' : Nat} {Ls : Array Slot} {st rest : List Value} {Z : State} {h h' : Heap} {a b : Addr} {sl : Nat}
theorem own_W.step (k : ∀ t, Steps p.tables e below (T'.setTop g') t → Steps p.tables e below (T.setTop g) t) (w : own_W p e En below kc ks Q T' g') : own_W p e En below kc ks Q T g := by
  obtain ⟨s2, o, h1, h2⟩ := w
  exact ⟨s2, o, k _ h1, h2⟩
theorem own_W.steps (k : Steps p.tables e below (T.setTop g) (T'.setTop g')) (w : own_W p e En below kc ks Q T' g') : own_W p e En below kc ks Q T g := by
  obtain ⟨s2, o, h1, h2⟩ := w
  exact ⟨s2, o, k.trans h1, h2⟩
theorem own_leave (X : Stand p l e R s m args below meth c T locs cells slots) (hlk : meth.locks = false) {v : Option Value} (hv : meth.sig.returnType = none → v = none) (hc : cells ≤ kc) (hs : slots ≤ ks)
    (k : ∀ fs, (∀ (f : JFrame) (acts : List Action), f.method = m → f.locked = none → f.entered = [] → (doReturn e (T.setTop f) acts v).1 = T.setFrames fs) → Steps p.tables e below (T.setTop g) (T.setFrames fs)) (hQ : Q v T.heap locs) : own_W p e (FrameEnd s) below kc ks Q T g := by
  obtain ⟨fs, hr, hrun, hended, hW, hsame⟩ := X.leave (v := v) hv hlk
  exact ⟨_, _, k fs hr, hrun, hended, v, locs, rfl, hQ, ⟨_, rfl⟩, hW, hsame.mono hc hs⟩
theorem own_retV (X : Stand p l e R s m args below meth c T locs cells slots) (hx : p.tables.exec = Jvm.exec) (hlk : meth.locks = false) (hret : meth.sig.returnType = none) (hd : decode c.code pc = .ok (.return_, 1)) (hc : cells ≤ kc) (hs : slots ≤ ks) (hQ : Q none T.heap locs) : own_W p e (FrameEnd s) below kc ks Q T (mkF m pc Ls []) :=
  own_leave X hlk (fun _ => rfl) hc hs (fun fs hr => X.returnOut hx hret hd hr) hQ
theorem own_retN {t : FieldType} (X : Stand p l e R s m args below meth c T locs cells slots) (hx : p.tables.exec = Jvm.exec) (hlk : meth.locks = false) (hret : meth.sig.returnType = some t) (ht : t = .boolean ∨ t = .byte ∨ t = .char ∨ t = .short) (hd : decode c.code pc = .ok (.ireturn, 1)) {z z' : Int32} (hz : nar t z = z') (hc : cells ≤ kc) (hs : slots ≤ ks) (hQ : Q (some (.int z')) T.heap locs) : own_W p e (FrameEnd s) below kc ks Q T (mkF m pc Ls (.int z :: rest)) := by
  subst hz
  exact own_leave X hlk (fun q => by rw [hret] at q; cases q) hc hs (fun fs hr => retN X hx hret ht hd hr) hQ
theorem own_retI (X : Stand p l e R s m args below meth c T locs cells slots) (hx : p.tables.exec = Jvm.exec) (hlk : meth.locks = false) (hret : meth.sig.returnType = some .int) (hd : decode c.code pc = .ok (.ireturn, 1)) {z : Int32} (hc : cells ≤ kc) (hs : slots ≤ ks) (hQ : Q (some (.int z)) T.heap locs) : own_W p e (FrameEnd s) below kc ks Q T (mkF m pc Ls (.int z :: rest)) :=
  own_leave X hlk (fun q => by rw [hret] at q; cases q) hc hs (fun fs hr => retOut X hx (t := .int) (w := .int z) (i := .ireturn) hret rfl (Or.inl ⟨rfl, Or.inl rfl, z, rfl⟩) hd hr) hQ
theorem own_retJ (X : Stand p l e R s m args below meth c T locs cells slots) (hx : p.tables.exec = Jvm.exec) (hlk : meth.locks = false) (hret : meth.sig.returnType = some .long) (hd : decode c.code pc = .ok (.lreturn, 1)) {z : Int64} (hc : cells ≤ kc) (hs : slots ≤ ks) (hQ : Q (some (.long z)) T.heap locs) : own_W p e (FrameEnd s) below kc ks Q T (mkF m pc Ls (.long z :: rest)) :=
  own_leave X hlk (fun q => by rw [hret] at q; cases q) hc hs (fun fs hr => retOut X hx (t := .long) (w := .long z) (i := .lreturn) hret rfl (Or.inr (Or.inl ⟨rfl, rfl, z, rfl⟩)) hd hr) hQ
theorem own_retA {t : FieldType} (X : Stand p l e R s m args below meth c T locs cells slots) (hx : p.tables.exec = Jvm.exec) (hlk : meth.locks = false) (hret : meth.sig.returnType = some t) (hn : narrow t (.ref a) = .ref a) (ht : t.isReference = true) (hd : decode c.code pc = .ok (.areturn, 1)) (hc : cells ≤ kc) (hs : slots ≤ ks) (hQ : Q (some (.ref a)) T.heap locs) : own_W p e (FrameEnd s) below kc ks Q T (mkF m pc Ls (.ref a :: rest)) :=
  own_leave X hlk (fun q => by rw [hret] at q; cases q) hc hs (fun fs hr => retOut X hx (t := t) (w := .ref a) (i := .areturn) hret hn (Or.inr (Or.inr (Or.inr (Or.inr ⟨rfl, ht, rfl⟩)))) hd hr) hQ
theorem own_iload (X : Stand p l e R s m args below meth c T locs cells slots) (hx : p.tables.exec = Jvm.exec) {k : Nat} {v : Int32} (hd : decode c.code pc = .ok (.iload k, 2)) (hl : Ls[k]? = some (.val (.int v))) (hp : pc + 2 = pc') (w : own_W p e En below kc ks Q T (mkF m pc' Ls (.int v :: st))) : own_W p e En below kc ks Q T (mkF m pc Ls (st)) := by
  subst hp; exact own_W.step (fun _ q => XS.iload X.here hx rfl hd hl q) w
theorem own_iloadN (X : Stand p l e R s m args below meth c T locs cells slots) (hx : p.tables.exec = Jvm.exec) {k : Fin 4} {v : Int32} (hd : decode c.code pc = .ok (.iload_n k, 1)) (hl : Ls[k.val]? = some (.val (.int v))) (hp : pc + 1 = pc') (w : own_W p e En below kc ks Q T (mkF m pc' Ls (.int v :: st))) : own_W p e En below kc ks Q T (mkF m pc Ls (st)) := by
  subst hp; exact own_W.step (fun _ q => XS.iloadN X.here hx rfl hd hl q) w
theorem own_lload (X : Stand p l e R s m args below meth c T locs cells slots) (hx : p.tables.exec = Jvm.exec) {k : Nat} {v : Int64} (hd : decode c.code pc = .ok (.lload k, 2)) (hl : Ls[k]? = some (.val (.long v))) (hp : pc + 2 = pc') (w : own_W p e En below kc ks Q T (mkF m pc' Ls (.long v :: st))) : own_W p e En below kc ks Q T (mkF m pc Ls (st)) := by
  subst hp; exact own_W.step (fun _ q => XS.lload X.here hx rfl hd hl q) w
theorem own_lloadN (X : Stand p l e R s m args below meth c T locs cells slots) (hx : p.tables.exec = Jvm.exec) {k : Fin 4} {v : Int64} (hd : decode c.code pc = .ok (.lload_n k, 1)) (hl : Ls[k.val]? = some (.val (.long v))) (hp : pc + 1 = pc') (w : own_W p e En below kc ks Q T (mkF m pc' Ls (.long v :: st))) : own_W p e En below kc ks Q T (mkF m pc Ls (st)) := by
  subst hp; exact own_W.step (fun _ q => XS.lloadN X.here hx rfl hd hl q) w
theorem own_aload (X : Stand p l e R s m args below meth c T locs cells slots) (hx : p.tables.exec = Jvm.exec) {k : Nat} {v : Value} (hd : decode c.code pc = .ok (.aload k, 2)) (hl : Ls[k]? = some (.val v)) (hv : v.isRef = true) (hp : pc + 2 = pc') (w : own_W p e En below kc ks Q T (mkF m pc' Ls (v :: st))) : own_W p e En below kc ks Q T (mkF m pc Ls (st)) := by
  subst hp; exact own_W.step (fun _ q => XS.aload X.here hx rfl hd hl hv q) w
theorem own_aloadN (X : Stand p l e R s m args below meth c T locs cells slots) (hx : p.tables.exec = Jvm.exec) {k : Fin 4} {v : Value} (hd : decode c.code pc = .ok (.aload_n k, 1)) (hl : Ls[k.val]? = some (.val v)) (hv : v.isRef = true) (hp : pc + 1 = pc') (w : own_W p e En below kc ks Q T (mkF m pc' Ls (v :: st))) : own_W p e En below kc ks Q T (mkF m pc Ls (st)) := by
  subst hp; exact own_W.step (fun _ q => XS.aloadN X.here hx rfl hd hl hv q) w
theorem own_istore (X : Stand p l e R s m args below meth c T locs cells slots) (hx : p.tables.exec = Jvm.exec) {k : Nat} {v : Int32} {l' : Array Slot} (hd : decode c.code pc = .ok (.istore k, 2)) (hl : storeLocals Ls k (.int v) = some l') (hp : pc + 2 = pc') (w : own_W p e En below kc ks Q T (mkF m pc' l' (st))) : own_W p e En below kc ks Q T (mkF m pc Ls (.int v :: st)) := by
  subst hp; exact own_W.step (fun _ q => XS.istore X.here hx rfl hd rfl hl q) w
theorem own_istoreN (X : Stand p l e R s m args below meth c T locs cells slots) (hx : p.tables.exec = Jvm.exec) {k : Fin 4} {v : Int32} {l' : Array Slot} (hd : decode c.code pc = .ok (.istore_n k, 1)) (hl : storeLocals Ls k.val (.int v) = some l') (hp : pc + 1 = pc') (w : own_W p e En below kc ks Q T (mkF m pc' l' (st))) : own_W p e En below kc ks Q T (mkF m pc Ls (.int v :: st)) := by
  subst hp; exact own_W.step (fun _ q => XS.istoreN X.here hx rfl hd rfl hl q) w
theorem own_lstore (X : Stand p l e R s m args below meth c T locs cells slots) (hx : p.tables.exec = Jvm.exec) {k : Nat} {v : Int64} {l' : Array Slot} (hd : decode c.code pc = .ok (.lstore k, 2)) (hl : storeLocals Ls k (.long v) = some l') (hp : pc + 2 = pc') (w : own_W p e En below kc ks Q T (mkF m pc' l' (st))) : own_W p e En below kc ks Q T (mkF m pc Ls (.long v :: st)) := by
  subst hp; exact own_W.step (fun _ q => XS.lstore X.here hx rfl hd rfl hl q) w
theorem own_lstoreN (X : Stand p l e R s m args below meth c T locs cells slots) (hx : p.tables.exec = Jvm.exec) {k : Fin 4} {v : Int64} {l' : Array Slot} (hd : decode c.code pc = .ok (.lstore_n k, 1)) (hl : storeLocals Ls k.val (.long v) = some l') (hp : pc + 1 = pc') (w : own_W p e En below kc ks Q T (mkF m pc' l' (st))) : own_W p e En below kc ks Q T (mkF m pc Ls (.long v :: st)) := by
  subst hp; exact own_W.step (fun _ q => XS.lstoreN X.here hx rfl hd rfl hl q) w
theorem own_astore (X : Stand p l e R s m args below meth c T locs cells slots) (hx : p.tables.exec = Jvm.exec) {k : Nat} {v : Value} {l' : Array Slot} (hd : decode c.code pc = .ok (.astore k, 2)) (hv : v.isRef = true) (hl : storeLocals Ls k v = some l') (hp : pc + 2 = pc') (w : own_W p e En below kc ks Q T (mkF m pc' l' (st))) : own_W p e En below kc ks Q T (mkF m pc Ls (v :: st)) := by
  subst hp; exact own_W.step (fun _ q => XS.astore X.here hx rfl hd rfl hv hl q) w
theorem own_astoreN (X : Stand p l e R s m args below meth c T locs cells slots) (hx : p.tables.exec = Jvm.exec) {k : Fin 4} {v : Value} {l' : Array Slot} (hd : decode c.code pc = .ok (.astore_n k, 1)) (hv : v.isRef = true) (hl : storeLocals Ls k.val v = some l') (hp : pc + 1 = pc') (w : own_W p e En below kc ks Q T (mkF m pc' l' (st))) : own_W p e En below kc ks Q T (mkF m pc Ls (v :: st)) := by
  subst hp; exact own_W.step (fun _ q => XS.astoreN X.here hx rfl hd rfl hv hl q) w
theorem own_iconst (X : Stand p l e R s m args below meth c T locs cells slots) (hx : p.tables.exec = Jvm.exec) {i : Int} (hd : decode c.code pc = .ok (.iconst i, 1)) (v : Int32) (hv : Int32.ofInt i = v) (hp : pc + 1 = pc') (w : own_W p e En below kc ks Q T (mkF m pc' Ls (.int v :: st))) : own_W p e En below kc ks Q T (mkF m pc Ls (st)) := by
  subst hp; exact own_W.step (fun _ q => XT.iconstV X.here hx rfl v hd hv q) w
theorem own_bipush (X : Stand p l e R s m args below meth c T locs cells slots) (hx : p.tables.exec = Jvm.exec) {i : Int} (hd : decode c.code pc = .ok (.bipush i, 2)) (v : Int32) (hv : (Int8.ofInt i).toInt32 = v) (hp : pc + 2 = pc') (w : own_W p e En below kc ks Q T (mkF m pc' Ls (.int v :: st))) : own_W p e En below kc ks Q T (mkF m pc Ls (st)) := by
  subst hp; exact own_W.step (fun _ q => XT.bipushV X.here hx rfl v hd hv q) w
theorem own_sipush (X : Stand p l e R s m args below meth c T locs cells slots) (hx : p.tables.exec = Jvm.exec) {i : Int} (hd : decode c.code pc = .ok (.sipush i, 3)) (v : Int32) (hv : (Int16.ofInt i).toInt32 = v) (hp : pc + 3 = pc') (w : own_W p e En below kc ks Q T (mkF m pc' Ls (.int v :: st))) : own_W p e En below kc ks Q T (mkF m pc Ls (st)) := by
  subst hp; exact own_W.step (fun _ q => XT.sipushV X.here hx rfl v hd hv q) w
theorem own_lconst (X : Stand p l e R s m args below meth c T locs cells slots) (hx : p.tables.exec = Jvm.exec) {k : Fin 2} (hd : decode c.code pc = .ok (.lconst k, 1)) (v : Int64) (hv : Int64.ofNat k = v) (hp : pc + 1 = pc') (w : own_W p e En below kc ks Q T (mkF m pc' Ls (.long v :: st))) : own_W p e En below kc ks Q T (mkF m pc Ls (st)) := by
  subst hp; exact own_W.step (fun _ q => XT.lconstV X.here hx rfl v hd hv q) w
theorem own_aconstNull (X : Stand p l e R s m args below meth c T locs cells slots) (hx : p.tables.exec = Jvm.exec)  (hd : decode c.code pc = .ok (.aconst_null, 1))  (hp : pc + 1 = pc') (w : own_W p e En below kc ks Q T (mkF m pc' Ls (.null :: st))) : own_W p e En below kc ks Q T (mkF m pc Ls (st)) := by
  subst hp; exact own_W.step (fun _ q => XS.aconstNull X.here hx rfl hd q) w
theorem own_ldcInt (X : Stand p l e R s m args below meth c T locs cells slots) (hx : p.tables.exec = Jvm.exec) {own : String} {index : Nat} {v : Int32} (hown : s.vm.findClass own = some m.cls) (hk : (Jvm.Cond.constant own index v).before args s = true) (hd : decode c.code pc = .ok (.ldc index, 2)) (hp : pc + 2 = pc') (w : own_W p e En below kc ks Q T (mkF m pc' Ls (.int v :: st))) : own_W p e En below kc ks Q T (mkF m pc Ls st) := by
  subst hp; exact own_W.step (X.ldcInt hx hown hk (g := mkF m pc Ls st) rfl hd) w
theorem own_ldcwInt (X : Stand p l e R s m args below meth c T locs cells slots) (hx : p.tables.exec = Jvm.exec) {own : String} {index : Nat} {v : Int32} (hown : s.vm.findClass own = some m.cls) (hk : (Jvm.Cond.constant own index v).before args s = true) (hd : decode c.code pc = .ok (.ldc_w index, 3)) (hp : pc + 3 = pc') (w : own_W p e En below kc ks Q T (mkF m pc' Ls (.int v :: st))) : own_W p e En below kc ks Q T (mkF m pc Ls st) := by
  subst hp; exact own_W.step (X.ldcwInt hx hown hk (g := mkF m pc Ls st) rfl hd) w
theorem own_ldc2Long (X : Stand p l e R s m args below meth c T locs cells slots) (hx : p.tables.exec = Jvm.exec) {own : String} {index : Nat} {v : Int64} (hown : s.vm.findClass own = some m.cls) (hk : (Jvm.Cond.constantLong own index v).before args s = true) (hd : decode c.code pc = .ok (.ldc2_w index, 3)) (hp : pc + 3 = pc') (w : own_W p e En below kc ks Q T (mkF m pc' Ls (.long v :: st))) : own_W p e En below kc ks Q T (mkF m pc Ls st) := by
  subst hp; exact own_W.step (X.ldc2Long hx hown hk (g := mkF m pc Ls st) rfl hd) w
theorem own_iadd (X : Stand p l e R s m args below meth c T locs cells slots) (hx : p.tables.exec = Jvm.exec) {x y : Int32} (hd : decode c.code pc = .ok (.iadd, 1))  (hp : pc + 1 = pc') (w : own_W p e En below kc ks Q T (mkF m pc' Ls (.int (x + y) :: st))) : own_W p e En below kc ks Q T (mkF m pc Ls (.int y :: .int x :: st)) := by
  subst hp; exact own_W.step (fun _ q => XS.iadd X.here hx rfl hd rfl q) w
theorem own_ladd (X : Stand p l e R s m args below meth c T locs cells slots) (hx : p.tables.exec = Jvm.exec) {x y : Int64} (hd : decode c.code pc = .ok (.ladd, 1))  (hp : pc + 1 = pc') (w : own_W p e En below kc ks Q T (mkF m pc' Ls (.long (x + y) :: st))) : own_W p e En below kc ks Q T (mkF m pc Ls (.long y :: .long x :: st)) := by
  subst hp; exact own_W.step (fun _ q => XS.ladd X.here hx rfl hd rfl q) w
theorem own_isub (X : Stand p l e R s m args below meth c T locs cells slots) (hx : p.tables.exec = Jvm.exec) {x y : Int32} (hd : decode c.code pc = .ok (.isub, 1))  (hp : pc + 1 = pc') (w : own_W p e En below kc ks Q T (mkF m pc' Ls (.int (x - y) :: st))) : own_W p e En below kc ks Q T (mkF m pc Ls (.int y :: .int x :: st)) := by
  subst hp; exact own_W.step (fun _ q => XS.isub X.here hx rfl hd rfl q) w
theorem own_lsub (X : Stand p l e R s m args below meth c T locs cells slots) (hx : p.tables.exec = Jvm.exec) {x y : Int64} (hd : decode c.code pc = .ok (.lsub, 1))  (hp : pc + 1 = pc') (w : own_W p e En below kc ks Q T (mkF m pc' Ls (.long (x - y) :: st))) : own_W p e En below kc ks Q T (mkF m pc Ls (.long y :: .long x :: st)) := by
  subst hp; exact own_W.step (fun _ q => XS.lsub X.here hx rfl hd rfl q) w
theorem own_imul (X : Stand p l e R s m args below meth c T locs cells slots) (hx : p.tables.exec = Jvm.exec) {x y : Int32} (hd : decode c.code pc = .ok (.imul, 1))  (hp : pc + 1 = pc') (w : own_W p e En below kc ks Q T (mkF m pc' Ls (.int (x * y) :: st))) : own_W p e En below kc ks Q T (mkF m pc Ls (.int y :: .int x :: st)) := by
  subst hp; exact own_W.step (fun _ q => XS.imul X.here hx rfl hd rfl q) w
theorem own_lmul (X : Stand p l e R s m args below meth c T locs cells slots) (hx : p.tables.exec = Jvm.exec) {x y : Int64} (hd : decode c.code pc = .ok (.lmul, 1))  (hp : pc + 1 = pc') (w : own_W p e En below kc ks Q T (mkF m pc' Ls (.long (x * y) :: st))) : own_W p e En below kc ks Q T (mkF m pc Ls (.long y :: .long x :: st)) := by
  subst hp; exact own_W.step (fun _ q => XS.lmul X.here hx rfl hd rfl q) w
theorem own_iand (X : Stand p l e R s m args below meth c T locs cells slots) (hx : p.tables.exec = Jvm.exec) {x y : Int32} (hd : decode c.code pc = .ok (.iand, 1))  (hp : pc + 1 = pc') (w : own_W p e En below kc ks Q T (mkF m pc' Ls (.int (x &&& y) :: st))) : own_W p e En below kc ks Q T (mkF m pc Ls (.int y :: .int x :: st)) := by
  subst hp; exact own_W.step (fun _ q => XS.iand X.here hx rfl hd rfl q) w
theorem own_land (X : Stand p l e R s m args below meth c T locs cells slots) (hx : p.tables.exec = Jvm.exec) {x y : Int64} (hd : decode c.code pc = .ok (.land, 1))  (hp : pc + 1 = pc') (w : own_W p e En below kc ks Q T (mkF m pc' Ls (.long (x &&& y) :: st))) : own_W p e En below kc ks Q T (mkF m pc Ls (.long y :: .long x :: st)) := by
  subst hp; exact own_W.step (fun _ q => XS.land X.here hx rfl hd rfl q) w
theorem own_ior (X : Stand p l e R s m args below meth c T locs cells slots) (hx : p.tables.exec = Jvm.exec) {x y : Int32} (hd : decode c.code pc = .ok (.ior, 1))  (hp : pc + 1 = pc') (w : own_W p e En below kc ks Q T (mkF m pc' Ls (.int (x ||| y) :: st))) : own_W p e En below kc ks Q T (mkF m pc Ls (.int y :: .int x :: st)) := by
  subst hp; exact own_W.step (fun _ q => XS.ior X.here hx rfl hd rfl q) w
theorem own_lor (X : Stand p l e R s m args below meth c T locs cells slots) (hx : p.tables.exec = Jvm.exec) {x y : Int64} (hd : decode c.code pc = .ok (.lor, 1))  (hp : pc + 1 = pc') (w : own_W p e En below kc ks Q T (mkF m pc' Ls (.long (x ||| y) :: st))) : own_W p e En below kc ks Q T (mkF m pc Ls (.long y :: .long x :: st)) := by
  subst hp; exact own_W.step (fun _ q => XS.lor X.here hx rfl hd rfl q) w
theorem own_ixor (X : Stand p l e R s m args below meth c T locs cells slots) (hx : p.tables.exec = Jvm.exec) {x y : Int32} (hd : decode c.code pc = .ok (.ixor, 1))  (hp : pc + 1 = pc') (w : own_W p e En below kc ks Q T (mkF m pc' Ls (.int (x ^^^ y) :: st))) : own_W p e En below kc ks Q T (mkF m pc Ls (.int y :: .int x :: st)) := by
  subst hp; exact own_W.step (fun _ q => XS.ixor X.here hx rfl hd rfl q) w
theorem own_lxor (X : Stand p l e R s m args below meth c T locs cells slots) (hx : p.tables.exec = Jvm.exec) {x y : Int64} (hd : decode c.code pc = .ok (.lxor, 1))  (hp : pc + 1 = pc') (w : own_W p e En below kc ks Q T (mkF m pc' Ls (.long (x ^^^ y) :: st))) : own_W p e En below kc ks Q T (mkF m pc Ls (.long y :: .long x :: st)) := by
  subst hp; exact own_W.step (fun _ q => XS.lxor X.here hx rfl hd rfl q) w
theorem own_idiv (X : Stand p l e R s m args below meth c T locs cells slots) (hx : p.tables.exec = Jvm.exec) {x y : Int32} (hd : decode c.code pc = .ok (.idiv, 1)) (hy : y ≠ 0) (hp : pc + 1 = pc') (w : own_W p e En below kc ks Q T (mkF m pc' Ls (.int (x / y) :: st))) : own_W p e En below kc ks Q T (mkF m pc Ls (.int y :: .int x :: st)) := by
  subst hp; exact own_W.step (fun _ q => XS.idiv X.here hx rfl hd rfl hy q) w
theorem own_ldiv (X : Stand p l e R s m args below meth c T locs cells slots) (hx : p.tables.exec = Jvm.exec) {x y : Int64} (hd : decode c.code pc = .ok (.ldiv, 1)) (hy : y ≠ 0) (hp : pc + 1 = pc') (w : own_W p e En below kc ks Q T (mkF m pc' Ls (.long (x / y) :: st))) : own_W p e En below kc ks Q T (mkF m pc Ls (.long y :: .long x :: st)) := by
  subst hp; exact own_W.step (fun _ q => XS.ldiv X.here hx rfl hd rfl hy q) w
theorem own_irem (X : Stand p l e R s m args below meth c T locs cells slots) (hx : p.tables.exec = Jvm.exec) {x y : Int32} (hd : decode c.code pc = .ok (.irem, 1)) (hy : y ≠ 0) (hp : pc + 1 = pc') (w : own_W p e En below kc ks Q T (mkF m pc' Ls (.int (x % y) :: st))) : own_W p e En below kc ks Q T (mkF m pc Ls (.int y :: .int x :: st)) := by
  subst hp; exact own_W.step (fun _ q => iremM X hx rfl hd rfl hy q) w
theorem own_lrem (X : Stand p l e R s m args below meth c T locs cells slots) (hx : p.tables.exec = Jvm.exec) {x y : Int64} (hd : decode c.code pc = .ok (.lrem, 1)) (hy : y ≠ 0) (hp : pc + 1 = pc') (w : own_W p e En below kc ks Q T (mkF m pc' Ls (.long (x % y) :: st))) : own_W p e En below kc ks Q T (mkF m pc Ls (.long y :: .long x :: st)) := by
  subst hp; exact own_W.step (fun _ q => XS.lrem X.here hx rfl hd rfl hy (by rw [lrem_mod]; exact q)) w
theorem own_ineg (X : Stand p l e R s m args below meth c T locs cells slots) (hx : p.tables.exec = Jvm.exec) {x : Int32} (hd : decode c.code pc = .ok (.ineg, 1))  (hp : pc + 1 = pc') (w : own_W p e En below kc ks Q T (mkF m pc' Ls (.int (-x) :: st))) : own_W p e En below kc ks Q T (mkF m pc Ls (.int x :: st)) := by
  subst hp; exact own_W.step (fun _ q => XS.ineg X.here hx rfl hd rfl q) w
theorem own_lneg (X : Stand p l e R s m args below meth c T locs cells slots) (hx : p.tables.exec = Jvm.exec) {x : Int64} (hd : decode c.code pc = .ok (.lneg, 1))  (hp : pc + 1 = pc') (w : own_W p e En below kc ks Q T (mkF m pc' Ls (.long (-x) :: st))) : own_W p e En below kc ks Q T (mkF m pc Ls (.long x :: st)) := by
  subst hp; exact own_W.step (fun _ q => XS.lneg X.here hx rfl hd rfl q) w
theorem own_i2l (X : Stand p l e R s m args below meth c T locs cells slots) (hx : p.tables.exec = Jvm.exec) {x : Int32} (hd : decode c.code pc = .ok (.i2l, 1))  (hp : pc + 1 = pc') (w : own_W p e En below kc ks Q T (mkF m pc' Ls (.long (x.toInt64) :: st))) : own_W p e En below kc ks Q T (mkF m pc Ls (.int x :: st)) := by
  subst hp; exact own_W.step (fun _ q => XS.i2l X.here hx rfl hd rfl q) w
theorem own_l2i (X : Stand p l e R s m args below meth c T locs cells slots) (hx : p.tables.exec = Jvm.exec) {x : Int64} (hd : decode c.code pc = .ok (.l2i, 1))  (hp : pc + 1 = pc') (w : own_W p e En below kc ks Q T (mkF m pc' Ls (.int (x.toInt32) :: st))) : own_W p e En below kc ks Q T (mkF m pc Ls (.long x :: st)) := by
  subst hp; exact own_W.step (fun _ q => XS.l2i X.here hx rfl hd rfl q) w
theorem own_i2b (X : Stand p l e R s m args below meth c T locs cells slots) (hx : p.tables.exec = Jvm.exec) {x : Int32} (hd : decode c.code pc = .ok (.i2b, 1))  (hp : pc + 1 = pc') (w : own_W p e En below kc ks Q T (mkF m pc' Ls (.int (x.toInt8.toInt32) :: st))) : own_W p e En below kc ks Q T (mkF m pc Ls (.int x :: st)) := by
  subst hp; exact own_W.step (fun _ q => XS.i2b X.here hx rfl hd rfl q) w
theorem own_i2s (X : Stand p l e R s m args below meth c T locs cells slots) (hx : p.tables.exec = Jvm.exec) {x : Int32} (hd : decode c.code pc = .ok (.i2s, 1))  (hp : pc + 1 = pc') (w : own_W p e En below kc ks Q T (mkF m pc' Ls (.int (x.toInt16.toInt32) :: st))) : own_W p e En below kc ks Q T (mkF m pc Ls (.int x :: st)) := by
  subst hp; exact own_W.step (fun _ q => XS.i2s X.here hx rfl hd rfl q) w
theorem own_i2c (X : Stand p l e R s m args below meth c T locs cells slots) (hx : p.tables.exec = Jvm.exec) {x : Int32} (hd : decode c.code pc = .ok (.i2c, 1))  (hp : pc + 1 = pc') (w : own_W p e En below kc ks Q T (mkF m pc' Ls (.int (x.toUInt32.toUInt16.toUInt32.toInt32) :: st))) : own_W p e En below kc ks Q T (mkF m pc Ls (.int x :: st)) := by
  subst hp; exact own_W.step (fun _ q => XS.i2c X.here hx rfl hd rfl q) w
theorem own_ishl (X : Stand p l e R s m args below meth c T locs cells slots) (hx : p.tables.exec = Jvm.exec) {x y : Int32} (hd : decode c.code pc = .ok (.ishl, 1))  (hp : pc + 1 = pc') (w : own_W p e En below kc ks Q T (mkF m pc' Ls (.int (x <<< (y &&& 31)) :: st))) : own_W p e En below kc ks Q T (mkF m pc Ls (.int y :: .int x :: st)) := by
  subst hp; exact own_W.step (fun _ q => XS.ishl X.here hx rfl hd rfl q) w
theorem own_ishr (X : Stand p l e R s m args below meth c T locs cells slots) (hx : p.tables.exec = Jvm.exec) {x y : Int32} (hd : decode c.code pc = .ok (.ishr, 1))  (hp : pc + 1 = pc') (w : own_W p e En below kc ks Q T (mkF m pc' Ls (.int (x >>> (y &&& 31)) :: st))) : own_W p e En below kc ks Q T (mkF m pc Ls (.int y :: .int x :: st)) := by
  subst hp; exact own_W.step (fun _ q => XS.ishr X.here hx rfl hd rfl q) w
theorem own_iushr (X : Stand p l e R s m args below meth c T locs cells slots) (hx : p.tables.exec = Jvm.exec) {x y : Int32} (hd : decode c.code pc = .ok (.iushr, 1))  (hp : pc + 1 = pc') (w : own_W p e En below kc ks Q T (mkF m pc' Ls (.int ((x.toUInt32 >>> (y &&& 31).toUInt32).toInt32) :: st))) : own_W p e En below kc ks Q T (mkF m pc Ls (.int y :: .int x :: st)) := by
  subst hp; exact own_W.step (fun _ q => XS.iushr X.here hx rfl hd rfl q) w
theorem own_lshl (X : Stand p l e R s m args below meth c T locs cells slots) (hx : p.tables.exec = Jvm.exec) {x : Int64} {y : Int32} (hd : decode c.code pc = .ok (.lshl, 1))  (hp : pc + 1 = pc') (w : own_W p e En below kc ks Q T (mkF m pc' Ls (.long (x <<< (y &&& 0x3f).toInt64) :: st))) : own_W p e En below kc ks Q T (mkF m pc Ls (.int y :: .long x :: st)) := by
  subst hp; exact own_W.step (fun _ q => XS.lshl X.here hx rfl hd rfl q) w
theorem own_lshr (X : Stand p l e R s m args below meth c T locs cells slots) (hx : p.tables.exec = Jvm.exec) {x : Int64} {y : Int32} (hd : decode c.code pc = .ok (.lshr, 1))  (hp : pc + 1 = pc') (w : own_W p e En below kc ks Q T (mkF m pc' Ls (.long (x >>> (y &&& 0x3f).toInt64) :: st))) : own_W p e En below kc ks Q T (mkF m pc Ls (.int y :: .long x :: st)) := by
  subst hp; exact own_W.step (fun _ q => XS.lshr X.here hx rfl hd rfl q) w
theorem own_lushr (X : Stand p l e R s m args below meth c T locs cells slots) (hx : p.tables.exec = Jvm.exec) {x : Int64} {y : Int32} (hd : decode c.code pc = .ok (.lushr, 1))  (hp : pc + 1 = pc') (w : own_W p e En below kc ks Q T (mkF m pc' Ls (.long ((x.toUInt64 >>> (y &&& 0x3f).toInt64.toUInt64).toInt64) :: st))) : own_W p e En below kc ks Q T (mkF m pc Ls (.int y :: .long x :: st)) := by
  subst hp; exact own_W.step (fun _ q => XS.lushr X.here hx rfl hd rfl q) w
theorem own_lcmp (X : Stand p l e R s m args below meth c T locs cells slots) (hx : p.tables.exec = Jvm.exec) {x y : Int64} (hd : decode c.code pc = .ok (.lcmp, 1))  (hp : pc + 1 = pc') (w : own_W p e En below kc ks Q T (mkF m pc' Ls (.int (XT.cmpL x y) :: st))) : own_W p e En below kc ks Q T (mkF m pc Ls (.long y :: .long x :: st)) := by
  subst hp; exact own_W.step (fun _ q => XT.lcmp X.here hx rfl hd rfl q) w
theorem own_iinc (X : Stand p l e R s m args below meth c T locs cells slots) (hx : p.tables.exec = Jvm.exec) {k : Nat} {cst : Int} (hd : decode c.code pc = .ok (.iinc k cst, 3)) (v : Int32) (hv : Int32.ofInt cst = v) {x : Int32} {l' : Array Slot} (hl : Ls[k]? = some (.val (.int x))) (hl' : storeLocals Ls k (.int (x + v)) = some l') (hp : pc + 3 = pc') (w : own_W p e En below kc ks Q T (mkF m pc' l' (st))) : own_W p e En below kc ks Q T (mkF m pc Ls (st)) := by
  subst hp; exact own_W.step (fun _ q => XT.iincV X.here hx rfl v hd hv hl hl' q) w
theorem own_dup (X : Stand p l e R s m args below meth c T locs cells slots) (hx : p.tables.exec = Jvm.exec) {x : Value} (hd : decode c.code pc = .ok (.dup, 1)) (hc : x.category = 1) (hp : pc + 1 = pc') (w : own_W p e En below kc ks Q T (mkF m pc' Ls (x :: x :: st))) : own_W p e En below kc ks Q T (mkF m pc Ls (x :: st)) := by
  subst hp; exact own_W.step (fun _ q => XS.dup X.here hx rfl hd rfl hc q) w
theorem own_pop (X : Stand p l e R s m args below meth c T locs cells slots) (hx : p.tables.exec = Jvm.exec) {x : Value} (hd : decode c.code pc = .ok (.pop, 1)) (hc : x.category = 1) (hp : pc + 1 = pc') (w : own_W p e En below kc ks Q T (mkF m pc' Ls (st))) : own_W p e En below kc ks Q T (mkF m pc Ls (x :: st)) := by
  subst hp; exact own_W.step (fun _ q => XS.pop X.here hx rfl hd rfl hc q) w
theorem own_dupX1 (X : Stand p l e R s m args below meth c T locs cells slots) (hx : p.tables.exec = Jvm.exec) {x y : Value} (hd : decode c.code pc = .ok (.dup_x1, 1)) (hc : x.category = 1) (hc2 : y.category = 1) (hp : pc + 1 = pc') (w : own_W p e En below kc ks Q T (mkF m pc' Ls (x :: y :: x :: st))) : own_W p e En below kc ks Q T (mkF m pc Ls (x :: y :: st)) := by
  subst hp; exact own_W.step (fun _ q => XS.dupX1 X.here hx rfl hd rfl hc hc2 q) w
theorem own_dup2 (X : Stand p l e R s m args below meth c T locs cells slots) (hx : p.tables.exec = Jvm.exec) {x y : Value} (hd : decode c.code pc = .ok (.dup2, 1)) (hc : x.category = 1) (hc2 : y.category = 1) (hp : pc + 1 = pc') (w : own_W p e En below kc ks Q T (mkF m pc' Ls (x :: y :: x :: y :: st))) : own_W p e En below kc ks Q T (mkF m pc Ls (x :: y :: st)) := by
  subst hp; exact own_W.step (fun _ q => XT.dup2 X.here hx rfl hd rfl hc hc2 q) w
theorem own_dup2L (X : Stand p l e R s m args below meth c T locs cells slots) (hx : p.tables.exec = Jvm.exec) {x : Int64} (hd : decode c.code pc = .ok (.dup2, 1))  (hp : pc + 1 = pc') (w : own_W p e En below kc ks Q T (mkF m pc' Ls (.long x :: .long x :: st))) : own_W p e En below kc ks Q T (mkF m pc Ls (.long x :: st)) := by
  subst hp; exact own_W.step (fun _ q => XT.dup2L X.here hx rfl hd rfl q) w
theorem own_goto (X : Stand p l e R s m args below meth c T locs cells slots) (hx : p.tables.exec = Jvm.exec) {o : Int} (hd : decode c.code pc = .ok (.goto o, 3)) {pc' : Nat} (ho : 0 ≤ (pc : Int) + o) (hp : ((pc : Int) + o).toNat = pc') (w : own_W p e En below kc ks Q T (mkF m pc' Ls st)) : own_W p e En below kc ks Q T (mkF m pc Ls st) :=
  own_W.step (fun _ q => XS.goto X.here hx rfl rfl hd ho hp q) w
theorem own_ifYes (X : Stand p l e R s m args below meth c T locs cells slots) (hx : p.tables.exec = Jvm.exec) {cd : Jvm.ClassFile.Cond} {x : Int32} {o : Int} (hd : decode c.code pc = .ok (.ifCond cd o, 3)) (hc : ifCond.holds cd x = true) {pc' : Nat} (ho : 0 ≤ (pc : Int) + o) (hp : ((pc : Int) + o).toNat = pc') (w : own_W p e En below kc ks Q T (mkF m pc' Ls st)) : own_W p e En below kc ks Q T (mkF m pc Ls (.int x :: st)) :=
  own_W.step (fun _ q => XS.ifYes X.here hx rfl rfl hd rfl hc ho hp q) w
theorem own_ifNo (X : Stand p l e R s m args below meth c T locs cells slots) (hx : p.tables.exec = Jvm.exec) {cd : Jvm.ClassFile.Cond} {x : Int32} {o : Int} (hd : decode c.code pc = .ok (.ifCond cd o, 3)) (hc : ifCond.holds cd x = false) (hp : pc + 3 = pc') (w : own_W p e En below kc ks Q T (mkF m pc' Ls st)) : own_W p e En below kc ks Q T (mkF m pc Ls (.int x :: st)) := by
  subst hp; exact own_W.step (fun _ q => XS.ifNo X.here hx rfl hd rfl hc q) w
theorem own_icmpYes (X : Stand p l e R s m args below meth c T locs cells slots) (hx : p.tables.exec = Jvm.exec) {cd : Jvm.ClassFile.Cond} {x y : Int32} {o : Int} (hd : decode c.code pc = .ok (.if_icmp cd o, 3)) (hc : if_icmp.holds cd x y = true) {pc' : Nat} (ho : 0 ≤ (pc : Int) + o) (hp : ((pc : Int) + o).toNat = pc') (w : own_W p e En below kc ks Q T (mkF m pc' Ls st)) : own_W p e En below kc ks Q T (mkF m pc Ls (.int y :: .int x :: st)) :=
  own_W.step (fun _ q => XS.icmpYes X.here hx rfl rfl hd rfl hc ho hp q) w
theorem own_icmpNo (X : Stand p l e R s m args below meth c T locs cells slots) (hx : p.tables.exec = Jvm.exec) {cd : Jvm.ClassFile.Cond} {x y : Int32} {o : Int} (hd : decode c.code pc = .ok (.if_icmp cd o, 3)) (hc : if_icmp.holds cd x y = false) (hp : pc + 3 = pc') (w : own_W p e En below kc ks Q T (mkF m pc' Ls st)) : own_W p e En below kc ks Q T (mkF m pc Ls (.int y :: .int x :: st)) := by
  subst hp; exact own_W.step (fun _ q => XS.icmpNo X.here hx rfl hd rfl hc q) w
theorem own_ifnullYes (X : Stand p l e R s m args below meth c T locs cells slots) (hx : p.tables.exec = Jvm.exec) {o : Int} (hd : decode c.code pc = .ok (.ifnull o, 3)) {pc' : Nat} (ho : 0 ≤ (pc : Int) + o) (hp : ((pc : Int) + o).toNat = pc') (w : own_W p e En below kc ks Q T (mkF m pc' Ls st)) : own_W p e En below kc ks Q T (mkF m pc Ls (.null :: st)) :=
  own_W.step (fun _ q => XS.ifnullYes X.here hx rfl rfl hd rfl ho hp q) w
theorem own_ifnullNo (X : Stand p l e R s m args below meth c T locs cells slots) (hx : p.tables.exec = Jvm.exec) {o : Int} (hd : decode c.code pc = .ok (.ifnull o, 3)) (hp : pc + 3 = pc') (w : own_W p e En below kc ks Q T (mkF m pc' Ls st)) : own_W p e En below kc ks Q T (mkF m pc Ls (.ref b :: st)) := by
  subst hp; exact own_W.step (fun _ q => XS.ifnullNo X.here hx rfl hd rfl q) w
theorem own_ifnonnullYes (X : Stand p l e R s m args below meth c T locs cells slots) (hx : p.tables.exec = Jvm.exec) {o : Int} (hd : decode c.code pc = .ok (.ifnonnull o, 3)) {pc' : Nat} (ho : 0 ≤ (pc : Int) + o) (hp : ((pc : Int) + o).toNat = pc') (w : own_W p e En below kc ks Q T (mkF m pc' Ls st)) : own_W p e En below kc ks Q T (mkF m pc Ls (.ref b :: st)) :=
  own_W.step (fun _ q => XS.ifnonnullYes X.here hx rfl rfl hd rfl ho hp q) w
theorem own_ifnonnullNo (X : Stand p l e R s m args below meth c T locs cells slots) (hx : p.tables.exec = Jvm.exec) {o : Int} (hd : decode c.code pc = .ok (.ifnonnull o, 3)) (hp : pc + 3 = pc') (w : own_W p e En below kc ks Q T (mkF m pc' Ls st)) : own_W p e En below kc ks Q T (mkF m pc Ls (.null :: st)) := by
  subst hp; exact own_W.step (fun _ q => XS.ifnonnullNo X.here hx rfl hd rfl q) w
/-- an array: its kind, its length, what each place holds -/
def own_A (Z : State) (h : Heap) (a : Addr) (ty : FieldType) (n : Nat) (f : Nat → Value) : Prop := ∃ c : Cell, Arr Z h a c ty ∧ c.slots.size = n ∧ n < 2 ^ 31 ∧ (∀ i, i < n → c.slots[i]? = some (f i)) ∧ ∀ i, i < n → fits ty (f i) = true
/-- the int j names the place i, which lies in an array of n places -/
def own_In (j : Int32) (i n : Nat) : Prop := j.toInt = (i : Int) ∧ i < n
variable {ty : FieldType} {n i : Nat} {f f' : Nat → Value} {j : Int32}
def own_k0 (_ : Nat) : Int32 := 0
def own_k0L (_ : Nat) : Int64 := 0
def own_up {α : Type} (f : Nat → α) (k : Nat) (x : α) (z : Nat) : α := if z = k then x else f z
theorem own_up_same {α : Type} (f : Nat → α) (k : Nat) (x : α) : own_up f k x k = x := if_pos rfl
theorem own_up_other {α : Type} (f : Nat → α) (k : Nat) (x : α) (z : Nat) (q : z ≠ k) : own_up f k x z = f z := if_neg q
theorem own_In.nat (q : own_In j i n) : j.toNatClampNeg = i := by
  show j.toInt.toNat = i
  rw [q.1]; rfl
theorem own_In.inb {cl : Cell} (q : own_In j i n) (S : cl.slots.size = n) : ¬ (j < 0 ∨ cl.slots.size ≤ j.toNatClampNeg) := by
  rw [q.nat, S]
  have q1 := q.1
  have q2 := q.2
  rintro (r | r)
  · rw [Int32.lt_iff_toInt_lt] at r
    have z : (0 : Int32).toInt = 0 := rfl
    omega
  · omega
theorem own_A.lt (F : own_A Z h a ty n f) : a < h.size := by obtain ⟨c, A, -⟩ := F; exact A.lt
theorem own_A.len (F : own_A Z h a ty n f) : n < 2 ^ 31 := by obtain ⟨c, -, -, q, -, -⟩ := F; exact q
theorem own_A.ext (F : own_A Z h a ty n f) (E : Ext h h') : own_A Z h' a ty n f := by obtain ⟨c, A, r⟩ := F; exact ⟨c, A.ext E, r⟩
theorem own_A.other {v : Value} (F : own_A Z h b ty n f) (W : Wr h h' a sl v) (q : b ≠ a) : own_A Z h' b ty n f := by obtain ⟨c, A, r⟩ := F; exact ⟨c, A.other W q, r⟩
theorem own_A.keep {ws : List Addr} (F : own_A Z h a ty n f) (K : Keep h h' ws) (q : a ∉ ws) : own_A Z h' a ty n f := by obtain ⟨c, A, r⟩ := F; exact ⟨c, ⟨K.2.1 a c A.1 q, A.2⟩, r⟩
theorem own_A.congr (F : own_A Z h a ty n f) (q : ∀ i, i < n → f i = f' i) : own_A Z h a ty n f' := by
  obtain ⟨c, A, r1, r2, r3, r4⟩ := F
  exact ⟨c, A, r1, r2, fun i hi => by rw [r3 i hi, q i hi], fun i hi => by rw [← q i hi]; exact r4 i hi⟩
theorem own_A.fit (F : own_A Z h a ty n f) {i : Nat} (hi : i < n) : fits ty (f i) = true := by obtain ⟨c, A, r1, r2, r3, r4⟩ := F; exact r4 i hi
theorem own_A.new {k : ClassId} {z : Int32} (A : Arr Z h a (newA k ty z) ty) (q : ¬ z < 0) (hn : z.toNatClampNeg = n) : own_A Z h a ty n (fun _ => defaultValue ty) := by
  subst hn
  refine ⟨_, A, sz_new _ _ _, (back32 q).2, fun i hi => ?_, fun i _ => by cases ty <;> rfl⟩
  show (Array.replicate z.toNatClampNeg (defaultValue ty))[i]? = _
  rw [Array.getElem?_replicate, if_pos hi]
theorem own_A.put {cl : Cell} {v : Value} (A : Arr Z h a cl ty) (S : cl.slots.size = n) (hn : n < 2 ^ 31) (H : ∀ i, i < n → cl.slots[i]? = some (f i)) (G : ∀ i, i < n → fits ty (f i) = true) (hv : fits ty v = true) (q : own_In j i n) (W : Wr h h' a j.toNatClampNeg v) : own_A Z h' a ty n (fun z => if z = i then v else f z) := by
  refine ⟨_, A.same W, by rw [sz_set]; exact S, hn, fun k hk => ?_, fun k hk => ?_⟩
  rotate_left
  · show fits ty (if k = i then v else f k) = true
    by_cases e : k = i
    · rw [if_pos e]; exact hv
    · rw [if_neg e]; exact G k hk
  show (cl.slots.setIfInBounds j.toNatClampNeg v)[k]? = some (if k = i then v else f k)
  rw [q.nat, Array.getElem?_setIfInBounds]
  by_cases e : i = k
  · subst e
    rw [if_pos rfl, if_pos (by rw [S]; exact hk), if_pos rfl]
  · rw [if_neg e, if_neg (fun z => e z.symm), H k hk]
theorem own_stI (X : Stand p l e R s m args below meth c T locs cells slots) (hx : p.tables.exec = Jvm.exec) (hZ : Z.Warmed39 s.vm) (eT : T.heap = h) (F : own_A Z h a .int n f) {x : Int32} (hi : own_In j i n) {g : JFrame} (hg : g.method = m) {rest : List Value} (hs : g.stack = .int x :: .int j :: .ref a :: rest) (hd : decode c.code g.pc = .ok (.iastore, 1)) :
    ∃ T' h', Stand p l e R s m args below meth c T' (locs ++ [⟨a, j.toNatClampNeg⟩]) cells slots ∧ T'.heap = h' ∧ Wr h h' a j.toNatClampNeg (.int (x)) ∧ own_A Z h' a .int n (fun z => if z = i then .int (x) else f z) ∧ ∀ target, Steps p.tables e below (T'.setTop { g with pc := g.pc + 1, stack := rest }) target → Steps p.tables e below (T.setTop g) target := by
  obtain ⟨cl, A, S, hn, H, G⟩ := F
  obtain ⟨T', h', X', e', W', st'⟩ := stI X hx hZ eT A (hi.inb S) hg hs hd
  exact ⟨T', h', X', e', W', own_A.put A S hn H G rfl hi W', st'⟩
theorem own_stJ (X : Stand p l e R s m args below meth c T locs cells slots) (hx : p.tables.exec = Jvm.exec) (hZ : Z.Warmed39 s.vm) (eT : T.heap = h) (F : own_A Z h a .long n f) {x : Int64} (hi : own_In j i n) {g : JFrame} (hg : g.method = m) {rest : List Value} (hs : g.stack = .long x :: .int j :: .ref a :: rest) (hd : decode c.code g.pc = .ok (.lastore, 1)) :
    ∃ T' h', Stand p l e R s m args below meth c T' (locs ++ [⟨a, j.toNatClampNeg⟩]) cells slots ∧ T'.heap = h' ∧ Wr h h' a j.toNatClampNeg (.long (x)) ∧ own_A Z h' a .long n (fun z => if z = i then .long (x) else f z) ∧ ∀ target, Steps p.tables e below (T'.setTop { g with pc := g.pc + 1, stack := rest }) target → Steps p.tables e below (T.setTop g) target := by
  obtain ⟨cl, A, S, hn, H, G⟩ := F
  obtain ⟨T', h', X', e', W', st'⟩ := stJ X hx hZ eT A (hi.inb S) hg hs hd
  exact ⟨T', h', X', e', W', own_A.put A S hn H G rfl hi W', st'⟩
theorem own_stB (X : Stand p l e R s m args below meth c T locs cells slots) (hx : p.tables.exec = Jvm.exec) (hZ : Z.Warmed39 s.vm) (eT : T.heap = h) (F : own_A Z h a .byte n f) {x : Int32} (hi : own_In j i n) {g : JFrame} (hg : g.method = m) {rest : List Value} (hs : g.stack = .int x :: .int j :: .ref a :: rest) (hd : decode c.code g.pc = .ok (.bastore, 1)) :
    ∃ T' h', Stand p l e R s m args below meth c T' (locs ++ [⟨a, j.toNatClampNeg⟩]) cells slots ∧ T'.heap = h' ∧ Wr h h' a j.toNatClampNeg (.int (x.toInt8.toInt32)) ∧ own_A Z h' a .byte n (fun z => if z = i then .int (x.toInt8.toInt32) else f z) ∧ ∀ target, Steps p.tables e below (T'.setTop { g with pc := g.pc + 1, stack := rest }) target → Steps p.tables e below (T.setTop g) target := by
  obtain ⟨cl, A, S, hn, H, G⟩ := F
  obtain ⟨T', h', X', e', W', st'⟩ := stB X hx hZ eT A (hi.inb S) hg hs hd
  exact ⟨T', h', X', e', W', own_A.put A S hn H G (fits_nar_byte _) hi W', st'⟩
theorem own_iaload (X : Stand p l e R s m args below meth c T locs cells slots) (hx : p.tables.exec = Jvm.exec) (hZ : Z.Warmed39 s.vm) (eT : T.heap = h) (F : own_A Z h a .int n f) (hi : own_In j i n) {v : Int32} (hv : f i = .int v) {g : JFrame} (hg : g.method = m) {rest : List Value} (hs : g.stack = .int j :: .ref a :: rest) (hd : decode c.code g.pc = .ok (.iaload, 1)) (w : own_W p e En below kc ks Q T { g with pc := g.pc + 1, stack := .int v :: rest }) : own_W p e En below kc ks Q T g := by
  obtain ⟨cl, A, S, hn, H, -⟩ := F
  exact own_W.step (X.iaload hx (j := j) (v := .int v) (by rw [eT]; exact A.1) (State.isArrayOf_alike hZ.alike A.2.1) A.2.2 (hi.inb S) (by rw [hi.nat, H i hi.2, hv]) (g := g) hg hs hd) w
theorem own_laload (X : Stand p l e R s m args below meth c T locs cells slots) (hx : p.tables.exec = Jvm.exec) (hZ : Z.Warmed39 s.vm) (eT : T.heap = h) (F : own_A Z h a .long n f) (hi : own_In j i n) {v : Int64} (hv : f i = .long v) {g : JFrame} (hg : g.method = m) {rest : List Value} (hs : g.stack = .int j :: .ref a :: rest) (hd : decode c.code g.pc = .ok (.laload, 1)) (w : own_W p e En below kc ks Q T { g with pc := g.pc + 1, stack := .long v :: rest }) : own_W p e En below kc ks Q T g := by
  obtain ⟨cl, A, S, hn, H, -⟩ := F
  exact own_W.step (X.laload hx (j := j) (v := .long v) (by rw [eT]; exact A.1) (State.isArrayOf_alike hZ.alike A.2.1) A.2.2 (hi.inb S) (by rw [hi.nat, H i hi.2, hv]) (g := g) hg hs hd) w
theorem own_baload (X : Stand p l e R s m args below meth c T locs cells slots) (hx : p.tables.exec = Jvm.exec) (hZ : Z.Warmed39 s.vm) (eT : T.heap = h) (F : own_A Z h a .byte n f) (hi : own_In j i n) {v : Int32} (hv : f i = .int v) {g : JFrame} (hg : g.method = m) {rest : List Value} (hs : g.stack = .int j :: .ref a :: rest) (hd : decode c.code g.pc = .ok (.baload, 1)) (w : own_W p e En below kc ks Q T { g with pc := g.pc + 1, stack := .int v :: rest }) : own_W p e En below kc ks Q T g := by
  obtain ⟨cl, A, S, hn, H, -⟩ := F
  exact own_W.step (X.baloadBytes hx (j := j) (v := .int v) (by rw [eT]; exact A.1) (State.isArrayOf_alike hZ.alike A.2.1) A.2.2 (hi.inb S) (by rw [hi.nat, H i hi.2, hv]) (g := g) hg hs hd) w
theorem own_alen (X : Stand p l e R s m args below meth c T locs cells slots) (hx : p.tables.exec = Jvm.exec) (hZ : Z.Warmed39 s.vm) (eT : T.heap = h) (F : own_A Z h a ty n f) {z : Int32} (hz : n.toInt32 = z) {g : JFrame} (hg : g.method = m) {rest : List Value} (hs : g.stack = .ref a :: rest) (hd : decode c.code g.pc = .ok (.arraylength, 1)) (w : own_W p e En below kc ks Q T { g with pc := g.pc + 1, stack := .int z :: rest }) : own_W p e En below kc ks Q T g := by
  obtain ⟨cl, A, S, hn, H, -⟩ := F
  subst hz S
  exact own_W.step (X.arraylength hx (by rw [eT]; exact A.1) (State.isArrayOf_alike hZ.alike A.2.1) (g := g) hg hs hd) w

/-- a constructor whose entry is resolved already (a nest mate's private one) -/
theorem own_ready {a0 : Array Value} {own : String} {index : Nat} {y : MethodName} (hZ : Z.Warmed39 s.vm) (hown : s.vm.findClass own = some m.cls) (hy : y.cls ≠ "java/lang/invoke/MethodHandle" ∧ y.cls ≠ "java/lang/invoke/VarHandle") (w : (Jvm.Cond.methodRef own index y).before a0 Z = true) (wi : (Jvm.Cond.instanceMethod y).before a0 Z = true) (ev : Env) :
    ∀ (U : State) (r : MethodId), s.WarmedH U.vm → s.methodNamed? y = some r → namesResolved U.vm m.cls index r.cls ∧ U.vm.methodReady m.cls index r := by
  intro U r hW hn
  obtain ⟨mk, methM, hnZ, -⟩ := Cond.instanceMethod_spec wi
  have hZU : Z.Warmed39 U.vm := wtrans hZ hW
  have h1 := Cond.methodRef_warmed39 hZU hnZ hy w
  have e0 : (Z.setVm s.vm).methodNamed? y = Z.methodNamed? y := State.methodNamed?_setVm hZ.alike y
  have e1 : s.methodNamed? y = (Z.setVm s.vm).methodNamed? y := rfl
  have e2 : mk = r := by rw [e1, e0, hnZ] at hn; exact Option.some.inj hn
  subst e2
  have e3 : (Z.setVm U.vm).methodNamed? y = some mk := by rw [State.methodNamed?_setVm hZU.alike y]; exact hnZ
  have hcur : (Z.setVm U.vm).vm.findClass own = some m.cls := by
    show U.vm.findClass own = _
    rw [hW.alike.findClass]; exact hown
  obtain ⟨m', c', hm, hready, hfind, hnr⟩ := Cond.methodRef_named ev hcur h1
  cases hm.symm.trans (State.methodFound?_of_named e3 hy)
  cases hfind.symm.trans (findClass_of_methodNamed e3)
  exact ⟨hnr, hready⟩
theorem own_specialRef (X : Stand p l e R s m args below meth c T locs cells slots) (hexec : p.tables.exec = Jvm.exec) (hZ : Z.Warmed39 s.vm) {a0 : Array Value} {own : String} {index : Nat} {y : MethodName} (hy1 : y.name = "<init>") (hown : s.vm.findClass own = some m.cls) (w : (Jvm.Cond.methodRef own index y).before a0 Z = true) (wi : (Jvm.Cond.instanceMethod y).before a0 Z = true)
    {bytes : ByteArray} {maxL : Nat} (wc : (Jvm.Cond.code y bytes maxL none).before a0 Z = true) (hy : y.cls ≠ "java/lang/invoke/MethodHandle" ∧ y.cls ≠ "java/lang/invoke/VarHandle")
    {W : Nat} {Pre : Pt → Array Value → Prop} {Post : Pt → Array Value → Option Value → Pt → Prop} (hK : Back l R p e below s args y 3 W Pre Post)
    {g : JFrame} (hg : g.method = m) (hsize : g.locals.size = c.maxLocals) {s₀ : State} (hcome : Steps p.tables e below s₀ (T.setTop g)) {a : Addr} {argsL rest : List Value}
    (hlen : ∀ sig, parseMethodDescriptor y.desc = some sig → argsL.length = sig.parameters.length) (hstack : g.stack = argsL.reverse ++ .ref a :: rest) (hW : 2 * g.monitorRoom + (rest.map fun v => v.category).sum ≤ W)
    (hdg : decode c.code g.pc = .ok (.invokespecial index, 3)) (hpre : ∀ vm₁, s.WarmedH vm₁ → Pre ⟨T.setVm vm₁, locs, cells, slots⟩ (.ref a :: argsL).toArray) :
    ∃ (v : Option Value) (vm₁ : Vm) (B : Pt), s.WarmedH vm₁ ∧ Stand p l e R s m args below meth c B.U B.locs B.cells B.slots ∧ Post ⟨T.setVm vm₁, locs, cells, slots⟩ (.ref a :: argsL).toArray v B ∧
      Steps p.tables e below s₀ (B.U.setTop { g with pc := g.pc + 3, stack := v.toList ++ rest }) :=
  (SCall.of_ready hexec hy1 (mvT hZ wi) (mvT hZ wc) (own_ready hZ hown hy w wi e)) X hK hg hsize hcome hlen hstack hW hdg hpre
theorem own_selP {a0 : Array Value} {y : MethodName} {n : Nat} (wp : (Jvm.Cond.privateMethod y).before a0 Z = true) (wi : (Jvm.Cond.instanceMethod y).before a0 Z = true) (wn : (Jvm.Cond.instantiable y.cls n).before a0 Z = true) (hy : y.cls ≠ "java/lang/invoke/MethodHandle" ∧ y.cls ≠ "java/lang/invoke/VarHandle") : (Jvm.Cond.selects y.cls y y).before a0 Z = true := by
  obtain ⟨mk, methM, hn, hm, hst, hab⟩ := Cond.instanceMethod_spec wi
  obtain ⟨c, k, hc, hk, -, hi, -⟩ := Cond.instantiable_spec wn
  have hcls : Z.vm.findClass y.cls = some mk.cls := findClass_of_methodNamed hn
  cases hc.symm.trans hcls
  have hf := State.methodFound?_of_named hn hy
  have hs : selectMethod {} Z.vm mk.cls mk = .method mk := selectMethod_private hm (Cond.privateMethod_at wp mk methM hn hm)
  have hki : k.isInterface = false := (Bool.or_eq_false_iff.mp hi).1
  simp [Cond.before, Cond.holds, Cond.value, hcls, hf, hn, hs, hk, hki]
end OwnW

/-! 1. plain law -/
def own_imin (x y : Int32) : Int32 := if y < x then y else x
def own_imax (x y : Int32) : Int32 := if x < y then y else x
def own_lmin (x y : Int64) : Int64 := if y < x then y else x
def own_stp (d : Int64) (sh i : Int32) : Int64 := (((d.toUInt64 >>> (((16 : Int32) * i) &&& 0x3f).toInt64.toUInt64).toInt64) &&& (65535 : Int64)) <<< ((((sh.toUInt32 >>> (((5 : Int32) * i) &&& 31).toUInt32).toInt32) &&& (15 : Int32)) &&& 0x3f).toInt64
def own_next (q : Int32) (d : Int64) (sh i : Int32) : Int32 := (own_lmin (2147483647 : Int64) (q.toInt64 + own_stp d sh i)).toInt32
def own_pick (x : Int32) (i f t : Int32) (v : Int64) (c : Int32) : Int32 := if i < f then c else if i < t then (if x.toInt64 < v then c else i) else c
def own_L (l : List Int32) (z : Nat) : Int32 := l.getD z 0
theorem own_stpV (d : Int64) (sh i : Int32) : 0 ≤ (own_stp d sh i).toInt ∧ (own_stp d sh i).toInt ≤ 2147450880 := by
  unfold own_stp
  generalize ((d.toUInt64 >>> (((16 : Int32) * i) &&& 0x3f).toInt64.toUInt64).toInt64) = x
  generalize ((sh.toUInt32 >>> (((5 : Int32) * i) &&& 31).toUInt32).toInt32) = y
  have e1 := c_maskL x (65535 : Int64) 16 (by decide) (by decide)
  have e2 := c_mask y (15 : Int32) 4 (by decide) (by decide)
  have b1 : 0 ≤ (x &&& (65535 : Int64)).toInt ∧ (x &&& (65535 : Int64)).toInt ≤ 65535 := by rw [e1]; omega
  have b2 : 0 ≤ (y &&& (15 : Int32)).toInt ∧ (y &&& (15 : Int32)).toInt < 16 := by rw [e2]; omega
  generalize x &&& (65535 : Int64) = u at b1
  generalize y &&& (15 : Int32) = k at b2
  have ek : (k.toBitVec.toNat : Int) = k.toInt := by
    have e : k.toInt = k.toBitVec.toInt := rfl
    rw [e] at b2 ⊢
    rw [BitVec.toInt_eq_toNat_cond] at b2 ⊢
    have := k.toBitVec.isLt
    split at b2
    · rw [if_pos (by assumption)]
    · omega
  have q := c_lshl u k k.toInt.toNat (by omega)
  have r := rng64 (u <<< (k &&& 0x3f).toInt64)
  have p1 : (2 : Nat) ^ k.toInt.toNat ≤ 2 ^ 15 := Nat.pow_le_pow_right (by decide) (by omega)
  have p2 : 0 < (2 : Nat) ^ k.toInt.toNat := Nat.pow_pos (by decide)
  generalize (2 : Nat) ^ k.toInt.toNat = N at q p1 p2
  have m1 : u.toInt * (N : Int) ≤ 65535 * 32768 := Int.mul_le_mul b1.2 (by omega) (by omega) (by omega)
  have m2 : 0 ≤ u.toInt * (N : Int) := Int.mul_nonneg b1.1 (by omega)
  omega
theorem own_nextV (q : Int32) (d : Int64) (sh i : Int32) : q.toInt ≤ (own_next q d sh i).toInt := by
  have b := own_stpV d sh i
  unfold own_next
  generalize own_stp d sh i = w at b
  have e1 := c_ladd q.toInt64 w
  have e2 := c_i2l q
  have r1 := rng32 q
  have r2 := rng64 (q.toInt64 + w)
  have t : (2147483647 : Int64).toInt = 2147483647 := by decide
  have v : (q.toInt64 + w).toInt = q.toInt + w.toInt := by omega
  have e3 := c_l2i (own_lmin (2147483647 : Int64) (q.toInt64 + w))
  have r3 := rng32 (own_lmin (2147483647 : Int64) (q.toInt64 + w)).toInt32
  unfold own_lmin at e3 r3 ⊢
  split at e3 <;> rename_i h <;> rw [Int64.lt_iff_toInt_lt] at h <;> simp only [Int64.lt_iff_toInt_lt] at * <;> first | (rw [if_pos h] at r3 ⊢; omega) | (rw [if_neg h] at r3 ⊢; omega)
theorem own_xy (p : Int32) : 0 ≤ ((p &&& (2147483647 : Int32)) % (6 : Int32)).toInt ∧ ((p &&& (2147483647 : Int32)) % (6 : Int32)).toInt ≤ 5 := by
  have e1 := c_mask p (2147483647 : Int32) 31 (by decide) (by decide)
  have e2 := c_irem (p &&& (2147483647 : Int32)) (6 : Int32) 6 (by decide)
  omega
theorem own_ft (x y : Int32) (hx : 0 ≤ x.toInt ∧ x.toInt ≤ 5) (hy : 0 ≤ y.toInt ∧ y.toInt ≤ 5) : 0 ≤ (own_imin x y).toInt ∧ (own_imin x y).toInt ≤ (own_imax x y).toInt ∧ (own_imax x y).toInt ≤ 5 := by
  unfold own_imin own_imax
  split <;> split <;> (rename_i h1 h2; rw [Int32.lt_iff_toInt_lt] at h1 h2; omega)
theorem own_k (p : Int32) : 0 ≤ ((p &&& (7 : Int32)) % (5 : Int32)).toInt ∧ ((p &&& (7 : Int32)) % (5 : Int32)).toInt < 5 := by
  have e1 := c_mask p (7 : Int32) 3 (by decide) (by decide)
  have e2 := c_irem (p &&& (7 : Int32)) (5 : Int32) 5 (by decide)
  omega
def own_sorted (fa : Nat → Int32) : Prop := ∀ i j : Nat, i ≤ j → j < 5 → (fa i).toInt ≤ (fa j).toInt
theorem own_srt (x0 x1 x2 x3 x4 : Int32) (h1 : x0.toInt ≤ x1.toInt) (h2 : x1.toInt ≤ x2.toInt) (h3 : x2.toInt ≤ x3.toInt) (h4 : x3.toInt ≤ x4.toInt) : own_sorted (fun z => own_L [x0, x1, x2, x3, x4] z) := by
  intro i j hij hj
  have e0 : own_L [x0, x1, x2, x3, x4] 0 = x0 := rfl
  have e1 : own_L [x0, x1, x2, x3, x4] 1 = x1 := rfl
  have e2 : own_L [x0, x1, x2, x3, x4] 2 = x2 := rfl
  have e3 : own_L [x0, x1, x2, x3, x4] 3 = x3 := rfl
  have e4 : own_L [x0, x1, x2, x3, x4] 4 = x4 := rfl
  dsimp only
  rcases i with _ | _ | _ | _ | _ | i <;> rcases j with _ | _ | _ | _ | _ | j <;> (try simp only [e0, e1, e2, e3, e4, Nat.zero_add, Nat.reduceAdd]) <;> omega
/-- the search's invariant: what lies below lw is too small, what lies at hg (and on) isn't -/
def own_inv (fa : Nat → Int32) (v : Int64) (f t lw hg : Int) : Prop := f ≤ lw ∧ lw ≤ hg ∧ hg ≤ t ∧ (∀ z : Nat, f ≤ (z : Int) → (z : Int) < lw → (fa z).toInt < v.toInt) ∧ (∀ z : Nat, hg ≤ (z : Int) → (z : Int) < t → v.toInt ≤ (fa z).toInt)
theorem own_mid (x y : Int32) (hx : 0 ≤ x.toInt) (hxy : x.toInt < y.toInt) (hy : y.toInt ≤ 5) : x.toInt ≤ (((x + y).toUInt32 >>> ((1 : Int32) &&& 31).toUInt32).toInt32).toInt ∧ (((x + y).toUInt32 >>> ((1 : Int32) &&& 31).toUInt32).toInt32).toInt < y.toInt := by
  have e1 := c_iadd x y
  have r1 := rng32 (x + y)
  have v : (x + y).toInt = x.toInt + y.toInt := by omega
  have e2 := c_iushr (x + y) (1 : Int32) 1 (by decide) (by decide)
  rw [e2, v]
  omega
theorem own_upw (fa : Nat → Int32) (v : Int64) (f t : Int) (lw hg md : Int32) (hs : own_sorted fa) (h0 : 0 ≤ f) (ht : t ≤ 5) (h : own_inv fa v f t lw.toInt hg.toInt) (hm : lw.toInt ≤ md.toInt ∧ md.toInt < hg.toInt) (hc : (fa md.toInt.toNat).toInt64 < v) : (md + (1 : Int32)).toInt = md.toInt + 1 ∧ own_inv fa v f t (md + (1 : Int32)).toInt hg.toInt := by
  obtain ⟨h1, h2, h3, h4, h5⟩ := h
  have e := c_iadd md (1 : Int32)
  have r := rng32 (md + (1 : Int32))
  have t1 : (1 : Int32).toInt = 1 := by decide
  have q : (md + (1 : Int32)).toInt = md.toInt + 1 := by omega
  rw [Int64.lt_iff_toInt_lt, c_i2l] at hc
  refine ⟨q, by omega, by omega, h3, fun z z1 z2 => ?_, h5⟩
  have := hs z md.toInt.toNat (by omega) (by omega)
  omega
theorem own_dn (fa : Nat → Int32) (v : Int64) (f t : Int) (lw hg md : Int32) (hs : own_sorted fa) (h0 : 0 ≤ f) (ht : t ≤ 5) (h : own_inv fa v f t lw.toInt hg.toInt) (hm : lw.toInt ≤ md.toInt ∧ md.toInt < hg.toInt) (hc : ¬ ((fa md.toInt.toNat).toInt64 < v)) : own_inv fa v f t lw.toInt md.toInt := by
  obtain ⟨h1, h2, h3, h4, h5⟩ := h
  rw [Int64.lt_iff_toInt_lt, c_i2l] at hc
  refine ⟨h1, by omega, by omega, h4, fun z z1 z2 => ?_⟩
  have := hs md.toInt.toNat z (by omega) (by omega)
  omega
/-- what the picks down to i have found -/
def own_found (fa : Nat → Int32) (v : Int64) (f t : Int) (i : Nat) (e : Int) : Prop := (e = t ∧ ∀ z : Nat, i ≤ z → f ≤ (z : Int) → (z : Int) < t → (fa z).toInt < v.toInt) ∨ ((i : Int) ≤ e ∧ f ≤ e ∧ e < t ∧ (∀ z : Nat, (z : Int) = e → v.toInt ≤ (fa z).toInt) ∧ ∀ z : Nat, i ≤ z → (z : Int) < e → f ≤ (z : Int) → (fa z).toInt < v.toInt)
theorem own_pk (fa : Nat → Int32) (v : Int64) (f t : Int32) (i : Nat) (j c : Int32) (hj : j.toInt = (i : Int)) (h : own_found fa v f.toInt t.toInt (i + 1) c.toInt) : own_found fa v f.toInt t.toInt i (own_pick (fa i) j f t v c).toInt := by
  unfold own_pick
  by_cases h1 : j < f
  · rw [if_pos h1]
    rw [Int32.lt_iff_toInt_lt] at h1
    rcases h with ⟨a, b⟩ | ⟨a, b, c1, d, e⟩
    · exact Or.inl ⟨a, fun z z1 z2 z3 => b z (by omega) z2 z3⟩
    · exact Or.inr ⟨by omega, b, c1, d, fun z z1 z2 z3 => e z (by omega) z2 z3⟩
  · rw [if_neg h1]
    rw [Int32.lt_iff_toInt_lt] at h1
    by_cases h2 : j < t
    · rw [if_pos h2]
      rw [Int32.lt_iff_toInt_lt] at h2
      by_cases h3 : (fa i).toInt64 < v
      · rw [if_pos h3]
        rw [Int64.lt_iff_toInt_lt, c_i2l] at h3
        have key : ∀ z : Nat, i ≤ z → ¬ i + 1 ≤ z → (fa z).toInt < v.toInt := fun z z1 z2 => by
          have : z = i := by omega
          rw [this]; exact h3
        rcases h with ⟨a, b⟩ | ⟨a, b, c1, d, e⟩
        · exact Or.inl ⟨a, fun z z1 z2 z3 => if q : i + 1 ≤ z then b z q z2 z3 else key z z1 q⟩
        · exact Or.inr ⟨by omega, b, c1, d, fun z z1 z2 z3 => if q : i + 1 ≤ z then e z q z2 z3 else key z z1 q⟩
      · rw [if_neg h3]
        rw [Int64.lt_iff_toInt_lt, c_i2l] at h3
        refine Or.inr ⟨by omega, by omega, by omega, fun z hz => ?_, fun z z1 z2 z3 => by omega⟩
        have : z = i := by omega
        rw [this]; omega
    · rw [if_neg h2]
      rw [Int32.lt_iff_toInt_lt] at h2
      rcases h with ⟨a, b⟩ | ⟨a, b, c1, d, e⟩
      · exact Or.inl ⟨a, fun z z1 z2 z3 => b z (by omega) z2 z3⟩
      · exact Or.inr ⟨by omega, b, c1, d, fun z z1 z2 z3 => e z (by omega) z2 z3⟩
theorem own_law (fa : Nat → Int32) (v : Int64) (f t : Int32) (r e : Int32) (h0 : 0 ≤ f.toInt) (ht : t.toInt ≤ 5) (hr : own_inv fa v f.toInt t.toInt r.toInt r.toInt) (he : own_found fa v f.toInt t.toInt 0 e.toInt) : r = e := by
  obtain ⟨h1, h2, h3, h4, h5⟩ := hr
  apply Int32.toInt_inj.mp
  rcases he with ⟨a, b⟩ | ⟨a, b, c1, d, q⟩
  · rcases Int.lt_or_le r.toInt t.toInt with z | z
    · have y1 := b r.toInt.toNat (by omega) (by omega) (by omega)
      have y2 := h5 r.toInt.toNat (by omega) (by omega)
      omega
    · omega
  · rcases Int.lt_trichotomy r.toInt e.toInt with z | z | z
    · have y1 := q r.toInt.toNat (by omega) (by omega) (by omega)
      have y2 := h5 r.toInt.toNat (by omega) (by omega)
      omega
    · exact z
    · have y1 := h4 e.toInt.toNat (by omega) (by omega)
      have y2 := d e.toInt.toNat (by omega)
      omega
theorem d2_0 : decode jdk_29_method_70_code 0 = .ok (.lload_n 0, 1) := by decide +kernel
theorem d2_1 : decode jdk_29_method_70_code 1 = .ok (.lload_n 2, 1) := by decide +kernel
theorem d2_2 : decode jdk_29_method_70_code 2 = .ok (.lcmp, 1) := by decide +kernel
theorem d2_3 : decode jdk_29_method_70_code 3 = .ok (.ifCond .gt 7, 3) := by decide +kernel
theorem d2_6 : decode jdk_29_method_70_code 6 = .ok (.lload_n 0, 1) := by decide +kernel
theorem d2_7 : decode jdk_29_method_70_code 7 = .ok (.goto 4, 3) := by decide +kernel
theorem d2_10 : decode jdk_29_method_70_code 10 = .ok (.lload_n 2, 1) := by decide +kernel
theorem d2_11 : decode jdk_29_method_70_code 11 = .ok (.lreturn, 1) := by decide +kernel
theorem ef_2 (m : MethodId) (xa : Int64) (xb : Int64) : entryFrame m #[(.long xa), (.long xb)] 4 = mkF m 0 #[.val (.long xa), .second, .val (.long xb), .second] [] := by first | (simp [entryFrame, mkF, argsToLocals, Value.category]; done) | rfl
def Q2 (Z : State) (xa : Int64) (xb : Int64)  (h0 : Heap) (n0 : Nat) (v : Option Value) (h : Heap) (L : List Loc) : Prop := v = some (.long (own_lmin xa xb)) ∧ Fr n0 L ∧ h = h0
set_option maxRecDepth 65536 in
set_option maxHeartbeats 40000000 in
theorem rm2 (l : Launch) (Z : State) (a0 : Array Value) (hw : ∀ d ∈ tables_1, d.before a0 Z = true) (ws : List Jvm.Cond) (xa : Int64) (xb : Int64)  (h0 : Heap) (n0 : Nat) (Z0 : n0 ≤ h0.size)  :
    MetFree l (⟨"java/lang/Math", "min", "(JJ)J"⟩ : MethodName) (head1 (Jvm.Cond.code (⟨"java/lang/Math", "min", "(JJ)J"⟩ : MethodName) jdk_29_method_70_code 4 (some .long) :: ws) ({ frames := 0, cells := 0, slots := 0, locals := 0 } : Room)) (fun avs U => avs = #[(.long xa), (.long xb)] ∧ Z.Warmed39 U.vm ∧ U.heap = h0) (fun _ _ _ _ _ => True) (fun _ U o U' => ∃ v L, o = .returned v ∧ Q2 Z xa xb h0 n0 v U'.heap L ∧ FrameEnd U o U' L ({ frames := 0, cells := 0, slots := 0, locals := 0 } : Room).cells ({ frames := 0, cells := 0, slots := 0, locals := 0 } : Room).slots) := by
  refine MetFree.of_bodySF (Jvm.Free.JP.mathPlain rfl (by decide +kernel)) hisR ?_
  intro p e s m args below meth c s₁ Bd hml0 hP hK
  obtain ⟨rfl, hZ, hh⟩ := hP
  have hx := Bd.exec
  have hby := Bd.bytes
  have hml : c.maxLocals = 4 := hml0
  have hown : s.vm.findClass "java/lang/Math" = some m.cls := findClass_of_methodNamed Bd.named
  have hnm := (name_of_methodNamed Bd.named Bd.method).1
  have hlk := Bd.notSynchronized
  have hret := Bd.returns
  have X0 : Stand p l e ({ frames := 0, cells := 0, slots := 0, locals := 0 } : Room) s m #[(.long xa), (.long xb)] below meth c s₁ [] 0 0 := Stand.of_body Bd
  have e0 : s₁.heap = h0 := by rw [← hh, Bd.state]; rfl
  have N0 := Fr.nil n0
  show own_W p e (FrameEnd s) below ({ frames := 0, cells := 0, slots := 0, locals := 0 } : Room).cells ({ frames := 0, cells := 0, slots := 0, locals := 0 } : Room).slots (Q2 Z xa xb h0 n0) s₁ (entryFrame m #[(.long xa), (.long xb)] 4)
  rw [ef_2]
  refine own_lloadN X0 hx (hb hby d2_0) (v := xa) rfl (rfl : 0 + 1 = 1) ?_
  refine own_lloadN X0 hx (hb hby d2_1) (v := xb) rfl (rfl : 1 + 1 = 2) ?_
  refine own_lcmp X0 hx (hb hby d2_2) (rfl : 2 + 1 = 3) ?_
  by_cases hc3 : xb < xa
  · skip
    refine own_ifYes X0 hx (hb hby d2_3) (XT.ll_gt_t hc3) (pc' := 10) (by decide) (by decide) ?_
    refine own_lloadN X0 hx (hb hby d2_10) (v := xb) rfl (rfl : 10 + 1 = 11) ?_
    refine own_retJ X0 hx hlk hret (hb hby d2_11) (by decide) (by decide) ?_
    show Q2 Z xa xb h0 n0 (some (.long xb)) s₁.heap _
    rw [e0]
    exact ⟨by simp only [own_lmin, if_pos hc3], N0, rfl⟩
  · skip
    refine own_ifNo X0 hx (hb hby d2_3) (XT.ll_gt_f hc3) (rfl : 3 + 3 = 6) ?_
    refine own_lloadN X0 hx (hb hby d2_6) (v := xa) rfl (rfl : 6 + 1 = 7) ?_
    refine own_goto X0 hx (hb hby d2_7) (pc' := 11) (by decide) (by decide) ?_
    refine own_retJ X0 hx hlk hret (hb hby d2_11) (by decide) (by decide) ?_
    show Q2 Z xa xb h0 n0 (some (.long xa)) s₁.heap _
    rw [e0]
    exact ⟨by simp only [own_lmin, if_neg hc3], N0, rfl⟩
theorem d3_0 : decode jdk_29_method_69_code 0 = .ok (.iload_n 0, 1) := by decide +kernel
theorem d3_1 : decode jdk_29_method_69_code 1 = .ok (.iload_n 1, 1) := by decide +kernel
theorem d3_2 : decode jdk_29_method_69_code 2 = .ok (.if_icmp .gt 7, 3) := by decide +kernel
theorem d3_5 : decode jdk_29_method_69_code 5 = .ok (.iload_n 0, 1) := by decide +kernel
theorem d3_6 : decode jdk_29_method_69_code 6 = .ok (.goto 4, 3) := by decide +kernel
theorem d3_9 : decode jdk_29_method_69_code 9 = .ok (.iload_n 1, 1) := by decide +kernel
theorem d3_10 : decode jdk_29_method_69_code 10 = .ok (.ireturn, 1) := by decide +kernel
theorem ef_3 (m : MethodId) (xa : Int32) (xb : Int32) : entryFrame m #[(.int xa), (.int xb)] 2 = mkF m 0 #[.val (.int xa), .val (.int xb)] [] := by first | (simp [entryFrame, mkF, argsToLocals, Value.category]; done) | rfl
def Q3 (Z : State) (xa : Int32) (xb : Int32)  (h0 : Heap) (n0 : Nat) (v : Option Value) (h : Heap) (L : List Loc) : Prop := v = some (.int (own_imin xa xb)) ∧ Fr n0 L ∧ h = h0
set_option maxRecDepth 65536 in
set_option maxHeartbeats 40000000 in
theorem rm3 (l : Launch) (Z : State) (a0 : Array Value) (hw : ∀ d ∈ tables_1, d.before a0 Z = true) (ws : List Jvm.Cond) (xa : Int32) (xb : Int32)  (h0 : Heap) (n0 : Nat) (Z0 : n0 ≤ h0.size)  :
    MetFree l (⟨"java/lang/Math", "min", "(II)I"⟩ : MethodName) (head1 (Jvm.Cond.code (⟨"java/lang/Math", "min", "(II)I"⟩ : MethodName) jdk_29_method_69_code 2 (some .int) :: ws) ({ frames := 0, cells := 0, slots := 0, locals := 0 } : Room)) (fun avs U => avs = #[(.int xa), (.int xb)] ∧ Z.Warmed39 U.vm ∧ U.heap = h0) (fun _ _ _ _ _ => True) (fun _ U o U' => ∃ v L, o = .returned v ∧ Q3 Z xa xb h0 n0 v U'.heap L ∧ FrameEnd U o U' L ({ frames := 0, cells := 0, slots := 0, locals := 0 } : Room).cells ({ frames := 0, cells := 0, slots := 0, locals := 0 } : Room).slots) := by
  refine MetFree.of_bodySF (Jvm.Free.JP.mathPlain rfl (by decide +kernel)) hisR ?_
  intro p e s m args below meth c s₁ Bd hml0 hP hK
  obtain ⟨rfl, hZ, hh⟩ := hP
  have hx := Bd.exec
  have hby := Bd.bytes
  have hml : c.maxLocals = 2 := hml0
  have hown : s.vm.findClass "java/lang/Math" = some m.cls := findClass_of_methodNamed Bd.named
  have hnm := (name_of_methodNamed Bd.named Bd.method).1
  have hlk := Bd.notSynchronized
  have hret := Bd.returns
  have X0 : Stand p l e ({ frames := 0, cells := 0, slots := 0, locals := 0 } : Room) s m #[(.int xa), (.int xb)] below meth c s₁ [] 0 0 := Stand.of_body Bd
  have e0 : s₁.heap = h0 := by rw [← hh, Bd.state]; rfl
  have N0 := Fr.nil n0
  show own_W p e (FrameEnd s) below ({ frames := 0, cells := 0, slots := 0, locals := 0 } : Room).cells ({ frames := 0, cells := 0, slots := 0, locals := 0 } : Room).slots (Q3 Z xa xb h0 n0) s₁ (entryFrame m #[(.int xa), (.int xb)] 2)
  rw [ef_3]
  refine own_iloadN X0 hx (hb hby d3_0) (v := xa) rfl (rfl : 0 + 1 = 1) ?_
  refine own_iloadN X0 hx (hb hby d3_1) (v := xb) rfl (rfl : 1 + 1 = 2) ?_
  by_cases hc2 : xb < xa
  · skip
    refine own_icmpYes X0 hx (hb hby d3_2) (tlt hc2).2.2.1 (pc' := 9) (by decide) (by decide) ?_
    refine own_iloadN X0 hx (hb hby d3_9) (v := xb) rfl (rfl : 9 + 1 = 10) ?_
    refine own_retI X0 hx hlk hret (hb hby d3_10) (by decide) (by decide) ?_
    show Q3 Z xa xb h0 n0 (some (.int xb)) s₁.heap _
    rw [e0]
    exact ⟨by simp only [own_imin, if_pos hc2], N0, rfl⟩
  · skip
    refine own_icmpNo X0 hx (hb hby d3_2) (flt hc2).2.2.1 (rfl : 2 + 3 = 5) ?_
    refine own_iloadN X0 hx (hb hby d3_5) (v := xa) rfl (rfl : 5 + 1 = 6) ?_
    refine own_goto X0 hx (hb hby d3_6) (pc' := 10) (by decide) (by decide) ?_
    refine own_retI X0 hx hlk hret (hb hby d3_10) (by decide) (by decide) ?_
    show Q3 Z xa xb h0 n0 (some (.int xa)) s₁.heap _
    rw [e0]
    exact ⟨by simp only [own_imin, if_neg hc2], N0, rfl⟩
theorem d4_0 : decode jdk_29_method_65_code 0 = .ok (.iload_n 0, 1) := by decide +kernel
theorem d4_1 : decode jdk_29_method_65_code 1 = .ok (.iload_n 1, 1) := by decide +kernel
theorem d4_2 : decode jdk_29_method_65_code 2 = .ok (.if_icmp .lt 7, 3) := by decide +kernel
theorem d4_5 : decode jdk_29_method_65_code 5 = .ok (.iload_n 0, 1) := by decide +kernel
theorem d4_6 : decode jdk_29_method_65_code 6 = .ok (.goto 4, 3) := by decide +kernel
theorem d4_9 : decode jdk_29_method_65_code 9 = .ok (.iload_n 1, 1) := by decide +kernel
theorem d4_10 : decode jdk_29_method_65_code 10 = .ok (.ireturn, 1) := by decide +kernel
theorem ef_4 (m : MethodId) (xa : Int32) (xb : Int32) : entryFrame m #[(.int xa), (.int xb)] 2 = mkF m 0 #[.val (.int xa), .val (.int xb)] [] := by first | (simp [entryFrame, mkF, argsToLocals, Value.category]; done) | rfl
def Q4 (Z : State) (xa : Int32) (xb : Int32)  (h0 : Heap) (n0 : Nat) (v : Option Value) (h : Heap) (L : List Loc) : Prop := v = some (.int (own_imax xa xb)) ∧ Fr n0 L ∧ h = h0
set_option maxRecDepth 65536 in
set_option maxHeartbeats 40000000 in
theorem rm4 (l : Launch) (Z : State) (a0 : Array Value) (hw : ∀ d ∈ tables_1, d.before a0 Z = true) (ws : List Jvm.Cond) (xa : Int32) (xb : Int32)  (h0 : Heap) (n0 : Nat) (Z0 : n0 ≤ h0.size)  :
    MetFree l (⟨"java/lang/Math", "max", "(II)I"⟩ : MethodName) (head1 (Jvm.Cond.code (⟨"java/lang/Math", "max", "(II)I"⟩ : MethodName) jdk_29_method_65_code 2 (some .int) :: ws) ({ frames := 0, cells := 0, slots := 0, locals := 0 } : Room)) (fun avs U => avs = #[(.int xa), (.int xb)] ∧ Z.Warmed39 U.vm ∧ U.heap = h0) (fun _ _ _ _ _ => True) (fun _ U o U' => ∃ v L, o = .returned v ∧ Q4 Z xa xb h0 n0 v U'.heap L ∧ FrameEnd U o U' L ({ frames := 0, cells := 0, slots := 0, locals := 0 } : Room).cells ({ frames := 0, cells := 0, slots := 0, locals := 0 } : Room).slots) := by
  refine MetFree.of_bodySF (Jvm.Free.JP.mathPlain rfl (by decide +kernel)) hisR ?_
  intro p e s m args below meth c s₁ Bd hml0 hP hK
  obtain ⟨rfl, hZ, hh⟩ := hP
  have hx := Bd.exec
  have hby := Bd.bytes
  have hml : c.maxLocals = 2 := hml0
  have hown : s.vm.findClass "java/lang/Math" = some m.cls := findClass_of_methodNamed Bd.named
  have hnm := (name_of_methodNamed Bd.named Bd.method).1
  have hlk := Bd.notSynchronized
  have hret := Bd.returns
  have X0 : Stand p l e ({ frames := 0, cells := 0, slots := 0, locals := 0 } : Room) s m #[(.int xa), (.int xb)] below meth c s₁ [] 0 0 := Stand.of_body Bd
  have e0 : s₁.heap = h0 := by rw [← hh, Bd.state]; rfl
  have N0 := Fr.nil n0
  show own_W p e (FrameEnd s) below ({ frames := 0, cells := 0, slots := 0, locals := 0 } : Room).cells ({ frames := 0, cells := 0, slots := 0, locals := 0 } : Room).slots (Q4 Z xa xb h0 n0) s₁ (entryFrame m #[(.int xa), (.int xb)] 2)
  rw [ef_4]
  refine own_iloadN X0 hx (hb hby d4_0) (v := xa) rfl (rfl : 0 + 1 = 1) ?_
  refine own_iloadN X0 hx (hb hby d4_1) (v := xb) rfl (rfl : 1 + 1 = 2) ?_
  by_cases hc2 : xa < xb
  · skip
    refine own_icmpYes X0 hx (hb hby d4_2) (tlt hc2).1 (pc' := 9) (by decide) (by decide) ?_
    refine own_iloadN X0 hx (hb hby d4_9) (v := xb) rfl (rfl : 9 + 1 = 10) ?_
    refine own_retI X0 hx hlk hret (hb hby d4_10) (by decide) (by decide) ?_
    show Q4 Z xa xb h0 n0 (some (.int xb)) s₁.heap _
    rw [e0]
    exact ⟨by simp only [own_imax, if_pos hc2], N0, rfl⟩
  · skip
    refine own_icmpNo X0 hx (hb hby d4_2) (flt hc2).1 (rfl : 2 + 3 = 5) ?_
    refine own_iloadN X0 hx (hb hby d4_5) (v := xa) rfl (rfl : 5 + 1 = 6) ?_
    refine own_goto X0 hx (hb hby d4_6) (pc' := 10) (by decide) (by decide) ?_
    refine own_retI X0 hx hlk hret (hb hby d4_10) (by decide) (by decide) ?_
    show Q4 Z xa xb h0 n0 (some (.int xa)) s₁.heap _
    rw [e0]
    exact ⟨by simp only [own_imax, if_neg hc2], N0, rfl⟩
theorem own_pd__JJ_J : parseMethodDescriptor "(JJ)J" = some ⟨[.long, .long], some .long⟩ := by decide +kernel
theorem d1_0 : decode method_3_code 0 = .ok (.lload_n 1, 1) := by decide +kernel
theorem d1_1 : decode method_3_code 1 = .ok (.bipush 16, 2) := by decide +kernel
theorem d1_3 : decode method_3_code 3 = .ok (.iload 4, 2) := by decide +kernel
theorem d1_5 : decode method_3_code 5 = .ok (.imul, 1) := by decide +kernel
theorem d1_6 : decode method_3_code 6 = .ok (.lushr, 1) := by decide +kernel
theorem d1_7 : decode method_3_code 7 = .ok (.ldc2_w 33, 3) := by decide +kernel
theorem d1_10 : decode method_3_code 10 = .ok (.land, 1) := by decide +kernel
theorem d1_11 : decode method_3_code 11 = .ok (.iload_n 3, 1) := by decide +kernel
theorem d1_12 : decode method_3_code 12 = .ok (.iconst 5, 1) := by decide +kernel
theorem d1_13 : decode method_3_code 13 = .ok (.iload 4, 2) := by decide +kernel
theorem d1_15 : decode method_3_code 15 = .ok (.imul, 1) := by decide +kernel
theorem d1_16 : decode method_3_code 16 = .ok (.iushr, 1) := by decide +kernel
theorem d1_17 : decode method_3_code 17 = .ok (.bipush 15, 2) := by decide +kernel
theorem d1_19 : decode method_3_code 19 = .ok (.iand, 1) := by decide +kernel
theorem d1_20 : decode method_3_code 20 = .ok (.lshl, 1) := by decide +kernel
theorem d1_21 : decode method_3_code 21 = .ok (.lstore 5, 2) := by decide +kernel
theorem d1_23 : decode method_3_code 23 = .ok (.ldc2_w 37, 3) := by decide +kernel
theorem d1_26 : decode method_3_code 26 = .ok (.iload_n 0, 1) := by decide +kernel
theorem d1_27 : decode method_3_code 27 = .ok (.i2l, 1) := by decide +kernel
theorem d1_28 : decode method_3_code 28 = .ok (.lload 5, 2) := by decide +kernel
theorem d1_30 : decode method_3_code 30 = .ok (.ladd, 1) := by decide +kernel
theorem d1_31 : decode method_3_code 31 = .ok (.invokestatic 39, 3) := by decide +kernel
theorem d1_34 : decode method_3_code 34 = .ok (.l2i, 1) := by decide +kernel
theorem d1_35 : decode method_3_code 35 = .ok (.ireturn, 1) := by decide +kernel
theorem own_pn_com_example_linkwise_linkwise_graph_LinkGraphFirstAtOrAfterPinLaw : plainName "com/example/linkwise/linkwise/graph/LinkGraphFirstAtOrAfterPinLaw" = true := by first | (simp [plainName, overriddenIn]; done) | decide +kernel
theorem ef_1 (m : MethodId) (pq : Int32) (qd : Int64) (ps : Int32) (pi : Int32) : entryFrame m #[(.int pq), (.long qd), (.int ps), (.int pi)] 7 = mkF m 0 #[.val (.int pq), .val (.long qd), .second, .val (.int ps), .val (.int pi), .unset, .unset] [] := by first | (simp [entryFrame, mkF, argsToLocals, Value.category]; done) | rfl
def Q1 (Z : State) (pq : Int32) (qd : Int64) (ps : Int32) (pi : Int32)  (h0 : Heap) (n0 : Nat) (v : Option Value) (h : Heap) (L : List Loc) : Prop := v = some (.int (own_next pq qd ps pi)) ∧ Fr n0 L ∧ h = h0
set_option maxRecDepth 65536 in
set_option maxHeartbeats 40000000 in
theorem rm1 (l : Launch) (Z : State) (a0 : Array Value) (hw : ∀ d ∈ tables_1, d.before a0 Z = true) (ws : List Jvm.Cond) (pq : Int32) (qd : Int64) (ps : Int32) (pi : Int32)  (h0 : Heap) (n0 : Nat) (Z0 : n0 ≤ h0.size)  :
    MetFree l (⟨"com/example/linkwise/linkwise/graph/LinkGraphFirstAtOrAfterPinLaw", "next", "(IJII)I"⟩ : MethodName) (head1 (Jvm.Cond.code (⟨"com/example/linkwise/linkwise/graph/LinkGraphFirstAtOrAfterPinLaw", "next", "(IJII)I"⟩ : MethodName) method_3_code 7 (some .int) :: ws) ({ frames := 1, cells := 0, slots := 0, locals := 15 } : Room)) (fun avs U => avs = #[(.int pq), (.long qd), (.int ps), (.int pi)] ∧ Z.Warmed39 U.vm ∧ U.heap = h0) (fun _ _ _ _ _ => True) (fun _ U o U' => ∃ v L, o = .returned v ∧ Q1 Z pq qd ps pi h0 n0 v U'.heap L ∧ FrameEnd U o U' L ({ frames := 1, cells := 0, slots := 0, locals := 15 } : Room).cells ({ frames := 1, cells := 0, slots := 0, locals := 15 } : Room).slots) := by
  refine MetFree.of_bodySF (plainFor_of_name own_pn_com_example_linkwise_linkwise_graph_LinkGraphFirstAtOrAfterPinLaw) hisR ?_
  intro p e s m args below meth c s₁ Bd hml0 hP hK
  obtain ⟨rfl, hZ, hh⟩ := hP
  have hx := Bd.exec
  have hby := Bd.bytes
  have hml : c.maxLocals = 7 := hml0
  have hown : s.vm.findClass "com/example/linkwise/linkwise/graph/LinkGraphFirstAtOrAfterPinLaw" = some m.cls := findClass_of_methodNamed Bd.named
  have hnm := (name_of_methodNamed Bd.named Bd.method).1
  have hlk := Bd.notSynchronized
  have hret := Bd.returns
  have X0 : Stand p l e ({ frames := 1, cells := 0, slots := 0, locals := 15 } : Room) s m #[(.int pq), (.long qd), (.int ps), (.int pi)] below meth c s₁ [] 0 0 := Stand.of_body Bd
  have e0 : s₁.heap = h0 := by rw [← hh, Bd.state]; rfl
  have N0 := Fr.nil n0
  show own_W p e (FrameEnd s) below ({ frames := 1, cells := 0, slots := 0, locals := 15 } : Room).cells ({ frames := 1, cells := 0, slots := 0, locals := 15 } : Room).slots (Q1 Z pq qd ps pi h0 n0) s₁ (entryFrame m #[(.int pq), (.long qd), (.int ps), (.int pi)] 7)
  rw [ef_1]
  refine own_lloadN X0 hx (hb hby d1_0) (v := qd) rfl (rfl : 0 + 1 = 1) ?_
  refine own_bipush X0 hx (hb hby d1_1) (16 : Int32) (by first | rfl | decide) (rfl : 1 + 2 = 3) ?_
  refine own_iload X0 hx (hb hby d1_3) (v := pi) rfl (rfl : 3 + 2 = 5) ?_
  refine own_imul X0 hx (hb hby d1_5) (rfl : 5 + 1 = 6) ?_
  refine own_lushr X0 hx (hb hby d1_6) (rfl : 6 + 1 = 7) ?_
  refine own_ldc2Long X0 hx hown (mvT hZ (hw _ (List.mem_of_getElem? (i := 5) rfl))) (hb hby d1_7) (rfl : 7 + 3 = 10) ?_
  refine own_land X0 hx (hb hby d1_10) (rfl : 10 + 1 = 11) ?_
  refine own_iloadN X0 hx (hb hby d1_11) (v := ps) rfl (rfl : 11 + 1 = 12) ?_
  refine own_iconst X0 hx (hb hby d1_12) (5 : Int32) (by first | rfl | decide) (rfl : 12 + 1 = 13) ?_
  refine own_iload X0 hx (hb hby d1_13) (v := pi) rfl (rfl : 13 + 2 = 15) ?_
  refine own_imul X0 hx (hb hby d1_15) (rfl : 15 + 1 = 16) ?_
  refine own_iushr X0 hx (hb hby d1_16) (rfl : 16 + 1 = 17) ?_
  refine own_bipush X0 hx (hb hby d1_17) (15 : Int32) (by first | rfl | decide) (rfl : 17 + 2 = 19) ?_
  refine own_iand X0 hx (hb hby d1_19) (rfl : 19 + 1 = 20) ?_
  refine own_lshl X0 hx (hb hby d1_20) (rfl : 20 + 1 = 21) ?_
  refine own_lstore X0 hx (hb hby d1_21) (l' := #[.val (.int pq), .val (.long qd), .second, .val (.int ps), .val (.int pi), .val (.long ((((qd.toUInt64 >>> (((16 : Int32) * pi) &&& 0x3f).toInt64.toUInt64).toInt64) &&& (65535 : Int64)) <<< ((((ps.toUInt32 >>> (((5 : Int32) * pi) &&& 31).toUInt32).toInt32) &&& (15 : Int32)) &&& 0x3f).toInt64)), .second]) rfl (rfl : 21 + 2 = 23) ?_
  refine own_ldc2Long X0 hx hown (mvT hZ (hw _ (List.mem_of_getElem? (i := 6) rfl))) (hb hby d1_23) (rfl : 23 + 3 = 26) ?_
  refine own_iloadN X0 hx (hb hby d1_26) (v := pq) rfl (rfl : 26 + 1 = 27) ?_
  refine own_i2l X0 hx (hb hby d1_27) (rfl : 27 + 1 = 28) ?_
  refine own_lload X0 hx (hb hby d1_28) (v := ((((qd.toUInt64 >>> (((16 : Int32) * pi) &&& 0x3f).toInt64.toUInt64).toInt64) &&& (65535 : Int64)) <<< ((((ps.toUInt32 >>> (((5 : Int32) * pi) &&& 31).toUInt32).toInt32) &&& (15 : Int32)) &&& 0x3f).toInt64)) rfl (rfl : 28 + 2 = 30) ?_
  refine own_ladd X0 hx (hb hby d1_30) (rfl : 30 + 1 = 31) ?_
  obtain ⟨_, _, ⟨T1, L1, k1, n1⟩, -, X1, ⟨Lc1, hQ1, l1, y1, z1⟩, st1⟩ := Jvm.LawKit.callS X0 hx (y := (⟨"java/lang/Math", "min", "(JJ)J"⟩ : MethodName)) hown (mvT hZ (hw _ (List.mem_of_getElem? (i := 7) rfl))) (mvT hZ (hw _ (List.mem_of_getElem? (i := 8) rfl))) (mvT hZ (hw _ (List.mem_of_getElem? (i := 9) rfl))) (mvT hZ (hw _ (List.mem_of_getElem? (i := 10) rfl))) (by decide) (backOf (W := 0) (rm2 l Z a0 hw [] (2147483647 : Int64) ((pq.toInt64) + ((((qd.toUInt64 >>> (((16 : Int32) * pi) &&& 0x3f).toInt64.toUInt64).toInt64) &&& (65535 : Int64)) <<< ((((ps.toUInt32 >>> (((5 : Int32) * pi) &&& 31).toUInt32).toInt32) &&& (15 : Int32)) &&& 0x3f).toInt64))  h0 n0 Z0 ) hZ (hw _ (List.mem_of_getElem? (i := 10) rfl)) (hw _ (List.mem_of_getElem? (i := 9) rfl)) (by decide) (by decide)) (g := (mkF m 31 #[.val (.int pq), .val (.long qd), .second, .val (.int ps), .val (.int pi), .val (.long ((((qd.toUInt64 >>> (((16 : Int32) * pi) &&& 0x3f).toInt64.toUInt64).toInt64) &&& (65535 : Int64)) <<< ((((ps.toUInt32 >>> (((5 : Int32) * pi) &&& 31).toUInt32).toInt32) &&& (15 : Int32)) &&& 0x3f).toInt64)), .second] [(.long ((pq.toInt64) + ((((qd.toUInt64 >>> (((16 : Int32) * pi) &&& 0x3f).toInt64.toUInt64).toInt64) &&& (65535 : Int64)) <<< ((((ps.toUInt32 >>> (((5 : Int32) * pi) &&& 31).toUInt32).toInt32) &&& (15 : Int32)) &&& 0x3f).toInt64))), (.long (2147483647 : Int64))])) rfl (by rw [hml]; rfl) (argsL := [(.long (2147483647 : Int64)), (.long ((pq.toInt64) + ((((qd.toUInt64 >>> (((16 : Int32) * pi) &&& 0x3f).toInt64.toUInt64).toInt64) &&& (65535 : Int64)) <<< ((((ps.toUInt32 >>> (((5 : Int32) * pi) &&& 31).toUInt32).toInt32) &&& (15 : Int32)) &&& 0x3f).toInt64)))]) (rest := []) (lenOf own_pd__JJ_J rfl) rfl (by show 2 * 0 + _ ≤ _; exact Nat.le_of_eq rfl) (hb hby d1_31) (fun _ _ => ⟨rfl, e0, (by decide : 0 + 0 ≤ _), (by decide : 0 + 0 ≤ _)⟩)
  dsimp only [Pt.U, Pt.locs, Pt.cells, Pt.slots] at X1 l1 y1 z1 st1 hQ1
  subst l1 y1 z1
  obtain ⟨rfl, N1q, e1⟩ := hQ1
  have N1 := Fr.app N0 N1q
  refine own_W.step st1 ?_
  show own_W p e (FrameEnd s) below ({ frames := 1, cells := 0, slots := 0, locals := 15 } : Room).cells ({ frames := 1, cells := 0, slots := 0, locals := 15 } : Room).slots (Q1 Z pq qd ps pi h0 n0) T1 (mkF m 34 #[.val (.int pq), .val (.long qd), .second, .val (.int ps), .val (.int pi), .val (.long ((((qd.toUInt64 >>> (((16 : Int32) * pi) &&& 0x3f).toInt64.toUInt64).toInt64) &&& (65535 : Int64)) <<< ((((ps.toUInt32 >>> (((5 : Int32) * pi) &&& 31).toUInt32).toInt32) &&& (15 : Int32)) &&& 0x3f).toInt64)), .second] [(.long (own_lmin (2147483647 : Int64) ((pq.toInt64) + ((((qd.toUInt64 >>> (((16 : Int32) * pi) &&& 0x3f).toInt64.toUInt64).toInt64) &&& (65535 : Int64)) <<< ((((ps.toUInt32 >>> (((5 : Int32) * pi) &&& 31).toUInt32).toInt32) &&& (15 : Int32)) &&& 0x3f).toInt64))))])
  refine own_l2i X1 hx (hb hby d1_34) (rfl : 34 + 1 = 35) ?_
  refine own_retI X1 hx hlk hret (hb hby d1_35) (by decide) (by decide) ?_
  show Q1 Z pq qd ps pi h0 n0 (some (.int ((own_lmin (2147483647 : Int64) ((pq.toInt64) + ((((qd.toUInt64 >>> (((16 : Int32) * pi) &&& 0x3f).toInt64.toUInt64).toInt64) &&& (65535 : Int64)) <<< ((((ps.toUInt32 >>> (((5 : Int32) * pi) &&& 31).toUInt32).toInt32) &&& (15 : Int32)) &&& 0x3f).toInt64))).toInt32))) T1.heap _
  rw [e1]
  exact ⟨rfl, N1, rfl⟩
theorem d5_0 : decode method_4_code 0 = .ok (.iload_n 2, 1) := by decide +kernel
theorem d5_1 : decode method_4_code 1 = .ok (.iload_n 1, 1) := by decide +kernel
theorem d5_2 : decode method_4_code 2 = .ok (.if_icmp .gt 20, 3) := by decide +kernel
theorem d5_5 : decode method_4_code 5 = .ok (.iload_n 1, 1) := by decide +kernel
theorem d5_6 : decode method_4_code 6 = .ok (.iload_n 3, 1) := by decide +kernel
theorem d5_7 : decode method_4_code 7 = .ok (.if_icmp .ge 15, 3) := by decide +kernel
theorem d5_10 : decode method_4_code 10 = .ok (.aload_n 0, 1) := by decide +kernel
theorem d5_11 : decode method_4_code 11 = .ok (.iload_n 1, 1) := by decide +kernel
theorem d5_12 : decode method_4_code 12 = .ok (.iaload, 1) := by decide +kernel
theorem d5_13 : decode method_4_code 13 = .ok (.i2l, 1) := by decide +kernel
theorem d5_14 : decode method_4_code 14 = .ok (.lload 4, 2) := by decide +kernel
theorem d5_16 : decode method_4_code 16 = .ok (.lcmp, 1) := by decide +kernel
theorem d5_17 : decode method_4_code 17 = .ok (.ifCond .lt 5, 3) := by decide +kernel
theorem d5_20 : decode method_4_code 20 = .ok (.iload_n 1, 1) := by decide +kernel
theorem d5_21 : decode method_4_code 21 = .ok (.ireturn, 1) := by decide +kernel
theorem d5_22 : decode method_4_code 22 = .ok (.iload 6, 2) := by decide +kernel
theorem d5_24 : decode method_4_code 24 = .ok (.ireturn, 1) := by decide +kernel
theorem ef_5 (m : MethodId) (ar : Addr) (p1 : Int32) (p2 : Int32) (p3 : Int32) (q4 : Int64) (p5 : Int32) : entryFrame m #[(.ref ar), (.int p1), (.int p2), (.int p3), (.long q4), (.int p5)] 7 = mkF m 0 #[.val (.ref ar), .val (.int p1), .val (.int p2), .val (.int p3), .val (.long q4), .second, .val (.int p5)] [] := by first | (simp [entryFrame, mkF, argsToLocals, Value.category]; done) | rfl
def Q5 (Z : State) (ar : Addr) (p1 : Int32) (p2 : Int32) (p3 : Int32) (q4 : Int64) (p5 : Int32) (fa : Nat → Int32) (iz : Nat) (h0 : Heap) (n0 : Nat) (v : Option Value) (h : Heap) (L : List Loc) : Prop := v = some (.int (own_pick (fa iz) p1 p2 p3 q4 p5)) ∧ Fr n0 L ∧ h = h0
set_option maxRecDepth 65536 in
set_option maxHeartbeats 40000000 in
theorem rm5 (l : Launch) (Z : State) (a0 : Array Value) (hw : ∀ d ∈ tables_1, d.before a0 Z = true) (ws : List Jvm.Cond) (ar : Addr) (p1 : Int32) (p2 : Int32) (p3 : Int32) (q4 : Int64) (p5 : Int32) (fa : Nat → Int32) (iz : Nat) (h0 : Heap) (n0 : Nat) (Z0 : n0 ≤ h0.size) (f_A_ar : own_A Z h0 ar .int (5) (fun z => .int (fa z))) (hin : own_In p1 iz 5) :
    MetFree l (⟨"com/example/linkwise/linkwise/graph/LinkGraphFirstAtOrAfterPinLaw", "pick", "([IIIIJI)I"⟩ : MethodName) (head1 (Jvm.Cond.code (⟨"com/example/linkwise/linkwise/graph/LinkGraphFirstAtOrAfterPinLaw", "pick", "([IIIIJI)I"⟩ : MethodName) method_4_code 7 (some .int) :: ws) ({ frames := 0, cells := 0, slots := 0, locals := 0 } : Room)) (fun avs U => avs = #[(.ref ar), (.int p1), (.int p2), (.int p3), (.long q4), (.int p5)] ∧ Z.Warmed39 U.vm ∧ U.heap = h0) (fun _ _ _ _ _ => True) (fun _ U o U' => ∃ v L, o = .returned v ∧ Q5 Z ar p1 p2 p3 q4 p5 fa iz h0 n0 v U'.heap L ∧ FrameEnd U o U' L ({ frames := 0, cells := 0, slots := 0, locals := 0 } : Room).cells ({ frames := 0, cells := 0, slots := 0, locals := 0 } : Room).slots) := by
  refine MetFree.of_bodySF (plainFor_of_name own_pn_com_example_linkwise_linkwise_graph_LinkGraphFirstAtOrAfterPinLaw) hisR ?_
  intro p e s m args below meth c s₁ Bd hml0 hP hK
  obtain ⟨rfl, hZ, hh⟩ := hP
  have hx := Bd.exec
  have hby := Bd.bytes
  have hml : c.maxLocals = 7 := hml0
  have hown : s.vm.findClass "com/example/linkwise/linkwise/graph/LinkGraphFirstAtOrAfterPinLaw" = some m.cls := findClass_of_methodNamed Bd.named
  have hnm := (name_of_methodNamed Bd.named Bd.method).1
  have hlk := Bd.notSynchronized
  have hret := Bd.returns
  have X0 : Stand p l e ({ frames := 0, cells := 0, slots := 0, locals := 0 } : Room) s m #[(.ref ar), (.int p1), (.int p2), (.int p3), (.long q4), (.int p5)] below meth c s₁ [] 0 0 := Stand.of_body Bd
  have e0 : s₁.heap = h0 := by rw [← hh, Bd.state]; rfl
  have N0 := Fr.nil n0
  show own_W p e (FrameEnd s) below ({ frames := 0, cells := 0, slots := 0, locals := 0 } : Room).cells ({ frames := 0, cells := 0, slots := 0, locals := 0 } : Room).slots (Q5 Z ar p1 p2 p3 q4 p5 fa iz h0 n0) s₁ (entryFrame m #[(.ref ar), (.int p1), (.int p2), (.int p3), (.long q4), (.int p5)] 7)
  rw [ef_5]
  refine own_iloadN X0 hx (hb hby d5_0) (v := p2) rfl (rfl : 0 + 1 = 1) ?_
  refine own_iloadN X0 hx (hb hby d5_1) (v := p1) rfl (rfl : 1 + 1 = 2) ?_
  by_cases hc2 : p1 < p2
  · skip
    refine own_icmpYes X0 hx (hb hby d5_2) (tlt hc2).2.2.1 (pc' := 22) (by decide) (by decide) ?_
    refine own_iload X0 hx (hb hby d5_22) (v := p5) rfl (rfl : 22 + 2 = 24) ?_
    refine own_retI X0 hx hlk hret (hb hby d5_24) (by decide) (by decide) ?_
    show Q5 Z ar p1 p2 p3 q4 p5 fa iz h0 n0 (some (.int p5)) s₁.heap _
    rw [e0]
    exact ⟨by simp only [own_pick, if_pos hc2], N0, rfl⟩
  · skip
    refine own_icmpNo X0 hx (hb hby d5_2) (flt hc2).2.2.1 (rfl : 2 + 3 = 5) ?_
    refine own_iloadN X0 hx (hb hby d5_5) (v := p1) rfl (rfl : 5 + 1 = 6) ?_
    refine own_iloadN X0 hx (hb hby d5_6) (v := p3) rfl (rfl : 6 + 1 = 7) ?_
    by_cases hc7 : p1 < p3
    · skip
      refine own_icmpNo X0 hx (hb hby d5_7) (tlt hc7).2.1 (rfl : 7 + 3 = 10) ?_
      refine own_aloadN X0 hx (hb hby d5_10) (v := (.ref ar)) rfl rfl (rfl : 10 + 1 = 11) ?_
      refine own_iloadN X0 hx (hb hby d5_11) (v := p1) rfl (rfl : 11 + 1 = 12) ?_
      have hi1 : own_In p1 (iz) (5) := hin
      refine own_iaload X0 hx hZ e0 f_A_ar hi1 (v := (fa (iz))) rfl (g := (mkF m 12 #[.val (.ref ar), .val (.int p1), .val (.int p2), .val (.int p3), .val (.long q4), .second, .val (.int p5)] [(.int p1), (.ref ar)])) rfl rfl (hb hby d5_12) ?_
      show own_W p e (FrameEnd s) below ({ frames := 0, cells := 0, slots := 0, locals := 0 } : Room).cells ({ frames := 0, cells := 0, slots := 0, locals := 0 } : Room).slots (Q5 Z ar p1 p2 p3 q4 p5 fa iz h0 n0) s₁ (mkF m 13 #[.val (.ref ar), .val (.int p1), .val (.int p2), .val (.int p3), .val (.long q4), .second, .val (.int p5)] [(.int (fa (iz)))])
      refine own_i2l X0 hx (hb hby d5_13) (rfl : 13 + 1 = 14) ?_
      refine own_lload X0 hx (hb hby d5_14) (v := q4) rfl (rfl : 14 + 2 = 16) ?_
      refine own_lcmp X0 hx (hb hby d5_16) (rfl : 16 + 1 = 17) ?_
      by_cases hc17 : ((fa (iz)).toInt64) < q4
      · skip
        refine own_ifYes X0 hx (hb hby d5_17) (XT.ll_lt_t hc17) (pc' := 22) (by decide) (by decide) ?_
        refine own_iload X0 hx (hb hby d5_22) (v := p5) rfl (rfl : 22 + 2 = 24) ?_
        refine own_retI X0 hx hlk hret (hb hby d5_24) (by decide) (by decide) ?_
        show Q5 Z ar p1 p2 p3 q4 p5 fa iz h0 n0 (some (.int p5)) s₁.heap _
        rw [e0]
        exact ⟨by simp only [own_pick, if_neg hc2, if_pos hc7, if_pos hc17], N0, rfl⟩
      · skip
        refine own_ifNo X0 hx (hb hby d5_17) (XT.ll_lt_f hc17) (rfl : 17 + 3 = 20) ?_
        refine own_iloadN X0 hx (hb hby d5_20) (v := p1) rfl (rfl : 20 + 1 = 21) ?_
        refine own_retI X0 hx hlk hret (hb hby d5_21) (by decide) (by decide) ?_
        show Q5 Z ar p1 p2 p3 q4 p5 fa iz h0 n0 (some (.int p1)) s₁.heap _
        rw [e0]
        exact ⟨by simp only [own_pick, if_neg hc2, if_pos hc7, if_neg hc17], N0, rfl⟩
    · skip
      refine own_icmpYes X0 hx (hb hby d5_7) (flt hc7).2.1 (pc' := 22) (by decide) (by decide) ?_
      refine own_iload X0 hx (hb hby d5_22) (v := p5) rfl (rfl : 22 + 2 = 24) ?_
      refine own_retI X0 hx hlk hret (hb hby d5_24) (by decide) (by decide) ?_
      show Q5 Z ar p1 p2 p3 q4 p5 fa iz h0 n0 (some (.int p5)) s₁.heap _
      rw [e0]
      exact ⟨by simp only [own_pick, if_neg hc2, if_neg hc7], N0, rfl⟩
theorem d6_0 : decode prog_17_method_19_code 0 = .ok (.iload_n 1, 1) := by decide +kernel
theorem d6_1 : decode prog_17_method_19_code 1 = .ok (.istore 5, 2) := by decide +kernel
theorem d6_3 : decode prog_17_method_19_code 3 = .ok (.iload_n 2, 1) := by decide +kernel
theorem d6_4 : decode prog_17_method_19_code 4 = .ok (.istore 6, 2) := by decide +kernel
theorem d6_6 : decode prog_17_method_19_code 6 = .ok (.iload 5, 2) := by decide +kernel
theorem d6_8 : decode prog_17_method_19_code 8 = .ok (.iload 6, 2) := by decide +kernel
theorem d6_10 : decode prog_17_method_19_code 10 = .ok (.if_icmp .ge 38, 3) := by decide +kernel
theorem d6_13 : decode prog_17_method_19_code 13 = .ok (.iload 5, 2) := by decide +kernel
theorem d6_15 : decode prog_17_method_19_code 15 = .ok (.iload 6, 2) := by decide +kernel
theorem d6_17 : decode prog_17_method_19_code 17 = .ok (.iadd, 1) := by decide +kernel
theorem d6_18 : decode prog_17_method_19_code 18 = .ok (.iconst 1, 1) := by decide +kernel
theorem d6_19 : decode prog_17_method_19_code 19 = .ok (.iushr, 1) := by decide +kernel
theorem d6_20 : decode prog_17_method_19_code 20 = .ok (.istore 7, 2) := by decide +kernel
theorem d6_22 : decode prog_17_method_19_code 22 = .ok (.aload_n 0, 1) := by decide +kernel
theorem d6_23 : decode prog_17_method_19_code 23 = .ok (.iload 7, 2) := by decide +kernel
theorem d6_25 : decode prog_17_method_19_code 25 = .ok (.iaload, 1) := by decide +kernel
theorem d6_26 : decode prog_17_method_19_code 26 = .ok (.i2l, 1) := by decide +kernel
theorem d6_27 : decode prog_17_method_19_code 27 = .ok (.lload_n 3, 1) := by decide +kernel
theorem d6_28 : decode prog_17_method_19_code 28 = .ok (.lcmp, 1) := by decide +kernel
theorem d6_29 : decode prog_17_method_19_code 29 = .ok (.ifCond .ge 12, 3) := by decide +kernel
theorem d6_32 : decode prog_17_method_19_code 32 = .ok (.iload 7, 2) := by decide +kernel
theorem d6_34 : decode prog_17_method_19_code 34 = .ok (.iconst 1, 1) := by decide +kernel
theorem d6_35 : decode prog_17_method_19_code 35 = .ok (.iadd, 1) := by decide +kernel
theorem d6_36 : decode prog_17_method_19_code 36 = .ok (.istore 5, 2) := by decide +kernel
theorem d6_38 : decode prog_17_method_19_code 38 = .ok (.goto 7, 3) := by decide +kernel
theorem d6_41 : decode prog_17_method_19_code 41 = .ok (.iload 7, 2) := by decide +kernel
theorem d6_43 : decode prog_17_method_19_code 43 = .ok (.istore 6, 2) := by decide +kernel
theorem d6_45 : decode prog_17_method_19_code 45 = .ok (.goto (-39), 3) := by decide +kernel
theorem d6_48 : decode prog_17_method_19_code 48 = .ok (.iload 5, 2) := by decide +kernel
theorem d6_50 : decode prog_17_method_19_code 50 = .ok (.ireturn, 1) := by decide +kernel
theorem own_pn_com_example_linkwise_linkwise_graph_LinkGraph : plainName "com/example/linkwise/linkwise/graph/LinkGraph" = true := by first | (simp [plainName, overriddenIn]; done) | decide +kernel
theorem ef_6 (m : MethodId) (ar : Addr) (p1 : Int32) (p2 : Int32) (q3 : Int64) : entryFrame m #[(.ref ar), (.int p1), (.int p2), (.long q3)] 8 = mkF m 0 #[.val (.ref ar), .val (.int p1), .val (.int p2), .val (.long q3), .second, .unset, .unset, .unset] [] := by first | (simp [entryFrame, mkF, argsToLocals, Value.category]; done) | rfl
def Q6 (Z : State) (ar : Addr) (p1 : Int32) (p2 : Int32) (q3 : Int64) (fa : Nat → Int32) (h0 : Heap) (n0 : Nat) (v : Option Value) (h : Heap) (L : List Loc) : Prop := ∃ (r : Int32), v = some (.int r) ∧ Fr n0 L ∧ h = h0 ∧ (own_inv fa q3 p1.toInt p2.toInt r.toInt r.toInt)
set_option maxRecDepth 65536 in
set_option maxHeartbeats 40000000 in
theorem rm6 (l : Launch) (Z : State) (a0 : Array Value) (hw : ∀ d ∈ tables_1, d.before a0 Z = true) (ws : List Jvm.Cond) (ar : Addr) (p1 : Int32) (p2 : Int32) (q3 : Int64) (fa : Nat → Int32) (h0 : Heap) (n0 : Nat) (Z0 : n0 ≤ h0.size) (f_A_ar : own_A Z h0 ar .int (5) (fun z => .int (fa z))) (hsr : own_sorted fa) (hbd : 0 ≤ p1.toInt ∧ p1.toInt ≤ p2.toInt ∧ p2.toInt ≤ 5) :
    MetFree l (⟨"com/example/linkwise/linkwise/graph/LinkGraph", "firstAtOrAfter", "([IIIJ)I"⟩ : MethodName) (head1 (Jvm.Cond.code (⟨"com/example/linkwise/linkwise/graph/LinkGraph", "firstAtOrAfter", "([IIIJ)I"⟩ : MethodName) prog_17_method_19_code 8 (some .int) :: ws) ({ frames := 0, cells := 0, slots := 0, locals := 0 } : Room)) (fun avs U => avs = #[(.ref ar), (.int p1), (.int p2), (.long q3)] ∧ Z.Warmed39 U.vm ∧ U.heap = h0) (fun _ _ _ _ _ => True) (fun _ U o U' => ∃ v L, o = .returned v ∧ Q6 Z ar p1 p2 q3 fa h0 n0 v U'.heap L ∧ FrameEnd U o U' L ({ frames := 0, cells := 0, slots := 0, locals := 0 } : Room).cells ({ frames := 0, cells := 0, slots := 0, locals := 0 } : Room).slots) := by
  refine MetFree.of_bodySF (plainFor_of_name own_pn_com_example_linkwise_linkwise_graph_LinkGraph) hisR ?_
  intro p e s m args below meth c s₁ Bd hml0 hP hK
  obtain ⟨rfl, hZ, hh⟩ := hP
  have hx := Bd.exec
  have hby := Bd.bytes
  have hml : c.maxLocals = 8 := hml0
  have hown : s.vm.findClass "com/example/linkwise/linkwise/graph/LinkGraph" = some m.cls := findClass_of_methodNamed Bd.named
  have hnm := (name_of_methodNamed Bd.named Bd.method).1
  have hlk := Bd.notSynchronized
  have hret := Bd.returns
  have X0 : Stand p l e ({ frames := 0, cells := 0, slots := 0, locals := 0 } : Room) s m #[(.ref ar), (.int p1), (.int p2), (.long q3)] below meth c s₁ [] 0 0 := Stand.of_body Bd
  have e0 : s₁.heap = h0 := by rw [← hh, Bd.state]; rfl
  have N0 := Fr.nil n0
  show own_W p e (FrameEnd s) below ({ frames := 0, cells := 0, slots := 0, locals := 0 } : Room).cells ({ frames := 0, cells := 0, slots := 0, locals := 0 } : Room).slots (Q6 Z ar p1 p2 q3 fa h0 n0) s₁ (entryFrame m #[(.ref ar), (.int p1), (.int p2), (.long q3)] 8)
  rw [ef_6]
  refine own_iloadN X0 hx (hb hby d6_0) (v := p1) rfl (rfl : 0 + 1 = 1) ?_
  refine own_istore X0 hx (hb hby d6_1) (l' := #[.val (.ref ar), .val (.int p1), .val (.int p2), .val (.long q3), .second, .val (.int p1), .unset, .unset]) rfl (rfl : 1 + 2 = 3) ?_
  refine own_iloadN X0 hx (hb hby d6_3) (v := p2) rfl (rfl : 3 + 1 = 4) ?_
  refine own_istore X0 hx (hb hby d6_4) (l' := #[.val (.ref ar), .val (.int p1), .val (.int p2), .val (.long q3), .second, .val (.int p1), .val (.int p2), .unset]) rfl (rfl : 4 + 2 = 6) ?_
  refine own_iload X0 hx (hb hby d6_6) (v := p1) rfl (rfl : 6 + 2 = 8) ?_
  refine own_iload X0 hx (hb hby d6_8) (v := p2) rfl (rfl : 8 + 2 = 10) ?_
  by_cases hc10 : p1 < p2
  · skip
    refine own_icmpNo X0 hx (hb hby d6_10) (tlt hc10).2.1 (rfl : 10 + 3 = 13) ?_
    refine own_iload X0 hx (hb hby d6_13) (v := p1) rfl (rfl : 13 + 2 = 15) ?_
    refine own_iload X0 hx (hb hby d6_15) (v := p2) rfl (rfl : 15 + 2 = 17) ?_
    refine own_iadd X0 hx (hb hby d6_17) (rfl : 17 + 1 = 18) ?_
    refine own_iconst X0 hx (hb hby d6_18) (1 : Int32) (by first | rfl | decide) (rfl : 18 + 1 = 19) ?_
    refine own_iushr X0 hx (hb hby d6_19) (rfl : 19 + 1 = 20) ?_
    refine own_istore X0 hx (hb hby d6_20) (l' := #[.val (.ref ar), .val (.int p1), .val (.int p2), .val (.long q3), .second, .val (.int p1), .val (.int p2), .val (.int (((p1 + p2).toUInt32 >>> ((1 : Int32) &&& 31).toUInt32).toInt32))]) rfl (rfl : 20 + 2 = 22) ?_
    obtain ⟨mid, hmid⟩ : ∃ z : Int32, z = (((p1 + p2).toUInt32 >>> ((1 : Int32) &&& 31).toUInt32).toInt32) := ⟨_, rfl⟩
    rw [← hmid]
    show own_W p e (FrameEnd s) below ({ frames := 0, cells := 0, slots := 0, locals := 0 } : Room).cells ({ frames := 0, cells := 0, slots := 0, locals := 0 } : Room).slots (Q6 Z ar p1 p2 q3 fa h0 n0) s₁ (mkF m 22 #[.val (.ref ar), .val (.int p1), .val (.int p2), .val (.long q3), .second, .val (.int p1), .val (.int p2), .val (.int mid)] [])
    have hinv0 : own_inv fa q3 p1.toInt p2.toInt p1.toInt p2.toInt := (show own_inv fa q3 p1.toInt p2.toInt p1.toInt p2.toInt from ⟨by omega, by omega, by omega, fun z z1 z2 => by omega, fun z z1 z2 => by omega⟩)
    have hlt := hc10
    rw [Int32.lt_iff_toInt_lt] at hlt
    have hmid2 : p1.toInt ≤ mid.toInt ∧ mid.toInt < p2.toInt := by rw [hmid]; exact own_mid p1 p2 (by have := hinv0.1; omega) hlt (by have := hinv0.2.2.1; omega)
    have J6 : ∀ (fuel : Nat) (lw : Int32) (hg : Int32) (md : Int32), ((hg.toInt - lw.toInt).toNat < fuel) → ∀ (hinv : own_inv fa q3 p1.toInt p2.toInt lw.toInt hg.toInt), own_W p e (FrameEnd s) below ({ frames := 0, cells := 0, slots := 0, locals := 0 } : Room).cells ({ frames := 0, cells := 0, slots := 0, locals := 0 } : Room).slots (Q6 Z ar p1 p2 q3 fa h0 n0) s₁ (mkF m 6 #[.val (.ref ar), .val (.int p1), .val (.int p2), .val (.long q3), .second, .val (.int lw), .val (.int hg), .val (.int md)] []) := by
      intro fuel
      induction fuel with
      | zero => intro lw hg md hfuel; exact absurd hfuel (Nat.not_lt_zero _)
      | succ fuel ih =>
        intro lw hg md hfuel hinv
        refine own_iload X0 hx (hb hby d6_6) (v := lw) rfl (rfl : 6 + 2 = 8) ?_
        refine own_iload X0 hx (hb hby d6_8) (v := hg) rfl (rfl : 8 + 2 = 10) ?_
        by_cases hc10 : lw < hg
        · skip
          refine own_icmpNo X0 hx (hb hby d6_10) (tlt hc10).2.1 (rfl : 10 + 3 = 13) ?_
          refine own_iload X0 hx (hb hby d6_13) (v := lw) rfl (rfl : 13 + 2 = 15) ?_
          refine own_iload X0 hx (hb hby d6_15) (v := hg) rfl (rfl : 15 + 2 = 17) ?_
          refine own_iadd X0 hx (hb hby d6_17) (rfl : 17 + 1 = 18) ?_
          refine own_iconst X0 hx (hb hby d6_18) (1 : Int32) (by first | rfl | decide) (rfl : 18 + 1 = 19) ?_
          refine own_iushr X0 hx (hb hby d6_19) (rfl : 19 + 1 = 20) ?_
          refine own_istore X0 hx (hb hby d6_20) (l' := #[.val (.ref ar), .val (.int p1), .val (.int p2), .val (.long q3), .second, .val (.int lw), .val (.int hg), .val (.int (((lw + hg).toUInt32 >>> ((1 : Int32) &&& 31).toUInt32).toInt32))]) rfl (rfl : 20 + 2 = 22) ?_
          obtain ⟨mid, hmid⟩ : ∃ z : Int32, z = (((lw + hg).toUInt32 >>> ((1 : Int32) &&& 31).toUInt32).toInt32) := ⟨_, rfl⟩
          rw [← hmid]
          show own_W p e (FrameEnd s) below ({ frames := 0, cells := 0, slots := 0, locals := 0 } : Room).cells ({ frames := 0, cells := 0, slots := 0, locals := 0 } : Room).slots (Q6 Z ar p1 p2 q3 fa h0 n0) s₁ (mkF m 22 #[.val (.ref ar), .val (.int p1), .val (.int p2), .val (.long q3), .second, .val (.int lw), .val (.int hg), .val (.int mid)] [])
          have hinv0 : own_inv fa q3 p1.toInt p2.toInt lw.toInt hg.toInt := hinv
          have hlt := hc10
          rw [Int32.lt_iff_toInt_lt] at hlt
          have hmid2 : lw.toInt ≤ mid.toInt ∧ mid.toInt < hg.toInt := by rw [hmid]; exact own_mid lw hg (by have := hinv0.1; omega) hlt (by have := hinv0.2.2.1; omega)
          refine own_aloadN X0 hx (hb hby d6_22) (v := (.ref ar)) rfl rfl (rfl : 22 + 1 = 23) ?_
          refine own_iload X0 hx (hb hby d6_23) (v := mid) rfl (rfl : 23 + 2 = 25) ?_
          have hi1 : own_In mid (mid.toInt.toNat) (5) := ⟨by have := hinv0.1; omega, by have := hinv0.2.2.1; omega⟩
          refine own_iaload X0 hx hZ e0 f_A_ar hi1 (v := (fa (mid.toInt.toNat))) rfl (g := (mkF m 25 #[.val (.ref ar), .val (.int p1), .val (.int p2), .val (.long q3), .second, .val (.int lw), .val (.int hg), .val (.int mid)] [(.int mid), (.ref ar)])) rfl rfl (hb hby d6_25) ?_
          show own_W p e (FrameEnd s) below ({ frames := 0, cells := 0, slots := 0, locals := 0 } : Room).cells ({ frames := 0, cells := 0, slots := 0, locals := 0 } : Room).slots (Q6 Z ar p1 p2 q3 fa h0 n0) s₁ (mkF m 26 #[.val (.ref ar), .val (.int p1), .val (.int p2), .val (.long q3), .second, .val (.int lw), .val (.int hg), .val (.int mid)] [(.int (fa (mid.toInt.toNat)))])
          refine own_i2l X0 hx (hb hby d6_26) (rfl : 26 + 1 = 27) ?_
          refine own_lloadN X0 hx (hb hby d6_27) (v := q3) rfl (rfl : 27 + 1 = 28) ?_
          refine own_lcmp X0 hx (hb hby d6_28) (rfl : 28 + 1 = 29) ?_
          by_cases hc29 : ((fa (mid.toInt.toNat)).toInt64) < q3
          · skip
            refine own_ifNo X0 hx (hb hby d6_29) (XT.ll_ge_f hc29) (rfl : 29 + 3 = 32) ?_
            refine own_iload X0 hx (hb hby d6_32) (v := mid) rfl (rfl : 32 + 2 = 34) ?_
            refine own_iconst X0 hx (hb hby d6_34) (1 : Int32) (by first | rfl | decide) (rfl : 34 + 1 = 35) ?_
            refine own_iadd X0 hx (hb hby d6_35) (rfl : 35 + 1 = 36) ?_
            refine own_istore X0 hx (hb hby d6_36) (l' := #[.val (.ref ar), .val (.int p1), .val (.int p2), .val (.long q3), .second, .val (.int (mid + (1 : Int32))), .val (.int hg), .val (.int mid)]) rfl (rfl : 36 + 2 = 38) ?_
            refine own_goto X0 hx (hb hby d6_38) (pc' := 45) (by decide) (by decide) ?_
            refine own_goto X0 hx (hb hby d6_45) (pc' := 6) (by decide) (by decide) ?_
            exact ih  ((mid + (1 : Int32))) (hg) (mid) (by have := (own_upw fa q3 p1.toInt p2.toInt lw hg mid hsr hbd.1 hbd.2.2 hinv0 hmid2 hc29).1; omega)  ((own_upw fa q3 p1.toInt p2.toInt lw hg mid hsr hbd.1 hbd.2.2 hinv0 hmid2 hc29).2)
          · skip
            refine own_ifYes X0 hx (hb hby d6_29) (XT.ll_ge_t hc29) (pc' := 41) (by decide) (by decide) ?_
            refine own_iload X0 hx (hb hby d6_41) (v := mid) rfl (rfl : 41 + 2 = 43) ?_
            refine own_istore X0 hx (hb hby d6_43) (l' := #[.val (.ref ar), .val (.int p1), .val (.int p2), .val (.long q3), .second, .val (.int lw), .val (.int mid), .val (.int mid)]) rfl (rfl : 43 + 2 = 45) ?_
            refine own_goto X0 hx (hb hby d6_45) (pc' := 6) (by decide) (by decide) ?_
            exact ih  (lw) (mid) (mid) (by omega)  (own_dn fa q3 p1.toInt p2.toInt lw hg mid hsr hbd.1 hbd.2.2 hinv0 hmid2 hc29)
        · skip
          refine own_icmpYes X0 hx (hb hby d6_10) (flt hc10).2.1 (pc' := 48) (by decide) (by decide) ?_
          refine own_iload X0 hx (hb hby d6_48) (v := lw) rfl (rfl : 48 + 2 = 50) ?_
          refine own_retI X0 hx hlk hret (hb hby d6_50) (by decide) (by decide) ?_
          show Q6 Z ar p1 p2 q3 fa h0 n0 (some (.int lw)) s₁.heap _
          rw [e0]
          exact ⟨lw, rfl, N0, rfl, by
              have z := hc10; rw [Int32.lt_iff_toInt_lt] at z; have y := hinv.2.1
              have e : hg.toInt = lw.toInt := by omega
              rw [e] at hinv; exact hinv⟩
    refine own_aloadN X0 hx (hb hby d6_22) (v := (.ref ar)) rfl rfl (rfl : 22 + 1 = 23) ?_
    refine own_iload X0 hx (hb hby d6_23) (v := mid) rfl (rfl : 23 + 2 = 25) ?_
    have hi2 : own_In mid (mid.toInt.toNat) (5) := ⟨by have := hinv0.1; omega, by have := hinv0.2.2.1; omega⟩
    refine own_iaload X0 hx hZ e0 f_A_ar hi2 (v := (fa (mid.toInt.toNat))) rfl (g := (mkF m 25 #[.val (.ref ar), .val (.int p1), .val (.int p2), .val (.long q3), .second, .val (.int p1), .val (.int p2), .val (.int mid)] [(.int mid), (.ref ar)])) rfl rfl (hb hby d6_25) ?_
    show own_W p e (FrameEnd s) below ({ frames := 0, cells := 0, slots := 0, locals := 0 } : Room).cells ({ frames := 0, cells := 0, slots := 0, locals := 0 } : Room).slots (Q6 Z ar p1 p2 q3 fa h0 n0) s₁ (mkF m 26 #[.val (.ref ar), .val (.int p1), .val (.int p2), .val (.long q3), .second, .val (.int p1), .val (.int p2), .val (.int mid)] [(.int (fa (mid.toInt.toNat)))])
    refine own_i2l X0 hx (hb hby d6_26) (rfl : 26 + 1 = 27) ?_
    refine own_lloadN X0 hx (hb hby d6_27) (v := q3) rfl (rfl : 27 + 1 = 28) ?_
    refine own_lcmp X0 hx (hb hby d6_28) (rfl : 28 + 1 = 29) ?_
    by_cases hc29 : ((fa (mid.toInt.toNat)).toInt64) < q3
    · skip
      refine own_ifNo X0 hx (hb hby d6_29) (XT.ll_ge_f hc29) (rfl : 29 + 3 = 32) ?_
      refine own_iload X0 hx (hb hby d6_32) (v := mid) rfl (rfl : 32 + 2 = 34) ?_
      refine own_iconst X0 hx (hb hby d6_34) (1 : Int32) (by first | rfl | decide) (rfl : 34 + 1 = 35) ?_
      refine own_iadd X0 hx (hb hby d6_35) (rfl : 35 + 1 = 36) ?_
      refine own_istore X0 hx (hb hby d6_36) (l' := #[.val (.ref ar), .val (.int p1), .val (.int p2), .val (.long q3), .second, .val (.int (mid + (1 : Int32))), .val (.int p2), .val (.int mid)]) rfl (rfl : 36 + 2 = 38) ?_
      refine own_goto X0 hx (hb hby d6_38) (pc' := 45) (by decide) (by decide) ?_
      refine own_goto X0 hx (hb hby d6_45) (pc' := 6) (by decide) (by decide) ?_
      exact J6 (((p2).toInt - ((mid + (1 : Int32))).toInt).toNat + 1) ((mid + (1 : Int32))) (p2) (mid) (Nat.lt_succ_self _)  ((own_upw fa q3 p1.toInt p2.toInt p1 p2 mid hsr hbd.1 hbd.2.2 hinv0 hmid2 hc29).2)
    · skip
      refine own_ifYes X0 hx (hb hby d6_29) (XT.ll_ge_t hc29) (pc' := 41) (by decide) (by decide) ?_
      refine own_iload X0 hx (hb hby d6_41) (v := mid) rfl (rfl : 41 + 2 = 43) ?_
      refine own_istore X0 hx (hb hby d6_43) (l' := #[.val (.ref ar), .val (.int p1), .val (.int p2), .val (.long q3), .second, .val (.int p1), .val (.int mid), .val (.int mid)]) rfl (rfl : 43 + 2 = 45) ?_
      refine own_goto X0 hx (hb hby d6_45) (pc' := 6) (by decide) (by decide) ?_
      exact J6 (((mid).toInt - (p1).toInt).toNat + 1) (p1) (mid) (mid) (Nat.lt_succ_self _)  (own_dn fa q3 p1.toInt p2.toInt p1 p2 mid hsr hbd.1 hbd.2.2 hinv0 hmid2 hc29)
  · skip
    refine own_icmpYes X0 hx (hb hby d6_10) (flt hc10).2.1 (pc' := 48) (by decide) (by decide) ?_
    refine own_iload X0 hx (hb hby d6_48) (v := p1) rfl (rfl : 48 + 2 = 50) ?_
    refine own_retI X0 hx hlk hret (hb hby d6_50) (by decide) (by decide) ?_
    show Q6 Z ar p1 p2 q3 fa h0 n0 (some (.int p1)) s₁.heap _
    rw [e0]
    exact ⟨p1, rfl, N0, rfl, by have z := hc10; rw [Int32.lt_iff_toInt_lt] at z; exact ⟨by omega, by omega, by omega, fun z z1 z2 => by omega, fun z z1 z2 => by omega⟩⟩
theorem own_pd__IJII_I : parseMethodDescriptor "(IJII)I" = some ⟨[.int, .long, .int, .int], some .int⟩ := by decide +kernel
theorem own_pd__II_I : parseMethodDescriptor "(II)I" = some ⟨[.int, .int], some .int⟩ := by decide +kernel
theorem own_pd___IIIIJI_I : parseMethodDescriptor "([IIIIJI)I" = some ⟨[(.array .int), .int, .int, .int, .long, .int], some .int⟩ := by decide +kernel
theorem own_pd___IIIJ_I : parseMethodDescriptor "([IIIJ)I" = some ⟨[(.array .int), .int, .int, .long], some .int⟩ := by decide +kernel
theorem ef_0 (m : MethodId) (pb : Int32) (qd : Int64) (ps : Int32) (pf : Int32) (qv : Int64) (pm : Int32) : entryFrame m #[(.int pb), (.long qd), (.int ps), (.int pf), (.long qv), (.int pm)] maxLocals = mkF m 0 #[.val (.int pb), .val (.long qd), .second, .val (.int ps), .val (.int pf), .val (.long qv), .second, .val (.int pm), .unset, .unset, .unset, .unset, .unset, .unset, .unset, .unset] [] := by first | (simp [entryFrame, mkF, argsToLocals, Value.category, maxLocals]; done) | rfl
def Q0 (Z : State) (pb : Int32) (qd : Int64) (ps : Int32) (pf : Int32) (qv : Int64) (pm : Int32)  (h0 : Heap) (n0 : Nat) (v : Option Value) (h : Heap) (L : List Loc) : Prop := v = some (.int 1) ∧ Fr n0 L
set_option maxRecDepth 65536 in
set_option maxHeartbeats 40000000 in
theorem rm0 (l : Launch) (Z : State) (a0 : Array Value) (hw : ∀ d ∈ tables_1, d.before a0 Z = true) (ws : List Jvm.Cond) (pb : Int32) (qd : Int64) (ps : Int32) (pf : Int32) (qv : Int64) (pm : Int32)  (h0 : Heap) (n0 : Nat) (Z0 : n0 ≤ h0.size)  :
    MetFree l x (head1 (Jvm.Cond.code x code maxLocals ret :: ws) room_1) (fun avs U => avs = #[(.int pb), (.long qd), (.int ps), (.int pf), (.long qv), (.int pm)] ∧ Z.Warmed39 U.vm ∧ U.heap = h0) (fun _ _ _ _ _ => True) (fun _ U o U' => ∃ v L, o = .returned v ∧ Q0 Z pb qd ps pf qv pm h0 n0 v U'.heap L ∧ FrameEnd U o U' L room_1.cells room_1.slots) := by
  refine MetFree.of_bodySF (plainFor_of_name own_pn_com_example_linkwise_linkwise_graph_LinkGraphFirstAtOrAfterPinLaw) hisR ?_
  intro p e s m args below meth c s₁ Bd hml0 hP hK
  obtain ⟨rfl, hZ, hh⟩ := hP
  have hx := Bd.exec
  have hby := Bd.bytes
  have hml : c.maxLocals = 16 := hml0
  have hown : s.vm.findClass "com/example/linkwise/linkwise/graph/LinkGraphFirstAtOrAfterPinLaw" = some m.cls := findClass_of_methodNamed Bd.named
  have hnm := (name_of_methodNamed Bd.named Bd.method).1
  have hlk := Bd.notSynchronized
  have hret := Bd.returns
  have X0 : Stand p l e room_1 s m #[(.int pb), (.long qd), (.int ps), (.int pf), (.long qv), (.int pm)] below meth c s₁ [] 0 0 := Stand.of_body Bd
  have e0 : s₁.heap = h0 := by rw [← hh, Bd.state]; rfl
  have N0 := Fr.nil n0
  show own_W p e (FrameEnd s) below room_1.cells room_1.slots (Q0 Z pb qd ps pf qv pm h0 n0) s₁ (entryFrame m #[(.int pb), (.long qd), (.int ps), (.int pf), (.long qv), (.int pm)] maxLocals)
  rw [ef_0]
  refine own_iconst X0 hx (hb hby at_0) (5 : Int32) (by first | rfl | decide) (rfl : 0 + 1 = 1) ?_
  obtain ⟨T1, h1, k1, X1, e1, E1, A1, st1⟩ := newP X0 hx hZ (hw _ (List.mem_of_getElem? (i := 0) rfl)) e0 (g := (mkF m 1 #[.val (.int pb), .val (.long qd), .second, .val (.int ps), .val (.int pf), .val (.long qv), .second, .val (.int pm), .unset, .unset, .unset, .unset, .unset, .unset, .unset, .unset] [(.int (5 : Int32))])) rfl (hb hby at_1) rfl (by decide) (cap := 5) (by decide) (by decide) (by decide) (by decide)
  obtain ⟨arr, g1⟩ : ∃ z, z = h0.size := ⟨_, rfl⟩
  rw [← g1] at A1 st1
  refine own_W.step st1 ?_
  have g_arr : n0 ≤ arr := Nat.le_trans Z0 (Nat.le_of_eq g1.symm)
  have z1 : n0 ≤ h1.size := Nat.le_trans Z0 E1.1
  have V1 : own_A Z h1 arr .int (5) (fun z => .int (own_k0 z)) := own_A.new A1 (by decide) (by decide)
  show own_W p e (FrameEnd s) below room_1.cells room_1.slots (Q0 Z pb qd ps pf qv pm h0 n0) T1 (mkF m 3 #[.val (.int pb), .val (.long qd), .second, .val (.int ps), .val (.int pf), .val (.long qv), .second, .val (.int pm), .unset, .unset, .unset, .unset, .unset, .unset, .unset, .unset] [(.ref arr)])
  refine own_astore X1 hx (hb hby at_3) (l' := #[.val (.int pb), .val (.long qd), .second, .val (.int ps), .val (.int pf), .val (.long qv), .second, .val (.int pm), .val (.ref arr), .unset, .unset, .unset, .unset, .unset, .unset, .unset]) rfl rfl (rfl : 3 + 2 = 5) ?_
  refine own_aload X1 hx (hb hby at_5) (v := (.ref arr)) rfl rfl (rfl : 5 + 2 = 7) ?_
  refine own_iconst X1 hx (hb hby at_7) (0 : Int32) (by first | rfl | decide) (rfl : 7 + 1 = 8) ?_
  refine own_iloadN X1 hx (hb hby at_8) (v := pb) rfl (rfl : 8 + 1 = 9) ?_
  have hi2 : own_In (0 : Int32) (0) (5) := ⟨by decide, by decide⟩
  obtain ⟨T2, h2, X2, e2, W2, V2, st2⟩ := own_stI X1 hx hZ e1 V1 hi2 (g := (mkF m 9 #[.val (.int pb), .val (.long qd), .second, .val (.int ps), .val (.int pf), .val (.long qv), .second, .val (.int pm), .val (.ref arr), .unset, .unset, .unset, .unset, .unset, .unset, .unset] [(.int pb), (.int (0 : Int32)), (.ref arr)])) rfl rfl (hb hby at_9)
  refine own_W.step st2 ?_
  have N2 := Fr.snoc X2 N0 g_arr
  have U2 : own_A Z h2 arr .int (5) (fun z => .int (own_L [pb] z)) := V2.congr (fun z hz => by rcases z with _ | _ | _ | _ | _ | z <;> first | rfl | omega)
  have z2 : n0 ≤ h2.size := by rw [W2.size]; exact z1
  show own_W p e (FrameEnd s) below room_1.cells room_1.slots (Q0 Z pb qd ps pf qv pm h0 n0) T2 (mkF m 10 #[.val (.int pb), .val (.long qd), .second, .val (.int ps), .val (.int pf), .val (.long qv), .second, .val (.int pm), .val (.ref arr), .unset, .unset, .unset, .unset, .unset, .unset, .unset] [])
  refine own_aload X2 hx (hb hby at_10) (v := (.ref arr)) rfl rfl (rfl : 10 + 2 = 12) ?_
  refine own_iconst X2 hx (hb hby at_12) (1 : Int32) (by first | rfl | decide) (rfl : 12 + 1 = 13) ?_
  refine own_aload X2 hx (hb hby at_13) (v := (.ref arr)) rfl rfl (rfl : 13 + 2 = 15) ?_
  refine own_iconst X2 hx (hb hby at_15) (0 : Int32) (by first | rfl | decide) (rfl : 15 + 1 = 16) ?_
  have hi3 : own_In (0 : Int32) (0) (5) := ⟨by decide, by decide⟩
  refine own_iaload X2 hx hZ e2 U2 hi3 (v := pb) rfl (g := (mkF m 16 #[.val (.int pb), .val (.long qd), .second, .val (.int ps), .val (.int pf), .val (.long qv), .second, .val (.int pm), .val (.ref arr), .unset, .unset, .unset, .unset, .unset, .unset, .unset] [(.int (0 : Int32)), (.ref arr), (.int (1 : Int32)), (.ref arr)])) rfl rfl (hb hby at_16) ?_
  show own_W p e (FrameEnd s) below room_1.cells room_1.slots (Q0 Z pb qd ps pf qv pm h0 n0) T2 (mkF m 17 #[.val (.int pb), .val (.long qd), .second, .val (.int ps), .val (.int pf), .val (.long qv), .second, .val (.int pm), .val (.ref arr), .unset, .unset, .unset, .unset, .unset, .unset, .unset] [(.int pb), (.int (1 : Int32)), (.ref arr)])
  refine own_lloadN X2 hx (hb hby at_17) (v := qd) rfl (rfl : 17 + 1 = 18) ?_
  refine own_iloadN X2 hx (hb hby at_18) (v := ps) rfl (rfl : 18 + 1 = 19) ?_
  refine own_iconst X2 hx (hb hby at_19) (0 : Int32) (by first | rfl | decide) (rfl : 19 + 1 = 20) ?_
  obtain ⟨_, _, ⟨T4, L4, k4, n4⟩, -, X4, ⟨Lc4, hQ4, l4, y4, z4⟩, st4⟩ := Jvm.LawKit.callS X2 hx (y := (⟨"com/example/linkwise/linkwise/graph/LinkGraphFirstAtOrAfterPinLaw", "next", "(IJII)I"⟩ : MethodName)) hown (mvT hZ (hw _ (List.mem_of_getElem? (i := 1) rfl))) (mvT hZ (hw _ (List.mem_of_getElem? (i := 2) rfl))) (mvT hZ (hw _ (List.mem_of_getElem? (i := 3) rfl))) (mvT hZ (hw _ (List.mem_of_getElem? (i := 4) rfl))) (by decide) (backOf (W := 2) (rm1 l Z a0 hw [] pb qd ps (0 : Int32)  h2 n0 z2 ) hZ (hw _ (List.mem_of_getElem? (i := 4) rfl)) (hw _ (List.mem_of_getElem? (i := 3) rfl)) (by decide) (by decide)) (g := (mkF m 20 #[.val (.int pb), .val (.long qd), .second, .val (.int ps), .val (.int pf), .val (.long qv), .second, .val (.int pm), .val (.ref arr), .unset, .unset, .unset, .unset, .unset, .unset, .unset] [(.int (0 : Int32)), (.int ps), (.long qd), (.int pb), (.int (1 : Int32)), (.ref arr)])) rfl (by rw [hml]; rfl) (argsL := [(.int pb), (.long qd), (.int ps), (.int (0 : Int32))]) (rest := [(.int (1 : Int32)), (.ref arr)]) (lenOf own_pd__IJII_I rfl) rfl (by show 2 * 0 + _ ≤ _; exact Nat.le_of_eq rfl) (hb hby at_20) (fun _ _ => ⟨rfl, e2, (by decide : 1 + 0 ≤ _), (by decide : 5 + 0 ≤ _)⟩)
  dsimp only [Pt.U, Pt.locs, Pt.cells, Pt.slots] at X4 l4 y4 z4 st4 hQ4
  subst l4 y4 z4
  obtain ⟨rfl, N4q, e4⟩ := hQ4
  have N4 := Fr.app N2 N4q
  refine own_W.step st4 ?_
  show own_W p e (FrameEnd s) below room_1.cells room_1.slots (Q0 Z pb qd ps pf qv pm h0 n0) T4 (mkF m 23 #[.val (.int pb), .val (.long qd), .second, .val (.int ps), .val (.int pf), .val (.long qv), .second, .val (.int pm), .val (.ref arr), .unset, .unset, .unset, .unset, .unset, .unset, .unset] [(.int (own_next pb qd ps (0 : Int32))), (.int (1 : Int32)), (.ref arr)])
  obtain ⟨x1, hx1⟩ : ∃ z : Int32, z = (own_next pb qd ps (0 : Int32)) := ⟨_, rfl⟩
  rw [← hx1]
  show own_W p e (FrameEnd s) below room_1.cells room_1.slots (Q0 Z pb qd ps pf qv pm h0 n0) T4 (mkF m 23 #[.val (.int pb), .val (.long qd), .second, .val (.int ps), .val (.int pf), .val (.long qv), .second, .val (.int pm), .val (.ref arr), .unset, .unset, .unset, .unset, .unset, .unset, .unset] [(.int x1), (.int (1 : Int32)), (.ref arr)])
  have hi5 : own_In (1 : Int32) (1) (5) := ⟨by decide, by decide⟩
  obtain ⟨T5, h5, X5, e5, W5, V5, st5⟩ := own_stI X4 hx hZ e4 U2 hi5 (g := (mkF m 23 #[.val (.int pb), .val (.long qd), .second, .val (.int ps), .val (.int pf), .val (.long qv), .second, .val (.int pm), .val (.ref arr), .unset, .unset, .unset, .unset, .unset, .unset, .unset] [(.int x1), (.int (1 : Int32)), (.ref arr)])) rfl rfl (hb hby at_23)
  refine own_W.step st5 ?_
  have N5 := Fr.snoc X5 N4 g_arr
  have U5 : own_A Z h5 arr .int (5) (fun z => .int (own_L [pb, x1] z)) := V5.congr (fun z hz => by rcases z with _ | _ | _ | _ | _ | z <;> first | rfl | omega)
  have z5 : n0 ≤ h5.size := by rw [W5.size]; exact z2
  show own_W p e (FrameEnd s) below room_1.cells room_1.slots (Q0 Z pb qd ps pf qv pm h0 n0) T5 (mkF m 24 #[.val (.int pb), .val (.long qd), .second, .val (.int ps), .val (.int pf), .val (.long qv), .second, .val (.int pm), .val (.ref arr), .unset, .unset, .unset, .unset, .unset, .unset, .unset] [])
  refine own_aload X5 hx (hb hby at_24) (v := (.ref arr)) rfl rfl (rfl : 24 + 2 = 26) ?_
  refine own_iconst X5 hx (hb hby at_26) (2 : Int32) (by first | rfl | decide) (rfl : 26 + 1 = 27) ?_
  refine own_aload X5 hx (hb hby at_27) (v := (.ref arr)) rfl rfl (rfl : 27 + 2 = 29) ?_
  refine own_iconst X5 hx (hb hby at_29) (1 : Int32) (by first | rfl | decide) (rfl : 29 + 1 = 30) ?_
  have hi6 : own_In (1 : Int32) (1) (5) := ⟨by decide, by decide⟩
  refine own_iaload X5 hx hZ e5 U5 hi6 (v := x1) rfl (g := (mkF m 30 #[.val (.int pb), .val (.long qd), .second, .val (.int ps), .val (.int pf), .val (.long qv), .second, .val (.int pm), .val (.ref arr), .unset, .unset, .unset, .unset, .unset, .unset, .unset] [(.int (1 : Int32)), (.ref arr), (.int (2 : Int32)), (.ref arr)])) rfl rfl (hb hby at_30) ?_
  show own_W p e (FrameEnd s) below room_1.cells room_1.slots (Q0 Z pb qd ps pf qv pm h0 n0) T5 (mkF m 31 #[.val (.int pb), .val (.long qd), .second, .val (.int ps), .val (.int pf), .val (.long qv), .second, .val (.int pm), .val (.ref arr), .unset, .unset, .unset, .unset, .unset, .unset, .unset] [(.int x1), (.int (2 : Int32)), (.ref arr)])
  refine own_lloadN X5 hx (hb hby at_31) (v := qd) rfl (rfl : 31 + 1 = 32) ?_
  refine own_iloadN X5 hx (hb hby at_32) (v := ps) rfl (rfl : 32 + 1 = 33) ?_
  refine own_iconst X5 hx (hb hby at_33) (1 : Int32) (by first | rfl | decide) (rfl : 33 + 1 = 34) ?_
  obtain ⟨_, _, ⟨T7, L7, k7, n7⟩, -, X7, ⟨Lc7, hQ7, l7, y7, z7⟩, st7⟩ := Jvm.LawKit.callS X5 hx (y := (⟨"com/example/linkwise/linkwise/graph/LinkGraphFirstAtOrAfterPinLaw", "next", "(IJII)I"⟩ : MethodName)) hown (mvT hZ (hw _ (List.mem_of_getElem? (i := 1) rfl))) (mvT hZ (hw _ (List.mem_of_getElem? (i := 2) rfl))) (mvT hZ (hw _ (List.mem_of_getElem? (i := 3) rfl))) (mvT hZ (hw _ (List.mem_of_getElem? (i := 4) rfl))) (by decide) (backOf (W := 2) (rm1 l Z a0 hw [] x1 qd ps (1 : Int32)  h5 n0 z5 ) hZ (hw _ (List.mem_of_getElem? (i := 4) rfl)) (hw _ (List.mem_of_getElem? (i := 3) rfl)) (by decide) (by decide)) (g := (mkF m 34 #[.val (.int pb), .val (.long qd), .second, .val (.int ps), .val (.int pf), .val (.long qv), .second, .val (.int pm), .val (.ref arr), .unset, .unset, .unset, .unset, .unset, .unset, .unset] [(.int (1 : Int32)), (.int ps), (.long qd), (.int x1), (.int (2 : Int32)), (.ref arr)])) rfl (by rw [hml]; rfl) (argsL := [(.int x1), (.long qd), (.int ps), (.int (1 : Int32))]) (rest := [(.int (2 : Int32)), (.ref arr)]) (lenOf own_pd__IJII_I rfl) rfl (by show 2 * 0 + _ ≤ _; exact Nat.le_of_eq rfl) (hb hby at_34) (fun _ _ => ⟨rfl, e5, (by decide : 1 + 0 ≤ _), (by decide : 5 + 0 ≤ _)⟩)
  dsimp only [Pt.U, Pt.locs, Pt.cells, Pt.slots] at X7 l7 y7 z7 st7 hQ7
  subst l7 y7 z7
  obtain ⟨rfl, N7q, e7⟩ := hQ7
  have N7 := Fr.app N5 N7q
  refine own_W.step st7 ?_
  show own_W p e (FrameEnd s) below room_1.cells room_1.slots (Q0 Z pb qd ps pf qv pm h0 n0) T7 (mkF m 37 #[.val (.int pb), .val (.long qd), .second, .val (.int ps), .val (.int pf), .val (.long qv), .second, .val (.int pm), .val (.ref arr), .unset, .unset, .unset, .unset, .unset, .unset, .unset] [(.int (own_next x1 qd ps (1 : Int32))), (.int (2 : Int32)), (.ref arr)])
  obtain ⟨x2, hx2⟩ : ∃ z : Int32, z = (own_next x1 qd ps (1 : Int32)) := ⟨_, rfl⟩
  rw [← hx2]
  show own_W p e (FrameEnd s) below room_1.cells room_1.slots (Q0 Z pb qd ps pf qv pm h0 n0) T7 (mkF m 37 #[.val (.int pb), .val (.long qd), .second, .val (.int ps), .val (.int pf), .val (.long qv), .second, .val (.int pm), .val (.ref arr), .unset, .unset, .unset, .unset, .unset, .unset, .unset] [(.int x2), (.int (2 : Int32)), (.ref arr)])
  have hi8 : own_In (2 : Int32) (2) (5) := ⟨by decide, by decide⟩
  obtain ⟨T8, h8, X8, e8, W8, V8, st8⟩ := own_stI X7 hx hZ e7 U5 hi8 (g := (mkF m 37 #[.val (.int pb), .val (.long qd), .second, .val (.int ps), .val (.int pf), .val (.long qv), .second, .val (.int pm), .val (.ref arr), .unset, .unset, .unset, .unset, .unset, .unset, .unset] [(.int x2), (.int (2 : Int32)), (.ref arr)])) rfl rfl (hb hby at_37)
  refine own_W.step st8 ?_
  have N8 := Fr.snoc X8 N7 g_arr
  have U8 : own_A Z h8 arr .int (5) (fun z => .int (own_L [pb, x1, x2] z)) := V8.congr (fun z hz => by rcases z with _ | _ | _ | _ | _ | z <;> first | rfl | omega)
  have z8 : n0 ≤ h8.size := by rw [W8.size]; exact z5
  show own_W p e (FrameEnd s) below room_1.cells room_1.slots (Q0 Z pb qd ps pf qv pm h0 n0) T8 (mkF m 38 #[.val (.int pb), .val (.long qd), .second, .val (.int ps), .val (.int pf), .val (.long qv), .second, .val (.int pm), .val (.ref arr), .unset, .unset, .unset, .unset, .unset, .unset, .unset] [])
  refine own_aload X8 hx (hb hby at_38) (v := (.ref arr)) rfl rfl (rfl : 38 + 2 = 40) ?_
  refine own_iconst X8 hx (hb hby at_40) (3 : Int32) (by first | rfl | decide) (rfl : 40 + 1 = 41) ?_
  refine own_aload X8 hx (hb hby at_41) (v := (.ref arr)) rfl rfl (rfl : 41 + 2 = 43) ?_
  refine own_iconst X8 hx (hb hby at_43) (2 : Int32) (by first | rfl | decide) (rfl : 43 + 1 = 44) ?_
  have hi9 : own_In (2 : Int32) (2) (5) := ⟨by decide, by decide⟩
  refine own_iaload X8 hx hZ e8 U8 hi9 (v := x2) rfl (g := (mkF m 44 #[.val (.int pb), .val (.long qd), .second, .val (.int ps), .val (.int pf), .val (.long qv), .second, .val (.int pm), .val (.ref arr), .unset, .unset, .unset, .unset, .unset, .unset, .unset] [(.int (2 : Int32)), (.ref arr), (.int (3 : Int32)), (.ref arr)])) rfl rfl (hb hby at_44) ?_
  show own_W p e (FrameEnd s) below room_1.cells room_1.slots (Q0 Z pb qd ps pf qv pm h0 n0) T8 (mkF m 45 #[.val (.int pb), .val (.long qd), .second, .val (.int ps), .val (.int pf), .val (.long qv), .second, .val (.int pm), .val (.ref arr), .unset, .unset, .unset, .unset, .unset, .unset, .unset] [(.int x2), (.int (3 : Int32)), (.ref arr)])
  refine own_lloadN X8 hx (hb hby at_45) (v := qd) rfl (rfl : 45 + 1 = 46) ?_
  refine own_iloadN X8 hx (hb hby at_46) (v := ps) rfl (rfl : 46 + 1 = 47) ?_
  refine own_iconst X8 hx (hb hby at_47) (2 : Int32) (by first | rfl | decide) (rfl : 47 + 1 = 48) ?_
  obtain ⟨_, _, ⟨T10, L10, k10, n10⟩, -, X10, ⟨Lc10, hQ10, l10, y10, z10⟩, st10⟩ := Jvm.LawKit.callS X8 hx (y := (⟨"com/example/linkwise/linkwise/graph/LinkGraphFirstAtOrAfterPinLaw", "next", "(IJII)I"⟩ : MethodName)) hown (mvT hZ (hw _ (List.mem_of_getElem? (i := 1) rfl))) (mvT hZ (hw _ (List.mem_of_getElem? (i := 2) rfl))) (mvT hZ (hw _ (List.mem_of_getElem? (i := 3) rfl))) (mvT hZ (hw _ (List.mem_of_getElem? (i := 4) rfl))) (by decide) (backOf (W := 2) (rm1 l Z a0 hw [] x2 qd ps (2 : Int32)  h8 n0 z8 ) hZ (hw _ (List.mem_of_getElem? (i := 4) rfl)) (hw _ (List.mem_of_getElem? (i := 3) rfl)) (by decide) (by decide)) (g := (mkF m 48 #[.val (.int pb), .val (.long qd), .second, .val (.int ps), .val (.int pf), .val (.long qv), .second, .val (.int pm), .val (.ref arr), .unset, .unset, .unset, .unset, .unset, .unset, .unset] [(.int (2 : Int32)), (.int ps), (.long qd), (.int x2), (.int (3 : Int32)), (.ref arr)])) rfl (by rw [hml]; rfl) (argsL := [(.int x2), (.long qd), (.int ps), (.int (2 : Int32))]) (rest := [(.int (3 : Int32)), (.ref arr)]) (lenOf own_pd__IJII_I rfl) rfl (by show 2 * 0 + _ ≤ _; exact Nat.le_of_eq rfl) (hb hby at_48) (fun _ _ => ⟨rfl, e8, (by decide : 1 + 0 ≤ _), (by decide : 5 + 0 ≤ _)⟩)
  dsimp only [Pt.U, Pt.locs, Pt.cells, Pt.slots] at X10 l10 y10 z10 st10 hQ10
  subst l10 y10 z10
  obtain ⟨rfl, N10q, e10⟩ := hQ10
  have N10 := Fr.app N8 N10q
  refine own_W.step st10 ?_
  show own_W p e (FrameEnd s) below room_1.cells room_1.slots (Q0 Z pb qd ps pf qv pm h0 n0) T10 (mkF m 51 #[.val (.int pb), .val (.long qd), .second, .val (.int ps), .val (.int pf), .val (.long qv), .second, .val (.int pm), .val (.ref arr), .unset, .unset, .unset, .unset, .unset, .unset, .unset] [(.int (own_next x2 qd ps (2 : Int32))), (.int (3 : Int32)), (.ref arr)])
  obtain ⟨x3, hx3⟩ : ∃ z : Int32, z = (own_next x2 qd ps (2 : Int32)) := ⟨_, rfl⟩
  rw [← hx3]
  show own_W p e (FrameEnd s) below room_1.cells room_1.slots (Q0 Z pb qd ps pf qv pm h0 n0) T10 (mkF m 51 #[.val (.int pb), .val (.long qd), .second, .val (.int ps), .val (.int pf), .val (.long qv), .second, .val (.int pm), .val (.ref arr), .unset, .unset, .unset, .unset, .unset, .unset, .unset] [(.int x3), (.int (3 : Int32)), (.ref arr)])
  have hi11 : own_In (3 : Int32) (3) (5) := ⟨by decide, by decide⟩
  obtain ⟨T11, h11, X11, e11, W11, V11, st11⟩ := own_stI X10 hx hZ e10 U8 hi11 (g := (mkF m 51 #[.val (.int pb), .val (.long qd), .second, .val (.int ps), .val (.int pf), .val (.long qv), .second, .val (.int pm), .val (.ref arr), .unset, .unset, .unset, .unset, .unset, .unset, .unset] [(.int x3), (.int (3 : Int32)), (.ref arr)])) rfl rfl (hb hby at_51)
  refine own_W.step st11 ?_
  have N11 := Fr.snoc X11 N10 g_arr
  have U11 : own_A Z h11 arr .int (5) (fun z => .int (own_L [pb, x1, x2, x3] z)) := V11.congr (fun z hz => by rcases z with _ | _ | _ | _ | _ | z <;> first | rfl | omega)
  have z11 : n0 ≤ h11.size := by rw [W11.size]; exact z8
  show own_W p e (FrameEnd s) below room_1.cells room_1.slots (Q0 Z pb qd ps pf qv pm h0 n0) T11 (mkF m 52 #[.val (.int pb), .val (.long qd), .second, .val (.int ps), .val (.int pf), .val (.long qv), .second, .val (.int pm), .val (.ref arr), .unset, .unset, .unset, .unset, .unset, .unset, .unset] [])
  refine own_aload X11 hx (hb hby at_52) (v := (.ref arr)) rfl rfl (rfl : 52 + 2 = 54) ?_
  refine own_iconst X11 hx (hb hby at_54) (4 : Int32) (by first | rfl | decide) (rfl : 54 + 1 = 55) ?_
  refine own_aload X11 hx (hb hby at_55) (v := (.ref arr)) rfl rfl (rfl : 55 + 2 = 57) ?_
  refine own_iconst X11 hx (hb hby at_57) (3 : Int32) (by first | rfl | decide) (rfl : 57 + 1 = 58) ?_
  have hi12 : own_In (3 : Int32) (3) (5) := ⟨by decide, by decide⟩
  refine own_iaload X11 hx hZ e11 U11 hi12 (v := x3) rfl (g := (mkF m 58 #[.val (.int pb), .val (.long qd), .second, .val (.int ps), .val (.int pf), .val (.long qv), .second, .val (.int pm), .val (.ref arr), .unset, .unset, .unset, .unset, .unset, .unset, .unset] [(.int (3 : Int32)), (.ref arr), (.int (4 : Int32)), (.ref arr)])) rfl rfl (hb hby at_58) ?_
  show own_W p e (FrameEnd s) below room_1.cells room_1.slots (Q0 Z pb qd ps pf qv pm h0 n0) T11 (mkF m 59 #[.val (.int pb), .val (.long qd), .second, .val (.int ps), .val (.int pf), .val (.long qv), .second, .val (.int pm), .val (.ref arr), .unset, .unset, .unset, .unset, .unset, .unset, .unset] [(.int x3), (.int (4 : Int32)), (.ref arr)])
  refine own_lloadN X11 hx (hb hby at_59) (v := qd) rfl (rfl : 59 + 1 = 60) ?_
  refine own_iloadN X11 hx (hb hby at_60) (v := ps) rfl (rfl : 60 + 1 = 61) ?_
  refine own_iconst X11 hx (hb hby at_61) (3 : Int32) (by first | rfl | decide) (rfl : 61 + 1 = 62) ?_
  obtain ⟨_, _, ⟨T13, L13, k13, n13⟩, -, X13, ⟨Lc13, hQ13, l13, y13, z13⟩, st13⟩ := Jvm.LawKit.callS X11 hx (y := (⟨"com/example/linkwise/linkwise/graph/LinkGraphFirstAtOrAfterPinLaw", "next", "(IJII)I"⟩ : MethodName)) hown (mvT hZ (hw _ (List.mem_of_getElem? (i := 1) rfl))) (mvT hZ (hw _ (List.mem_of_getElem? (i := 2) rfl))) (mvT hZ (hw _ (List.mem_of_getElem? (i := 3) rfl))) (mvT hZ (hw _ (List.mem_of_getElem? (i := 4) rfl))) (by decide) (backOf (W := 2) (rm1 l Z a0 hw [] x3 qd ps (3 : Int32)  h11 n0 z11 ) hZ (hw _ (List.mem_of_getElem? (i := 4) rfl)) (hw _ (List.mem_of_getElem? (i := 3) rfl)) (by decide) (by decide)) (g := (mkF m 62 #[.val (.int pb), .val (.long qd), .second, .val (.int ps), .val (.int pf), .val (.long qv), .second, .val (.int pm), .val (.ref arr), .unset, .unset, .unset, .unset, .unset, .unset, .unset] [(.int (3 : Int32)), (.int ps), (.long qd), (.int x3), (.int (4 : Int32)), (.ref arr)])) rfl (by rw [hml]; rfl) (argsL := [(.int x3), (.long qd), (.int ps), (.int (3 : Int32))]) (rest := [(.int (4 : Int32)), (.ref arr)]) (lenOf own_pd__IJII_I rfl) rfl (by show 2 * 0 + _ ≤ _; exact Nat.le_of_eq rfl) (hb hby at_62) (fun _ _ => ⟨rfl, e11, (by decide : 1 + 0 ≤ _), (by decide : 5 + 0 ≤ _)⟩)
  dsimp only [Pt.U, Pt.locs, Pt.cells, Pt.slots] at X13 l13 y13 z13 st13 hQ13
  subst l13 y13 z13
  obtain ⟨rfl, N13q, e13⟩ := hQ13
  have N13 := Fr.app N11 N13q
  refine own_W.step st13 ?_
  show own_W p e (FrameEnd s) below room_1.cells room_1.slots (Q0 Z pb qd ps pf qv pm h0 n0) T13 (mkF m 65 #[.val (.int pb), .val (.long qd), .second, .val (.int ps), .val (.int pf), .val (.long qv), .second, .val (.int pm), .val (.ref arr), .unset, .unset, .unset, .unset, .unset, .unset, .unset] [(.int (own_next x3 qd ps (3 : Int32))), (.int (4 : Int32)), (.ref arr)])
  obtain ⟨x4, hx4⟩ : ∃ z : Int32, z = (own_next x3 qd ps (3 : Int32)) := ⟨_, rfl⟩
  rw [← hx4]
  show own_W p e (FrameEnd s) below room_1.cells room_1.slots (Q0 Z pb qd ps pf qv pm h0 n0) T13 (mkF m 65 #[.val (.int pb), .val (.long qd), .second, .val (.int ps), .val (.int pf), .val (.long qv), .second, .val (.int pm), .val (.ref arr), .unset, .unset, .unset, .unset, .unset, .unset, .unset] [(.int x4), (.int (4 : Int32)), (.ref arr)])
  have hi14 : own_In (4 : Int32) (4) (5) := ⟨by decide, by decide⟩
  obtain ⟨T14, h14, X14, e14, W14, V14, st14⟩ := own_stI X13 hx hZ e13 U11 hi14 (g := (mkF m 65 #[.val (.int pb), .val (.long qd), .second, .val (.int ps), .val (.int pf), .val (.long qv), .second, .val (.int pm), .val (.ref arr), .unset, .unset, .unset, .unset, .unset, .unset, .unset] [(.int x4), (.int (4 : Int32)), (.ref arr)])) rfl rfl (hb hby at_65)
  refine own_W.step st14 ?_
  have N14 := Fr.snoc X14 N13 g_arr
  have U14 : own_A Z h14 arr .int (5) (fun z => .int (own_L [pb, x1, x2, x3, x4] z)) := V14.congr (fun z hz => by rcases z with _ | _ | _ | _ | _ | z <;> first | rfl | omega)
  have z14 : n0 ≤ h14.size := by rw [W14.size]; exact z11
  show own_W p e (FrameEnd s) below room_1.cells room_1.slots (Q0 Z pb qd ps pf qv pm h0 n0) T14 (mkF m 66 #[.val (.int pb), .val (.long qd), .second, .val (.int ps), .val (.int pf), .val (.long qv), .second, .val (.int pm), .val (.ref arr), .unset, .unset, .unset, .unset, .unset, .unset, .unset] [])
  refine own_iload X14 hx (hb hby at_66) (v := pf) rfl (rfl : 66 + 2 = 68) ?_
  refine own_ldcInt X14 hx hown (mvT hZ (hw _ (List.mem_of_getElem? (i := 11) rfl))) (hb hby at_68) (rfl : 68 + 2 = 70) ?_
  refine own_iand X14 hx (hb hby at_70) (rfl : 70 + 1 = 71) ?_
  refine own_bipush X14 hx (hb hby at_71) (6 : Int32) (by first | rfl | decide) (rfl : 71 + 2 = 73) ?_
  refine own_irem X14 hx (hb hby at_73) (by decide) (rfl : 73 + 1 = 74) ?_
  refine own_istore X14 hx (hb hby at_74) (l' := #[.val (.int pb), .val (.long qd), .second, .val (.int ps), .val (.int pf), .val (.long qv), .second, .val (.int pm), .val (.ref arr), .val (.int ((pf &&& (2147483647 : Int32)) % (6 : Int32))), .unset, .unset, .unset, .unset, .unset, .unset]) rfl (rfl : 74 + 2 = 76) ?_
  obtain ⟨xx, hxx⟩ : ∃ z : Int32, z = ((pf &&& (2147483647 : Int32)) % (6 : Int32)) := ⟨_, rfl⟩
  rw [← hxx]
  show own_W p e (FrameEnd s) below room_1.cells room_1.slots (Q0 Z pb qd ps pf qv pm h0 n0) T14 (mkF m 76 #[.val (.int pb), .val (.long qd), .second, .val (.int ps), .val (.int pf), .val (.long qv), .second, .val (.int pm), .val (.ref arr), .val (.int xx), .unset, .unset, .unset, .unset, .unset, .unset] [])
  refine own_iload X14 hx (hb hby at_76) (v := pf) rfl (rfl : 76 + 2 = 78) ?_
  refine own_bipush X14 hx (hb hby at_78) (8 : Int32) (by first | rfl | decide) (rfl : 78 + 2 = 80) ?_
  refine own_iushr X14 hx (hb hby at_80) (rfl : 80 + 1 = 81) ?_
  refine own_ldcInt X14 hx hown (mvT hZ (hw _ (List.mem_of_getElem? (i := 11) rfl))) (hb hby at_81) (rfl : 81 + 2 = 83) ?_
  refine own_iand X14 hx (hb hby at_83) (rfl : 83 + 1 = 84) ?_
  refine own_bipush X14 hx (hb hby at_84) (6 : Int32) (by first | rfl | decide) (rfl : 84 + 2 = 86) ?_
  refine own_irem X14 hx (hb hby at_86) (by decide) (rfl : 86 + 1 = 87) ?_
  refine own_istore X14 hx (hb hby at_87) (l' := #[.val (.int pb), .val (.long qd), .second, .val (.int ps), .val (.int pf), .val (.long qv), .second, .val (.int pm), .val (.ref arr), .val (.int xx), .val (.int ((((pf.toUInt32 >>> ((8 : Int32) &&& 31).toUInt32).toInt32) &&& (2147483647 : Int32)) % (6 : Int32))), .unset, .unset, .unset, .unset, .unset]) rfl (rfl : 87 + 2 = 89) ?_
  obtain ⟨yy, hyy⟩ : ∃ z : Int32, z = ((((pf.toUInt32 >>> ((8 : Int32) &&& 31).toUInt32).toInt32) &&& (2147483647 : Int32)) % (6 : Int32)) := ⟨_, rfl⟩
  rw [← hyy]
  show own_W p e (FrameEnd s) below room_1.cells room_1.slots (Q0 Z pb qd ps pf qv pm h0 n0) T14 (mkF m 89 #[.val (.int pb), .val (.long qd), .second, .val (.int ps), .val (.int pf), .val (.long qv), .second, .val (.int pm), .val (.ref arr), .val (.int xx), .val (.int yy), .unset, .unset, .unset, .unset, .unset] [])
  refine own_iload X14 hx (hb hby at_89) (v := xx) rfl (rfl : 89 + 2 = 91) ?_
  refine own_iload X14 hx (hb hby at_91) (v := yy) rfl (rfl : 91 + 2 = 93) ?_
  obtain ⟨_, _, ⟨T15, L15, k15, n15⟩, -, X15, ⟨Lc15, hQ15, l15, y15, z15⟩, st15⟩ := Jvm.LawKit.callS X14 hx (y := (⟨"java/lang/Math", "min", "(II)I"⟩ : MethodName)) hown (mvT hZ (hw _ (List.mem_of_getElem? (i := 12) rfl))) (mvT hZ (hw _ (List.mem_of_getElem? (i := 13) rfl))) (mvT hZ (hw _ (List.mem_of_getElem? (i := 9) rfl))) (mvT hZ (hw _ (List.mem_of_getElem? (i := 14) rfl))) (by decide) (backOf (W := 0) (rm3 l Z a0 hw [] xx yy  h14 n0 z14 ) hZ (hw _ (List.mem_of_getElem? (i := 14) rfl)) (hw _ (List.mem_of_getElem? (i := 9) rfl)) (by decide) (by decide)) (g := (mkF m 93 #[.val (.int pb), .val (.long qd), .second, .val (.int ps), .val (.int pf), .val (.long qv), .second, .val (.int pm), .val (.ref arr), .val (.int xx), .val (.int yy), .unset, .unset, .unset, .unset, .unset] [(.int yy), (.int xx)])) rfl (by rw [hml]; rfl) (argsL := [(.int xx), (.int yy)]) (rest := []) (lenOf own_pd__II_I rfl) rfl (by show 2 * 0 + _ ≤ _; exact Nat.le_of_eq rfl) (hb hby at_93) (fun _ _ => ⟨rfl, e14, (by decide : 1 + 0 ≤ _), (by decide : 5 + 0 ≤ _)⟩)
  dsimp only [Pt.U, Pt.locs, Pt.cells, Pt.slots] at X15 l15 y15 z15 st15 hQ15
  subst l15 y15 z15
  obtain ⟨rfl, N15q, e15⟩ := hQ15
  have N15 := Fr.app N14 N15q
  refine own_W.step st15 ?_
  show own_W p e (FrameEnd s) below room_1.cells room_1.slots (Q0 Z pb qd ps pf qv pm h0 n0) T15 (mkF m 96 #[.val (.int pb), .val (.long qd), .second, .val (.int ps), .val (.int pf), .val (.long qv), .second, .val (.int pm), .val (.ref arr), .val (.int xx), .val (.int yy), .unset, .unset, .unset, .unset, .unset] [(.int (own_imin xx yy))])
  refine own_istore X15 hx (hb hby at_96) (l' := #[.val (.int pb), .val (.long qd), .second, .val (.int ps), .val (.int pf), .val (.long qv), .second, .val (.int pm), .val (.ref arr), .val (.int xx), .val (.int yy), .val (.int (own_imin xx yy)), .unset, .unset, .unset, .unset]) rfl (rfl : 96 + 2 = 98) ?_
  obtain ⟨fr, hfr⟩ : ∃ z : Int32, z = (own_imin xx yy) := ⟨_, rfl⟩
  rw [← hfr]
  show own_W p e (FrameEnd s) below room_1.cells room_1.slots (Q0 Z pb qd ps pf qv pm h0 n0) T15 (mkF m 98 #[.val (.int pb), .val (.long qd), .second, .val (.int ps), .val (.int pf), .val (.long qv), .second, .val (.int pm), .val (.ref arr), .val (.int xx), .val (.int yy), .val (.int fr), .unset, .unset, .unset, .unset] [])
  refine own_iload X15 hx (hb hby at_98) (v := xx) rfl (rfl : 98 + 2 = 100) ?_
  refine own_iload X15 hx (hb hby at_100) (v := yy) rfl (rfl : 100 + 2 = 102) ?_
  obtain ⟨_, _, ⟨T16, L16, k16, n16⟩, -, X16, ⟨Lc16, hQ16, l16, y16, z16⟩, st16⟩ := Jvm.LawKit.callS X15 hx (y := (⟨"java/lang/Math", "max", "(II)I"⟩ : MethodName)) hown (mvT hZ (hw _ (List.mem_of_getElem? (i := 15) rfl))) (mvT hZ (hw _ (List.mem_of_getElem? (i := 16) rfl))) (mvT hZ (hw _ (List.mem_of_getElem? (i := 9) rfl))) (mvT hZ (hw _ (List.mem_of_getElem? (i := 17) rfl))) (by decide) (backOf (W := 0) (rm4 l Z a0 hw [] xx yy  h14 n0 z14 ) hZ (hw _ (List.mem_of_getElem? (i := 17) rfl)) (hw _ (List.mem_of_getElem? (i := 9) rfl)) (by decide) (by decide)) (g := (mkF m 102 #[.val (.int pb), .val (.long qd), .second, .val (.int ps), .val (.int pf), .val (.long qv), .second, .val (.int pm), .val (.ref arr), .val (.int xx), .val (.int yy), .val (.int fr), .unset, .unset, .unset, .unset] [(.int yy), (.int xx)])) rfl (by rw [hml]; rfl) (argsL := [(.int xx), (.int yy)]) (rest := []) (lenOf own_pd__II_I rfl) rfl (by show 2 * 0 + _ ≤ _; exact Nat.le_of_eq rfl) (hb hby at_102) (fun _ _ => ⟨rfl, e15, (by decide : 1 + 0 ≤ _), (by decide : 5 + 0 ≤ _)⟩)
  dsimp only [Pt.U, Pt.locs, Pt.cells, Pt.slots] at X16 l16 y16 z16 st16 hQ16
  subst l16 y16 z16
  obtain ⟨rfl, N16q, e16⟩ := hQ16
  have N16 := Fr.app N15 N16q
  refine own_W.step st16 ?_
  show own_W p e (FrameEnd s) below room_1.cells room_1.slots (Q0 Z pb qd ps pf qv pm h0 n0) T16 (mkF m 105 #[.val (.int pb), .val (.long qd), .second, .val (.int ps), .val (.int pf), .val (.long qv), .second, .val (.int pm), .val (.ref arr), .val (.int xx), .val (.int yy), .val (.int fr), .unset, .unset, .unset, .unset] [(.int (own_imax xx yy))])
  refine own_istore X16 hx (hb hby at_105) (l' := #[.val (.int pb), .val (.long qd), .second, .val (.int ps), .val (.int pf), .val (.long qv), .second, .val (.int pm), .val (.ref arr), .val (.int xx), .val (.int yy), .val (.int fr), .val (.int (own_imax xx yy)), .unset, .unset, .unset]) rfl (rfl : 105 + 2 = 107) ?_
  obtain ⟨to, hto⟩ : ∃ z : Int32, z = (own_imax xx yy) := ⟨_, rfl⟩
  rw [← hto]
  show own_W p e (FrameEnd s) below room_1.cells room_1.slots (Q0 Z pb qd ps pf qv pm h0 n0) T16 (mkF m 107 #[.val (.int pb), .val (.long qd), .second, .val (.int ps), .val (.int pf), .val (.long qv), .second, .val (.int pm), .val (.ref arr), .val (.int xx), .val (.int yy), .val (.int fr), .val (.int to), .unset, .unset, .unset] [])
  have bft : 0 ≤ fr.toInt ∧ fr.toInt ≤ to.toInt ∧ to.toInt ≤ 5 := by rw [hfr, hto]; exact own_ft xx yy (hxx ▸ own_xy _) (hyy ▸ own_xy _)
  have hsr := own_srt pb x1 x2 x3 x4 (hx1 ▸ own_nextV _ _ _ _) (hx2 ▸ own_nextV _ _ _ _) (hx3 ▸ own_nextV _ _ _ _) (hx4 ▸ own_nextV _ _ _ _)
  refine own_iload X16 hx (hb hby at_107) (v := pm) rfl (rfl : 107 + 2 = 109) ?_
  refine own_iconst X16 hx (hb hby at_109) (1 : Int32) (by first | rfl | decide) (rfl : 109 + 1 = 110) ?_
  refine own_iand X16 hx (hb hby at_110) (rfl : 110 + 1 = 111) ?_
  have J154 : ∀ (vl : Int64), own_W p e (FrameEnd s) below room_1.cells room_1.slots (Q0 Z pb qd ps pf qv pm h0 n0) T16 (mkF m 154 #[.val (.int pb), .val (.long qd), .second, .val (.int ps), .val (.int pf), .val (.long qv), .second, .val (.int pm), .val (.ref arr), .val (.int xx), .val (.int yy), .val (.int fr), .val (.int to), .val (.long vl), .second, .val (.int to)] []) := by
    intro vl 
    refine own_aload X16 hx (hb hby at_154) (v := (.ref arr)) rfl rfl (rfl : 154 + 2 = 156) ?_
    refine own_iconst X16 hx (hb hby at_156) (4 : Int32) (by first | rfl | decide) (rfl : 156 + 1 = 157) ?_
    refine own_iload X16 hx (hb hby at_157) (v := fr) rfl (rfl : 157 + 2 = 159) ?_
    refine own_iload X16 hx (hb hby at_159) (v := to) rfl (rfl : 159 + 2 = 161) ?_
    refine own_lload X16 hx (hb hby at_161) (v := vl) rfl (rfl : 161 + 2 = 163) ?_
    refine own_iload X16 hx (hb hby at_163) (v := to) rfl (rfl : 163 + 2 = 165) ?_
    obtain ⟨_, _, ⟨T17, L17, k17, n17⟩, -, X17, ⟨Lc17, hQ17, l17, y17, z17⟩, st17⟩ := Jvm.LawKit.callS X16 hx (y := (⟨"com/example/linkwise/linkwise/graph/LinkGraphFirstAtOrAfterPinLaw", "pick", "([IIIIJI)I"⟩ : MethodName)) hown (mvT hZ (hw _ (List.mem_of_getElem? (i := 18) rfl))) (mvT hZ (hw _ (List.mem_of_getElem? (i := 19) rfl))) (mvT hZ (hw _ (List.mem_of_getElem? (i := 3) rfl))) (mvT hZ (hw _ (List.mem_of_getElem? (i := 20) rfl))) (by decide) (backOf (W := 0) (rm5 l Z a0 hw [] arr (4 : Int32) fr to vl to (own_L [pb, x1, x2, x3, x4]) 4 h14 n0 z14 U14 (⟨by decide, by decide⟩)) hZ (hw _ (List.mem_of_getElem? (i := 20) rfl)) (hw _ (List.mem_of_getElem? (i := 3) rfl)) (by decide) (by decide)) (g := (mkF m 165 #[.val (.int pb), .val (.long qd), .second, .val (.int ps), .val (.int pf), .val (.long qv), .second, .val (.int pm), .val (.ref arr), .val (.int xx), .val (.int yy), .val (.int fr), .val (.int to), .val (.long vl), .second, .val (.int to)] [(.int to), (.long vl), (.int to), (.int fr), (.int (4 : Int32)), (.ref arr)])) rfl (by rw [hml]; rfl) (argsL := [(.ref arr), (.int (4 : Int32)), (.int fr), (.int to), (.long vl), (.int to)]) (rest := []) (lenOf own_pd___IIIIJI_I rfl) rfl (by show 2 * 0 + _ ≤ _; exact Nat.le_of_eq rfl) (hb hby at_165) (fun _ _ => ⟨rfl, e16, (by decide : 1 + 0 ≤ _), (by decide : 5 + 0 ≤ _)⟩)
    dsimp only [Pt.U, Pt.locs, Pt.cells, Pt.slots] at X17 l17 y17 z17 st17 hQ17
    subst l17 y17 z17
    obtain ⟨rfl, N17q, e17⟩ := hQ17
    have N17 := Fr.app N16 N17q
    refine own_W.step st17 ?_
    show own_W p e (FrameEnd s) below room_1.cells room_1.slots (Q0 Z pb qd ps pf qv pm h0 n0) T17 (mkF m 168 #[.val (.int pb), .val (.long qd), .second, .val (.int ps), .val (.int pf), .val (.long qv), .second, .val (.int pm), .val (.ref arr), .val (.int xx), .val (.int yy), .val (.int fr), .val (.int to), .val (.long vl), .second, .val (.int to)] [(.int (own_pick ((own_L [pb, x1, x2, x3, x4]) 4) (4 : Int32) fr to vl to))])
    refine own_istore X17 hx (hb hby at_168) (l' := #[.val (.int pb), .val (.long qd), .second, .val (.int ps), .val (.int pf), .val (.long qv), .second, .val (.int pm), .val (.ref arr), .val (.int xx), .val (.int yy), .val (.int fr), .val (.int to), .val (.long vl), .second, .val (.int (own_pick ((own_L [pb, x1, x2, x3, x4]) 4) (4 : Int32) fr to vl to))]) rfl (rfl : 168 + 2 = 170) ?_
    obtain ⟨e4, he4⟩ : ∃ z : Int32, z = (own_pick ((own_L [pb, x1, x2, x3, x4]) 4) (4 : Int32) fr to vl to) := ⟨_, rfl⟩
    rw [← he4]
    show own_W p e (FrameEnd s) below room_1.cells room_1.slots (Q0 Z pb qd ps pf qv pm h0 n0) T17 (mkF m 170 #[.val (.int pb), .val (.long qd), .second, .val (.int ps), .val (.int pf), .val (.long qv), .second, .val (.int pm), .val (.ref arr), .val (.int xx), .val (.int yy), .val (.int fr), .val (.int to), .val (.long vl), .second, .val (.int e4)] [])
    have hk4 : own_found (fun z => own_L [pb, x1, x2, x3, x4] z) vl fr.toInt to.toInt 4 e4.toInt := by rw [he4]; exact own_pk (fun z => own_L [pb, x1, x2, x3, x4] z) vl fr to 4 (4 : Int32) to rfl (show own_found (fun z => own_L [pb, x1, x2, x3, x4] z) vl fr.toInt to.toInt 5 to.toInt from Or.inl ⟨rfl, fun z z1 z2 z3 => by omega⟩)
    refine own_aload X17 hx (hb hby at_170) (v := (.ref arr)) rfl rfl (rfl : 170 + 2 = 172) ?_
    refine own_iconst X17 hx (hb hby at_172) (3 : Int32) (by first | rfl | decide) (rfl : 172 + 1 = 173) ?_
    refine own_iload X17 hx (hb hby at_173) (v := fr) rfl (rfl : 173 + 2 = 175) ?_
    refine own_iload X17 hx (hb hby at_175) (v := to) rfl (rfl : 175 + 2 = 177) ?_
    refine own_lload X17 hx (hb hby at_177) (v := vl) rfl (rfl : 177 + 2 = 179) ?_
    refine own_iload X17 hx (hb hby at_179) (v := e4) rfl (rfl : 179 + 2 = 181) ?_
    obtain ⟨_, _, ⟨T18, L18, k18, n18⟩, -, X18, ⟨Lc18, hQ18, l18, y18, z18⟩, st18⟩ := Jvm.LawKit.callS X17 hx (y := (⟨"com/example/linkwise/linkwise/graph/LinkGraphFirstAtOrAfterPinLaw", "pick", "([IIIIJI)I"⟩ : MethodName)) hown (mvT hZ (hw _ (List.mem_of_getElem? (i := 18) rfl))) (mvT hZ (hw _ (List.mem_of_getElem? (i := 19) rfl))) (mvT hZ (hw _ (List.mem_of_getElem? (i := 3) rfl))) (mvT hZ (hw _ (List.mem_of_getElem? (i := 20) rfl))) (by decide) (backOf (W := 0) (rm5 l Z a0 hw [] arr (3 : Int32) fr to vl e4 (own_L [pb, x1, x2, x3, x4]) 3 h14 n0 z14 U14 (⟨by decide, by decide⟩)) hZ (hw _ (List.mem_of_getElem? (i := 20) rfl)) (hw _ (List.mem_of_getElem? (i := 3) rfl)) (by decide) (by decide)) (g := (mkF m 181 #[.val (.int pb), .val (.long qd), .second, .val (.int ps), .val (.int pf), .val (.long qv), .second, .val (.int pm), .val (.ref arr), .val (.int xx), .val (.int yy), .val (.int fr), .val (.int to), .val (.long vl), .second, .val (.int e4)] [(.int e4), (.long vl), (.int to), (.int fr), (.int (3 : Int32)), (.ref arr)])) rfl (by rw [hml]; rfl) (argsL := [(.ref arr), (.int (3 : Int32)), (.int fr), (.int to), (.long vl), (.int e4)]) (rest := []) (lenOf own_pd___IIIIJI_I rfl) rfl (by show 2 * 0 + _ ≤ _; exact Nat.le_of_eq rfl) (hb hby at_181) (fun _ _ => ⟨rfl, e17, (by decide : 1 + 0 ≤ _), (by decide : 5 + 0 ≤ _)⟩)
    dsimp only [Pt.U, Pt.locs, Pt.cells, Pt.slots] at X18 l18 y18 z18 st18 hQ18
    subst l18 y18 z18
    obtain ⟨rfl, N18q, e18⟩ := hQ18
    have N18 := Fr.app N17 N18q
    refine own_W.step st18 ?_
    show own_W p e (FrameEnd s) below room_1.cells room_1.slots (Q0 Z pb qd ps pf qv pm h0 n0) T18 (mkF m 184 #[.val (.int pb), .val (.long qd), .second, .val (.int ps), .val (.int pf), .val (.long qv), .second, .val (.int pm), .val (.ref arr), .val (.int xx), .val (.int yy), .val (.int fr), .val (.int to), .val (.long vl), .second, .val (.int e4)] [(.int (own_pick ((own_L [pb, x1, x2, x3, x4]) 3) (3 : Int32) fr to vl e4))])
    refine own_istore X18 hx (hb hby at_184) (l' := #[.val (.int pb), .val (.long qd), .second, .val (.int ps), .val (.int pf), .val (.long qv), .second, .val (.int pm), .val (.ref arr), .val (.int xx), .val (.int yy), .val (.int fr), .val (.int to), .val (.long vl), .second, .val (.int (own_pick ((own_L [pb, x1, x2, x3, x4]) 3) (3 : Int32) fr to vl e4))]) rfl (rfl : 184 + 2 = 186) ?_
    obtain ⟨e3, he3⟩ : ∃ z : Int32, z = (own_pick ((own_L [pb, x1, x2, x3, x4]) 3) (3 : Int32) fr to vl e4) := ⟨_, rfl⟩
    rw [← he3]
    show own_W p e (FrameEnd s) below room_1.cells room_1.slots (Q0 Z pb qd ps pf qv pm h0 n0) T18 (mkF m 186 #[.val (.int pb), .val (.long qd), .second, .val (.int ps), .val (.int pf), .val (.long qv), .second, .val (.int pm), .val (.ref arr), .val (.int xx), .val (.int yy), .val (.int fr), .val (.int to), .val (.long vl), .second, .val (.int e3)] [])
    have hk3 : own_found (fun z => own_L [pb, x1, x2, x3, x4] z) vl fr.toInt to.toInt 3 e3.toInt := by rw [he3]; exact own_pk (fun z => own_L [pb, x1, x2, x3, x4] z) vl fr to 3 (3 : Int32) e4 rfl hk4
    refine own_aload X18 hx (hb hby at_186) (v := (.ref arr)) rfl rfl (rfl : 186 + 2 = 188) ?_
    refine own_iconst X18 hx (hb hby at_188) (2 : Int32) (by first | rfl | decide) (rfl : 188 + 1 = 189) ?_
    refine own_iload X18 hx (hb hby at_189) (v := fr) rfl (rfl : 189 + 2 = 191) ?_
    refine own_iload X18 hx (hb hby at_191) (v := to) rfl (rfl : 191 + 2 = 193) ?_
    refine own_lload X18 hx (hb hby at_193) (v := vl) rfl (rfl : 193 + 2 = 195) ?_
    refine own_iload X18 hx (hb hby at_195) (v := e3) rfl (rfl : 195 + 2 = 197) ?_
    obtain ⟨_, _, ⟨T19, L19, k19, n19⟩, -, X19, ⟨Lc19, hQ19, l19, y19, z19⟩, st19⟩ := Jvm.LawKit.callS X18 hx (y := (⟨"com/example/linkwise/linkwise/graph/LinkGraphFirstAtOrAfterPinLaw", "pick", "([IIIIJI)I"⟩ : MethodName)) hown (mvT hZ (hw _ (List.mem_of_getElem? (i := 18) rfl))) (mvT hZ (hw _ (List.mem_of_getElem? (i := 19) rfl))) (mvT hZ (hw _ (List.mem_of_getElem? (i := 3) rfl))) (mvT hZ (hw _ (List.mem_of_getElem? (i := 20) rfl))) (by decide) (backOf (W := 0) (rm5 l Z a0 hw [] arr (2 : Int32) fr to vl e3 (own_L [pb, x1, x2, x3, x4]) 2 h14 n0 z14 U14 (⟨by decide, by decide⟩)) hZ (hw _ (List.mem_of_getElem? (i := 20) rfl)) (hw _ (List.mem_of_getElem? (i := 3) rfl)) (by decide) (by decide)) (g := (mkF m 197 #[.val (.int pb), .val (.long qd), .second, .val (.int ps), .val (.int pf), .val (.long qv), .second, .val (.int pm), .val (.ref arr), .val (.int xx), .val (.int yy), .val (.int fr), .val (.int to), .val (.long vl), .second, .val (.int e3)] [(.int e3), (.long vl), (.int to), (.int fr), (.int (2 : Int32)), (.ref arr)])) rfl (by rw [hml]; rfl) (argsL := [(.ref arr), (.int (2 : Int32)), (.int fr), (.int to), (.long vl), (.int e3)]) (rest := []) (lenOf own_pd___IIIIJI_I rfl) rfl (by show 2 * 0 + _ ≤ _; exact Nat.le_of_eq rfl) (hb hby at_197) (fun _ _ => ⟨rfl, e18, (by decide : 1 + 0 ≤ _), (by decide : 5 + 0 ≤ _)⟩)
    dsimp only [Pt.U, Pt.locs, Pt.cells, Pt.slots] at X19 l19 y19 z19 st19 hQ19
    subst l19 y19 z19
    obtain ⟨rfl, N19q, e19⟩ := hQ19
    have N19 := Fr.app N18 N19q
    refine own_W.step st19 ?_
    show own_W p e (FrameEnd s) below room_1.cells room_1.slots (Q0 Z pb qd ps pf qv pm h0 n0) T19 (mkF m 200 #[.val (.int pb), .val (.long qd), .second, .val (.int ps), .val (.int pf), .val (.long qv), .second, .val (.int pm), .val (.ref arr), .val (.int xx), .val (.int yy), .val (.int fr), .val (.int to), .val (.long vl), .second, .val (.int e3)] [(.int (own_pick ((own_L [pb, x1, x2, x3, x4]) 2) (2 : Int32) fr to vl e3))])
    refine own_istore X19 hx (hb hby at_200) (l' := #[.val (.int pb), .val (.long qd), .second, .val (.int ps), .val (.int pf), .val (.long qv), .second, .val (.int pm), .val (.ref arr), .val (.int xx), .val (.int yy), .val (.int fr), .val (.int to), .val (.long vl), .second, .val (.int (own_pick ((own_L [pb, x1, x2, x3, x4]) 2) (2 : Int32) fr to vl e3))]) rfl (rfl : 200 + 2 = 202) ?_
    obtain ⟨e2, he2⟩ : ∃ z : Int32, z = (own_pick ((own_L [pb, x1, x2, x3, x4]) 2) (2 : Int32) fr to vl e3) := ⟨_, rfl⟩
    rw [← he2]
    show own_W p e (FrameEnd s) below room_1.cells room_1.slots (Q0 Z pb qd ps pf qv pm h0 n0) T19 (mkF m 202 #[.val (.int pb), .val (.long qd), .second, .val (.int ps), .val (.int pf), .val (.long qv), .second, .val (.int pm), .val (.ref arr), .val (.int xx), .val (.int yy), .val (.int fr), .val (.int to), .val (.long vl), .second, .val (.int e2)] [])
    have hk2 : own_found (fun z => own_L [pb, x1, x2, x3, x4] z) vl fr.toInt to.toInt 2 e2.toInt := by rw [he2]; exact own_pk (fun z => own_L [pb, x1, x2, x3, x4] z) vl fr to 2 (2 : Int32) e3 rfl hk3
    refine own_aload X19 hx (hb hby at_202) (v := (.ref arr)) rfl rfl (rfl : 202 + 2 = 204) ?_
    refine own_iconst X19 hx (hb hby at_204) (1 : Int32) (by first | rfl | decide) (rfl : 204 + 1 = 205) ?_
    refine own_iload X19 hx (hb hby at_205) (v := fr) rfl (rfl : 205 + 2 = 207) ?_
    refine own_iload X19 hx (hb hby at_207) (v := to) rfl (rfl : 207 + 2 = 209) ?_
    refine own_lload X19 hx (hb hby at_209) (v := vl) rfl (rfl : 209 + 2 = 211) ?_
    refine own_iload X19 hx (hb hby at_211) (v := e2) rfl (rfl : 211 + 2 = 213) ?_
    obtain ⟨_, _, ⟨T20, L20, k20, n20⟩, -, X20, ⟨Lc20, hQ20, l20, y20, z20⟩, st20⟩ := Jvm.LawKit.callS X19 hx (y := (⟨"com/example/linkwise/linkwise/graph/LinkGraphFirstAtOrAfterPinLaw", "pick", "([IIIIJI)I"⟩ : MethodName)) hown (mvT hZ (hw _ (List.mem_of_getElem? (i := 18) rfl))) (mvT hZ (hw _ (List.mem_of_getElem? (i := 19) rfl))) (mvT hZ (hw _ (List.mem_of_getElem? (i := 3) rfl))) (mvT hZ (hw _ (List.mem_of_getElem? (i := 20) rfl))) (by decide) (backOf (W := 0) (rm5 l Z a0 hw [] arr (1 : Int32) fr to vl e2 (own_L [pb, x1, x2, x3, x4]) 1 h14 n0 z14 U14 (⟨by decide, by decide⟩)) hZ (hw _ (List.mem_of_getElem? (i := 20) rfl)) (hw _ (List.mem_of_getElem? (i := 3) rfl)) (by decide) (by decide)) (g := (mkF m 213 #[.val (.int pb), .val (.long qd), .second, .val (.int ps), .val (.int pf), .val (.long qv), .second, .val (.int pm), .val (.ref arr), .val (.int xx), .val (.int yy), .val (.int fr), .val (.int to), .val (.long vl), .second, .val (.int e2)] [(.int e2), (.long vl), (.int to), (.int fr), (.int (1 : Int32)), (.ref arr)])) rfl (by rw [hml]; rfl) (argsL := [(.ref arr), (.int (1 : Int32)), (.int fr), (.int to), (.long vl), (.int e2)]) (rest := []) (lenOf own_pd___IIIIJI_I rfl) rfl (by show 2 * 0 + _ ≤ _; exact Nat.le_of_eq rfl) (hb hby at_213) (fun _ _ => ⟨rfl, e19, (by decide : 1 + 0 ≤ _), (by decide : 5 + 0 ≤ _)⟩)
    dsimp only [Pt.U, Pt.locs, Pt.cells, Pt.slots] at X20 l20 y20 z20 st20 hQ20
    subst l20 y20 z20
    obtain ⟨rfl, N20q, e20⟩ := hQ20
    have N20 := Fr.app N19 N20q
    refine own_W.step st20 ?_
    show own_W p e (FrameEnd s) below room_1.cells room_1.slots (Q0 Z pb qd ps pf qv pm h0 n0) T20 (mkF m 216 #[.val (.int pb), .val (.long qd), .second, .val (.int ps), .val (.int pf), .val (.long qv), .second, .val (.int pm), .val (.ref arr), .val (.int xx), .val (.int yy), .val (.int fr), .val (.int to), .val (.long vl), .second, .val (.int e2)] [(.int (own_pick ((own_L [pb, x1, x2, x3, x4]) 1) (1 : Int32) fr to vl e2))])
    refine own_istore X20 hx (hb hby at_216) (l' := #[.val (.int pb), .val (.long qd), .second, .val (.int ps), .val (.int pf), .val (.long qv), .second, .val (.int pm), .val (.ref arr), .val (.int xx), .val (.int yy), .val (.int fr), .val (.int to), .val (.long vl), .second, .val (.int (own_pick ((own_L [pb, x1, x2, x3, x4]) 1) (1 : Int32) fr to vl e2))]) rfl (rfl : 216 + 2 = 218) ?_
    obtain ⟨e1, he1⟩ : ∃ z : Int32, z = (own_pick ((own_L [pb, x1, x2, x3, x4]) 1) (1 : Int32) fr to vl e2) := ⟨_, rfl⟩
    rw [← he1]
    show own_W p e (FrameEnd s) below room_1.cells room_1.slots (Q0 Z pb qd ps pf qv pm h0 n0) T20 (mkF m 218 #[.val (.int pb), .val (.long qd), .second, .val (.int ps), .val (.int pf), .val (.long qv), .second, .val (.int pm), .val (.ref arr), .val (.int xx), .val (.int yy), .val (.int fr), .val (.int to), .val (.long vl), .second, .val (.int e1)] [])
    have hk1 : own_found (fun z => own_L [pb, x1, x2, x3, x4] z) vl fr.toInt to.toInt 1 e1.toInt := by rw [he1]; exact own_pk (fun z => own_L [pb, x1, x2, x3, x4] z) vl fr to 1 (1 : Int32) e2 rfl hk2
    refine own_aload X20 hx (hb hby at_218) (v := (.ref arr)) rfl rfl (rfl : 218 + 2 = 220) ?_
    refine own_iconst X20 hx (hb hby at_220) (0 : Int32) (by first | rfl | decide) (rfl : 220 + 1 = 221) ?_
    refine own_iload X20 hx (hb hby at_221) (v := fr) rfl (rfl : 221 + 2 = 223) ?_
    refine own_iload X20 hx (hb hby at_223) (v := to) rfl (rfl : 223 + 2 = 225) ?_
    refine own_lload X20 hx (hb hby at_225) (v := vl) rfl (rfl : 225 + 2 = 227) ?_
    refine own_iload X20 hx (hb hby at_227) (v := e1) rfl (rfl : 227 + 2 = 229) ?_
    obtain ⟨_, _, ⟨T21, L21, k21, n21⟩, -, X21, ⟨Lc21, hQ21, l21, y21, z21⟩, st21⟩ := Jvm.LawKit.callS X20 hx (y := (⟨"com/example/linkwise/linkwise/graph/LinkGraphFirstAtOrAfterPinLaw", "pick", "([IIIIJI)I"⟩ : MethodName)) hown (mvT hZ (hw _ (List.mem_of_getElem? (i := 18) rfl))) (mvT hZ (hw _ (List.mem_of_getElem? (i := 19) rfl))) (mvT hZ (hw _ (List.mem_of_getElem? (i := 3) rfl))) (mvT hZ (hw _ (List.mem_of_getElem? (i := 20) rfl))) (by decide) (backOf (W := 0) (rm5 l Z a0 hw [] arr (0 : Int32) fr to vl e1 (own_L [pb, x1, x2, x3, x4]) 0 h14 n0 z14 U14 (⟨by decide, by decide⟩)) hZ (hw _ (List.mem_of_getElem? (i := 20) rfl)) (hw _ (List.mem_of_getElem? (i := 3) rfl)) (by decide) (by decide)) (g := (mkF m 229 #[.val (.int pb), .val (.long qd), .second, .val (.int ps), .val (.int pf), .val (.long qv), .second, .val (.int pm), .val (.ref arr), .val (.int xx), .val (.int yy), .val (.int fr), .val (.int to), .val (.long vl), .second, .val (.int e1)] [(.int e1), (.long vl), (.int to), (.int fr), (.int (0 : Int32)), (.ref arr)])) rfl (by rw [hml]; rfl) (argsL := [(.ref arr), (.int (0 : Int32)), (.int fr), (.int to), (.long vl), (.int e1)]) (rest := []) (lenOf own_pd___IIIIJI_I rfl) rfl (by show 2 * 0 + _ ≤ _; exact Nat.le_of_eq rfl) (hb hby at_229) (fun _ _ => ⟨rfl, e20, (by decide : 1 + 0 ≤ _), (by decide : 5 + 0 ≤ _)⟩)
    dsimp only [Pt.U, Pt.locs, Pt.cells, Pt.slots] at X21 l21 y21 z21 st21 hQ21
    subst l21 y21 z21
    obtain ⟨rfl, N21q, e21⟩ := hQ21
    have N21 := Fr.app N20 N21q
    refine own_W.step st21 ?_
    show own_W p e (FrameEnd s) below room_1.cells room_1.slots (Q0 Z pb qd ps pf qv pm h0 n0) T21 (mkF m 232 #[.val (.int pb), .val (.long qd), .second, .val (.int ps), .val (.int pf), .val (.long qv), .second, .val (.int pm), .val (.ref arr), .val (.int xx), .val (.int yy), .val (.int fr), .val (.int to), .val (.long vl), .second, .val (.int e1)] [(.int (own_pick ((own_L [pb, x1, x2, x3, x4]) 0) (0 : Int32) fr to vl e1))])
    refine own_istore X21 hx (hb hby at_232) (l' := #[.val (.int pb), .val (.long qd), .second, .val (.int ps), .val (.int pf), .val (.long qv), .second, .val (.int pm), .val (.ref arr), .val (.int xx), .val (.int yy), .val (.int fr), .val (.int to), .val (.long vl), .second, .val (.int (own_pick ((own_L [pb, x1, x2, x3, x4]) 0) (0 : Int32) fr to vl e1))]) rfl (rfl : 232 + 2 = 234) ?_
    obtain ⟨e0, he0⟩ : ∃ z : Int32, z = (own_pick ((own_L [pb, x1, x2, x3, x4]) 0) (0 : Int32) fr to vl e1) := ⟨_, rfl⟩
    rw [← he0]
    show own_W p e (FrameEnd s) below room_1.cells room_1.slots (Q0 Z pb qd ps pf qv pm h0 n0) T21 (mkF m 234 #[.val (.int pb), .val (.long qd), .second, .val (.int ps), .val (.int pf), .val (.long qv), .second, .val (.int pm), .val (.ref arr), .val (.int xx), .val (.int yy), .val (.int fr), .val (.int to), .val (.long vl), .second, .val (.int e0)] [])
    have hk0 : own_found (fun z => own_L [pb, x1, x2, x3, x4] z) vl fr.toInt to.toInt 0 e0.toInt := by rw [he0]; exact own_pk (fun z => own_L [pb, x1, x2, x3, x4] z) vl fr to 0 (0 : Int32) e1 rfl hk1
    refine own_aload X21 hx (hb hby at_234) (v := (.ref arr)) rfl rfl (rfl : 234 + 2 = 236) ?_
    refine own_iload X21 hx (hb hby at_236) (v := fr) rfl (rfl : 236 + 2 = 238) ?_
    refine own_iload X21 hx (hb hby at_238) (v := to) rfl (rfl : 238 + 2 = 240) ?_
    refine own_lload X21 hx (hb hby at_240) (v := vl) rfl (rfl : 240 + 2 = 242) ?_
    obtain ⟨_, _, ⟨T22, L22, k22, n22⟩, -, X22, ⟨Lc22, hQ22, l22, y22, z22⟩, st22⟩ := Jvm.LawKit.callS X21 hx (y := (⟨"com/example/linkwise/linkwise/graph/LinkGraph", "firstAtOrAfter", "([IIIJ)I"⟩ : MethodName)) hown (mvT hZ (hw _ (List.mem_of_getElem? (i := 21) rfl))) (mvT hZ (hw _ (List.mem_of_getElem? (i := 22) rfl))) (mvT hZ (hw _ (List.mem_of_getElem? (i := 23) rfl))) (mvT hZ (hw _ (List.mem_of_getElem? (i := 24) rfl))) (by decide) (backOf (W := 0) (rm6 l Z a0 hw [] arr fr to vl (own_L [pb, x1, x2, x3, x4]) h14 n0 z14 U14 (hsr) (bft)) hZ (hw _ (List.mem_of_getElem? (i := 24) rfl)) (hw _ (List.mem_of_getElem? (i := 23) rfl)) (by decide) (by decide)) (g := (mkF m 242 #[.val (.int pb), .val (.long qd), .second, .val (.int ps), .val (.int pf), .val (.long qv), .second, .val (.int pm), .val (.ref arr), .val (.int xx), .val (.int yy), .val (.int fr), .val (.int to), .val (.long vl), .second, .val (.int e0)] [(.long vl), (.int to), (.int fr), (.ref arr)])) rfl (by rw [hml]; rfl) (argsL := [(.ref arr), (.int fr), (.int to), (.long vl)]) (rest := []) (lenOf own_pd___IIIJ_I rfl) rfl (by show 2 * 0 + _ ≤ _; exact Nat.le_of_eq rfl) (hb hby at_242) (fun _ _ => ⟨rfl, e21, (by decide : 1 + 0 ≤ _), (by decide : 5 + 0 ≤ _)⟩)
    dsimp only [Pt.U, Pt.locs, Pt.cells, Pt.slots] at X22 l22 y22 z22 st22 hQ22
    subst l22 y22 z22
    obtain ⟨r22, rfl, N22q, e22, hfnd_22⟩ := hQ22
    have N22 := Fr.app N21 N22q
    refine own_W.step st22 ?_
    show own_W p e (FrameEnd s) below room_1.cells room_1.slots (Q0 Z pb qd ps pf qv pm h0 n0) T22 (mkF m 245 #[.val (.int pb), .val (.long qd), .second, .val (.int ps), .val (.int pf), .val (.long qv), .second, .val (.int pm), .val (.ref arr), .val (.int xx), .val (.int yy), .val (.int fr), .val (.int to), .val (.long vl), .second, .val (.int e0)] [(.int r22)])
    refine own_iload X22 hx (hb hby at_245) (v := e0) rfl (rfl : 245 + 2 = 247) ?_
    have hc247 : r22 = e0 := own_law (fun z => own_L [pb, x1, x2, x3, x4] z) vl fr to r22 e0 bft.1 bft.2.2 hfnd_22 hk0
    refine own_icmpNo X22 hx (hb hby at_247) (teq hc247).2 (rfl : 247 + 3 = 250) ?_
    refine own_iconst X22 hx (hb hby at_250) (1 : Int32) (by first | rfl | decide) (rfl : 250 + 1 = 251) ?_
    refine own_goto X22 hx (hb hby at_251) (pc' := 255) (by decide) (by decide) ?_
    refine own_retN (t := .boolean) X22 hx hlk hret (by simp) (hb hby at_255) (z' := (1 : Int32)) (by decide) (by decide) (by decide) ?_
    show Q0 Z pb qd ps pf qv pm h0 n0 (some (.int (1 : Int32))) T22.heap _
    rw [e22]
    exact ⟨rfl, N22⟩
  by_cases hc111 : (pm &&& (1 : Int32)) = (0 : Int32)
  · skip
    refine own_ifNo X16 hx (hb hby at_111) ((if0 _ _).trans (teq hc111).2) (rfl : 111 + 3 = 114) ?_
    refine own_lload X16 hx (hb hby at_114) (v := qv) rfl (rfl : 114 + 2 = 116) ?_
    refine own_lstore X16 hx (hb hby at_116) (l' := #[.val (.int pb), .val (.long qd), .second, .val (.int ps), .val (.int pf), .val (.long qv), .second, .val (.int pm), .val (.ref arr), .val (.int xx), .val (.int yy), .val (.int fr), .val (.int to), .val (.long qv), .second, .unset]) rfl (rfl : 116 + 2 = 118) ?_
    refine own_goto X16 hx (hb hby at_118) (pc' := 150) (by decide) (by decide) ?_
    refine own_iload X16 hx (hb hby at_150) (v := to) rfl (rfl : 150 + 2 = 152) ?_
    refine own_istore X16 hx (hb hby at_152) (l' := #[.val (.int pb), .val (.long qd), .second, .val (.int ps), .val (.int pf), .val (.long qv), .second, .val (.int pm), .val (.ref arr), .val (.int xx), .val (.int yy), .val (.int fr), .val (.int to), .val (.long qv), .second, .val (.int to)]) rfl (rfl : 152 + 2 = 154) ?_
    exact J154 (qv)   
  · skip
    refine own_ifYes X16 hx (hb hby at_111) ((if0 _ _).trans (feq hc111).2) (pc' := 121) (by decide) (by decide) ?_
    refine own_iload X16 hx (hb hby at_121) (v := pm) rfl (rfl : 121 + 2 = 123) ?_
    refine own_iconst X16 hx (hb hby at_123) (1 : Int32) (by first | rfl | decide) (rfl : 123 + 1 = 124) ?_
    refine own_iushr X16 hx (hb hby at_124) (rfl : 124 + 1 = 125) ?_
    refine own_bipush X16 hx (hb hby at_125) (7 : Int32) (by first | rfl | decide) (rfl : 125 + 2 = 127) ?_
    refine own_iand X16 hx (hb hby at_127) (rfl : 127 + 1 = 128) ?_
    refine own_iconst X16 hx (hb hby at_128) (5 : Int32) (by first | rfl | decide) (rfl : 128 + 1 = 129) ?_
    refine own_irem X16 hx (hb hby at_129) (by decide) (rfl : 129 + 1 = 130) ?_
    refine own_istore X16 hx (hb hby at_130) (l' := #[.val (.int pb), .val (.long qd), .second, .val (.int ps), .val (.int pf), .val (.long qv), .second, .val (.int pm), .val (.ref arr), .val (.int xx), .val (.int yy), .val (.int fr), .val (.int to), .unset, .unset, .val (.int ((((pm.toUInt32 >>> ((1 : Int32) &&& 31).toUInt32).toInt32) &&& (7 : Int32)) % (5 : Int32)))]) rfl (rfl : 130 + 2 = 132) ?_
    obtain ⟨kx, hkx⟩ : ∃ z : Int32, z = ((((pm.toUInt32 >>> ((1 : Int32) &&& 31).toUInt32).toInt32) &&& (7 : Int32)) % (5 : Int32)) := ⟨_, rfl⟩
    rw [← hkx]
    show own_W p e (FrameEnd s) below room_1.cells room_1.slots (Q0 Z pb qd ps pf qv pm h0 n0) T16 (mkF m 132 #[.val (.int pb), .val (.long qd), .second, .val (.int ps), .val (.int pf), .val (.long qv), .second, .val (.int pm), .val (.ref arr), .val (.int xx), .val (.int yy), .val (.int fr), .val (.int to), .unset, .unset, .val (.int kx)] [])
    refine own_aload X16 hx (hb hby at_132) (v := (.ref arr)) rfl rfl (rfl : 132 + 2 = 134) ?_
    refine own_iload X16 hx (hb hby at_134) (v := kx) rfl (rfl : 134 + 2 = 136) ?_
    have hi23 : own_In kx (kx.toInt.toNat) (5) := by have := hkx ▸ own_k _; exact ⟨by omega, by omega⟩
    refine own_iaload X16 hx hZ e16 U14 hi23 (v := (own_L [pb, x1, x2, x3, x4] kx.toInt.toNat)) rfl (g := (mkF m 136 #[.val (.int pb), .val (.long qd), .second, .val (.int ps), .val (.int pf), .val (.long qv), .second, .val (.int pm), .val (.ref arr), .val (.int xx), .val (.int yy), .val (.int fr), .val (.int to), .unset, .unset, .val (.int kx)] [(.int kx), (.ref arr)])) rfl rfl (hb hby at_136) ?_
    show own_W p e (FrameEnd s) below room_1.cells room_1.slots (Q0 Z pb qd ps pf qv pm h0 n0) T16 (mkF m 137 #[.val (.int pb), .val (.long qd), .second, .val (.int ps), .val (.int pf), .val (.long qv), .second, .val (.int pm), .val (.ref arr), .val (.int xx), .val (.int yy), .val (.int fr), .val (.int to), .unset, .unset, .val (.int kx)] [(.int (own_L [pb, x1, x2, x3, x4] kx.toInt.toNat))])
    refine own_i2l X16 hx (hb hby at_137) (rfl : 137 + 1 = 138) ?_
    refine own_iload X16 hx (hb hby at_138) (v := pm) rfl (rfl : 138 + 2 = 140) ?_
    refine own_iconst X16 hx (hb hby at_140) (4 : Int32) (by first | rfl | decide) (rfl : 140 + 1 = 141) ?_
    refine own_iushr X16 hx (hb hby at_141) (rfl : 141 + 1 = 142) ?_
    refine own_iconst X16 hx (hb hby at_142) (3 : Int32) (by first | rfl | decide) (rfl : 142 + 1 = 143) ?_
    refine own_iand X16 hx (hb hby at_143) (rfl : 143 + 1 = 144) ?_
    refine own_iconst X16 hx (hb hby at_144) (1 : Int32) (by first | rfl | decide) (rfl : 144 + 1 = 145) ?_
    refine own_isub X16 hx (hb hby at_145) (rfl : 145 + 1 = 146) ?_
    refine own_i2l X16 hx (hb hby at_146) (rfl : 146 + 1 = 147) ?_
    refine own_ladd X16 hx (hb hby at_147) (rfl : 147 + 1 = 148) ?_
    refine own_lstore X16 hx (hb hby at_148) (l' := #[.val (.int pb), .val (.long qd), .second, .val (.int ps), .val (.int pf), .val (.long qv), .second, .val (.int pm), .val (.ref arr), .val (.int xx), .val (.int yy), .val (.int fr), .val (.int to), .val (.long (((own_L [pb, x1, x2, x3, x4] kx.toInt.toNat).toInt64) + (((((pm.toUInt32 >>> ((4 : Int32) &&& 31).toUInt32).toInt32) &&& (3 : Int32)) - (1 : Int32)).toInt64))), .second, .val (.int kx)]) rfl (rfl : 148 + 2 = 150) ?_
    refine own_iload X16 hx (hb hby at_150) (v := to) rfl (rfl : 150 + 2 = 152) ?_
    refine own_istore X16 hx (hb hby at_152) (l' := #[.val (.int pb), .val (.long qd), .second, .val (.int ps), .val (.int pf), .val (.long qv), .second, .val (.int pm), .val (.ref arr), .val (.int xx), .val (.int yy), .val (.int fr), .val (.int to), .val (.long (((own_L [pb, x1, x2, x3, x4] kx.toInt.toNat).toInt64) + (((((pm.toUInt32 >>> ((4 : Int32) &&& 31).toUInt32).toInt32) &&& (3 : Int32)) - (1 : Int32)).toInt64))), .second, .val (.int to)]) rfl (rfl : 152 + 2 = 154) ?_
    exact J154 ((((own_L [pb, x1, x2, x3, x4] kx.toInt.toNat).toInt64) + (((((pm.toUInt32 >>> ((4 : Int32) &&& 31).toUInt32).toInt32) &&& (3 : Int32)) - (1 : Int32)).toInt64)))   
set_option maxRecDepth 65536 in
set_option maxHeartbeats 40000000 in
theorem comes_1 {Post : Tables → Env → Array Value → State → Outcome → State → Prop} (hpost : ∀ tb e args s v u, (limb_1_1.after args s (.returned v) u = true ∧ limb_1_2.after args s (.returned v) u = true ∧ True) → FrameEnd s (.returned v) u (Jvm.fieldLocs frame_1_writes args s ++ Jvm.arrayLocs frame_1_arrays args s ++ Jvm.staticLocs frame_1_statics s) 16 128 → Post tb e args s (.returned v) u) :
    ArmFor flags0 classFile x code maxLocals ret World_1 tables_1 room_1 Calls_1 rest_1 Pre_1 Post := by
  intro l hfl _ _ p e ha hc hk s m args below hf hA hF happ hP
  obtain ⟨hcalls, hrest, hpre⟩ := hP
  obtain ⟨-, -, -, hnamed, -, -, -, hat⟩ := (Spec.applies_iff hf).mp happ
  obtain ⟨hg, hn⟩ := and_e (Cond.before_iff.mp (show (Jvm.Cond.and given_1 narrow_1).before args s = true from hpre))
  obtain ⟨hg0, hr0⟩ := and_e hg
  obtain ⟨hg1, hr1⟩ := and_e hr0
  obtain ⟨hg2, hr2⟩ := and_e hr1
  obtain ⟨hg3, hr3⟩ := and_e hr2
  obtain ⟨hg4, hr4⟩ := and_e hr3
  obtain ⟨hg5, hr5⟩ := and_e hr4
  obtain ⟨w0, w1, w2, w3, w4, w5, rfl⟩ : ∃ w0 w1 w2 w3 w4 w5 : Value, args = #[w0, w1, w2, w3, w4, w5] := by
    have hs : args.size = 6 := by simpa [Cond.value, given_1] using hg0
    obtain ⟨L⟩ := args
    match L, hs with
    | [w0, w1, w2, w3, w4, w5], _ => exact ⟨w0, w1, w2, w3, w4, w5, rfl⟩
  have hw := fun d (hd : d ∈ tables_1) => atoms_spec (ws := Jvm.Cond.code x code maxLocals ret :: tables_1) hat d (List.mem_cons_of_mem _ hd)
  obtain ⟨i0, ei0⟩ := is_v hg1
  obtain rfl : w0 = (.int i0) := Option.some.inj ei0
  obtain ⟨i1, ei1⟩ := isL_v hg2
  obtain rfl : w1 = (.long i1) := Option.some.inj ei1
  obtain ⟨i2, ei2⟩ := is_v hg3
  obtain rfl : w2 = (.int i2) := Option.some.inj ei2
  obtain ⟨i3, ei3⟩ := is_v hg4
  obtain rfl : w3 = (.int i3) := Option.some.inj ei3
  obtain ⟨i4, ei4⟩ := isL_v hg5
  obtain rfl : w4 = (.long i4) := Option.some.inj ei4
  obtain ⟨i5, ei5⟩ := is_v hr5
  obtain rfl : w5 = (.int i5) := Option.some.inj ei5
  obtain ⟨n, o, h1, h2, h3, _, L, rfl, ⟨rfl, N⟩, hq⟩ := rm0 l s _ hw tables_1 i0 i1 i2 i3 i4 i5 s.heap s.heap.size (Nat.le_refl _) p e ha hc hk s m _ below hf ((Spec.applies_iff_loose hf).mp happ).1 ⟨rfl, State.Warmed39.refl s, rfl⟩ trivial
  refine ⟨n, _, h1, h2, h3, hpost _ _ _ _ _ _ ⟨Cond.after_iff.mpr rfl, Cond.after_iff.mpr (eq_i res_at (Term.int_eval (1)) rfl), trivial⟩ ⟨hq.1, hq.2.1, (hq.2.2.sift fun y hy => Or.inr (N y hy)).mono (by decide) (by decide)⟩⟩
theorem main_1_1 : Claimed_1_1 := comes_1 fun _ _ _ _ _ _ h hF => ⟨h.1, hF⟩
theorem main_1_2 : Claimed_1_2 := comes_1 fun _ _ _ _ _ _ h hF => ⟨h.2.1, hF⟩
end Jvm.Pilot.@@N@@
namespace Jvm.Pilot.@@N@@
open Jvm Jvm.ClassFile Sem Op Lib Jvm.Free Jvm.Stand Jvm.Pilot.@@N@@.Jvm.D
/-! MADE BY PROGRAM (witnessworld.py) out of the Statement's table words and the real class files: 10 classes; the members and pool entries that the words name. The judged class is class 1, her method 1. -/
namespace start1
open Jvm.ClassFile
def u (s : String) : CpInfo := .utf8 (stringToUtf16 s)
/-- a pool by its gaps: so many unusable entries, then the entry; so many at the end -/
def gap : Nat → List CpInfo → List CpInfo
  | 0, r => r
  | n + 1, r => .unusable :: gap n r
def poolList (es : List (Nat × CpInfo)) (last : Nat) : List CpInfo := es.foldr (fun e r => gap e.1 (e.2 :: r)) (gap last [])
def pool (es : List (Nat × CpInfo)) (last : Nat) : Array CpInfo := ⟨poolList es last⟩
def fileOf (pool : Array CpInfo) (this : Nat) (attrs : Array Attribute := #[]) (ms : Array MethodInfo := #[]) (fl : Nat := 33) (sup : Nat := 0) (ifs : Array Nat := #[]) (fds : Array FieldInfo := #[]) : ClassFile where
  minorVersion := 0
  majorVersion := 65
  constantPool := pool
  accessFlags := fl
  thisClass := this
  superClass := sup
  interfaces := ifs
  fields := fds
  methods := ms
  attributes := attrs
def plain (name : String) (sup : Option ClassId) : Class where
  name := name
  kind := .ordinary
  loader := none
  accessFlags := 33
  super := sup
  interfaces := #[]
  cf := none
  fields := #[]
  methods := #[]
  instanceTypes := #[]
  staticTypes := #[]
  resolved := #[]
  callSites := []
  init := .initialized
  statics := none
  mirror := none

def pool0 : Array CpInfo := pool [(5, u "<init>"), (0, u "()V"), (1, .class_ 10), (1, u "java/lang/Object")] 113

def k0m0 : Method := { name := "<init>", desc := "()V", sig := { parameters := [], returnType := none }, accessFlags := 1, code := none }
/-- java/lang/Object -/
def k0 : Class := { plain "java/lang/Object" none with
  accessFlags := 33
  interfaces := #[]
  cf := some (fileOf pool0 8 #[] #[{ accessFlags := 1, nameIndex := 5, descriptorIndex := 6, attributes := #[] }] 33 0 #[] #[])
  fields := #[]
  methods := #[k0m0]
  instanceTypes := #[]
  staticTypes := #[]
  resolved := Array.replicate 124 none
  statics := none }

def pool1 : Array CpInfo := pool [(2, .class_ 4), (1, u "java/lang/Object"), (0, u "<init>"), (0, u "()V"), (0, .methodref 8 9), (0, .class_ 10), (0, .nameAndType 11 12), (0, u "com/example/linkwise/linkwise/graph/LinkGraphFirstAtOrAfterPinLaw"), (0, u "next"), (0, u "(IJII)I"), (0, .integer 2147483647), (0, .methodref 15 16), (0, .class_ 17), (0, .nameAndType 18 19), (0, u "java/lang/Math"), (0, u "min"), (0, u "(II)I"), (0, .methodref 15 21), (0, .nameAndType 22 19), (0, u "max"), (0, .methodref 8 24), (0, .nameAndType 25 26), (0, u "pick"), (0, u "([IIIIJI)I"), (0, .methodref 28 29), (0, .class_ 30), (0, .nameAndType 31 32), (0, u "com/example/linkwise/linkwise/graph/LinkGraph"), (0, u "firstAtOrAfter"), (0, u "([IIIJ)I"), (0, .long 65535), (3, .long 2147483647), (1, .methodref 15 40), (0, .nameAndType 18 41), (0, u "(JJ)J"), (2, u "law"), (0, u "(IJIIJI)Z")] 5

def k1m0 : Method := { name := "<init>", desc := "()V", sig := { parameters := [], returnType := none }, accessFlags := 1, code := none }
def k1c1 : Code := { maxStack := 7, maxLocals := 16, code := code, exceptionTable := #[], attributes := #[] }
def k1m1 : Method := { name := "law", desc := "(IJIIJI)Z", sig := { parameters := [.int, .long, .int, .int, .long, .int], returnType := some .boolean }, accessFlags := 9, code := some k1c1 }
def k1c2 : Code := { maxStack := 6, maxLocals := 7, code := method_3_code, exceptionTable := #[], attributes := #[] }
def k1m2 : Method := { name := "next", desc := "(IJII)I", sig := { parameters := [.int, .long, .int, .int], returnType := some .int }, accessFlags := 10, code := some k1c2 }
def k1c3 : Code := { maxStack := 4, maxLocals := 7, code := method_4_code, exceptionTable := #[], attributes := #[] }
def k1m3 : Method := { name := "pick", desc := "([IIIIJI)I", sig := { parameters := [(.array .int), .int, .int, .int, .long, .int], returnType := some .int }, accessFlags := 10, code := some k1c3 }
/-- com/example/linkwise/linkwise/graph/LinkGraphFirstAtOrAfterPinLaw -/
def k1 : Class := { plain "com/example/linkwise/linkwise/graph/LinkGraphFirstAtOrAfterPinLaw" (some 0) with
  accessFlags := 49
  interfaces := #[]
  cf := some (fileOf pool1 8 #[] #[{ accessFlags := 1, nameIndex := 5, descriptorIndex := 6, attributes := #[] }, { accessFlags := 9, nameIndex := 44, descriptorIndex := 45, attributes := #[] }, { accessFlags := 10, nameIndex := 11, descriptorIndex := 12, attributes := #[] }, { accessFlags := 10, nameIndex := 25, descriptorIndex := 26, attributes := #[] }] 49 2 #[] #[])
  fields := #[]
  methods := #[k1m0, k1m1, k1m2, k1m3]
  instanceTypes := #[]
  staticTypes := #[]
  resolved := Array.replicate 51 none
  statics := none }

def pool2 : Array CpInfo := pool [(1, .class_ 2), (0, u "java/lang/Math"), (1, .class_ 6), (1, u "java/lang/Object"), (0, u "<init>"), (0, u "()V"), (89, .class_ 100), (1, u "java/lang/Math$RandomNumberGeneratorHolder"), (20, u "(JJ)J"), (50, u "negativeZeroFloatBits"), (0, u "J"), (2, u "negativeZeroDoubleBits"), (21, u "max"), (2, u "min"), (43, u "$assertionsDisabled"), (0, u "Z"), (88, u "(II)I"), (2, u "twoToTheDoubleScaleDown"), (0, u "D"), (4, u "twoToTheDoubleScaleUp"), (9, u "E"), (3, u "PI"), (2, u "TAU"), (2, u "DEGREES_TO_RADIANS"), (0, u "RADIANS_TO_DEGREES")] 94

def k2m0 : Method := { name := "<init>", desc := "()V", sig := { parameters := [], returnType := none }, accessFlags := 2, code := none }
def k2c1 : Code := { maxStack := 2, maxLocals := 2, code := jdk_29_method_65_code, exceptionTable := #[], attributes := #[] }
def k2m1 : Method := { name := "max", desc := "(II)I", sig := { parameters := [.int, .int], returnType := some .int }, accessFlags := 9, code := some k2c1 }
def k2c2 : Code := { maxStack := 2, maxLocals := 2, code := jdk_29_method_69_code, exceptionTable := #[], attributes := #[] }
def k2m2 : Method := { name := "min", desc := "(II)I", sig := { parameters := [.int, .int], returnType := some .int }, accessFlags := 9, code := some k2c2 }
def k2c3 : Code := { maxStack := 4, maxLocals := 4, code := jdk_29_method_70_code, exceptionTable := #[], attributes := #[] }
def k2m3 : Method := { name := "min", desc := "(JJ)J", sig := { parameters := [.long, .long], returnType := some .long }, accessFlags := 9, code := some k2c3 }
/-- java/lang/Math -/
def k2 : Class := { plain "java/lang/Math" (some 0) with
  accessFlags := 49
  interfaces := #[]
  cf := some (fileOf pool2 1 #[.nestMembers #[98]] #[{ accessFlags := 2, nameIndex := 7, descriptorIndex := 8, attributes := #[] }, { accessFlags := 9, nameIndex := 198, descriptorIndex := 335, attributes := #[] }, { accessFlags := 9, nameIndex := 201, descriptorIndex := 335, attributes := #[] }, { accessFlags := 9, nameIndex := 201, descriptorIndex := 121, attributes := #[] }] 49 4 #[] #[{ accessFlags := 25, nameIndex := 354, descriptorIndex := 339, attributes := #[] }, { accessFlags := 25, nameIndex := 358, descriptorIndex := 339, attributes := #[] }, { accessFlags := 25, nameIndex := 361, descriptorIndex := 339, attributes := #[] }, { accessFlags := 26, nameIndex := 364, descriptorIndex := 339, attributes := #[] }, { accessFlags := 26, nameIndex := 365, descriptorIndex := 339, attributes := #[] }, { accessFlags := 26, nameIndex := 172, descriptorIndex := 173, attributes := #[] }, { accessFlags := 26, nameIndex := 176, descriptorIndex := 173, attributes := #[] }, { accessFlags := 8, nameIndex := 344, descriptorIndex := 339, attributes := #[] }, { accessFlags := 8, nameIndex := 338, descriptorIndex := 339, attributes := #[] }, { accessFlags := 4120, nameIndex := 245, descriptorIndex := 246, attributes := #[] }])
  fields := #[{ name := "E", type := .double, accessFlags := 25, slot := 0, constantValue := 0 }, { name := "PI", type := .double, accessFlags := 25, slot := 1, constantValue := 0 }, { name := "TAU", type := .double, accessFlags := 25, slot := 2, constantValue := 0 }, { name := "DEGREES_TO_RADIANS", type := .double, accessFlags := 26, slot := 3, constantValue := 0 }, { name := "RADIANS_TO_DEGREES", type := .double, accessFlags := 26, slot := 4, constantValue := 0 }, { name := "negativeZeroFloatBits", type := .long, accessFlags := 26, slot := 5, constantValue := 0 }, { name := "negativeZeroDoubleBits", type := .long, accessFlags := 26, slot := 6, constantValue := 0 }, { name := "twoToTheDoubleScaleUp", type := .double, accessFlags := 8, slot := 7, constantValue := 0 }, { name := "twoToTheDoubleScaleDown", type := .double, accessFlags := 8, slot := 8, constantValue := 0 }, { name := "$assertionsDisabled", type := .boolean, accessFlags := 4120, slot := 9, constantValue := 0 }]
  methods := #[k2m0, k2m1, k2m2, k2m3]
  instanceTypes := #[]
  staticTypes := #[.double, .double, .double, .double, .double, .long, .long, .double, .double, .boolean]
  resolved := Array.replicate 460 none
  statics := none }

def pool3 : Array CpInfo := pool [(4, .class_ 6), (1, u "java/lang/Object"), (3, .class_ 12), (1, u "com/example/linkwise/linkwise/graph/LinkGraph"), (0, u "pageCount"), (0, u "I"), (2, u "outStart"), (0, u "[I"), (2, u "outTargets"), (2, u "inStart"), (2, u "inSources"), (49, u "firstAtOrAfter"), (0, u "([IIIJ)I"), (0, u "MAX_PAGE_ID"), (2, u "MAX_ARRAY_LENGTH"), (1, u "LINKS_PER_RANGE"), (27, .class_ 113), (0, u "com/example/linkwise/linkwise/graph/LinkGraph$Builder")] 20

def k3c0 : Code := { maxStack := 4, maxLocals := 8, code := prog_17_method_19_code, exceptionTable := #[], attributes := #[] }
def k3m0 : Method := { name := "firstAtOrAfter", desc := "([IIIJ)I", sig := { parameters := [(.array .int), .int, .int, .long], returnType := some .int }, accessFlags := 8, code := some k3c0 }
/-- com/example/linkwise/linkwise/graph/LinkGraph -/
def k3 : Class := { plain "com/example/linkwise/linkwise/graph/LinkGraph" (some 0) with
  accessFlags := 49
  interfaces := #[]
  cf := some (fileOf pool3 10 #[.nestMembers #[112]] #[{ accessFlags := 8, nameIndex := 77, descriptorIndex := 78, attributes := #[] }] 49 4 #[] #[{ accessFlags := 25, nameIndex := 79, descriptorIndex := 14, attributes := #[] }, { accessFlags := 24, nameIndex := 82, descriptorIndex := 14, attributes := #[] }, { accessFlags := 24, nameIndex := 84, descriptorIndex := 14, attributes := #[] }, { accessFlags := 18, nameIndex := 13, descriptorIndex := 14, attributes := #[] }, { accessFlags := 18, nameIndex := 17, descriptorIndex := 18, attributes := #[] }, { accessFlags := 18, nameIndex := 21, descriptorIndex := 18, attributes := #[] }, { accessFlags := 18, nameIndex := 24, descriptorIndex := 18, attributes := #[] }, { accessFlags := 18, nameIndex := 27, descriptorIndex := 18, attributes := #[] }])
  fields := #[{ name := "MAX_PAGE_ID", type := .int, accessFlags := 25, slot := 0, constantValue := 0 }, { name := "MAX_ARRAY_LENGTH", type := .int, accessFlags := 24, slot := 1, constantValue := 0 }, { name := "LINKS_PER_RANGE", type := .int, accessFlags := 24, slot := 2, constantValue := 0 }, { name := "pageCount", type := .int, accessFlags := 18, slot := 0, constantValue := 0 }, { name := "outStart", type := (.array .int), accessFlags := 18, slot := 1, constantValue := 0 }, { name := "outTargets", type := (.array .int), accessFlags := 18, slot := 2, constantValue := 0 }, { name := "inStart", type := (.array .int), accessFlags := 18, slot := 3, constantValue := 0 }, { name := "inSources", type := (.array .int), accessFlags := 18, slot := 4, constantValue := 0 }]
  methods := #[k3m0]
  instanceTypes := #[.int, (.array .int), (.array .int), (.array .int), (.array .int)]
  staticTypes := #[.int, .int, .int]
  resolved := Array.replicate 134 none
  statics := none }

def pool4 : Array CpInfo := pool [(1, u "java/lang/Cloneable"), (0, .class_ 1), (0, u "java/lang/Object"), (0, .class_ 3)] 3

/-- java/lang/Cloneable -/
def k4 : Class := { plain "java/lang/Cloneable" (some 0) with
  accessFlags := 1537
  interfaces := #[]
  cf := some (fileOf pool4 2 #[] #[] 1537 4 #[] #[])
  fields := #[]
  methods := #[]
  instanceTypes := #[]
  staticTypes := #[]
  resolved := Array.replicate 8 none
  statics := none }

def pool5 : Array CpInfo := pool [(1, u "java/io/Serializable"), (0, .class_ 1), (0, u "java/lang/Object"), (0, .class_ 3)] 3

/-- java/io/Serializable -/
def k5 : Class := { plain "java/io/Serializable" (some 0) with
  accessFlags := 1537
  interfaces := #[]
  cf := some (fileOf pool5 2 #[] #[] 1537 4 #[] #[])
  fields := #[]
  methods := #[]
  instanceTypes := #[]
  staticTypes := #[]
  resolved := Array.replicate 8 none
  statics := none }

/-- the primitive byte -/
def k6 : Class := { plain "byte" none with kind := .primitive 'B', accessFlags := 0x411 }
/-- [B -/
def k7 : Class := { plain "[B" (some 0) with kind := .array 6 .byte, interfaces := #[4, 5], accessFlags := 1041 }

/-- the primitive int -/
def k8 : Class := { plain "int" none with kind := .primitive 'I', accessFlags := 0x411 }
/-- [I -/
def k9 : Class := { plain "[I" (some 0) with kind := .array 8 .int, interfaces := #[4, 5], accessFlags := 1041 }

def heap : Heap := #[]
def classes : Array Class := #[k0, k1, k2, k3, k4, k5, k6, k7, k8, k9]
def interned : List (Array UInt16 × Addr) := []
def slotsUsed : Nat := 0
def theMethod : MethodId := ⟨1, 1⟩
def args0 : Array Value := #[.int 1, .long 2, .int 3, .int 4, .long 5, .int 6]
def aboutOver (below : List Frame) : State where
  vm := { classes := classes, interned := interned.toArray }
  heap := heap
  slotsUsed := slotsUsed
  threads := #[{ frames := .invoking theMethod args0 :: below }]
def below0 : List Frame := [.native { method := ⟨0, 0⟩, args := #[] }]
def about1 : State := aboutOver below0
def p0 : Program := .bare "" "" ""
def e0 : Env := launch0.env 0 0 0
theorem w_frames : about1.frames = Frame.invoking theMethod args0 :: below0 := rfl
set_option maxRecDepth 65536 in
theorem w_args : argsFit about1.vm theMethod args0 = true := by decide +kernel
set_option maxRecDepth 65536 in
theorem w_heap : heapFits about1 = true := by decide +kernel
set_option maxRecDepth 65536 in
theorem w_runnable : about1.curStatus? = some .runnable := by decide +kernel
set_option maxRecDepth 65536 in
theorem w_alone : about1.alone = true := by decide +kernel
set_option maxRecDepth 65536 in
theorem w_named : about1.methodNamed? x = some theMethod := by decide +kernel
set_option maxRecDepth 65536 in
theorem w_hears : about1.hears theMethod below0 = true := by decide +kernel
set_option maxRecDepth 65536 in
theorem w_ripe : about1.ripe theMethod args0 below0 = true := by decide +kernel
theorem w_running : about1.status = .running := rfl
set_option maxRecDepth 65536 in
theorem w_room : about1.hasRoom e0.platform room_1 = true :=
  launch0.hasRoom_least _ room_1 (by decide +kernel) (by decide +kernel) (by decide +kernel) (by decide +kernel) (by decide +kernel) (by decide +kernel)
theorem allAtoms_all (ts : List Jvm.Cond) (a : Array Jvm.Value) (st : Jvm.State) : (allAtoms ts).before a st = ts.all (fun c => c.before a st) := by
  induction ts with
  | nil => rfl
  | cons c t ih =>
    show (Jvm.Cond.and c (allAtoms t)).before a st = _
    rw [Jvm.Cond.before_and, ih, List.all_cons]
def words1 : List Jvm.Cond := Jvm.Cond.code x code maxLocals ret :: tables_1
/-- a 'code' word, met by the world's own term for the bytes: nothing is compared byte by byte -/
theorem code_word {y : MethodName} {bytes : ByteArray} {mx : Nat} {rt : Option FieldType} {a : Array Value} {s : State} {m : MethodId} {meth : Method} {c : Code} (h1 : s.methodNamed? y = some m) (h2 : s.vm.method? m = some meth) (h3 : meth.code = some c) (h4 : c.code = bytes)
    (h5 : (c.maxLocals == mx && c.exceptionTable.isEmpty && decide (c.maxStack ≤ mostOperands) && decide (meth.sig.returnType = rt) && !meth.locks && decide (parseMethodDescriptor y.desc = some meth.sig)) = true) : (Jvm.Cond.code y bytes mx rt).before a s = true := by
  simp only [Bool.and_eq_true, beq_iff_eq, Bool.not_eq_true', decide_eq_true_eq] at h5
  obtain ⟨⟨⟨⟨⟨g1, g2⟩, g3⟩, g4⟩, g5⟩, g6⟩ := h5
  simp [Cond.before, Cond.holds, Cond.value, h1, h2, h3, h4, g1, g2, g3, g4, g5, g6]
def isCode : Jvm.Cond → Bool
  | .code _ _ _ _ => true
  | _ => false
theorem all_split {L : List Jvm.Cond} {P : Jvm.Cond → Bool} (h1 : L.all (fun c => isCode c || P c) = true) (h2 : ∀ c ∈ L.filter isCode, P c = true) : L.all P = true := by
  refine List.all_eq_true.mpr fun c hc => ?_
  have h := List.all_eq_true.mp h1 c hc
  rcases Bool.eq_false_or_eq_true (isCode c) with hi | hi
  · exact h2 c (List.mem_filter.mpr ⟨hc, hi⟩)
  · simpa [hi] using h
set_option maxRecDepth 65536 in
theorem w_c0 : (Jvm.Cond.code x code maxLocals ret).before args0 about1 = true := code_word (m := ⟨1, 1⟩) (meth := k1m1) (c := k1c1) (by decide +kernel) rfl rfl rfl (by decide +kernel)
set_option maxRecDepth 65536 in
theorem w_c1 : (Jvm.Cond.code ({ cls := "com/example/linkwise/linkwise/graph/LinkGraphFirstAtOrAfterPinLaw", name := "next", desc := "(IJII)I" } : Jvm.MethodName) method_3_code (7 : Nat) (Option.some Jvm.ClassFile.FieldType.int)).before args0 about1 = true := code_word (m := ⟨1, 2⟩) (meth := k1m2) (c := k1c2) (by decide +kernel) rfl rfl rfl (by decide +kernel)
set_option maxRecDepth 65536 in
theorem w_c2 : (Jvm.Cond.code ({ cls := "java/lang/Math", name := "min", desc := "(JJ)J" } : Jvm.MethodName) jdk_29_method_70_code (4 : Nat) (Option.some Jvm.ClassFile.FieldType.long)).before args0 about1 = true := code_word (m := ⟨2, 3⟩) (meth := k2m3) (c := k2c3) (by decide +kernel) rfl rfl rfl (by decide +kernel)
set_option maxRecDepth 65536 in
theorem w_c3 : (Jvm.Cond.code ({ cls := "java/lang/Math", name := "min", desc := "(II)I" } : Jvm.MethodName) jdk_29_method_69_code (2 : Nat) (Option.some Jvm.ClassFile.FieldType.int)).before args0 about1 = true := code_word (m := ⟨2, 2⟩) (meth := k2m2) (c := k2c2) (by decide +kernel) rfl rfl rfl (by decide +kernel)
set_option maxRecDepth 65536 in
theorem w_c4 : (Jvm.Cond.code ({ cls := "java/lang/Math", name := "max", desc := "(II)I" } : Jvm.MethodName) jdk_29_method_65_code (2 : Nat) (Option.some Jvm.ClassFile.FieldType.int)).before args0 about1 = true := code_word (m := ⟨2, 1⟩) (meth := k2m1) (c := k2c1) (by decide +kernel) rfl rfl rfl (by decide +kernel)
set_option maxRecDepth 65536 in
theorem w_c5 : (Jvm.Cond.code ({ cls := "com/example/linkwise/linkwise/graph/LinkGraphFirstAtOrAfterPinLaw", name := "pick", desc := "([IIIIJI)I" } : Jvm.MethodName) method_4_code (7 : Nat) (Option.some Jvm.ClassFile.FieldType.int)).before args0 about1 = true := code_word (m := ⟨1, 3⟩) (meth := k1m3) (c := k1c3) (by decide +kernel) rfl rfl rfl (by decide +kernel)
set_option maxRecDepth 65536 in
theorem w_c6 : (Jvm.Cond.code ({ cls := "com/example/linkwise/linkwise/graph/LinkGraph", name := "firstAtOrAfter", desc := "([IIIJ)I" } : Jvm.MethodName) prog_17_method_19_code (8 : Nat) (Option.some Jvm.ClassFile.FieldType.int)).before args0 about1 = true := code_word (m := ⟨3, 0⟩) (meth := k3m0) (c := k3c0) (by decide +kernel) rfl rfl rfl (by decide +kernel)
def codes1 : List Jvm.Cond := [Jvm.Cond.code x code maxLocals ret, Jvm.Cond.code ({ cls := "com/example/linkwise/linkwise/graph/LinkGraphFirstAtOrAfterPinLaw", name := "next", desc := "(IJII)I" } : Jvm.MethodName) method_3_code (7 : Nat) (Option.some Jvm.ClassFile.FieldType.int), Jvm.Cond.code ({ cls := "java/lang/Math", name := "min", desc := "(JJ)J" } : Jvm.MethodName) jdk_29_method_70_code (4 : Nat) (Option.some Jvm.ClassFile.FieldType.long), Jvm.Cond.code ({ cls := "java/lang/Math", name := "min", desc := "(II)I" } : Jvm.MethodName) jdk_29_method_69_code (2 : Nat) (Option.some Jvm.ClassFile.FieldType.int), Jvm.Cond.code ({ cls := "java/lang/Math", name := "max", desc := "(II)I" } : Jvm.MethodName) jdk_29_method_65_code (2 : Nat) (Option.some Jvm.ClassFile.FieldType.int), Jvm.Cond.code ({ cls := "com/example/linkwise/linkwise/graph/LinkGraphFirstAtOrAfterPinLaw", name := "pick", desc := "([IIIIJI)I" } : Jvm.MethodName) method_4_code (7 : Nat) (Option.some Jvm.ClassFile.FieldType.int), Jvm.Cond.code ({ cls := "com/example/linkwise/linkwise/graph/LinkGraph", name := "firstAtOrAfter", desc := "([IIIJ)I" } : Jvm.MethodName) prog_17_method_19_code (8 : Nat) (Option.some Jvm.ClassFile.FieldType.int)]
set_option maxRecDepth 65536 in
theorem codes_eq : words1.filter isCode = codes1 := rfl
theorem w_codes : ∀ c ∈ words1.filter isCode, c.before args0 about1 = true := by
  rw [codes_eq]
  intro c hc
  simp only [codes1, List.mem_cons, List.not_mem_nil, or_false] at hc
  rcases hc with rfl | rfl | rfl | rfl | rfl | rfl | rfl
  · exact w_c0
  · exact w_c1
  · exact w_c2
  · exact w_c3
  · exact w_c4
  · exact w_c5
  · exact w_c6
set_option maxRecDepth 65536 in
theorem w_t1 : (words1.take 24).all (fun c => isCode c || c.before args0 about1) = true := by decide +kernel
set_option maxRecDepth 65536 in
theorem w_t2 : (words1.drop 24).all (fun c => isCode c || c.before args0 about1) = true := by decide +kernel
theorem w_tables : (allAtoms (Jvm.Cond.code x code maxLocals ret :: tables_1)).before args0 about1 = true := by
  rw [allAtoms_all]
  show words1.all (fun c => c.before args0 about1) = true
  refine all_split ?_ w_codes
  rw [← List.take_append_drop 24 words1, List.all_append, w_t1, w_t2]
  rfl
set_option maxRecDepth 65536 in
theorem w_case : (Jvm.Cond.and given_1 narrow_1).before args0 about1 = true := by decide +kernel
theorem w_applies : (headSpec (Jvm.Cond.code x code maxLocals ret :: tables_1) room_1).applies x e0.platform about1 = true :=
  (Spec.applies_iff w_frames).mpr ⟨w_running, w_runnable, w_alone, w_named, w_hears, w_ripe, w_room, w_tables⟩
theorem atStart : AtStart classFile x code maxLocals ret World_1 tables_1 room_1 Calls_1 rest_1 Pre_1 launch0 p0 e0 about1 theMethod args0 below0 :=
  ⟨lists_1, trivial, launch0.admits_env _ _ _, launch0.least_env, fairChoices_fair.cas, fairChoices_fair.clock, w_frames, w_args, w_heap, w_applies, trivial, trivial, w_case⟩
end start1
theorem witness_1 : WitnessClaimed_1 := ⟨start1.p0, start1.e0, start1.about1, start1.theMethod, start1.args0, start1.below0, start1.atStart⟩
end Jvm.Pilot.@@N@@
