import JvmDerived
import JvmDerived.Pilot.@@N@@Statement
import JvmDerived.Pilot.@@N@@Code
set_option linter.unusedVariables false
set_option linter.unusedSimpArgs false
namespace Jvm.Pilot.@@N@@
open Jvm Jvm.ClassFile Sem Op Lib Jvm.Free Jvm.Stand Jvm.LawKit Jvm.RoadKit Bundle Jvm.Pilot.@@N@@.Jvm.D
/-! 0. one goal for a walk: from T with the frame g on top the run comes back with what Q says -/
def own_W (p : Program) (e : Env) (En : Outcome → State → List Loc → Nat → Nat → Prop) (below : List Frame) (kc ks : Nat) (Q : Option Value → Heap → List Loc → Prop) (T : State) (g : JFrame) : Prop :=
  ∃ s₂ o, Steps p.tables e below (T.setTop g) s₂ ∧ s₂.status = .running ∧ Ended s₂ below o ∧ ∃ v L, o = .returned v ∧ Q v s₂.heap L ∧ En o s₂ L kc ks
section OwnW
variable {En : Outcome → State → List Loc → Nat → Nat → Prop} {p : Program} {l : Launch} {e : Env} {R : Room} {s : State} {m : MethodId} {args : Array Value} {below : List Frame} {meth : Method} {c : Code} {T T' : State} {locs : List Loc} {cells slots kc ks : Nat} {Q : Option Value → Heap → List Loc → Prop} {g g' : JFrame} {pc pc' : Nat} {Ls : Array Slot} {st rest : List Value} {Z : State} {h h' : Heap} {a b : Addr} {sl : Nat}
theorem own_W.step (k : ∀ t, Steps p.tables e below (T'.setTop g') t → Steps p.tables e below (T.setTop g) t) (w : own_W p e En below kc ks Q T' g') : own_W p e En below kc ks Q T g := by
  obtain ⟨s2, o, h1, h2⟩ := w
  exact ⟨s2, o, k _ h1, h2⟩
theorem own_W.steps (k : Steps p.tables e below (T.setTop g) (T'.setTop g')) (w : own_W p e En below kc ks Q T' g') : own_W p e En below kc ks Q T g := by
  obtain ⟨s2, o, h1, h2⟩ := w
  exact ⟨s2, o, k.trans h1, h2⟩
theorem own_leave (X : Stand p l e R s m args below meth c T locs cells slots) (hlk : meth.locks = false) {v : Option Value} (hv : meth.sig.returnType = none → v = none) (hc : cells ≤ kc) (hs : slots ≤ ks)
    (k : ∀ fs, (∀ (f : JFrame) (acts : List Action), f.method = m → f.locked = none → f.entered = [] → (doReturn e (T.setTop f) acts v).1 = T.setFrames fs) → Steps p.tables e below (T.setTop g) (T.setFrames fs)) (hQ : Q v T.heap locs) : own_W p e (FrameEnd s) below kc ks Q T g := by
  obtain ⟨fs, hr, hrun, hended, hW, hsame⟩ := X.leave (v := v) hv hlk
  exact ⟨_, _, k fs hr, hrun, hended, v, locs, rfl, hQ, ⟨_, rfl⟩, hW, hsame.mono hc hs⟩
theorem own_retV (X : Stand p l e R s m args below meth c T locs cells slots) (hx : p.tables.exec = Jvm.exec) (hlk : meth.locks = false) (hret : meth.sig.returnType = none) (hd : decode c.code pc = .ok (.return_, 1)) (hc : cells ≤ kc) (hs : slots ≤ ks) (hQ : Q none T.heap locs) : own_W p e (FrameEnd s) below kc ks Q T (mkF m pc Ls []) :=
  own_leave X hlk (fun _ => rfl) hc hs (fun fs hr => X.returnOut hx hret hd hr) hQ
theorem own_retN {t : FieldType} (X : Stand p l e R s m args below meth c T locs cells slots) (hx : p.tables.exec = Jvm.exec) (hlk : meth.locks = false) (hret : meth.sig.returnType = some t) (ht : t = .boolean ∨ t = .byte ∨ t = .char ∨ t = .short) (hd : decode c.code pc = .ok (.ireturn, 1)) {z z' : Int32} (hz : nar t z = z') (hc : cells ≤ kc) (hs : slots ≤ ks) (hQ : Q (some (.int z')) T.heap locs) : own_W p e (FrameEnd s) below kc ks Q T (mkF m pc Ls (.int z :: rest)) := by
  subst hz
  exact own_leave X hlk (fun q => by rw [hret] at q; cases q) hc hs (fun fs hr => retN X hx hret ht hd hr) hQ
theorem own_retI (X : Stand p l e R s m args below meth c T locs cells slots) (hx : p.tables.exec = Jvm.exec) (hlk : meth.locks = false) (hret : meth.sig.returnType = some .int) (hd : decode c.code pc = .ok (.ireturn, 1)) {z : Int32} (hc : cells ≤ kc) (hs : slots ≤ ks) (hQ : Q (some (.int z)) T.heap locs) : own_W p e (FrameEnd s) below kc ks Q T (mkF m pc Ls (.int z :: rest)) :=
  own_leave X hlk (fun q => by rw [hret] at q; cases q) hc hs (fun fs hr => retOut X hx (t := .int) (w := .int z) (i := .ireturn) hret rfl (Or.inl ⟨rfl, Or.inl rfl, z, rfl⟩) hd hr) hQ
theorem own_retJ (X : Stand p l e R s m args below meth c T locs cells slots) (hx : p.tables.exec = Jvm.exec) (hlk : meth.locks = false) (hret : meth.sig.returnType = some .long) (hd : decode c.code pc = .ok (.lreturn, 1)) {z : Int64} (hc : cells ≤ kc) (hs : slots ≤ ks) (hQ : Q (some (.long z)) T.heap locs) : own_W p e (FrameEnd s) below kc ks Q T (mkF m pc Ls (.long z :: rest)) :=
  own_leave X hlk (fun q => by rw [hret] at q; cases q) hc hs (fun fs hr => retOut X hx (t := .long) (w := .long z) (i := .lreturn) hret rfl (Or.inr (Or.inl ⟨rfl, rfl, z, rfl⟩)) hd hr) hQ
theorem own_retA {t : FieldType} (X : Stand p l e R s m args below meth c T locs cells slots) (hx : p.tables.exec = Jvm.exec) (hlk : meth.locks = false) (hret : meth.sig.returnType = some t) (hn : narrow t (.ref a) = .ref a) (ht : t.isReference = true) (hd : decode c.code pc = .ok (.areturn, 1)) (hc : cells ≤ kc) (hs : slots ≤ ks) (hQ : Q (some (.ref a)) T.heap locs) : own_W p e (FrameEnd s) below kc ks Q T (mkF m pc Ls (.ref a :: rest)) :=
  own_leave X hlk (fun q => by rw [hret] at q; cases q) hc hs (fun fs hr => retOut X hx (t := t) (w := .ref a) (i := .areturn) hret hn (Or.inr (Or.inr (Or.inr (Or.inr ⟨rfl, ht, rfl⟩)))) hd hr) hQ
theorem own_iload (X : Stand p l e R s m args below meth c T locs cells slots) (hx : p.tables.exec = Jvm.exec) {k : Nat} {v : Int32} (hd : decode c.code pc = .ok (.iload k, 2)) (hl : Ls[k]? = some (.val (.int v))) (hp : pc + 2 = pc') (w : own_W p e En below kc ks Q T (mkF m pc' Ls (.int v :: st))) : own_W p e En below kc ks Q T (mkF m pc Ls (st)) := by
  subst hp; exact own_W.step (fun _ q => XS.iload X.here hx rfl hd hl q) w
theorem own_iloadN (X : Stand p l e R s m args below meth c T locs cells slots) (hx : p.tables.exec = Jvm.exec) {k : Fin 4} {v : Int32} (hd : decode c.code pc = .ok (.iload_n k, 1)) (hl : Ls[k.val]? = some (.val (.int v))) (hp : pc + 1 = pc') (w : own_W p e En below kc ks Q T (mkF m pc' Ls (.int v :: st))) : own_W p e En below kc ks Q T (mkF m pc Ls (st)) := by
  subst hp; exact own_W.step (fun _ q => XS.iloadN X.here hx rfl hd hl q) w
theorem own_lload (X : Stand p l e R s m args below meth c T locs cells slots) (hx : p.tables.exec = Jvm.exec) {k : Nat} {v : Int64} (hd : decode c.code pc = .ok (.lload k, 2)) (hl : Ls[k]? = some (.val (.long v))) (hp : pc + 2 = pc') (w : own_W p e En below kc ks Q T (mkF m pc' Ls (.long v :: st))) : own_W p e En below kc ks Q T (mkF m pc Ls (st)) := by
  subst hp; exact own_W.step (fun _ q => XS.lload X.here hx rfl hd hl q) w
theorem own_lloadN (X : Stand p l e R s m args below meth c T locs cells slots) (hx : p.tables.exec = Jvm.exec) {k : Fin 4} {v : Int64} (hd : decode c.code pc = .ok (.lload_n k, 1)) (hl : Ls[k.val]? = some (.val (.long v))) (hp : pc + 1 = pc') (w : own_W p e En below kc ks Q T (mkF m pc' Ls (.long v :: st))) : own_W p e En below kc ks Q T (mkF m pc Ls (st)) := by
  subst hp; exact own_W.step (fun _ q => XS.lloadN X.here hx rfl hd hl q) w
theorem own_aload (X : Stand p l e R s m args below meth c T locs cells slots) (hx : p.tables.exec = Jvm.exec) {k : Nat} {v : Value} (hd : decode c.code pc = .ok (.aload k, 2)) (hl : Ls[k]? = some (.val v)) (hv : v.isRef = true) (hp : pc + 2 = pc') (w : own_W p e En below kc ks Q T (mkF m pc' Ls (v :: st))) : own_W p e En below kc ks Q T (mkF m pc Ls (st)) := by
  subst hp; exact own_W.step (fun _ q => XS.aload X.here hx rfl hd hl hv q) w
theorem own_aloadN (X : Stand p l e R s m args below meth c T locs cells slots) (hx : p.tables.exec = Jvm.exec) {k : Fin 4} {v : Value} (hd : decode c.code pc = .ok (.aload_n k, 1)) (hl : Ls[k.val]? = some (.val v)) (hv : v.isRef = true) (hp : pc + 1 = pc') (w : own_W p e En below kc ks Q T (mkF m pc' Ls (v :: st))) : own_W p e En below kc ks Q T (mkF m pc Ls (st)) := by
  subst hp; exact own_W.step (fun _ q => XS.aloadN X.here hx rfl hd hl hv q) w
theorem own_istore (X : Stand p l e R s m args below meth c T locs cells slots) (hx : p.tables.exec = Jvm.exec) {k : Nat} {v : Int32} {l' : Array Slot} (hd : decode c.code pc = .ok (.istore k, 2)) (hl : storeLocals Ls k (.int v) = some l') (hp : pc + 2 = pc') (w : own_W p e En below kc ks Q T (mkF m pc' l' (st))) : own_W p e En below kc ks Q T (mkF m pc Ls (.int v :: st)) := by
  subst hp; exact own_W.step (fun _ q => XS.istore X.here hx rfl hd rfl hl q) w
theorem own_istoreN (X : Stand p l e R s m args below meth c T locs cells slots) (hx : p.tables.exec = Jvm.exec) {k : Fin 4} {v : Int32} {l' : Array Slot} (hd : decode c.code pc = .ok (.istore_n k, 1)) (hl : storeLocals Ls k.val (.int v) = some l') (hp : pc + 1 = pc') (w : own_W p e En below kc ks Q T (mkF m pc' l' (st))) : own_W p e En below kc ks Q T (mkF m pc Ls (.int v :: st)) := by
  subst hp; exact own_W.step (fun _ q => XS.istoreN X.here hx rfl hd rfl hl q) w
theorem own_lstore (X : Stand p l e R s m args below meth c T locs cells slots) (hx : p.tables.exec = Jvm.exec) {k : Nat} {v : Int64} {l' : Array Slot} (hd : decode c.code pc = .ok (.lstore k, 2)) (hl : storeLocals Ls k (.long v) = some l') (hp : pc + 2 = pc') (w : own_W p e En below kc ks Q T (mkF m pc' l' (st))) : own_W p e En below kc ks Q T (mkF m pc Ls (.long v :: st)) := by
  subst hp; exact own_W.step (fun _ q => XS.lstore X.here hx rfl hd rfl hl q) w
theorem own_lstoreN (X : Stand p l e R s m args below meth c T locs cells slots) (hx : p.tables.exec = Jvm.exec) {k : Fin 4} {v : Int64} {l' : Array Slot} (hd : decode c.code pc = .ok (.lstore_n k, 1)) (hl : storeLocals Ls k.val (.long v) = some l') (hp : pc + 1 = pc') (w : own_W p e En below kc ks Q T (mkF m pc' l' (st))) : own_W p e En below kc ks Q T (mkF m pc Ls (.long v :: st)) := by
  subst hp; exact own_W.step (fun _ q => XS.lstoreN X.here hx rfl hd rfl hl q) w
theorem own_astore (X : Stand p l e R s m args below meth c T locs cells slots) (hx : p.tables.exec = Jvm.exec) {k : Nat} {v : Value} {l' : Array Slot} (hd : decode c.code pc = .ok (.astore k, 2)) (hv : v.isRef = true) (hl : storeLocals Ls k v = some l') (hp : pc + 2 = pc') (w : own_W p e En below kc ks Q T (mkF m pc' l' (st))) : own_W p e En below kc ks Q T (mkF m pc Ls (v :: st)) := by
  subst hp; exact own_W.step (fun _ q => XS.astore X.here hx rfl hd rfl hv hl q) w
theorem own_astoreN (X : Stand p l e R s m args below meth c T locs cells slots) (hx : p.tables.exec = Jvm.exec) {k : Fin 4} {v : Value} {l' : Array Slot} (hd : decode c.code pc = .ok (.astore_n k, 1)) (hv : v.isRef = true) (hl : storeLocals Ls k.val v = some l') (hp : pc + 1 = pc') (w : own_W p e En below kc ks Q T (mkF m pc' l' (st))) : own_W p e En below kc ks Q T (mkF m pc Ls (v :: st)) := by
  subst hp; exact own_W.step (fun _ q => XS.astoreN X.here hx rfl hd rfl hv hl q) w
theorem own_iconst (X : Stand p l e R s m args below meth c T locs cells slots) (hx : p.tables.exec = Jvm.exec) {i : Int} (hd : decode c.code pc = .ok (.iconst i, 1)) (v : Int32) (hv : Int32.ofInt i = v) (hp : pc + 1 = pc') (w : own_W p e En below kc ks Q T (mkF m pc' Ls (.int v :: st))) : own_W p e En below kc ks Q T (mkF m pc Ls (st)) := by
  subst hp; exact own_W.step (fun _ q => XT.iconstV X.here hx rfl v hd hv q) w
theorem own_bipush (X : Stand p l e R s m args below meth c T locs cells slots) (hx : p.tables.exec = Jvm.exec) {i : Int} (hd : decode c.code pc = .ok (.bipush i, 2)) (v : Int32) (hv : (Int8.ofInt i).toInt32 = v) (hp : pc + 2 = pc') (w : own_W p e En below kc ks Q T (mkF m pc' Ls (.int v :: st))) : own_W p e En below kc ks Q T (mkF m pc Ls (st)) := by
  subst hp; exact own_W.step (fun _ q => XT.bipushV X.here hx rfl v hd hv q) w
theorem own_sipush (X : Stand p l e R s m args below meth c T locs cells slots) (hx : p.tables.exec = Jvm.exec) {i : Int} (hd : decode c.code pc = .ok (.sipush i, 3)) (v : Int32) (hv : (Int16.ofInt i).toInt32 = v) (hp : pc + 3 = pc') (w : own_W p e En below kc ks Q T (mkF m pc' Ls (.int v :: st))) : own_W p e En below kc ks Q T (mkF m pc Ls (st)) := by
  subst hp; exact own_W.step (fun _ q => XT.sipushV X.here hx rfl v hd hv q) w
theorem own_lconst (X : Stand p l e R s m args below meth c T locs cells slots) (hx : p.tables.exec = Jvm.exec) {k : Fin 2} (hd : decode c.code pc = .ok (.lconst k, 1)) (v : Int64) (hv : Int64.ofNat k = v) (hp : pc + 1 = pc') (w : own_W p e En below kc ks Q T (mkF m pc' Ls (.long v :: st))) : own_W p e En below kc ks Q T (mkF m pc Ls (st)) := by
  subst hp; exact own_W.step (fun _ q => XT.lconstV X.here hx rfl v hd hv q) w
theorem own_aconstNull (X : Stand p l e R s m args below meth c T locs cells slots) (hx : p.tables.exec = Jvm.exec)  (hd : decode c.code pc = .ok (.aconst_null, 1))  (hp : pc + 1 = pc') (w : own_W p e En below kc ks Q T (mkF m pc' Ls (.null :: st))) : own_W p e En below kc ks Q T (mkF m pc Ls (st)) := by
  subst hp; exact own_W.step (fun _ q => XS.aconstNull X.here hx rfl hd q) w
theorem own_ldcInt (X : Stand p l e R s m args below meth c T locs cells slots) (hx : p.tables.exec = Jvm.exec) {own : String} {index : Nat} {v : Int32} (hown : s.vm.findClass own = some m.cls) (hk : (Jvm.Cond.constant own index v).before args s = true) (hd : decode c.code pc = .ok (.ldc index, 2)) (hp : pc + 2 = pc') (w : own_W p e En below kc ks Q T (mkF m pc' Ls (.int v :: st))) : own_W p e En below kc ks Q T (mkF m pc Ls st) := by
  subst hp; exact own_W.step (X.ldcInt hx hown hk (g := mkF m pc Ls st) rfl hd) w
theorem own_ldcwInt (X : Stand p l e R s m args below meth c T locs cells slots) (hx : p.tables.exec = Jvm.exec) {own : String} {index : Nat} {v : Int32} (hown : s.vm.findClass own = some m.cls) (hk : (Jvm.Cond.constant own index v).before args s = true) (hd : decode c.code pc = .ok (.ldc_w index, 3)) (hp : pc + 3 = pc') (w : own_W p e En below kc ks Q T (mkF m pc' Ls (.int v :: st))) : own_W p e En below kc ks Q T (mkF m pc Ls st) := by
  subst hp; exact own_W.step (X.ldcwInt hx hown hk (g := mkF m pc Ls st) rfl hd) w
theorem own_ldc2Long (X : Stand p l e R s m args below meth c T locs cells slots) (hx : p.tables.exec = Jvm.exec) {own : String} {index : Nat} {v : Int64} (hown : s.vm.findClass own = some m.cls) (hk : (Jvm.Cond.constantLong own index v).before args s = true) (hd : decode c.code pc = .ok (.ldc2_w index, 3)) (hp : pc + 3 = pc') (w : own_W p e En below kc ks Q T (mkF m pc' Ls (.long v :: st))) : own_W p e En below kc ks Q T (mkF m pc Ls st) := by
  subst hp; exact own_W.step (X.ldc2Long hx hown hk (g := mkF m pc Ls st) rfl hd) w
theorem own_iadd (X : Stand p l e R s m args below meth c T locs cells slots) (hx : p.tables.exec = Jvm.exec) {x y : Int32} (hd : decode c.code pc = .ok (.iadd, 1))  (hp : pc + 1 = pc') (w : own_W p e En below kc ks Q T (mkF m pc' Ls (.int (x + y) :: st))) : own_W p e En below kc ks Q T (mkF m pc Ls (.int y :: .int x :: st)) := by
  subst hp; exact own_W.step (fun _ q => XS.iadd X.here hx rfl hd rfl q) w
theorem own_ladd (X : Stand p l e R s m args below meth c T locs cells slots) (hx : p.tables.exec = Jvm.exec) {x y : Int64} (hd : decode c.code pc = .ok (.ladd, 1))  (hp : pc + 1 = pc') (w : own_W p e En below kc ks Q T (mkF m pc' Ls (.long (x + y) :: st))) : own_W p e En below kc ks Q T (mkF m pc Ls (.long y :: .long x :: st)) := by
  subst hp; exact own_W.step (fun _ q => XS.ladd X.here hx rfl hd rfl q) w
theorem own_isub (X : Stand p l e R s m args below meth c T locs cells slots) (hx : p.tables.exec = Jvm.exec) {x y : Int32} (hd : decode c.code pc = .ok (.isub, 1))  (hp : pc + 1 = pc') (w : own_W p e En below kc ks Q T (mkF m pc' Ls (.int (x - y) :: st))) : own_W p e En below kc ks Q T (mkF m pc Ls (.int y :: .int x :: st)) := by
  subst hp; exact own_W.step (fun _ q => XS.isub X.here hx rfl hd rfl q) w
theorem own_lsub (X : Stand p l e R s m args below meth c T locs cells slots) (hx : p.tables.exec = Jvm.exec) {x y : Int64} (hd : decode c.code pc = .ok (.lsub, 1))  (hp : pc + 1 = pc') (w : own_W p e En below kc ks Q T (mkF m pc' Ls (.long (x - y) :: st))) : own_W p e En below kc ks Q T (mkF m pc Ls (.long y :: .long x :: st)) := by
  subst hp; exact own_W.step (fun _ q => XS.lsub X.here hx rfl hd rfl q) w
theorem own_imul (X : Stand p l e R s m args below meth c T locs cells slots) (hx : p.tables.exec = Jvm.exec) {x y : Int32} (hd : decode c.code pc = .ok (.imul, 1))  (hp : pc + 1 = pc') (w : own_W p e En below kc ks Q T (mkF m pc' Ls (.int (x * y) :: st))) : own_W p e En below kc ks Q T (mkF m pc Ls (.int y :: .int x :: st)) := by
  subst hp; exact own_W.step (fun _ q => XS.imul X.here hx rfl hd rfl q) w
theorem own_lmul (X : Stand p l e R s m args below meth c T locs cells slots) (hx : p.tables.exec = Jvm.exec) {x y : Int64} (hd : decode c.code pc = .ok (.lmul, 1))  (hp : pc + 1 = pc') (w : own_W p e En below kc ks Q T (mkF m pc' Ls (.long (x * y) :: st))) : own_W p e En below kc ks Q T (mkF m pc Ls (.long y :: .long x :: st)) := by
  subst hp; exact own_W.step (fun _ q => XS.lmul X.here hx rfl hd rfl q) w
theorem own_iand (X : Stand p l e R s m args below meth c T locs cells slots) (hx : p.tables.exec = Jvm.exec) {x y : Int32} (hd : decode c.code pc = .ok (.iand, 1))  (hp : pc + 1 = pc') (w : own_W p e En below kc ks Q T (mkF m pc' Ls (.int (x &&& y) :: st))) : own_W p e En below kc ks Q T (mkF m pc Ls (.int y :: .int x :: st)) := by
  subst hp; exact own_W.step (fun _ q => XS.iand X.here hx rfl hd rfl q) w
theorem own_land (X : Stand p l e R s m args below meth c T locs cells slots) (hx : p.tables.exec = Jvm.exec) {x y : Int64} (hd : decode c.code pc = .ok (.land, 1))  (hp : pc + 1 = pc') (w : own_W p e En below kc ks Q T (mkF m pc' Ls (.long (x &&& y) :: st))) : own_W p e En below kc ks Q T (mkF m pc Ls (.long y :: .long x :: st)) := by
  subst hp; exact own_W.step (fun _ q => XS.land X.here hx rfl hd rfl q) w
theorem own_ior (X : Stand p l e R s m args below meth c T locs cells slots) (hx : p.tables.exec = Jvm.exec) {x y : Int32} (hd : decode c.code pc = .ok (.ior, 1))  (hp : pc + 1 = pc') (w : own_W p e En below kc ks Q T (mkF m pc' Ls (.int (x ||| y) :: st))) : own_W p e En below kc ks Q T (mkF m pc Ls (.int y :: .int x :: st)) := by
  subst hp; exact own_W.step (fun _ q => XS.ior X.here hx rfl hd rfl q) w
theorem own_lor (X : Stand p l e R s m args below meth c T locs cells slots) (hx : p.tables.exec = Jvm.exec) {x y : Int64} (hd : decode c.code pc = .ok (.lor, 1))  (hp : pc + 1 = pc') (w : own_W p e En below kc ks Q T (mkF m pc' Ls (.long (x ||| y) :: st))) : own_W p e En below kc ks Q T (mkF m pc Ls (.long y :: .long x :: st)) := by
  subst hp; exact own_W.step (fun _ q => XS.lor X.here hx rfl hd rfl q) w
theorem own_ixor (X : Stand p l e R s m args below meth c T locs cells slots) (hx : p.tables.exec = Jvm.exec) {x y : Int32} (hd : decode c.code pc = .ok (.ixor, 1))  (hp : pc + 1 = pc') (w : own_W p e En below kc ks Q T (mkF m pc' Ls (.int (x ^^^ y) :: st))) : own_W p e En below kc ks Q T (mkF m pc Ls (.int y :: .int x :: st)) := by
  subst hp; exact own_W.step (fun _ q => XS.ixor X.here hx rfl hd rfl q) w
theorem own_lxor (X : Stand p l e R s m args below meth c T locs cells slots) (hx : p.tables.exec = Jvm.exec) {x y : Int64} (hd : decode c.code pc = .ok (.lxor, 1))  (hp : pc + 1 = pc') (w : own_W p e En below kc ks Q T (mkF m pc' Ls (.long (x ^^^ y) :: st))) : own_W p e En below kc ks Q T (mkF m pc Ls (.long y :: .long x :: st)) := by
  subst hp; exact own_W.step (fun _ q => XS.lxor X.here hx rfl hd rfl q) w
theorem own_idiv (X : Stand p l e R s m args below meth c T locs cells slots) (hx : p.tables.exec = Jvm.exec) {x y : Int32} (hd : decode c.code pc = .ok (.idiv, 1)) (hy : y ≠ 0) (hp : pc + 1 = pc') (w : own_W p e En below kc ks Q T (mkF m pc' Ls (.int (x / y) :: st))) : own_W p e En below kc ks Q T (mkF m pc Ls (.int y :: .int x :: st)) := by
  subst hp; exact own_W.step (fun _ q => XS.idiv X.here hx rfl hd rfl hy q) w
theorem own_ldiv (X : Stand p l e R s m args below meth c T locs cells slots) (hx : p.tables.exec = Jvm.exec) {x y : Int64} (hd : decode c.code pc = .ok (.ldiv, 1)) (hy : y ≠ 0) (hp : pc + 1 = pc') (w : own_W p e En below kc ks Q T (mkF m pc' Ls (.long (x / y) :: st))) : own_W p e En below kc ks Q T (mkF m pc Ls (.long y :: .long x :: st)) := by
  subst hp; exact own_W.step (fun _ q => XS.ldiv X.here hx rfl hd rfl hy q) w
theorem own_irem (X : Stand p l e R s m args below meth c T locs cells slots) (hx : p.tables.exec = Jvm.exec) {x y : Int32} (hd : decode c.code pc = .ok (.irem, 1)) (hy : y ≠ 0) (hp : pc + 1 = pc') (w : own_W p e En below kc ks Q T (mkF m pc' Ls (.int (x % y) :: st))) : own_W p e En below kc ks Q T (mkF m pc Ls (.int y :: .int x :: st)) := by
  subst hp; exact own_W.step (fun _ q => iremM X hx rfl hd rfl hy q) w
theorem own_lrem (X : Stand p l e R s m args below meth c T locs cells slots) (hx : p.tables.exec = Jvm.exec) {x y : Int64} (hd : decode c.code pc = .ok (.lrem, 1)) (hy : y ≠ 0) (hp : pc + 1 = pc') (w : own_W p e En below kc ks Q T (mkF m pc' Ls (.long (x % y) :: st))) : own_W p e En below kc ks Q T (mkF m pc Ls (.long y :: .long x :: st)) := by
  subst hp; exact own_W.step (fun _ q => XS.lrem X.here hx rfl hd rfl hy (by rw [lrem_mod]; exact q)) w
theorem own_ineg (X : Stand p l e R s m args below meth c T locs cells slots) (hx : p.tables.exec = Jvm.exec) {x : Int32} (hd : decode c.code pc = .ok (.ineg, 1))  (hp : pc + 1 = pc') (w : own_W p e En below kc ks Q T (mkF m pc' Ls (.int (-x) :: st))) : own_W p e En below kc ks Q T (mkF m pc Ls (.int x :: st)) := by
  subst hp; exact own_W.step (fun _ q => XS.ineg X.here hx rfl hd rfl q) w
theorem own_lneg (X : Stand p l e R s m args below meth c T locs cells slots) (hx : p.tables.exec = Jvm.exec) {x : Int64} (hd : decode c.code pc = .ok (.lneg, 1))  (hp : pc + 1 = pc') (w : own_W p e En below kc ks Q T (mkF m pc' Ls (.long (-x) :: st))) : own_W p e En below kc ks Q T (mkF m pc Ls (.long x :: st)) := by
  subst hp; exact own_W.step (fun _ q => XS.lneg X.here hx rfl hd rfl q) w
theorem own_i2l (X : Stand p l e R s m args below meth c T locs cells slots) (hx : p.tables.exec = Jvm.exec) {x : Int32} (hd : decode c.code pc = .ok (.i2l, 1))  (hp : pc + 1 = pc') (w : own_W p e En below kc ks Q T (mkF m pc' Ls (.long (x.toInt64) :: st))) : own_W p e En below kc ks Q T (mkF m pc Ls (.int x :: st)) := by
  subst hp; exact own_W.step (fun _ q => XS.i2l X.here hx rfl hd rfl q) w
theorem own_l2i (X : Stand p l e R s m args below meth c T locs cells slots) (hx : p.tables.exec = Jvm.exec) {x : Int64} (hd : decode c.code pc = .ok (.l2i, 1))  (hp : pc + 1 = pc') (w : own_W p e En below kc ks Q T (mkF m pc' Ls (.int (x.toInt32) :: st))) : own_W p e En below kc ks Q T (mkF m pc Ls (.long x :: st)) := by
  subst hp; exact own_W.step (fun _ q => XS.l2i X.here hx rfl hd rfl q) w
theorem own_i2b (X : Stand p l e R s m args below meth c T locs cells slots) (hx : p.tables.exec = Jvm.exec) {x : Int32} (hd : decode c.code pc = .ok (.i2b, 1))  (hp : pc + 1 = pc') (w : own_W p e En below kc ks Q T (mkF m pc' Ls (.int (x.toInt8.toInt32) :: st))) : own_W p e En below kc ks Q T (mkF m pc Ls (.int x :: st)) := by
  subst hp; exact own_W.step (fun _ q => XS.i2b X.here hx rfl hd rfl q) w
theorem own_i2s (X : Stand p l e R s m args below meth c T locs cells slots) (hx : p.tables.exec = Jvm.exec) {x : Int32} (hd : decode c.code pc = .ok (.i2s, 1))  (hp : pc + 1 = pc') (w : own_W p e En below kc ks Q T (mkF m pc' Ls (.int (x.toInt16.toInt32) :: st))) : own_W p e En below kc ks Q T (mkF m pc Ls (.int x :: st)) := by
  subst hp; exact own_W.step (fun _ q => XS.i2s X.here hx rfl hd rfl q) w
theorem own_i2c (X : Stand p l e R s m args below meth c T locs cells slots) (hx : p.tables.exec = Jvm.exec) {x : Int32} (hd : decode c.code pc = .ok (.i2c, 1))  (hp : pc + 1 = pc') (w : own_W p e En below kc ks Q T (mkF m pc' Ls (.int (x.toUInt32.toUInt16.toUInt32.toInt32) :: st))) : own_W p e En below kc ks Q T (mkF m pc Ls (.int x :: st)) := by
  subst hp; exact own_W.step (fun _ q => XS.i2c X.here hx rfl hd rfl q) w
theorem own_ishl (X : Stand p l e R s m args below meth c T locs cells slots) (hx : p.tables.exec = Jvm.exec) {x y : Int32} (hd : decode c.code pc = .ok (.ishl, 1))  (hp : pc + 1 = pc') (w : own_W p e En below kc ks Q T (mkF m pc' Ls (.int (x <<< (y &&& 31)) :: st))) : own_W p e En below kc ks Q T (mkF m pc Ls (.int y :: .int x :: st)) := by
  subst hp; exact own_W.step (fun _ q => XS.ishl X.here hx rfl hd rfl q) w
theorem own_ishr (X : Stand p l e R s m args below meth c T locs cells slots) (hx : p.tables.exec = Jvm.exec) {x y : Int32} (hd : decode c.code pc = .ok (.ishr, 1))  (hp : pc + 1 = pc') (w : own_W p e En below kc ks Q T (mkF m pc' Ls (.int (x >>> (y &&& 31)) :: st))) : own_W p e En below kc ks Q T (mkF m pc Ls (.int y :: .int x :: st)) := by
  subst hp; exact own_W.step (fun _ q => XS.ishr X.here hx rfl hd rfl q) w
theorem own_iushr (X : Stand p l e R s m args below meth c T locs cells slots) (hx : p.tables.exec = Jvm.exec) {x y : Int32} (hd : decode c.code pc = .ok (.iushr, 1))  (hp : pc + 1 = pc') (w : own_W p e En below kc ks Q T (mkF m pc' Ls (.int ((x.toUInt32 >>> (y &&& 31).toUInt32).toInt32) :: st))) : own_W p e En below kc ks Q T (mkF m pc Ls (.int y :: .int x :: st)) := by
  subst hp; exact own_W.step (fun _ q => XS.iushr X.here hx rfl hd rfl q) w
theorem own_lshl (X : Stand p l e R s m args below meth c T locs cells slots) (hx : p.tables.exec = Jvm.exec) {x : Int64} {y : Int32} (hd : decode c.code pc = .ok (.lshl, 1))  (hp : pc + 1 = pc') (w : own_W p e En below kc ks Q T (mkF m pc' Ls (.long (x <<< (y &&& 0x3f).toInt64) :: st))) : own_W p e En below kc ks Q T (mkF m pc Ls (.int y :: .long x :: st)) := by
  subst hp; exact own_W.step (fun _ q => XS.lshl X.here hx rfl hd rfl q) w
theorem own_lshr (X : Stand p l e R s m args below meth c T locs cells slots) (hx : p.tables.exec = Jvm.exec) {x : Int64} {y : Int32} (hd : decode c.code pc = .ok (.lshr, 1))  (hp : pc + 1 = pc') (w : own_W p e En below kc ks Q T (mkF m pc' Ls (.long (x >>> (y &&& 0x3f).toInt64) :: st))) : own_W p e En below kc ks Q T (mkF m pc Ls (.int y :: .long x :: st)) := by
  subst hp; exact own_W.step (fun _ q => XS.lshr X.here hx rfl hd rfl q) w
theorem own_lushr (X : Stand p l e R s m args below meth c T locs cells slots) (hx : p.tables.exec = Jvm.exec) {x : Int64} {y : Int32} (hd : decode c.code pc = .ok (.lushr, 1))  (hp : pc + 1 = pc') (w : own_W p e En below kc ks Q T (mkF m pc' Ls (.long ((x.toUInt64 >>> (y &&& 0x3f).toInt64.toUInt64).toInt64) :: st))) : own_W p e En below kc ks Q T (mkF m pc Ls (.int y :: .long x :: st)) := by
  subst hp; exact own_W.step (fun _ q => XS.lushr X.here hx rfl hd rfl q) w
theorem own_lcmp (X : Stand p l e R s m args below meth c T locs cells slots) (hx : p.tables.exec = Jvm.exec) {x y : Int64} (hd : decode c.code pc = .ok (.lcmp, 1))  (hp : pc + 1 = pc') (w : own_W p e En below kc ks Q T (mkF m pc' Ls (.int (XT.cmpL x y) :: st))) : own_W p e En below kc ks Q T (mkF m pc Ls (.long y :: .long x :: st)) := by
  subst hp; exact own_W.step (fun _ q => XT.lcmp X.here hx rfl hd rfl q) w
theorem own_iinc (X : Stand p l e R s m args below meth c T locs cells slots) (hx : p.tables.exec = Jvm.exec) {k : Nat} {cst : Int} (hd : decode c.code pc = .ok (.iinc k cst, 3)) (v : Int32) (hv : Int32.ofInt cst = v) {x : Int32} {l' : Array Slot} (hl : Ls[k]? = some (.val (.int x))) (hl' : storeLocals Ls k (.int (x + v)) = some l') (hp : pc + 3 = pc') (w : own_W p e En below kc ks Q T (mkF m pc' l' (st))) : own_W p e En below kc ks Q T (mkF m pc Ls (st)) := by
  subst hp; exact own_W.step (fun _ q => XT.iincV X.here hx rfl v hd hv hl hl' q) w
theorem own_dup (X : Stand p l e R s m args below meth c T locs cells slots) (hx : p.tables.exec = Jvm.exec) {x : Value} (hd : decode c.code pc = .ok (.dup, 1)) (hc : x.category = 1) (hp : pc + 1 = pc') (w : own_W p e En below kc ks Q T (mkF m pc' Ls (x :: x :: st))) : own_W p e En below kc ks Q T (mkF m pc Ls (x :: st)) := by
  subst hp; exact own_W.step (fun _ q => XS.dup X.here hx rfl hd rfl hc q) w
theorem own_pop (X : Stand p l e R s m args below meth c T locs cells slots) (hx : p.tables.exec = Jvm.exec) {x : Value} (hd : decode c.code pc = .ok (.pop, 1)) (hc : x.category = 1) (hp : pc + 1 = pc') (w : own_W p e En below kc ks Q T (mkF m pc' Ls (st))) : own_W p e En below kc ks Q T (mkF m pc Ls (x :: st)) := by
  subst hp; exact own_W.step (fun _ q => XS.pop X.here hx rfl hd rfl hc q) w
theorem own_dupX1 (X : Stand p l e R s m args below meth c T locs cells slots) (hx : p.tables.exec = Jvm.exec) {x y : Value} (hd : decode c.code pc = .ok (.dup_x1, 1)) (hc : x.category = 1) (hc2 : y.category = 1) (hp : pc + 1 = pc') (w : own_W p e En below kc ks Q T (mkF m pc' Ls (x :: y :: x :: st))) : own_W p e En below kc ks Q T (mkF m pc Ls (x :: y :: st)) := by
  subst hp; exact own_W.step (fun _ q => XS.dupX1 X.here hx rfl hd rfl hc hc2 q) w
theorem own_dup2 (X : Stand p l e R s m args below meth c T locs cells slots) (hx : p.tables.exec = Jvm.exec) {x y : Value} (hd : decode c.code pc = .ok (.dup2, 1)) (hc : x.category = 1) (hc2 : y.category = 1) (hp : pc + 1 = pc') (w : own_W p e En below kc ks Q T (mkF m pc' Ls (x :: y :: x :: y :: st))) : own_W p e En below kc ks Q T (mkF m pc Ls (x :: y :: st)) := by
  subst hp; exact own_W.step (fun _ q => XT.dup2 X.here hx rfl hd rfl hc hc2 q) w
theorem own_dup2L (X : Stand p l e R s m args below meth c T locs cells slots) (hx : p.tables.exec = Jvm.exec) {x : Int64} (hd : decode c.code pc = .ok (.dup2, 1))  (hp : pc + 1 = pc') (w : own_W p e En below kc ks Q T (mkF m pc' Ls (.long x :: .long x :: st))) : own_W p e En below kc ks Q T (mkF m pc Ls (.long x :: st)) := by
  subst hp; exact own_W.step (fun _ q => XT.dup2L X.here hx rfl hd rfl q) w
theorem own_goto (X : Stand p l e R s m args below meth c T locs cells slots) (hx : p.tables.exec = Jvm.exec) {o : Int} (hd : decode c.code pc = .ok (.goto o, 3)) {pc' : Nat} (ho : 0 ≤ (pc : Int) + o) (hp : ((pc : Int) + o).toNat = pc') (w : own_W p e En below kc ks Q T (mkF m pc' Ls st)) : own_W p e En below kc ks Q T (mkF m pc Ls st) :=
  own_W.step (fun _ q => XS.goto X.here hx rfl rfl hd ho hp q) w
theorem own_ifYes (X : Stand p l e R s m args below meth c T locs cells slots) (hx : p.tables.exec = Jvm.exec) {cd : Jvm.ClassFile.Cond} {x : Int32} {o : Int} (hd : decode c.code pc = .ok (.ifCond cd o, 3)) (hc : ifCond.holds cd x = true) {pc' : Nat} (ho : 0 ≤ (pc : Int) + o) (hp : ((pc : Int) + o).toNat = pc') (w : own_W p e En below kc ks Q T (mkF m pc' Ls st)) : own_W p e En below kc ks Q T (mkF m pc Ls (.int x :: st)) :=
  own_W.step (fun _ q => XS.ifYes X.here hx rfl rfl hd rfl hc ho hp q) w
theorem own_ifNo (X : Stand p l e R s m args below meth c T locs cells slots) (hx : p.tables.exec = Jvm.exec) {cd : Jvm.ClassFile.Cond} {x : Int32} {o : Int} (hd : decode c.code pc = .ok (.ifCond cd o, 3)) (hc : ifCond.holds cd x = false) (hp : pc + 3 = pc') (w : own_W p e En below kc ks Q T (mkF m pc' Ls st)) : own_W p e En below kc ks Q T (mkF m pc Ls (.int x :: st)) := by
  subst hp; exact own_W.step (fun _ q => XS.ifNo X.here hx rfl hd rfl hc q) w
theorem own_icmpYes (X : Stand p l e R s m args below meth c T locs cells slots) (hx : p.tables.exec = Jvm.exec) {cd : Jvm.ClassFile.Cond} {x y : Int32} {o : Int} (hd : decode c.code pc = .ok (.if_icmp cd o, 3)) (hc : if_icmp.holds cd x y = true) {pc' : Nat} (ho : 0 ≤ (pc : Int) + o) (hp : ((pc : Int) + o).toNat = pc') (w : own_W p e En below kc ks Q T (mkF m pc' Ls st)) : own_W p e En below kc ks Q T (mkF m pc Ls (.int y :: .int x :: st)) :=
  own_W.step (fun _ q => XS.icmpYes X.here hx rfl rfl hd rfl hc ho hp q) w
theorem own_icmpNo (X : Stand p l e R s m args below meth c T locs cells slots) (hx : p.tables.exec = Jvm.exec) {cd : Jvm.ClassFile.Cond} {x y : Int32} {o : Int} (hd : decode c.code pc = .ok (.if_icmp cd o, 3)) (hc : if_icmp.holds cd x y = false) (hp : pc + 3 = pc') (w : own_W p e En below kc ks Q T (mkF m pc' Ls st)) : own_W p e En below kc ks Q T (mkF m pc Ls (.int y :: .int x :: st)) := by
  subst hp; exact own_W.step (fun _ q => XS.icmpNo X.here hx rfl hd rfl hc q) w
theorem own_ifnullYes (X : Stand p l e R s m args below meth c T locs cells slots) (hx : p.tables.exec = Jvm.exec) {o : Int} (hd : decode c.code pc = .ok (.ifnull o, 3)) {pc' : Nat} (ho : 0 ≤ (pc : Int) + o) (hp : ((pc : Int) + o).toNat = pc') (w : own_W p e En below kc ks Q T (mkF m pc' Ls st)) : own_W p e En below kc ks Q T (mkF m pc Ls (.null :: st)) :=
  own_W.step (fun _ q => XS.ifnullYes X.here hx rfl rfl hd rfl ho hp q) w
theorem own_ifnullNo (X : Stand p l e R s m args below meth c T locs cells slots) (hx : p.tables.exec = Jvm.exec) {o : Int} (hd : decode c.code pc = .ok (.ifnull o, 3)) (hp : pc + 3 = pc') (w : own_W p e En below kc ks Q T (mkF m pc' Ls st)) : own_W p e En below kc ks Q T (mkF m pc Ls (.ref b :: st)) := by
  subst hp; exact own_W.step (fun _ q => XS.ifnullNo X.here hx rfl hd rfl q) w
theorem own_ifnonnullYes (X : Stand p l e R s m args below meth c T locs cells slots) (hx : p.tables.exec = Jvm.exec) {o : Int} (hd : decode c.code pc = .ok (.ifnonnull o, 3)) {pc' : Nat} (ho : 0 ≤ (pc : Int) + o) (hp : ((pc : Int) + o).toNat = pc') (w : own_W p e En below kc ks Q T (mkF m pc' Ls st)) : own_W p e En below kc ks Q T (mkF m pc Ls (.ref b :: st)) :=
  own_W.step (fun _ q => XS.ifnonnullYes X.here hx rfl rfl hd rfl ho hp q) w
theorem own_ifnonnullNo (X : Stand p l e R s m args below meth c T locs cells slots) (hx : p.tables.exec = Jvm.exec) {o : Int} (hd : decode c.code pc = .ok (.ifnonnull o, 3)) (hp : pc + 3 = pc') (w : own_W p e En below kc ks Q T (mkF m pc' Ls st)) : own_W p e En below kc ks Q T (mkF m pc Ls (.null :: st)) := by
  subst hp; exact own_W.step (fun _ q => XS.ifnonnullNo X.here hx rfl hd rfl q) w
/-- an array: its kind, its length, what each place holds -/
def own_A (Z : State) (h : Heap) (a : Addr) (ty : FieldType) (n : Nat) (f : Nat → Value) : Prop := ∃ c : Cell, Arr Z h a c ty ∧ c.slots.size = n ∧ n < 2 ^ 31 ∧ (∀ i, i < n → c.slots[i]? = some (f i)) ∧ ∀ i, i < n → fits ty (f i) = true
/-- the int j names the place i, which lies in an array of n places -/
def own_In (j : Int32) (i n : Nat) : Prop := j.toInt = (i : Int) ∧ i < n
variable {ty : FieldType} {n i : Nat} {f f' : Nat → Value} {j : Int32}
def own_k0 (_ : Nat) : Int32 := 0
def own_k0L (_ : Nat) : Int64 := 0
def own_up {α : Type} (f : Nat → α) (k : Nat) (x : α) (z : Nat) : α := if z = k then x else f z
theorem own_up_same {α : Type} (f : Nat → α) (k : Nat) (x : α) : own_up f k x k = x := if_pos rfl
theorem own_up_other {α : Type} (f : Nat → α) (k : Nat) (x : α) (z : Nat) (q : z ≠ k) : own_up f k x z = f z := if_neg q
theorem own_In.nat (q : own_In j i n) : j.toNatClampNeg = i := by
  show j.toInt.toNat = i
  rw [q.1]; rfl
theorem own_In.inb {cl : Cell} (q : own_In j i n) (S : cl.slots.size = n) : ¬ (j < 0 ∨ cl.slots.size ≤ j.toNatClampNeg) := by
  rw [q.nat, S]
  have q1 := q.1
  have q2 := q.2
  rintro (r | r)
  · rw [Int32.lt_iff_toInt_lt] at r
    have z : (0 : Int32).toInt = 0 := rfl
    omega
  · omega
theorem own_A.lt (F : own_A Z h a ty n f) : a < h.size := by obtain ⟨c, A, -⟩ := F; exact A.lt
theorem own_A.len (F : own_A Z h a ty n f) : n < 2 ^ 31 := by obtain ⟨c, -, -, q, -, -⟩ := F; exact q
theorem own_A.ext (F : own_A Z h a ty n f) (E : Ext h h') : own_A Z h' a ty n f := by obtain ⟨c, A, r⟩ := F; exact ⟨c, A.ext E, r⟩
theorem own_A.other {v : Value} (F : own_A Z h b ty n f) (W : Wr h h' a sl v) (q : b ≠ a) : own_A Z h' b ty n f := by obtain ⟨c, A, r⟩ := F; exact ⟨c, A.other W q, r⟩
theorem own_A.keep {ws : List Addr} (F : own_A Z h a ty n f) (K : Keep h h' ws) (q : a ∉ ws) : own_A Z h' a ty n f := by obtain ⟨c, A, r⟩ := F; exact ⟨c, ⟨K.2.1 a c A.1 q, A.2⟩, r⟩
theorem own_A.congr (F : own_A Z h a ty n f) (q : ∀ i, i < n → f i = f' i) : own_A Z h a ty n f' := by
  obtain ⟨c, A, r1, r2, r3, r4⟩ := F
  exact ⟨c, A, r1, r2, fun i hi => by rw [r3 i hi, q i hi], fun i hi => by rw [← q i hi]; exact r4 i hi⟩
theorem own_A.fit (F : own_A Z h a ty n f) {i : Nat} (hi : i < n) : fits ty (f i) = true := by obtain ⟨c, A, r1, r2, r3, r4⟩ := F; exact r4 i hi
theorem own_A.new {k : ClassId} {z : Int32} (A : Arr Z h a (newA k ty z) ty) (q : ¬ z < 0) (hn : z.toNatClampNeg = n) : own_A Z h a ty n (fun _ => defaultValue ty) := by
  subst hn
  refine ⟨_, A, sz_new _ _ _, (back32 q).2, fun i hi => ?_, fun i _ => by cases ty <;> rfl⟩
  show (Array.replicate z.toNatClampNeg (defaultValue ty))[i]? = _
  rw [Array.getElem?_replicate, if_pos hi]
theorem own_A.put {cl : Cell} {v : Value} (A : Arr Z h a cl ty) (S : cl.slots.size = n) (hn : n < 2 ^ 31) (H : ∀ i, i < n → cl.slots[i]? = some (f i)) (G : ∀ i, i < n → fits ty (f i) = true) (hv : fits ty v = true) (q : own_In j i n) (W : Wr h h' a j.toNatClampNeg v) : own_A Z h' a ty n (fun z => if z = i then v else f z) := by
  refine ⟨_, A.same W, by rw [sz_set]; exact S, hn, fun k hk => ?_, fun k hk => ?_⟩
  rotate_left
  · show fits ty (if k = i then v else f k) = true
    by_cases e : k = i
    · rw [if_pos e]; exact hv
    · rw [if_neg e]; exact G k hk
  show (cl.slots.setIfInBounds j.toNatClampNeg v)[k]? = some (if k = i then v else f k)
  rw [q.nat, Array.getElem?_setIfInBounds]
  by_cases e : i = k
  · subst e
    rw [if_pos rfl, if_pos (by rw [S]; exact hk), if_pos rfl]
  · rw [if_neg e, if_neg (fun z => e z.symm), H k hk]
theorem own_stI (X : Stand p l e R s m args below meth c T locs cells slots) (hx : p.tables.exec = Jvm.exec) (hZ : Z.Warmed39 s.vm) (eT : T.heap = h) (F : own_A Z h a .int n f) {x : Int32} (hi : own_In j i n) {g : JFrame} (hg : g.method = m) {rest : List Value} (hs : g.stack = .int x :: .int j :: .ref a :: rest) (hd : decode c.code g.pc = .ok (.iastore, 1)) :
    ∃ T' h', Stand p l e R s m args below meth c T' (locs ++ [⟨a, j.toNatClampNeg⟩]) cells slots ∧ T'.heap = h' ∧ Wr h h' a j.toNatClampNeg (.int (x)) ∧ own_A Z h' a .int n (fun z => if z = i then .int (x) else f z) ∧ ∀ target, Steps p.tables e below (T'.setTop { g with pc := g.pc + 1, stack := rest }) target → Steps p.tables e below (T.setTop g) target := by
  obtain ⟨cl, A, S, hn, H, G⟩ := F
  obtain ⟨T', h', X', e', W', st'⟩ := stI X hx hZ eT A (hi.inb S) hg hs hd
  exact ⟨T', h', X', e', W', own_A.put A S hn H G rfl hi W', st'⟩
theorem own_stJ (X : Stand p l e R s m args below meth c T locs cells slots) (hx : p.tables.exec = Jvm.exec) (hZ : Z.Warmed39 s.vm) (eT : T.heap = h) (F : own_A Z h a .long n f) {x : Int64} (hi : own_In j i n) {g : JFrame} (hg : g.method = m) {rest : List Value} (hs : g.stack = .long x :: .int j :: .ref a :: rest) (hd : decode c.code g.pc = .ok (.lastore, 1)) :
    ∃ T' h', Stand p l e R s m args below meth c T' (locs ++ [⟨a, j.toNatClampNeg⟩]) cells slots ∧ T'.heap = h' ∧ Wr h h' a j.toNatClampNeg (.long (x)) ∧ own_A Z h' a .long n (fun z => if z = i then .long (x) else f z) ∧ ∀ target, Steps p.tables e below (T'.setTop { g with pc := g.pc + 1, stack := rest }) target → Steps p.tables e below (T.setTop g) target := by
  obtain ⟨cl, A, S, hn, H, G⟩ := F
  obtain ⟨T', h', X', e', W', st'⟩ := stJ X hx hZ eT A (hi.inb S) hg hs hd
  exact ⟨T', h', X', e', W', own_A.put A S hn H G rfl hi W', st'⟩
theorem own_stB (X : Stand p l e R s m args below meth c T locs cells slots) (hx : p.tables.exec = Jvm.exec) (hZ : Z.Warmed39 s.vm) (eT : T.heap = h) (F : own_A Z h a .byte n f) {x : Int32} (hi : own_In j i n) {g : JFrame} (hg : g.method = m) {rest : List Value} (hs : g.stack = .int x :: .int j :: .ref a :: rest) (hd : decode c.code g.pc = .ok (.bastore, 1)) :
    ∃ T' h', Stand p l e R s m args below meth c T' (locs ++ [⟨a, j.toNatClampNeg⟩]) cells slots ∧ T'.heap = h' ∧ Wr h h' a j.toNatClampNeg (.int (x.toInt8.toInt32)) ∧ own_A Z h' a .byte n (fun z => if z = i then .int (x.toInt8.toInt32) else f z) ∧ ∀ target, Steps p.tables e below (T'.setTop { g with pc := g.pc + 1, stack := rest }) target → Steps p.tables e below (T.setTop g) target := by
  obtain ⟨cl, A, S, hn, H, G⟩ := F
  obtain ⟨T', h', X', e', W', st'⟩ := stB X hx hZ eT A (hi.inb S) hg hs hd
  exact ⟨T', h', X', e', W', own_A.put A S hn H G (fits_nar_byte _) hi W', st'⟩
theorem own_iaload (X : Stand p l e R s m args below meth c T locs cells slots) (hx : p.tables.exec = Jvm.exec) (hZ : Z.Warmed39 s.vm) (eT : T.heap = h) (F : own_A Z h a .int n f) (hi : own_In j i n) {v : Int32} (hv : f i = .int v) {g : JFrame} (hg : g.method = m) {rest : List Value} (hs : g.stack = .int j :: .ref a :: rest) (hd : decode c.code g.pc = .ok (.iaload, 1)) (w : own_W p e En below kc ks Q T { g with pc := g.pc + 1, stack := .int v :: rest }) : own_W p e En below kc ks Q T g := by
  obtain ⟨cl, A, S, hn, H, -⟩ := F
  exact own_W.step (X.iaload hx (j := j) (v := .int v) (by rw [eT]; exact A.1) (State.isArrayOf_alike hZ.alike A.2.1) A.2.2 (hi.inb S) (by rw [hi.nat, H i hi.2, hv]) (g := g) hg hs hd) w
theorem own_laload (X : Stand p l e R s m args below meth c T locs cells slots) (hx : p.tables.exec = Jvm.exec) (hZ : Z.Warmed39 s.vm) (eT : T.heap = h) (F : own_A Z h a .long n f) (hi : own_In j i n) {v : Int64} (hv : f i = .long v) {g : JFrame} (hg : g.method = m) {rest : List Value} (hs : g.stack = .int j :: .ref a :: rest) (hd : decode c.code g.pc = .ok (.laload, 1)) (w : own_W p e En below kc ks Q T { g with pc := g.pc + 1, stack := .long v :: rest }) : own_W p e En below kc ks Q T g := by
  obtain ⟨cl, A, S, hn, H, -⟩ := F
  exact own_W.step (X.laload hx (j := j) (v := .long v) (by rw [eT]; exact A.1) (State.isArrayOf_alike hZ.alike A.2.1) A.2.2 (hi.inb S) (by rw [hi.nat, H i hi.2, hv]) (g := g) hg hs hd) w
theorem own_baload (X : Stand p l e R s m args below meth c T locs cells slots) (hx : p.tables.exec = Jvm.exec) (hZ : Z.Warmed39 s.vm) (eT : T.heap = h) (F : own_A Z h a .byte n f) (hi : own_In j i n) {v : Int32} (hv : f i = .int v) {g : JFrame} (hg : g.method = m) {rest : List Value} (hs : g.stack = .int j :: .ref a :: rest) (hd : decode c.code g.pc = .ok (.baload, 1)) (w : own_W p e En below kc ks Q T { g with pc := g.pc + 1, stack := .int v :: rest }) : own_W p e En below kc ks Q T g := by
  obtain ⟨cl, A, S, hn, H, -⟩ := F
  exact own_W.step (X.baloadBytes hx (j := j) (v := .int v) (by rw [eT]; exact A.1) (State.isArrayOf_alike hZ.alike A.2.1) A.2.2 (hi.inb S) (by rw [hi.nat, H i hi.2, hv]) (g := g) hg hs hd) w
theorem own_alen (X : Stand p l e R s m args below meth c T locs cells slots) (hx : p.tables.exec = Jvm.exec) (hZ : Z.Warmed39 s.vm) (eT : T.heap = h) (F : own_A Z h a ty n f) {z : Int32} (hz : n.toInt32 = z) {g : JFrame} (hg : g.method = m) {rest : List Value} (hs : g.stack = .ref a :: rest) (hd : decode c.code g.pc = .ok (.arraylength, 1)) (w : own_W p e En below kc ks Q T { g with pc := g.pc + 1, stack := .int z :: rest }) : own_W p e En below kc ks Q T g := by
  obtain ⟨cl, A, S, hn, H, -⟩ := F
  subst hz S
  exact own_W.step (X.arraylength hx (by rw [eT]; exact A.1) (State.isArrayOf_alike hZ.alike A.2.1) (g := g) hg hs hd) w

/-- a constructor whose entry is resolved already (a nest mate's private one) -/
theorem own_ready {a0 : Array Value} {own : String} {index : Nat} {y : MethodName} (hZ : Z.Warmed39 s.vm) (hown : s.vm.findClass own = some m.cls) (hy : y.cls ≠ "java/lang/invoke/MethodHandle" ∧ y.cls ≠ "java/lang/invoke/VarHandle") (w : (Jvm.Cond.methodRef own index y).before a0 Z = true) (wi : (Jvm.Cond.instanceMethod y).before a0 Z = true) (ev : Env) :
    ∀ (U : State) (r : MethodId), s.WarmedH U.vm → s.methodNamed? y = some r → namesResolved U.vm m.cls index r.cls ∧ U.vm.methodReady m.cls index r := by
  intro U r hW hn
  obtain ⟨mk, methM, hnZ, -⟩ := Cond.instanceMethod_spec wi
  have hZU : Z.Warmed39 U.vm := wtrans hZ hW
  have h1 := Cond.methodRef_warmed39 hZU hnZ hy w
  have e0 : (Z.setVm s.vm).methodNamed? y = Z.methodNamed? y := State.methodNamed?_setVm hZ.alike y
  have e1 : s.methodNamed? y = (Z.setVm s.vm).methodNamed? y := rfl
  have e2 : mk = r := by rw [e1, e0, hnZ] at hn; exact Option.some.inj hn
  subst e2
  have e3 : (Z.setVm U.vm).methodNamed? y = some mk := by rw [State.methodNamed?_setVm hZU.alike y]; exact hnZ
  have hcur : (Z.setVm U.vm).vm.findClass own = some m.cls := by
    show U.vm.findClass own = _
    rw [hW.alike.findClass]; exact hown
  obtain ⟨m', c', hm, hready, hfind, hnr⟩ := Cond.methodRef_named ev hcur h1
  cases hm.symm.trans (State.methodFound?_of_named e3 hy)
  cases hfind.symm.trans (findClass_of_methodNamed e3)
  exact ⟨hnr, hready⟩
theorem own_specialRef (X : Stand p l e R s m args below meth c T locs cells slots) (hexec : p.tables.exec = Jvm.exec) (hZ : Z.Warmed39 s.vm) {a0 : Array Value} {own : String} {index : Nat} {y : MethodName} (hy1 : y.name = "<init>") (hown : s.vm.findClass own = some m.cls) (w : (Jvm.Cond.methodRef own index y).before a0 Z = true) (wi : (Jvm.Cond.instanceMethod y).before a0 Z = true)
    {bytes : ByteArray} {maxL : Nat} (wc : (Jvm.Cond.code y bytes maxL none).before a0 Z = true) (hy : y.cls ≠ "java/lang/invoke/MethodHandle" ∧ y.cls ≠ "java/lang/invoke/VarHandle")
    {W : Nat} {Pre : Pt → Array Value → Prop} {Post : Pt → Array Value → Option Value → Pt → Prop} (hK : Back l R p e below s args y 3 W Pre Post)
    {g : JFrame} (hg : g.method = m) (hsize : g.locals.size = c.maxLocals) {s₀ : State} (hcome : Steps p.tables e below s₀ (T.setTop g)) {a : Addr} {argsL rest : List Value}
    (hlen : ∀ sig, parseMethodDescriptor y.desc = some sig → argsL.length = sig.parameters.length) (hstack : g.stack = argsL.reverse ++ .ref a :: rest) (hW : 2 * g.monitorRoom + (rest.map fun v => v.category).sum ≤ W)
    (hdg : decode c.code g.pc = .ok (.invokespecial index, 3)) (hpre : ∀ vm₁, s.WarmedH vm₁ → Pre ⟨T.setVm vm₁, locs, cells, slots⟩ (.ref a :: argsL).toArray) :
    ∃ (v : Option Value) (vm₁ : Vm) (B : Pt), s.WarmedH vm₁ ∧ Stand p l e R s m args below meth c B.U B.locs B.cells B.slots ∧ Post ⟨T.setVm vm₁, locs, cells, slots⟩ (.ref a :: argsL).toArray v B ∧
      Steps p.tables e below s₀ (B.U.setTop { g with pc := g.pc + 3, stack := v.toList ++ rest }) :=
  (SCall.of_ready hexec hy1 (mvT hZ wi) (mvT hZ wc) (own_ready hZ hown hy w wi e)) X hK hg hsize hcome hlen hstack hW hdg hpre
theorem own_selP {a0 : Array Value} {y : MethodName} {n : Nat} (wp : (Jvm.Cond.privateMethod y).before a0 Z = true) (wi : (Jvm.Cond.instanceMethod y).before a0 Z = true) (wn : (Jvm.Cond.instantiable y.cls n).before a0 Z = true) (hy : y.cls ≠ "java/lang/invoke/MethodHandle" ∧ y.cls ≠ "java/lang/invoke/VarHandle") : (Jvm.Cond.selects y.cls y y).before a0 Z = true := by
  obtain ⟨mk, methM, hn, hm, hst, hab⟩ := Cond.instanceMethod_spec wi
  obtain ⟨c, k, hc, hk, -, hi, -⟩ := Cond.instantiable_spec wn
  have hcls : Z.vm.findClass y.cls = some mk.cls := findClass_of_methodNamed hn
  cases hc.symm.trans hcls
  have hf := State.methodFound?_of_named hn hy
  have hs : selectMethod {} Z.vm mk.cls mk = .method mk := selectMethod_private hm (Cond.privateMethod_at wp mk methM hn hm)
  have hki : k.isInterface = false := (Bool.or_eq_false_iff.mp hi).1
  simp [Cond.before, Cond.holds, Cond.value, hcls, hf, hn, hs, hk, hki]
end OwnW

section OwnWide
variable {p : Program} {l : Launch} {e : Env} {R : Room} {s : State} {m : MethodId} {args : Array Value} {below : List Frame} {meth : Method} {c : Code} {T : State} {locs : List Loc} {cells slots kc ks : Nat} {Q : Option Value → Heap → List Loc → Prop} {g : JFrame} {pc : Nat} {Ls : Array Slot} {rest : List Value}
theorem own_leaveW {vm1 : Vm} (X : Stand p l e R (s.setVm vm1) m args below meth c T locs cells slots) {n1 : Nat} (hS : s.Since vm1 n1) (hn : n1 ≤ T.heap.size) (hlk : meth.locks = false) {v : Option Value} (hv : meth.sig.returnType = none → v = none) (hc : cells ≤ kc) (hs : slots ≤ ks)
    (k : ∀ fs, (∀ (f : JFrame) (acts : List Action), f.method = m → f.locked = none → f.entered = [] → (doReturn e (T.setTop f) acts v).1 = T.setFrames fs) → Steps p.tables e below (T.setTop g) (T.setFrames fs)) (hQ : Q v T.heap locs) : own_W p e (ReturnedEndW s) below kc ks Q T g := by
  obtain ⟨fs, hr, hrun, hended, hR, hW, hB, hsame⟩ := X.leaveW hS hn (v := v) hv hlk
  exact ⟨_, _, k fs hr, hrun, hended, v, locs, rfl, hQ, hR, hW, hB, hsame.mono hc hs⟩
theorem own_retVW {vm1 : Vm} (X : Stand p l e R (s.setVm vm1) m args below meth c T locs cells slots) {n1 : Nat} (hS : s.Since vm1 n1) (hn : n1 ≤ T.heap.size) (hx : p.tables.exec = Jvm.exec) (hlk : meth.locks = false) (hret : meth.sig.returnType = none) (hd : decode c.code pc = .ok (.return_, 1)) (hc : cells ≤ kc) (hs : slots ≤ ks) (hQ : Q none T.heap locs) : own_W p e (ReturnedEndW s) below kc ks Q T (mkF m pc Ls []) :=
  own_leaveW X hS hn hlk (fun _ => rfl) hc hs (fun fs hr => X.returnOut hx hret hd hr) hQ
theorem own_retNW {t : FieldType} {vm1 : Vm} (X : Stand p l e R (s.setVm vm1) m args below meth c T locs cells slots) {n1 : Nat} (hS : s.Since vm1 n1) (hn : n1 ≤ T.heap.size) (hx : p.tables.exec = Jvm.exec) (hlk : meth.locks = false) (hret : meth.sig.returnType = some t) (ht : t = .boolean ∨ t = .byte ∨ t = .char ∨ t = .short) (hd : decode c.code pc = .ok (.ireturn, 1)) {z z' : Int32} (hz : nar t z = z') (hc : cells ≤ kc) (hs : slots ≤ ks) (hQ : Q (some (.int z')) T.heap locs) : own_W p e (ReturnedEndW s) below kc ks Q T (mkF m pc Ls (.int z :: rest)) := by
  subst hz
  exact own_leaveW X hS hn hlk (fun q => by rw [hret] at q; cases q) hc hs (fun fs hr => retN X hx hret ht hd hr) hQ
end OwnWide
/-! 1. plain law -/
theorem own_k2 {k : Int32} (h : k = (2 : Int32) ∨ k = (5 : Int32)) : k.toInt = 2 ∨ k.toInt = 5 := by
  rcases h with rfl | rfl
  · exact Or.inl (by decide)
  · exact Or.inr (by decide)
theorem own_nk {n k : Int32} (hk : k = (2 : Int32) ∨ k = (5 : Int32)) (hn : 131072 ≤ n.toInt) : ¬ (n < k) := by
  have := own_k2 hk
  rw [Int32.lt_iff_toInt_lt]
  omega
theorem own_f (n k i : Int32) (hk : k = (2 : Int32) ∨ k = (5 : Int32)) (hn : 131072 ≤ n.toInt) (hi : i.toInt = 1 ∨ i.toInt = 2) : (((n - k) + i).toInt64).toInt = n.toInt - k.toInt + i.toInt := by
  have q := own_k2 hk
  have e1 := c_isub n k
  have r0 := rng32 n
  have r1 := rng32 (n - k)
  have e2 := c_iadd (n - k) i
  have r2 := rng32 ((n - k) + i)
  rw [c_i2l]
  omega
theorem own_s1 {n k : Int32} {r : Int64} (hk : k = (2 : Int32) ∨ k = (5 : Int32)) (hn : 131072 ≤ n.toInt) (h : r = ((1 : Int64) * (((n - k) + (1 : Int32)).toInt64)) / ((1 : Int32).toInt64)) : r.toInt = n.toInt - k.toInt + 1 := by
  have q := own_k2 hk
  have f := own_f n k (1 : Int32) hk hn (Or.inl (by decide))
  have t1 : (1 : Int32).toInt = 1 := by decide
  rw [t1] at f
  have r0 := rng32 n
  have e1 := c_lmul (1 : Int64) (((n - k) + (1 : Int32)).toInt64)
  have r1 := rng64 ((1 : Int64) * (((n - k) + (1 : Int32)).toInt64))
  rw [show (1 : Int64).toInt = 1 from by decide, f] at e1
  have e2 := c_ldiv ((1 : Int64) * (((n - k) + (1 : Int32)).toInt64)) ((1 : Int32).toInt64) 1 (by decide) (by decide)
  rw [h]
  have e3 := e2.1 (by omega)
  omega
theorem own_s2 {n k : Int32} {r r2 : Int64} (hk : k = (2 : Int32) ∨ k = (5 : Int32)) (hn : 131072 ≤ n.toInt) (h : r.toInt = n.toInt - k.toInt + 1) (h2 : r2 = (r * (((n - k) + ((1 : Int32) + (1 : Int32))).toInt64)) / (((1 : Int32) + (1 : Int32)).toInt64)) : (2147483647 : Int64) < r2 := by
  have q := own_k2 hk
  have f := own_f n k ((1 : Int32) + (1 : Int32)) hk hn (Or.inr (by decide))
  have t2 : ((1 : Int32) + (1 : Int32)).toInt = 2 := by decide
  rw [t2] at f
  have r0 := rng32 n
  have e1 := c_lmul r (((n - k) + ((1 : Int32) + (1 : Int32))).toInt64)
  have r1 := rng64 (r * (((n - k) + ((1 : Int32) + (1 : Int32))).toInt64))
  rw [f, h] at e1
  have lo : (131068 : Int) * 131069 ≤ (n.toInt - k.toInt + 1) * (n.toInt - k.toInt + 2) := Int.mul_le_mul (by omega) (by omega) (by decide) (by omega)
  have hi : (n.toInt - k.toInt + 1) * (n.toInt - k.toInt + 2) ≤ 2147483648 * 2147483648 := Int.mul_le_mul (by omega) (by omega) (by omega) (by decide)
  have e2 := c_ldiv (r * (((n - k) + ((1 : Int32) + (1 : Int32))).toInt64)) (((1 : Int32) + (1 : Int32)).toInt64) 2 (by decide) (by decide)
  rw [Int64.lt_iff_toInt_lt, h2, show (2147483647 : Int64).toInt = 2147483647 from by decide]
  generalize (n.toInt - k.toInt + 1) * (n.toInt - k.toInt + 2) = P at *
  have e3 := e2.1 (by omega)
  omega
theorem own_le {r : Int64} (p : Int32) (h : (2147483647 : Int64) < r) : ¬ (r < p.toInt64) := by
  have e := c_i2l p
  have q := rng32 p
  rw [Int64.lt_iff_toInt_lt, show (2147483647 : Int64).toInt = 2147483647 from by decide] at h
  rw [Int64.lt_iff_toInt_lt]
  omega
theorem own_msk (a : Int32) : 0 ≤ (a &&& (2147483647 : Int32)).toInt ∧ (a &&& (2147483647 : Int32)).toInt ≤ 2147483647 := by
  have e1 := c_mask a (2147483647 : Int32) 31 (by decide) (by decide)
  omega
theorem own_steps (a : Int32) : 131072 ≤ ((a &&& (2147483647 : Int32)) ||| (131072 : Int32)).toInt := by
  have e1 := own_msk a
  have n1 : ((a &&& (2147483647 : Int32)) ||| (131072 : Int32)).toBitVec.toNat = (a &&& (2147483647 : Int32)).toBitVec.toNat ||| 131072 := by
    show ((a &&& (2147483647 : Int32)).toBitVec ||| (131072 : Int32).toBitVec).toNat = _
    rw [BitVec.toNat_or]
    rfl
  have hb : ∀ k : Int32, 0 ≤ k.toInt → k.toBitVec.toNat < 2147483648 := by
    intro k hk
    have e : k.toInt = k.toBitVec.toInt := rfl
    rw [e, BitVec.toInt_eq_toNat_cond] at hk
    have := k.toBitVec.isLt
    split at hk <;> omega
  have h1 := hb _ e1.1
  have h2 : (a &&& (2147483647 : Int32)).toBitVec.toNat ||| 131072 < 2 ^ 31 := Nat.or_lt_two_pow h1 (by decide)
  have h3 : 131072 ≤ (a &&& (2147483647 : Int32)).toBitVec.toNat ||| 131072 := Nat.right_le_or
  have e : ((a &&& (2147483647 : Int32)) ||| (131072 : Int32)).toInt = ((a &&& (2147483647 : Int32)) ||| (131072 : Int32)).toBitVec.toInt := rfl
  rw [e, BitVec.toInt_eq_toNat_cond, n1, if_pos (by omega)]
  omega
theorem own_take (b : Int32) (r : Int64) (hr : 0 ≤ r.toInt ∧ r.toInt ≤ 2147483647) : r + (1 : Int64) ≠ 0 ∧ 0 ≤ (((b.toInt64 &&& (2147483647 : Int64)) % (r + (1 : Int64))).toInt32).toInt ∧ (((b.toInt64 &&& (2147483647 : Int64)) % (r + (1 : Int64))).toInt32).toInt ≤ r.toInt ∧ (r - ((((b.toInt64 &&& (2147483647 : Int64)) % (r + (1 : Int64))).toInt32).toInt64)).toInt = r.toInt - (((b.toInt64 &&& (2147483647 : Int64)) % (r + (1 : Int64))).toInt32).toInt := by
  have a1 := c_ladd r (1 : Int64)
  have ra := rng64 (r + (1 : Int64))
  rw [show (1 : Int64).toInt = 1 from by decide] at a1
  have v1 : (r + (1 : Int64)).toInt = r.toInt + 1 := by omega
  have m := c_maskL b.toInt64 (2147483647 : Int64) 31 (by decide) (by decide)
  have q : ((b.toInt64 &&& (2147483647 : Int64)) % (r + (1 : Int64))).toInt = (b.toInt64 &&& (2147483647 : Int64)).toInt % (r.toInt + 1) := by
    rw [Int64.toInt_mod, Int.tmod_eq_emod_of_nonneg (by omega), v1]
  have l1 := Int.emod_nonneg (b.toInt64 &&& (2147483647 : Int64)).toInt (show r.toInt + 1 ≠ 0 by omega)
  have l2 := Int.emod_lt_of_pos (b.toInt64 &&& (2147483647 : Int64)).toInt (show 0 < r.toInt + 1 by omega)
  rw [← q] at l1 l2
  have c := c_l2i ((b.toInt64 &&& (2147483647 : Int64)) % (r + (1 : Int64)))
  have rc := rng32 (((b.toInt64 &&& (2147483647 : Int64)) % (r + (1 : Int64))).toInt32)
  have v2 : (((b.toInt64 &&& (2147483647 : Int64)) % (r + (1 : Int64))).toInt32).toInt = ((b.toInt64 &&& (2147483647 : Int64)) % (r + (1 : Int64))).toInt := by omega
  have s := c_lsub r ((((b.toInt64 &&& (2147483647 : Int64)) % (r + (1 : Int64))).toInt32).toInt64)
  have rs := rng64 (r - ((((b.toInt64 &&& (2147483647 : Int64)) % (r + (1 : Int64))).toInt32).toInt64))
  rw [c_i2l] at s
  refine ⟨fun z => ?_, by omega, by omega, by omega⟩
  rw [z, show (0 : Int64).toInt = 0 from rfl] at v1
  omega
theorem own_rem1 (u : Int32) (hu : 0 ≤ u.toInt) : 0 ≤ ((2147483647 : Int64) - u.toInt64).toInt ∧ ((2147483647 : Int64) - u.toInt64).toInt = 2147483647 - u.toInt := by
  have s := c_lsub (2147483647 : Int64) u.toInt64
  have rs := rng64 ((2147483647 : Int64) - u.toInt64)
  have r := rng32 u
  rw [c_i2l, show (2147483647 : Int64).toInt = 2147483647 from by decide] at s
  omega
theorem own_sumL {a b c d : Int32} (ha : 0 ≤ a.toInt) (hb : 0 ≤ b.toInt) (hc : 0 ≤ c.toInt) (hd : 0 ≤ d.toInt) (h : a.toInt + b.toInt + c.toInt + d.toInt ≤ 2147483647) : (((a.toInt64 + b.toInt64) + c.toInt64) + d.toInt64).toInt = a.toInt + b.toInt + c.toInt + d.toInt := by
  have e1 := c_ladd a.toInt64 b.toInt64
  have r1 := rng64 (a.toInt64 + b.toInt64)
  have e2 := c_ladd (a.toInt64 + b.toInt64) c.toInt64
  have r2 := rng64 ((a.toInt64 + b.toInt64) + c.toInt64)
  have e3 := c_ladd ((a.toInt64 + b.toInt64) + c.toInt64) d.toInt64
  have r3 := rng64 (((a.toInt64 + b.toInt64) + c.toInt64) + d.toInt64)
  rw [c_i2l, c_i2l] at e1
  rw [c_i2l] at e2 e3
  omega
theorem own_sumI {a b c d : Int32} (ha : 0 ≤ a.toInt) (hb : 0 ≤ b.toInt) (hc : 0 ≤ c.toInt) (hd : 0 ≤ d.toInt) (h : a.toInt + b.toInt + c.toInt + d.toInt ≤ 2147483647) : (((a + b) + c) + d).toInt = a.toInt + b.toInt + c.toInt + d.toInt := by
  have e1 := c_iadd a b
  have r1 := rng32 (a + b)
  have e2 := c_iadd (a + b) c
  have r2 := rng32 ((a + b) + c)
  have e3 := c_iadd ((a + b) + c) d
  have r3 := rng32 (((a + b) + c) + d)
  omega
theorem own_nn {a : Int32} (h : 0 ≤ a.toInt) : ¬ (a < (0 : Int32)) := by
  rw [Int32.lt_iff_toInt_lt, show (0 : Int32).toInt = 0 from rfl]
  omega
theorem own_half {s : Int32} (h : 131072 ≤ s.toInt) : ¬ (s / (2 : Int32) = (0 : Int32)) := by
  intro q
  have e := (c_idiv s (2 : Int32) 2 (by decide) (by decide)).1 (by omega)
  rw [q, show (0 : Int32).toInt = 0 from rfl] at e
  omega
theorem d2_0 : decode jdk_30_method_1_code 0 = .ok (.aload_n 0, 1) := by decide +kernel
theorem d2_1 : decode jdk_30_method_1_code 1 = .ok (.invokespecial 1, 3) := by decide +kernel
theorem d2_4 : decode jdk_30_method_1_code 4 = .ok (.return_, 1) := by decide +kernel
theorem own_pn_java_lang_Record : plainName "java/lang/Record" = true := by first | (simp [plainName, overriddenIn]; done) | decide +kernel
theorem ef_2 (m : MethodId) (ar : Addr) : entryFrame m #[(.ref ar)] 1 = mkF m 0 #[.val (.ref ar)] [] := by first | (simp [entryFrame, mkF, argsToLocals, Value.category]; done) | rfl
def Q2 (Z : State) (ar : Addr)  (h0 : Heap) (n0 : Nat) (v : Option Value) (h : Heap) (L : List Loc) : Prop := v = none ∧ Fr n0 L ∧ h = h0
set_option maxRecDepth 65536 in
set_option maxHeartbeats 40000000 in
theorem rm2 (l : Launch) (Z : State) (a0 : Array Value) (hw : ∀ d ∈ tables_1, d.before a0 Z = true) (ws : List Jvm.Cond) (ar : Addr)  (h0 : Heap) (n0 : Nat) (Z0 : n0 ≤ h0.size)  :
    MetFree l (⟨"java/lang/Record", "<init>", "()V"⟩ : MethodName) (head1 (Jvm.Cond.code (⟨"java/lang/Record", "<init>", "()V"⟩ : MethodName) jdk_30_method_1_code 1 none :: ws) ({ frames := 1, cells := 0, slots := 0, locals := 12 } : Room)) (fun avs U => avs = #[(.ref ar)] ∧ Z.Warmed39 U.vm ∧ U.heap = h0) (fun _ _ _ _ _ => True) (fun _ U o U' => ∃ v L, o = .returned v ∧ Q2 Z ar h0 n0 v U'.heap L ∧ FrameEnd U o U' L ({ frames := 1, cells := 0, slots := 0, locals := 12 } : Room).cells ({ frames := 1, cells := 0, slots := 0, locals := 12 } : Room).slots) := by
  refine MetFree.of_bodySF (plainFor_of_name own_pn_java_lang_Record) hisR ?_
  intro p e s m args below meth c s₁ Bd hml0 hP hK
  obtain ⟨rfl, hZ, hh⟩ := hP
  have hx := Bd.exec
  have hby := Bd.bytes
  have hml : c.maxLocals = 1 := hml0
  have hown : s.vm.findClass "java/lang/Record" = some m.cls := findClass_of_methodNamed Bd.named
  have hnm := (name_of_methodNamed Bd.named Bd.method).1
  have hlk := Bd.notSynchronized
  have hret := Bd.returns
  have X0 : Stand p l e ({ frames := 1, cells := 0, slots := 0, locals := 12 } : Room) s m #[(.ref ar)] below meth c s₁ [] 0 0 := Stand.of_body Bd
  have e0 : s₁.heap = h0 := by rw [← hh, Bd.state]; rfl
  have N0 := Fr.nil n0
  show own_W p e (FrameEnd s) below ({ frames := 1, cells := 0, slots := 0, locals := 12 } : Room).cells ({ frames := 1, cells := 0, slots := 0, locals := 12 } : Room).slots (Q2 Z ar h0 n0) s₁ (entryFrame m #[(.ref ar)] 1)
  rw [ef_2]
  refine own_aloadN X0 hx (hb hby d2_0) (v := (.ref ar)) rfl rfl (rfl : 0 + 1 = 1) ?_
  obtain ⟨T1, X1, e1, st1⟩ := initO X0 hx hZ hown (hw _ (List.mem_of_getElem? (i := 14) rfl)) (hw _ (List.mem_of_getElem? (i := 15) rfl)) (hw _ (List.mem_of_getElem? (i := 16) rfl)) e0 (g := (mkF m 1 #[.val (.ref ar)] [(.ref ar)])) rfl (by rw [hml]; rfl) rfl (hb hby d2_1) (by decide) (W := 0) (by show 2 * 0 + _ ≤ _; exact Nat.le_of_eq rfl) (by decide)
  refine own_W.step st1 ?_
  show own_W p e (FrameEnd s) below ({ frames := 1, cells := 0, slots := 0, locals := 12 } : Room).cells ({ frames := 1, cells := 0, slots := 0, locals := 12 } : Room).slots (Q2 Z ar h0 n0) T1 (mkF m 4 #[.val (.ref ar)] [])
  refine own_retV X1 hx hlk hret (hb hby d2_4) (by decide) (by decide) ?_
  show Q2 Z ar h0 n0 none T1.heap _
  rw [e1]
  exact ⟨rfl, N0, rfl⟩
theorem d6_0 : decode prog_10_method_6_code 0 = .ok (.iload_n 0, 1) := by decide +kernel
theorem d6_1 : decode prog_10_method_6_code 1 = .ok (.iload_n 1, 1) := by decide +kernel
theorem d6_2 : decode prog_10_method_6_code 2 = .ok (.if_icmp .ge 5, 3) := by decide +kernel
theorem d6_7 : decode prog_10_method_6_code 7 = .ok (.lconst 1, 1) := by decide +kernel
theorem d6_8 : decode prog_10_method_6_code 8 = .ok (.lstore_n 2, 1) := by decide +kernel
theorem d6_9 : decode prog_10_method_6_code 9 = .ok (.iconst 1, 1) := by decide +kernel
theorem d6_10 : decode prog_10_method_6_code 10 = .ok (.istore 4, 2) := by decide +kernel
theorem d6_12 : decode prog_10_method_6_code 12 = .ok (.iload 4, 2) := by decide +kernel
theorem d6_14 : decode prog_10_method_6_code 14 = .ok (.iload_n 1, 1) := by decide +kernel
theorem d6_15 : decode prog_10_method_6_code 15 = .ok (.if_icmp .gt 31, 3) := by decide +kernel
theorem d6_18 : decode prog_10_method_6_code 18 = .ok (.lload_n 2, 1) := by decide +kernel
theorem d6_19 : decode prog_10_method_6_code 19 = .ok (.ldc2_w 50, 3) := by decide +kernel
theorem d6_22 : decode prog_10_method_6_code 22 = .ok (.lcmp, 1) := by decide +kernel
theorem d6_23 : decode prog_10_method_6_code 23 = .ok (.ifCond .gt 23, 3) := by decide +kernel
theorem d6_26 : decode prog_10_method_6_code 26 = .ok (.lload_n 2, 1) := by decide +kernel
theorem d6_27 : decode prog_10_method_6_code 27 = .ok (.iload_n 0, 1) := by decide +kernel
theorem d6_28 : decode prog_10_method_6_code 28 = .ok (.iload_n 1, 1) := by decide +kernel
theorem d6_29 : decode prog_10_method_6_code 29 = .ok (.isub, 1) := by decide +kernel
theorem d6_30 : decode prog_10_method_6_code 30 = .ok (.iload 4, 2) := by decide +kernel
theorem d6_32 : decode prog_10_method_6_code 32 = .ok (.iadd, 1) := by decide +kernel
theorem d6_33 : decode prog_10_method_6_code 33 = .ok (.i2l, 1) := by decide +kernel
theorem d6_34 : decode prog_10_method_6_code 34 = .ok (.lmul, 1) := by decide +kernel
theorem d6_35 : decode prog_10_method_6_code 35 = .ok (.iload 4, 2) := by decide +kernel
theorem d6_37 : decode prog_10_method_6_code 37 = .ok (.i2l, 1) := by decide +kernel
theorem d6_38 : decode prog_10_method_6_code 38 = .ok (.ldiv, 1) := by decide +kernel
theorem d6_39 : decode prog_10_method_6_code 39 = .ok (.lstore_n 2, 1) := by decide +kernel
theorem d6_40 : decode prog_10_method_6_code 40 = .ok (.iinc 4 1, 3) := by decide +kernel
theorem d6_43 : decode prog_10_method_6_code 43 = .ok (.goto (-31), 3) := by decide +kernel
theorem d6_46 : decode prog_10_method_6_code 46 = .ok (.lload_n 2, 1) := by decide +kernel
theorem d6_47 : decode prog_10_method_6_code 47 = .ok (.lreturn, 1) := by decide +kernel
theorem own_pn_corematch_generate_Family : plainName "corematch/generate/Family" = true := by first | (simp [plainName, overriddenIn]; done) | decide +kernel
theorem ef_6 (m : MethodId) (pn : Int32) (pk : Int32) : entryFrame m #[(.int pn), (.int pk)] 5 = mkF m 0 #[.val (.int pn), .val (.int pk), .unset, .unset, .unset] [] := by first | (simp [entryFrame, mkF, argsToLocals, Value.category]; done) | rfl
def Q6 (Z : State) (pn : Int32) (pk : Int32)  (h0 : Heap) (n0 : Nat) (v : Option Value) (h : Heap) (L : List Loc) : Prop := ∃ (rr : Int64), v = some (.long rr) ∧ Fr n0 L ∧ h = h0 ∧ (2147483647 : Int64) < rr
set_option maxRecDepth 65536 in
set_option maxHeartbeats 40000000 in
theorem rm6 (l : Launch) (Z : State) (a0 : Array Value) (hw : ∀ d ∈ tables_1, d.before a0 Z = true) (ws : List Jvm.Cond) (pn : Int32) (pk : Int32)  (h0 : Heap) (n0 : Nat) (Z0 : n0 ≤ h0.size) (hn : 131072 ≤ pn.toInt) (hk : pk = (2 : Int32) ∨ pk = (5 : Int32)) :
    MetFree l (⟨"corematch/generate/Family", "sets", "(II)J"⟩ : MethodName) (head1 (Jvm.Cond.code (⟨"corematch/generate/Family", "sets", "(II)J"⟩ : MethodName) prog_10_method_6_code 5 (some .long) :: ws) ({ frames := 0, cells := 0, slots := 0, locals := 0 } : Room)) (fun avs U => avs = #[(.int pn), (.int pk)] ∧ Z.Warmed39 U.vm ∧ U.heap = h0) (fun _ _ _ _ _ => True) (fun _ U o U' => ∃ v L, o = .returned v ∧ Q6 Z pn pk h0 n0 v U'.heap L ∧ FrameEnd U o U' L ({ frames := 0, cells := 0, slots := 0, locals := 0 } : Room).cells ({ frames := 0, cells := 0, slots := 0, locals := 0 } : Room).slots) := by
  refine MetFree.of_bodySF (plainFor_of_name own_pn_corematch_generate_Family) hisR ?_
  intro p e s m args below meth c s₁ Bd hml0 hP hK
  obtain ⟨rfl, hZ, hh⟩ := hP
  have hx := Bd.exec
  have hby := Bd.bytes
  have hml : c.maxLocals = 5 := hml0
  have hown : s.vm.findClass "corematch/generate/Family" = some m.cls := findClass_of_methodNamed Bd.named
  have hnm := (name_of_methodNamed Bd.named Bd.method).1
  have hlk := Bd.notSynchronized
  have hret := Bd.returns
  have X0 : Stand p l e ({ frames := 0, cells := 0, slots := 0, locals := 0 } : Room) s m #[(.int pn), (.int pk)] below meth c s₁ [] 0 0 := Stand.of_body Bd
  have e0 : s₁.heap = h0 := by rw [← hh, Bd.state]; rfl
  have N0 := Fr.nil n0
  show own_W p e (FrameEnd s) below ({ frames := 0, cells := 0, slots := 0, locals := 0 } : Room).cells ({ frames := 0, cells := 0, slots := 0, locals := 0 } : Room).slots (Q6 Z pn pk h0 n0) s₁ (entryFrame m #[(.int pn), (.int pk)] 5)
  rw [ef_6]
  refine own_iloadN X0 hx (hb hby d6_0) (v := pn) rfl (rfl : 0 + 1 = 1) ?_
  refine own_iloadN X0 hx (hb hby d6_1) (v := pk) rfl (rfl : 1 + 1 = 2) ?_
  have hc2 : ¬ (pn < pk) := own_nk hk hn
  refine own_icmpYes X0 hx (hb hby d6_2) (flt hc2).2.1 (pc' := 7) (by decide) (by decide) ?_
  refine own_lconst X0 hx (hb hby d6_7) (1 : Int64) (by first | rfl | decide) (rfl : 7 + 1 = 8) ?_
  refine own_lstoreN X0 hx (hb hby d6_8) (l' := #[.val (.int pn), .val (.int pk), .val (.long (1 : Int64)), .second, .unset]) rfl (rfl : 8 + 1 = 9) ?_
  refine own_iconst X0 hx (hb hby d6_9) (1 : Int32) (by first | rfl | decide) (rfl : 9 + 1 = 10) ?_
  refine own_istore X0 hx (hb hby d6_10) (l' := #[.val (.int pn), .val (.int pk), .val (.long (1 : Int64)), .second, .val (.int (1 : Int32))]) rfl (rfl : 10 + 2 = 12) ?_
  refine own_iload X0 hx (hb hby d6_12) (v := (1 : Int32)) rfl (rfl : 12 + 2 = 14) ?_
  refine own_iloadN X0 hx (hb hby d6_14) (v := pk) rfl (rfl : 14 + 1 = 15) ?_
  have hc15 : ¬ (pk < (1 : Int32)) := by rcases hk with q | q <;> rw [q] <;> decide
  refine own_icmpNo X0 hx (hb hby d6_15) (flt hc15).2.2.1 (rfl : 15 + 3 = 18) ?_
  refine own_lloadN X0 hx (hb hby d6_18) (v := (1 : Int64)) rfl (rfl : 18 + 1 = 19) ?_
  refine own_ldc2Long X0 hx hown (mvT hZ (hw _ (List.mem_of_getElem? (i := 39) rfl))) (hb hby d6_19) (rfl : 19 + 3 = 22) ?_
  refine own_lcmp X0 hx (hb hby d6_22) (rfl : 22 + 1 = 23) ?_
  have hc23 : ¬ ((2147483647 : Int64) < (1 : Int64)) := by decide
  refine own_ifNo X0 hx (hb hby d6_23) (XT.ll_gt_f hc23) (rfl : 23 + 3 = 26) ?_
  refine own_lloadN X0 hx (hb hby d6_26) (v := (1 : Int64)) rfl (rfl : 26 + 1 = 27) ?_
  refine own_iloadN X0 hx (hb hby d6_27) (v := pn) rfl (rfl : 27 + 1 = 28) ?_
  refine own_iloadN X0 hx (hb hby d6_28) (v := pk) rfl (rfl : 28 + 1 = 29) ?_
  refine own_isub X0 hx (hb hby d6_29) (rfl : 29 + 1 = 30) ?_
  refine own_iload X0 hx (hb hby d6_30) (v := (1 : Int32)) rfl (rfl : 30 + 2 = 32) ?_
  refine own_iadd X0 hx (hb hby d6_32) (rfl : 32 + 1 = 33) ?_
  refine own_i2l X0 hx (hb hby d6_33) (rfl : 33 + 1 = 34) ?_
  refine own_lmul X0 hx (hb hby d6_34) (rfl : 34 + 1 = 35) ?_
  refine own_iload X0 hx (hb hby d6_35) (v := (1 : Int32)) rfl (rfl : 35 + 2 = 37) ?_
  refine own_i2l X0 hx (hb hby d6_37) (rfl : 37 + 1 = 38) ?_
  refine own_ldiv X0 hx (hb hby d6_38) (by decide) (rfl : 38 + 1 = 39) ?_
  refine own_lstoreN X0 hx (hb hby d6_39) (l' := #[.val (.int pn), .val (.int pk), .val (.long (((1 : Int64) * (((pn - pk) + (1 : Int32)).toInt64)) / ((1 : Int32).toInt64))), .second, .val (.int (1 : Int32))]) rfl (rfl : 39 + 1 = 40) ?_
  obtain ⟨r1, hr1⟩ : ∃ z : Int64, z = (((1 : Int64) * (((pn - pk) + (1 : Int32)).toInt64)) / ((1 : Int32).toInt64)) := ⟨_, rfl⟩
  rw [← hr1]
  show own_W p e (FrameEnd s) below ({ frames := 0, cells := 0, slots := 0, locals := 0 } : Room).cells ({ frames := 0, cells := 0, slots := 0, locals := 0 } : Room).slots (Q6 Z pn pk h0 n0) s₁ (mkF m 40 #[.val (.int pn), .val (.int pk), .val (.long r1), .second, .val (.int (1 : Int32))] [])
  have b1 := own_s1 hk hn hr1
  refine own_iinc X0 hx (hb hby d6_40) (1 : Int32) rfl (x := (1 : Int32)) rfl (l' := #[.val (.int pn), .val (.int pk), .val (.long r1), .second, .val (.int ((1 : Int32) + (1 : Int32)))]) rfl (rfl : 40 + 3 = 43) ?_
  refine own_goto X0 hx (hb hby d6_43) (pc' := 12) (by decide) (by decide) ?_
  refine own_iload X0 hx (hb hby d6_12) (v := ((1 : Int32) + (1 : Int32))) rfl (rfl : 12 + 2 = 14) ?_
  refine own_iloadN X0 hx (hb hby d6_14) (v := pk) rfl (rfl : 14 + 1 = 15) ?_
  have hc15 : ¬ (pk < ((1 : Int32) + (1 : Int32))) := by rcases hk with q | q <;> rw [q] <;> decide
  refine own_icmpNo X0 hx (hb hby d6_15) (flt hc15).2.2.1 (rfl : 15 + 3 = 18) ?_
  refine own_lloadN X0 hx (hb hby d6_18) (v := r1) rfl (rfl : 18 + 1 = 19) ?_
  refine own_ldc2Long X0 hx hown (mvT hZ (hw _ (List.mem_of_getElem? (i := 39) rfl))) (hb hby d6_19) (rfl : 19 + 3 = 22) ?_
  refine own_lcmp X0 hx (hb hby d6_22) (rfl : 22 + 1 = 23) ?_
  have hc23 : ¬ ((2147483647 : Int64) < r1) := by rw [Int64.lt_iff_toInt_lt, b1, show (2147483647 : Int64).toInt = 2147483647 from by decide]; have := rng32 pn; have := own_k2 hk; omega
  refine own_ifNo X0 hx (hb hby d6_23) (XT.ll_gt_f hc23) (rfl : 23 + 3 = 26) ?_
  refine own_lloadN X0 hx (hb hby d6_26) (v := r1) rfl (rfl : 26 + 1 = 27) ?_
  refine own_iloadN X0 hx (hb hby d6_27) (v := pn) rfl (rfl : 27 + 1 = 28) ?_
  refine own_iloadN X0 hx (hb hby d6_28) (v := pk) rfl (rfl : 28 + 1 = 29) ?_
  refine own_isub X0 hx (hb hby d6_29) (rfl : 29 + 1 = 30) ?_
  refine own_iload X0 hx (hb hby d6_30) (v := ((1 : Int32) + (1 : Int32))) rfl (rfl : 30 + 2 = 32) ?_
  refine own_iadd X0 hx (hb hby d6_32) (rfl : 32 + 1 = 33) ?_
  refine own_i2l X0 hx (hb hby d6_33) (rfl : 33 + 1 = 34) ?_
  refine own_lmul X0 hx (hb hby d6_34) (rfl : 34 + 1 = 35) ?_
  refine own_iload X0 hx (hb hby d6_35) (v := ((1 : Int32) + (1 : Int32))) rfl (rfl : 35 + 2 = 37) ?_
  refine own_i2l X0 hx (hb hby d6_37) (rfl : 37 + 1 = 38) ?_
  refine own_ldiv X0 hx (hb hby d6_38) (by decide) (rfl : 38 + 1 = 39) ?_
  refine own_lstoreN X0 hx (hb hby d6_39) (l' := #[.val (.int pn), .val (.int pk), .val (.long ((r1 * (((pn - pk) + ((1 : Int32) + (1 : Int32))).toInt64)) / (((1 : Int32) + (1 : Int32)).toInt64))), .second, .val (.int ((1 : Int32) + (1 : Int32)))]) rfl (rfl : 39 + 1 = 40) ?_
  obtain ⟨r2, hr2⟩ : ∃ z : Int64, z = ((r1 * (((pn - pk) + ((1 : Int32) + (1 : Int32))).toInt64)) / (((1 : Int32) + (1 : Int32)).toInt64)) := ⟨_, rfl⟩
  rw [← hr2]
  show own_W p e (FrameEnd s) below ({ frames := 0, cells := 0, slots := 0, locals := 0 } : Room).cells ({ frames := 0, cells := 0, slots := 0, locals := 0 } : Room).slots (Q6 Z pn pk h0 n0) s₁ (mkF m 40 #[.val (.int pn), .val (.int pk), .val (.long r2), .second, .val (.int ((1 : Int32) + (1 : Int32)))] [])
  have b2 := own_s2 hk hn b1 hr2
  refine own_iinc X0 hx (hb hby d6_40) (1 : Int32) rfl (x := ((1 : Int32) + (1 : Int32))) rfl (l' := #[.val (.int pn), .val (.int pk), .val (.long r2), .second, .val (.int (((1 : Int32) + (1 : Int32)) + (1 : Int32)))]) rfl (rfl : 40 + 3 = 43) ?_
  refine own_goto X0 hx (hb hby d6_43) (pc' := 12) (by decide) (by decide) ?_
  refine own_iload X0 hx (hb hby d6_12) (v := (((1 : Int32) + (1 : Int32)) + (1 : Int32))) rfl (rfl : 12 + 2 = 14) ?_
  refine own_iloadN X0 hx (hb hby d6_14) (v := pk) rfl (rfl : 14 + 1 = 15) ?_
  by_cases hc15 : pk < (((1 : Int32) + (1 : Int32)) + (1 : Int32))
  · skip
    refine own_icmpYes X0 hx (hb hby d6_15) (tlt hc15).2.2.1 (pc' := 46) (by decide) (by decide) ?_
    refine own_lloadN X0 hx (hb hby d6_46) (v := r2) rfl (rfl : 46 + 1 = 47) ?_
    refine own_retJ X0 hx hlk hret (hb hby d6_47) (by decide) (by decide) ?_
    show Q6 Z pn pk h0 n0 (some (.long r2)) s₁.heap _
    rw [e0]
    exact ⟨r2, rfl, N0, rfl, b2⟩
  · skip
    refine own_icmpNo X0 hx (hb hby d6_15) (flt hc15).2.2.1 (rfl : 15 + 3 = 18) ?_
    refine own_lloadN X0 hx (hb hby d6_18) (v := r2) rfl (rfl : 18 + 1 = 19) ?_
    refine own_ldc2Long X0 hx hown (mvT hZ (hw _ (List.mem_of_getElem? (i := 39) rfl))) (hb hby d6_19) (rfl : 19 + 3 = 22) ?_
    refine own_lcmp X0 hx (hb hby d6_22) (rfl : 22 + 1 = 23) ?_
    have hc23 : (2147483647 : Int64) < r2 := b2
    refine own_ifYes X0 hx (hb hby d6_23) (XT.ll_gt_t hc23) (pc' := 46) (by decide) (by decide) ?_
    refine own_lloadN X0 hx (hb hby d6_46) (v := r2) rfl (rfl : 46 + 1 = 47) ?_
    refine own_retJ X0 hx hlk hret (hb hby d6_47) (by decide) (by decide) ?_
    show Q6 Z pn pk h0 n0 (some (.long r2)) s₁.heap _
    rw [e0]
    exact ⟨r2, rfl, N0, rfl, b2⟩
theorem d4_0 : decode prog_10_method_4_code 0 = .ok (.iload_n 0, 1) := by decide +kernel
theorem d4_1 : decode prog_10_method_4_code 1 = .ok (.ifCond .ge 18, 3) := by decide +kernel
theorem d4_19 : decode prog_10_method_4_code 19 = .ok (.return_, 1) := by decide +kernel
theorem ef_4 (m : MethodId) (pn : Int32) (ar : Addr) : entryFrame m #[(.int pn), (.ref ar)] 2 = mkF m 0 #[.val (.int pn), .val (.ref ar)] [] := by first | (simp [entryFrame, mkF, argsToLocals, Value.category]; done) | rfl
def Q4 (Z : State) (pn : Int32) (ar : Addr)  (h0 : Heap) (n0 : Nat) (v : Option Value) (h : Heap) (L : List Loc) : Prop := v = none ∧ Fr n0 L ∧ h = h0
set_option maxRecDepth 65536 in
set_option maxHeartbeats 40000000 in
theorem rm4 (l : Launch) (Z : State) (a0 : Array Value) (hw : ∀ d ∈ tables_1, d.before a0 Z = true) (ws : List Jvm.Cond) (pn : Int32) (ar : Addr)  (h0 : Heap) (n0 : Nat) (Z0 : n0 ≤ h0.size) (h0n : ¬ (pn < (0 : Int32))) :
    MetFree l (⟨"corematch/generate/Family", "requireNotNegative", "(ILjava/lang/String;)V"⟩ : MethodName) (head1 (Jvm.Cond.code (⟨"corematch/generate/Family", "requireNotNegative", "(ILjava/lang/String;)V"⟩ : MethodName) prog_10_method_4_code 2 none :: ws) ({ frames := 0, cells := 0, slots := 0, locals := 0 } : Room)) (fun avs U => avs = #[(.int pn), (.ref ar)] ∧ Z.Warmed39 U.vm ∧ U.heap = h0) (fun _ _ _ _ _ => True) (fun _ U o U' => ∃ v L, o = .returned v ∧ Q4 Z pn ar h0 n0 v U'.heap L ∧ FrameEnd U o U' L ({ frames := 0, cells := 0, slots := 0, locals := 0 } : Room).cells ({ frames := 0, cells := 0, slots := 0, locals := 0 } : Room).slots) := by
  refine MetFree.of_bodySF (plainFor_of_name own_pn_corematch_generate_Family) hisR ?_
  intro p e s m args below meth c s₁ Bd hml0 hP hK
  obtain ⟨rfl, hZ, hh⟩ := hP
  have hx := Bd.exec
  have hby := Bd.bytes
  have hml : c.maxLocals = 2 := hml0
  have hown : s.vm.findClass "corematch/generate/Family" = some m.cls := findClass_of_methodNamed Bd.named
  have hnm := (name_of_methodNamed Bd.named Bd.method).1
  have hlk := Bd.notSynchronized
  have hret := Bd.returns
  have X0 : Stand p l e ({ frames := 0, cells := 0, slots := 0, locals := 0 } : Room) s m #[(.int pn), (.ref ar)] below meth c s₁ [] 0 0 := Stand.of_body Bd
  have e0 : s₁.heap = h0 := by rw [← hh, Bd.state]; rfl
  have N0 := Fr.nil n0
  show own_W p e (FrameEnd s) below ({ frames := 0, cells := 0, slots := 0, locals := 0 } : Room).cells ({ frames := 0, cells := 0, slots := 0, locals := 0 } : Room).slots (Q4 Z pn ar h0 n0) s₁ (entryFrame m #[(.int pn), (.ref ar)] 2)
  rw [ef_4]
  refine own_iloadN X0 hx (hb hby d4_0) (v := pn) rfl (rfl : 0 + 1 = 1) ?_
  have hc1 : ¬ (pn < (0 : Int32)) := h0n
  refine own_ifYes X0 hx (hb hby d4_1) ((if0 _ _).trans (flt hc1).2.1) (pc' := 19) (by decide) (by decide) ?_
  refine own_retV X0 hx hlk hret (hb hby d4_19) (by decide) (by decide) ?_
  show Q4 Z pn ar h0 n0 none s₁.heap _
  rw [e0]
  exact ⟨rfl, N0, rfl⟩
theorem own_pd__II_J : parseMethodDescriptor "(II)J" = some ⟨[.int, .int], some .long⟩ := by decide +kernel
theorem d5_0 : decode prog_10_method_5_code 0 = .ok (.iload_n 2, 1) := by decide +kernel
theorem d5_1 : decode prog_10_method_5_code 1 = .ok (.iload_n 3, 1) := by decide +kernel
theorem d5_2 : decode prog_10_method_5_code 2 = .ok (.invokestatic 148, 3) := by decide +kernel
theorem d5_5 : decode prog_10_method_5_code 5 = .ok (.lstore 4, 2) := by decide +kernel
theorem d5_7 : decode prog_10_method_5_code 7 = .ok (.iload_n 0, 1) := by decide +kernel
theorem d5_8 : decode prog_10_method_5_code 8 = .ok (.i2l, 1) := by decide +kernel
theorem d5_9 : decode prog_10_method_5_code 9 = .ok (.lload 4, 2) := by decide +kernel
theorem d5_11 : decode prog_10_method_5_code 11 = .ok (.lcmp, 1) := by decide +kernel
theorem d5_12 : decode prog_10_method_5_code 12 = .ok (.ifCond .le 22, 3) := by decide +kernel
theorem d5_34 : decode prog_10_method_5_code 34 = .ok (.return_, 1) := by decide +kernel
theorem ef_5 (m : MethodId) (pq : Int32) (ar : Addr) (pn : Int32) (pk : Int32) : entryFrame m #[(.int pq), (.ref ar), (.int pn), (.int pk)] 6 = mkF m 0 #[.val (.int pq), .val (.ref ar), .val (.int pn), .val (.int pk), .unset, .unset] [] := by first | (simp [entryFrame, mkF, argsToLocals, Value.category]; done) | rfl
def Q5 (Z : State) (pq : Int32) (ar : Addr) (pn : Int32) (pk : Int32)  (h0 : Heap) (n0 : Nat) (v : Option Value) (h : Heap) (L : List Loc) : Prop := v = none ∧ Fr n0 L ∧ h = h0
set_option maxRecDepth 65536 in
set_option maxHeartbeats 40000000 in
theorem rm5 (l : Launch) (Z : State) (a0 : Array Value) (hw : ∀ d ∈ tables_1, d.before a0 Z = true) (ws : List Jvm.Cond) (pq : Int32) (ar : Addr) (pn : Int32) (pk : Int32)  (h0 : Heap) (n0 : Nat) (Z0 : n0 ≤ h0.size) (hn : 131072 ≤ pn.toInt) (hk : pk = (2 : Int32) ∨ pk = (5 : Int32)) :
    MetFree l (⟨"corematch/generate/Family", "requireSets", "(ILjava/lang/String;II)V"⟩ : MethodName) (head1 (Jvm.Cond.code (⟨"corematch/generate/Family", "requireSets", "(ILjava/lang/String;II)V"⟩ : MethodName) prog_10_method_5_code 6 none :: ws) ({ frames := 1, cells := 0, slots := 0, locals := 16 } : Room)) (fun avs U => avs = #[(.int pq), (.ref ar), (.int pn), (.int pk)] ∧ Z.Warmed39 U.vm ∧ U.heap = h0) (fun _ _ _ _ _ => True) (fun _ U o U' => ∃ v L, o = .returned v ∧ Q5 Z pq ar pn pk h0 n0 v U'.heap L ∧ FrameEnd U o U' L ({ frames := 1, cells := 0, slots := 0, locals := 16 } : Room).cells ({ frames := 1, cells := 0, slots := 0, locals := 16 } : Room).slots) := by
  refine MetFree.of_bodySF (plainFor_of_name own_pn_corematch_generate_Family) hisR ?_
  intro p e s m args below meth c s₁ Bd hml0 hP hK
  obtain ⟨rfl, hZ, hh⟩ := hP
  have hx := Bd.exec
  have hby := Bd.bytes
  have hml : c.maxLocals = 6 := hml0
  have hown : s.vm.findClass "corematch/generate/Family" = some m.cls := findClass_of_methodNamed Bd.named
  have hnm := (name_of_methodNamed Bd.named Bd.method).1
  have hlk := Bd.notSynchronized
  have hret := Bd.returns
  have X0 : Stand p l e ({ frames := 1, cells := 0, slots := 0, locals := 16 } : Room) s m #[(.int pq), (.ref ar), (.int pn), (.int pk)] below meth c s₁ [] 0 0 := Stand.of_body Bd
  have e0 : s₁.heap = h0 := by rw [← hh, Bd.state]; rfl
  have N0 := Fr.nil n0
  show own_W p e (FrameEnd s) below ({ frames := 1, cells := 0, slots := 0, locals := 16 } : Room).cells ({ frames := 1, cells := 0, slots := 0, locals := 16 } : Room).slots (Q5 Z pq ar pn pk h0 n0) s₁ (entryFrame m #[(.int pq), (.ref ar), (.int pn), (.int pk)] 6)
  rw [ef_5]
  refine own_iloadN X0 hx (hb hby d5_0) (v := pn) rfl (rfl : 0 + 1 = 1) ?_
  refine own_iloadN X0 hx (hb hby d5_1) (v := pk) rfl (rfl : 1 + 1 = 2) ?_
  obtain ⟨_, _, ⟨T1, L1, k1, n1⟩, -, X1, ⟨Lc1, hQ1, l1, y1, z1⟩, st1⟩ := Jvm.LawKit.callS X0 hx (y := (⟨"corematch/generate/Family", "sets", "(II)J"⟩ : MethodName)) hown (mvT hZ (hw _ (List.mem_of_getElem? (i := 36) rfl))) (mvT hZ (hw _ (List.mem_of_getElem? (i := 37) rfl))) (mvT hZ (hw _ (List.mem_of_getElem? (i := 5) rfl))) (mvT hZ (hw _ (List.mem_of_getElem? (i := 38) rfl))) (by decide) (backOf (W := 0) (rm6 l Z a0 hw [] pn pk  h0 n0 Z0 (hn) (hk)) hZ (hw _ (List.mem_of_getElem? (i := 38) rfl)) (hw _ (List.mem_of_getElem? (i := 5) rfl)) (by decide) (by decide)) (g := (mkF m 2 #[.val (.int pq), .val (.ref ar), .val (.int pn), .val (.int pk), .unset, .unset] [(.int pk), (.int pn)])) rfl (by rw [hml]; rfl) (argsL := [(.int pn), (.int pk)]) (rest := []) (lenOf own_pd__II_J rfl) rfl (by show 2 * 0 + _ ≤ _; exact Nat.le_of_eq rfl) (hb hby d5_2) (fun _ _ => ⟨rfl, e0, (by decide : 0 + 0 ≤ _), (by decide : 0 + 0 ≤ _)⟩)
  dsimp only [Pt.U, Pt.locs, Pt.cells, Pt.slots] at X1 l1 y1 z1 st1 hQ1
  subst l1 y1 z1
  obtain ⟨rr1, rfl, N1q, e1, hrr_1⟩ := hQ1
  have N1 := Fr.app N0 N1q
  refine own_W.step st1 ?_
  show own_W p e (FrameEnd s) below ({ frames := 1, cells := 0, slots := 0, locals := 16 } : Room).cells ({ frames := 1, cells := 0, slots := 0, locals := 16 } : Room).slots (Q5 Z pq ar pn pk h0 n0) T1 (mkF m 5 #[.val (.int pq), .val (.ref ar), .val (.int pn), .val (.int pk), .unset, .unset] [(.long rr1)])
  refine own_lstore X1 hx (hb hby d5_5) (l' := #[.val (.int pq), .val (.ref ar), .val (.int pn), .val (.int pk), .val (.long rr1), .second]) rfl (rfl : 5 + 2 = 7) ?_
  refine own_iloadN X1 hx (hb hby d5_7) (v := pq) rfl (rfl : 7 + 1 = 8) ?_
  refine own_i2l X1 hx (hb hby d5_8) (rfl : 8 + 1 = 9) ?_
  refine own_lload X1 hx (hb hby d5_9) (v := rr1) rfl (rfl : 9 + 2 = 11) ?_
  refine own_lcmp X1 hx (hb hby d5_11) (rfl : 11 + 1 = 12) ?_
  have hc12 : ¬ (rr1 < (pq.toInt64)) := own_le pq hrr_1
  refine own_ifYes X1 hx (hb hby d5_12) (XT.ll_le_t hc12) (pc' := 34) (by decide) (by decide) ?_
  refine own_retV X1 hx hlk hret (hb hby d5_34) (by decide) (by decide) ?_
  show Q5 Z pq ar pn pk h0 n0 none T1.heap _
  rw [e1]
  exact ⟨rfl, N1, rfl⟩
theorem own_pd___V : parseMethodDescriptor "()V" = some ⟨[], none⟩ := by decide +kernel
theorem own_pd__ILjava_lang_String__V : parseMethodDescriptor "(ILjava/lang/String;)V" = some ⟨[.int, (.object "java/lang/String")], none⟩ := by decide +kernel
theorem own_pd__ILjava_lang_String_II_V : parseMethodDescriptor "(ILjava/lang/String;II)V" = some ⟨[.int, (.object "java/lang/String"), .int, .int], none⟩ := by decide +kernel
theorem d1_0 : decode prog_10_method_1_code 0 = .ok (.aload_n 0, 1) := by decide +kernel
theorem d1_1 : decode prog_10_method_1_code 1 = .ok (.invokespecial 1, 3) := by decide +kernel
theorem d1_4 : decode prog_10_method_1_code 4 = .ok (.iload_n 1, 1) := by decide +kernel
theorem d1_5 : decode prog_10_method_1_code 5 = .ok (.ldc 7, 2) := by decide +kernel
theorem d1_7 : decode prog_10_method_1_code 7 = .ok (.invokestatic 9, 3) := by decide +kernel
theorem d1_10 : decode prog_10_method_1_code 10 = .ok (.iload_n 2, 1) := by decide +kernel
theorem d1_11 : decode prog_10_method_1_code 11 = .ok (.ldc 15, 2) := by decide +kernel
theorem d1_13 : decode prog_10_method_1_code 13 = .ok (.invokestatic 9, 3) := by decide +kernel
theorem d1_16 : decode prog_10_method_1_code 16 = .ok (.iload_n 3, 1) := by decide +kernel
theorem d1_17 : decode prog_10_method_1_code 17 = .ok (.ldc 17, 2) := by decide +kernel
theorem d1_19 : decode prog_10_method_1_code 19 = .ok (.invokestatic 9, 3) := by decide +kernel
theorem d1_22 : decode prog_10_method_1_code 22 = .ok (.iload 4, 2) := by decide +kernel
theorem d1_24 : decode prog_10_method_1_code 24 = .ok (.ldc 19, 2) := by decide +kernel
theorem d1_26 : decode prog_10_method_1_code 26 = .ok (.invokestatic 9, 3) := by decide +kernel
theorem d1_29 : decode prog_10_method_1_code 29 = .ok (.iload 5, 2) := by decide +kernel
theorem d1_31 : decode prog_10_method_1_code 31 = .ok (.ldc 21, 2) := by decide +kernel
theorem d1_33 : decode prog_10_method_1_code 33 = .ok (.invokestatic 9, 3) := by decide +kernel
theorem d1_36 : decode prog_10_method_1_code 36 = .ok (.iload_n 2, 1) := by decide +kernel
theorem d1_37 : decode prog_10_method_1_code 37 = .ok (.ifCond .le 24, 3) := by decide +kernel
theorem d1_40 : decode prog_10_method_1_code 40 = .ok (.iload_n 1, 1) := by decide +kernel
theorem d1_41 : decode prog_10_method_1_code 41 = .ok (.iconst 2, 1) := by decide +kernel
theorem d1_42 : decode prog_10_method_1_code 42 = .ok (.idiv, 1) := by decide +kernel
theorem d1_43 : decode prog_10_method_1_code 43 = .ok (.ifCond .ne 18, 3) := by decide +kernel
theorem d1_61 : decode prog_10_method_1_code 61 = .ok (.iload_n 3, 1) := by decide +kernel
theorem d1_62 : decode prog_10_method_1_code 62 = .ok (.ldc 34, 2) := by decide +kernel
theorem d1_64 : decode prog_10_method_1_code 64 = .ok (.iload_n 1, 1) := by decide +kernel
theorem d1_65 : decode prog_10_method_1_code 65 = .ok (.iconst 2, 1) := by decide +kernel
theorem d1_66 : decode prog_10_method_1_code 66 = .ok (.invokestatic 36, 3) := by decide +kernel
theorem d1_69 : decode prog_10_method_1_code 69 = .ok (.iload 4, 2) := by decide +kernel
theorem d1_71 : decode prog_10_method_1_code 71 = .ok (.ldc 42, 2) := by decide +kernel
theorem d1_73 : decode prog_10_method_1_code 73 = .ok (.iload_n 1, 1) := by decide +kernel
theorem d1_74 : decode prog_10_method_1_code 74 = .ok (.iconst 5, 1) := by decide +kernel
theorem d1_75 : decode prog_10_method_1_code 75 = .ok (.invokestatic 36, 3) := by decide +kernel
theorem d1_78 : decode prog_10_method_1_code 78 = .ok (.iload 5, 2) := by decide +kernel
theorem d1_80 : decode prog_10_method_1_code 80 = .ok (.ldc 46, 2) := by decide +kernel
theorem d1_82 : decode prog_10_method_1_code 82 = .ok (.iload_n 1, 1) := by decide +kernel
theorem d1_83 : decode prog_10_method_1_code 83 = .ok (.iconst 5, 1) := by decide +kernel
theorem d1_84 : decode prog_10_method_1_code 84 = .ok (.invokestatic 36, 3) := by decide +kernel
theorem d1_87 : decode prog_10_method_1_code 87 = .ok (.iload_n 2, 1) := by decide +kernel
theorem d1_88 : decode prog_10_method_1_code 88 = .ok (.i2l, 1) := by decide +kernel
theorem d1_89 : decode prog_10_method_1_code 89 = .ok (.iload_n 3, 1) := by decide +kernel
theorem d1_90 : decode prog_10_method_1_code 90 = .ok (.i2l, 1) := by decide +kernel
theorem d1_91 : decode prog_10_method_1_code 91 = .ok (.ladd, 1) := by decide +kernel
theorem d1_92 : decode prog_10_method_1_code 92 = .ok (.iload 4, 2) := by decide +kernel
theorem d1_94 : decode prog_10_method_1_code 94 = .ok (.i2l, 1) := by decide +kernel
theorem d1_95 : decode prog_10_method_1_code 95 = .ok (.ladd, 1) := by decide +kernel
theorem d1_96 : decode prog_10_method_1_code 96 = .ok (.iload 5, 2) := by decide +kernel
theorem d1_98 : decode prog_10_method_1_code 98 = .ok (.i2l, 1) := by decide +kernel
theorem d1_99 : decode prog_10_method_1_code 99 = .ok (.ladd, 1) := by decide +kernel
theorem d1_100 : decode prog_10_method_1_code 100 = .ok (.lstore 6, 2) := by decide +kernel
theorem d1_102 : decode prog_10_method_1_code 102 = .ok (.lload 6, 2) := by decide +kernel
theorem d1_104 : decode prog_10_method_1_code 104 = .ok (.ldc2_w 50, 3) := by decide +kernel
theorem d1_107 : decode prog_10_method_1_code 107 = .ok (.lcmp, 1) := by decide +kernel
theorem d1_108 : decode prog_10_method_1_code 108 = .ok (.ifCond .le 18, 3) := by decide +kernel
theorem d1_126 : decode prog_10_method_1_code 126 = .ok (.aload_n 0, 1) := by decide +kernel
theorem d1_127 : decode prog_10_method_1_code 127 = .ok (.iload_n 1, 1) := by decide +kernel
theorem d1_128 : decode prog_10_method_1_code 128 = .ok (.putfield 55, 3) := by decide +kernel
theorem d1_131 : decode prog_10_method_1_code 131 = .ok (.aload_n 0, 1) := by decide +kernel
theorem d1_132 : decode prog_10_method_1_code 132 = .ok (.iload_n 2, 1) := by decide +kernel
theorem d1_133 : decode prog_10_method_1_code 133 = .ok (.putfield 58, 3) := by decide +kernel
theorem d1_136 : decode prog_10_method_1_code 136 = .ok (.aload_n 0, 1) := by decide +kernel
theorem d1_137 : decode prog_10_method_1_code 137 = .ok (.iload_n 3, 1) := by decide +kernel
theorem d1_138 : decode prog_10_method_1_code 138 = .ok (.putfield 60, 3) := by decide +kernel
theorem d1_141 : decode prog_10_method_1_code 141 = .ok (.aload_n 0, 1) := by decide +kernel
theorem d1_142 : decode prog_10_method_1_code 142 = .ok (.iload 4, 2) := by decide +kernel
theorem d1_144 : decode prog_10_method_1_code 144 = .ok (.putfield 63, 3) := by decide +kernel
theorem d1_147 : decode prog_10_method_1_code 147 = .ok (.aload_n 0, 1) := by decide +kernel
theorem d1_148 : decode prog_10_method_1_code 148 = .ok (.iload 5, 2) := by decide +kernel
theorem d1_150 : decode prog_10_method_1_code 150 = .ok (.putfield 66, 3) := by decide +kernel
theorem d1_153 : decode prog_10_method_1_code 153 = .ok (.return_, 1) := by decide +kernel
theorem ef_1 (m : MethodId) (ob : Addr) (ps : Int32) (pu : Int32) (pe : Int32) (pm : Int32) (pl : Int32) : entryFrame m #[(.ref ob), (.int ps), (.int pu), (.int pe), (.int pm), (.int pl)] 8 = mkF m 0 #[.val (.ref ob), .val (.int ps), .val (.int pu), .val (.int pe), .val (.int pm), .val (.int pl), .unset, .unset] [] := by first | (simp [entryFrame, mkF, argsToLocals, Value.category]; done) | rfl
def Q1 (Z : State) (ob : Addr) (ps : Int32) (pu : Int32) (pe : Int32) (pm : Int32) (pl : Int32)  (h0 : Heap) (n0 : Nat) (v : Option Value) (h : Heap) (L : List Loc) : Prop := v = none ∧ Fr n0 L ∧ Keep h0 h [ob] ∧ Exa Z h ob "corematch/generate/Family" ∧ Fld Z h ob "corematch/generate/Family" "steps" "I" (.int ps) ∧ Fld Z h ob "corematch/generate/Family" "users" "I" (.int pu) ∧ Fld Z h ob "corematch/generate/Family" "separations" "I" (.int pe) ∧ Fld Z h ob "corematch/generate/Family" "atMost" "I" (.int pm) ∧ Fld Z h ob "corematch/generate/Family" "atLeast" "I" (.int pl)
set_option maxRecDepth 65536 in
set_option maxHeartbeats 40000000 in
theorem rm1 (l : Launch) (Z : State) (a0 : Array Value) (hw : ∀ d ∈ tables_1, d.before a0 Z = true) (ws : List Jvm.Cond) (ob : Addr) (ps : Int32) (pu : Int32) (pe : Int32) (pm : Int32) (pl : Int32)  (h0 : Heap) (n0 : Nat) (Z0 : n0 ≤ h0.size) (f_E_ob : Exa Z h0 ob "corematch/generate/Family") (f_F_ob_steps : Fld Z h0 ob "corematch/generate/Family" "steps" "I" (.int (0 : Int32))) (f_F_ob_users : Fld Z h0 ob "corematch/generate/Family" "users" "I" (.int (0 : Int32))) (f_F_ob_separations : Fld Z h0 ob "corematch/generate/Family" "separations" "I" (.int (0 : Int32))) (f_F_ob_atMost : Fld Z h0 ob "corematch/generate/Family" "atMost" "I" (.int (0 : Int32))) (f_F_ob_atLeast : Fld Z h0 ob "corematch/generate/Family" "atLeast" "I" (.int (0 : Int32))) (g_ob : n0 ≤ ob) (hs : 131072 ≤ ps.toInt) (q1 : 0 ≤ pu.toInt) (q2 : 0 ≤ pe.toInt) (q3 : 0 ≤ pm.toInt) (q4 : 0 ≤ pl.toInt) (hsum : pu.toInt + pe.toInt + pm.toInt + pl.toInt ≤ 2147483647) :
    MetFree l (⟨"corematch/generate/Family", "<init>", "(IIIII)V"⟩ : MethodName) (head1 (Jvm.Cond.code (⟨"corematch/generate/Family", "<init>", "(IIIII)V"⟩ : MethodName) prog_10_method_1_code 8 none :: ws) ({ frames := 2, cells := 16, slots := 440, locals := 33 } : Room)) (fun avs U => avs = #[(.ref ob), (.int ps), (.int pu), (.int pe), (.int pm), (.int pl)] ∧ Z.Warmed39 U.vm ∧ U.heap = h0) (fun _ _ _ _ _ => True) (fun _ U o U' => ∃ v L, o = .returned v ∧ Q1 Z ob ps pu pe pm pl h0 n0 v U'.heap L ∧ ReturnedEndW U o U' L ({ frames := 2, cells := 16, slots := 440, locals := 33 } : Room).cells ({ frames := 2, cells := 16, slots := 440, locals := 33 } : Room).slots) := by
  refine MetFree.of_bodySF (plainFor_of_name own_pn_corematch_generate_Family) hisR ?_
  intro p e s m args below meth c s₁ Bd hml0 hP hK
  obtain ⟨rfl, hZ, hh⟩ := hP
  have hx := Bd.exec
  have hby := Bd.bytes
  have hml : c.maxLocals = 8 := hml0
  have hown : s.vm.findClass "corematch/generate/Family" = some m.cls := findClass_of_methodNamed Bd.named
  have hnm := (name_of_methodNamed Bd.named Bd.method).1
  have hlk := Bd.notSynchronized
  have hret := Bd.returns
  have X0 : Stand p l e ({ frames := 2, cells := 16, slots := 440, locals := 33 } : Room) s m #[(.ref ob), (.int ps), (.int pu), (.int pe), (.int pm), (.int pl)] below meth c s₁ [] 0 0 := Stand.of_body Bd
  have e0 : s₁.heap = h0 := by rw [← hh, Bd.state]; rfl
  have N0 := Fr.nil n0
  have hS : s.Since s.vm 0 := (State.WarmedH.refl s).since 0
  have hk : 0 ≤ h0.size := Nat.zero_le _
  show own_W p e (ReturnedEndW s) below ({ frames := 2, cells := 16, slots := 440, locals := 33 } : Room).cells ({ frames := 2, cells := 16, slots := 440, locals := 33 } : Room).slots (Q1 Z ob ps pu pe pm pl h0 n0) s₁ (entryFrame m #[(.ref ob), (.int ps), (.int pu), (.int pe), (.int pm), (.int pl)] 8)
  rw [ef_1]
  have K0 : Keep h0 h0 [ob] := Keep.refl h0 _
  have wS : ∀ d ∈ Bundle.stringAtoms, d.before a0 Z = true := by
    intro d hd
    simp only [Bundle.stringAtoms, List.mem_cons, List.not_mem_nil, or_false] at hd
    rcases hd with rfl | rfl | rfl | rfl | rfl | rfl | rfl
    · exact (hw _ (List.mem_of_getElem? (i := 18) rfl))
    · exact (hw _ (List.mem_of_getElem? (i := 19) rfl))
    · exact (hw _ (List.mem_of_getElem? (i := 20) rfl))
    · exact (hw _ (List.mem_of_getElem? (i := 21) rfl))
    · exact (hw _ (List.mem_of_getElem? (i := 22) rfl))
    · exact (hw _ (List.mem_of_getElem? (i := 23) rfl))
    · exact (hw _ (List.mem_of_getElem? (i := 24) rfl))
  refine own_aloadN X0 hx (hb hby d1_0) (v := (.ref ob)) rfl rfl (rfl : 0 + 1 = 1) ?_
  obtain ⟨_, _, ⟨T1, L1, k1, n1⟩, -, X1, ⟨Lc1, hQ1, l1, y1, z1⟩, st1⟩ := X0.specialBack hx (y := (⟨"java/lang/Record", "<init>", "()V"⟩ : MethodName)) rfl hown (mvT hZ (hw _ (List.mem_of_getElem? (i := 9) rfl))) (mvT hZ (hw _ (List.mem_of_getElem? (i := 10) rfl))) (mvT hZ (hw _ (List.mem_of_getElem? (i := 13) rfl))) (by decide) (backOf (W := 0) (rm2 l Z a0 hw [] ob  h0 n0 Z0 ) hZ (hw _ (List.mem_of_getElem? (i := 13) rfl)) (hw _ (List.mem_of_getElem? (i := 12) rfl)) (by decide) (by decide)) (g := (mkF m 1 #[.val (.ref ob), .val (.int ps), .val (.int pu), .val (.int pe), .val (.int pm), .val (.int pl), .unset, .unset] [(.ref ob)])) rfl (by rw [hml]; rfl) (Steps.refl _) (a := ob) (argsL := []) (rest := []) (lenOf own_pd___V rfl) rfl (by show 2 * 0 + _ ≤ _; exact Nat.le_of_eq rfl) (hb hby d1_1) (fun _ _ => ⟨rfl, e0, (by decide : 0 + 0 ≤ _), (by decide : 0 + 0 ≤ _)⟩)
  dsimp only [Pt.U, Pt.locs, Pt.cells, Pt.slots] at X1 l1 y1 z1 st1 hQ1
  subst l1 y1 z1
  obtain ⟨rfl, N1q, e1⟩ := hQ1
  have N1 := Fr.app N0 N1q
  refine own_W.steps st1 ?_
  show own_W p e (ReturnedEndW s) below ({ frames := 2, cells := 16, slots := 440, locals := 33 } : Room).cells ({ frames := 2, cells := 16, slots := 440, locals := 33 } : Room).slots (Q1 Z ob ps pu pe pm pl h0 n0) T1 (mkF m 4 #[.val (.ref ob), .val (.int ps), .val (.int pu), .val (.int pe), .val (.int pm), .val (.int pl), .unset, .unset] [])
  refine own_iloadN X1 hx (hb hby d1_4) (v := ps) rfl (rfl : 4 + 1 = 5) ?_
  obtain ⟨x2, T2, h2, k2, X2, e2, E2, hS, hk2, hZ, hown, st2⟩ := ldcS (s := s) (vm0 := s.vm) X1 hx hZ hown (hw _ (List.mem_of_getElem? (i := 17) rfl)) wS e1 hS hk (g := (mkF m 5 #[.val (.ref ob), .val (.int ps), .val (.int pu), .val (.int pe), .val (.int pm), .val (.int pl), .unset, .unset] [(.int ps)])) rfl (hb hby d1_5) (n := 20) (by decide +kernel) (by decide) (by decide) (by decide)
  refine own_W.step st2 ?_
  have f2_E_ob : Exa Z h2 ob "corematch/generate/Family" := f_E_ob.ext E2
  have f2_F_ob_steps : Fld Z h2 ob "corematch/generate/Family" "steps" "I" (.int (0 : Int32)) := f_F_ob_steps.ext E2
  have f2_F_ob_users : Fld Z h2 ob "corematch/generate/Family" "users" "I" (.int (0 : Int32)) := f_F_ob_users.ext E2
  have f2_F_ob_separations : Fld Z h2 ob "corematch/generate/Family" "separations" "I" (.int (0 : Int32)) := f_F_ob_separations.ext E2
  have f2_F_ob_atMost : Fld Z h2 ob "corematch/generate/Family" "atMost" "I" (.int (0 : Int32)) := f_F_ob_atMost.ext E2
  have f2_F_ob_atLeast : Fld Z h2 ob "corematch/generate/Family" "atLeast" "I" (.int (0 : Int32)) := f_F_ob_atLeast.ext E2
  have f2_K : Keep h0 h2 [ob] := K0.ext E2
  have z2 : n0 ≤ h2.size := Nat.le_trans Z0 E2.1
  show own_W p e (ReturnedEndW s) below ({ frames := 2, cells := 16, slots := 440, locals := 33 } : Room).cells ({ frames := 2, cells := 16, slots := 440, locals := 33 } : Room).slots (Q1 Z ob ps pu pe pm pl h0 n0) T2 (mkF m 7 #[.val (.ref ob), .val (.int ps), .val (.int pu), .val (.int pe), .val (.int pm), .val (.int pl), .unset, .unset] [(.ref x2), (.int ps)])
  obtain ⟨_, _, ⟨T3, L3, k3, n3⟩, -, X3, ⟨Lc3, hQ3, l3, y3, z3⟩, st3⟩ := Jvm.LawKit.callS X2 hx (y := (⟨"corematch/generate/Family", "requireNotNegative", "(ILjava/lang/String;)V"⟩ : MethodName)) hown (mvT hZ (hw _ (List.mem_of_getElem? (i := 25) rfl))) (mvT hZ (hw _ (List.mem_of_getElem? (i := 26) rfl))) (mvT hZ (hw _ (List.mem_of_getElem? (i := 5) rfl))) (mvT hZ (hw _ (List.mem_of_getElem? (i := 27) rfl))) (by decide) (backOf (W := 0) (rm4 l Z a0 hw [] ps x2  h2 n0 z2 (own_nn (by omega))) hZ (hw _ (List.mem_of_getElem? (i := 27) rfl)) (hw _ (List.mem_of_getElem? (i := 5) rfl)) (by decide) (by decide)) (g := (mkF m 7 #[.val (.ref ob), .val (.int ps), .val (.int pu), .val (.int pe), .val (.int pm), .val (.int pl), .unset, .unset] [(.ref x2), (.int ps)])) rfl (by rw [hml]; rfl) (argsL := [(.int ps), (.ref x2)]) (rest := []) (lenOf own_pd__ILjava_lang_String__V rfl) rfl (by show 2 * 0 + _ ≤ _; exact Nat.le_of_eq rfl) (hb hby d1_7) (fun _ _ => ⟨rfl, e2, (by decide : 2 + 0 ≤ _), (by decide : 24 + 0 ≤ _)⟩)
  dsimp only [Pt.U, Pt.locs, Pt.cells, Pt.slots] at X3 l3 y3 z3 st3 hQ3
  subst l3 y3 z3
  obtain ⟨rfl, N3q, e3⟩ := hQ3
  have N3 := Fr.app N1 N3q
  refine own_W.step st3 ?_
  show own_W p e (ReturnedEndW s) below ({ frames := 2, cells := 16, slots := 440, locals := 33 } : Room).cells ({ frames := 2, cells := 16, slots := 440, locals := 33 } : Room).slots (Q1 Z ob ps pu pe pm pl h0 n0) T3 (mkF m 10 #[.val (.ref ob), .val (.int ps), .val (.int pu), .val (.int pe), .val (.int pm), .val (.int pl), .unset, .unset] [])
  refine own_iloadN X3 hx (hb hby d1_10) (v := pu) rfl (rfl : 10 + 1 = 11) ?_
  obtain ⟨x4, T4, h4, k4, X4, e4, E4, hS, hk4, hZ, hown, st4⟩ := ldcS (s := s) (vm0 := T2.vm) X3 hx hZ hown (hw _ (List.mem_of_getElem? (i := 28) rfl)) wS e3 hS hk2 (g := (mkF m 11 #[.val (.ref ob), .val (.int ps), .val (.int pu), .val (.int pe), .val (.int pm), .val (.int pl), .unset, .unset] [(.int pu)])) rfl (hb hby d1_11) (n := 20) (by decide +kernel) (by decide) (by decide) (by decide)
  refine own_W.step st4 ?_
  have f4_E_ob : Exa Z h4 ob "corematch/generate/Family" := f2_E_ob.ext E4
  have f4_F_ob_steps : Fld Z h4 ob "corematch/generate/Family" "steps" "I" (.int (0 : Int32)) := f2_F_ob_steps.ext E4
  have f4_F_ob_users : Fld Z h4 ob "corematch/generate/Family" "users" "I" (.int (0 : Int32)) := f2_F_ob_users.ext E4
  have f4_F_ob_separations : Fld Z h4 ob "corematch/generate/Family" "separations" "I" (.int (0 : Int32)) := f2_F_ob_separations.ext E4
  have f4_F_ob_atMost : Fld Z h4 ob "corematch/generate/Family" "atMost" "I" (.int (0 : Int32)) := f2_F_ob_atMost.ext E4
  have f4_F_ob_atLeast : Fld Z h4 ob "corematch/generate/Family" "atLeast" "I" (.int (0 : Int32)) := f2_F_ob_atLeast.ext E4
  have f4_K : Keep h0 h4 [ob] := f2_K.ext E4
  have z4 : n0 ≤ h4.size := Nat.le_trans z2 E4.1
  show own_W p e (ReturnedEndW s) below ({ frames := 2, cells := 16, slots := 440, locals := 33 } : Room).cells ({ frames := 2, cells := 16, slots := 440, locals := 33 } : Room).slots (Q1 Z ob ps pu pe pm pl h0 n0) T4 (mkF m 13 #[.val (.ref ob), .val (.int ps), .val (.int pu), .val (.int pe), .val (.int pm), .val (.int pl), .unset, .unset] [(.ref x4), (.int pu)])
  obtain ⟨_, _, ⟨T5, L5, k5, n5⟩, -, X5, ⟨Lc5, hQ5, l5, y5, z5⟩, st5⟩ := Jvm.LawKit.callS X4 hx (y := (⟨"corematch/generate/Family", "requireNotNegative", "(ILjava/lang/String;)V"⟩ : MethodName)) hown (mvT hZ (hw _ (List.mem_of_getElem? (i := 25) rfl))) (mvT hZ (hw _ (List.mem_of_getElem? (i := 26) rfl))) (mvT hZ (hw _ (List.mem_of_getElem? (i := 5) rfl))) (mvT hZ (hw _ (List.mem_of_getElem? (i := 27) rfl))) (by decide) (backOf (W := 0) (rm4 l Z a0 hw [] pu x4  h4 n0 z4 (own_nn q1)) hZ (hw _ (List.mem_of_getElem? (i := 27) rfl)) (hw _ (List.mem_of_getElem? (i := 5) rfl)) (by decide) (by decide)) (g := (mkF m 13 #[.val (.ref ob), .val (.int ps), .val (.int pu), .val (.int pe), .val (.int pm), .val (.int pl), .unset, .unset] [(.ref x4), (.int pu)])) rfl (by rw [hml]; rfl) (argsL := [(.int pu), (.ref x4)]) (rest := []) (lenOf own_pd__ILjava_lang_String__V rfl) rfl (by show 2 * 0 + _ ≤ _; exact Nat.le_of_eq rfl) (hb hby d1_13) (fun _ _ => ⟨rfl, e4, (by decide : 4 + 0 ≤ _), (by decide : 48 + 0 ≤ _)⟩)
  dsimp only [Pt.U, Pt.locs, Pt.cells, Pt.slots] at X5 l5 y5 z5 st5 hQ5
  subst l5 y5 z5
  obtain ⟨rfl, N5q, e5⟩ := hQ5
  have N5 := Fr.app N3 N5q
  refine own_W.step st5 ?_
  show own_W p e (ReturnedEndW s) below ({ frames := 2, cells := 16, slots := 440, locals := 33 } : Room).cells ({ frames := 2, cells := 16, slots := 440, locals := 33 } : Room).slots (Q1 Z ob ps pu pe pm pl h0 n0) T5 (mkF m 16 #[.val (.ref ob), .val (.int ps), .val (.int pu), .val (.int pe), .val (.int pm), .val (.int pl), .unset, .unset] [])
  refine own_iloadN X5 hx (hb hby d1_16) (v := pe) rfl (rfl : 16 + 1 = 17) ?_
  obtain ⟨x6, T6, h6, k6, X6, e6, E6, hS, hk6, hZ, hown, st6⟩ := ldcS (s := s) (vm0 := T4.vm) X5 hx hZ hown (hw _ (List.mem_of_getElem? (i := 29) rfl)) wS e5 hS hk4 (g := (mkF m 17 #[.val (.ref ob), .val (.int ps), .val (.int pu), .val (.int pe), .val (.int pm), .val (.int pl), .unset, .unset] [(.int pe)])) rfl (hb hby d1_17) (n := 96) (by decide +kernel) (by decide) (by decide) (by decide)
  refine own_W.step st6 ?_
  have f6_E_ob : Exa Z h6 ob "corematch/generate/Family" := f4_E_ob.ext E6
  have f6_F_ob_steps : Fld Z h6 ob "corematch/generate/Family" "steps" "I" (.int (0 : Int32)) := f4_F_ob_steps.ext E6
  have f6_F_ob_users : Fld Z h6 ob "corematch/generate/Family" "users" "I" (.int (0 : Int32)) := f4_F_ob_users.ext E6
  have f6_F_ob_separations : Fld Z h6 ob "corematch/generate/Family" "separations" "I" (.int (0 : Int32)) := f4_F_ob_separations.ext E6
  have f6_F_ob_atMost : Fld Z h6 ob "corematch/generate/Family" "atMost" "I" (.int (0 : Int32)) := f4_F_ob_atMost.ext E6
  have f6_F_ob_atLeast : Fld Z h6 ob "corematch/generate/Family" "atLeast" "I" (.int (0 : Int32)) := f4_F_ob_atLeast.ext E6
  have f6_K : Keep h0 h6 [ob] := f4_K.ext E6
  have z6 : n0 ≤ h6.size := Nat.le_trans z4 E6.1
  show own_W p e (ReturnedEndW s) below ({ frames := 2, cells := 16, slots := 440, locals := 33 } : Room).cells ({ frames := 2, cells := 16, slots := 440, locals := 33 } : Room).slots (Q1 Z ob ps pu pe pm pl h0 n0) T6 (mkF m 19 #[.val (.ref ob), .val (.int ps), .val (.int pu), .val (.int pe), .val (.int pm), .val (.int pl), .unset, .unset] [(.ref x6), (.int pe)])
  obtain ⟨_, _, ⟨T7, L7, k7, n7⟩, -, X7, ⟨Lc7, hQ7, l7, y7, z7⟩, st7⟩ := Jvm.LawKit.callS X6 hx (y := (⟨"corematch/generate/Family", "requireNotNegative", "(ILjava/lang/String;)V"⟩ : MethodName)) hown (mvT hZ (hw _ (List.mem_of_getElem? (i := 25) rfl))) (mvT hZ (hw _ (List.mem_of_getElem? (i := 26) rfl))) (mvT hZ (hw _ (List.mem_of_getElem? (i := 5) rfl))) (mvT hZ (hw _ (List.mem_of_getElem? (i := 27) rfl))) (by decide) (backOf (W := 0) (rm4 l Z a0 hw [] pe x6  h6 n0 z6 (own_nn q2)) hZ (hw _ (List.mem_of_getElem? (i := 27) rfl)) (hw _ (List.mem_of_getElem? (i := 5) rfl)) (by decide) (by decide)) (g := (mkF m 19 #[.val (.ref ob), .val (.int ps), .val (.int pu), .val (.int pe), .val (.int pm), .val (.int pl), .unset, .unset] [(.ref x6), (.int pe)])) rfl (by rw [hml]; rfl) (argsL := [(.int pe), (.ref x6)]) (rest := []) (lenOf own_pd__ILjava_lang_String__V rfl) rfl (by show 2 * 0 + _ ≤ _; exact Nat.le_of_eq rfl) (hb hby d1_19) (fun _ _ => ⟨rfl, e6, (by decide : 6 + 0 ≤ _), (by decide : 148 + 0 ≤ _)⟩)
  dsimp only [Pt.U, Pt.locs, Pt.cells, Pt.slots] at X7 l7 y7 z7 st7 hQ7
  subst l7 y7 z7
  obtain ⟨rfl, N7q, e7⟩ := hQ7
  have N7 := Fr.app N5 N7q
  refine own_W.step st7 ?_
  show own_W p e (ReturnedEndW s) below ({ frames := 2, cells := 16, slots := 440, locals := 33 } : Room).cells ({ frames := 2, cells := 16, slots := 440, locals := 33 } : Room).slots (Q1 Z ob ps pu pe pm pl h0 n0) T7 (mkF m 22 #[.val (.ref ob), .val (.int ps), .val (.int pu), .val (.int pe), .val (.int pm), .val (.int pl), .unset, .unset] [])
  refine own_iload X7 hx (hb hby d1_22) (v := pm) rfl (rfl : 22 + 2 = 24) ?_
  obtain ⟨x8, T8, h8, k8, X8, e8, E8, hS, hk8, hZ, hown, st8⟩ := ldcS (s := s) (vm0 := T6.vm) X7 hx hZ hown (hw _ (List.mem_of_getElem? (i := 30) rfl)) wS e7 hS hk6 (g := (mkF m 24 #[.val (.ref ob), .val (.int ps), .val (.int pu), .val (.int pe), .val (.int pm), .val (.int pl), .unset, .unset] [(.int pm)])) rfl (hb hby d1_24) (n := 60) (by decide +kernel) (by decide) (by decide) (by decide)
  refine own_W.step st8 ?_
  have f8_E_ob : Exa Z h8 ob "corematch/generate/Family" := f6_E_ob.ext E8
  have f8_F_ob_steps : Fld Z h8 ob "corematch/generate/Family" "steps" "I" (.int (0 : Int32)) := f6_F_ob_steps.ext E8
  have f8_F_ob_users : Fld Z h8 ob "corematch/generate/Family" "users" "I" (.int (0 : Int32)) := f6_F_ob_users.ext E8
  have f8_F_ob_separations : Fld Z h8 ob "corematch/generate/Family" "separations" "I" (.int (0 : Int32)) := f6_F_ob_separations.ext E8
  have f8_F_ob_atMost : Fld Z h8 ob "corematch/generate/Family" "atMost" "I" (.int (0 : Int32)) := f6_F_ob_atMost.ext E8
  have f8_F_ob_atLeast : Fld Z h8 ob "corematch/generate/Family" "atLeast" "I" (.int (0 : Int32)) := f6_F_ob_atLeast.ext E8
  have f8_K : Keep h0 h8 [ob] := f6_K.ext E8
  have z8 : n0 ≤ h8.size := Nat.le_trans z6 E8.1
  show own_W p e (ReturnedEndW s) below ({ frames := 2, cells := 16, slots := 440, locals := 33 } : Room).cells ({ frames := 2, cells := 16, slots := 440, locals := 33 } : Room).slots (Q1 Z ob ps pu pe pm pl h0 n0) T8 (mkF m 26 #[.val (.ref ob), .val (.int ps), .val (.int pu), .val (.int pe), .val (.int pm), .val (.int pl), .unset, .unset] [(.ref x8), (.int pm)])
  obtain ⟨_, _, ⟨T9, L9, k9, n9⟩, -, X9, ⟨Lc9, hQ9, l9, y9, z9⟩, st9⟩ := Jvm.LawKit.callS X8 hx (y := (⟨"corematch/generate/Family", "requireNotNegative", "(ILjava/lang/String;)V"⟩ : MethodName)) hown (mvT hZ (hw _ (List.mem_of_getElem? (i := 25) rfl))) (mvT hZ (hw _ (List.mem_of_getElem? (i := 26) rfl))) (mvT hZ (hw _ (List.mem_of_getElem? (i := 5) rfl))) (mvT hZ (hw _ (List.mem_of_getElem? (i := 27) rfl))) (by decide) (backOf (W := 0) (rm4 l Z a0 hw [] pm x8  h8 n0 z8 (own_nn q3)) hZ (hw _ (List.mem_of_getElem? (i := 27) rfl)) (hw _ (List.mem_of_getElem? (i := 5) rfl)) (by decide) (by decide)) (g := (mkF m 26 #[.val (.ref ob), .val (.int ps), .val (.int pu), .val (.int pe), .val (.int pm), .val (.int pl), .unset, .unset] [(.ref x8), (.int pm)])) rfl (by rw [hml]; rfl) (argsL := [(.int pm), (.ref x8)]) (rest := []) (lenOf own_pd__ILjava_lang_String__V rfl) rfl (by show 2 * 0 + _ ≤ _; exact Nat.le_of_eq rfl) (hb hby d1_26) (fun _ _ => ⟨rfl, e8, (by decide : 8 + 0 ≤ _), (by decide : 212 + 0 ≤ _)⟩)
  dsimp only [Pt.U, Pt.locs, Pt.cells, Pt.slots] at X9 l9 y9 z9 st9 hQ9
  subst l9 y9 z9
  obtain ⟨rfl, N9q, e9⟩ := hQ9
  have N9 := Fr.app N7 N9q
  refine own_W.step st9 ?_
  show own_W p e (ReturnedEndW s) below ({ frames := 2, cells := 16, slots := 440, locals := 33 } : Room).cells ({ frames := 2, cells := 16, slots := 440, locals := 33 } : Room).slots (Q1 Z ob ps pu pe pm pl h0 n0) T9 (mkF m 29 #[.val (.ref ob), .val (.int ps), .val (.int pu), .val (.int pe), .val (.int pm), .val (.int pl), .unset, .unset] [])
  refine own_iload X9 hx (hb hby d1_29) (v := pl) rfl (rfl : 29 + 2 = 31) ?_
  obtain ⟨x10, T10, h10, k10, X10, e10, E10, hS, hk10, hZ, hown, st10⟩ := ldcS (s := s) (vm0 := T8.vm) X9 hx hZ hown (hw _ (List.mem_of_getElem? (i := 31) rfl)) wS e9 hS hk8 (g := (mkF m 31 #[.val (.ref ob), .val (.int ps), .val (.int pu), .val (.int pe), .val (.int pm), .val (.int pl), .unset, .unset] [(.int pl)])) rfl (hb hby d1_31) (n := 64) (by decide +kernel) (by decide) (by decide) (by decide)
  refine own_W.step st10 ?_
  have f10_E_ob : Exa Z h10 ob "corematch/generate/Family" := f8_E_ob.ext E10
  have f10_F_ob_steps : Fld Z h10 ob "corematch/generate/Family" "steps" "I" (.int (0 : Int32)) := f8_F_ob_steps.ext E10
  have f10_F_ob_users : Fld Z h10 ob "corematch/generate/Family" "users" "I" (.int (0 : Int32)) := f8_F_ob_users.ext E10
  have f10_F_ob_separations : Fld Z h10 ob "corematch/generate/Family" "separations" "I" (.int (0 : Int32)) := f8_F_ob_separations.ext E10
  have f10_F_ob_atMost : Fld Z h10 ob "corematch/generate/Family" "atMost" "I" (.int (0 : Int32)) := f8_F_ob_atMost.ext E10
  have f10_F_ob_atLeast : Fld Z h10 ob "corematch/generate/Family" "atLeast" "I" (.int (0 : Int32)) := f8_F_ob_atLeast.ext E10
  have f10_K : Keep h0 h10 [ob] := f8_K.ext E10
  have z10 : n0 ≤ h10.size := Nat.le_trans z8 E10.1
  show own_W p e (ReturnedEndW s) below ({ frames := 2, cells := 16, slots := 440, locals := 33 } : Room).cells ({ frames := 2, cells := 16, slots := 440, locals := 33 } : Room).slots (Q1 Z ob ps pu pe pm pl h0 n0) T10 (mkF m 33 #[.val (.ref ob), .val (.int ps), .val (.int pu), .val (.int pe), .val (.int pm), .val (.int pl), .unset, .unset] [(.ref x10), (.int pl)])
  obtain ⟨_, _, ⟨T11, L11, k11, n11⟩, -, X11, ⟨Lc11, hQ11, l11, y11, z11⟩, st11⟩ := Jvm.LawKit.callS X10 hx (y := (⟨"corematch/generate/Family", "requireNotNegative", "(ILjava/lang/String;)V"⟩ : MethodName)) hown (mvT hZ (hw _ (List.mem_of_getElem? (i := 25) rfl))) (mvT hZ (hw _ (List.mem_of_getElem? (i := 26) rfl))) (mvT hZ (hw _ (List.mem_of_getElem? (i := 5) rfl))) (mvT hZ (hw _ (List.mem_of_getElem? (i := 27) rfl))) (by decide) (backOf (W := 0) (rm4 l Z a0 hw [] pl x10  h10 n0 z10 (own_nn q4)) hZ (hw _ (List.mem_of_getElem? (i := 27) rfl)) (hw _ (List.mem_of_getElem? (i := 5) rfl)) (by decide) (by decide)) (g := (mkF m 33 #[.val (.ref ob), .val (.int ps), .val (.int pu), .val (.int pe), .val (.int pm), .val (.int pl), .unset, .unset] [(.ref x10), (.int pl)])) rfl (by rw [hml]; rfl) (argsL := [(.int pl), (.ref x10)]) (rest := []) (lenOf own_pd__ILjava_lang_String__V rfl) rfl (by show 2 * 0 + _ ≤ _; exact Nat.le_of_eq rfl) (hb hby d1_33) (fun _ _ => ⟨rfl, e10, (by decide : 10 + 0 ≤ _), (by decide : 280 + 0 ≤ _)⟩)
  dsimp only [Pt.U, Pt.locs, Pt.cells, Pt.slots] at X11 l11 y11 z11 st11 hQ11
  subst l11 y11 z11
  obtain ⟨rfl, N11q, e11⟩ := hQ11
  have N11 := Fr.app N9 N11q
  refine own_W.step st11 ?_
  show own_W p e (ReturnedEndW s) below ({ frames := 2, cells := 16, slots := 440, locals := 33 } : Room).cells ({ frames := 2, cells := 16, slots := 440, locals := 33 } : Room).slots (Q1 Z ob ps pu pe pm pl h0 n0) T11 (mkF m 36 #[.val (.ref ob), .val (.int ps), .val (.int pu), .val (.int pe), .val (.int pm), .val (.int pl), .unset, .unset] [])
  refine own_iloadN X11 hx (hb hby d1_36) (v := pu) rfl (rfl : 36 + 1 = 37) ?_
  have J61 : ∀ (_ : Unit), own_W p e (ReturnedEndW s) below ({ frames := 2, cells := 16, slots := 440, locals := 33 } : Room).cells ({ frames := 2, cells := 16, slots := 440, locals := 33 } : Room).slots (Q1 Z ob ps pu pe pm pl h0 n0) T11 (mkF m 61 #[.val (.ref ob), .val (.int ps), .val (.int pu), .val (.int pe), .val (.int pm), .val (.int pl), .unset, .unset] []) := by
    intro _ 
    refine own_iloadN X11 hx (hb hby d1_61) (v := pe) rfl (rfl : 61 + 1 = 62) ?_
    obtain ⟨x12, T12, h12, k12, X12, e12, E12, hS, hk12, hZ, hown, st12⟩ := ldcS (s := s) (vm0 := T10.vm) X11 hx hZ hown (hw _ (List.mem_of_getElem? (i := 32) rfl)) wS e11 hS hk10 (g := (mkF m 62 #[.val (.ref ob), .val (.int ps), .val (.int pu), .val (.int pe), .val (.int pm), .val (.int pl), .unset, .unset] [(.int pe)])) rfl (hb hby d1_62) (n := 72) (by decide +kernel) (by decide) (by decide) (by decide)
    refine own_W.step st12 ?_
    have f12_E_ob : Exa Z h12 ob "corematch/generate/Family" := f10_E_ob.ext E12
    have f12_F_ob_steps : Fld Z h12 ob "corematch/generate/Family" "steps" "I" (.int (0 : Int32)) := f10_F_ob_steps.ext E12
    have f12_F_ob_users : Fld Z h12 ob "corematch/generate/Family" "users" "I" (.int (0 : Int32)) := f10_F_ob_users.ext E12
    have f12_F_ob_separations : Fld Z h12 ob "corematch/generate/Family" "separations" "I" (.int (0 : Int32)) := f10_F_ob_separations.ext E12
    have f12_F_ob_atMost : Fld Z h12 ob "corematch/generate/Family" "atMost" "I" (.int (0 : Int32)) := f10_F_ob_atMost.ext E12
    have f12_F_ob_atLeast : Fld Z h12 ob "corematch/generate/Family" "atLeast" "I" (.int (0 : Int32)) := f10_F_ob_atLeast.ext E12
    have f12_K : Keep h0 h12 [ob] := f10_K.ext E12
    have z12 : n0 ≤ h12.size := Nat.le_trans z10 E12.1
    show own_W p e (ReturnedEndW s) below ({ frames := 2, cells := 16, slots := 440, locals := 33 } : Room).cells ({ frames := 2, cells := 16, slots := 440, locals := 33 } : Room).slots (Q1 Z ob ps pu pe pm pl h0 n0) T12 (mkF m 64 #[.val (.ref ob), .val (.int ps), .val (.int pu), .val (.int pe), .val (.int pm), .val (.int pl), .unset, .unset] [(.ref x12), (.int pe)])
    refine own_iloadN X12 hx (hb hby d1_64) (v := ps) rfl (rfl : 64 + 1 = 65) ?_
    refine own_iconst X12 hx (hb hby d1_65) (2 : Int32) (by first | rfl | decide) (rfl : 65 + 1 = 66) ?_
    obtain ⟨_, _, ⟨T13, L13, k13, n13⟩, -, X13, ⟨Lc13, hQ13, l13, y13, z13⟩, st13⟩ := Jvm.LawKit.callS X12 hx (y := (⟨"corematch/generate/Family", "requireSets", "(ILjava/lang/String;II)V"⟩ : MethodName)) hown (mvT hZ (hw _ (List.mem_of_getElem? (i := 33) rfl))) (mvT hZ (hw _ (List.mem_of_getElem? (i := 34) rfl))) (mvT hZ (hw _ (List.mem_of_getElem? (i := 5) rfl))) (mvT hZ (hw _ (List.mem_of_getElem? (i := 35) rfl))) (by decide) (backOf (W := 0) (rm5 l Z a0 hw [] pe x12 ps (2 : Int32)  h12 n0 z12 (hs) (Or.inl rfl)) hZ (hw _ (List.mem_of_getElem? (i := 35) rfl)) (hw _ (List.mem_of_getElem? (i := 5) rfl)) (by decide) (by decide)) (g := (mkF m 66 #[.val (.ref ob), .val (.int ps), .val (.int pu), .val (.int pe), .val (.int pm), .val (.int pl), .unset, .unset] [(.int (2 : Int32)), (.int ps), (.ref x12), (.int pe)])) rfl (by rw [hml]; rfl) (argsL := [(.int pe), (.ref x12), (.int ps), (.int (2 : Int32))]) (rest := []) (lenOf own_pd__ILjava_lang_String_II_V rfl) rfl (by show 2 * 0 + _ ≤ _; exact Nat.le_of_eq rfl) (hb hby d1_66) (fun _ _ => ⟨rfl, e12, (by decide : 12 + 0 ≤ _), (by decide : 356 + 0 ≤ _)⟩)
    dsimp only [Pt.U, Pt.locs, Pt.cells, Pt.slots] at X13 l13 y13 z13 st13 hQ13
    subst l13 y13 z13
    obtain ⟨rfl, N13q, e13⟩ := hQ13
    have N13 := Fr.app N11 N13q
    refine own_W.step st13 ?_
    show own_W p e (ReturnedEndW s) below ({ frames := 2, cells := 16, slots := 440, locals := 33 } : Room).cells ({ frames := 2, cells := 16, slots := 440, locals := 33 } : Room).slots (Q1 Z ob ps pu pe pm pl h0 n0) T13 (mkF m 69 #[.val (.ref ob), .val (.int ps), .val (.int pu), .val (.int pe), .val (.int pm), .val (.int pl), .unset, .unset] [])
    refine own_iload X13 hx (hb hby d1_69) (v := pm) rfl (rfl : 69 + 2 = 71) ?_
    obtain ⟨x14, T14, h14, k14, X14, e14, E14, hS, hk14, hZ, hown, st14⟩ := ldcS (s := s) (vm0 := T12.vm) X13 hx hZ hown (hw _ (List.mem_of_getElem? (i := 40) rfl)) wS e13 hS hk12 (g := (mkF m 71 #[.val (.ref ob), .val (.int ps), .val (.int pu), .val (.int pe), .val (.int pm), .val (.int pl), .unset, .unset] [(.int pm)])) rfl (hb hby d1_71) (n := 36) (by decide +kernel) (by decide) (by decide) (by decide)
    refine own_W.step st14 ?_
    have f14_E_ob : Exa Z h14 ob "corematch/generate/Family" := f12_E_ob.ext E14
    have f14_F_ob_steps : Fld Z h14 ob "corematch/generate/Family" "steps" "I" (.int (0 : Int32)) := f12_F_ob_steps.ext E14
    have f14_F_ob_users : Fld Z h14 ob "corematch/generate/Family" "users" "I" (.int (0 : Int32)) := f12_F_ob_users.ext E14
    have f14_F_ob_separations : Fld Z h14 ob "corematch/generate/Family" "separations" "I" (.int (0 : Int32)) := f12_F_ob_separations.ext E14
    have f14_F_ob_atMost : Fld Z h14 ob "corematch/generate/Family" "atMost" "I" (.int (0 : Int32)) := f12_F_ob_atMost.ext E14
    have f14_F_ob_atLeast : Fld Z h14 ob "corematch/generate/Family" "atLeast" "I" (.int (0 : Int32)) := f12_F_ob_atLeast.ext E14
    have f14_K : Keep h0 h14 [ob] := f12_K.ext E14
    have z14 : n0 ≤ h14.size := Nat.le_trans z12 E14.1
    show own_W p e (ReturnedEndW s) below ({ frames := 2, cells := 16, slots := 440, locals := 33 } : Room).cells ({ frames := 2, cells := 16, slots := 440, locals := 33 } : Room).slots (Q1 Z ob ps pu pe pm pl h0 n0) T14 (mkF m 73 #[.val (.ref ob), .val (.int ps), .val (.int pu), .val (.int pe), .val (.int pm), .val (.int pl), .unset, .unset] [(.ref x14), (.int pm)])
    refine own_iloadN X14 hx (hb hby d1_73) (v := ps) rfl (rfl : 73 + 1 = 74) ?_
    refine own_iconst X14 hx (hb hby d1_74) (5 : Int32) (by first | rfl | decide) (rfl : 74 + 1 = 75) ?_
    obtain ⟨_, _, ⟨T15, L15, k15, n15⟩, -, X15, ⟨Lc15, hQ15, l15, y15, z15⟩, st15⟩ := Jvm.LawKit.callS X14 hx (y := (⟨"corematch/generate/Family", "requireSets", "(ILjava/lang/String;II)V"⟩ : MethodName)) hown (mvT hZ (hw _ (List.mem_of_getElem? (i := 33) rfl))) (mvT hZ (hw _ (List.mem_of_getElem? (i := 34) rfl))) (mvT hZ (hw _ (List.mem_of_getElem? (i := 5) rfl))) (mvT hZ (hw _ (List.mem_of_getElem? (i := 35) rfl))) (by decide) (backOf (W := 0) (rm5 l Z a0 hw [] pm x14 ps (5 : Int32)  h14 n0 z14 (hs) (Or.inr rfl)) hZ (hw _ (List.mem_of_getElem? (i := 35) rfl)) (hw _ (List.mem_of_getElem? (i := 5) rfl)) (by decide) (by decide)) (g := (mkF m 75 #[.val (.ref ob), .val (.int ps), .val (.int pu), .val (.int pe), .val (.int pm), .val (.int pl), .unset, .unset] [(.int (5 : Int32)), (.int ps), (.ref x14), (.int pm)])) rfl (by rw [hml]; rfl) (argsL := [(.int pm), (.ref x14), (.int ps), (.int (5 : Int32))]) (rest := []) (lenOf own_pd__ILjava_lang_String_II_V rfl) rfl (by show 2 * 0 + _ ≤ _; exact Nat.le_of_eq rfl) (hb hby d1_75) (fun _ _ => ⟨rfl, e14, (by decide : 14 + 0 ≤ _), (by decide : 396 + 0 ≤ _)⟩)
    dsimp only [Pt.U, Pt.locs, Pt.cells, Pt.slots] at X15 l15 y15 z15 st15 hQ15
    subst l15 y15 z15
    obtain ⟨rfl, N15q, e15⟩ := hQ15
    have N15 := Fr.app N13 N15q
    refine own_W.step st15 ?_
    show own_W p e (ReturnedEndW s) below ({ frames := 2, cells := 16, slots := 440, locals := 33 } : Room).cells ({ frames := 2, cells := 16, slots := 440, locals := 33 } : Room).slots (Q1 Z ob ps pu pe pm pl h0 n0) T15 (mkF m 78 #[.val (.ref ob), .val (.int ps), .val (.int pu), .val (.int pe), .val (.int pm), .val (.int pl), .unset, .unset] [])
    refine own_iload X15 hx (hb hby d1_78) (v := pl) rfl (rfl : 78 + 2 = 80) ?_
    obtain ⟨x16, T16, h16, k16, X16, e16, E16, hS, hk16, hZ, hown, st16⟩ := ldcS (s := s) (vm0 := T14.vm) X15 hx hZ hown (hw _ (List.mem_of_getElem? (i := 41) rfl)) wS e15 hS hk14 (g := (mkF m 80 #[.val (.ref ob), .val (.int ps), .val (.int pu), .val (.int pe), .val (.int pm), .val (.int pl), .unset, .unset] [(.int pl)])) rfl (hb hby d1_80) (n := 40) (by decide +kernel) (by decide) (by decide) (by decide)
    refine own_W.step st16 ?_
    have f16_E_ob : Exa Z h16 ob "corematch/generate/Family" := f14_E_ob.ext E16
    have f16_F_ob_steps : Fld Z h16 ob "corematch/generate/Family" "steps" "I" (.int (0 : Int32)) := f14_F_ob_steps.ext E16
    have f16_F_ob_users : Fld Z h16 ob "corematch/generate/Family" "users" "I" (.int (0 : Int32)) := f14_F_ob_users.ext E16
    have f16_F_ob_separations : Fld Z h16 ob "corematch/generate/Family" "separations" "I" (.int (0 : Int32)) := f14_F_ob_separations.ext E16
    have f16_F_ob_atMost : Fld Z h16 ob "corematch/generate/Family" "atMost" "I" (.int (0 : Int32)) := f14_F_ob_atMost.ext E16
    have f16_F_ob_atLeast : Fld Z h16 ob "corematch/generate/Family" "atLeast" "I" (.int (0 : Int32)) := f14_F_ob_atLeast.ext E16
    have f16_K : Keep h0 h16 [ob] := f14_K.ext E16
    have z16 : n0 ≤ h16.size := Nat.le_trans z14 E16.1
    show own_W p e (ReturnedEndW s) below ({ frames := 2, cells := 16, slots := 440, locals := 33 } : Room).cells ({ frames := 2, cells := 16, slots := 440, locals := 33 } : Room).slots (Q1 Z ob ps pu pe pm pl h0 n0) T16 (mkF m 82 #[.val (.ref ob), .val (.int ps), .val (.int pu), .val (.int pe), .val (.int pm), .val (.int pl), .unset, .unset] [(.ref x16), (.int pl)])
    refine own_iloadN X16 hx (hb hby d1_82) (v := ps) rfl (rfl : 82 + 1 = 83) ?_
    refine own_iconst X16 hx (hb hby d1_83) (5 : Int32) (by first | rfl | decide) (rfl : 83 + 1 = 84) ?_
    obtain ⟨_, _, ⟨T17, L17, k17, n17⟩, -, X17, ⟨Lc17, hQ17, l17, y17, z17⟩, st17⟩ := Jvm.LawKit.callS X16 hx (y := (⟨"corematch/generate/Family", "requireSets", "(ILjava/lang/String;II)V"⟩ : MethodName)) hown (mvT hZ (hw _ (List.mem_of_getElem? (i := 33) rfl))) (mvT hZ (hw _ (List.mem_of_getElem? (i := 34) rfl))) (mvT hZ (hw _ (List.mem_of_getElem? (i := 5) rfl))) (mvT hZ (hw _ (List.mem_of_getElem? (i := 35) rfl))) (by decide) (backOf (W := 0) (rm5 l Z a0 hw [] pl x16 ps (5 : Int32)  h16 n0 z16 (hs) (Or.inr rfl)) hZ (hw _ (List.mem_of_getElem? (i := 35) rfl)) (hw _ (List.mem_of_getElem? (i := 5) rfl)) (by decide) (by decide)) (g := (mkF m 84 #[.val (.ref ob), .val (.int ps), .val (.int pu), .val (.int pe), .val (.int pm), .val (.int pl), .unset, .unset] [(.int (5 : Int32)), (.int ps), (.ref x16), (.int pl)])) rfl (by rw [hml]; rfl) (argsL := [(.int pl), (.ref x16), (.int ps), (.int (5 : Int32))]) (rest := []) (lenOf own_pd__ILjava_lang_String_II_V rfl) rfl (by show 2 * 0 + _ ≤ _; exact Nat.le_of_eq rfl) (hb hby d1_84) (fun _ _ => ⟨rfl, e16, (by decide : 16 + 0 ≤ _), (by decide : 440 + 0 ≤ _)⟩)
    dsimp only [Pt.U, Pt.locs, Pt.cells, Pt.slots] at X17 l17 y17 z17 st17 hQ17
    subst l17 y17 z17
    obtain ⟨rfl, N17q, e17⟩ := hQ17
    have N17 := Fr.app N15 N17q
    refine own_W.step st17 ?_
    show own_W p e (ReturnedEndW s) below ({ frames := 2, cells := 16, slots := 440, locals := 33 } : Room).cells ({ frames := 2, cells := 16, slots := 440, locals := 33 } : Room).slots (Q1 Z ob ps pu pe pm pl h0 n0) T17 (mkF m 87 #[.val (.ref ob), .val (.int ps), .val (.int pu), .val (.int pe), .val (.int pm), .val (.int pl), .unset, .unset] [])
    refine own_iloadN X17 hx (hb hby d1_87) (v := pu) rfl (rfl : 87 + 1 = 88) ?_
    refine own_i2l X17 hx (hb hby d1_88) (rfl : 88 + 1 = 89) ?_
    refine own_iloadN X17 hx (hb hby d1_89) (v := pe) rfl (rfl : 89 + 1 = 90) ?_
    refine own_i2l X17 hx (hb hby d1_90) (rfl : 90 + 1 = 91) ?_
    refine own_ladd X17 hx (hb hby d1_91) (rfl : 91 + 1 = 92) ?_
    refine own_iload X17 hx (hb hby d1_92) (v := pm) rfl (rfl : 92 + 2 = 94) ?_
    refine own_i2l X17 hx (hb hby d1_94) (rfl : 94 + 1 = 95) ?_
    refine own_ladd X17 hx (hb hby d1_95) (rfl : 95 + 1 = 96) ?_
    refine own_iload X17 hx (hb hby d1_96) (v := pl) rfl (rfl : 96 + 2 = 98) ?_
    refine own_i2l X17 hx (hb hby d1_98) (rfl : 98 + 1 = 99) ?_
    refine own_ladd X17 hx (hb hby d1_99) (rfl : 99 + 1 = 100) ?_
    refine own_lstore X17 hx (hb hby d1_100) (l' := #[.val (.ref ob), .val (.int ps), .val (.int pu), .val (.int pe), .val (.int pm), .val (.int pl), .val (.long ((((pu.toInt64) + (pe.toInt64)) + (pm.toInt64)) + (pl.toInt64))), .second]) rfl (rfl : 100 + 2 = 102) ?_
    refine own_lload X17 hx (hb hby d1_102) (v := ((((pu.toInt64) + (pe.toInt64)) + (pm.toInt64)) + (pl.toInt64))) rfl (rfl : 102 + 2 = 104) ?_
    refine own_ldc2Long X17 hx hown (mvT hZ (hw _ (List.mem_of_getElem? (i := 39) rfl))) (hb hby d1_104) (rfl : 104 + 3 = 107) ?_
    refine own_lcmp X17 hx (hb hby d1_107) (rfl : 107 + 1 = 108) ?_
    have hc108 : ¬ ((2147483647 : Int64) < ((((pu.toInt64) + (pe.toInt64)) + (pm.toInt64)) + (pl.toInt64))) := by rw [Int64.lt_iff_toInt_lt, own_sumL q1 q2 q3 q4 hsum, show (2147483647 : Int64).toInt = 2147483647 from by decide]; omega
    refine own_ifYes X17 hx (hb hby d1_108) (XT.ll_le_t hc108) (pc' := 126) (by decide) (by decide) ?_
    refine own_aloadN X17 hx (hb hby d1_126) (v := (.ref ob)) rfl rfl (rfl : 126 + 1 = 127) ?_
    refine own_iloadN X17 hx (hb hby d1_127) (v := ps) rfl (rfl : 127 + 1 = 128) ?_
    obtain ⟨T18, h18, X18, e18, W18, st18⟩ := putF X17 hx hZ hown (host := "") (Or.inl (hw _ (List.mem_of_getElem? (i := 42) rfl))) Via.refl e17 f16_F_ob_steps f16_E_ob (Or.inr ⟨(hw _ (List.mem_of_getElem? (i := 43) rfl)), rfl, hnm⟩) (hw _ (List.mem_of_getElem? (i := 4) rfl)) (ty := .int) (by decide) rfl rfl (g := (mkF m 128 #[.val (.ref ob), .val (.int ps), .val (.int pu), .val (.int pe), .val (.int pm), .val (.int pl), .val (.long ((((pu.toInt64) + (pe.toInt64)) + (pm.toInt64)) + (pl.toInt64))), .second] [(.int ps), (.ref ob)])) rfl rfl (hb hby d1_128)
    refine own_W.step st18 ?_
    have N18 := Fr.snoc X18 N17 g_ob
    have f18_E_ob : Exa Z h18 ob "corematch/generate/Family" := f16_E_ob.wr W18
    have f18_F_ob_users : Fld Z h18 ob "corematch/generate/Family" "users" "I" (.int (0 : Int32)) := f16_F_ob_users.other W18 (Or.inr (slot_ne (Or.inr (hw _ (List.mem_of_getElem? (i := 45) rfl))) (Or.inr (hw _ (List.mem_of_getElem? (i := 43) rfl))) (by decide) (t := .int) (t' := .int) (by decide) (by decide)))
    have f18_F_ob_separations : Fld Z h18 ob "corematch/generate/Family" "separations" "I" (.int (0 : Int32)) := f16_F_ob_separations.other W18 (Or.inr (slot_ne (Or.inr (hw _ (List.mem_of_getElem? (i := 47) rfl))) (Or.inr (hw _ (List.mem_of_getElem? (i := 43) rfl))) (by decide) (t := .int) (t' := .int) (by decide) (by decide)))
    have f18_F_ob_atMost : Fld Z h18 ob "corematch/generate/Family" "atMost" "I" (.int (0 : Int32)) := f16_F_ob_atMost.other W18 (Or.inr (slot_ne (Or.inr (hw _ (List.mem_of_getElem? (i := 49) rfl))) (Or.inr (hw _ (List.mem_of_getElem? (i := 43) rfl))) (by decide) (t := .int) (t' := .int) (by decide) (by decide)))
    have f18_F_ob_atLeast : Fld Z h18 ob "corematch/generate/Family" "atLeast" "I" (.int (0 : Int32)) := f16_F_ob_atLeast.other W18 (Or.inr (slot_ne (Or.inr (hw _ (List.mem_of_getElem? (i := 51) rfl))) (Or.inr (hw _ (List.mem_of_getElem? (i := 43) rfl))) (by decide) (t := .int) (t' := .int) (by decide) (by decide)))
    have f18_K : Keep h0 h18 [ob] := f16_K.wr W18 (Or.inl (by simp))
    have f18_Z : k16 ≤ h18.size := by rw [W18.size]; exact hk16
    have fw18 : Fld Z h18 ob "corematch/generate/Family" "steps" "I" (.int ps) := f16_F_ob_steps.same W18
    have z18 : n0 ≤ h18.size := by rw [W18.size]; exact z16
    show own_W p e (ReturnedEndW s) below ({ frames := 2, cells := 16, slots := 440, locals := 33 } : Room).cells ({ frames := 2, cells := 16, slots := 440, locals := 33 } : Room).slots (Q1 Z ob ps pu pe pm pl h0 n0) T18 (mkF m 131 #[.val (.ref ob), .val (.int ps), .val (.int pu), .val (.int pe), .val (.int pm), .val (.int pl), .val (.long ((((pu.toInt64) + (pe.toInt64)) + (pm.toInt64)) + (pl.toInt64))), .second] [])
    refine own_aloadN X18 hx (hb hby d1_131) (v := (.ref ob)) rfl rfl (rfl : 131 + 1 = 132) ?_
    refine own_iloadN X18 hx (hb hby d1_132) (v := pu) rfl (rfl : 132 + 1 = 133) ?_
    obtain ⟨T19, h19, X19, e19, W19, st19⟩ := putF X18 hx hZ hown (host := "") (Or.inl (hw _ (List.mem_of_getElem? (i := 44) rfl))) Via.refl e18 f18_F_ob_users f18_E_ob (Or.inr ⟨(hw _ (List.mem_of_getElem? (i := 45) rfl)), rfl, hnm⟩) (hw _ (List.mem_of_getElem? (i := 4) rfl)) (ty := .int) (by decide) rfl rfl (g := (mkF m 133 #[.val (.ref ob), .val (.int ps), .val (.int pu), .val (.int pe), .val (.int pm), .val (.int pl), .val (.long ((((pu.toInt64) + (pe.toInt64)) + (pm.toInt64)) + (pl.toInt64))), .second] [(.int pu), (.ref ob)])) rfl rfl (hb hby d1_133)
    refine own_W.step st19 ?_
    have N19 := Fr.snoc X19 N18 g_ob
    have f19_E_ob : Exa Z h19 ob "corematch/generate/Family" := f18_E_ob.wr W19
    have f19_F_ob_steps : Fld Z h19 ob "corematch/generate/Family" "steps" "I" (.int ps) := fw18.other W19 (Or.inr (slot_ne (Or.inr (hw _ (List.mem_of_getElem? (i := 43) rfl))) (Or.inr (hw _ (List.mem_of_getElem? (i := 45) rfl))) (by decide) (t := .int) (t' := .int) (by decide) (by decide)))
    have f19_F_ob_separations : Fld Z h19 ob "corematch/generate/Family" "separations" "I" (.int (0 : Int32)) := f18_F_ob_separations.other W19 (Or.inr (slot_ne (Or.inr (hw _ (List.mem_of_getElem? (i := 47) rfl))) (Or.inr (hw _ (List.mem_of_getElem? (i := 45) rfl))) (by decide) (t := .int) (t' := .int) (by decide) (by decide)))
    have f19_F_ob_atMost : Fld Z h19 ob "corematch/generate/Family" "atMost" "I" (.int (0 : Int32)) := f18_F_ob_atMost.other W19 (Or.inr (slot_ne (Or.inr (hw _ (List.mem_of_getElem? (i := 49) rfl))) (Or.inr (hw _ (List.mem_of_getElem? (i := 45) rfl))) (by decide) (t := .int) (t' := .int) (by decide) (by decide)))
    have f19_F_ob_atLeast : Fld Z h19 ob "corematch/generate/Family" "atLeast" "I" (.int (0 : Int32)) := f18_F_ob_atLeast.other W19 (Or.inr (slot_ne (Or.inr (hw _ (List.mem_of_getElem? (i := 51) rfl))) (Or.inr (hw _ (List.mem_of_getElem? (i := 45) rfl))) (by decide) (t := .int) (t' := .int) (by decide) (by decide)))
    have f19_K : Keep h0 h19 [ob] := f18_K.wr W19 (Or.inl (by simp))
    have f19_Z : k16 ≤ h19.size := by rw [W19.size]; exact f18_Z
    have fw19 : Fld Z h19 ob "corematch/generate/Family" "users" "I" (.int pu) := f18_F_ob_users.same W19
    have z19 : n0 ≤ h19.size := by rw [W19.size]; exact z18
    show own_W p e (ReturnedEndW s) below ({ frames := 2, cells := 16, slots := 440, locals := 33 } : Room).cells ({ frames := 2, cells := 16, slots := 440, locals := 33 } : Room).slots (Q1 Z ob ps pu pe pm pl h0 n0) T19 (mkF m 136 #[.val (.ref ob), .val (.int ps), .val (.int pu), .val (.int pe), .val (.int pm), .val (.int pl), .val (.long ((((pu.toInt64) + (pe.toInt64)) + (pm.toInt64)) + (pl.toInt64))), .second] [])
    refine own_aloadN X19 hx (hb hby d1_136) (v := (.ref ob)) rfl rfl (rfl : 136 + 1 = 137) ?_
    refine own_iloadN X19 hx (hb hby d1_137) (v := pe) rfl (rfl : 137 + 1 = 138) ?_
    obtain ⟨T20, h20, X20, e20, W20, st20⟩ := putF X19 hx hZ hown (host := "") (Or.inl (hw _ (List.mem_of_getElem? (i := 46) rfl))) Via.refl e19 f19_F_ob_separations f19_E_ob (Or.inr ⟨(hw _ (List.mem_of_getElem? (i := 47) rfl)), rfl, hnm⟩) (hw _ (List.mem_of_getElem? (i := 4) rfl)) (ty := .int) (by decide) rfl rfl (g := (mkF m 138 #[.val (.ref ob), .val (.int ps), .val (.int pu), .val (.int pe), .val (.int pm), .val (.int pl), .val (.long ((((pu.toInt64) + (pe.toInt64)) + (pm.toInt64)) + (pl.toInt64))), .second] [(.int pe), (.ref ob)])) rfl rfl (hb hby d1_138)
    refine own_W.step st20 ?_
    have N20 := Fr.snoc X20 N19 g_ob
    have f20_E_ob : Exa Z h20 ob "corematch/generate/Family" := f19_E_ob.wr W20
    have f20_F_ob_steps : Fld Z h20 ob "corematch/generate/Family" "steps" "I" (.int ps) := f19_F_ob_steps.other W20 (Or.inr (slot_ne (Or.inr (hw _ (List.mem_of_getElem? (i := 43) rfl))) (Or.inr (hw _ (List.mem_of_getElem? (i := 47) rfl))) (by decide) (t := .int) (t' := .int) (by decide) (by decide)))
    have f20_F_ob_users : Fld Z h20 ob "corematch/generate/Family" "users" "I" (.int pu) := fw19.other W20 (Or.inr (slot_ne (Or.inr (hw _ (List.mem_of_getElem? (i := 45) rfl))) (Or.inr (hw _ (List.mem_of_getElem? (i := 47) rfl))) (by decide) (t := .int) (t' := .int) (by decide) (by decide)))
    have f20_F_ob_atMost : Fld Z h20 ob "corematch/generate/Family" "atMost" "I" (.int (0 : Int32)) := f19_F_ob_atMost.other W20 (Or.inr (slot_ne (Or.inr (hw _ (List.mem_of_getElem? (i := 49) rfl))) (Or.inr (hw _ (List.mem_of_getElem? (i := 47) rfl))) (by decide) (t := .int) (t' := .int) (by decide) (by decide)))
    have f20_F_ob_atLeast : Fld Z h20 ob "corematch/generate/Family" "atLeast" "I" (.int (0 : Int32)) := f19_F_ob_atLeast.other W20 (Or.inr (slot_ne (Or.inr (hw _ (List.mem_of_getElem? (i := 51) rfl))) (Or.inr (hw _ (List.mem_of_getElem? (i := 47) rfl))) (by decide) (t := .int) (t' := .int) (by decide) (by decide)))
    have f20_K : Keep h0 h20 [ob] := f19_K.wr W20 (Or.inl (by simp))
    have f20_Z : k16 ≤ h20.size := by rw [W20.size]; exact f19_Z
    have fw20 : Fld Z h20 ob "corematch/generate/Family" "separations" "I" (.int pe) := f19_F_ob_separations.same W20
    have z20 : n0 ≤ h20.size := by rw [W20.size]; exact z19
    show own_W p e (ReturnedEndW s) below ({ frames := 2, cells := 16, slots := 440, locals := 33 } : Room).cells ({ frames := 2, cells := 16, slots := 440, locals := 33 } : Room).slots (Q1 Z ob ps pu pe pm pl h0 n0) T20 (mkF m 141 #[.val (.ref ob), .val (.int ps), .val (.int pu), .val (.int pe), .val (.int pm), .val (.int pl), .val (.long ((((pu.toInt64) + (pe.toInt64)) + (pm.toInt64)) + (pl.toInt64))), .second] [])
    refine own_aloadN X20 hx (hb hby d1_141) (v := (.ref ob)) rfl rfl (rfl : 141 + 1 = 142) ?_
    refine own_iload X20 hx (hb hby d1_142) (v := pm) rfl (rfl : 142 + 2 = 144) ?_
    obtain ⟨T21, h21, X21, e21, W21, st21⟩ := putF X20 hx hZ hown (host := "") (Or.inl (hw _ (List.mem_of_getElem? (i := 48) rfl))) Via.refl e20 f20_F_ob_atMost f20_E_ob (Or.inr ⟨(hw _ (List.mem_of_getElem? (i := 49) rfl)), rfl, hnm⟩) (hw _ (List.mem_of_getElem? (i := 4) rfl)) (ty := .int) (by decide) rfl rfl (g := (mkF m 144 #[.val (.ref ob), .val (.int ps), .val (.int pu), .val (.int pe), .val (.int pm), .val (.int pl), .val (.long ((((pu.toInt64) + (pe.toInt64)) + (pm.toInt64)) + (pl.toInt64))), .second] [(.int pm), (.ref ob)])) rfl rfl (hb hby d1_144)
    refine own_W.step st21 ?_
    have N21 := Fr.snoc X21 N20 g_ob
    have f21_E_ob : Exa Z h21 ob "corematch/generate/Family" := f20_E_ob.wr W21
    have f21_F_ob_steps : Fld Z h21 ob "corematch/generate/Family" "steps" "I" (.int ps) := f20_F_ob_steps.other W21 (Or.inr (slot_ne (Or.inr (hw _ (List.mem_of_getElem? (i := 43) rfl))) (Or.inr (hw _ (List.mem_of_getElem? (i := 49) rfl))) (by decide) (t := .int) (t' := .int) (by decide) (by decide)))
    have f21_F_ob_users : Fld Z h21 ob "corematch/generate/Family" "users" "I" (.int pu) := f20_F_ob_users.other W21 (Or.inr (slot_ne (Or.inr (hw _ (List.mem_of_getElem? (i := 45) rfl))) (Or.inr (hw _ (List.mem_of_getElem? (i := 49) rfl))) (by decide) (t := .int) (t' := .int) (by decide) (by decide)))
    have f21_F_ob_separations : Fld Z h21 ob "corematch/generate/Family" "separations" "I" (.int pe) := fw20.other W21 (Or.inr (slot_ne (Or.inr (hw _ (List.mem_of_getElem? (i := 47) rfl))) (Or.inr (hw _ (List.mem_of_getElem? (i := 49) rfl))) (by decide) (t := .int) (t' := .int) (by decide) (by decide)))
    have f21_F_ob_atLeast : Fld Z h21 ob "corematch/generate/Family" "atLeast" "I" (.int (0 : Int32)) := f20_F_ob_atLeast.other W21 (Or.inr (slot_ne (Or.inr (hw _ (List.mem_of_getElem? (i := 51) rfl))) (Or.inr (hw _ (List.mem_of_getElem? (i := 49) rfl))) (by decide) (t := .int) (t' := .int) (by decide) (by decide)))
    have f21_K : Keep h0 h21 [ob] := f20_K.wr W21 (Or.inl (by simp))
    have f21_Z : k16 ≤ h21.size := by rw [W21.size]; exact f20_Z
    have fw21 : Fld Z h21 ob "corematch/generate/Family" "atMost" "I" (.int pm) := f20_F_ob_atMost.same W21
    have z21 : n0 ≤ h21.size := by rw [W21.size]; exact z20
    show own_W p e (ReturnedEndW s) below ({ frames := 2, cells := 16, slots := 440, locals := 33 } : Room).cells ({ frames := 2, cells := 16, slots := 440, locals := 33 } : Room).slots (Q1 Z ob ps pu pe pm pl h0 n0) T21 (mkF m 147 #[.val (.ref ob), .val (.int ps), .val (.int pu), .val (.int pe), .val (.int pm), .val (.int pl), .val (.long ((((pu.toInt64) + (pe.toInt64)) + (pm.toInt64)) + (pl.toInt64))), .second] [])
    refine own_aloadN X21 hx (hb hby d1_147) (v := (.ref ob)) rfl rfl (rfl : 147 + 1 = 148) ?_
    refine own_iload X21 hx (hb hby d1_148) (v := pl) rfl (rfl : 148 + 2 = 150) ?_
    obtain ⟨T22, h22, X22, e22, W22, st22⟩ := putF X21 hx hZ hown (host := "") (Or.inl (hw _ (List.mem_of_getElem? (i := 50) rfl))) Via.refl e21 f21_F_ob_atLeast f21_E_ob (Or.inr ⟨(hw _ (List.mem_of_getElem? (i := 51) rfl)), rfl, hnm⟩) (hw _ (List.mem_of_getElem? (i := 4) rfl)) (ty := .int) (by decide) rfl rfl (g := (mkF m 150 #[.val (.ref ob), .val (.int ps), .val (.int pu), .val (.int pe), .val (.int pm), .val (.int pl), .val (.long ((((pu.toInt64) + (pe.toInt64)) + (pm.toInt64)) + (pl.toInt64))), .second] [(.int pl), (.ref ob)])) rfl rfl (hb hby d1_150)
    refine own_W.step st22 ?_
    have N22 := Fr.snoc X22 N21 g_ob
    have f22_E_ob : Exa Z h22 ob "corematch/generate/Family" := f21_E_ob.wr W22
    have f22_F_ob_steps : Fld Z h22 ob "corematch/generate/Family" "steps" "I" (.int ps) := f21_F_ob_steps.other W22 (Or.inr (slot_ne (Or.inr (hw _ (List.mem_of_getElem? (i := 43) rfl))) (Or.inr (hw _ (List.mem_of_getElem? (i := 51) rfl))) (by decide) (t := .int) (t' := .int) (by decide) (by decide)))
    have f22_F_ob_users : Fld Z h22 ob "corematch/generate/Family" "users" "I" (.int pu) := f21_F_ob_users.other W22 (Or.inr (slot_ne (Or.inr (hw _ (List.mem_of_getElem? (i := 45) rfl))) (Or.inr (hw _ (List.mem_of_getElem? (i := 51) rfl))) (by decide) (t := .int) (t' := .int) (by decide) (by decide)))
    have f22_F_ob_separations : Fld Z h22 ob "corematch/generate/Family" "separations" "I" (.int pe) := f21_F_ob_separations.other W22 (Or.inr (slot_ne (Or.inr (hw _ (List.mem_of_getElem? (i := 47) rfl))) (Or.inr (hw _ (List.mem_of_getElem? (i := 51) rfl))) (by decide) (t := .int) (t' := .int) (by decide) (by decide)))
    have f22_F_ob_atMost : Fld Z h22 ob "corematch/generate/Family" "atMost" "I" (.int pm) := fw21.other W22 (Or.inr (slot_ne (Or.inr (hw _ (List.mem_of_getElem? (i := 49) rfl))) (Or.inr (hw _ (List.mem_of_getElem? (i := 51) rfl))) (by decide) (t := .int) (t' := .int) (by decide) (by decide)))
    have f22_K : Keep h0 h22 [ob] := f21_K.wr W22 (Or.inl (by simp))
    have f22_Z : k16 ≤ h22.size := by rw [W22.size]; exact f21_Z
    have fw22 : Fld Z h22 ob "corematch/generate/Family" "atLeast" "I" (.int pl) := f21_F_ob_atLeast.same W22
    have z22 : n0 ≤ h22.size := by rw [W22.size]; exact z21
    show own_W p e (ReturnedEndW s) below ({ frames := 2, cells := 16, slots := 440, locals := 33 } : Room).cells ({ frames := 2, cells := 16, slots := 440, locals := 33 } : Room).slots (Q1 Z ob ps pu pe pm pl h0 n0) T22 (mkF m 153 #[.val (.ref ob), .val (.int ps), .val (.int pu), .val (.int pe), .val (.int pm), .val (.int pl), .val (.long ((((pu.toInt64) + (pe.toInt64)) + (pm.toInt64)) + (pl.toInt64))), .second] [])
    refine own_retVW (s := s) (vm1 := T16.vm) X22 hS (by rw [e22]; exact f22_Z) hx hlk hret (hb hby d1_153) (by decide) (by decide) ?_
    show Q1 Z ob ps pu pe pm pl h0 n0 none T22.heap _
    rw [e22]
    exact ⟨rfl, N22, f22_K, f22_E_ob, f22_F_ob_steps, f22_F_ob_users, f22_F_ob_separations, f22_F_ob_atMost, fw22⟩
  by_cases hc37 : (0 : Int32) < pu
  · skip
    refine own_ifNo X11 hx (hb hby d1_37) ((if0 _ _).trans (tlt hc37).2.2.2) (rfl : 37 + 3 = 40) ?_
    refine own_iloadN X11 hx (hb hby d1_40) (v := ps) rfl (rfl : 40 + 1 = 41) ?_
    refine own_iconst X11 hx (hb hby d1_41) (2 : Int32) (by first | rfl | decide) (rfl : 41 + 1 = 42) ?_
    refine own_idiv X11 hx (hb hby d1_42) (by decide) (rfl : 42 + 1 = 43) ?_
    have hc43 : ¬ ((ps / (2 : Int32)) = (0 : Int32)) := own_half hs
    refine own_ifYes X11 hx (hb hby d1_43) ((if0 _ _).trans (feq hc43).2) (pc' := 61) (by decide) (by decide) ?_
    exact J61 ()   
  · skip
    refine own_ifYes X11 hx (hb hby d1_37) ((if0 _ _).trans (flt hc37).2.2.2) (pc' := 61) (by decide) (by decide) ?_
    exact J61 ()   
theorem d7_0 : decode prog_10_method_2_code 0 = .ok (.aload_n 0, 1) := by decide +kernel
theorem d7_1 : decode prog_10_method_2_code 1 = .ok (.getfield 58, 3) := by decide +kernel
theorem d7_4 : decode prog_10_method_2_code 4 = .ok (.aload_n 0, 1) := by decide +kernel
theorem d7_5 : decode prog_10_method_2_code 5 = .ok (.getfield 60, 3) := by decide +kernel
theorem d7_8 : decode prog_10_method_2_code 8 = .ok (.iadd, 1) := by decide +kernel
theorem d7_9 : decode prog_10_method_2_code 9 = .ok (.aload_n 0, 1) := by decide +kernel
theorem d7_10 : decode prog_10_method_2_code 10 = .ok (.getfield 63, 3) := by decide +kernel
theorem d7_13 : decode prog_10_method_2_code 13 = .ok (.iadd, 1) := by decide +kernel
theorem d7_14 : decode prog_10_method_2_code 14 = .ok (.aload_n 0, 1) := by decide +kernel
theorem d7_15 : decode prog_10_method_2_code 15 = .ok (.getfield 66, 3) := by decide +kernel
theorem d7_18 : decode prog_10_method_2_code 18 = .ok (.iadd, 1) := by decide +kernel
theorem d7_19 : decode prog_10_method_2_code 19 = .ok (.ireturn, 1) := by decide +kernel
theorem ef_7 (m : MethodId) (ob : Addr) : entryFrame m #[(.ref ob)] 1 = mkF m 0 #[.val (.ref ob)] [] := by first | (simp [entryFrame, mkF, argsToLocals, Value.category]; done) | rfl
def Q7 (Z : State) (ob : Addr) (uu : Int32) (ue : Int32) (um : Int32) (ul : Int32) (h0 : Heap) (n0 : Nat) (v : Option Value) (h : Heap) (L : List Loc) : Prop := v = some (.int (((uu + ue) + um) + ul)) ∧ Fr n0 L ∧ h = h0
set_option maxRecDepth 65536 in
set_option maxHeartbeats 40000000 in
theorem rm7 (l : Launch) (Z : State) (a0 : Array Value) (hw : ∀ d ∈ tables_1, d.before a0 Z = true) (ws : List Jvm.Cond) (ob : Addr) (uu : Int32) (ue : Int32) (um : Int32) (ul : Int32) (h0 : Heap) (n0 : Nat) (Z0 : n0 ≤ h0.size) (f_F_ob_users : Fld Z h0 ob "corematch/generate/Family" "users" "I" (.int uu)) (f_F_ob_separations : Fld Z h0 ob "corematch/generate/Family" "separations" "I" (.int ue)) (f_F_ob_atMost : Fld Z h0 ob "corematch/generate/Family" "atMost" "I" (.int um)) (f_F_ob_atLeast : Fld Z h0 ob "corematch/generate/Family" "atLeast" "I" (.int ul)) :
    MetFree l (⟨"corematch/generate/Family", "constraints", "()I"⟩ : MethodName) (head1 (Jvm.Cond.code (⟨"corematch/generate/Family", "constraints", "()I"⟩ : MethodName) prog_10_method_2_code 1 (some .int) :: ws) ({ frames := 0, cells := 0, slots := 0, locals := 0 } : Room)) (fun avs U => avs = #[(.ref ob)] ∧ Z.Warmed39 U.vm ∧ U.heap = h0) (fun _ _ _ _ _ => True) (fun _ U o U' => ∃ v L, o = .returned v ∧ Q7 Z ob uu ue um ul h0 n0 v U'.heap L ∧ FrameEnd U o U' L ({ frames := 0, cells := 0, slots := 0, locals := 0 } : Room).cells ({ frames := 0, cells := 0, slots := 0, locals := 0 } : Room).slots) := by
  refine MetFree.of_bodySF (plainFor_of_name own_pn_corematch_generate_Family) hisR ?_
  intro p e s m args below meth c s₁ Bd hml0 hP hK
  obtain ⟨rfl, hZ, hh⟩ := hP
  have hx := Bd.exec
  have hby := Bd.bytes
  have hml : c.maxLocals = 1 := hml0
  have hown : s.vm.findClass "corematch/generate/Family" = some m.cls := findClass_of_methodNamed Bd.named
  have hnm := (name_of_methodNamed Bd.named Bd.method).1
  have hlk := Bd.notSynchronized
  have hret := Bd.returns
  have X0 : Stand p l e ({ frames := 0, cells := 0, slots := 0, locals := 0 } : Room) s m #[(.ref ob)] below meth c s₁ [] 0 0 := Stand.of_body Bd
  have e0 : s₁.heap = h0 := by rw [← hh, Bd.state]; rfl
  have N0 := Fr.nil n0
  show own_W p e (FrameEnd s) below ({ frames := 0, cells := 0, slots := 0, locals := 0 } : Room).cells ({ frames := 0, cells := 0, slots := 0, locals := 0 } : Room).slots (Q7 Z ob uu ue um ul h0 n0) s₁ (entryFrame m #[(.ref ob)] 1)
  rw [ef_7]
  refine own_aloadN X0 hx (hb hby d7_0) (v := (.ref ob)) rfl rfl (rfl : 0 + 1 = 1) ?_
  obtain ⟨T1, X1, e1, st1⟩ := getF X0 hx hZ hown (host := "") (Or.inl (hw _ (List.mem_of_getElem? (i := 44) rfl))) Via.refl e0 f_F_ob_users (g := (mkF m 1 #[.val (.ref ob)] [(.ref ob)])) rfl rfl (hb hby d7_1)
  refine own_W.step st1 ?_
  show own_W p e (FrameEnd s) below ({ frames := 0, cells := 0, slots := 0, locals := 0 } : Room).cells ({ frames := 0, cells := 0, slots := 0, locals := 0 } : Room).slots (Q7 Z ob uu ue um ul h0 n0) T1 (mkF m 4 #[.val (.ref ob)] [(.int uu)])
  refine own_aloadN X1 hx (hb hby d7_4) (v := (.ref ob)) rfl rfl (rfl : 4 + 1 = 5) ?_
  obtain ⟨T2, X2, e2, st2⟩ := getF X1 hx hZ hown (host := "") (Or.inl (hw _ (List.mem_of_getElem? (i := 46) rfl))) Via.refl e1 f_F_ob_separations (g := (mkF m 5 #[.val (.ref ob)] [(.ref ob), (.int uu)])) rfl rfl (hb hby d7_5)
  refine own_W.step st2 ?_
  show own_W p e (FrameEnd s) below ({ frames := 0, cells := 0, slots := 0, locals := 0 } : Room).cells ({ frames := 0, cells := 0, slots := 0, locals := 0 } : Room).slots (Q7 Z ob uu ue um ul h0 n0) T2 (mkF m 8 #[.val (.ref ob)] [(.int ue), (.int uu)])
  refine own_iadd X2 hx (hb hby d7_8) (rfl : 8 + 1 = 9) ?_
  refine own_aloadN X2 hx (hb hby d7_9) (v := (.ref ob)) rfl rfl (rfl : 9 + 1 = 10) ?_
  obtain ⟨T3, X3, e3, st3⟩ := getF X2 hx hZ hown (host := "") (Or.inl (hw _ (List.mem_of_getElem? (i := 48) rfl))) Via.refl e2 f_F_ob_atMost (g := (mkF m 10 #[.val (.ref ob)] [(.ref ob), (.int (uu + ue))])) rfl rfl (hb hby d7_10)
  refine own_W.step st3 ?_
  show own_W p e (FrameEnd s) below ({ frames := 0, cells := 0, slots := 0, locals := 0 } : Room).cells ({ frames := 0, cells := 0, slots := 0, locals := 0 } : Room).slots (Q7 Z ob uu ue um ul h0 n0) T3 (mkF m 13 #[.val (.ref ob)] [(.int um), (.int (uu + ue))])
  refine own_iadd X3 hx (hb hby d7_13) (rfl : 13 + 1 = 14) ?_
  refine own_aloadN X3 hx (hb hby d7_14) (v := (.ref ob)) rfl rfl (rfl : 14 + 1 = 15) ?_
  obtain ⟨T4, X4, e4, st4⟩ := getF X3 hx hZ hown (host := "") (Or.inl (hw _ (List.mem_of_getElem? (i := 50) rfl))) Via.refl e3 f_F_ob_atLeast (g := (mkF m 15 #[.val (.ref ob)] [(.ref ob), (.int ((uu + ue) + um))])) rfl rfl (hb hby d7_15)
  refine own_W.step st4 ?_
  show own_W p e (FrameEnd s) below ({ frames := 0, cells := 0, slots := 0, locals := 0 } : Room).cells ({ frames := 0, cells := 0, slots := 0, locals := 0 } : Room).slots (Q7 Z ob uu ue um ul h0 n0) T4 (mkF m 18 #[.val (.ref ob)] [(.int ul), (.int ((uu + ue) + um))])
  refine own_iadd X4 hx (hb hby d7_18) (rfl : 18 + 1 = 19) ?_
  refine own_retI X4 hx hlk hret (hb hby d7_19) (by decide) (by decide) ?_
  show Q7 Z ob uu ue um ul h0 n0 (some (.int (((uu + ue) + um) + ul))) T4.heap _
  rw [e4]
  exact ⟨rfl, N0, rfl⟩
theorem own_pd__IIIII_V : parseMethodDescriptor "(IIIII)V" = some ⟨[.int, .int, .int, .int, .int], none⟩ := by decide +kernel
theorem own_pd___I : parseMethodDescriptor "()I" = some ⟨[], some .int⟩ := by decide +kernel
theorem own_pn_corematch_generate_FamilyConstraintsPinLaw : plainName "corematch/generate/FamilyConstraintsPinLaw" = true := by first | (simp [plainName, overriddenIn]; done) | decide +kernel
theorem ef_0 (m : MethodId) (pa : Int32) (pb : Int32) (pd : Int32) (pe : Int32) (pf : Int32) : entryFrame m #[(.int pa), (.int pb), (.int pd), (.int pe), (.int pf)] maxLocals = mkF m 0 #[.val (.int pa), .val (.int pb), .val (.int pd), .val (.int pe), .val (.int pf), .unset, .unset, .unset, .unset, .unset, .unset, .unset, .unset, .unset, .unset, .unset, .unset, .unset] [] := by first | (simp [entryFrame, mkF, argsToLocals, Value.category, maxLocals]; done) | rfl
def Q0 (Z : State) (pa : Int32) (pb : Int32) (pd : Int32) (pe : Int32) (pf : Int32)  (h0 : Heap) (n0 : Nat) (v : Option Value) (h : Heap) (L : List Loc) : Prop := v = some (.int 1) ∧ Fr n0 L
set_option maxRecDepth 65536 in
set_option maxHeartbeats 40000000 in
theorem rm0 (l : Launch) (Z : State) (a0 : Array Value) (hw : ∀ d ∈ tables_1, d.before a0 Z = true) (ws : List Jvm.Cond) (pa : Int32) (pb : Int32) (pd : Int32) (pe : Int32) (pf : Int32)  (h0 : Heap) (n0 : Nat) (Z0 : n0 ≤ h0.size)  :
    MetFree l x (head1 (Jvm.Cond.code x code maxLocals ret :: ws) room_1) (fun avs U => avs = #[(.int pa), (.int pb), (.int pd), (.int pe), (.int pf)] ∧ Z.Warmed39 U.vm ∧ U.heap = h0) (fun _ _ _ _ _ => True) (fun _ U o U' => ∃ v L, o = .returned v ∧ Q0 Z pa pb pd pe pf h0 n0 v U'.heap L ∧ ReturnedEndW U o U' L room_1.cells room_1.slots) := by
  refine MetFree.of_bodySF (plainFor_of_name own_pn_corematch_generate_FamilyConstraintsPinLaw) hisR ?_
  intro p e s m args below meth c s₁ Bd hml0 hP hK
  obtain ⟨rfl, hZ, hh⟩ := hP
  have hx := Bd.exec
  have hby := Bd.bytes
  have hml : c.maxLocals = 18 := hml0
  have hown : s.vm.findClass "corematch/generate/FamilyConstraintsPinLaw" = some m.cls := findClass_of_methodNamed Bd.named
  have hnm := (name_of_methodNamed Bd.named Bd.method).1
  have hlk := Bd.notSynchronized
  have hret := Bd.returns
  have X0 : Stand p l e room_1 s m #[(.int pa), (.int pb), (.int pd), (.int pe), (.int pf)] below meth c s₁ [] 0 0 := Stand.of_body Bd
  have e0 : s₁.heap = h0 := by rw [← hh, Bd.state]; rfl
  have N0 := Fr.nil n0
  have hS : s.Since s.vm 0 := (State.WarmedH.refl s).since 0
  have hk : 0 ≤ h0.size := Nat.zero_le _
  show own_W p e (ReturnedEndW s) below room_1.cells room_1.slots (Q0 Z pa pb pd pe pf h0 n0) s₁ (entryFrame m #[(.int pa), (.int pb), (.int pd), (.int pe), (.int pf)] maxLocals)
  rw [ef_0]
  refine own_iloadN X0 hx (hb hby at_0) (v := pa) rfl (rfl : 0 + 1 = 1) ?_
  refine own_ldcInt X0 hx hown (mvT hZ (hw _ (List.mem_of_getElem? (i := 0) rfl))) (hb hby at_1) (rfl : 1 + 2 = 3) ?_
  refine own_iand X0 hx (hb hby at_3) (rfl : 3 + 1 = 4) ?_
  refine own_ldcInt X0 hx hown (mvT hZ (hw _ (List.mem_of_getElem? (i := 1) rfl))) (hb hby at_4) (rfl : 4 + 2 = 6) ?_
  refine own_ior X0 hx (hb hby at_6) (rfl : 6 + 1 = 7) ?_
  refine own_istore X0 hx (hb hby at_7) (l' := #[.val (.int pa), .val (.int pb), .val (.int pd), .val (.int pe), .val (.int pf), .val (.int ((pa &&& (2147483647 : Int32)) ||| (131072 : Int32))), .unset, .unset, .unset, .unset, .unset, .unset, .unset, .unset, .unset, .unset, .unset, .unset]) rfl (rfl : 7 + 2 = 9) ?_
  obtain ⟨vs, hvs⟩ : ∃ z : Int32, z = ((pa &&& (2147483647 : Int32)) ||| (131072 : Int32)) := ⟨_, rfl⟩
  rw [← hvs]
  show own_W p e (ReturnedEndW s) below room_1.cells room_1.slots (Q0 Z pa pb pd pe pf h0 n0) s₁ (mkF m 9 #[.val (.int pa), .val (.int pb), .val (.int pd), .val (.int pe), .val (.int pf), .val (.int vs), .unset, .unset, .unset, .unset, .unset, .unset, .unset, .unset, .unset, .unset, .unset, .unset] [])
  have hs := own_steps pa
  rw [← hvs] at hs
  refine own_ldc2Long X0 hx hown (mvT hZ (hw _ (List.mem_of_getElem? (i := 2) rfl))) (hb hby at_9) (rfl : 9 + 3 = 12) ?_
  refine own_lstore X0 hx (hb hby at_12) (l' := #[.val (.int pa), .val (.int pb), .val (.int pd), .val (.int pe), .val (.int pf), .val (.int vs), .val (.long (2147483647 : Int64)), .second, .unset, .unset, .unset, .unset, .unset, .unset, .unset, .unset, .unset, .unset]) rfl (rfl : 12 + 2 = 14) ?_
  refine own_iloadN X0 hx (hb hby at_14) (v := pb) rfl (rfl : 14 + 1 = 15) ?_
  refine own_ldcInt X0 hx hown (mvT hZ (hw _ (List.mem_of_getElem? (i := 0) rfl))) (hb hby at_15) (rfl : 15 + 2 = 17) ?_
  refine own_iand X0 hx (hb hby at_17) (rfl : 17 + 1 = 18) ?_
  refine own_istore X0 hx (hb hby at_18) (l' := #[.val (.int pa), .val (.int pb), .val (.int pd), .val (.int pe), .val (.int pf), .val (.int vs), .val (.long (2147483647 : Int64)), .second, .val (.int (pb &&& (2147483647 : Int32))), .unset, .unset, .unset, .unset, .unset, .unset, .unset, .unset, .unset]) rfl (rfl : 18 + 2 = 20) ?_
  obtain ⟨vu, hvu⟩ : ∃ z : Int32, z = (pb &&& (2147483647 : Int32)) := ⟨_, rfl⟩
  rw [← hvu]
  show own_W p e (ReturnedEndW s) below room_1.cells room_1.slots (Q0 Z pa pb pd pe pf h0 n0) s₁ (mkF m 20 #[.val (.int pa), .val (.int pb), .val (.int pd), .val (.int pe), .val (.int pf), .val (.int vs), .val (.long (2147483647 : Int64)), .second, .val (.int vu), .unset, .unset, .unset, .unset, .unset, .unset, .unset, .unset, .unset] [])
  have q1 := own_msk pb
  rw [← hvu] at q1
  refine own_lload X0 hx (hb hby at_20) (v := (2147483647 : Int64)) rfl (rfl : 20 + 2 = 22) ?_
  refine own_iload X0 hx (hb hby at_22) (v := vu) rfl (rfl : 22 + 2 = 24) ?_
  refine own_i2l X0 hx (hb hby at_24) (rfl : 24 + 1 = 25) ?_
  refine own_lsub X0 hx (hb hby at_25) (rfl : 25 + 1 = 26) ?_
  refine own_lstore X0 hx (hb hby at_26) (l' := #[.val (.int pa), .val (.int pb), .val (.int pd), .val (.int pe), .val (.int pf), .val (.int vs), .val (.long (2147483647 : Int64)), .second, .val (.int vu), .val (.long ((2147483647 : Int64) - (vu.toInt64))), .second, .unset, .unset, .unset, .unset, .unset, .unset, .unset]) rfl (rfl : 26 + 2 = 28) ?_
  obtain ⟨r0, hr0⟩ : ∃ z : Int64, z = ((2147483647 : Int64) - (vu.toInt64)) := ⟨_, rfl⟩
  rw [← hr0]
  show own_W p e (ReturnedEndW s) below room_1.cells room_1.slots (Q0 Z pa pb pd pe pf h0 n0) s₁ (mkF m 28 #[.val (.int pa), .val (.int pb), .val (.int pd), .val (.int pe), .val (.int pf), .val (.int vs), .val (.long (2147483647 : Int64)), .second, .val (.int vu), .val (.long r0), .second, .unset, .unset, .unset, .unset, .unset, .unset, .unset] [])
  have b0 := own_rem1 vu q1.1
  rw [← hr0] at b0
  have t2 := own_take pd r0 (by omega)
  refine own_iloadN X0 hx (hb hby at_28) (v := pd) rfl (rfl : 28 + 1 = 29) ?_
  refine own_i2l X0 hx (hb hby at_29) (rfl : 29 + 1 = 30) ?_
  refine own_ldc2Long X0 hx hown (mvT hZ (hw _ (List.mem_of_getElem? (i := 2) rfl))) (hb hby at_30) (rfl : 30 + 3 = 33) ?_
  refine own_land X0 hx (hb hby at_33) (rfl : 33 + 1 = 34) ?_
  refine own_lload X0 hx (hb hby at_34) (v := r0) rfl (rfl : 34 + 2 = 36) ?_
  refine own_lconst X0 hx (hb hby at_36) (1 : Int64) (by first | rfl | decide) (rfl : 36 + 1 = 37) ?_
  refine own_ladd X0 hx (hb hby at_37) (rfl : 37 + 1 = 38) ?_
  refine own_lrem X0 hx (hb hby at_38) t2.1 (rfl : 38 + 1 = 39) ?_
  refine own_l2i X0 hx (hb hby at_39) (rfl : 39 + 1 = 40) ?_
  refine own_istore X0 hx (hb hby at_40) (l' := #[.val (.int pa), .val (.int pb), .val (.int pd), .val (.int pe), .val (.int pf), .val (.int vs), .val (.long (2147483647 : Int64)), .second, .val (.int vu), .val (.long r0), .second, .val (.int ((((pd.toInt64) &&& (2147483647 : Int64)) % (r0 + (1 : Int64))).toInt32)), .unset, .unset, .unset, .unset, .unset, .unset]) rfl (rfl : 40 + 2 = 42) ?_
  obtain ⟨ve, hve⟩ : ∃ z : Int32, z = ((((pd.toInt64) &&& (2147483647 : Int64)) % (r0 + (1 : Int64))).toInt32) := ⟨_, rfl⟩
  rw [← hve]
  show own_W p e (ReturnedEndW s) below room_1.cells room_1.slots (Q0 Z pa pb pd pe pf h0 n0) s₁ (mkF m 42 #[.val (.int pa), .val (.int pb), .val (.int pd), .val (.int pe), .val (.int pf), .val (.int vs), .val (.long (2147483647 : Int64)), .second, .val (.int vu), .val (.long r0), .second, .val (.int ve), .unset, .unset, .unset, .unset, .unset, .unset] [])
  rw [← hve] at t2
  refine own_lload X0 hx (hb hby at_42) (v := r0) rfl (rfl : 42 + 2 = 44) ?_
  refine own_iload X0 hx (hb hby at_44) (v := ve) rfl (rfl : 44 + 2 = 46) ?_
  refine own_i2l X0 hx (hb hby at_46) (rfl : 46 + 1 = 47) ?_
  refine own_lsub X0 hx (hb hby at_47) (rfl : 47 + 1 = 48) ?_
  refine own_lstore X0 hx (hb hby at_48) (l' := #[.val (.int pa), .val (.int pb), .val (.int pd), .val (.int pe), .val (.int pf), .val (.int vs), .val (.long (2147483647 : Int64)), .second, .val (.int vu), .val (.long (r0 - (ve.toInt64))), .second, .val (.int ve), .unset, .unset, .unset, .unset, .unset, .unset]) rfl (rfl : 48 + 2 = 50) ?_
  obtain ⟨r1, hr1⟩ : ∃ z : Int64, z = (r0 - (ve.toInt64)) := ⟨_, rfl⟩
  rw [← hr1]
  show own_W p e (ReturnedEndW s) below room_1.cells room_1.slots (Q0 Z pa pb pd pe pf h0 n0) s₁ (mkF m 50 #[.val (.int pa), .val (.int pb), .val (.int pd), .val (.int pe), .val (.int pf), .val (.int vs), .val (.long (2147483647 : Int64)), .second, .val (.int vu), .val (.long r1), .second, .val (.int ve), .unset, .unset, .unset, .unset, .unset, .unset] [])
  rw [← hr1] at t2
  have t3 := own_take pe r1 (by omega)
  refine own_iloadN X0 hx (hb hby at_50) (v := pe) rfl (rfl : 50 + 1 = 51) ?_
  refine own_i2l X0 hx (hb hby at_51) (rfl : 51 + 1 = 52) ?_
  refine own_ldc2Long X0 hx hown (mvT hZ (hw _ (List.mem_of_getElem? (i := 2) rfl))) (hb hby at_52) (rfl : 52 + 3 = 55) ?_
  refine own_land X0 hx (hb hby at_55) (rfl : 55 + 1 = 56) ?_
  refine own_lload X0 hx (hb hby at_56) (v := r1) rfl (rfl : 56 + 2 = 58) ?_
  refine own_lconst X0 hx (hb hby at_58) (1 : Int64) (by first | rfl | decide) (rfl : 58 + 1 = 59) ?_
  refine own_ladd X0 hx (hb hby at_59) (rfl : 59 + 1 = 60) ?_
  refine own_lrem X0 hx (hb hby at_60) t3.1 (rfl : 60 + 1 = 61) ?_
  refine own_l2i X0 hx (hb hby at_61) (rfl : 61 + 1 = 62) ?_
  refine own_istore X0 hx (hb hby at_62) (l' := #[.val (.int pa), .val (.int pb), .val (.int pd), .val (.int pe), .val (.int pf), .val (.int vs), .val (.long (2147483647 : Int64)), .second, .val (.int vu), .val (.long r1), .second, .val (.int ve), .val (.int ((((pe.toInt64) &&& (2147483647 : Int64)) % (r1 + (1 : Int64))).toInt32)), .unset, .unset, .unset, .unset, .unset]) rfl (rfl : 62 + 2 = 64) ?_
  obtain ⟨vm, hvm⟩ : ∃ z : Int32, z = ((((pe.toInt64) &&& (2147483647 : Int64)) % (r1 + (1 : Int64))).toInt32) := ⟨_, rfl⟩
  rw [← hvm]
  show own_W p e (ReturnedEndW s) below room_1.cells room_1.slots (Q0 Z pa pb pd pe pf h0 n0) s₁ (mkF m 64 #[.val (.int pa), .val (.int pb), .val (.int pd), .val (.int pe), .val (.int pf), .val (.int vs), .val (.long (2147483647 : Int64)), .second, .val (.int vu), .val (.long r1), .second, .val (.int ve), .val (.int vm), .unset, .unset, .unset, .unset, .unset] [])
  rw [← hvm] at t3
  refine own_lload X0 hx (hb hby at_64) (v := r1) rfl (rfl : 64 + 2 = 66) ?_
  refine own_iload X0 hx (hb hby at_66) (v := vm) rfl (rfl : 66 + 2 = 68) ?_
  refine own_i2l X0 hx (hb hby at_68) (rfl : 68 + 1 = 69) ?_
  refine own_lsub X0 hx (hb hby at_69) (rfl : 69 + 1 = 70) ?_
  refine own_lstore X0 hx (hb hby at_70) (l' := #[.val (.int pa), .val (.int pb), .val (.int pd), .val (.int pe), .val (.int pf), .val (.int vs), .val (.long (2147483647 : Int64)), .second, .val (.int vu), .val (.long (r1 - (vm.toInt64))), .second, .val (.int ve), .val (.int vm), .unset, .unset, .unset, .unset, .unset]) rfl (rfl : 70 + 2 = 72) ?_
  obtain ⟨r2, hr2⟩ : ∃ z : Int64, z = (r1 - (vm.toInt64)) := ⟨_, rfl⟩
  rw [← hr2]
  show own_W p e (ReturnedEndW s) below room_1.cells room_1.slots (Q0 Z pa pb pd pe pf h0 n0) s₁ (mkF m 72 #[.val (.int pa), .val (.int pb), .val (.int pd), .val (.int pe), .val (.int pf), .val (.int vs), .val (.long (2147483647 : Int64)), .second, .val (.int vu), .val (.long r2), .second, .val (.int ve), .val (.int vm), .unset, .unset, .unset, .unset, .unset] [])
  rw [← hr2] at t3
  have t4 := own_take pf r2 (by omega)
  refine own_iload X0 hx (hb hby at_72) (v := pf) rfl (rfl : 72 + 2 = 74) ?_
  refine own_i2l X0 hx (hb hby at_74) (rfl : 74 + 1 = 75) ?_
  refine own_ldc2Long X0 hx hown (mvT hZ (hw _ (List.mem_of_getElem? (i := 2) rfl))) (hb hby at_75) (rfl : 75 + 3 = 78) ?_
  refine own_land X0 hx (hb hby at_78) (rfl : 78 + 1 = 79) ?_
  refine own_lload X0 hx (hb hby at_79) (v := r2) rfl (rfl : 79 + 2 = 81) ?_
  refine own_lconst X0 hx (hb hby at_81) (1 : Int64) (by first | rfl | decide) (rfl : 81 + 1 = 82) ?_
  refine own_ladd X0 hx (hb hby at_82) (rfl : 82 + 1 = 83) ?_
  refine own_lrem X0 hx (hb hby at_83) t4.1 (rfl : 83 + 1 = 84) ?_
  refine own_l2i X0 hx (hb hby at_84) (rfl : 84 + 1 = 85) ?_
  refine own_istore X0 hx (hb hby at_85) (l' := #[.val (.int pa), .val (.int pb), .val (.int pd), .val (.int pe), .val (.int pf), .val (.int vs), .val (.long (2147483647 : Int64)), .second, .val (.int vu), .val (.long r2), .second, .val (.int ve), .val (.int vm), .val (.int ((((pf.toInt64) &&& (2147483647 : Int64)) % (r2 + (1 : Int64))).toInt32)), .unset, .unset, .unset, .unset]) rfl (rfl : 85 + 2 = 87) ?_
  obtain ⟨vl, hvl⟩ : ∃ z : Int32, z = ((((pf.toInt64) &&& (2147483647 : Int64)) % (r2 + (1 : Int64))).toInt32) := ⟨_, rfl⟩
  rw [← hvl]
  show own_W p e (ReturnedEndW s) below room_1.cells room_1.slots (Q0 Z pa pb pd pe pf h0 n0) s₁ (mkF m 87 #[.val (.int pa), .val (.int pb), .val (.int pd), .val (.int pe), .val (.int pf), .val (.int vs), .val (.long (2147483647 : Int64)), .second, .val (.int vu), .val (.long r2), .second, .val (.int ve), .val (.int vm), .val (.int vl), .unset, .unset, .unset, .unset] [])
  rw [← hvl] at t4
  have hsum : vu.toInt + ve.toInt + vm.toInt + vl.toInt ≤ 2147483647 := by omega
  obtain ⟨T1, h1, X1, e1, E1, A1, D1, -, st1⟩ := newO X0 hx hZ hown (hw _ (List.mem_of_getElem? (i := 3) rfl)) (hw _ (List.mem_of_getElem? (i := 4) rfl)) (hw _ (List.mem_of_getElem? (i := 5) rfl)) e0 (g := (mkF m 87 #[.val (.int pa), .val (.int pb), .val (.int pd), .val (.int pe), .val (.int pf), .val (.int vs), .val (.long (2147483647 : Int64)), .second, .val (.int vu), .val (.long r2), .second, .val (.int ve), .val (.int vm), .val (.int vl), .unset, .unset, .unset, .unset] [])) rfl (hb hby at_87) (by decide) (by decide)
  obtain ⟨ob, g1⟩ : ∃ z, z = h0.size := ⟨_, rfl⟩
  rw [← g1] at A1 D1 st1
  refine own_W.step st1 ?_
  have g_ob : n0 ≤ ob := Nat.le_trans Z0 (Nat.le_of_eq g1.symm)
  have f1_Z : 0 ≤ h1.size := Nat.le_trans hk E1.1
  have z1 : n0 ≤ h1.size := Nat.le_trans Z0 E1.1
  have F1_steps : Fld Z h1 ob "corematch/generate/Family" "steps" "I" (.int (0 : Int32)) := D1 (Or.inr (hw _ (List.mem_of_getElem? (i := 43) rfl))) (ty := .int) (by decide)
  have F1_users : Fld Z h1 ob "corematch/generate/Family" "users" "I" (.int (0 : Int32)) := D1 (Or.inr (hw _ (List.mem_of_getElem? (i := 45) rfl))) (ty := .int) (by decide)
  have F1_separations : Fld Z h1 ob "corematch/generate/Family" "separations" "I" (.int (0 : Int32)) := D1 (Or.inr (hw _ (List.mem_of_getElem? (i := 47) rfl))) (ty := .int) (by decide)
  have F1_atMost : Fld Z h1 ob "corematch/generate/Family" "atMost" "I" (.int (0 : Int32)) := D1 (Or.inr (hw _ (List.mem_of_getElem? (i := 49) rfl))) (ty := .int) (by decide)
  have F1_atLeast : Fld Z h1 ob "corematch/generate/Family" "atLeast" "I" (.int (0 : Int32)) := D1 (Or.inr (hw _ (List.mem_of_getElem? (i := 51) rfl))) (ty := .int) (by decide)
  show own_W p e (ReturnedEndW s) below room_1.cells room_1.slots (Q0 Z pa pb pd pe pf h0 n0) T1 (mkF m 90 #[.val (.int pa), .val (.int pb), .val (.int pd), .val (.int pe), .val (.int pf), .val (.int vs), .val (.long (2147483647 : Int64)), .second, .val (.int vu), .val (.long r2), .second, .val (.int ve), .val (.int vm), .val (.int vl), .unset, .unset, .unset, .unset] [(.ref ob)])
  refine own_dup X1 hx (hb hby at_90) rfl (rfl : 90 + 1 = 91) ?_
  refine own_iload X1 hx (hb hby at_91) (v := vs) rfl (rfl : 91 + 2 = 93) ?_
  refine own_iload X1 hx (hb hby at_93) (v := vu) rfl (rfl : 93 + 2 = 95) ?_
  refine own_iload X1 hx (hb hby at_95) (v := ve) rfl (rfl : 95 + 2 = 97) ?_
  refine own_iload X1 hx (hb hby at_97) (v := vm) rfl (rfl : 97 + 2 = 99) ?_
  refine own_iload X1 hx (hb hby at_99) (v := vl) rfl (rfl : 99 + 2 = 101) ?_
  obtain ⟨_, _, ⟨T2, L2, k2, n2⟩, -, X2, hS, -, ⟨Lc2, hQ2, l2, y2, z2⟩, st2⟩ := X1.specialBackS hx (y := (⟨"corematch/generate/Family", "<init>", "(IIIII)V"⟩ : MethodName)) rfl hown (mvT hZ (hw _ (List.mem_of_getElem? (i := 6) rfl))) (mvT hZ (hw _ (List.mem_of_getElem? (i := 7) rfl))) (mvT hZ (hw _ (List.mem_of_getElem? (i := 8) rfl))) (by decide) (backOfS (W := 1) (rm1 l Z a0 hw [] ob vs vu ve vm vl  h1 n0 z1 A1 F1_steps F1_users F1_separations F1_atMost F1_atLeast g_ob (hs) (q1.1) (t2.2.1) (t3.2.1) (t4.2.1) (hsum)) hZ (hw _ (List.mem_of_getElem? (i := 8) rfl)) (hw _ (List.mem_of_getElem? (i := 5) rfl)) (by decide) (by decide)) (g := (mkF m 101 #[.val (.int pa), .val (.int pb), .val (.int pd), .val (.int pe), .val (.int pf), .val (.int vs), .val (.long (2147483647 : Int64)), .second, .val (.int vu), .val (.long r2), .second, .val (.int ve), .val (.int vm), .val (.int vl), .unset, .unset, .unset, .unset] [(.int vl), (.int vm), (.int ve), (.int vu), (.int vs), (.ref ob), (.ref ob)])) rfl (by rw [hml]; rfl) (Steps.refl _) (a := ob) (argsL := [(.int vs), (.int vu), (.int ve), (.int vm), (.int vl)]) (rest := [(.ref ob)]) (lenOf own_pd__IIIII_V rfl) rfl (by show 2 * 0 + _ ≤ _; exact Nat.le_of_eq rfl) (hb hby at_101) (fun _ _ => ⟨rfl, e1, (by decide : 1 + 16 ≤ _), (by decide : 5 + 440 ≤ _)⟩)
  dsimp only [Pt.U, Pt.locs, Pt.cells, Pt.slots] at X2 l2 y2 z2 st2 hQ2 hS
  subst l2 y2 z2
  have hZ : Z.Warmed39 (s.setVm T2.vm).vm := State.Warmed39.trans (t := s) hZ hS.1
  have hown : (s.setVm T2.vm).vm.findClass "corematch/generate/FamilyConstraintsPinLaw" = some m.cls := by rw [show (s.setVm T2.vm).vm = T2.vm from rfl, hS.1.alike.findClass]; exact hown
  obtain ⟨rfl, N2q, K2, fq2_0, fq2_1, fq2_2, fq2_3, fq2_4, fq2_5⟩ := hQ2
  have N2 := Fr.app N0 N2q
  have f2_E_ob : Exa Z T2.heap ob "corematch/generate/Family" := A1.keep K2
  have z2c : n0 ≤ T2.heap.size := Nat.le_trans z1 K2.1
  have hk2 : T2.heap.size ≤ T2.heap.size := Nat.le_refl _
  refine own_W.steps st2 ?_
  show own_W p e (ReturnedEndW s) below room_1.cells room_1.slots (Q0 Z pa pb pd pe pf h0 n0) T2 (mkF m 104 #[.val (.int pa), .val (.int pb), .val (.int pd), .val (.int pe), .val (.int pf), .val (.int vs), .val (.long (2147483647 : Int64)), .second, .val (.int vu), .val (.long r2), .second, .val (.int ve), .val (.int vm), .val (.int vl), .unset, .unset, .unset, .unset] [(.ref ob)])
  refine own_astore X2 hx (hb hby at_104) (l' := #[.val (.int pa), .val (.int pb), .val (.int pd), .val (.int pe), .val (.int pf), .val (.int vs), .val (.long (2147483647 : Int64)), .second, .val (.int vu), .val (.long r2), .second, .val (.int ve), .val (.int vm), .val (.int vl), .val (.ref ob), .unset, .unset, .unset]) rfl rfl (rfl : 104 + 2 = 106) ?_
  refine own_iload X2 hx (hb hby at_106) (v := vu) rfl (rfl : 106 + 2 = 108) ?_
  refine own_i2l X2 hx (hb hby at_108) (rfl : 108 + 1 = 109) ?_
  refine own_iload X2 hx (hb hby at_109) (v := ve) rfl (rfl : 109 + 2 = 111) ?_
  refine own_i2l X2 hx (hb hby at_111) (rfl : 111 + 1 = 112) ?_
  refine own_ladd X2 hx (hb hby at_112) (rfl : 112 + 1 = 113) ?_
  refine own_iload X2 hx (hb hby at_113) (v := vm) rfl (rfl : 113 + 2 = 115) ?_
  refine own_i2l X2 hx (hb hby at_115) (rfl : 115 + 1 = 116) ?_
  refine own_ladd X2 hx (hb hby at_116) (rfl : 116 + 1 = 117) ?_
  refine own_iload X2 hx (hb hby at_117) (v := vl) rfl (rfl : 117 + 2 = 119) ?_
  refine own_i2l X2 hx (hb hby at_119) (rfl : 119 + 1 = 120) ?_
  refine own_ladd X2 hx (hb hby at_120) (rfl : 120 + 1 = 121) ?_
  refine own_lstore X2 hx (hb hby at_121) (l' := #[.val (.int pa), .val (.int pb), .val (.int pd), .val (.int pe), .val (.int pf), .val (.int vs), .val (.long (2147483647 : Int64)), .second, .val (.int vu), .val (.long r2), .second, .val (.int ve), .val (.int vm), .val (.int vl), .val (.ref ob), .val (.long ((((vu.toInt64) + (ve.toInt64)) + (vm.toInt64)) + (vl.toInt64))), .second, .unset]) rfl (rfl : 121 + 2 = 123) ?_
  refine own_aload X2 hx (hb hby at_123) (v := (.ref ob)) rfl rfl (rfl : 123 + 2 = 125) ?_
  obtain ⟨cq3, kq3, q3a, q3b, q3c⟩ := isOf hZ rfl fq2_0
  obtain ⟨_, _, ⟨T3, L3, k3, n3⟩, -, X3, ⟨Lc3, hQ3, l3, y3, z3⟩, st3⟩ := X2.virtualBack hx (y := (⟨"corematch/generate/Family", "constraints", "()I"⟩ : MethodName)) (z := (⟨"corematch/generate/Family", "constraints", "()I"⟩ : MethodName)) hown (mvT hZ (hw _ (List.mem_of_getElem? (i := 52) rfl))) (mvT hZ (hw _ (List.mem_of_getElem? (i := 53) rfl))) (notFace_of_selects (args := #[]) (mvT hZ (hw _ (List.mem_of_getElem? (i := 55) rfl)))) (mvT hZ (hw _ (List.mem_of_getElem? (i := 55) rfl))) (mvT hZ (hw _ (List.mem_of_getElem? (i := 54) rfl))) (by decide) (backOf (W := 0) (rm7 l Z a0 hw [] ob vu ve vm vl T2.heap n0 z2c fq2_2 fq2_3 fq2_4 fq2_5) hZ (hw _ (List.mem_of_getElem? (i := 56) rfl)) (hw _ (List.mem_of_getElem? (i := 5) rfl)) (by decide) (by decide)) q3a q3c (g := (mkF m 125 #[.val (.int pa), .val (.int pb), .val (.int pd), .val (.int pe), .val (.int pf), .val (.int vs), .val (.long (2147483647 : Int64)), .second, .val (.int vu), .val (.long r2), .second, .val (.int ve), .val (.int vm), .val (.int vl), .val (.ref ob), .val (.long ((((vu.toInt64) + (ve.toInt64)) + (vm.toInt64)) + (vl.toInt64))), .second, .unset] [(.ref ob)])) rfl (by rw [hml]; rfl) (Steps.refl _) (argsL := []) (rest := []) (lenOf own_pd___I rfl) rfl (by show 2 * 0 + _ ≤ _; exact Nat.le_of_eq rfl) (hb hby at_125) (fun _ _ => ⟨rfl, rfl, (by decide : 17 + 0 ≤ _), (by decide : 445 + 0 ≤ _)⟩)
  dsimp only [Pt.U, Pt.locs, Pt.cells, Pt.slots] at X3 l3 y3 z3 st3 hQ3
  subst l3 y3 z3
  obtain ⟨rfl, N3q, e3⟩ := hQ3
  have N3 := Fr.app N2 N3q
  refine own_W.steps st3 ?_
  show own_W p e (ReturnedEndW s) below room_1.cells room_1.slots (Q0 Z pa pb pd pe pf h0 n0) T3 (mkF m 128 #[.val (.int pa), .val (.int pb), .val (.int pd), .val (.int pe), .val (.int pf), .val (.int vs), .val (.long (2147483647 : Int64)), .second, .val (.int vu), .val (.long r2), .second, .val (.int ve), .val (.int vm), .val (.int vl), .val (.ref ob), .val (.long ((((vu.toInt64) + (ve.toInt64)) + (vm.toInt64)) + (vl.toInt64))), .second, .unset] [(.int (((vu + ve) + vm) + vl))])
  refine own_istore X3 hx (hb hby at_128) (l' := #[.val (.int pa), .val (.int pb), .val (.int pd), .val (.int pe), .val (.int pf), .val (.int vs), .val (.long (2147483647 : Int64)), .second, .val (.int vu), .val (.long r2), .second, .val (.int ve), .val (.int vm), .val (.int vl), .val (.ref ob), .val (.long ((((vu.toInt64) + (ve.toInt64)) + (vm.toInt64)) + (vl.toInt64))), .second, .val (.int (((vu + ve) + vm) + vl))]) rfl (rfl : 128 + 2 = 130) ?_
  obtain ⟨vg, hvg⟩ : ∃ z : Int32, z = (((vu + ve) + vm) + vl) := ⟨_, rfl⟩
  rw [← hvg]
  show own_W p e (ReturnedEndW s) below room_1.cells room_1.slots (Q0 Z pa pb pd pe pf h0 n0) T3 (mkF m 130 #[.val (.int pa), .val (.int pb), .val (.int pd), .val (.int pe), .val (.int pf), .val (.int vs), .val (.long (2147483647 : Int64)), .second, .val (.int vu), .val (.long r2), .second, .val (.int ve), .val (.int vm), .val (.int vl), .val (.ref ob), .val (.long ((((vu.toInt64) + (ve.toInt64)) + (vm.toInt64)) + (vl.toInt64))), .second, .val (.int vg)] [])
  have hg := own_sumI q1.1 t2.2.1 t3.2.1 t4.2.1 hsum
  rw [← hvg] at hg
  refine own_iload X3 hx (hb hby at_130) (v := vg) rfl (rfl : 130 + 2 = 132) ?_
  have hc132 : ¬ (vg < (0 : Int32)) := own_nn (by omega)
  refine own_ifNo X3 hx (hb hby at_132) ((if0 _ _).trans (flt hc132).1) (rfl : 132 + 3 = 135) ?_
  refine own_iload X3 hx (hb hby at_135) (v := vg) rfl (rfl : 135 + 2 = 137) ?_
  refine own_i2l X3 hx (hb hby at_137) (rfl : 137 + 1 = 138) ?_
  refine own_lload X3 hx (hb hby at_138) (v := ((((vu.toInt64) + (ve.toInt64)) + (vm.toInt64)) + (vl.toInt64))) rfl (rfl : 138 + 2 = 140) ?_
  refine own_lcmp X3 hx (hb hby at_140) (rfl : 140 + 1 = 141) ?_
  have hc141 : (vg.toInt64) = ((((vu.toInt64) + (ve.toInt64)) + (vm.toInt64)) + (vl.toInt64)) := Int64.toInt_inj.mp (by rw [c_i2l, hg]; exact (own_sumL q1.1 t2.2.1 t3.2.1 t4.2.1 hsum).symm)
  refine own_ifNo X3 hx (hb hby at_141) (XT.ll_ne_f hc141) (rfl : 141 + 3 = 144) ?_
  refine own_iconst X3 hx (hb hby at_144) (1 : Int32) (by first | rfl | decide) (rfl : 144 + 1 = 145) ?_
  refine own_goto X3 hx (hb hby at_145) (pc' := 149) (by decide) (by decide) ?_
  refine own_retNW (s := s) (vm1 := T2.vm) (t := .boolean) X3 hS (by rw [e3]; exact hk2) hx hlk hret (by simp) (hb hby at_149) (z' := (1 : Int32)) (by decide) (by decide) (by decide) ?_
  show Q0 Z pa pb pd pe pf h0 n0 (some (.int (1 : Int32))) T3.heap _
  rw [e3]
  exact ⟨rfl, N3⟩
set_option maxRecDepth 65536 in
set_option maxHeartbeats 40000000 in
theorem comes_1 {Post : Tables → Env → Array Value → State → Outcome → State → Prop} (hpost : ∀ tb e args s v u, (limb_1_1.after args s (.returned v) u = true ∧ limb_1_2.after args s (.returned v) u = true ∧ True) → ReturnedEndW s (.returned v) u (Jvm.fieldLocs frame_1_writes args s ++ Jvm.arrayLocs frame_1_arrays args s ++ Jvm.staticLocs frame_1_statics s) 32 8320 → Post tb e args s (.returned v) u) :
    ArmFor flags0 classFile x code maxLocals ret World_1 tables_1 room_1 Calls_1 rest_1 Pre_1 Post := by
  intro l hfl _ _ p e ha hc hk s m args below hf hA hF happ hP
  obtain ⟨hcalls, hrest, hpre⟩ := hP
  obtain ⟨-, -, -, hnamed, -, -, -, hat⟩ := (Spec.applies_iff hf).mp happ
  obtain ⟨hg, hn⟩ := and_e (Cond.before_iff.mp (show (Jvm.Cond.and given_1 narrow_1).before args s = true from hpre))
  obtain ⟨hg0, hr0⟩ := and_e hg
  obtain ⟨hg1, hr1⟩ := and_e hr0
  obtain ⟨hg2, hr2⟩ := and_e hr1
  obtain ⟨hg3, hr3⟩ := and_e hr2
  obtain ⟨hg4, hr4⟩ := and_e hr3
  obtain ⟨w0, w1, w2, w3, w4, rfl⟩ : ∃ w0 w1 w2 w3 w4 : Value, args = #[w0, w1, w2, w3, w4] := by
    have hs : args.size = 5 := by simpa [Cond.value, given_1] using hg0
    obtain ⟨L⟩ := args
    match L, hs with
    | [w0, w1, w2, w3, w4], _ => exact ⟨w0, w1, w2, w3, w4, rfl⟩
  have hw := fun d (hd : d ∈ tables_1) => atoms_spec (ws := Jvm.Cond.code x code maxLocals ret :: tables_1) hat d (List.mem_cons_of_mem _ hd)
  obtain ⟨i0, ei0⟩ := is_v hg1
  obtain rfl : w0 = (.int i0) := Option.some.inj ei0
  obtain ⟨i1, ei1⟩ := is_v hg2
  obtain rfl : w1 = (.int i1) := Option.some.inj ei1
  obtain ⟨i2, ei2⟩ := is_v hg3
  obtain rfl : w2 = (.int i2) := Option.some.inj ei2
  obtain ⟨i3, ei3⟩ := is_v hg4
  obtain rfl : w3 = (.int i3) := Option.some.inj ei3
  obtain ⟨i4, ei4⟩ := is_v hr4
  obtain rfl : w4 = (.int i4) := Option.some.inj ei4
  obtain ⟨n, o, h1, h2, h3, _, L, rfl, ⟨rfl, N⟩, hq⟩ := rm0 l s _ hw tables_1 i0 i1 i2 i3 i4 s.heap s.heap.size (Nat.le_refl _) p e ha hc hk s m _ below hf ((Spec.applies_iff_loose hf).mp happ).1 ⟨rfl, State.Warmed39.refl s, rfl⟩ trivial
  refine ⟨n, _, h1, h2, h3, hpost _ _ _ _ _ _ ⟨Cond.after_iff.mpr rfl, Cond.after_iff.mpr (eq_i res_at (Term.int_eval (1)) rfl), trivial⟩ ⟨hq.1, hq.2.1, hq.2.2.1, (hq.2.2.2.sift fun y hy => Or.inr (N y hy)).mono (by decide) (by decide)⟩⟩
theorem main_1_1 : Claimed_1_1 := comes_1 fun _ _ _ _ _ _ h hF => ⟨h.1, hF⟩
theorem main_1_2 : Claimed_1_2 := comes_1 fun _ _ _ _ _ _ h hF => ⟨h.2.1, hF⟩
end Jvm.Pilot.@@N@@
namespace Jvm.Pilot.@@N@@
open Jvm Jvm.ClassFile Sem Op Lib Jvm.Free Jvm.Stand Jvm.Pilot.@@N@@.Jvm.D
/-! MADE BY PROGRAM (witnessworld.py) out of the Statement's table words and the real class files: 15 classes; the members and pool entries that the words name. The judged class is class 1, her method 1. -/
namespace start1
open Jvm.ClassFile
def u (s : String) : CpInfo := .utf8 (stringToUtf16 s)
/-- a pool by its gaps: so many unusable entries, then the entry; so many at the end -/
def gap : Nat → List CpInfo → List CpInfo
  | 0, r => r
  | n + 1, r => .unusable :: gap n r
def poolList (es : List (Nat × CpInfo)) (last : Nat) : List CpInfo := es.foldr (fun e r => gap e.1 (e.2 :: r)) (gap last [])
def pool (es : List (Nat × CpInfo)) (last : Nat) : Array CpInfo := ⟨poolList es last⟩
def fileOf (pool : Array CpInfo) (this : Nat) (attrs : Array Attribute := #[]) (ms : Array MethodInfo := #[]) (fl : Nat := 33) (sup : Nat := 0) (ifs : Array Nat := #[]) (fds : Array FieldInfo := #[]) : ClassFile where
  minorVersion := 0
  majorVersion := 65
  constantPool := pool
  accessFlags := fl
  thisClass := this
  superClass := sup
  interfaces := ifs
  fields := fds
  methods := ms
  attributes := attrs
def plain (name : String) (sup : Option ClassId) : Class where
  name := name
  kind := .ordinary
  loader := none
  accessFlags := 33
  super := sup
  interfaces := #[]
  cf := none
  fields := #[]
  methods := #[]
  instanceTypes := #[]
  staticTypes := #[]
  resolved := #[]
  callSites := []
  init := .initialized
  statics := none
  mirror := none

def pool0 : Array CpInfo := pool [(5, u "<init>"), (0, u "()V"), (1, .class_ 10), (1, u "java/lang/Object")] 113

def k0c0 : Code := { maxStack := 0, maxLocals := 1, code := object_method_1_code, exceptionTable := #[], attributes := #[] }
def k0m0 : Method := { name := "<init>", desc := "()V", sig := { parameters := [], returnType := none }, accessFlags := 1, code := some k0c0 }
/-- java/lang/Object -/
def k0 : Class := { plain "java/lang/Object" none with
  accessFlags := 33
  interfaces := #[]
  cf := some (fileOf pool0 8 #[] #[{ accessFlags := 1, nameIndex := 5, descriptorIndex := 6, attributes := #[] }] 33 0 #[] #[])
  fields := #[]
  methods := #[k0m0]
  instanceTypes := #[]
  staticTypes := #[]
  resolved := Array.replicate 124 none
  statics := none }

def pool1 : Array CpInfo := pool [(2, .class_ 4), (1, u "java/lang/Object"), (0, u "<init>"), (0, u "()V"), (0, .integer 2147483647), (0, .integer 131072), (2, .long 2147483647), (1, .class_ 14), (0, u "corematch/generate/Family"), (0, .methodref 13 16), (0, .nameAndType 5 17), (0, u "(IIIII)V"), (0, .methodref 13 19), (0, .nameAndType 20 21), (0, u "constraints"), (0, u "()I"), (0, .class_ 23), (0, u "corematch/generate/FamilyConstraintsPinLaw"), (2, u "law"), (0, u "(IIIII)Z")] 3

def k1m0 : Method := { name := "<init>", desc := "()V", sig := { parameters := [], returnType := none }, accessFlags := 1, code := none }
def k1c1 : Code := { maxStack := 7, maxLocals := 18, code := code, exceptionTable := #[], attributes := #[] }
def k1m1 : Method := { name := "law", desc := "(IIIII)Z", sig := { parameters := [.int, .int, .int, .int, .int], returnType := some .boolean }, accessFlags := 9, code := some k1c1 }
/-- corematch/generate/FamilyConstraintsPinLaw -/
def k1 : Class := { plain "corematch/generate/FamilyConstraintsPinLaw" (some 0) with
  accessFlags := 49
  interfaces := #[]
  cf := some (fileOf pool1 22 #[] #[{ accessFlags := 1, nameIndex := 5, descriptorIndex := 6, attributes := #[] }, { accessFlags := 9, nameIndex := 26, descriptorIndex := 27, attributes := #[] }] 49 2 #[] #[])
  fields := #[]
  methods := #[k1m0, k1m1]
  instanceTypes := #[]
  staticTypes := #[]
  resolved := Array.replicate 31 none
  statics := none }

def pool2 : Array CpInfo := pool [(1, .methodref 2 3), (0, .class_ 4), (0, .nameAndType 5 6), (0, u "java/lang/Object"), (0, u "<init>"), (0, u "()V"), (0, .class_ 8), (0, u "java/lang/Record")] 13

def k2c0 : Code := { maxStack := 1, maxLocals := 1, code := jdk_30_method_1_code, exceptionTable := #[], attributes := #[] }
def k2m0 : Method := { name := "<init>", desc := "()V", sig := { parameters := [], returnType := none }, accessFlags := 4, code := some k2c0 }
/-- java/lang/Record -/
def k2 : Class := { plain "java/lang/Record" (some 0) with
  accessFlags := 1057
  interfaces := #[]
  cf := some (fileOf pool2 7 #[] #[{ accessFlags := 4, nameIndex := 5, descriptorIndex := 6, attributes := #[] }] 1057 2 #[] #[])
  fields := #[]
  methods := #[k2m0]
  instanceTypes := #[]
  staticTypes := #[]
  resolved := Array.replicate 22 none
  statics := none }

def pool3 : Array CpInfo := pool [(1, .methodref 2 3), (0, .class_ 4), (0, .nameAndType 5 6), (0, u "java/lang/Record"), (0, u "<init>"), (0, u "()V"), (0, .string 8), (0, u "steps"), (0, .methodref 10 11), (0, .class_ 12), (0, .nameAndType 13 14), (0, u "corematch/generate/Family"), (0, u "requireNotNegative"), (0, u "(ILjava/lang/String;)V"), (0, .string 16), (0, u "users"), (0, .string 18), (0, u "Separation-of-duty lines"), (0, .string 20), (0, u "At-most-k lines"), (0, .string 22), (0, u "At-least-k lines"), (11, .string 35), (0, u "Separation-of-duty"), (0, .methodref 10 37), (0, .nameAndType 38 39), (0, u "requireSets"), (0, u "(ILjava/lang/String;II)V"), (2, .string 43), (0, u "At-most-k"), (2, .string 47), (0, u "At-least-k"), (2, .long 2147483647), (4, .fieldref 10 56), (0, .nameAndType 8 57), (0, u "I"), (0, .fieldref 10 59), (0, .nameAndType 16 57), (0, .fieldref 10 61), (0, .nameAndType 62 57), (0, u "separations"), (0, .fieldref 10 64), (0, .nameAndType 65 57), (0, u "atMost"), (0, .fieldref 10 67), (0, .nameAndType 68 57), (0, u "atLeast"), (5, .class_ 75), (0, u "corematch/generate/Family$StepSource"), (38, u "()I"), (33, .methodref 10 149), (0, .nameAndType 150 151), (0, u "sets"), (0, u "(II)J"), (15, u "BOUND"), (2, u "SPAN"), (1, u "(IIIII)V"), (4, u "constraints")] 46

def k3c0 : Code := { maxStack := 4, maxLocals := 8, code := prog_10_method_1_code, exceptionTable := #[], attributes := #[] }
def k3m0 : Method := { name := "<init>", desc := "(IIIII)V", sig := { parameters := [.int, .int, .int, .int, .int], returnType := none }, accessFlags := 1, code := some k3c0 }
def k3c1 : Code := { maxStack := 2, maxLocals := 1, code := prog_10_method_2_code, exceptionTable := #[], attributes := #[] }
def k3m1 : Method := { name := "constraints", desc := "()I", sig := { parameters := [], returnType := some .int }, accessFlags := 1, code := some k3c1 }
def k3c2 : Code := { maxStack := 4, maxLocals := 2, code := prog_10_method_4_code, exceptionTable := #[], attributes := #[] }
def k3m2 : Method := { name := "requireNotNegative", desc := "(ILjava/lang/String;)V", sig := { parameters := [.int, (.object "java/lang/String")], returnType := none }, accessFlags := 10, code := some k3c2 }
def k3c3 : Code := { maxStack := 8, maxLocals := 6, code := prog_10_method_5_code, exceptionTable := #[], attributes := #[] }
def k3m3 : Method := { name := "requireSets", desc := "(ILjava/lang/String;II)V", sig := { parameters := [.int, (.object "java/lang/String"), .int, .int], returnType := none }, accessFlags := 10, code := some k3c3 }
def k3c4 : Code := { maxStack := 4, maxLocals := 5, code := prog_10_method_6_code, exceptionTable := #[], attributes := #[] }
def k3m4 : Method := { name := "sets", desc := "(II)J", sig := { parameters := [.int, .int], returnType := some .long }, accessFlags := 10, code := some k3c4 }
/-- corematch/generate/Family -/
def k3 : Class := { plain "corematch/generate/Family" (some 2) with
  accessFlags := 49
  interfaces := #[]
  cf := some (fileOf pool3 10 #[.nestMembers #[74]] #[{ accessFlags := 1, nameIndex := 5, descriptorIndex := 172, attributes := #[] }, { accessFlags := 1, nameIndex := 177, descriptorIndex := 114, attributes := #[] }, { accessFlags := 10, nameIndex := 13, descriptorIndex := 14, attributes := #[] }, { accessFlags := 10, nameIndex := 38, descriptorIndex := 39, attributes := #[] }, { accessFlags := 10, nameIndex := 150, descriptorIndex := 151, attributes := #[] }] 49 2 #[] #[{ accessFlags := 18, nameIndex := 8, descriptorIndex := 57, attributes := #[] }, { accessFlags := 18, nameIndex := 16, descriptorIndex := 57, attributes := #[] }, { accessFlags := 18, nameIndex := 62, descriptorIndex := 57, attributes := #[] }, { accessFlags := 18, nameIndex := 65, descriptorIndex := 57, attributes := #[] }, { accessFlags := 18, nameIndex := 68, descriptorIndex := 57, attributes := #[] }, { accessFlags := 25, nameIndex := 167, descriptorIndex := 57, attributes := #[] }, { accessFlags := 25, nameIndex := 170, descriptorIndex := 57, attributes := #[] }])
  fields := #[{ name := "steps", type := .int, accessFlags := 18, slot := 0, constantValue := 0 }, { name := "users", type := .int, accessFlags := 18, slot := 1, constantValue := 0 }, { name := "separations", type := .int, accessFlags := 18, slot := 2, constantValue := 0 }, { name := "atMost", type := .int, accessFlags := 18, slot := 3, constantValue := 0 }, { name := "atLeast", type := .int, accessFlags := 18, slot := 4, constantValue := 0 }, { name := "BOUND", type := .int, accessFlags := 25, slot := 0, constantValue := 0 }, { name := "SPAN", type := .int, accessFlags := 25, slot := 1, constantValue := 0 }]
  methods := #[k3m0, k3m1, k3m2, k3m3, k3m4]
  instanceTypes := #[.int, .int, .int, .int, .int]
  staticTypes := #[.int, .int]
  resolved := Array.replicate 224 none
  statics := none }

def pool4 : Array CpInfo := pool [(1, .class_ 2), (0, u "java/io/Serializable"), (0, .class_ 4), (0, u "java/lang/Object")] 2

/-- java/io/Serializable -/
def k4 : Class := { plain "java/io/Serializable" (some 0) with
  accessFlags := 1537
  interfaces := #[]
  cf := some (fileOf pool4 1 #[] #[] 1537 3 #[] #[])
  fields := #[]
  methods := #[]
  instanceTypes := #[]
  staticTypes := #[]
  resolved := Array.replicate 7 none
  statics := none }

def pool5 : Array CpInfo := pool [(1, .class_ 2), (0, u "java/lang/Comparable"), (0, .class_ 4), (0, u "java/lang/Object")] 7

/-- java/lang/Comparable -/
def k5 : Class := { plain "java/lang/Comparable" (some 0) with
  accessFlags := 1537
  interfaces := #[]
  cf := some (fileOf pool5 1 #[] #[] 1537 3 #[] #[])
  fields := #[]
  methods := #[]
  instanceTypes := #[]
  staticTypes := #[]
  resolved := Array.replicate 12 none
  statics := none }

def pool6 : Array CpInfo := pool [(2, .class_ 4), (1, u "java/lang/CharSequence"), (42, .class_ 48), (0, u "java/lang/CharSequence$1CodePointIterator"), (10, .class_ 60), (0, u "java/lang/CharSequence$1CharIterator"), (5, .class_ 67), (0, u "java/lang/Object")] 63

/-- java/lang/CharSequence -/
def k6 : Class := { plain "java/lang/CharSequence" (some 0) with
  accessFlags := 1537
  interfaces := #[]
  cf := some (fileOf pool6 2 #[.nestMembers #[47, 59]] #[] 1537 66 #[] #[])
  fields := #[]
  methods := #[]
  instanceTypes := #[]
  staticTypes := #[]
  resolved := Array.replicate 131 none
  statics := none }

def pool7 : Array CpInfo := pool [(1, .class_ 2), (0, u "java/lang/constant/Constable"), (0, .class_ 4), (0, u "java/lang/Object")] 6

/-- java/lang/constant/Constable -/
def k7 : Class := { plain "java/lang/constant/Constable" (some 0) with
  accessFlags := 1537
  interfaces := #[]
  cf := some (fileOf pool7 1 #[] #[] 1537 3 #[] #[])
  fields := #[]
  methods := #[]
  instanceTypes := #[]
  staticTypes := #[]
  resolved := Array.replicate 11 none
  statics := none }

def pool8 : Array CpInfo := pool [(1, .class_ 2), (0, u "java/lang/constant/ConstantDesc"), (0, .class_ 4), (0, u "java/lang/Object")] 32

/-- java/lang/constant/ConstantDesc -/
def k8 : Class := { plain "java/lang/constant/ConstantDesc" (some 0) with
  accessFlags := 1537
  interfaces := #[]
  cf := some (fileOf pool8 1 #[] #[] 1537 3 #[] #[])
  fields := #[]
  methods := #[]
  instanceTypes := #[]
  staticTypes := #[]
  resolved := Array.replicate 37 none
  statics := none }

def pool9 : Array CpInfo := pool [(2, .class_ 4), (1, u "java/lang/Object"), (0, u "<init>"), (0, u "()V"), (3, .class_ 12), (1, u "java/lang/String"), (0, u "value"), (0, u "[B"), (2, u "coder"), (0, u "B"), (2, u "hash"), (0, u "I"), (2, u "hashIsZero"), (0, u "Z"), (13, u "COMPACT_STRINGS"), (534, .class_ 576), (0, u "java/lang/CharSequence"), (22, u "CASE_INSENSITIVE_ORDER"), (0, u "Ljava/util/Comparator;"), (500, u "serialPersistentFields"), (0, u "[Ljava/io/ObjectStreamField;"), (0, .class_ 1104), (0, u "java/lang/String$CaseInsensitiveComparator"), (1, .class_ 1107), (0, u "java/io/Serializable"), (0, .class_ 1109), (0, u "java/lang/Comparable"), (0, .class_ 1111), (0, u "java/lang/constant/Constable"), (0, .class_ 1113), (0, u "java/lang/constant/ConstantDesc"), (2, u "serialVersionUID"), (0, u "J"), (3, u "REPL"), (0, u "C"), (2, u "LATIN1"), (1, u "UTF16")] 323

def k9m0 : Method := { name := "<init>", desc := "()V", sig := { parameters := [], returnType := none }, accessFlags := 1, code := none }
/-- java/lang/String -/
def k9 : Class := { plain "java/lang/String" (some 0) with
  accessFlags := 49
  interfaces := #[4, 5, 6, 7, 8]
  cf := some (fileOf pool9 10 #[.nestMembers #[1103]] #[{ accessFlags := 1, nameIndex := 5, descriptorIndex := 6, attributes := #[] }] 49 2 #[1106, 1108, 575, 1110, 1112] #[{ accessFlags := 18, nameIndex := 13, descriptorIndex := 14, attributes := #[] }, { accessFlags := 18, nameIndex := 17, descriptorIndex := 18, attributes := #[] }, { accessFlags := 2, nameIndex := 21, descriptorIndex := 22, attributes := #[] }, { accessFlags := 2, nameIndex := 25, descriptorIndex := 26, attributes := #[] }, { accessFlags := 26, nameIndex := 1116, descriptorIndex := 1117, attributes := #[] }, { accessFlags := 24, nameIndex := 40, descriptorIndex := 26, attributes := #[] }, { accessFlags := 26, nameIndex := 1101, descriptorIndex := 1102, attributes := #[] }, { accessFlags := 26, nameIndex := 1121, descriptorIndex := 1122, attributes := #[] }, { accessFlags := 25, nameIndex := 599, descriptorIndex := 600, attributes := #[] }, { accessFlags := 24, nameIndex := 1125, descriptorIndex := 18, attributes := #[] }, { accessFlags := 24, nameIndex := 1127, descriptorIndex := 18, attributes := #[] }])
  fields := #[{ name := "value", type := (.array .byte), accessFlags := 18, slot := 0, constantValue := 0 }, { name := "coder", type := .byte, accessFlags := 18, slot := 1, constantValue := 0 }, { name := "hash", type := .int, accessFlags := 2, slot := 2, constantValue := 0 }, { name := "hashIsZero", type := .boolean, accessFlags := 2, slot := 3, constantValue := 0 }, { name := "serialVersionUID", type := .long, accessFlags := 26, slot := 0, constantValue := 0 }, { name := "COMPACT_STRINGS", type := .boolean, accessFlags := 24, slot := 1, constantValue := 0 }, { name := "serialPersistentFields", type := (.array (.object "java/io/ObjectStreamField")), accessFlags := 26, slot := 2, constantValue := 0 }, { name := "REPL", type := .char, accessFlags := 26, slot := 3, constantValue := 0 }, { name := "CASE_INSENSITIVE_ORDER", type := (.object "java/util/Comparator"), accessFlags := 25, slot := 4, constantValue := 0 }, { name := "LATIN1", type := .byte, accessFlags := 24, slot := 5, constantValue := 0 }, { name := "UTF16", type := .byte, accessFlags := 24, slot := 6, constantValue := 0 }]
  methods := #[k9m0]
  instanceTypes := #[(.array .byte), .byte, .int, .boolean]
  staticTypes := #[.long, .boolean, (.array (.object "java/io/ObjectStreamField")), .char, (.object "java/util/Comparator"), .byte, .byte]
  resolved := Array.replicate 1451 none
  statics := none }

def pool10 : Array CpInfo := pool [(1, u "java/lang/Cloneable"), (0, .class_ 1), (0, u "java/lang/Object"), (0, .class_ 3)] 3

/-- java/lang/Cloneable -/
def k10 : Class := { plain "java/lang/Cloneable" (some 0) with
  accessFlags := 1537
  interfaces := #[]
  cf := some (fileOf pool10 2 #[] #[] 1537 4 #[] #[])
  fields := #[]
  methods := #[]
  instanceTypes := #[]
  staticTypes := #[]
  resolved := Array.replicate 8 none
  statics := none }

/-- the primitive byte -/
def k11 : Class := { plain "byte" none with kind := .primitive 'B', accessFlags := 0x411 }
/-- [B -/
def k12 : Class := { plain "[B" (some 0) with kind := .array 11 .byte, interfaces := #[10, 4], accessFlags := 1041 }

/-- the primitive int -/
def k13 : Class := { plain "int" none with kind := .primitive 'I', accessFlags := 0x411 }
/-- [I -/
def k14 : Class := { plain "[I" (some 0) with kind := .array 13 .int, interfaces := #[10, 4], accessFlags := 1041 }

def heap : Heap := #[]
def classes : Array Class := #[k0, k1, k2, k3, k4, k5, k6, k7, k8, k9, k10, k11, k12, k13, k14]
def interned : List (Array UInt16 × Addr) := []
def slotsUsed : Nat := 0
def theMethod : MethodId := ⟨1, 1⟩
def args0 : Array Value := #[.int 5, .int 5, .int 5, .int 5, .int 5]
def aboutOver (below : List Frame) : State where
  vm := { classes := classes, interned := interned.toArray }
  heap := heap
  slotsUsed := slotsUsed
  threads := #[{ frames := .invoking theMethod args0 :: below }]
def below0 : List Frame := [.native { method := ⟨0, 0⟩, args := #[] }]
def about1 : State := aboutOver below0
def p0 : Program := .bare "" "" ""
def e0 : Env := launch0.env 0 0 0
theorem w_frames : about1.frames = Frame.invoking theMethod args0 :: below0 := rfl
set_option maxRecDepth 65536 in
theorem w_args : argsFit about1.vm theMethod args0 = true := by decide +kernel
set_option maxRecDepth 65536 in
theorem w_heap : heapFits about1 = true := by decide +kernel
set_option maxRecDepth 65536 in
theorem w_runnable : about1.curStatus? = some .runnable := by decide +kernel
set_option maxRecDepth 65536 in
theorem w_alone : about1.alone = true := by decide +kernel
set_option maxRecDepth 65536 in
theorem w_named : about1.methodNamed? x = some theMethod := by decide +kernel
set_option maxRecDepth 65536 in
theorem w_hears : about1.hears theMethod below0 = true := by decide +kernel
set_option maxRecDepth 65536 in
theorem w_ripe : about1.ripe theMethod args0 below0 = true := by decide +kernel
theorem w_running : about1.status = .running := rfl
set_option maxRecDepth 65536 in
theorem w_room : about1.hasRoom e0.platform room_1 = true :=
  launch0.hasRoom_least _ room_1 (by decide +kernel) (by decide +kernel) (by decide +kernel) (by decide +kernel) (by decide +kernel) (by decide +kernel)
theorem allAtoms_all (ts : List Jvm.Cond) (a : Array Jvm.Value) (st : Jvm.State) : (allAtoms ts).before a st = ts.all (fun c => c.before a st) := by
  induction ts with
  | nil => rfl
  | cons c t ih =>
    show (Jvm.Cond.and c (allAtoms t)).before a st = _
    rw [Jvm.Cond.before_and, ih, List.all_cons]
def words1 : List Jvm.Cond := Jvm.Cond.code x code maxLocals ret :: tables_1
/-- a 'code' word, met by the world's own term for the bytes: nothing is compared byte by byte -/
theorem code_word {y : MethodName} {bytes : ByteArray} {mx : Nat} {rt : Option FieldType} {a : Array Value} {s : State} {m : MethodId} {meth : Method} {c : Code} (h1 : s.methodNamed? y = some m) (h2 : s.vm.method? m = some meth) (h3 : meth.code = some c) (h4 : c.code = bytes)
    (h5 : (c.maxLocals == mx && c.exceptionTable.isEmpty && decide (c.maxStack ≤ mostOperands) && decide (meth.sig.returnType = rt) && !meth.locks && decide (parseMethodDescriptor y.desc = some meth.sig)) = true) : (Jvm.Cond.code y bytes mx rt).before a s = true := by
  simp only [Bool.and_eq_true, beq_iff_eq, Bool.not_eq_true', decide_eq_true_eq] at h5
  obtain ⟨⟨⟨⟨⟨g1, g2⟩, g3⟩, g4⟩, g5⟩, g6⟩ := h5
  simp [Cond.before, Cond.holds, Cond.value, h1, h2, h3, h4, g1, g2, g3, g4, g5, g6]
def isCode : Jvm.Cond → Bool
  | .code _ _ _ _ => true
  | _ => false
theorem all_split {L : List Jvm.Cond} {P : Jvm.Cond → Bool} (h1 : L.all (fun c => isCode c || P c) = true) (h2 : ∀ c ∈ L.filter isCode, P c = true) : L.all P = true := by
  refine List.all_eq_true.mpr fun c hc => ?_
  have h := List.all_eq_true.mp h1 c hc
  rcases Bool.eq_false_or_eq_true (isCode c) with hi | hi
  · exact h2 c (List.mem_filter.mpr ⟨hc, hi⟩)
  · simpa [hi] using h
set_option maxRecDepth 65536 in
theorem w_c0 : (Jvm.Cond.code x code maxLocals ret).before args0 about1 = true := code_word (m := ⟨1, 1⟩) (meth := k1m1) (c := k1c1) (by decide +kernel) rfl rfl rfl (by decide +kernel)
set_option maxRecDepth 65536 in
theorem w_c1 : (Jvm.Cond.code ({ cls := "corematch/generate/Family", name := "<init>", desc := "(IIIII)V" } : Jvm.MethodName) prog_10_method_1_code (8 : Nat) (Option.none : Option Jvm.ClassFile.FieldType)).before args0 about1 = true := code_word (m := ⟨3, 0⟩) (meth := k3m0) (c := k3c0) (by decide +kernel) rfl rfl rfl (by decide +kernel)
set_option maxRecDepth 65536 in
theorem w_c2 : (Jvm.Cond.code ({ cls := "java/lang/Record", name := "<init>", desc := "()V" } : Jvm.MethodName) jdk_30_method_1_code (1 : Nat) (Option.none : Option Jvm.ClassFile.FieldType)).before args0 about1 = true := code_word (m := ⟨2, 0⟩) (meth := k2m0) (c := k2c0) (by decide +kernel) rfl rfl rfl (by decide +kernel)
set_option maxRecDepth 65536 in
theorem w_c3 : (Jvm.Cond.code ({ cls := "java/lang/Object", name := "<init>", desc := "()V" } : Jvm.MethodName) object_method_1_code (1 : Nat) (Option.none : Option Jvm.ClassFile.FieldType)).before args0 about1 = true := code_word (m := ⟨0, 0⟩) (meth := k0m0) (c := k0c0) (by decide +kernel) rfl rfl rfl (by decide +kernel)
set_option maxRecDepth 65536 in
theorem w_c4 : (Jvm.Cond.code ({ cls := "corematch/generate/Family", name := "requireNotNegative", desc := "(ILjava/lang/String;)V" } : Jvm.MethodName) prog_10_method_4_code (2 : Nat) (Option.none : Option Jvm.ClassFile.FieldType)).before args0 about1 = true := code_word (m := ⟨3, 2⟩) (meth := k3m2) (c := k3c2) (by decide +kernel) rfl rfl rfl (by decide +kernel)
set_option maxRecDepth 65536 in
theorem w_c5 : (Jvm.Cond.code ({ cls := "corematch/generate/Family", name := "requireSets", desc := "(ILjava/lang/String;II)V" } : Jvm.MethodName) prog_10_method_5_code (6 : Nat) (Option.none : Option Jvm.ClassFile.FieldType)).before args0 about1 = true := code_word (m := ⟨3, 3⟩) (meth := k3m3) (c := k3c3) (by decide +kernel) rfl rfl rfl (by decide +kernel)
set_option maxRecDepth 65536 in
theorem w_c6 : (Jvm.Cond.code ({ cls := "corematch/generate/Family", name := "sets", desc := "(II)J" } : Jvm.MethodName) prog_10_method_6_code (5 : Nat) (Option.some Jvm.ClassFile.FieldType.long)).before args0 about1 = true := code_word (m := ⟨3, 4⟩) (meth := k3m4) (c := k3c4) (by decide +kernel) rfl rfl rfl (by decide +kernel)
set_option maxRecDepth 65536 in
theorem w_c7 : (Jvm.Cond.code ({ cls := "corematch/generate/Family", name := "constraints", desc := "()I" } : Jvm.MethodName) prog_10_method_2_code (1 : Nat) (Option.some Jvm.ClassFile.FieldType.int)).before args0 about1 = true := code_word (m := ⟨3, 1⟩) (meth := k3m1) (c := k3c1) (by decide +kernel) rfl rfl rfl (by decide +kernel)
def codes1 : List Jvm.Cond := [Jvm.Cond.code x code maxLocals ret, Jvm.Cond.code ({ cls := "corematch/generate/Family", name := "<init>", desc := "(IIIII)V" } : Jvm.MethodName) prog_10_method_1_code (8 : Nat) (Option.none : Option Jvm.ClassFile.FieldType), Jvm.Cond.code ({ cls := "java/lang/Record", name := "<init>", desc := "()V" } : Jvm.MethodName) jdk_30_method_1_code (1 : Nat) (Option.none : Option Jvm.ClassFile.FieldType), Jvm.Cond.code ({ cls := "java/lang/Object", name := "<init>", desc := "()V" } : Jvm.MethodName) object_method_1_code (1 : Nat) (Option.none : Option Jvm.ClassFile.FieldType), Jvm.Cond.code ({ cls := "corematch/generate/Family", name := "requireNotNegative", desc := "(ILjava/lang/String;)V" } : Jvm.MethodName) prog_10_method_4_code (2 : Nat) (Option.none : Option Jvm.ClassFile.FieldType), Jvm.Cond.code ({ cls := "corematch/generate/Family", name := "requireSets", desc := "(ILjava/lang/String;II)V" } : Jvm.MethodName) prog_10_method_5_code (6 : Nat) (Option.none : Option Jvm.ClassFile.FieldType), Jvm.Cond.code ({ cls := "corematch/generate/Family", name := "sets", desc := "(II)J" } : Jvm.MethodName) prog_10_method_6_code (5 : Nat) (Option.some Jvm.ClassFile.FieldType.long), Jvm.Cond.code ({ cls := "corematch/generate/Family", name := "constraints", desc := "()I" } : Jvm.MethodName) prog_10_method_2_code (1 : Nat) (Option.some Jvm.ClassFile.FieldType.int)]
set_option maxRecDepth 65536 in
theorem codes_eq : words1.filter isCode = codes1 := rfl
theorem w_codes : ∀ c ∈ words1.filter isCode, c.before args0 about1 = true := by
  rw [codes_eq]
  intro c hc
  simp only [codes1, List.mem_cons, List.not_mem_nil, or_false] at hc
  rcases hc with rfl | rfl | rfl | rfl | rfl | rfl | rfl | rfl
  · exact w_c0
  · exact w_c1
  · exact w_c2
  · exact w_c3
  · exact w_c4
  · exact w_c5
  · exact w_c6
  · exact w_c7
set_option maxRecDepth 65536 in
theorem w_t1 : (words1.take 24).all (fun c => isCode c || c.before args0 about1) = true := by decide +kernel
set_option maxRecDepth 65536 in
theorem w_t2 : ((words1.drop 24).take 24).all (fun c => isCode c || c.before args0 about1) = true := by decide +kernel
set_option maxRecDepth 65536 in
theorem w_t3 : ((words1.drop 24).drop 24).all (fun c => isCode c || c.before args0 about1) = true := by decide +kernel
theorem w_tables : (allAtoms (Jvm.Cond.code x code maxLocals ret :: tables_1)).before args0 about1 = true := by
  rw [allAtoms_all]
  show words1.all (fun c => c.before args0 about1) = true
  refine all_split ?_ w_codes
  rw [← List.take_append_drop 24 words1, List.all_append, w_t1, ← List.take_append_drop 24 (words1.drop 24), List.all_append, w_t2, w_t3]
  rfl
set_option maxRecDepth 65536 in
theorem w_case : (Jvm.Cond.and given_1 narrow_1).before args0 about1 = true := by decide +kernel
theorem w_applies : (headSpec (Jvm.Cond.code x code maxLocals ret :: tables_1) room_1).applies x e0.platform about1 = true :=
  (Spec.applies_iff w_frames).mpr ⟨w_running, w_runnable, w_alone, w_named, w_hears, w_ripe, w_room, w_tables⟩
theorem atStart : AtStart classFile x code maxLocals ret World_1 tables_1 room_1 Calls_1 rest_1 Pre_1 launch0 p0 e0 about1 theMethod args0 below0 :=
  ⟨lists_1, trivial, launch0.admits_env _ _ _, launch0.least_env, fairChoices_fair.cas, fairChoices_fair.clock, w_frames, w_args, w_heap, w_applies, trivial, trivial, w_case⟩
end start1
theorem witness_1 : WitnessClaimed_1 := ⟨start1.p0, start1.e0, start1.about1, start1.theMethod, start1.args0, start1.below0, start1.atStart⟩
end Jvm.Pilot.@@N@@
