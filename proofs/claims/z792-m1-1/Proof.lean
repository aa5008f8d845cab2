import JvmDerived
import JvmDerived.Pilot.@@N@@Statement
import JvmDerived.Pilot.@@N@@Code
set_option linter.unusedVariables false
set_option linter.unusedSimpArgs false
@@BLOCK:NumsL.lean.txt@@
namespace Jvm.OwnGo
open Sem ClassFile Op Lib Jvm.Stand Jvm.Free Jvm.LawKit Jvm.RoadKit
/-- where a walk stands -/
def K (p : Program) (l : Launch) (e : Env) (R : Room) (s : State) (m : MethodId) (args : Array Value) (below : List Frame) (meth : Method) (c : Code) (bytes : ByteArray) (own : String) (maxL : Nat) (ret : Option FieldType) (nm : String) (T : State) (locs : List Loc) (cells slots : Nat) (Z : State) (h : Heap) (n0 : Nat) : Prop :=
  Stand p l e R s m args below meth c T locs cells slots ∧ p.tables.exec = Jvm.exec ∧ Z.Warmed39 s.vm ∧ T.heap = h ∧ Fr n0 locs ∧ c.code = bytes ∧ s.vm.findClass own = some m.cls ∧ c.maxLocals = maxL ∧ meth.sig.returnType = ret ∧ meth.name = nm ∧ meth.locks = false
/-- from here the run comes to an end that meets P -/
def Go (p : Program) (e : Env) (below : List Frame) (P : State → Outcome → Prop) (T : State) (g : JFrame) : Prop :=
  ∃ s₂ o, Steps p.tables e below (T.setTop g) s₂ ∧ s₂.status = .running ∧ Ended s₂ below o ∧ P s₂ o
/-- what a return pays -/
def Pay (s : State) (Q : Option Value → Heap → Prop) (n0 cc ss : Nat) (P : State → Outcome → Prop) : Prop :=
  ∀ v h L s₂, Q v h → s₂.heap = h → Fr n0 L → FrameEnd s (.returned v) s₂ L cc ss → P s₂ (.returned v)
section Own
variable {p : Program} {l : Launch} {e : Env} {R : Room} {s : State} {m : MethodId} {args : Array Value} {below : List Frame} {meth : Method} {c : Code} {bytes : ByteArray} {own : String} {maxL : Nat} {ret : Option FieldType} {nm : String} {T : State} {locs : List Loc} {cells slots : Nat} {Z : State} {h : Heap} {n0 : Nat} {Q : Option Value → Heap → Prop} {P : State → Outcome → Prop} {cc ss : Nat} {a0 : Array Value} {Ls : Array Slot} {st rest : List Value} {pc pc' pc3 : Nat}
theorem Go.to {T' : State} {g g' : JFrame} (h1 : ∀ target, Steps p.tables e below (T'.setTop g') target → Steps p.tables e below (T.setTop g) target) (k : Go p e below P T' g') : Go p e below P T g := by
  obtain ⟨s₂, o, h2, h3⟩ := k; exact ⟨s₂, o, h1 _ h2, h3⟩
theorem Go.tr {T' : State} {g g' : JFrame} (h1 : Steps p.tables e below (T.setTop g) (T'.setTop g')) (k : Go p e below P T' g') : Go p e below P T g := by
  obtain ⟨s₂, o, h2, h3⟩ := k; exact ⟨s₂, o, h1.trans h2, h3⟩
theorem Go.weak {P' : State → Outcome → Prop} {g : JFrame} (k : Go p e below P T g) (h1 : ∀ s o, P s o → P' s o) : Go p e below P' T g := by
  obtain ⟨s₂, o, h2, h3, h4, h5⟩ := k; exact ⟨s₂, o, h2, h3, h4, h1 _ _ h5⟩
theorem nar_ref {C : String} {v : Value} (h : v.isRef = true) : narrow (.object C) v = v := by cases v <;> first | rfl | (simp [Value.isRef] at h)
theorem fit_ref {C : String} {v : Value} (h : v.isRef = true) : fits (.object C) v = true := by cases v <;> first | rfl | (simp [Value.isRef] at h)
theorem k_hp (k : K p l e R s m args below meth c bytes own maxL ret nm T locs cells slots Z h n0) {T' : State} {h' : Heap} {locs' : List Loc} {cells' slots' : Nat} (X : Stand p l e R s m args below meth c T' locs' cells' slots') (eT : T'.heap = h') (N : Fr n0 locs') : K p l e R s m args below meth c bytes own maxL ret nm T' locs' cells' slots' Z h' n0 :=
  ⟨X, k.2.1, k.2.2.1, eT, N, k.2.2.2.2.2⟩
theorem k_more (k : K p l e R s m args below meth c bytes own maxL ret nm T locs cells slots Z h n0) {cells' slots' : Nat} (h1 : cells ≤ cells') (h2 : slots ≤ slots') : K p l e R s m args below meth c bytes own maxL ret nm T locs cells' slots' Z h n0 :=
  ⟨k.1.more h1 h2, k.2⟩

theorem s_iloadN (k : K p l e R s m args below meth c bytes own maxL ret nm T locs cells slots Z h n0) {i : Fin 4} {v : Int32} (hd : decode bytes pc = .ok (.iload_n i, 1)) (hl : Ls[i.val]? = some (.val (.int v))) (hp : pc + 1 = pc') (g : Go p e below P T (mkF m pc' Ls (.int v :: st))) : Go p e below P T (mkF m pc Ls st) := by
  subst hp
  exact Go.to (fun _ q => XS.iloadN k.1.here k.2.1 rfl (hb k.2.2.2.2.2.1 hd) hl q) g
theorem s_istoreN (k : K p l e R s m args below meth c bytes own maxL ret nm T locs cells slots Z h n0) {i : Fin 4} {x : Int32} {l' : Array Slot} (hd : decode bytes pc = .ok (.istore_n i, 1)) (hl : storeLocals Ls i.val (.int x) = some l') (hp : pc + 1 = pc') (g : Go p e below P T (mkF m pc' l' st)) : Go p e below P T (mkF m pc Ls (.int x :: st)) := by
  subst hp
  exact Go.to (fun _ q => XS.istoreN k.1.here k.2.1 rfl (hb k.2.2.2.2.2.1 hd) rfl hl q) g
theorem s_iload (k : K p l e R s m args below meth c bytes own maxL ret nm T locs cells slots Z h n0) {i : Nat} {v : Int32} (hd : decode bytes pc = .ok (.iload i, 2)) (hl : Ls[i]? = some (.val (.int v))) (hp : pc + 2 = pc') (g : Go p e below P T (mkF m pc' Ls (.int v :: st))) : Go p e below P T (mkF m pc Ls st) := by
  subst hp
  exact Go.to (fun _ q => XS.iload k.1.here k.2.1 rfl (hb k.2.2.2.2.2.1 hd) hl q) g
theorem s_istore (k : K p l e R s m args below meth c bytes own maxL ret nm T locs cells slots Z h n0) {i : Nat} {x : Int32} {l' : Array Slot} (hd : decode bytes pc = .ok (.istore i, 2)) (hl : storeLocals Ls i (.int x) = some l') (hp : pc + 2 = pc') (g : Go p e below P T (mkF m pc' l' st)) : Go p e below P T (mkF m pc Ls (.int x :: st)) := by
  subst hp
  exact Go.to (fun _ q => XS.istore k.1.here k.2.1 rfl (hb k.2.2.2.2.2.1 hd) rfl hl q) g
theorem s_lloadN (k : K p l e R s m args below meth c bytes own maxL ret nm T locs cells slots Z h n0) {i : Fin 4} {v : Int64} (hd : decode bytes pc = .ok (.lload_n i, 1)) (hl : Ls[i.val]? = some (.val (.long v))) (hp : pc + 1 = pc') (g : Go p e below P T (mkF m pc' Ls (.long v :: st))) : Go p e below P T (mkF m pc Ls st) := by
  subst hp
  exact Go.to (fun _ q => XT.lloadN k.1.here k.2.1 rfl (hb k.2.2.2.2.2.1 hd) hl q) g
theorem s_lstoreN (k : K p l e R s m args below meth c bytes own maxL ret nm T locs cells slots Z h n0) {i : Fin 4} {x : Int64} {l' : Array Slot} (hd : decode bytes pc = .ok (.lstore_n i, 1)) (hl : storeLocals Ls i.val (.long x) = some l') (hp : pc + 1 = pc') (g : Go p e below P T (mkF m pc' l' st)) : Go p e below P T (mkF m pc Ls (.long x :: st)) := by
  subst hp
  exact Go.to (fun _ q => XT.lstoreN k.1.here k.2.1 rfl (hb k.2.2.2.2.2.1 hd) rfl hl q) g
theorem s_lload (k : K p l e R s m args below meth c bytes own maxL ret nm T locs cells slots Z h n0) {i : Nat} {v : Int64} (hd : decode bytes pc = .ok (.lload i, 2)) (hl : Ls[i]? = some (.val (.long v))) (hp : pc + 2 = pc') (g : Go p e below P T (mkF m pc' Ls (.long v :: st))) : Go p e below P T (mkF m pc Ls st) := by
  subst hp
  exact Go.to (fun _ q => XT.lload k.1.here k.2.1 rfl (hb k.2.2.2.2.2.1 hd) hl q) g
theorem s_lstore (k : K p l e R s m args below meth c bytes own maxL ret nm T locs cells slots Z h n0) {i : Nat} {x : Int64} {l' : Array Slot} (hd : decode bytes pc = .ok (.lstore i, 2)) (hl : storeLocals Ls i (.long x) = some l') (hp : pc + 2 = pc') (g : Go p e below P T (mkF m pc' l' st)) : Go p e below P T (mkF m pc Ls (.long x :: st)) := by
  subst hp
  exact Go.to (fun _ q => XT.lstore k.1.here k.2.1 rfl (hb k.2.2.2.2.2.1 hd) rfl hl q) g
theorem s_aloadN (k : K p l e R s m args below meth c bytes own maxL ret nm T locs cells slots Z h n0) {i : Fin 4} {v : Value} (hd : decode bytes pc = .ok (.aload_n i, 1)) (hl : Ls[i.val]? = some (.val v)) (hv : v.isRef = true) (hp : pc + 1 = pc') (g : Go p e below P T (mkF m pc' Ls (v :: st))) : Go p e below P T (mkF m pc Ls st) := by
  subst hp
  exact Go.to (fun _ q => XS.aloadN k.1.here k.2.1 rfl (hb k.2.2.2.2.2.1 hd) hl hv q) g
theorem s_astoreN (k : K p l e R s m args below meth c bytes own maxL ret nm T locs cells slots Z h n0) {i : Fin 4} {x : Value} {l' : Array Slot} (hd : decode bytes pc = .ok (.astore_n i, 1)) (hv : x.isRef = true) (hl : storeLocals Ls i.val x = some l') (hp : pc + 1 = pc') (g : Go p e below P T (mkF m pc' l' st)) : Go p e below P T (mkF m pc Ls (x :: st)) := by
  subst hp
  exact Go.to (fun _ q => XS.astoreN k.1.here k.2.1 rfl (hb k.2.2.2.2.2.1 hd) rfl hv hl q) g
theorem s_aload (k : K p l e R s m args below meth c bytes own maxL ret nm T locs cells slots Z h n0) {i : Nat} {v : Value} (hd : decode bytes pc = .ok (.aload i, 2)) (hl : Ls[i]? = some (.val v)) (hv : v.isRef = true) (hp : pc + 2 = pc') (g : Go p e below P T (mkF m pc' Ls (v :: st))) : Go p e below P T (mkF m pc Ls st) := by
  subst hp
  exact Go.to (fun _ q => XS.aload k.1.here k.2.1 rfl (hb k.2.2.2.2.2.1 hd) hl hv q) g
theorem s_astore (k : K p l e R s m args below meth c bytes own maxL ret nm T locs cells slots Z h n0) {i : Nat} {x : Value} {l' : Array Slot} (hd : decode bytes pc = .ok (.astore i, 2)) (hv : x.isRef = true) (hl : storeLocals Ls i x = some l') (hp : pc + 2 = pc') (g : Go p e below P T (mkF m pc' l' st)) : Go p e below P T (mkF m pc Ls (x :: st)) := by
  subst hp
  exact Go.to (fun _ q => XS.astore k.1.here k.2.1 rfl (hb k.2.2.2.2.2.1 hd) rfl hv hl q) g
theorem s_iconst (k : K p l e R s m args below meth c bytes own maxL ret nm T locs cells slots Z h n0) {i : Int} {z : Int32} (hd : decode bytes pc = .ok (.iconst i, 1)) (hz : Int32.ofInt i = z) (hp : pc + 1 = pc') (g : Go p e below P T (mkF m pc' Ls (.int z :: st))) : Go p e below P T (mkF m pc Ls st) := by
  subst hp hz
  exact Go.to (fun _ q => XS.iconst k.1.here k.2.1 rfl (hb k.2.2.2.2.2.1 hd) q) g
theorem s_bipush (k : K p l e R s m args below meth c bytes own maxL ret nm T locs cells slots Z h n0) {i : Int} {z : Int32} (hd : decode bytes pc = .ok (.bipush i, 2)) (hz : (Int8.ofInt i).toInt32 = z) (hp : pc + 2 = pc') (g : Go p e below P T (mkF m pc' Ls (.int z :: st))) : Go p e below P T (mkF m pc Ls st) := by
  subst hp hz
  exact Go.to (fun _ q => XS.bipush k.1.here k.2.1 rfl (hb k.2.2.2.2.2.1 hd) q) g
theorem s_sipush (k : K p l e R s m args below meth c bytes own maxL ret nm T locs cells slots Z h n0) {i : Int} {z : Int32} (hd : decode bytes pc = .ok (.sipush i, 3)) (hz : (Int16.ofInt i).toInt32 = z) (hp : pc + 3 = pc') (g : Go p e below P T (mkF m pc' Ls (.int z :: st))) : Go p e below P T (mkF m pc Ls st) := by
  subst hp hz
  exact Go.to (fun _ q => XS.sipush k.1.here k.2.1 rfl (hb k.2.2.2.2.2.1 hd) q) g
theorem s_lconst (k : K p l e R s m args below meth c bytes own maxL ret nm T locs cells slots Z h n0) {i : Fin 2} {z : Int64} (hd : decode bytes pc = .ok (.lconst i, 1)) (hz : Int64.ofNat i = z) (hp : pc + 1 = pc') (g : Go p e below P T (mkF m pc' Ls (.long z :: st))) : Go p e below P T (mkF m pc Ls st) := by
  subst hp hz
  exact Go.to (fun _ q => XT.lconst k.1.here k.2.1 rfl (hb k.2.2.2.2.2.1 hd) q) g
theorem s_null (k : K p l e R s m args below meth c bytes own maxL ret nm T locs cells slots Z h n0)  (hd : decode bytes pc = .ok (.aconst_null, 1))  (hp : pc + 1 = pc') (g : Go p e below P T (mkF m pc' Ls (.null :: st))) : Go p e below P T (mkF m pc Ls st) := by
  subst hp
  exact Go.to (fun _ q => XS.aconstNull k.1.here k.2.1 rfl (hb k.2.2.2.2.2.1 hd)  q) g
theorem s_iadd (k : K p l e R s m args below meth c bytes own maxL ret nm T locs cells slots Z h n0) {x y : Int32} {z : Int32} (hd : decode bytes pc = .ok (.iadd, 1))  (hz : x + y = z) (hp : pc + 1 = pc') (g : Go p e below P T (mkF m pc' Ls (.int z :: st))) : Go p e below P T (mkF m pc Ls (.int y :: .int x :: st)) := by
  subst hp hz
  exact Go.to (fun _ q => XS.iadd k.1.here k.2.1 rfl (hb k.2.2.2.2.2.1 hd) rfl q) g
theorem s_ladd (k : K p l e R s m args below meth c bytes own maxL ret nm T locs cells slots Z h n0) {x y : Int64} {z : Int64} (hd : decode bytes pc = .ok (.ladd, 1))  (hz : x + y = z) (hp : pc + 1 = pc') (g : Go p e below P T (mkF m pc' Ls (.long z :: st))) : Go p e below P T (mkF m pc Ls (.long y :: .long x :: st)) := by
  subst hp hz
  exact Go.to (fun _ q => XT.ladd k.1.here k.2.1 rfl (hb k.2.2.2.2.2.1 hd) rfl q) g
theorem s_isub (k : K p l e R s m args below meth c bytes own maxL ret nm T locs cells slots Z h n0) {x y : Int32} {z : Int32} (hd : decode bytes pc = .ok (.isub, 1))  (hz : x - y = z) (hp : pc + 1 = pc') (g : Go p e below P T (mkF m pc' Ls (.int z :: st))) : Go p e below P T (mkF m pc Ls (.int y :: .int x :: st)) := by
  subst hp hz
  exact Go.to (fun _ q => XS.isub k.1.here k.2.1 rfl (hb k.2.2.2.2.2.1 hd) rfl q) g
theorem s_lsub (k : K p l e R s m args below meth c bytes own maxL ret nm T locs cells slots Z h n0) {x y : Int64} {z : Int64} (hd : decode bytes pc = .ok (.lsub, 1))  (hz : x - y = z) (hp : pc + 1 = pc') (g : Go p e below P T (mkF m pc' Ls (.long z :: st))) : Go p e below P T (mkF m pc Ls (.long y :: .long x :: st)) := by
  subst hp hz
  exact Go.to (fun _ q => XT.lsub k.1.here k.2.1 rfl (hb k.2.2.2.2.2.1 hd) rfl q) g
theorem s_imul (k : K p l e R s m args below meth c bytes own maxL ret nm T locs cells slots Z h n0) {x y : Int32} {z : Int32} (hd : decode bytes pc = .ok (.imul, 1))  (hz : x * y = z) (hp : pc + 1 = pc') (g : Go p e below P T (mkF m pc' Ls (.int z :: st))) : Go p e below P T (mkF m pc Ls (.int y :: .int x :: st)) := by
  subst hp hz
  exact Go.to (fun _ q => XS.imul k.1.here k.2.1 rfl (hb k.2.2.2.2.2.1 hd) rfl q) g
theorem s_lmul (k : K p l e R s m args below meth c bytes own maxL ret nm T locs cells slots Z h n0) {x y : Int64} {z : Int64} (hd : decode bytes pc = .ok (.lmul, 1))  (hz : x * y = z) (hp : pc + 1 = pc') (g : Go p e below P T (mkF m pc' Ls (.long z :: st))) : Go p e below P T (mkF m pc Ls (.long y :: .long x :: st)) := by
  subst hp hz
  exact Go.to (fun _ q => XT.lmul k.1.here k.2.1 rfl (hb k.2.2.2.2.2.1 hd) rfl q) g
theorem s_iand (k : K p l e R s m args below meth c bytes own maxL ret nm T locs cells slots Z h n0) {x y : Int32} {z : Int32} (hd : decode bytes pc = .ok (.iand, 1))  (hz : x &&& y = z) (hp : pc + 1 = pc') (g : Go p e below P T (mkF m pc' Ls (.int z :: st))) : Go p e below P T (mkF m pc Ls (.int y :: .int x :: st)) := by
  subst hp hz
  exact Go.to (fun _ q => XS.iand k.1.here k.2.1 rfl (hb k.2.2.2.2.2.1 hd) rfl q) g
theorem s_land (k : K p l e R s m args below meth c bytes own maxL ret nm T locs cells slots Z h n0) {x y : Int64} {z : Int64} (hd : decode bytes pc = .ok (.land, 1))  (hz : x &&& y = z) (hp : pc + 1 = pc') (g : Go p e below P T (mkF m pc' Ls (.long z :: st))) : Go p e below P T (mkF m pc Ls (.long y :: .long x :: st)) := by
  subst hp hz
  exact Go.to (fun _ q => XT.land k.1.here k.2.1 rfl (hb k.2.2.2.2.2.1 hd) rfl q) g
theorem s_ior (k : K p l e R s m args below meth c bytes own maxL ret nm T locs cells slots Z h n0) {x y : Int32} {z : Int32} (hd : decode bytes pc = .ok (.ior, 1))  (hz : x ||| y = z) (hp : pc + 1 = pc') (g : Go p e below P T (mkF m pc' Ls (.int z :: st))) : Go p e below P T (mkF m pc Ls (.int y :: .int x :: st)) := by
  subst hp hz
  exact Go.to (fun _ q => XT.ior k.1.here k.2.1 rfl (hb k.2.2.2.2.2.1 hd) rfl q) g
theorem s_lor (k : K p l e R s m args below meth c bytes own maxL ret nm T locs cells slots Z h n0) {x y : Int64} {z : Int64} (hd : decode bytes pc = .ok (.lor, 1))  (hz : x ||| y = z) (hp : pc + 1 = pc') (g : Go p e below P T (mkF m pc' Ls (.long z :: st))) : Go p e below P T (mkF m pc Ls (.long y :: .long x :: st)) := by
  subst hp hz
  exact Go.to (fun _ q => XT.lor k.1.here k.2.1 rfl (hb k.2.2.2.2.2.1 hd) rfl q) g
theorem s_ixor (k : K p l e R s m args below meth c bytes own maxL ret nm T locs cells slots Z h n0) {x y : Int32} {z : Int32} (hd : decode bytes pc = .ok (.ixor, 1))  (hz : x ^^^ y = z) (hp : pc + 1 = pc') (g : Go p e below P T (mkF m pc' Ls (.int z :: st))) : Go p e below P T (mkF m pc Ls (.int y :: .int x :: st)) := by
  subst hp hz
  exact Go.to (fun _ q => XT.ixor k.1.here k.2.1 rfl (hb k.2.2.2.2.2.1 hd) rfl q) g
theorem s_lxor (k : K p l e R s m args below meth c bytes own maxL ret nm T locs cells slots Z h n0) {x y : Int64} {z : Int64} (hd : decode bytes pc = .ok (.lxor, 1))  (hz : x ^^^ y = z) (hp : pc + 1 = pc') (g : Go p e below P T (mkF m pc' Ls (.long z :: st))) : Go p e below P T (mkF m pc Ls (.long y :: .long x :: st)) := by
  subst hp hz
  exact Go.to (fun _ q => XT.lxor k.1.here k.2.1 rfl (hb k.2.2.2.2.2.1 hd) rfl q) g
theorem s_iushr (k : K p l e R s m args below meth c bytes own maxL ret nm T locs cells slots Z h n0) {x y : Int32} {z : Int32} (hd : decode bytes pc = .ok (.iushr, 1))  (hz : XT.ushr x y = z) (hp : pc + 1 = pc') (g : Go p e below P T (mkF m pc' Ls (.int z :: st))) : Go p e below P T (mkF m pc Ls (.int y :: .int x :: st)) := by
  subst hp hz
  exact Go.to (fun _ q => XT.iushr k.1.here k.2.1 rfl (hb k.2.2.2.2.2.1 hd) rfl q) g
theorem s_ishr (k : K p l e R s m args below meth c bytes own maxL ret nm T locs cells slots Z h n0) {x y : Int32} {z : Int32} (hd : decode bytes pc = .ok (.ishr, 1))  (hz : x >>> (y &&& 31) = z) (hp : pc + 1 = pc') (g : Go p e below P T (mkF m pc' Ls (.int z :: st))) : Go p e below P T (mkF m pc Ls (.int y :: .int x :: st)) := by
  subst hp hz
  exact Go.to (fun _ q => XT.ishr k.1.here k.2.1 rfl (hb k.2.2.2.2.2.1 hd) rfl q) g
theorem s_ishl (k : K p l e R s m args below meth c bytes own maxL ret nm T locs cells slots Z h n0) {x y : Int32} {z : Int32} (hd : decode bytes pc = .ok (.ishl, 1))  (hz : x <<< (y &&& 31) = z) (hp : pc + 1 = pc') (g : Go p e below P T (mkF m pc' Ls (.int z :: st))) : Go p e below P T (mkF m pc Ls (.int y :: .int x :: st)) := by
  subst hp hz
  exact Go.to (fun _ q => XT.ishl k.1.here k.2.1 rfl (hb k.2.2.2.2.2.1 hd) rfl q) g
theorem s_lushr (k : K p l e R s m args below meth c bytes own maxL ret nm T locs cells slots Z h n0) {x : Int64} {y : Int32} {z : Int64} (hd : decode bytes pc = .ok (.lushr, 1))  (hz : XT.ushrL x y = z) (hp : pc + 1 = pc') (g : Go p e below P T (mkF m pc' Ls (.long z :: st))) : Go p e below P T (mkF m pc Ls (.int y :: .long x :: st)) := by
  subst hp hz
  exact Go.to (fun _ q => XT.lushr k.1.here k.2.1 rfl (hb k.2.2.2.2.2.1 hd) rfl q) g
theorem s_lshl (k : K p l e R s m args below meth c bytes own maxL ret nm T locs cells slots Z h n0) {x : Int64} {y : Int32} {z : Int64} (hd : decode bytes pc = .ok (.lshl, 1))  (hz : x <<< (y.toInt64 &&& 63) = z) (hp : pc + 1 = pc') (g : Go p e below P T (mkF m pc' Ls (.long z :: st))) : Go p e below P T (mkF m pc Ls (.int y :: .long x :: st)) := by
  subst hp hz
  exact Go.to (fun _ q => XT.lshl k.1.here k.2.1 rfl (hb k.2.2.2.2.2.1 hd) rfl q) g
theorem s_lshr (k : K p l e R s m args below meth c bytes own maxL ret nm T locs cells slots Z h n0) {x : Int64} {y : Int32} {z : Int64} (hd : decode bytes pc = .ok (.lshr, 1))  (hz : x >>> (y.toInt64 &&& 63) = z) (hp : pc + 1 = pc') (g : Go p e below P T (mkF m pc' Ls (.long z :: st))) : Go p e below P T (mkF m pc Ls (.int y :: .long x :: st)) := by
  subst hp hz
  exact Go.to (fun _ q => XT.lshr k.1.here k.2.1 rfl (hb k.2.2.2.2.2.1 hd) rfl q) g
theorem s_idiv (k : K p l e R s m args below meth c bytes own maxL ret nm T locs cells slots Z h n0) {x y : Int32} {z : Int32} (hd : decode bytes pc = .ok (.idiv, 1)) (hy : y ≠ 0) (hz : x / y = z) (hp : pc + 1 = pc') (g : Go p e below P T (mkF m pc' Ls (.int z :: st))) : Go p e below P T (mkF m pc Ls (.int y :: .int x :: st)) := by
  subst hp hz
  exact Go.to (fun _ q => XS.idiv k.1.here k.2.1 rfl (hb k.2.2.2.2.2.1 hd) rfl hy q) g
theorem s_ldiv (k : K p l e R s m args below meth c bytes own maxL ret nm T locs cells slots Z h n0) {x y : Int64} {z : Int64} (hd : decode bytes pc = .ok (.ldiv, 1)) (hy : y ≠ 0) (hz : x / y = z) (hp : pc + 1 = pc') (g : Go p e below P T (mkF m pc' Ls (.long z :: st))) : Go p e below P T (mkF m pc Ls (.long y :: .long x :: st)) := by
  subst hp hz
  exact Go.to (fun _ q => XT.ldiv k.1.here k.2.1 rfl (hb k.2.2.2.2.2.1 hd) rfl hy q) g
theorem s_irem (k : K p l e R s m args below meth c bytes own maxL ret nm T locs cells slots Z h n0) {x y : Int32} {z : Int32} (hd : decode bytes pc = .ok (.irem, 1)) (hy : y ≠ 0) (hz : x % y = z) (hp : pc + 1 = pc') (g : Go p e below P T (mkF m pc' Ls (.int z :: st))) : Go p e below P T (mkF m pc Ls (.int y :: .int x :: st)) := by
  subst hp hz
  exact Go.to (fun _ q => iremM k.1 k.2.1 rfl (hb k.2.2.2.2.2.1 hd) rfl hy q) g
theorem s_lrem (k : K p l e R s m args below meth c bytes own maxL ret nm T locs cells slots Z h n0) {x y : Int64} {z : Int64} (hd : decode bytes pc = .ok (.lrem, 1)) (hy : y ≠ 0) (hz : x - x / y * y = z) (hp : pc + 1 = pc') (g : Go p e below P T (mkF m pc' Ls (.long z :: st))) : Go p e below P T (mkF m pc Ls (.long y :: .long x :: st)) := by
  subst hp hz
  exact Go.to (fun _ q => XT.lrem k.1.here k.2.1 rfl (hb k.2.2.2.2.2.1 hd) rfl hy q) g
theorem s_lneg (k : K p l e R s m args below meth c bytes own maxL ret nm T locs cells slots Z h n0) {x : Int64} {z : Int64} (hd : decode bytes pc = .ok (.lneg, 1))  (hz : -x = z) (hp : pc + 1 = pc') (g : Go p e below P T (mkF m pc' Ls (.long z :: st))) : Go p e below P T (mkF m pc Ls (.long x :: st)) := by
  subst hp hz
  exact Go.to (fun _ q => XT.lneg k.1.here k.2.1 rfl (hb k.2.2.2.2.2.1 hd) rfl q) g
theorem s_ineg (k : K p l e R s m args below meth c bytes own maxL ret nm T locs cells slots Z h n0) {x : Int32} {z : Int32} (hd : decode bytes pc = .ok (.ineg, 1))  (hz : -x = z) (hp : pc + 1 = pc') (g : Go p e below P T (mkF m pc' Ls (.int z :: st))) : Go p e below P T (mkF m pc Ls (.int x :: st)) := by
  subst hp hz
  exact Go.to (fun _ q => XS.ineg k.1.here k.2.1 rfl (hb k.2.2.2.2.2.1 hd) rfl q) g
theorem s_i2l (k : K p l e R s m args below meth c bytes own maxL ret nm T locs cells slots Z h n0) {x : Int32} {z : Int64} (hd : decode bytes pc = .ok (.i2l, 1))  (hz : x.toInt64 = z) (hp : pc + 1 = pc') (g : Go p e below P T (mkF m pc' Ls (.long z :: st))) : Go p e below P T (mkF m pc Ls (.int x :: st)) := by
  subst hp hz
  exact Go.to (fun _ q => XT.i2l k.1.here k.2.1 rfl (hb k.2.2.2.2.2.1 hd) rfl q) g
theorem s_l2i (k : K p l e R s m args below meth c bytes own maxL ret nm T locs cells slots Z h n0) {x : Int64} {z : Int32} (hd : decode bytes pc = .ok (.l2i, 1))  (hz : x.toInt32 = z) (hp : pc + 1 = pc') (g : Go p e below P T (mkF m pc' Ls (.int z :: st))) : Go p e below P T (mkF m pc Ls (.long x :: st)) := by
  subst hp hz
  exact Go.to (fun _ q => XT.l2i k.1.here k.2.1 rfl (hb k.2.2.2.2.2.1 hd) rfl q) g
theorem s_i2b (k : K p l e R s m args below meth c bytes own maxL ret nm T locs cells slots Z h n0) {x : Int32} {z : Int32} (hd : decode bytes pc = .ok (.i2b, 1))  (hz : x.toInt8.toInt32 = z) (hp : pc + 1 = pc') (g : Go p e below P T (mkF m pc' Ls (.int z :: st))) : Go p e below P T (mkF m pc Ls (.int x :: st)) := by
  subst hp hz
  exact Go.to (fun _ q => XT.i2b k.1.here k.2.1 rfl (hb k.2.2.2.2.2.1 hd) rfl q) g
theorem s_i2c (k : K p l e R s m args below meth c bytes own maxL ret nm T locs cells slots Z h n0) {x : Int32} {z : Int32} (hd : decode bytes pc = .ok (.i2c, 1))  (hz : x.toUInt32.toUInt16.toUInt32.toInt32 = z) (hp : pc + 1 = pc') (g : Go p e below P T (mkF m pc' Ls (.int z :: st))) : Go p e below P T (mkF m pc Ls (.int x :: st)) := by
  subst hp hz
  exact Go.to (fun _ q => XT.i2c k.1.here k.2.1 rfl (hb k.2.2.2.2.2.1 hd) rfl q) g
theorem s_dup (k : K p l e R s m args below meth c bytes own maxL ret nm T locs cells slots Z h n0) {x : Value} (hd : decode bytes pc = .ok (.dup, 1)) (hc : x.category = 1) (hp : pc + 1 = pc') (g : Go p e below P T (mkF m pc' Ls (x :: x :: st))) : Go p e below P T (mkF m pc Ls (x :: st)) := by
  subst hp
  exact Go.to (fun _ q => XS.dup k.1.here k.2.1 rfl (hb k.2.2.2.2.2.1 hd) rfl hc q) g
theorem s_pop (k : K p l e R s m args below meth c bytes own maxL ret nm T locs cells slots Z h n0) {x : Value} (hd : decode bytes pc = .ok (.pop, 1)) (hc : x.category = 1) (hp : pc + 1 = pc') (g : Go p e below P T (mkF m pc' Ls st)) : Go p e below P T (mkF m pc Ls (x :: st)) := by
  subst hp
  exact Go.to (fun _ q => XT.pop k.1.here k.2.1 rfl (hb k.2.2.2.2.2.1 hd) rfl hc q) g
theorem s_dupx1 (k : K p l e R s m args below meth c bytes own maxL ret nm T locs cells slots Z h n0) {x y : Value} (hd : decode bytes pc = .ok (.dup_x1, 1)) (hc : x.category = 1) (hc' : y.category = 1) (hp : pc + 1 = pc') (g : Go p e below P T (mkF m pc' Ls (x :: y :: x :: st))) : Go p e below P T (mkF m pc Ls (x :: y :: st)) := by
  subst hp
  exact Go.to (fun _ q => XT.dupX1 k.1.here k.2.1 rfl (hb k.2.2.2.2.2.1 hd) rfl hc hc' q) g
theorem s_dup2 (k : K p l e R s m args below meth c bytes own maxL ret nm T locs cells slots Z h n0) {x y : Value} (hd : decode bytes pc = .ok (.dup2, 1)) (hc : x.category = 1) (hc' : y.category = 1) (hp : pc + 1 = pc') (g : Go p e below P T (mkF m pc' Ls (x :: y :: x :: y :: st))) : Go p e below P T (mkF m pc Ls (x :: y :: st)) := by
  subst hp
  exact Go.to (fun _ q => XT.dup2 k.1.here k.2.1 rfl (hb k.2.2.2.2.2.1 hd) rfl hc hc' q) g
theorem s_iinc (k : K p l e R s m args below meth c bytes own maxL ret nm T locs cells slots Z h n0) {i : Nat} {d : Int} {x z : Int32} {l' : Array Slot} (hd : decode bytes pc = .ok (.iinc i d, 3)) (hl : Ls[i]? = some (.val (.int x))) (hz : x + Int32.ofInt d = z) (hl' : storeLocals Ls i (.int z) = some l') (hp : pc + 3 = pc') (g : Go p e below P T (mkF m pc' l' st)) : Go p e below P T (mkF m pc Ls st) := by
  subst hp
  exact Go.to (fun _ q => XS.iinc k.1.here k.2.1 rfl (hb k.2.2.2.2.2.1 hd) hl (hz ▸ hl') q) g
theorem s_goto (k : K p l e R s m args below meth c bytes own maxL ret nm T locs cells slots Z h n0) {o : Int} (hd : decode bytes pc = .ok (.goto o, 3)) (ho : 0 ≤ (pc : Int) + o) (hp : ((pc : Int) + o).toNat = pc') (g : Go p e below P T (mkF m pc' Ls st)) : Go p e below P T (mkF m pc Ls st) :=
  Go.to (fun _ q => XS.goto k.1.here k.2.1 rfl rfl (hb k.2.2.2.2.2.1 hd) ho hp q) g
theorem s_icmp_eq (k : K p l e R s m args below meth c bytes own maxL ret nm T locs cells slots Z h n0) {x y : Int32} {o : Int} (hd : decode bytes pc = .ok (.if_icmp .eq o, 3)) (ho : 0 ≤ (pc : Int) + o) (hp : ((pc : Int) + o).toNat = pc') (h3 : pc + 3 = pc3) (gt : x = y → Go p e below P T (mkF m pc' Ls st)) (gf : ¬ (x = y) → Go p e below P T (mkF m pc3 Ls st)) : Go p e below P T (mkF m pc Ls (.int y :: .int x :: st)) := by
  subst h3
  by_cases hc : x = y
  · exact Go.to (fun _ q => XS.icmpYes k.1.here k.2.1 rfl rfl (hb k.2.2.2.2.2.1 hd) rfl (teq hc).1 ho hp q) (gt hc)
  · exact Go.to (fun _ q => XS.icmpNo k.1.here k.2.1 rfl (hb k.2.2.2.2.2.1 hd) rfl (feq hc).1 q) (gf hc)
theorem s_if_eq (k : K p l e R s m args below meth c bytes own maxL ret nm T locs cells slots Z h n0) {x : Int32} {o : Int} (hd : decode bytes pc = .ok (.ifCond .eq o, 3)) (ho : 0 ≤ (pc : Int) + o) (hp : ((pc : Int) + o).toNat = pc') (h3 : pc + 3 = pc3) (gt : x = 0 → Go p e below P T (mkF m pc' Ls st)) (gf : ¬ (x = 0) → Go p e below P T (mkF m pc3 Ls st)) : Go p e below P T (mkF m pc Ls (.int x :: st)) := by
  subst h3
  by_cases hc : x = 0
  · exact Go.to (fun _ q => XS.ifYes k.1.here k.2.1 rfl rfl (hb k.2.2.2.2.2.1 hd) rfl ((if0 _ _).trans (teq hc).1) ho hp q) (gt hc)
  · exact Go.to (fun _ q => XS.ifNo k.1.here k.2.1 rfl (hb k.2.2.2.2.2.1 hd) rfl ((if0 _ _).trans (feq hc).1) q) (gf hc)
theorem s_icmp_ne (k : K p l e R s m args below meth c bytes own maxL ret nm T locs cells slots Z h n0) {x y : Int32} {o : Int} (hd : decode bytes pc = .ok (.if_icmp .ne o, 3)) (ho : 0 ≤ (pc : Int) + o) (hp : ((pc : Int) + o).toNat = pc') (h3 : pc + 3 = pc3) (gt : x = y → Go p e below P T (mkF m pc3 Ls st)) (gf : ¬ (x = y) → Go p e below P T (mkF m pc' Ls st)) : Go p e below P T (mkF m pc Ls (.int y :: .int x :: st)) := by
  subst h3
  by_cases hc : x = y
  · exact Go.to (fun _ q => XS.icmpNo k.1.here k.2.1 rfl (hb k.2.2.2.2.2.1 hd) rfl (teq hc).2 q) (gt hc)
  · exact Go.to (fun _ q => XS.icmpYes k.1.here k.2.1 rfl rfl (hb k.2.2.2.2.2.1 hd) rfl (feq hc).2 ho hp q) (gf hc)
theorem s_if_ne (k : K p l e R s m args below meth c bytes own maxL ret nm T locs cells slots Z h n0) {x : Int32} {o : Int} (hd : decode bytes pc = .ok (.ifCond .ne o, 3)) (ho : 0 ≤ (pc : Int) + o) (hp : ((pc : Int) + o).toNat = pc') (h3 : pc + 3 = pc3) (gt : x = 0 → Go p e below P T (mkF m pc3 Ls st)) (gf : ¬ (x = 0) → Go p e below P T (mkF m pc' Ls st)) : Go p e below P T (mkF m pc Ls (.int x :: st)) := by
  subst h3
  by_cases hc : x = 0
  · exact Go.to (fun _ q => XS.ifNo k.1.here k.2.1 rfl (hb k.2.2.2.2.2.1 hd) rfl ((if0 _ _).trans (teq hc).2) q) (gt hc)
  · exact Go.to (fun _ q => XS.ifYes k.1.here k.2.1 rfl rfl (hb k.2.2.2.2.2.1 hd) rfl ((if0 _ _).trans (feq hc).2) ho hp q) (gf hc)
theorem s_icmp_lt (k : K p l e R s m args below meth c bytes own maxL ret nm T locs cells slots Z h n0) {x y : Int32} {o : Int} (hd : decode bytes pc = .ok (.if_icmp .lt o, 3)) (ho : 0 ≤ (pc : Int) + o) (hp : ((pc : Int) + o).toNat = pc') (h3 : pc + 3 = pc3) (gt : x < y → Go p e below P T (mkF m pc' Ls st)) (gf : ¬ (x < y) → Go p e below P T (mkF m pc3 Ls st)) : Go p e below P T (mkF m pc Ls (.int y :: .int x :: st)) := by
  subst h3
  by_cases hc : x < y
  · exact Go.to (fun _ q => XS.icmpYes k.1.here k.2.1 rfl rfl (hb k.2.2.2.2.2.1 hd) rfl (tlt hc).1 ho hp q) (gt hc)
  · exact Go.to (fun _ q => XS.icmpNo k.1.here k.2.1 rfl (hb k.2.2.2.2.2.1 hd) rfl (flt hc).1 q) (gf hc)
theorem s_if_lt (k : K p l e R s m args below meth c bytes own maxL ret nm T locs cells slots Z h n0) {x : Int32} {o : Int} (hd : decode bytes pc = .ok (.ifCond .lt o, 3)) (ho : 0 ≤ (pc : Int) + o) (hp : ((pc : Int) + o).toNat = pc') (h3 : pc + 3 = pc3) (gt : x < 0 → Go p e below P T (mkF m pc' Ls st)) (gf : ¬ (x < 0) → Go p e below P T (mkF m pc3 Ls st)) : Go p e below P T (mkF m pc Ls (.int x :: st)) := by
  subst h3
  by_cases hc : x < 0
  · exact Go.to (fun _ q => XS.ifYes k.1.here k.2.1 rfl rfl (hb k.2.2.2.2.2.1 hd) rfl ((if0 _ _).trans (tlt hc).1) ho hp q) (gt hc)
  · exact Go.to (fun _ q => XS.ifNo k.1.here k.2.1 rfl (hb k.2.2.2.2.2.1 hd) rfl ((if0 _ _).trans (flt hc).1) q) (gf hc)
theorem s_icmp_ge (k : K p l e R s m args below meth c bytes own maxL ret nm T locs cells slots Z h n0) {x y : Int32} {o : Int} (hd : decode bytes pc = .ok (.if_icmp .ge o, 3)) (ho : 0 ≤ (pc : Int) + o) (hp : ((pc : Int) + o).toNat = pc') (h3 : pc + 3 = pc3) (gt : x < y → Go p e below P T (mkF m pc3 Ls st)) (gf : ¬ (x < y) → Go p e below P T (mkF m pc' Ls st)) : Go p e below P T (mkF m pc Ls (.int y :: .int x :: st)) := by
  subst h3
  by_cases hc : x < y
  · exact Go.to (fun _ q => XS.icmpNo k.1.here k.2.1 rfl (hb k.2.2.2.2.2.1 hd) rfl (tlt hc).2.1 q) (gt hc)
  · exact Go.to (fun _ q => XS.icmpYes k.1.here k.2.1 rfl rfl (hb k.2.2.2.2.2.1 hd) rfl (flt hc).2.1 ho hp q) (gf hc)
theorem s_if_ge (k : K p l e R s m args below meth c bytes own maxL ret nm T locs cells slots Z h n0) {x : Int32} {o : Int} (hd : decode bytes pc = .ok (.ifCond .ge o, 3)) (ho : 0 ≤ (pc : Int) + o) (hp : ((pc : Int) + o).toNat = pc') (h3 : pc + 3 = pc3) (gt : x < 0 → Go p e below P T (mkF m pc3 Ls st)) (gf : ¬ (x < 0) → Go p e below P T (mkF m pc' Ls st)) : Go p e below P T (mkF m pc Ls (.int x :: st)) := by
  subst h3
  by_cases hc : x < 0
  · exact Go.to (fun _ q => XS.ifNo k.1.here k.2.1 rfl (hb k.2.2.2.2.2.1 hd) rfl ((if0 _ _).trans (tlt hc).2.1) q) (gt hc)
  · exact Go.to (fun _ q => XS.ifYes k.1.here k.2.1 rfl rfl (hb k.2.2.2.2.2.1 hd) rfl ((if0 _ _).trans (flt hc).2.1) ho hp q) (gf hc)
theorem s_icmp_gt (k : K p l e R s m args below meth c bytes own maxL ret nm T locs cells slots Z h n0) {x y : Int32} {o : Int} (hd : decode bytes pc = .ok (.if_icmp .gt o, 3)) (ho : 0 ≤ (pc : Int) + o) (hp : ((pc : Int) + o).toNat = pc') (h3 : pc + 3 = pc3) (gt : y < x → Go p e below P T (mkF m pc' Ls st)) (gf : ¬ (y < x) → Go p e below P T (mkF m pc3 Ls st)) : Go p e below P T (mkF m pc Ls (.int y :: .int x :: st)) := by
  subst h3
  by_cases hc : y < x
  · exact Go.to (fun _ q => XS.icmpYes k.1.here k.2.1 rfl rfl (hb k.2.2.2.2.2.1 hd) rfl (tlt hc).2.2.1 ho hp q) (gt hc)
  · exact Go.to (fun _ q => XS.icmpNo k.1.here k.2.1 rfl (hb k.2.2.2.2.2.1 hd) rfl (flt hc).2.2.1 q) (gf hc)
theorem s_if_gt (k : K p l e R s m args below meth c bytes own maxL ret nm T locs cells slots Z h n0) {x : Int32} {o : Int} (hd : decode bytes pc = .ok (.ifCond .gt o, 3)) (ho : 0 ≤ (pc : Int) + o) (hp : ((pc : Int) + o).toNat = pc') (h3 : pc + 3 = pc3) (gt : 0 < x → Go p e below P T (mkF m pc' Ls st)) (gf : ¬ (0 < x) → Go p e below P T (mkF m pc3 Ls st)) : Go p e below P T (mkF m pc Ls (.int x :: st)) := by
  subst h3
  by_cases hc : 0 < x
  · exact Go.to (fun _ q => XS.ifYes k.1.here k.2.1 rfl rfl (hb k.2.2.2.2.2.1 hd) rfl ((if0 _ _).trans (tlt hc).2.2.1) ho hp q) (gt hc)
  · exact Go.to (fun _ q => XS.ifNo k.1.here k.2.1 rfl (hb k.2.2.2.2.2.1 hd) rfl ((if0 _ _).trans (flt hc).2.2.1) q) (gf hc)
theorem s_icmp_le (k : K p l e R s m args below meth c bytes own maxL ret nm T locs cells slots Z h n0) {x y : Int32} {o : Int} (hd : decode bytes pc = .ok (.if_icmp .le o, 3)) (ho : 0 ≤ (pc : Int) + o) (hp : ((pc : Int) + o).toNat = pc') (h3 : pc + 3 = pc3) (gt : y < x → Go p e below P T (mkF m pc3 Ls st)) (gf : ¬ (y < x) → Go p e below P T (mkF m pc' Ls st)) : Go p e below P T (mkF m pc Ls (.int y :: .int x :: st)) := by
  subst h3
  by_cases hc : y < x
  · exact Go.to (fun _ q => XS.icmpNo k.1.here k.2.1 rfl (hb k.2.2.2.2.2.1 hd) rfl (tlt hc).2.2.2 q) (gt hc)
  · exact Go.to (fun _ q => XS.icmpYes k.1.here k.2.1 rfl rfl (hb k.2.2.2.2.2.1 hd) rfl (flt hc).2.2.2 ho hp q) (gf hc)
theorem s_if_le (k : K p l e R s m args below meth c bytes own maxL ret nm T locs cells slots Z h n0) {x : Int32} {o : Int} (hd : decode bytes pc = .ok (.ifCond .le o, 3)) (ho : 0 ≤ (pc : Int) + o) (hp : ((pc : Int) + o).toNat = pc') (h3 : pc + 3 = pc3) (gt : 0 < x → Go p e below P T (mkF m pc3 Ls st)) (gf : ¬ (0 < x) → Go p e below P T (mkF m pc' Ls st)) : Go p e below P T (mkF m pc Ls (.int x :: st)) := by
  subst h3
  by_cases hc : 0 < x
  · exact Go.to (fun _ q => XS.ifNo k.1.here k.2.1 rfl (hb k.2.2.2.2.2.1 hd) rfl ((if0 _ _).trans (tlt hc).2.2.2) q) (gt hc)
  · exact Go.to (fun _ q => XS.ifYes k.1.here k.2.1 rfl rfl (hb k.2.2.2.2.2.1 hd) rfl ((if0 _ _).trans (flt hc).2.2.2) ho hp q) (gf hc)
theorem cmpL_lt (x y : Int64) : XT.cmpL x y < 0 ↔ x < y := by unfold XT.cmpL; split <;> (try split) <;> simp_all [Int64.lt_iff_toInt_lt, ← Int64.toInt_inj] <;> omega
theorem cmpL_gt (x y : Int64) : 0 < XT.cmpL x y ↔ y < x := by unfold XT.cmpL; split <;> (try split) <;> simp_all [Int64.lt_iff_toInt_lt, ← Int64.toInt_inj] <;> omega
theorem cmpL_eq (x y : Int64) : XT.cmpL x y = 0 ↔ x = y := by unfold XT.cmpL; split <;> (try split) <;> simp_all [Int64.lt_iff_toInt_lt, ← Int64.toInt_inj] <;> omega
theorem s_lcmp_eq (k : K p l e R s m args below meth c bytes own maxL ret nm T locs cells slots Z h n0) {x y : Int64} {o : Int} {pc1 : Nat} (hd1 : decode bytes pc = .ok (.lcmp, 1)) (h1 : pc + 1 = pc1) (hd : decode bytes pc1 = .ok (.ifCond .eq o, 3)) (ho : 0 ≤ (pc1 : Int) + o) (hp : ((pc1 : Int) + o).toNat = pc') (h3 : pc1 + 3 = pc3) (gt : x = y → Go p e below P T (mkF m pc' Ls st)) (gf : ¬ (x = y) → Go p e below P T (mkF m pc3 Ls st)) : Go p e below P T (mkF m pc Ls (.long y :: .long x :: st)) := by
  subst h1
  refine Go.to (fun _ q => XT.lcmp k.1.here k.2.1 rfl (hb k.2.2.2.2.2.1 hd1) rfl q) ?_
  exact s_if_eq k hd ho hp h3 (fun q => gt ((cmpL_eq x y).mp q)) (fun q => gf fun z => q ((cmpL_eq x y).mpr z))
theorem s_lcmp_ne (k : K p l e R s m args below meth c bytes own maxL ret nm T locs cells slots Z h n0) {x y : Int64} {o : Int} {pc1 : Nat} (hd1 : decode bytes pc = .ok (.lcmp, 1)) (h1 : pc + 1 = pc1) (hd : decode bytes pc1 = .ok (.ifCond .ne o, 3)) (ho : 0 ≤ (pc1 : Int) + o) (hp : ((pc1 : Int) + o).toNat = pc') (h3 : pc1 + 3 = pc3) (gt : x = y → Go p e below P T (mkF m pc3 Ls st)) (gf : ¬ (x = y) → Go p e below P T (mkF m pc' Ls st)) : Go p e below P T (mkF m pc Ls (.long y :: .long x :: st)) := by
  subst h1
  refine Go.to (fun _ q => XT.lcmp k.1.here k.2.1 rfl (hb k.2.2.2.2.2.1 hd1) rfl q) ?_
  exact s_if_ne k hd ho hp h3 (fun q => gt ((cmpL_eq x y).mp q)) (fun q => gf fun z => q ((cmpL_eq x y).mpr z))
theorem s_lcmp_lt (k : K p l e R s m args below meth c bytes own maxL ret nm T locs cells slots Z h n0) {x y : Int64} {o : Int} {pc1 : Nat} (hd1 : decode bytes pc = .ok (.lcmp, 1)) (h1 : pc + 1 = pc1) (hd : decode bytes pc1 = .ok (.ifCond .lt o, 3)) (ho : 0 ≤ (pc1 : Int) + o) (hp : ((pc1 : Int) + o).toNat = pc') (h3 : pc1 + 3 = pc3) (gt : x < y → Go p e below P T (mkF m pc' Ls st)) (gf : ¬ (x < y) → Go p e below P T (mkF m pc3 Ls st)) : Go p e below P T (mkF m pc Ls (.long y :: .long x :: st)) := by
  subst h1
  refine Go.to (fun _ q => XT.lcmp k.1.here k.2.1 rfl (hb k.2.2.2.2.2.1 hd1) rfl q) ?_
  exact s_if_lt k hd ho hp h3 (fun q => gt ((cmpL_lt x y).mp q)) (fun q => gf fun z => q ((cmpL_lt x y).mpr z))
theorem s_lcmp_ge (k : K p l e R s m args below meth c bytes own maxL ret nm T locs cells slots Z h n0) {x y : Int64} {o : Int} {pc1 : Nat} (hd1 : decode bytes pc = .ok (.lcmp, 1)) (h1 : pc + 1 = pc1) (hd : decode bytes pc1 = .ok (.ifCond .ge o, 3)) (ho : 0 ≤ (pc1 : Int) + o) (hp : ((pc1 : Int) + o).toNat = pc') (h3 : pc1 + 3 = pc3) (gt : x < y → Go p e below P T (mkF m pc3 Ls st)) (gf : ¬ (x < y) → Go p e below P T (mkF m pc' Ls st)) : Go p e below P T (mkF m pc Ls (.long y :: .long x :: st)) := by
  subst h1
  refine Go.to (fun _ q => XT.lcmp k.1.here k.2.1 rfl (hb k.2.2.2.2.2.1 hd1) rfl q) ?_
  exact s_if_ge k hd ho hp h3 (fun q => gt ((cmpL_lt x y).mp q)) (fun q => gf fun z => q ((cmpL_lt x y).mpr z))
theorem s_lcmp_gt (k : K p l e R s m args below meth c bytes own maxL ret nm T locs cells slots Z h n0) {x y : Int64} {o : Int} {pc1 : Nat} (hd1 : decode bytes pc = .ok (.lcmp, 1)) (h1 : pc + 1 = pc1) (hd : decode bytes pc1 = .ok (.ifCond .gt o, 3)) (ho : 0 ≤ (pc1 : Int) + o) (hp : ((pc1 : Int) + o).toNat = pc') (h3 : pc1 + 3 = pc3) (gt : y < x → Go p e below P T (mkF m pc' Ls st)) (gf : ¬ (y < x) → Go p e below P T (mkF m pc3 Ls st)) : Go p e below P T (mkF m pc Ls (.long y :: .long x :: st)) := by
  subst h1
  refine Go.to (fun _ q => XT.lcmp k.1.here k.2.1 rfl (hb k.2.2.2.2.2.1 hd1) rfl q) ?_
  exact s_if_gt k hd ho hp h3 (fun q => gt ((cmpL_gt x y).mp q)) (fun q => gf fun z => q ((cmpL_gt x y).mpr z))
theorem s_lcmp_le (k : K p l e R s m args below meth c bytes own maxL ret nm T locs cells slots Z h n0) {x y : Int64} {o : Int} {pc1 : Nat} (hd1 : decode bytes pc = .ok (.lcmp, 1)) (h1 : pc + 1 = pc1) (hd : decode bytes pc1 = .ok (.ifCond .le o, 3)) (ho : 0 ≤ (pc1 : Int) + o) (hp : ((pc1 : Int) + o).toNat = pc') (h3 : pc1 + 3 = pc3) (gt : y < x → Go p e below P T (mkF m pc3 Ls st)) (gf : ¬ (y < x) → Go p e below P T (mkF m pc' Ls st)) : Go p e below P T (mkF m pc Ls (.long y :: .long x :: st)) := by
  subst h1
  refine Go.to (fun _ q => XT.lcmp k.1.here k.2.1 rfl (hb k.2.2.2.2.2.1 hd1) rfl q) ?_
  exact s_if_le k hd ho hp h3 (fun q => gt ((cmpL_gt x y).mp q)) (fun q => gf fun z => q ((cmpL_gt x y).mpr z))
theorem s_ldcI (k : K p l e R s m args below meth c bytes own maxL ret nm T locs cells slots Z h n0) {index : Nat} {v : Int32} (hd : decode bytes pc = .ok (.ldc index, 2)) (w : (Cond.constant own index v).before a0 Z = true) (hp : pc + 2 = pc') (g : Go p e below P T (mkF m pc' Ls (.int v :: st))) : Go p e below P T (mkF m pc Ls st) := by
  subst hp
  exact Go.to (k.1.ldcInt k.2.1 k.2.2.2.2.2.2.1 (mvT k.2.2.1 w) (g := mkF m pc Ls st) rfl (hb k.2.2.2.2.2.1 hd)) g
theorem s_ldcwI (k : K p l e R s m args below meth c bytes own maxL ret nm T locs cells slots Z h n0) {index : Nat} {v : Int32} (hd : decode bytes pc = .ok (.ldc_w index, 3)) (w : (Cond.constant own index v).before a0 Z = true) (hp : pc + 3 = pc') (g : Go p e below P T (mkF m pc' Ls (.int v :: st))) : Go p e below P T (mkF m pc Ls st) := by
  subst hp
  exact Go.to (k.1.ldcwInt k.2.1 k.2.2.2.2.2.2.1 (mvT k.2.2.1 w) (g := mkF m pc Ls st) rfl (hb k.2.2.2.2.2.1 hd)) g
theorem s_ldcL (k : K p l e R s m args below meth c bytes own maxL ret nm T locs cells slots Z h n0) {index : Nat} {v : Int64} (hd : decode bytes pc = .ok (.ldc2_w index, 3)) (w : (Cond.constantLong own index v).before a0 Z = true) (hp : pc + 3 = pc') (g : Go p e below P T (mkF m pc' Ls (.long v :: st))) : Go p e below P T (mkF m pc Ls st) := by
  subst hp
  exact Go.to (k.1.ldc2Long k.2.1 k.2.2.2.2.2.2.1 (mvT k.2.2.1 w) (g := mkF m pc Ls st) rfl (hb k.2.2.2.2.2.1 hd)) g
/-- a null test -/
theorem s_nullY (k : K p l e R s m args below meth c bytes own maxL ret nm T locs cells slots Z h n0) {o : Int} (hd : decode bytes pc = .ok (.ifnull o, 3)) (ho : 0 ≤ (pc : Int) + o) (hp : ((pc : Int) + o).toNat = pc') (g : Go p e below P T (mkF m pc' Ls st)) : Go p e below P T (mkF m pc Ls (.null :: st)) :=
  Go.to (fun _ q => XS.ifnullYes k.1.here k.2.1 rfl rfl (hb k.2.2.2.2.2.1 hd) rfl ho hp q) g
theorem s_nullN (k : K p l e R s m args below meth c bytes own maxL ret nm T locs cells slots Z h n0) {o : Int} {b : Addr} (hd : decode bytes pc = .ok (.ifnull o, 3)) (hp : pc + 3 = pc') (g : Go p e below P T (mkF m pc' Ls st)) : Go p e below P T (mkF m pc Ls (.ref b :: st)) := by
  subst hp
  exact Go.to (fun _ q => XS.ifnullNo k.1.here k.2.1 rfl (hb k.2.2.2.2.2.1 hd) rfl q) g
theorem s_nonnullY (k : K p l e R s m args below meth c bytes own maxL ret nm T locs cells slots Z h n0) {o : Int} {b : Addr} (hd : decode bytes pc = .ok (.ifnonnull o, 3)) (ho : 0 ≤ (pc : Int) + o) (hp : ((pc : Int) + o).toNat = pc') (g : Go p e below P T (mkF m pc' Ls st)) : Go p e below P T (mkF m pc Ls (.ref b :: st)) :=
  Go.to (fun _ q => XT.ifnonnullYes k.1.here k.2.1 rfl rfl (hb k.2.2.2.2.2.1 hd) rfl ho hp q) g
theorem s_nonnullN (k : K p l e R s m args below meth c bytes own maxL ret nm T locs cells slots Z h n0) {o : Int} (hd : decode bytes pc = .ok (.ifnonnull o, 3)) (hp : pc + 3 = pc') (g : Go p e below P T (mkF m pc' Ls st)) : Go p e below P T (mkF m pc Ls (.null :: st)) := by
  subst hp
  exact Go.to (fun _ q => XT.ifnonnullNo k.1.here k.2.1 rfl (hb k.2.2.2.2.2.1 hd) rfl q) g
theorem s_acmp_ne (k : K p l e R s m args below meth c bytes own maxL ret nm T locs cells slots Z h n0) {x y : Value} {o : Int} (hd : decode bytes pc = .ok (.if_acmp .ne o, 3)) (hx : x.isRef = true) (hy : y.isRef = true) (ho : 0 ≤ (pc : Int) + o) (hp : ((pc : Int) + o).toNat = pc') (h3 : pc + 3 = pc3) (gt : x = y → Go p e below P T (mkF m pc3 Ls st)) (gf : ¬ (x = y) → Go p e below P T (mkF m pc' Ls st)) : Go p e below P T (mkF m pc Ls (y :: x :: st)) := by
  by_cases hc : x = y
  · exact Go.to (fun _ q => Jvm.RoadKit.acmp (g := mkF m pc Ls (y :: x :: st)) k.1 k.2.1 rfl hx hy (pc' := pc3) (same := true) rfl (hb k.2.2.2.2.2.1 hd) rfl (decide_eq_true hc) ho h3.symm q) (gt hc)
  · exact Go.to (fun _ q => Jvm.RoadKit.acmp (g := mkF m pc Ls (y :: x :: st)) k.1 k.2.1 rfl hx hy (pc' := pc') (same := false) rfl (hb k.2.2.2.2.2.1 hd) rfl (decide_eq_false hc) ho hp.symm q) (gf hc)
/-- getfield -/
theorem s_get (k : K p l e R s m args below meth c bytes own maxL ret nm T locs cells slots Z h n0) {R0 O n d host : String} {index : Nat} {a : Addr} {v : Value} (hd : decode bytes pc = .ok (.getfield index, 3)) (w : (Cond.fieldLink own index R0 n d).before a0 Z = true ∨ (Cond.fieldLinkNest own index R0 n d host).before a0 Z = true) (via : Via Z R0 O n d) (F : Fld Z h a O n d v) (hp : pc + 3 = pc')
    (g : ∀ T', K p l e R s m args below meth c bytes own maxL ret nm T' locs cells slots Z h n0 → Go p e below P T' (mkF m pc' Ls (v :: st))) : Go p e below P T (mkF m pc Ls (.ref a :: st)) := by
  subst hp
  obtain ⟨T', X', e', q⟩ := getF k.1 k.2.1 k.2.2.1 k.2.2.2.2.2.2.1 w via k.2.2.2.1 F (g := mkF m pc Ls (.ref a :: st)) rfl rfl (hb k.2.2.2.2.2.1 hd)
  exact Go.to q (g T' (k_hp k X' e' k.2.2.2.2.1))
/-- putfield -/
theorem s_put (k : K p l e R s m args below meth c bytes own maxL ret nm T locs cells slots Z h n0) {R0 O n d host C : String} {index kk : Nat} {ty : FieldType} {a : Addr} {v old : Value} (hd : decode bytes pc = .ok (.putfield index, 3)) (w : (Cond.fieldLink own index R0 n d).before a0 Z = true ∨ (Cond.fieldLinkNest own index R0 n d host).before a0 Z = true) (via : Via Z R0 O n d) (F : Fld Z h a O n d old) (E : Exa Z h a C) (L : (Cond.lays C O n d).before a0 Z = true ∨ ((Cond.laysFinal C O n d).before a0 Z = true ∧ own = O ∧ nm = "<init>")) (wi : (Cond.instantiable C kk).before a0 Z = true)
    (hty : parseFieldDescriptor d = some ty) (hn : narrow ty v = v) (hf : fits ty v = true) (ha : n0 ≤ a) (hp : pc + 3 = pc')
    (g : ∀ T' h' L', K p l e R s m args below meth c bytes own maxL ret nm T' L' cells slots Z h' n0 → Wr h h' a (Jvm.RoadKit.slotOf Z O n d) v → Go p e below P T' (mkF m pc' Ls st)) : Go p e below P T (mkF m pc Ls (v :: .ref a :: st)) := by
  subst hp
  obtain ⟨T', h', X', e', W, q⟩ := putF k.1 k.2.1 k.2.2.1 k.2.2.2.2.2.2.1 w via k.2.2.2.1 F E (L.imp id fun z => ⟨z.1, z.2.1, k.2.2.2.2.2.2.2.2.2.1.trans z.2.2⟩) wi hty hn hf (g := mkF m pc Ls (v :: .ref a :: st)) rfl rfl (hb k.2.2.2.2.2.1 hd)
  exact Go.to q (g T' h' _ (k_hp k X' e' (Fr.snoc X' k.2.2.2.2.1 ha)) W)
/-- getfield by an entry that is resolved -/
theorem ready_of (k : K p l e R s m args below meth c bytes own maxL ret nm T locs cells slots Z h n0) {R0 O n d : String} {index : Nat} (w : (Cond.fieldRef own index R0 n d).before a0 Z = true) (via : Via Z R0 O n d) {cf i : Nat} {kk : Class} {f : Field} (h2 : Z.fieldFound? O n d = some (cf, kk, i, f)) : T.vm.fieldReady m.cls index cf f := by
  have hU : Z.Warmed39 T.vm := wtrans k.2.2.1 k.1.warmed
  have hw := Cond.fieldRef_warmed39 hU w
  have hcur : (Z.setVm T.vm).vm.findClass own = some m.cls := by
    show T.vm.findClass own = _
    rw [k.1.warmed.alike.findClass]; exact k.2.2.2.2.2.2.1
  obtain ⟨c1, k1, i1, f1, hi1, hr1⟩ := Cond.fieldRef_spec hcur hw
  obtain ⟨k', hi', -⟩ := State.fieldFound?_setVm (s := Z) hU.alike (via _ h2)
  cases hi1.symm.trans hi'
  exact hr1
theorem s_getR (k : K p l e R s m args below meth c bytes own maxL ret nm T locs cells slots Z h n0) {R0 O n d : String} {index : Nat} {a : Addr} {v : Value} (hd : decode bytes pc = .ok (.getfield index, 3)) (w : (Cond.fieldRef own index R0 n d).before a0 Z = true) (via : Via Z R0 O n d) (F : Fld Z h a O n d v) (hp : pc + 3 = pc') (g : Go p e below P T (mkF m pc' Ls (v :: st))) : Go p e below P T (mkF m pc Ls (.ref a :: st)) := by
  subst hp
  obtain ⟨cell, cf, kk, i, f, h1, h2, h3, h4, -, -, h7⟩ := F
  have hr1 := ready_of k w via h2
  have hcell : T.heap[a]? = some cell := by rw [k.2.2.2.1]; exact h1
  refine Go.to (fun target q => ?_) g
  jvm_step k.1.here [k.2.1, hb k.2.2.2.2.2.1 hd, getfield.wp_ready (e := e) (s := T) (f := mkF m pc Ls (.ref a :: st)) k.1.here.top hr1 h3 rfl hcell h4 h7]
  exact q
/-- putfield by an entry that is resolved -/
theorem s_putR (k : K p l e R s m args below meth c bytes own maxL ret nm T locs cells slots Z h n0) {R0 O n d C : String} {index kk : Nat} {ty : FieldType} {a : Addr} {v old : Value} (hd : decode bytes pc = .ok (.putfield index, 3)) (w : (Cond.fieldRef own index R0 n d).before a0 Z = true) (via : Via Z R0 O n d) (F : Fld Z h a O n d old) (E : Exa Z h a C) (L : (Cond.lays C O n d).before a0 Z = true) (wi : (Cond.instantiable C kk).before a0 Z = true)
    (hty : parseFieldDescriptor d = some ty) (hn : narrow ty v = v) (hf : fits ty v = true) (ha : n0 ≤ a) (hp : pc + 3 = pc')
    (g : ∀ T' h' L', K p l e R s m args below meth c bytes own maxL ret nm T' L' cells slots Z h' n0 → Wr h h' a (Jvm.RoadKit.slotOf Z O n d) v → Go p e below P T' (mkF m pc' Ls st)) : Go p e below P T (mkF m pc Ls (v :: .ref a :: st)) := by
  subst hp
  obtain ⟨cell, cf, kf, i, f, h1, h2, h3, h4, h5, -, h7⟩ := F
  obtain ⟨cell', kc, e1, e2, e3, -⟩ := E
  cases h1.symm.trans e1
  obtain ⟨c1, k1, cf1, kf1, i1, f1, a1, a2, a3, -, -, a6, -⟩ := Laid.spec (Or.inl L)
  cases h2.symm.trans a3
  cases e2.symm.trans a1
  obtain ⟨c2, k2, i1, i2, i3, -⟩ := Cond.instantiable_spec wi
  cases e2.symm.trans i1
  cases a2.symm.trans i2
  have ht := (State.fieldFound?_type h2 hty).2
  have hfit : Z.fitsSlot cell.cls cell.vm f.slot v = true := by
    have q : Z.slotType? cell.cls cell.vm f.slot = some ty := by
      simp only [State.slotType?, a2, Option.bind_eq_bind, Option.bind_some, i3]
      cases hq : cell.vm <;> first | (rw [hq] at h5; exact Bool.noConfusion h5) | (rw [a6, ht])
    simp [State.fitsSlot, q, hf]
  have hU : Z.Warmed39 T.vm := wtrans k.2.2.1 k.1.warmed
  have hfit' : T.fitsSlot cell.cls cell.vm f.slot v = true := by rw [← State.fitsSlot_setVm hU.alike] at hfit; exact hfit
  have hfin : hasFlag f.accessFlags Acc.final = false := by
    obtain ⟨_, _, _, _, _, _, -, -, b3, -, b5, -⟩ := Cond.lays_spec L
    cases h2.symm.trans b3
    exact b5
  have hr1 := ready_of k w via h2
  have hlt := (Array.getElem?_eq_some_iff.mp h7).1
  have es : Jvm.RoadKit.slotOf Z O n d = f.slot := by simp [Jvm.RoadKit.slotOf, h2]
  have hcell : T.heap[a]? = some cell := by rw [k.2.2.2.1]; exact h1
  obtain ⟨X', q⟩ := k.1.putfieldReady k.2.1 hr1 h3 (Or.inl hfin) hcell h4 hlt (by rw [ht]; exact hn) hfit' (g := mkF m pc Ls (v :: .ref a :: st)) rfl rfl (hb k.2.2.2.2.2.1 hd)
  refine Go.to q (g _ _ _ (k_hp k X' rfl (Fr.snoc X' k.2.2.2.2.1 ha)) ?_)
  rw [es]
  exact ⟨cell, h1, h5, hlt, by rw [← k.2.2.2.1]; rfl⟩
/-- new -/
theorem s_new (k : K p l e R s m args below meth c bytes own maxL ret nm T locs cells slots Z h n0) {C : String} {index n : Nat} (hd : decode bytes pc = .ok (.new index, 3)) (w : (Cond.classLink own index C).before a0 Z = true) (wi : (Cond.instantiable C n).before a0 Z = true) (wz : (Cond.initialized C).before a0 Z = true) (hc : cells + 1 ≤ R.cells) (hl : slots + n ≤ R.slots) (hp : pc + 3 = pc')
    (g : ∀ T' h' b, b = h.size → K p l e R s m args below meth c bytes own maxL ret nm T' locs (cells + 1) (slots + n) Z h' n0 → Ext h h' → Exa Z h' b C → (∀ {O nm d : String} {ty : FieldType}, Laid Z a0 C O nm d → parseFieldDescriptor d = some ty → Fld Z h' b O nm d (defaultValue ty)) → Go p e below P T' (mkF m pc' Ls (.ref b :: st))) : Go p e below P T (mkF m pc Ls st) := by
  subst hp
  obtain ⟨T', h', X', e', E, A, D, -, q⟩ := newO k.1 k.2.1 k.2.2.1 k.2.2.2.2.2.2.1 w wi wz k.2.2.2.1 (g := mkF m pc Ls st) rfl (hb k.2.2.2.2.2.1 hd) hc hl
  exact Go.to q (g T' h' _ rfl (k_hp k X' e' k.2.2.2.2.1) E A D)
/-- newarray of a primitive kind -/
theorem s_newP (k : K p l e R s m args below meth c bytes own maxL ret nm T locs cells slots Z h n0) {aty : ArrayType} {n : Int32} {cap : Nat} (hd : decode bytes pc = .ok (.newarray aty, 2)) (w : (Cond.arrayClass (newarray.typeOf aty)).before a0 Z = true) (hn : ¬ n < 0) (hcap : n.toNatClampNeg ≤ cap) (hb' : cap * 8 ≤ 536870912) (hc : cells + 1 ≤ R.cells) (hl : slots + cap ≤ R.slots) (hp : pc + 2 = pc')
    (g : ∀ T' h' b cA, b = h.size → K p l e R s m args below meth c bytes own maxL ret nm T' locs (cells + 1) (slots + cap) Z h' n0 → Ext h h' → Arv Z h' b cA (newarray.typeOf aty) n [] (defaultValue (newarray.typeOf aty)) → Go p e below P T' (mkF m pc' Ls (.ref b :: st))) : Go p e below P T (mkF m pc Ls (.int n :: st)) := by
  subst hp
  obtain ⟨T', h', cA, X', e', E, A, q⟩ := newP k.1 k.2.1 k.2.2.1 w k.2.2.2.1 (g := mkF m pc Ls (.int n :: st)) rfl (hb k.2.2.2.2.2.1 hd) rfl hn hcap hb' hc hl
  exact Go.to q (g T' h' _ cA rfl (k_hp k X' e' k.2.2.2.2.1) E (Arv.new A hn))
/-- anewarray -/
theorem s_newR (k : K p l e R s m args below meth c bytes own maxL ret nm T locs cells slots Z h n0) {C : String} {index : Nat} {n : Int32} {cap : Nat} (hd : decode bytes pc = .ok (.anewarray index, 3)) (w1 : (Cond.classLink own index C).before a0 Z = true) (w2 : (Cond.arrayOver (.object C)).before a0 Z = true) (hn : ¬ n < 0) (hcap : n.toNatClampNeg ≤ cap) (hb' : cap * 8 ≤ 536870912) (hc : cells + 1 ≤ R.cells) (hl : slots + cap ≤ R.slots) (hp : pc + 3 = pc')
    (g : ∀ T' h' b cA, b = h.size → K p l e R s m args below meth c bytes own maxL ret nm T' locs (cells + 1) (slots + cap) Z h' n0 → Ext h h' → Arv Z h' b cA (.object C) n [] .null → Ovr Z cA C → Go p e below P T' (mkF m pc' Ls (.ref b :: st))) : Go p e below P T (mkF m pc Ls (.int n :: st)) := by
  subst hp
  obtain ⟨T', h', cA, X', e', E, A, O, q⟩ := newR k.1 k.2.1 k.2.2.1 k.2.2.2.2.2.2.1 w1 w2 k.2.2.2.1 (g := mkF m pc Ls (.int n :: st)) rfl (hb k.2.2.2.2.2.1 hd) rfl hn hcap hb' hc hl
  exact Go.to q (g T' h' _ cA rfl (k_hp k X' e' k.2.2.2.2.1) E (Arv.new A hn) O)
/-- arraylength -/
theorem s_len (k : K p l e R s m args below meth c bytes own maxL ret nm T locs cells slots Z h n0) {a : Addr} {kc : ClassId} {ty : FieldType} {z : Int32} {vs : List Value} {dv : Value} (hd : decode bytes pc = .ok (.arraylength, 1)) (A : Arv Z h a kc ty z vs dv) (hp : pc + 1 = pc') (g : Go p e below P T (mkF m pc' Ls (.int z :: st))) : Go p e below P T (mkF m pc Ls (.ref a :: st)) := by
  subst hp
  obtain ⟨cl, A1, -, S, N, -⟩ := A
  rw [← len_of S N] at g
  exact Go.to (fun _ q => k.1.arraylength k.2.1 (by rw [k.2.2.2.1]; exact A1.1) (State.isArrayOf_alike k.2.2.1.alike A1.2.1) (g := mkF m pc Ls (.ref a :: st)) rfl rfl (hb k.2.2.2.2.2.1 hd) _ q) g

theorem s_laload (k : K p l e R s m args below meth c bytes own maxL ret nm T locs cells slots Z h n0) {a : Addr} {kc : ClassId} {z j : Int32} {vs : List Value} {dv v : Value} (hd : decode bytes pc = .ok (.laload, 1)) (A : Arv Z h a kc .long z vs dv) (hj : ¬ j < 0 ∧ j < z) (hv : vs.getD j.toNatClampNeg dv = v) (hp : pc + 1 = pc') (g : Go p e below P T (mkF m pc' Ls (v :: st))) : Go p e below P T (mkF m pc Ls (.int j :: .ref a :: st)) := by
  subst hp
  obtain ⟨cl, A1, -, S, N, H, -⟩ := A
  exact Go.to (fun _ q => k.1.laload k.2.1 (by rw [k.2.2.2.1]; exact A1.1) (State.isArrayOf_alike k.2.2.1.alike A1.2.1) A1.2.2 (inb_of S hj) (H.at (inb_of S hj) hv) (g := mkF m pc Ls (.int j :: .ref a :: st)) rfl rfl (hb k.2.2.2.2.2.1 hd) _ q) g
theorem s_baload (k : K p l e R s m args below meth c bytes own maxL ret nm T locs cells slots Z h n0) {a : Addr} {kc : ClassId} {z j : Int32} {vs : List Value} {dv v : Value} (hd : decode bytes pc = .ok (.baload, 1)) (A : Arv Z h a kc .byte z vs dv) (hj : ¬ j < 0 ∧ j < z) (hv : vs.getD j.toNatClampNeg dv = v) (hp : pc + 1 = pc') (g : Go p e below P T (mkF m pc' Ls (v :: st))) : Go p e below P T (mkF m pc Ls (.int j :: .ref a :: st)) := by
  subst hp
  obtain ⟨cl, A1, -, S, N, H, -⟩ := A
  exact Go.to (fun _ q => k.1.baloadBytes k.2.1 (by rw [k.2.2.2.1]; exact A1.1) (State.isArrayOf_alike k.2.2.1.alike A1.2.1) A1.2.2 (inb_of S hj) (H.at (inb_of S hj) hv) (g := mkF m pc Ls (.int j :: .ref a :: st)) rfl rfl (hb k.2.2.2.2.2.1 hd) _ q) g
theorem s_iaload (k : K p l e R s m args below meth c bytes own maxL ret nm T locs cells slots Z h n0) {a : Addr} {kc : ClassId} {z j : Int32} {vs : List Value} {dv v : Value} (hd : decode bytes pc = .ok (.iaload, 1)) (A : Arv Z h a kc .int z vs dv) (hj : ¬ j < 0 ∧ j < z) (hv : vs.getD j.toNatClampNeg dv = v) (hp : pc + 1 = pc') (g : Go p e below P T (mkF m pc' Ls (v :: st))) : Go p e below P T (mkF m pc Ls (.int j :: .ref a :: st)) := by
  subst hp
  obtain ⟨cl, A1, -, S, N, H, -⟩ := A
  exact Go.to (fun _ q => k.1.iaload k.2.1 (by rw [k.2.2.2.1]; exact A1.1) (State.isArrayOf_alike k.2.2.1.alike A1.2.1) A1.2.2 (inb_of S hj) (H.at (inb_of S hj) hv) (g := mkF m pc Ls (.int j :: .ref a :: st)) rfl rfl (hb k.2.2.2.2.2.1 hd) _ q) g
theorem s_aaload (k : K p l e R s m args below meth c bytes own maxL ret nm T locs cells slots Z h n0) {a : Addr} {kc : ClassId} {ty : FieldType} {z j : Int32} {vs : List Value} {dv v : Value} (hd : decode bytes pc = .ok (.aaload, 1)) (A : Arv Z h a kc ty z vs dv) (hty : ty.isReference = true) (hj : ¬ j < 0 ∧ j < z) (hv : vs.getD j.toNatClampNeg dv = v) (hp : pc + 1 = pc') (g : Go p e below P T (mkF m pc' Ls (v :: st))) : Go p e below P T (mkF m pc Ls (.int j :: .ref a :: st)) := by
  subst hp
  obtain ⟨cl, A1, -, S, N, H, -⟩ := A
  exact Go.to (fun _ q => k.1.aaload k.2.1 (by rw [k.2.2.2.1]; exact A1.1) (State.isArrayOf_alike k.2.2.1.alike A1.2.1) hty A1.2.2 (inb_of S hj) (H.at (inb_of S hj) hv) (g := mkF m pc Ls (.int j :: .ref a :: st)) rfl rfl (hb k.2.2.2.2.2.1 hd) _ q) g
theorem s_lastore (k : K p l e R s m args below meth c bytes own maxL ret nm T locs cells slots Z h n0) {a : Addr} {kc : ClassId} {z j : Int32} {vs : List Value} {dv : Value} {x : Int64} {i : Nat} (hd : decode bytes pc = .ok (.lastore, 1)) (A : Arv Z h a kc .long z vs dv) (hj : ¬ j < 0 ∧ j < z) (hi : j.toNatClampNeg = i) (hl : i < vs.length) (ha : n0 ≤ a) (hp : pc + 1 = pc')
    (g : ∀ T' h' L', K p l e R s m args below meth c bytes own maxL ret nm T' L' cells slots Z h' n0 → Wr h h' a i (.long x) → Arv Z h' a kc .long z (vs.set i (.long x)) dv → Go p e below P T' (mkF m pc' Ls st)) : Go p e below P T (mkF m pc Ls (.long x :: .int j :: .ref a :: st)) := by
  subst hp hi
  obtain ⟨cl, A1, q1, S, N, H, Gf⟩ := A
  obtain ⟨T', h', X', e', W, q⟩ := stJ k.1 k.2.1 k.2.2.1 k.2.2.2.1 A1 (inb_of S hj) (g := mkF m pc Ls (.long x :: .int j :: .ref a :: st)) rfl rfl (hb k.2.2.2.2.2.1 hd)
  exact Go.to q (g T' h' _ (k_hp k X' e' (Fr.snoc X' k.2.2.2.2.1 ha)) W (Arv.set A1 q1 S N H Gf rfl W _ rfl hl))
theorem s_iastore (k : K p l e R s m args below meth c bytes own maxL ret nm T locs cells slots Z h n0) {a : Addr} {kc : ClassId} {z j : Int32} {vs : List Value} {dv : Value} {x : Int32} {i : Nat} (hd : decode bytes pc = .ok (.iastore, 1)) (A : Arv Z h a kc .int z vs dv) (hj : ¬ j < 0 ∧ j < z) (hi : j.toNatClampNeg = i) (hl : i < vs.length) (ha : n0 ≤ a) (hp : pc + 1 = pc')
    (g : ∀ T' h' L', K p l e R s m args below meth c bytes own maxL ret nm T' L' cells slots Z h' n0 → Wr h h' a i (.int x) → Arv Z h' a kc .int z (vs.set i (.int x)) dv → Go p e below P T' (mkF m pc' Ls st)) : Go p e below P T (mkF m pc Ls (.int x :: .int j :: .ref a :: st)) := by
  subst hp hi
  obtain ⟨cl, A1, q1, S, N, H, Gf⟩ := A
  obtain ⟨T', h', X', e', W, q⟩ := stI k.1 k.2.1 k.2.2.1 k.2.2.2.1 A1 (inb_of S hj) (g := mkF m pc Ls (.int x :: .int j :: .ref a :: st)) rfl rfl (hb k.2.2.2.2.2.1 hd)
  exact Go.to q (g T' h' _ (k_hp k X' e' (Fr.snoc X' k.2.2.2.2.1 ha)) W (Arv.set A1 q1 S N H Gf rfl W _ rfl hl))
theorem s_bastore0 (k : K p l e R s m args below meth c bytes own maxL ret nm T locs cells slots Z h n0) {a : Addr} {kc : ClassId} {z j : Int32} {vs : List Value} {dv : Value} {x : Int32} {i : Nat} (hd : decode bytes pc = .ok (.bastore, 1)) (A : Arv Z h a kc .byte z vs dv) (hj : ¬ j < 0 ∧ j < z) (hi : j.toNatClampNeg = i) (hl : i < vs.length) (ha : n0 ≤ a) (hp : pc + 1 = pc')
    (g : ∀ T' h' L', K p l e R s m args below meth c bytes own maxL ret nm T' L' cells slots Z h' n0 → Wr h h' a i (.int x.toInt8.toInt32) → Arv Z h' a kc .byte z (vs.set i (.int x.toInt8.toInt32)) dv → Go p e below P T' (mkF m pc' Ls st)) : Go p e below P T (mkF m pc Ls (.int x :: .int j :: .ref a :: st)) := by
  subst hp hi
  obtain ⟨cl, A1, q1, S, N, H, Gf⟩ := A
  obtain ⟨T', h', X', e', W, q⟩ := stB k.1 k.2.1 k.2.2.1 k.2.2.2.1 A1 (inb_of S hj) (g := mkF m pc Ls (.int x :: .int j :: .ref a :: st)) rfl rfl (hb k.2.2.2.2.2.1 hd)
  exact Go.to q (g T' h' _ (k_hp k X' e' (Fr.snoc X' k.2.2.2.2.1 ha)) W (Arv.set A1 q1 S N H Gf (fits_nar_byte x) W _ rfl hl))
theorem s_bastore (k : K p l e R s m args below meth c bytes own maxL ret nm T locs cells slots Z h n0) {a : Addr} {kc : ClassId} {z j : Int32} {vs : List Value} {dv : Value} {x y : Int32} {i : Nat} (hd : decode bytes pc = .ok (.bastore, 1)) (A : Arv Z h a kc .byte z vs dv) (hj : ¬ j < 0 ∧ j < z) (hi : j.toNatClampNeg = i) (hl : i < vs.length) (hy : x.toInt8.toInt32 = y) (ha : n0 ≤ a) (hp : pc + 1 = pc')
    (g : ∀ T' h' L', K p l e R s m args below meth c bytes own maxL ret nm T' L' cells slots Z h' n0 → Wr h h' a i (.int y) → Arv Z h' a kc .byte z (vs.set i (.int y)) dv → Go p e below P T' (mkF m pc' Ls st)) : Go p e below P T (mkF m pc Ls (.int x :: .int j :: .ref a :: st)) := by
  subst hy
  exact s_bastore0 k hd A hj hi hl ha hp g
theorem s_aastore (k : K p l e R s m args below meth c bytes own maxL ret nm T locs cells slots Z h n0) {a : Addr} {kc : ClassId} {C : String} {z j : Int32} {vs : List Value} {dv v : Value} {i : Nat} (hd : decode bytes pc = .ok (.aastore, 1)) (A : Arv Z h a kc (.object C) z vs dv) (hj : ¬ j < 0 ∧ j < z) (hi : j.toNatClampNeg = i) (hl : i < vs.length) (O : Ovr Z kc C) (I : v = .null ∨ ∃ y, v = .ref y ∧ Ins Z h y C true) (ha : n0 ≤ a) (hp : pc + 1 = pc')
    (g : ∀ T' h' L', K p l e R s m args below meth c bytes own maxL ret nm T' L' cells slots Z h' n0 → Wr h h' a i v → Arv Z h' a kc (.object C) z (vs.set i v) dv → Go p e below P T' (mkF m pc' Ls st)) : Go p e below P T (mkF m pc Ls (v :: .int j :: .ref a :: st)) := by
  subst hp hi
  obtain ⟨cl, A1, q1, S, N, H, Gf⟩ := A
  have hs : Sto Z h a v := by
    rcases I with rfl | ⟨y, rfl, I⟩
    · exact Or.inl rfl
    · exact Sto.ofV A1 q1 O I
  have hfv : fits (.object C) v = true := by
    rcases I with rfl | ⟨y, rfl, I⟩ <;> rfl
  obtain ⟨T', h', X', e', W, q⟩ := stR k.1 k.2.1 k.2.2.1 k.2.2.2.1 A1 (inb_of S hj) rfl hs (g := mkF m pc Ls (v :: .int j :: .ref a :: st)) rfl rfl (hb k.2.2.2.2.2.1 hd)
  exact Go.to q (g T' h' _ (k_hp k X' e' (Fr.snoc X' k.2.2.2.2.1 ha)) W (Arv.set A1 q1 S N H Gf hfv W _ rfl hl))
theorem s_cast (k : K p l e R s m args below meth c bytes own maxL ret nm T locs cells slots Z h n0) {C : String} {index : Nat} {a : Addr} (hd : decode bytes pc = .ok (.checkcast index, 3)) (w : (Cond.classLink own index C).before a0 Z = true) (I : Ins Z h a C true) (hp : pc + 3 = pc')
    (g : ∀ T', K p l e R s m args below meth c bytes own maxL ret nm T' locs cells slots Z h n0 → Go p e below P T' (mkF m pc' Ls (.ref a :: st))) : Go p e below P T (mkF m pc Ls (.ref a :: st)) := by
  subst hp
  obtain ⟨T', X', e', q⟩ := castY k.1 k.2.1 k.2.2.1 k.2.2.2.2.2.2.1 w k.2.2.2.1 I (g := mkF m pc Ls (.ref a :: st)) rfl rfl (hb k.2.2.2.2.2.1 hd)
  exact Go.to q (g T' (k_hp k X' e' k.2.2.2.2.1))
theorem s_castNull (k : K p l e R s m args below meth c bytes own maxL ret nm T locs cells slots Z h n0) {index : Nat} (hd : decode bytes pc = .ok (.checkcast index, 3)) (hp : pc + 3 = pc') (g : Go p e below P T (mkF m pc' Ls (.null :: st))) : Go p e below P T (mkF m pc Ls (.null :: st)) := by
  subst hp
  exact Go.to (k.1.checkcastNull k.2.1 (g := mkF m pc Ls (.null :: st)) rfl rfl (hb k.2.2.2.2.2.1 hd)) g
theorem s_instY (k : K p l e R s m args below meth c bytes own maxL ret nm T locs cells slots Z h n0) {C : String} {index : Nat} {a : Addr} (hd : decode bytes pc = .ok (.instanceof index, 3)) (w : (Cond.classLink own index C).before a0 Z = true) (I : Ins Z h a C true) (hp : pc + 3 = pc')
    (g : ∀ T', K p l e R s m args below meth c bytes own maxL ret nm T' locs cells slots Z h n0 → Go p e below P T' (mkF m pc' Ls (.int 1 :: st))) : Go p e below P T (mkF m pc Ls (.ref a :: st)) := by
  subst hp
  obtain ⟨T', X', e', q⟩ := instY k.1 k.2.1 k.2.2.1 k.2.2.2.2.2.2.1 w k.2.2.2.1 I (g := mkF m pc Ls (.ref a :: st)) rfl rfl (hb k.2.2.2.2.2.1 hd)
  exact Go.to q (g T' (k_hp k X' e' k.2.2.2.2.1))
/-- the returns -/
theorem s_retV (k : K p l e R s m args below meth c bytes own maxL ret nm T locs cells slots Z h n0) {w : Value} {t : FieldType} {i : Instr} (hd : decode bytes pc = .ok (i, 1)) (hr : ret = some t) (hn : narrow t w = w)
    (hi : (i = .ireturn ∧ (t = .int ∨ t = .boolean ∨ t = .byte ∨ t = .char ∨ t = .short) ∧ ∃ z, w = .int z) ∨ (i = .lreturn ∧ t = .long ∧ ∃ z, w = .long z) ∨ (i = .dreturn ∧ t = .double ∧ ∃ z, w = .double z) ∨ (i = .freturn ∧ t = .float ∧ ∃ z, w = .float z) ∨ (i = .areturn ∧ t.isReference = true ∧ w.isRef = true))
    (hP : Pay s Q n0 cc ss P) (hc : cells ≤ cc) (hs : slots ≤ ss) (q : Q (some w) h) : Go p e below P T (mkF m pc Ls (w :: st)) := by
  obtain ⟨fs, hr', hrun, hended, hW, hsame⟩ := k.1.leave (v := some w) (fun z => by rw [k.2.2.2.2.2.2.2.2.1, hr] at z; cases z) k.2.2.2.2.2.2.2.2.2.2
  exact ⟨_, _, retOut k.1 k.2.1 (k.2.2.2.2.2.2.2.2.1.trans hr) hn hi (hb k.2.2.2.2.2.1 hd) hr', hrun, hended, hP _ _ _ _ q (show T.heap = h from k.2.2.2.1) k.2.2.2.2.1 ⟨⟨_, rfl⟩, hW, hsame.mono hc hs⟩⟩
theorem s_retI (k : K p l e R s m args below meth c bytes own maxL ret nm T locs cells slots Z h n0) {z : Int32} (hd : decode bytes pc = .ok (.ireturn, 1)) (hr : ret = some .int) (hP : Pay s Q n0 cc ss P) (hc : cells ≤ cc) (hs : slots ≤ ss) (q : Q (some (.int z)) h) : Go p e below P T (mkF m pc Ls (.int z :: st)) :=
  s_retV k hd hr rfl (Or.inl ⟨rfl, Or.inl rfl, z, rfl⟩) hP hc hs q
theorem s_retL (k : K p l e R s m args below meth c bytes own maxL ret nm T locs cells slots Z h n0) {z : Int64} (hd : decode bytes pc = .ok (.lreturn, 1)) (hr : ret = some .long) (hP : Pay s Q n0 cc ss P) (hc : cells ≤ cc) (hs : slots ≤ ss) (q : Q (some (.long z)) h) : Go p e below P T (mkF m pc Ls (.long z :: st)) :=
  s_retV k hd hr rfl (Or.inr (Or.inl ⟨rfl, rfl, z, rfl⟩)) hP hc hs q
theorem s_retA (k : K p l e R s m args below meth c bytes own maxL ret nm T locs cells slots Z h n0) {w : Value} {t : FieldType} (hd : decode bytes pc = .ok (.areturn, 1)) (hr : ret = some t) (ht : t.isReference = true) (hw : w.isRef = true) (hP : Pay s Q n0 cc ss P) (hc : cells ≤ cc) (hs : slots ≤ ss) (q : Q (some w) h) : Go p e below P T (mkF m pc Ls (w :: st)) :=
  s_retV k hd hr (by cases t <;> simp [FieldType.isReference] at ht <;> rfl) (Or.inr (Or.inr (Or.inr (Or.inr ⟨rfl, ht, hw⟩)))) hP hc hs q
theorem s_retZ (k : K p l e R s m args below meth c bytes own maxL ret nm T locs cells slots Z h n0) {z : Int32} (hd : decode bytes pc = .ok (.ireturn, 1)) (hr : ret = some .boolean) (hz : z &&& 1 = z) (hP : Pay s Q n0 cc ss P) (hc : cells ≤ cc) (hs : slots ≤ ss) (q : Q (some (.int z)) h) : Go p e below P T (mkF m pc Ls (.int z :: st)) :=
  s_retV k hd hr (show Value.int (z &&& 1) = .int z by rw [hz]) (Or.inl ⟨rfl, Or.inr (Or.inl rfl), z, rfl⟩) hP hc hs q
theorem s_ret (k : K p l e R s m args below meth c bytes own maxL ret nm T locs cells slots Z h n0) (hd : decode bytes pc = .ok (.return_, 1)) (hr : ret = none) (hP : Pay s Q n0 cc ss P) (hc : cells ≤ cc) (hs : slots ≤ ss) (q : Q none h) : Go p e below P T (mkF m pc Ls []) := by
  obtain ⟨fs, hr', hrun, hended, hW, hsame⟩ := k.1.leave (v := none) (fun _ => rfl) k.2.2.2.2.2.2.2.2.2.2
  exact ⟨_, _, k.1.returnOut k.2.1 (k.2.2.2.2.2.2.2.2.1.trans hr) (hb k.2.2.2.2.2.1 hd) hr', hrun, hended, hP _ _ _ _ q (show T.heap = h from k.2.2.2.1) k.2.2.2.2.1 ⟨⟨_, rfl⟩, hW, hsame.mono hc hs⟩⟩
end Own

/-- a method's contract at one array of arguments and one heap -/
def Met (l : Launch) (Z : State) (y : MethodName) (bytes : ByteArray) (maxL : Nat) (ret : Option FieldType) (rm : Room) (n0 : Nat) (as' : Array Value) (h : Heap) (Q : Option Value → Heap → Prop) : Prop :=
  ∀ ws : List Jvm.Cond, MetFree l y (head1 (Jvm.Cond.code y bytes maxL ret :: ws) rm) (fun a U => a = as' ∧ Z.Warmed39 U.vm ∧ U.heap = h) (fun _ _ _ _ _ => True) (fun _ U o U' => ∃ v L, o = .returned v ∧ (Q v U'.heap ∧ Fr n0 L) ∧ FrameEnd U o U' L rm.cells rm.slots)
theorem Met.of {l : Launch} {Z : State} {y : MethodName} {bytes : ByteArray} {maxL : Nat} {ret : Option FieldType} {rm : Room} {n0 : Nat} {as' : Array Value} {h : Heap} {Q : Option Value → Heap → Prop} {Ls : Array Slot} (hpl : plainFor y = true) (hef : ∀ m, entryFrame m as' maxL = mkF m 0 Ls [])
    (body : ∀ p e s m below meth c T P, Pay s Q n0 rm.cells rm.slots P → K p l e rm s m as' below meth c bytes y.cls maxL ret y.name T [] 0 0 Z h n0 → Go p e below P T (mkF m 0 Ls [])) : Met l Z y bytes maxL ret rm n0 as' h Q := by
  intro ws
  refine MetFree.of_bodySF hpl hisR ?_
  intro p e s m args below meth c s₁ Bd hml0 hP hK
  obtain ⟨rfl, hZ, hh⟩ := hP
  have X0 : Stand p l e rm s m args below meth c s₁ [] 0 0 := Stand.of_body Bd
  rw [hef m]
  exact body p e s m below meth c s₁ _ (fun v h L s₂ q1 q2 q3 q4 => ⟨v, L, rfl, ⟨q2.symm ▸ q1, q3⟩, q4⟩) ⟨X0, Bd.exec, hZ, by rw [← hh, Bd.state]; rfl, Fr.nil n0, Bd.bytes, findClass_of_methodNamed Bd.named, hml0, Bd.returns, (name_of_methodNamed Bd.named Bd.method).1, BodyLoose.notSynchronized Bd⟩
section Calls
variable {p : Program} {l : Launch} {e : Env} {R : Room} {s : State} {m : MethodId} {args : Array Value} {below : List Frame} {meth : Method} {c : Code} {bytes : ByteArray} {own : String} {maxL : Nat} {ret : Option FieldType} {nm : String} {T : State} {locs : List Loc} {cells slots : Nat} {Z : State} {h : Heap} {n0 : Nat} {Q : Option Value → Heap → Prop} {P : State → Outcome → Prop} {cc ss : Nat} {a0 : Array Value} {Ls : Array Slot} {st rest : List Value} {pc pc' : Nat}
theorem wsum (W : Nat) (st : List Value) (hW : (st.map fun v => v.category).sum ≤ W) : 2 * 0 + (st.map fun v => v.category).sum ≤ W := by omega
/-- a static call -/
theorem s_callS (k : K p l e R s m args below meth c bytes own maxL ret nm T locs cells slots Z h n0) {index : Nat} {y : MethodName} {yb : ByteArray} {ym : Nat} {yr : Option FieldType} {rm : Room} {Qy : Option Value → Heap → Prop} {ps : List FieldType} (argsL : List Value) (W : Nat) (hd : decode bytes pc = .ok (.invokestatic index, 3)) (w1 : (Cond.methodLink own index y).before a0 Z = true) (w2 : (Cond.static y).before a0 Z = true) (w3 : (Cond.initialized y.cls).before a0 Z = true) (w4 : (Cond.code y yb ym yr).before a0 Z = true)
    (hy : y.cls ≠ "java/lang/invoke/MethodHandle" ∧ y.cls ≠ "java/lang/invoke/VarHandle") (M : Met l Z y yb ym yr rm n0 argsL.toArray h Qy) (hf : rm.frames + 1 ≤ R.frames) (hl : W + (ym + 11) + rm.locals ≤ R.locals) (hpd : parseMethodDescriptor y.desc = some ⟨ps, yr⟩) (hlen : argsL.length = ps.length) (hW : (st.map fun v => v.category).sum ≤ W) (hsz : Ls.size = maxL) (hc : cells + rm.cells ≤ R.cells) (hs : slots + rm.slots ≤ R.slots) (hst : rest = argsL.reverse ++ st) (hp : pc + 3 = pc')
    (g : ∀ v T' h' L', K p l e R s m args below meth c bytes own maxL ret nm T' L' (cells + rm.cells) (slots + rm.slots) Z h' n0 → Qy v h' → Go p e below P T' (mkF m pc' Ls (v.toList ++ st))) : Go p e below P T (mkF m pc Ls rest) := by
  subst hp hst
  obtain ⟨v, vm1, ⟨T', L', k', n'⟩, -, X', ⟨L, hQ, l1, l2, l3⟩, q⟩ := Jvm.LawKit.callS k.1 k.2.1 k.2.2.2.2.2.2.1 (mvT k.2.2.1 w1) (mvT k.2.2.1 w2) (mvT k.2.2.1 w3) (mvT k.2.2.1 w4) hy (backOf (W := W) (Q := fun v h L => Qy v h ∧ Fr n0 L) (M []) k.2.2.1 w4 w3 hf hl) (g := mkF m pc Ls (argsL.reverse ++ st)) rfl (hsz.trans k.2.2.2.2.2.2.2.1.symm) (argsL := argsL) (rest := st) (lenOf hpd hlen) rfl (wsum W st hW) (hb k.2.2.2.2.2.1 hd) (fun _ _ => ⟨rfl, k.2.2.2.1, hc, hs⟩)
  dsimp only [Pt.U, Pt.locs, Pt.cells, Pt.slots] at X' l1 l2 l3 q hQ
  subst l1 l2 l3
  exact Go.to q (g v T' _ _ (k_hp k X' rfl (Fr.app k.2.2.2.2.1 hQ.2)) hQ.1)
/-- a constructor -/
theorem s_callI (k : K p l e R s m args below meth c bytes own maxL ret nm T locs cells slots Z h n0) {index : Nat} {y : MethodName} {yb : ByteArray} {ym : Nat} {rm : Room} {Qy : Option Value → Heap → Prop} {ps : List FieldType} {a : Addr} (argsL : List Value) (W : Nat) (hd : decode bytes pc = .ok (.invokespecial index, 3)) (hy1 : y.name = "<init>") (w1 : (Cond.methodLink own index y).before a0 Z = true) (w2 : (Cond.instanceMethod y).before a0 Z = true) (w3 : (Cond.initialized y.cls).before a0 Z = true) (w4 : (Cond.code y yb ym none).before a0 Z = true)
    (hy : y.cls ≠ "java/lang/invoke/MethodHandle" ∧ y.cls ≠ "java/lang/invoke/VarHandle") (M : Met l Z y yb ym none rm n0 (.ref a :: argsL).toArray h Qy) (hf : rm.frames + 1 ≤ R.frames) (hl : W + (ym + 11) + rm.locals ≤ R.locals) (hpd : parseMethodDescriptor y.desc = some ⟨ps, none⟩) (hlen : argsL.length = ps.length) (hW : (st.map fun v => v.category).sum ≤ W) (hsz : Ls.size = maxL) (hc : cells + rm.cells ≤ R.cells) (hs : slots + rm.slots ≤ R.slots) (hst : rest = argsL.reverse ++ .ref a :: st) (hp : pc + 3 = pc')
    (g : ∀ v T' h' L', K p l e R s m args below meth c bytes own maxL ret nm T' L' (cells + rm.cells) (slots + rm.slots) Z h' n0 → Qy v h' → Go p e below P T' (mkF m pc' Ls (v.toList ++ st))) : Go p e below P T (mkF m pc Ls rest) := by
  subst hp hst
  obtain ⟨v, vm1, ⟨T', L', k', n'⟩, -, X', ⟨L, hQ, l1, l2, l3⟩, q⟩ := k.1.specialBack k.2.1 hy1 k.2.2.2.2.2.2.1 (mvT k.2.2.1 w1) (mvT k.2.2.1 w2) (mvT k.2.2.1 w4) hy (backOf (W := W) (Q := fun v h L => Qy v h ∧ Fr n0 L) (M []) k.2.2.1 w4 w3 hf hl) (g := mkF m pc Ls (argsL.reverse ++ .ref a :: st)) rfl (hsz.trans k.2.2.2.2.2.2.2.1.symm) (Steps.refl _) (a := a) (argsL := argsL) (rest := st) (lenOf hpd hlen) rfl (wsum W st hW) (hb k.2.2.2.2.2.1 hd) (fun _ _ => ⟨rfl, k.2.2.2.1, hc, hs⟩)
  dsimp only [Pt.U, Pt.locs, Pt.cells, Pt.slots] at X' l1 l2 l3 q hQ
  subst l1 l2 l3
  exact Go.tr q (g v T' _ _ (k_hp k X' rfl (Fr.app k.2.2.2.2.1 hQ.2)) hQ.1)
/-- an instance method -/
theorem s_callV (k : K p l e R s m args below meth c bytes own maxL ret nm T locs cells slots Z h n0) {index : Nat} {C : String} {y : MethodName} {yb : ByteArray} {ym : Nat} {yr : Option FieldType} {rm : Room} {Qy : Option Value → Heap → Prop} {ps : List FieldType} {a : Addr} (argsL : List Value) (W : Nat) (hd : decode bytes pc = .ok (.invokevirtual index, 3)) (w1 : (Cond.methodLink own index y).before a0 Z = true) (w2 : (Cond.declares y).before a0 Z = true) (w5 : (Cond.selects C y y).before a0 Z = true) (w6 : (Cond.instanceMethod y).before a0 Z = true) (w3 : (Cond.initialized y.cls).before a0 Z = true) (w4 : (Cond.code y yb ym yr).before a0 Z = true)
    (hy : y.cls ≠ "java/lang/invoke/MethodHandle" ∧ y.cls ≠ "java/lang/invoke/VarHandle") (E : Exa Z h a C) (M : Met l Z y yb ym yr rm n0 (.ref a :: argsL).toArray h Qy) (hf : rm.frames + 1 ≤ R.frames) (hl : W + (ym + 11) + rm.locals ≤ R.locals) (hpd : parseMethodDescriptor y.desc = some ⟨ps, yr⟩) (hlen : argsL.length = ps.length) (hW : (st.map fun v => v.category).sum ≤ W) (hsz : Ls.size = maxL) (hc : cells + rm.cells ≤ R.cells) (hs : slots + rm.slots ≤ R.slots) (hst : rest = argsL.reverse ++ .ref a :: st) (hp : pc + 3 = pc')
    (g : ∀ v T' h' L', K p l e R s m args below meth c bytes own maxL ret nm T' L' (cells + rm.cells) (slots + rm.slots) Z h' n0 → Qy v h' → Go p e below P T' (mkF m pc' Ls (v.toList ++ st))) : Go p e below P T (mkF m pc Ls rest) := by
  subst hp hst
  obtain ⟨cq, kq, qa, qb, qc⟩ := isOf k.2.2.1 k.2.2.2.1 E
  obtain ⟨v, vm1, ⟨T', L', k', n'⟩, -, X', ⟨L, hQ, l1, l2, l3⟩, q⟩ := k.1.virtualBack k.2.1 (y := y) (z := y) k.2.2.2.2.2.2.1 (mvT k.2.2.1 w1) (mvT k.2.2.1 w2) (notFace_of_selects (args := #[]) (mvT k.2.2.1 w5)) (mvT k.2.2.1 w5) (mvT k.2.2.1 w6) hy (backOf (W := W) (Q := fun v h L => Qy v h ∧ Fr n0 L) (M []) k.2.2.1 w4 w3 hf hl) qa qc (g := mkF m pc Ls (argsL.reverse ++ .ref a :: st)) rfl (hsz.trans k.2.2.2.2.2.2.2.1.symm) (Steps.refl _) (argsL := argsL) (rest := st) (lenOf hpd hlen) rfl (wsum W st hW) (hb k.2.2.2.2.2.1 hd) (fun _ _ => ⟨rfl, k.2.2.2.1, hc, hs⟩)
  dsimp only [Pt.U, Pt.locs, Pt.cells, Pt.slots] at X' l1 l2 l3 q hQ
  subst l1 l2 l3
  exact Go.tr q (g v T' _ _ (k_hp k X' rfl (Fr.app k.2.2.2.2.1 hQ.2)) hQ.1)
/-- a private method, called by invokevirtual -/
theorem s_callP (k : K p l e R s m args below meth c bytes own maxL ret nm T locs cells slots Z h n0) {index : Nat} {y : MethodName} {yb : ByteArray} {ym : Nat} {yr : Option FieldType} {rm : Room} {Qy : Option Value → Heap → Prop} {ps : List FieldType} {a : Addr} (argsL : List Value) (W : Nat) (hd : decode bytes pc = .ok (.invokevirtual index, 3)) (w1 : (Cond.methodLink own index y).before a0 Z = true) (w5 : (Cond.selects y.cls y y).before a0 Z = true) (w6 : (Cond.instanceMethod y).before a0 Z = true) (w7 : (Cond.privateMethod y).before a0 Z = true) (w3 : (Cond.initialized y.cls).before a0 Z = true) (w4 : (Cond.code y yb ym yr).before a0 Z = true)
    (hy : y.cls ≠ "java/lang/invoke/MethodHandle" ∧ y.cls ≠ "java/lang/invoke/VarHandle") (E : Exa Z h a y.cls) (M : Met l Z y yb ym yr rm n0 (.ref a :: argsL).toArray h Qy) (hf : rm.frames + 1 ≤ R.frames) (hl : W + (ym + 11) + rm.locals ≤ R.locals) (hpd : parseMethodDescriptor y.desc = some ⟨ps, yr⟩) (hlen : argsL.length = ps.length) (hW : (st.map fun v => v.category).sum ≤ W) (hsz : Ls.size = maxL) (hc : cells + rm.cells ≤ R.cells) (hs : slots + rm.slots ≤ R.slots) (hst : rest = argsL.reverse ++ .ref a :: st) (hp : pc + 3 = pc')
    (g : ∀ v T' h' L', K p l e R s m args below meth c bytes own maxL ret nm T' L' (cells + rm.cells) (slots + rm.slots) Z h' n0 → Qy v h' → Go p e below P T' (mkF m pc' Ls (v.toList ++ st))) : Go p e below P T (mkF m pc Ls rest) := by
  subst hp hst
  obtain ⟨cq, qa, qb⟩ := E.cell
  obtain ⟨v, vm1, ⟨T', L', k', n'⟩, -, X', ⟨L, hQ, l1, l2, l3⟩, q⟩ := k.1.privateBack k.2.1 (y := y) k.2.2.2.2.2.2.1 (mvT k.2.2.1 w1) (mvT k.2.2.1 w6) (mvT k.2.2.1 w5) (Cond.privateMethod_at (mvP k.2.2.1 w7 (args := #[]))) (mvT k.2.2.1 w4) hy (backOf (W := W) (Q := fun v h L => Qy v h ∧ Fr n0 L) (M []) k.2.2.1 w4 w3 hf hl) (g := mkF m pc Ls (argsL.reverse ++ .ref a :: st)) rfl (hsz.trans k.2.2.2.2.2.2.2.1.symm) (Steps.refl _) (a := a) (by rw [k.2.2.2.1]; exact qa) qb (argsL := argsL) (rest := st) (lenOf hpd hlen) rfl (wsum W st hW) (hb k.2.2.2.2.2.1 hd) (fun _ _ => ⟨rfl, k.2.2.2.1, hc, hs⟩)
  dsimp only [Pt.U, Pt.locs, Pt.cells, Pt.slots] at X' l1 l2 l3 q hQ
  subst l1 l2 l3
  exact Go.tr q (g v T' _ _ (k_hp k X' rfl (Fr.app k.2.2.2.2.1 hQ.2)) hQ.1)
end Calls
end Jvm.OwnGo
namespace Jvm.Pilot.@@N@@
open Jvm Jvm.ClassFile Sem Op Lib Jvm.Free Jvm.Stand Jvm.LawKit Jvm.RoadKit Bundle Jvm.OwnGo Jvm.Pilot.@@N@@.Jvm.D
theorem d3_0 : decode jdk_29_method_70_code 0 = .ok (.lload_n 0, 1) := by decide +kernel
theorem d3_1 : decode jdk_29_method_70_code 1 = .ok (.lload_n 2, 1) := by decide +kernel
theorem d3_2 : decode jdk_29_method_70_code 2 = .ok (.lcmp, 1) := by decide +kernel
theorem d3_3 : decode jdk_29_method_70_code 3 = .ok (.ifCond .gt 7, 3) := by decide +kernel
theorem d3_6 : decode jdk_29_method_70_code 6 = .ok (.lload_n 0, 1) := by decide +kernel
theorem d3_7 : decode jdk_29_method_70_code 7 = .ok (.goto 4, 3) := by decide +kernel
theorem d3_10 : decode jdk_29_method_70_code 10 = .ok (.lload_n 2, 1) := by decide +kernel
theorem d3_11 : decode jdk_29_method_70_code 11 = .ok (.lreturn, 1) := by decide +kernel
theorem pn_3_rmn : plainFor (⟨"java/lang/Math", "min", "(JJ)J"⟩ : MethodName) = true := by decide +kernel
def fmin (p1 : Int64) (p2 : Int64) : Int64 := (if p2 < p1 then p2 else p1)
theorem fmin_eq (p1 : Int64) (p2 : Int64) : fmin p1 p2 = (if p2 < p1 then p2 else p1) := rfl
theorem ef_rmn {p1 : Int64} {p2 : Int64} (m : MethodId) : entryFrame m #[.long p1, .long p2] 4 = mkF m 0 #[.val (.long p1), .second, .val (.long p2), .second] [] := by first | (simp [entryFrame, mkF, argsToLocals, Value.category]; done) | rfl
set_option maxRecDepth 65536 in
set_option maxHeartbeats 40000000 in
theorem rmn (l : Launch) (Z : State) (a0 : Array Value) (hw : ∀ d ∈ tables_1, d.before a0 Z = true) (p1 : Int64) (p2 : Int64) (h0 : Heap) (n0 : Nat) (Z0 : n0 ≤ h0.size)  :
    Met l Z (⟨"java/lang/Math", "min", "(JJ)J"⟩ : MethodName) jdk_29_method_70_code 4 (some .long) ({ frames := 0, cells := 0, slots := 0, locals := 0 } : Room) n0 #[.long p1, .long p2] h0 (fun v h => v = some (.long (fmin p1 p2)) ∧ h0 = h) := by
  refine Met.of (Ls := #[.val (.long p1), .second, .val (.long p2), .second]) pn_3_rmn (fun m => ef_rmn m) fun p e s m below meth c T0 P hP k0 => ?_
  refine s_lloadN k0 d3_0 rfl (pc' := 1) rfl ?_
  refine s_lloadN k0 d3_1 rfl (pc' := 2) rfl ?_
  refine s_lcmp_gt k0 d3_2 rfl d3_3 (by decide) (pc' := 10) (by decide) (pc3 := 6) rfl (fun hc2 => ?_) (fun hc2 => ?_)
  · refine s_lloadN k0 d3_10 rfl (pc' := 11) rfl ?_
    exact s_retL k0 d3_11 rfl hP (by decide) (by decide) ⟨by rw [fmin_eq, if_pos hc2], rfl⟩
  · refine s_lloadN k0 d3_6 rfl (pc' := 7) rfl ?_
    refine s_goto k0 d3_7 (by decide) (pc' := 11) (by decide) ?_
    exact s_retL k0 d3_11 rfl hP (by decide) (by decide) ⟨by rw [fmin_eq, if_neg hc2], rfl⟩
theorem d1_0 : decode prog_19_method_1_code 0 = .ok (.aload_n 0, 1) := by decide +kernel
theorem d1_1 : decode prog_19_method_1_code 1 = .ok (.invokespecial 1, 3) := by decide +kernel
theorem d1_4 : decode prog_19_method_1_code 4 = .ok (.aload_n 0, 1) := by decide +kernel
theorem d1_5 : decode prog_19_method_1_code 5 = .ok (.lload_n 1, 1) := by decide +kernel
theorem d1_6 : decode prog_19_method_1_code 6 = .ok (.ldc2_w 7, 3) := by decide +kernel
theorem d1_9 : decode prog_19_method_1_code 9 = .ok (.ldiv, 1) := by decide +kernel
theorem d1_10 : decode prog_19_method_1_code 10 = .ok (.putfield 9, 3) := by decide +kernel
theorem d1_13 : decode prog_19_method_1_code 13 = .ok (.aload_n 0, 1) := by decide +kernel
theorem d1_14 : decode prog_19_method_1_code 14 = .ok (.lload_n 1, 1) := by decide +kernel
theorem d1_15 : decode prog_19_method_1_code 15 = .ok (.ldc2_w 7, 3) := by decide +kernel
theorem d1_18 : decode prog_19_method_1_code 18 = .ok (.ldiv, 1) := by decide +kernel
theorem d1_19 : decode prog_19_method_1_code 19 = .ok (.ldc2_w 15, 3) := by decide +kernel
theorem d1_22 : decode prog_19_method_1_code 22 = .ok (.ldiv, 1) := by decide +kernel
theorem d1_23 : decode prog_19_method_1_code 23 = .ok (.ldc2_w 19, 3) := by decide +kernel
theorem d1_26 : decode prog_19_method_1_code 26 = .ok (.invokestatic 21, 3) := by decide +kernel
theorem d1_29 : decode prog_19_method_1_code 29 = .ok (.l2i, 1) := by decide +kernel
theorem d1_30 : decode prog_19_method_1_code 30 = .ok (.putfield 27, 3) := by decide +kernel
theorem d1_33 : decode prog_19_method_1_code 33 = .ok (.return_, 1) := by decide +kernel
theorem pd__28JJ_29J : parseMethodDescriptor "(JJ)J" = some ⟨[.long, .long], some .long⟩ := by decide +kernel
theorem pn_1_rmi : plainFor (⟨"com/example/leiste/leiste/service/ClientMemory", "<init>", "(J)V"⟩ : MethodName) = true := plainFor_of_name (by first | (simp [plainName, overriddenIn]; done) | decide +kernel)
theorem ef_rmi {a : Addr} {p1 : Int64} (m : MethodId) : entryFrame m #[.ref a, .long p1] 3 = mkF m 0 #[.val (.ref a), .val (.long p1), .second] [] := by first | (simp [entryFrame, mkF, argsToLocals, Value.category]; done) | rfl
set_option maxRecDepth 65536 in
set_option maxHeartbeats 40000000 in
theorem rmi (l : Launch) (Z : State) (a0 : Array Value) (hw : ∀ d ∈ tables_1, d.before a0 Z = true) (a : Addr) (p1 : Int64) (h0 : Heap) (n0 : Nat) (Z0 : n0 ≤ h0.size) (E_a : Exa Z h0 a "com/example/leiste/leiste/service/ClientMemory") (F_a__limit : Fld Z h0 a "com/example/leiste/leiste/service/ClientMemory" "_limit" "J" (.long (0 : Int64))) (F_a__maxConnections : Fld Z h0 a "com/example/leiste/leiste/service/ClientMemory" "_maxConnections" "I" (.int (0 : Int32))) (F_a__buffered : Fld Z h0 a "com/example/leiste/leiste/service/ClientMemory" "_buffered" "J" (.long (0 : Int64))) (g_a : n0 ≤ a) :
    Met l Z (⟨"com/example/leiste/leiste/service/ClientMemory", "<init>", "(J)V"⟩ : MethodName) prog_19_method_1_code 3 none ({ frames := 1, cells := 0, slots := 0, locals := 24 } : Room) n0 #[.ref a, .long p1] h0 (fun v h => v = none ∧ Keep h0 h [a] ∧ Fld Z h a "com/example/leiste/leiste/service/ClientMemory" "_limit" "J" (.long (p1 / (2 : Int64))) ∧ Fld Z h a "com/example/leiste/leiste/service/ClientMemory" "_buffered" "J" (.long (0 : Int64))) := by
  have Kp0 := Keep.refl h0 [a]
  refine Met.of (Ls := #[.val (.ref a), .val (.long p1), .second]) pn_1_rmi (fun m => ef_rmi m) fun p e s m below meth c T0 P hP k0 => ?_
  refine s_aloadN k0 d1_0 rfl rfl (pc' := 1) rfl ?_
  obtain ⟨T1, X1, e1, q1⟩ := initO k0.1 k0.2.1 k0.2.2.1 k0.2.2.2.2.2.2.1 (hw _ (List.mem_of_getElem? (i := 6) rfl)) (hw _ (List.mem_of_getElem? (i := 7) rfl)) (hw _ (List.mem_of_getElem? (i := 8) rfl)) k0.2.2.2.1 (g := (mkF m 1 #[.val (.ref a), .val (.long p1), .second] [.ref a])) rfl k0.2.2.2.2.2.2.2.1.symm rfl (hb k0.2.2.2.2.2.1 d1_1) (by decide) (W := 0) (by show 2 * 0 + _ ≤ _; exact Nat.le_of_eq rfl) (by decide)
  refine Go.to q1 ?_
  have k1 := k_hp k0 X1 e1 k0.2.2.2.2.1
  show Go p e below P T1 (mkF m 4 #[.val (.ref a), .val (.long p1), .second] [])
  refine s_aloadN k1 d1_4 rfl rfl (pc' := 5) rfl ?_
  refine s_lloadN k1 d1_5 rfl (pc' := 6) rfl ?_
  refine s_ldcL k1 d1_6 (hw _ (List.mem_of_getElem? (i := 9) rfl)) (pc' := 9) rfl ?_
  refine s_ldiv k1 d1_9 (by decide) rfl (pc' := 10) rfl ?_
  refine s_put k1 d1_10 (host := "") (Or.inl (hw _ (List.mem_of_getElem? (i := 10) rfl))) Via.refl F_a__limit E_a (Or.inr ⟨(hw _ (List.mem_of_getElem? (i := 11) rfl)), rfl, rfl⟩) (hw _ (List.mem_of_getElem? (i := 1) rfl)) (ty := .long) (by decide) rfl rfl g_a (pc' := 13) rfl fun T2 h2 L2 k2 W2 => ?_
  have F3_a__limit := F_a__limit.same W2
  have F4_a__maxConnections := F_a__maxConnections.other W2 (Or.inr (slot_ne (Or.inr (hw _ (List.mem_of_getElem? (i := 19) rfl))) (Or.inr (hw _ (List.mem_of_getElem? (i := 11) rfl))) (by decide) (t := .int) (t' := .long) (by decide) (by decide)))
  have F5_a__buffered := F_a__buffered.other W2 (Or.inr (slot_ne (Or.inl (hw _ (List.mem_of_getElem? (i := 27) rfl))) (Or.inr (hw _ (List.mem_of_getElem? (i := 11) rfl))) (by decide) (t := .long) (t' := .long) (by decide) (by decide)))
  have E6_a := E_a.wr W2
  have Z7 := Nat.le_trans Z0 (Keep.of_wr W2).1
  have Kp8 := Kp0.wr W2 (Or.inl (List.mem_of_getElem? (i := 0) rfl))
  refine s_aloadN k2 d1_13 rfl rfl (pc' := 14) rfl ?_
  refine s_lloadN k2 d1_14 rfl (pc' := 15) rfl ?_
  refine s_ldcL k2 d1_15 (hw _ (List.mem_of_getElem? (i := 9) rfl)) (pc' := 18) rfl ?_
  refine s_ldiv k2 d1_18 (by decide) rfl (pc' := 19) rfl ?_
  refine s_ldcL k2 d1_19 (hw _ (List.mem_of_getElem? (i := 12) rfl)) (pc' := 22) rfl ?_
  refine s_ldiv k2 d1_22 (by decide) rfl (pc' := 23) rfl ?_
  refine s_ldcL k2 d1_23 (hw _ (List.mem_of_getElem? (i := 13) rfl)) (pc' := 26) rfl ?_
  refine s_callS k2 [.long ((p1 / (2 : Int64)) / (2048 : Int64)), .long (2147483647 : Int64)] 1 d1_26 (hw _ (List.mem_of_getElem? (i := 14) rfl)) (hw _ (List.mem_of_getElem? (i := 15) rfl)) (hw _ (List.mem_of_getElem? (i := 16) rfl)) (hw _ (List.mem_of_getElem? (i := 17) rfl)) (by decide) (rmn l Z a0 hw ((p1 / (2 : Int64)) / (2048 : Int64)) (2147483647 : Int64) h2 n0 Z7 ) (by decide) (by decide) pd__28JJ_29J rfl (Nat.le_of_eq rfl) rfl (by decide) (by decide) rfl (pc' := 29) rfl fun v9 T9 h9 L9 k9 Qv9 => ?_
  obtain ⟨rfl, rfl⟩ := Qv9
  show Go p e below P T9 (mkF m 29 #[.val (.ref a), .val (.long p1), .second] [.long (fmin ((p1 / (2 : Int64)) / (2048 : Int64)) (2147483647 : Int64)), .ref a])
  refine s_l2i k9 d1_29 rfl (pc' := 30) rfl ?_
  refine s_put k9 d1_30 (host := "") (Or.inl (hw _ (List.mem_of_getElem? (i := 18) rfl))) Via.refl F4_a__maxConnections E6_a (Or.inr ⟨(hw _ (List.mem_of_getElem? (i := 19) rfl)), rfl, rfl⟩) (hw _ (List.mem_of_getElem? (i := 1) rfl)) (ty := .int) (by decide) rfl rfl g_a (pc' := 33) rfl fun T10 h10 L10 k10 W10 => ?_
  have F11_a__limit := F3_a__limit.other W10 (Or.inr (slot_ne (Or.inr (hw _ (List.mem_of_getElem? (i := 11) rfl))) (Or.inr (hw _ (List.mem_of_getElem? (i := 19) rfl))) (by decide) (t := .long) (t' := .int) (by decide) (by decide)))
  have F12_a__maxConnections := F4_a__maxConnections.same W10
  have F13_a__buffered := F5_a__buffered.other W10 (Or.inr (slot_ne (Or.inl (hw _ (List.mem_of_getElem? (i := 27) rfl))) (Or.inr (hw _ (List.mem_of_getElem? (i := 19) rfl))) (by decide) (t := .long) (t' := .int) (by decide) (by decide)))
  have E14_a := E6_a.wr W10
  have Z15 := Nat.le_trans Z7 (Keep.of_wr W10).1
  have Kp16 := Kp8.wr W10 (Or.inl (List.mem_of_getElem? (i := 0) rfl))
  exact s_ret k10 d1_33 rfl hP (by decide) (by decide) ⟨rfl, Kp16, F11_a__limit, F13_a__buffered⟩
def fo (u t : Int64) : Int32 := if t < u then 1 else 0
theorem fo_eq (u t : Int64) : fo u t = if t < u then 1 else 0 := rfl
theorem d4_0 : decode prog_19_method_6_code 0 = .ok (.aload_n 0, 1) := by decide +kernel
theorem d4_1 : decode prog_19_method_6_code 1 = .ok (.getfield 36, 3) := by decide +kernel
theorem d4_4 : decode prog_19_method_6_code 4 = .ok (.aload_n 0, 1) := by decide +kernel
theorem d4_5 : decode prog_19_method_6_code 5 = .ok (.getfield 9, 3) := by decide +kernel
theorem d4_8 : decode prog_19_method_6_code 8 = .ok (.lcmp, 1) := by decide +kernel
theorem d4_9 : decode prog_19_method_6_code 9 = .ok (.ifCond .le 7, 3) := by decide +kernel
theorem d4_12 : decode prog_19_method_6_code 12 = .ok (.iconst 1, 1) := by decide +kernel
theorem d4_13 : decode prog_19_method_6_code 13 = .ok (.goto 4, 3) := by decide +kernel
theorem d4_16 : decode prog_19_method_6_code 16 = .ok (.iconst 0, 1) := by decide +kernel
theorem d4_17 : decode prog_19_method_6_code 17 = .ok (.ireturn, 1) := by decide +kernel
theorem pn_4_rmo : plainFor (⟨"com/example/leiste/leiste/service/ClientMemory", "isOver", "()Z"⟩ : MethodName) = true := plainFor_of_name (by first | (simp [plainName, overriddenIn]; done) | decide +kernel)
theorem ef_rmo {a : Addr} (m : MethodId) : entryFrame m #[.ref a] 1 = mkF m 0 #[.val (.ref a)] [] := by first | (simp [entryFrame, mkF, argsToLocals, Value.category]; done) | rfl
set_option maxRecDepth 65536 in
set_option maxHeartbeats 40000000 in
theorem rmo (l : Launch) (Z : State) (a0 : Array Value) (hw : ∀ d ∈ tables_1, d.before a0 Z = true) (a : Addr) (u t : Int64) (h0 : Heap) (n0 : Nat) (Z0 : n0 ≤ h0.size) (F_b : Fld Z h0 a "com/example/leiste/leiste/service/ClientMemory" "_buffered" "J" (.long u)) (F_l : Fld Z h0 a "com/example/leiste/leiste/service/ClientMemory" "_limit" "J" (.long t)) :
    Met l Z (⟨"com/example/leiste/leiste/service/ClientMemory", "isOver", "()Z"⟩ : MethodName) prog_19_method_6_code 1 (some .boolean) ({ frames := 0, cells := 0, slots := 0, locals := 0 } : Room) n0 #[.ref a] h0 (fun v h => v = some (.int (fo u t)) ∧ h0 = h) := by
  refine Met.of (Ls := #[.val (.ref a)]) pn_4_rmo (fun m => ef_rmo m) fun p e s m below meth c T0 P hP k0 => ?_
  refine s_aloadN k0 d4_0 rfl rfl (pc' := 1) rfl ?_
  refine s_get k0 d4_1 (host := "") (Or.inl (hw _ (List.mem_of_getElem? (i := 26) rfl))) Via.refl F_b (pc' := 4) rfl fun T1 k1 => ?_
  refine s_aloadN k1 d4_4 rfl rfl (pc' := 5) rfl ?_
  refine s_get k1 d4_5 (host := "") (Or.inl (hw _ (List.mem_of_getElem? (i := 10) rfl))) Via.refl F_l (pc' := 8) rfl fun T2 k2 => ?_
  refine s_lcmp_le k2 d4_8 rfl d4_9 (by decide) (pc' := 16) (by decide) (pc3 := 12) rfl (fun hc8 => ?_) (fun hc8 => ?_)
  · refine s_iconst k2 (z := 1) d4_12 (by decide) (pc' := 13) rfl ?_
    refine s_goto k2 d4_13 (by decide) (pc' := 17) (by decide) ?_
    exact s_retZ k2 d4_17 rfl (by decide) hP (by decide) (by decide) ⟨by rw [fo_eq, if_pos hc8], rfl⟩
  · refine s_iconst k2 (z := 0) d4_16 (by decide) (pc' := 17) rfl ?_
    exact s_retZ k2 d4_17 rfl (by decide) hP (by decide) (by decide) ⟨by rw [fo_eq, if_neg hc8], rfl⟩
theorem d5_0 : decode prog_19_method_5_code 0 = .ok (.aload_n 0, 1) := by decide +kernel
theorem d5_1 : decode prog_19_method_5_code 1 = .ok (.dup, 1) := by decide +kernel
theorem d5_2 : decode prog_19_method_5_code 2 = .ok (.getfield 36, 3) := by decide +kernel
theorem d5_5 : decode prog_19_method_5_code 5 = .ok (.lload_n 1, 1) := by decide +kernel
theorem d5_6 : decode prog_19_method_5_code 6 = .ok (.ladd, 1) := by decide +kernel
theorem d5_7 : decode prog_19_method_5_code 7 = .ok (.putfield 36, 3) := by decide +kernel
theorem d5_10 : decode prog_19_method_5_code 10 = .ok (.return_, 1) := by decide +kernel
theorem pn_5_rma : plainFor (⟨"com/example/leiste/leiste/service/ClientMemory", "add", "(J)V"⟩ : MethodName) = true := plainFor_of_name (by first | (simp [plainName, overriddenIn]; done) | decide +kernel)
theorem ef_rma {a : Addr} {p1 : Int64} (m : MethodId) : entryFrame m #[.ref a, .long p1] 3 = mkF m 0 #[.val (.ref a), .val (.long p1), .second] [] := by first | (simp [entryFrame, mkF, argsToLocals, Value.category]; done) | rfl
set_option maxRecDepth 65536 in
set_option maxHeartbeats 40000000 in
theorem rma (l : Launch) (Z : State) (a0 : Array Value) (hw : ∀ d ∈ tables_1, d.before a0 Z = true) (a : Addr) (p1 u t : Int64) (h0 : Heap) (n0 : Nat) (Z0 : n0 ≤ h0.size) (E_a : Exa Z h0 a "com/example/leiste/leiste/service/ClientMemory") (F_b : Fld Z h0 a "com/example/leiste/leiste/service/ClientMemory" "_buffered" "J" (.long u)) (F_l : Fld Z h0 a "com/example/leiste/leiste/service/ClientMemory" "_limit" "J" (.long t)) (g_a : n0 ≤ a) :
    Met l Z (⟨"com/example/leiste/leiste/service/ClientMemory", "add", "(J)V"⟩ : MethodName) prog_19_method_5_code 3 none ({ frames := 0, cells := 0, slots := 0, locals := 0 } : Room) n0 #[.ref a, .long p1] h0 (fun v h => v = none ∧ Keep h0 h [a] ∧ Fld Z h a "com/example/leiste/leiste/service/ClientMemory" "_buffered" "J" (.long (u + p1)) ∧ Fld Z h a "com/example/leiste/leiste/service/ClientMemory" "_limit" "J" (.long t)) := by
  have Kp0 := Keep.refl h0 [a]
  refine Met.of (Ls := #[.val (.ref a), .val (.long p1), .second]) pn_5_rma (fun m => ef_rma m) fun p e s m below meth c T0 P hP k0 => ?_
  refine s_aloadN k0 d5_0 rfl rfl (pc' := 1) rfl ?_
  refine s_dup k0 d5_1 rfl (pc' := 2) rfl ?_
  refine s_get k0 d5_2 (host := "") (Or.inl (hw _ (List.mem_of_getElem? (i := 26) rfl))) Via.refl F_b (pc' := 5) rfl fun T1 k1 => ?_
  refine s_lloadN k1 d5_5 rfl (pc' := 6) rfl ?_
  refine s_ladd k1 d5_6 rfl (pc' := 7) rfl ?_
  refine s_put k1 d5_7 (host := "") (Or.inl (hw _ (List.mem_of_getElem? (i := 26) rfl))) Via.refl F_b E_a (Or.inl (hw _ (List.mem_of_getElem? (i := 27) rfl))) (hw _ (List.mem_of_getElem? (i := 1) rfl)) (ty := .long) (by decide) rfl rfl g_a (pc' := 10) rfl fun T2 h2 L2 k2 W2 => ?_
  have F3_a__buffered := F_b.same W2
  have F4_a__limit := F_l.other W2 (Or.inr (slot_ne (Or.inr (hw _ (List.mem_of_getElem? (i := 11) rfl))) (Or.inl (hw _ (List.mem_of_getElem? (i := 27) rfl))) (by decide) (t := .long) (t' := .long) (by decide) (by decide)))
  have E5_a := E_a.wr W2
  have Z6 := Nat.le_trans Z0 (Keep.of_wr W2).1
  have Kp7 := Kp0.wr W2 (Or.inl (List.mem_of_getElem? (i := 0) rfl))
  exact s_ret k2 d5_10 rfl hP (by decide) (by decide) ⟨rfl, Kp7, F3_a__buffered, F4_a__limit⟩
theorem own_h (i0 : Int64) (i2 : Int32) : (i0 / (2 : Int64)) < ((i0 / (2 : Int64)) + i2.toInt64) ↔ (0 : Int32) < i2 := by
  have d2 : (2 : Int64).toInt = 2 := by decide
  have d0 : (0 : Int32).toInt = 0 := by decide
  have e1 : (i0 / (2 : Int64)).toInt = i0.toInt.tdiv 2 := by rw [Jvm.Kit.i64_div (by rw [d2]; omega), d2]
  have a := i0.toInt_lt; have b := i0.le_toInt; have c := i2.toInt_lt; have d := i2.le_toInt
  have hb : -2 ^ 62 ≤ i0.toInt.tdiv 2 ∧ i0.toInt.tdiv 2 < 2 ^ 62 := by
    by_cases hn : 0 ≤ i0.toInt
    · rw [Int.tdiv_eq_ediv_of_nonneg hn]; omega
    · have := Int.neg_tdiv (a := -i0.toInt) (b := 2)
      rw [Int.neg_neg] at this
      rw [this, Int.tdiv_eq_ediv_of_nonneg (by omega)]
      omega
  rw [Int64.lt_iff_toInt_lt, Int32.lt_iff_toInt_lt, Jvm.Kit.i64_add (by rw [e1, Jvm.Kit.i64_of_i32]; omega) (by rw [e1, Jvm.Kit.i64_of_i32]; omega), e1, Jvm.Kit.i64_of_i32, d0]
  omega
theorem own_1 (i0 : Int64) (w : Int32) (e : w = (if (i0 / (2 : Int64)) < (0 : Int64) then (1 : Int32) else (0 : Int32))) : fo (0 : Int64) (i0 / (2 : Int64)) = w := by rw [e, fo_eq]
theorem own_2 (i0 i1 : Int64) (w : Int32) (e : w = (if (i0 / (2 : Int64)) < i1 then (1 : Int32) else (0 : Int32))) : fo ((0 : Int64) + i1) (i0 / (2 : Int64)) = w := by rw [e, fo_eq, Int64.zero_add]
theorem own_b2 (i1 : Int64) : (((0 : Int64) + i1) + (-i1)) = 0 := by rw [Int64.zero_add, Int64.add_right_neg]
theorem own_3 (i0 i1 : Int64) (w : Int32) (e : w = (if (i0 / (2 : Int64)) < (0 : Int64) then (1 : Int32) else (0 : Int32))) : fo (((0 : Int64) + i1) + (-i1)) (i0 / (2 : Int64)) = w := by rw [e, fo_eq, own_b2]
theorem own_4 (i0 i1 : Int64) (i2 : Int32) (w : Int32) (e : w = (if (0 : Int32) < i2 then (1 : Int32) else (0 : Int32))) : fo ((((0 : Int64) + i1) + (-i1)) + ((i0 / (2 : Int64)) + i2.toInt64)) (i0 / (2 : Int64)) = w := by
  rw [e, fo_eq, own_b2, Int64.zero_add]
  by_cases h : (0 : Int32) < i2
  · rw [if_pos h, if_pos ((own_h i0 i2).mpr h)]
  · rw [if_neg h, if_neg fun q => h ((own_h i0 i2).mp q)]
theorem own_5 (i0 i1 : Int64) (i2 : Int32) : fo (((((0 : Int64) + i1) + (-i1)) + ((i0 / (2 : Int64)) + i2.toInt64)) + (-i2.toInt64)) (i0 / (2 : Int64)) = (0 : Int32) := by
  have e : (((((0 : Int64) + i1) + (-i1)) + ((i0 / (2 : Int64)) + i2.toInt64)) + (-i2.toInt64)) = (i0 / (2 : Int64)) := by rw [own_b2, Int64.zero_add, Int64.add_assoc, Int64.add_right_neg, Int64.add_zero]
  rw [e, fo_eq, if_neg (fun q => Int64.lt_irrefl q)]
theorem pd__28J_29V : parseMethodDescriptor "(J)V" = some ⟨[.long], none⟩ := by decide +kernel
theorem pd__28_29Z : parseMethodDescriptor "()Z" = some ⟨[], some .boolean⟩ := by decide +kernel
theorem pn_0_rm0 : plainFor (⟨"com/example/leiste/leiste/service/ClientMemoryIsOverPinLaw", "law", "(JJI)Z"⟩ : MethodName) = true := plainFor_of_name (by first | (simp [plainName, overriddenIn]; done) | decide +kernel)
theorem ef_rm0 {i0 : Int64} {i1 : Int64} {i2 : Int32} (m : MethodId) : entryFrame m #[.long i0, .long i1, .int i2] maxLocals = mkF m 0 #[.val (.long i0), .second, .val (.long i1), .second, .val (.int i2), .unset, .unset, .unset, .unset] [] := by first | (simp [entryFrame, mkF, argsToLocals, Value.category, maxLocals]; done) | rfl
set_option maxRecDepth 65536 in
set_option maxHeartbeats 40000000 in
theorem rm0 (l : Launch) (Z : State) (a0 : Array Value) (hw : ∀ d ∈ tables_1, d.before a0 Z = true) (i0 i1 : Int64) (i2 : Int32) (h0 : Heap) (n0 : Nat) (Z0 : n0 ≤ h0.size)  :
    Met l Z x code maxLocals ret room_1 n0 #[.long i0, .long i1, .int i2] h0 (fun v h => v = some (.int 1)) := by
  refine Met.of (Ls := #[.val (.long i0), .second, .val (.long i1), .second, .val (.int i2), .unset, .unset, .unset, .unset]) pn_0_rm0 (fun m => ef_rm0 m) fun p e s m below meth c T0 P hP k0 => ?_
  refine s_new k0 at_0 (hw _ (List.mem_of_getElem? (i := 0) rfl)) (hw _ (List.mem_of_getElem? (i := 1) rfl)) (hw _ (List.mem_of_getElem? (i := 2) rfl)) (by decide) (by decide) (pc' := 3) rfl fun T1 h1 b1 q1 k1 X1 E1 D1 => ?_
  have g_b1 : n0 ≤ b1 := Nat.le_trans Z0 (Nat.le_of_eq q1.symm)
  have Z2 := Nat.le_trans Z0 X1.1
  have F1_b1__limit : Fld Z h1 b1 "com/example/leiste/leiste/service/ClientMemory" "_limit" "J" (.long (0 : Int64)) := D1 (Or.inr (hw _ (List.mem_of_getElem? (i := 11) rfl))) (ty := .long) (by decide)
  have F1_b1__maxConnections : Fld Z h1 b1 "com/example/leiste/leiste/service/ClientMemory" "_maxConnections" "I" (.int (0 : Int32)) := D1 (Or.inr (hw _ (List.mem_of_getElem? (i := 19) rfl))) (ty := .int) (by decide)
  have F1_b1__buffered : Fld Z h1 b1 "com/example/leiste/leiste/service/ClientMemory" "_buffered" "J" (.long (0 : Int64)) := D1 (Or.inl (hw _ (List.mem_of_getElem? (i := 27) rfl))) (ty := .long) (by decide)
  refine s_dup k1 at_3 rfl (pc' := 4) rfl ?_
  refine s_lloadN k1 at_4 rfl (pc' := 5) rfl ?_
  refine s_callI k1 [.long i0] 1 at_5 rfl (hw _ (List.mem_of_getElem? (i := 3) rfl)) (hw _ (List.mem_of_getElem? (i := 4) rfl)) (hw _ (List.mem_of_getElem? (i := 2) rfl)) (hw _ (List.mem_of_getElem? (i := 5) rfl)) (by decide) (rmi l Z a0 hw b1 i0 h1 n0 Z2 E1 F1_b1__limit F1_b1__maxConnections F1_b1__buffered g_b1) (by decide) (by decide) pd__28J_29V rfl (Nat.le_of_eq rfl) rfl (by decide) (by decide) rfl (pc' := 8) rfl fun v3 T3 h3 L3 k3 Qv3 => ?_
  obtain ⟨rfl, Kc3, G3_0, G3_1⟩ := Qv3
  have E4_b1 := E1.keep Kc3
  have Z5 := Nat.le_trans Z2 Kc3.1
  show Go p e below P T3 (mkF m 8 #[.val (.long i0), .second, .val (.long i1), .second, .val (.int i2), .unset, .unset, .unset, .unset] [.ref b1])
  refine s_astore k3 at_8 rfl (l' := #[.val (.long i0), .second, .val (.long i1), .second, .val (.int i2), .val (.ref b1), .unset, .unset, .unset]) rfl (pc' := 10) rfl ?_
  refine s_lloadN k3 at_10 rfl (pc' := 11) rfl ?_
  refine s_ldcL k3 at_11 (hw _ (List.mem_of_getElem? (i := 20) rfl)) (pc' := 14) rfl ?_
  refine s_ldiv k3 at_14 (by decide) rfl (pc' := 15) rfl ?_
  refine s_lstore k3 at_15 (l' := #[.val (.long i0), .second, .val (.long i1), .second, .val (.int i2), .val (.ref b1), .val (.long (i0 / (2 : Int64))), .second, .unset]) rfl (pc' := 17) rfl ?_
  refine s_aload k3 at_17 rfl rfl (pc' := 19) rfl ?_
  refine s_callV k3 [] 0 at_19 (hw _ (List.mem_of_getElem? (i := 21) rfl)) (hw _ (List.mem_of_getElem? (i := 22) rfl)) (hw _ (List.mem_of_getElem? (i := 24) rfl)) (hw _ (List.mem_of_getElem? (i := 23) rfl)) (hw _ (List.mem_of_getElem? (i := 2) rfl)) (hw _ (List.mem_of_getElem? (i := 25) rfl)) (by decide) E4_b1 (rmo l Z a0 hw b1 (0 : Int64) (i0 / (2 : Int64)) h3 n0 Z5 G3_1 G3_0) (by decide) (by decide) pd__28_29Z rfl (Nat.le_of_eq rfl) rfl (by decide) (by decide) rfl (pc' := 22) rfl fun v6 T6 h6 L6 k6 Qv6 => ?_
  obtain ⟨rfl, rfl⟩ := Qv6
  show Go p e below P T6 (mkF m 22 #[.val (.long i0), .second, .val (.long i1), .second, .val (.int i2), .val (.ref b1), .val (.long (i0 / (2 : Int64))), .second, .unset] [.int (fo (0 : Int64) (i0 / (2 : Int64)))])
  refine s_lload k6 at_22 rfl (pc' := 24) rfl ?_
  refine s_lconst k6 (z := 0) at_24 (by decide) (pc' := 25) rfl ?_
  have J7 : ∀ (w25 : Int32) (e_w25 : w25 = (if (i0 / (2 : Int64)) < (0 : Int64) then (1 : Int32) else (0 : Int32))), Go p e below P T6 (mkF m 34 #[.val (.long i0), .second, .val (.long i1), .second, .val (.int i2), .val (.ref b1), .val (.long (i0 / (2 : Int64))), .second, .unset] [.int w25, .int (fo (0 : Int64) (i0 / (2 : Int64)))]) := by
    intro w25 e_w25
    refine s_icmp_ne k6 at_34 (by decide) (pc' := 41) (by decide) (pc3 := 37) rfl (fun hc34 => ?_) (fun hc34 => absurd (own_1 i0 w25 e_w25) hc34)
    refine s_iconst k6 (z := 1) at_37 (by decide) (pc' := 38) rfl ?_
    refine s_goto k6 at_38 (by decide) (pc' := 42) (by decide) ?_
    refine s_istore k6 at_42 (l' := #[.val (.long i0), .second, .val (.long i1), .second, .val (.int i2), .val (.ref b1), .val (.long (i0 / (2 : Int64))), .second, .val (.int (1 : Int32))]) rfl (pc' := 44) rfl ?_
    refine s_aload k6 at_44 rfl rfl (pc' := 46) rfl ?_
    refine s_lloadN k6 at_46 rfl (pc' := 47) rfl ?_
    refine s_callV k6 [.long i1] 0 at_47 (hw _ (List.mem_of_getElem? (i := 28) rfl)) (hw _ (List.mem_of_getElem? (i := 29) rfl)) (hw _ (List.mem_of_getElem? (i := 31) rfl)) (hw _ (List.mem_of_getElem? (i := 30) rfl)) (hw _ (List.mem_of_getElem? (i := 2) rfl)) (hw _ (List.mem_of_getElem? (i := 32) rfl)) (by decide) E4_b1 (rma l Z a0 hw b1 i1 (0 : Int64) (i0 / (2 : Int64)) h3 n0 Z5 E4_b1 G3_1 G3_0 g_b1) (by decide) (by decide) pd__28J_29V rfl (Nat.le_of_eq rfl) rfl (by decide) (by decide) rfl (pc' := 50) rfl fun v8 T8 h8 L8 k8 Qv8 => ?_
    obtain ⟨rfl, Kc8, G8_0, G8_1⟩ := Qv8
    have E9_b1 := E4_b1.keep Kc8
    have Z10 := Nat.le_trans Z5 Kc8.1
    show Go p e below P T8 (mkF m 50 #[.val (.long i0), .second, .val (.long i1), .second, .val (.int i2), .val (.ref b1), .val (.long (i0 / (2 : Int64))), .second, .val (.int (1 : Int32))] [])
    refine s_iload k8 at_50 rfl (pc' := 52) rfl ?_
    refine s_if_eq k8 at_52 (by decide) (pc' := 79) (by decide) (pc3 := 55) rfl (fun hc52 => absurd hc52 (by decide)) (fun hc52 => ?_)
    refine s_aload k8 at_55 rfl rfl (pc' := 57) rfl ?_
    refine s_callV k8 [] 0 at_57 (hw _ (List.mem_of_getElem? (i := 21) rfl)) (hw _ (List.mem_of_getElem? (i := 22) rfl)) (hw _ (List.mem_of_getElem? (i := 24) rfl)) (hw _ (List.mem_of_getElem? (i := 23) rfl)) (hw _ (List.mem_of_getElem? (i := 2) rfl)) (hw _ (List.mem_of_getElem? (i := 25) rfl)) (by decide) E9_b1 (rmo l Z a0 hw b1 ((0 : Int64) + i1) (i0 / (2 : Int64)) h8 n0 Z10 G8_0 G8_1) (by decide) (by decide) pd__28_29Z rfl (Nat.le_of_eq rfl) rfl (by decide) (by decide) rfl (pc' := 60) rfl fun v11 T11 h11 L11 k11 Qv11 => ?_
    obtain ⟨rfl, rfl⟩ := Qv11
    show Go p e below P T11 (mkF m 60 #[.val (.long i0), .second, .val (.long i1), .second, .val (.int i2), .val (.ref b1), .val (.long (i0 / (2 : Int64))), .second, .val (.int (1 : Int32))] [.int (fo ((0 : Int64) + i1) (i0 / (2 : Int64)))])
    refine s_lloadN k11 at_60 rfl (pc' := 61) rfl ?_
    refine s_lload k11 at_61 rfl (pc' := 63) rfl ?_
    have J12 : ∀ (w63 : Int32) (e_w63 : w63 = (if (i0 / (2 : Int64)) < i1 then (1 : Int32) else (0 : Int32))), Go p e below P T11 (mkF m 72 #[.val (.long i0), .second, .val (.long i1), .second, .val (.int i2), .val (.ref b1), .val (.long (i0 / (2 : Int64))), .second, .val (.int (1 : Int32))] [.int w63, .int (fo ((0 : Int64) + i1) (i0 / (2 : Int64)))]) := by
      intro w63 e_w63
      refine s_icmp_ne k11 at_72 (by decide) (pc' := 79) (by decide) (pc3 := 75) rfl (fun hc72 => ?_) (fun hc72 => absurd (own_2 i0 i1 w63 e_w63) hc72)
      refine s_iconst k11 (z := 1) at_75 (by decide) (pc' := 76) rfl ?_
      refine s_goto k11 at_76 (by decide) (pc' := 80) (by decide) ?_
      refine s_istore k11 at_80 (l' := #[.val (.long i0), .second, .val (.long i1), .second, .val (.int i2), .val (.ref b1), .val (.long (i0 / (2 : Int64))), .second, .val (.int (1 : Int32))]) rfl (pc' := 82) rfl ?_
      refine s_aload k11 at_82 rfl rfl (pc' := 84) rfl ?_
      refine s_lloadN k11 at_84 rfl (pc' := 85) rfl ?_
      refine s_lneg k11 at_85 rfl (pc' := 86) rfl ?_
      refine s_callV k11 [.long (-i1)] 0 at_86 (hw _ (List.mem_of_getElem? (i := 28) rfl)) (hw _ (List.mem_of_getElem? (i := 29) rfl)) (hw _ (List.mem_of_getElem? (i := 31) rfl)) (hw _ (List.mem_of_getElem? (i := 30) rfl)) (hw _ (List.mem_of_getElem? (i := 2) rfl)) (hw _ (List.mem_of_getElem? (i := 32) rfl)) (by decide) E9_b1 (rma l Z a0 hw b1 (-i1) ((0 : Int64) + i1) (i0 / (2 : Int64)) h8 n0 Z10 E9_b1 G8_0 G8_1 g_b1) (by decide) (by decide) pd__28J_29V rfl (Nat.le_of_eq rfl) rfl (by decide) (by decide) rfl (pc' := 89) rfl fun v13 T13 h13 L13 k13 Qv13 => ?_
      obtain ⟨rfl, Kc13, G13_0, G13_1⟩ := Qv13
      have E14_b1 := E9_b1.keep Kc13
      have Z15 := Nat.le_trans Z10 Kc13.1
      show Go p e below P T13 (mkF m 89 #[.val (.long i0), .second, .val (.long i1), .second, .val (.int i2), .val (.ref b1), .val (.long (i0 / (2 : Int64))), .second, .val (.int (1 : Int32))] [])
      refine s_iload k13 at_89 rfl (pc' := 91) rfl ?_
      refine s_if_eq k13 at_91 (by decide) (pc' := 118) (by decide) (pc3 := 94) rfl (fun hc91 => absurd hc91 (by decide)) (fun hc91 => ?_)
      refine s_aload k13 at_94 rfl rfl (pc' := 96) rfl ?_
      refine s_callV k13 [] 0 at_96 (hw _ (List.mem_of_getElem? (i := 21) rfl)) (hw _ (List.mem_of_getElem? (i := 22) rfl)) (hw _ (List.mem_of_getElem? (i := 24) rfl)) (hw _ (List.mem_of_getElem? (i := 23) rfl)) (hw _ (List.mem_of_getElem? (i := 2) rfl)) (hw _ (List.mem_of_getElem? (i := 25) rfl)) (by decide) E14_b1 (rmo l Z a0 hw b1 (((0 : Int64) + i1) + (-i1)) (i0 / (2 : Int64)) h13 n0 Z15 G13_0 G13_1) (by decide) (by decide) pd__28_29Z rfl (Nat.le_of_eq rfl) rfl (by decide) (by decide) rfl (pc' := 99) rfl fun v16 T16 h16 L16 k16 Qv16 => ?_
      obtain ⟨rfl, rfl⟩ := Qv16
      show Go p e below P T16 (mkF m 99 #[.val (.long i0), .second, .val (.long i1), .second, .val (.int i2), .val (.ref b1), .val (.long (i0 / (2 : Int64))), .second, .val (.int (1 : Int32))] [.int (fo (((0 : Int64) + i1) + (-i1)) (i0 / (2 : Int64)))])
      refine s_lload k16 at_99 rfl (pc' := 101) rfl ?_
      refine s_lconst k16 (z := 0) at_101 (by decide) (pc' := 102) rfl ?_
      have J17 : ∀ (w102 : Int32) (e_w102 : w102 = (if (i0 / (2 : Int64)) < (0 : Int64) then (1 : Int32) else (0 : Int32))), Go p e below P T16 (mkF m 111 #[.val (.long i0), .second, .val (.long i1), .second, .val (.int i2), .val (.ref b1), .val (.long (i0 / (2 : Int64))), .second, .val (.int (1 : Int32))] [.int w102, .int (fo (((0 : Int64) + i1) + (-i1)) (i0 / (2 : Int64)))]) := by
        intro w102 e_w102
        refine s_icmp_ne k16 at_111 (by decide) (pc' := 118) (by decide) (pc3 := 114) rfl (fun hc111 => ?_) (fun hc111 => absurd (own_3 i0 i1 w102 e_w102) hc111)
        refine s_iconst k16 (z := 1) at_114 (by decide) (pc' := 115) rfl ?_
        refine s_goto k16 at_115 (by decide) (pc' := 119) (by decide) ?_
        refine s_istore k16 at_119 (l' := #[.val (.long i0), .second, .val (.long i1), .second, .val (.int i2), .val (.ref b1), .val (.long (i0 / (2 : Int64))), .second, .val (.int (1 : Int32))]) rfl (pc' := 121) rfl ?_
        refine s_aload k16 at_121 rfl rfl (pc' := 123) rfl ?_
        refine s_lload k16 at_123 rfl (pc' := 125) rfl ?_
        refine s_iload k16 at_125 rfl (pc' := 127) rfl ?_
        refine s_i2l k16 at_127 rfl (pc' := 128) rfl ?_
        refine s_ladd k16 at_128 rfl (pc' := 129) rfl ?_
        refine s_callV k16 [.long ((i0 / (2 : Int64)) + i2.toInt64)] 0 at_129 (hw _ (List.mem_of_getElem? (i := 28) rfl)) (hw _ (List.mem_of_getElem? (i := 29) rfl)) (hw _ (List.mem_of_getElem? (i := 31) rfl)) (hw _ (List.mem_of_getElem? (i := 30) rfl)) (hw _ (List.mem_of_getElem? (i := 2) rfl)) (hw _ (List.mem_of_getElem? (i := 32) rfl)) (by decide) E14_b1 (rma l Z a0 hw b1 ((i0 / (2 : Int64)) + i2.toInt64) (((0 : Int64) + i1) + (-i1)) (i0 / (2 : Int64)) h13 n0 Z15 E14_b1 G13_0 G13_1 g_b1) (by decide) (by decide) pd__28J_29V rfl (Nat.le_of_eq rfl) rfl (by decide) (by decide) rfl (pc' := 132) rfl fun v18 T18 h18 L18 k18 Qv18 => ?_
        obtain ⟨rfl, Kc18, G18_0, G18_1⟩ := Qv18
        have E19_b1 := E14_b1.keep Kc18
        have Z20 := Nat.le_trans Z15 Kc18.1
        show Go p e below P T18 (mkF m 132 #[.val (.long i0), .second, .val (.long i1), .second, .val (.int i2), .val (.ref b1), .val (.long (i0 / (2 : Int64))), .second, .val (.int (1 : Int32))] [])
        refine s_iload k18 at_132 rfl (pc' := 134) rfl ?_
        refine s_if_eq k18 at_134 (by decide) (pc' := 159) (by decide) (pc3 := 137) rfl (fun hc134 => absurd hc134 (by decide)) (fun hc134 => ?_)
        refine s_aload k18 at_137 rfl rfl (pc' := 139) rfl ?_
        refine s_callV k18 [] 0 at_139 (hw _ (List.mem_of_getElem? (i := 21) rfl)) (hw _ (List.mem_of_getElem? (i := 22) rfl)) (hw _ (List.mem_of_getElem? (i := 24) rfl)) (hw _ (List.mem_of_getElem? (i := 23) rfl)) (hw _ (List.mem_of_getElem? (i := 2) rfl)) (hw _ (List.mem_of_getElem? (i := 25) rfl)) (by decide) E19_b1 (rmo l Z a0 hw b1 ((((0 : Int64) + i1) + (-i1)) + ((i0 / (2 : Int64)) + i2.toInt64)) (i0 / (2 : Int64)) h18 n0 Z20 G18_0 G18_1) (by decide) (by decide) pd__28_29Z rfl (Nat.le_of_eq rfl) rfl (by decide) (by decide) rfl (pc' := 142) rfl fun v21 T21 h21 L21 k21 Qv21 => ?_
        obtain ⟨rfl, rfl⟩ := Qv21
        show Go p e below P T21 (mkF m 142 #[.val (.long i0), .second, .val (.long i1), .second, .val (.int i2), .val (.ref b1), .val (.long (i0 / (2 : Int64))), .second, .val (.int (1 : Int32))] [.int (fo ((((0 : Int64) + i1) + (-i1)) + ((i0 / (2 : Int64)) + i2.toInt64)) (i0 / (2 : Int64)))])
        refine s_iload k21 at_142 rfl (pc' := 144) rfl ?_
        have J22 : ∀ (w144 : Int32) (e_w144 : w144 = (if (0 : Int32) < i2 then (1 : Int32) else (0 : Int32))), Go p e below P T21 (mkF m 152 #[.val (.long i0), .second, .val (.long i1), .second, .val (.int i2), .val (.ref b1), .val (.long (i0 / (2 : Int64))), .second, .val (.int (1 : Int32))] [.int w144, .int (fo ((((0 : Int64) + i1) + (-i1)) + ((i0 / (2 : Int64)) + i2.toInt64)) (i0 / (2 : Int64)))]) := by
          intro w144 e_w144
          refine s_icmp_ne k21 at_152 (by decide) (pc' := 159) (by decide) (pc3 := 155) rfl (fun hc152 => ?_) (fun hc152 => absurd (own_4 i0 i1 i2 w144 e_w144) hc152)
          refine s_iconst k21 (z := 1) at_155 (by decide) (pc' := 156) rfl ?_
          refine s_goto k21 at_156 (by decide) (pc' := 160) (by decide) ?_
          refine s_istore k21 at_160 (l' := #[.val (.long i0), .second, .val (.long i1), .second, .val (.int i2), .val (.ref b1), .val (.long (i0 / (2 : Int64))), .second, .val (.int (1 : Int32))]) rfl (pc' := 162) rfl ?_
          refine s_aload k21 at_162 rfl rfl (pc' := 164) rfl ?_
          refine s_iload k21 at_164 rfl (pc' := 166) rfl ?_
          refine s_i2l k21 at_166 rfl (pc' := 167) rfl ?_
          refine s_lneg k21 at_167 rfl (pc' := 168) rfl ?_
          refine s_callV k21 [.long (-i2.toInt64)] 0 at_168 (hw _ (List.mem_of_getElem? (i := 28) rfl)) (hw _ (List.mem_of_getElem? (i := 29) rfl)) (hw _ (List.mem_of_getElem? (i := 31) rfl)) (hw _ (List.mem_of_getElem? (i := 30) rfl)) (hw _ (List.mem_of_getElem? (i := 2) rfl)) (hw _ (List.mem_of_getElem? (i := 32) rfl)) (by decide) E19_b1 (rma l Z a0 hw b1 (-i2.toInt64) ((((0 : Int64) + i1) + (-i1)) + ((i0 / (2 : Int64)) + i2.toInt64)) (i0 / (2 : Int64)) h18 n0 Z20 E19_b1 G18_0 G18_1 g_b1) (by decide) (by decide) pd__28J_29V rfl (Nat.le_of_eq rfl) rfl (by decide) (by decide) rfl (pc' := 171) rfl fun v23 T23 h23 L23 k23 Qv23 => ?_
          obtain ⟨rfl, Kc23, G23_0, G23_1⟩ := Qv23
          have E24_b1 := E19_b1.keep Kc23
          have Z25 := Nat.le_trans Z20 Kc23.1
          show Go p e below P T23 (mkF m 171 #[.val (.long i0), .second, .val (.long i1), .second, .val (.int i2), .val (.ref b1), .val (.long (i0 / (2 : Int64))), .second, .val (.int (1 : Int32))] [])
          refine s_iload k23 at_171 rfl (pc' := 173) rfl ?_
          refine s_if_eq k23 at_173 (by decide) (pc' := 188) (by decide) (pc3 := 176) rfl (fun hc173 => absurd hc173 (by decide)) (fun hc173 => ?_)
          refine s_aload k23 at_176 rfl rfl (pc' := 178) rfl ?_
          refine s_callV k23 [] 0 at_178 (hw _ (List.mem_of_getElem? (i := 21) rfl)) (hw _ (List.mem_of_getElem? (i := 22) rfl)) (hw _ (List.mem_of_getElem? (i := 24) rfl)) (hw _ (List.mem_of_getElem? (i := 23) rfl)) (hw _ (List.mem_of_getElem? (i := 2) rfl)) (hw _ (List.mem_of_getElem? (i := 25) rfl)) (by decide) E24_b1 (rmo l Z a0 hw b1 (((((0 : Int64) + i1) + (-i1)) + ((i0 / (2 : Int64)) + i2.toInt64)) + (-i2.toInt64)) (i0 / (2 : Int64)) h23 n0 Z25 G23_0 G23_1) (by decide) (by decide) pd__28_29Z rfl (Nat.le_of_eq rfl) rfl (by decide) (by decide) rfl (pc' := 181) rfl fun v26 T26 h26 L26 k26 Qv26 => ?_
          obtain ⟨rfl, rfl⟩ := Qv26
          show Go p e below P T26 (mkF m 181 #[.val (.long i0), .second, .val (.long i1), .second, .val (.int i2), .val (.ref b1), .val (.long (i0 / (2 : Int64))), .second, .val (.int (1 : Int32))] [.int (fo (((((0 : Int64) + i1) + (-i1)) + ((i0 / (2 : Int64)) + i2.toInt64)) + (-i2.toInt64)) (i0 / (2 : Int64)))])
          refine s_if_ne k26 at_181 (by decide) (pc' := 188) (by decide) (pc3 := 184) rfl (fun hc181 => ?_) (fun hc181 => absurd (own_5 i0 i1 i2) hc181)
          refine s_iconst k26 (z := 1) at_184 (by decide) (pc' := 185) rfl ?_
          refine s_goto k26 at_185 (by decide) (pc' := 189) (by decide) ?_
          refine s_istore k26 at_189 (l' := #[.val (.long i0), .second, .val (.long i1), .second, .val (.int i2), .val (.ref b1), .val (.long (i0 / (2 : Int64))), .second, .val (.int (1 : Int32))]) rfl (pc' := 191) rfl ?_
          refine s_iload k26 at_191 rfl (pc' := 193) rfl ?_
          exact s_retZ k26 at_193 rfl (by decide) hP (by decide) (by decide) rfl
        refine s_if_le k21 at_144 (by decide) (pc' := 151) (by decide) (pc3 := 147) rfl (fun hc144 => ?_) (fun hc144 => ?_)
        · refine s_iconst k21 (z := 1) at_147 (by decide) (pc' := 148) rfl ?_
          refine s_goto k21 at_148 (by decide) (pc' := 152) (by decide) ?_
          exact J22 _ (by rw [if_pos hc144])
        · refine s_iconst k21 (z := 0) at_151 (by decide) (pc' := 152) rfl ?_
          exact J22 _ (by rw [if_neg hc144])
      refine s_lcmp_ge k16 at_102 rfl at_103 (by decide) (pc' := 110) (by decide) (pc3 := 106) rfl (fun hc102 => ?_) (fun hc102 => ?_)
      · refine s_iconst k16 (z := 1) at_106 (by decide) (pc' := 107) rfl ?_
        refine s_goto k16 at_107 (by decide) (pc' := 111) (by decide) ?_
        exact J17 _ (by rw [if_pos hc102])
      · refine s_iconst k16 (z := 0) at_110 (by decide) (pc' := 111) rfl ?_
        exact J17 _ (by rw [if_neg hc102])
    refine s_lcmp_le k11 at_63 rfl at_64 (by decide) (pc' := 71) (by decide) (pc3 := 67) rfl (fun hc63 => ?_) (fun hc63 => ?_)
    · refine s_iconst k11 (z := 1) at_67 (by decide) (pc' := 68) rfl ?_
      refine s_goto k11 at_68 (by decide) (pc' := 72) (by decide) ?_
      exact J12 _ (by rw [if_pos hc63])
    · refine s_iconst k11 (z := 0) at_71 (by decide) (pc' := 72) rfl ?_
      exact J12 _ (by rw [if_neg hc63])
  refine s_lcmp_ge k6 at_25 rfl at_26 (by decide) (pc' := 33) (by decide) (pc3 := 29) rfl (fun hc25 => ?_) (fun hc25 => ?_)
  · refine s_iconst k6 (z := 1) at_29 (by decide) (pc' := 30) rfl ?_
    refine s_goto k6 at_30 (by decide) (pc' := 34) (by decide) ?_
    exact J7 _ (by rw [if_pos hc25])
  · refine s_iconst k6 (z := 0) at_33 (by decide) (pc' := 34) rfl ?_
    exact J7 _ (by rw [if_neg hc25])
set_option maxRecDepth 65536 in
set_option maxHeartbeats 40000000 in
theorem comes_1 {Post : Tables → Env → Array Value → State → Outcome → State → Prop} (hpost : ∀ tb e args s v u, (limb_1_1.after args s (.returned v) u = true ∧ limb_1_2.after args s (.returned v) u = true ∧ True) → FrameEnd s (.returned v) u (Jvm.fieldLocs frame_1_writes args s ++ Jvm.arrayLocs frame_1_arrays args s ++ Jvm.staticLocs frame_1_statics s) 16 128 → Post tb e args s (.returned v) u) :
    ArmFor flags0 classFile x code maxLocals ret World_1 tables_1 room_1 Calls_1 rest_1 Pre_1 Post := by
  intro l hfl _ _ p e ha hc hk s m args below hf hA hF happ hP
  obtain ⟨hcalls, hrest, hpre⟩ := hP
  obtain ⟨-, -, -, hnamed, -, -, -, hat⟩ := (Spec.applies_iff hf).mp happ
  obtain ⟨hg, hn⟩ := and_e (Cond.before_iff.mp (show (Jvm.Cond.and given_1 narrow_1).before args s = true from hpre))
  obtain ⟨gc, gr0⟩ := and_e hg
  obtain ⟨w0, w1, w2, rfl⟩ : ∃ w0 w1 w2 : Value, args = #[w0, w1, w2] := by
    have hs : args.size = 3 := by simpa [Cond.value, given_1] using gc
    obtain ⟨L⟩ := args
    match L, hs with
    | [w0, w1, w2], _ => exact ⟨w0, w1, w2, rfl⟩
  have hw := fun d (hd : d ∈ tables_1) => atoms_spec (ws := Jvm.Cond.code x code maxLocals ret :: tables_1) hat d (List.mem_cons_of_mem _ hd)
  obtain ⟨ga0, gr1⟩ := and_e gr0
  obtain ⟨i0, ei0⟩ := isL_v ga0
  obtain rfl : w0 = (.long i0) := Option.some.inj ei0
  obtain ⟨ga1, gr2⟩ := and_e gr1
  obtain ⟨i1, ei1⟩ := isL_v ga1
  obtain rfl : w1 = (.long i1) := Option.some.inj ei1
  have ga2 := gr2
  obtain ⟨i2, ei2⟩ := is_v ga2
  obtain rfl : w2 = (.int i2) := Option.some.inj ei2
  obtain ⟨n, o, h1, h2, h3, _, L, rfl, ⟨rfl, N⟩, hq⟩ := rm0 l s _ hw i0 i1 i2 s.heap s.heap.size (Nat.le_refl _)  tables_1 p e ha hc hk s m _ below hf ((Spec.applies_iff_loose hf).mp happ).1 ⟨rfl, State.Warmed39.refl s, rfl⟩ trivial
  refine ⟨n, _, h1, h2, h3, hpost _ _ _ _ _ _ ⟨Cond.after_iff.mpr rfl, Cond.after_iff.mpr (eq_i res_at (Term.int_eval (1)) rfl), trivial⟩ ⟨hq.1, hq.2.1, (hq.2.2.sift fun y hy => Or.inr (N y hy)).mono (by decide) (by decide)⟩⟩
theorem main_1_1 : Claimed_1_1 := comes_1 fun _ _ _ _ _ _ h hF => ⟨h.1, hF⟩
theorem main_1_2 : Claimed_1_2 := comes_1 fun _ _ _ _ _ _ h hF => ⟨h.2.1, hF⟩
end Jvm.Pilot.@@N@@
namespace Jvm.Pilot.@@N@@
open Jvm Jvm.ClassFile Sem Op Lib Jvm.Free Jvm.Stand Jvm.Pilot.@@N@@.Jvm.D
/-! MADE BY PROGRAM (witnessworld.py) out of the Statement's table words and the real class files: 10 classes; the members and pool entries that the words name. The judged class is class 1, her method 1. -/
namespace start1
open Jvm.ClassFile
def u (s : String) : CpInfo := .utf8 (stringToUtf16 s)
/-- a pool by its gaps: so many unusable entries, then the entry; so many at the end -/
def gap : Nat → List CpInfo → List CpInfo
  | 0, r => r
  | n + 1, r => .unusable :: gap n r
def poolList (es : List (Nat × CpInfo)) (last : Nat) : List CpInfo := es.foldr (fun e r => gap e.1 (e.2 :: r)) (gap last [])
def pool (es : List (Nat × CpInfo)) (last : Nat) : Array CpInfo := ⟨poolList es last⟩
def fileOf (pool : Array CpInfo) (this : Nat) (attrs : Array Attribute := #[]) (ms : Array MethodInfo := #[]) (fl : Nat := 33) (sup : Nat := 0) (ifs : Array Nat := #[]) (fds : Array FieldInfo := #[]) : ClassFile where
  minorVersion := 0
  majorVersion := 65
  constantPool := pool
  accessFlags := fl
  thisClass := this
  superClass := sup
  interfaces := ifs
  fields := fds
  methods := ms
  attributes := attrs
def plain (name : String) (sup : Option ClassId) : Class where
  name := name
  kind := .ordinary
  loader := none
  accessFlags := 33
  super := sup
  interfaces := #[]
  cf := none
  fields := #[]
  methods := #[]
  instanceTypes := #[]
  staticTypes := #[]
  resolved := #[]
  callSites := []
  init := .initialized
  statics := none
  mirror := none

def pool0 : Array CpInfo := pool [(5, u "<init>"), (0, u "()V"), (1, .class_ 10), (1, u "java/lang/Object")] 113

def k0c0 : Code := { maxStack := 0, maxLocals := 1, code := object_method_1_code, exceptionTable := #[], attributes := #[] }
def k0m0 : Method := { name := "<init>", desc := "()V", sig := { parameters := [], returnType := none }, accessFlags := 1, code := some k0c0 }
/-- java/lang/Object -/
def k0 : Class := { plain "java/lang/Object" none with
  accessFlags := 33
  interfaces := #[]
  cf := some (fileOf pool0 8 #[] #[{ accessFlags := 1, nameIndex := 5, descriptorIndex := 6, attributes := #[] }] 33 0 #[] #[])
  fields := #[]
  methods := #[k0m0]
  instanceTypes := #[]
  staticTypes := #[]
  resolved := Array.replicate 124 none
  statics := none }

def pool1 : Array CpInfo := pool [(2, .class_ 4), (1, u "java/lang/Object"), (0, u "<init>"), (0, u "()V"), (0, .class_ 8), (0, u "com/example/leiste/leiste/service/ClientMemory"), (0, .methodref 7 10), (0, .nameAndType 5 11), (0, u "(J)V"), (0, .long 2), (1, .methodref 7 15), (0, .nameAndType 16 17), (0, u "isOver"), (0, u "()Z"), (0, .methodref 7 19), (0, .nameAndType 20 11), (0, u "add"), (0, .class_ 22), (0, u "com/example/leiste/leiste/service/ClientMemoryIsOverPinLaw"), (2, u "law"), (0, u "(JJI)Z")] 3

def k1m0 : Method := { name := "<init>", desc := "()V", sig := { parameters := [], returnType := none }, accessFlags := 1, code := none }
def k1c1 : Code := { maxStack := 5, maxLocals := 9, code := code, exceptionTable := #[], attributes := #[] }
def k1m1 : Method := { name := "law", desc := "(JJI)Z", sig := { parameters := [.long, .long, .int], returnType := some .boolean }, accessFlags := 9, code := some k1c1 }
/-- com/example/leiste/leiste/service/ClientMemoryIsOverPinLaw -/
def k1 : Class := { plain "com/example/leiste/leiste/service/ClientMemoryIsOverPinLaw" (some 0) with
  accessFlags := 49
  interfaces := #[]
  cf := some (fileOf pool1 21 #[] #[{ accessFlags := 1, nameIndex := 5, descriptorIndex := 6, attributes := #[] }, { accessFlags := 9, nameIndex := 25, descriptorIndex := 26, attributes := #[] }] 49 2 #[] #[])
  fields := #[]
  methods := #[k1m0, k1m1]
  instanceTypes := #[]
  staticTypes := #[]
  resolved := Array.replicate 30 none
  statics := none }

def pool2 : Array CpInfo := pool [(1, .methodref 2 3), (0, .class_ 4), (0, .nameAndType 5 6), (0, u "java/lang/Object"), (0, u "<init>"), (0, u "()V"), (0, .long 2), (1, .fieldref 10 11), (0, .class_ 12), (0, .nameAndType 13 14), (0, u "com/example/leiste/leiste/service/ClientMemory"), (0, u "_limit"), (0, u "J"), (0, .long 2048), (3, .long 2147483647), (1, .methodref 22 23), (0, .class_ 24), (0, .nameAndType 25 26), (0, u "java/lang/Math"), (0, u "min"), (0, u "(JJ)J"), (0, .fieldref 10 28), (0, .nameAndType 29 30), (0, u "_maxConnections"), (0, u "I"), (5, .fieldref 10 37), (0, .nameAndType 38 14), (0, u "_buffered"), (0, u "CONNECTION_BYTES"), (1, u "(J)V"), (7, u "add"), (0, u "isOver"), (0, u "()Z")] 3

def k2c0 : Code := { maxStack := 5, maxLocals := 3, code := prog_19_method_1_code, exceptionTable := #[], attributes := #[] }
def k2m0 : Method := { name := "<init>", desc := "(J)V", sig := { parameters := [.long], returnType := none }, accessFlags := 0, code := some k2c0 }
def k2c1 : Code := { maxStack := 5, maxLocals := 3, code := prog_19_method_5_code, exceptionTable := #[], attributes := #[] }
def k2m1 : Method := { name := "add", desc := "(J)V", sig := { parameters := [.long], returnType := none }, accessFlags := 0, code := some k2c1 }
def k2c2 : Code := { maxStack := 4, maxLocals := 1, code := prog_19_method_6_code, exceptionTable := #[], attributes := #[] }
def k2m2 : Method := { name := "isOver", desc := "()Z", sig := { parameters := [], returnType := some .boolean }, accessFlags := 0, code := some k2c2 }
/-- com/example/leiste/leiste/service/ClientMemory -/
def k2 : Class := { plain "com/example/leiste/leiste/service/ClientMemory" (some 0) with
  accessFlags := 48
  interfaces := #[]
  cf := some (fileOf pool2 10 #[] #[{ accessFlags := 0, nameIndex := 5, descriptorIndex := 41, attributes := #[] }, { accessFlags := 0, nameIndex := 49, descriptorIndex := 41, attributes := #[] }, { accessFlags := 0, nameIndex := 50, descriptorIndex := 51, attributes := #[] }] 48 2 #[] #[{ accessFlags := 26, nameIndex := 39, descriptorIndex := 14, attributes := #[] }, { accessFlags := 18, nameIndex := 13, descriptorIndex := 14, attributes := #[] }, { accessFlags := 18, nameIndex := 29, descriptorIndex := 30, attributes := #[] }, { accessFlags := 2, nameIndex := 38, descriptorIndex := 14, attributes := #[] }])
  fields := #[{ name := "CONNECTION_BYTES", type := .long, accessFlags := 26, slot := 0, constantValue := 0 }, { name := "_limit", type := .long, accessFlags := 18, slot := 0, constantValue := 0 }, { name := "_maxConnections", type := .int, accessFlags := 18, slot := 1, constantValue := 0 }, { name := "_buffered", type := .long, accessFlags := 2, slot := 2, constantValue := 0 }]
  methods := #[k2m0, k2m1, k2m2]
  instanceTypes := #[.long, .int, .long]
  staticTypes := #[.long]
  resolved := Array.replicate 55 none
  statics := none }

def pool3 : Array CpInfo := pool [(1, .class_ 2), (0, u "java/lang/Math"), (1, .class_ 6), (1, u "java/lang/Object"), (0, u "<init>"), (0, u "()V"), (89, .class_ 100), (1, u "java/lang/Math$RandomNumberGeneratorHolder"), (20, u "(JJ)J"), (50, u "negativeZeroFloatBits"), (0, u "J"), (2, u "negativeZeroDoubleBits"), (24, u "min"), (43, u "$assertionsDisabled"), (0, u "Z"), (91, u "twoToTheDoubleScaleDown"), (0, u "D"), (4, u "twoToTheDoubleScaleUp"), (9, u "E"), (3, u "PI"), (2, u "TAU"), (2, u "DEGREES_TO_RADIANS"), (0, u "RADIANS_TO_DEGREES")] 94

def k3m0 : Method := { name := "<init>", desc := "()V", sig := { parameters := [], returnType := none }, accessFlags := 2, code := none }
def k3c1 : Code := { maxStack := 4, maxLocals := 4, code := jdk_29_method_70_code, exceptionTable := #[], attributes := #[] }
def k3m1 : Method := { name := "min", desc := "(JJ)J", sig := { parameters := [.long, .long], returnType := some .long }, accessFlags := 9, code := some k3c1 }
/-- java/lang/Math -/
def k3 : Class := { plain "java/lang/Math" (some 0) with
  accessFlags := 49
  interfaces := #[]
  cf := some (fileOf pool3 1 #[.nestMembers #[98]] #[{ accessFlags := 2, nameIndex := 7, descriptorIndex := 8, attributes := #[] }, { accessFlags := 9, nameIndex := 201, descriptorIndex := 121, attributes := #[] }] 49 4 #[] #[{ accessFlags := 25, nameIndex := 354, descriptorIndex := 339, attributes := #[] }, { accessFlags := 25, nameIndex := 358, descriptorIndex := 339, attributes := #[] }, { accessFlags := 25, nameIndex := 361, descriptorIndex := 339, attributes := #[] }, { accessFlags := 26, nameIndex := 364, descriptorIndex := 339, attributes := #[] }, { accessFlags := 26, nameIndex := 365, descriptorIndex := 339, attributes := #[] }, { accessFlags := 26, nameIndex := 172, descriptorIndex := 173, attributes := #[] }, { accessFlags := 26, nameIndex := 176, descriptorIndex := 173, attributes := #[] }, { accessFlags := 8, nameIndex := 344, descriptorIndex := 339, attributes := #[] }, { accessFlags := 8, nameIndex := 338, descriptorIndex := 339, attributes := #[] }, { accessFlags := 4120, nameIndex := 245, descriptorIndex := 246, attributes := #[] }])
  fields := #[{ name := "E", type := .double, accessFlags := 25, slot := 0, constantValue := 0 }, { name := "PI", type := .double, accessFlags := 25, slot := 1, constantValue := 0 }, { name := "TAU", type := .double, accessFlags := 25, slot := 2, constantValue := 0 }, { name := "DEGREES_TO_RADIANS", type := .double, accessFlags := 26, slot := 3, constantValue := 0 }, { name := "RADIANS_TO_DEGREES", type := .double, accessFlags := 26, slot := 4, constantValue := 0 }, { name := "negativeZeroFloatBits", type := .long, accessFlags := 26, slot := 5, constantValue := 0 }, { name := "negativeZeroDoubleBits", type := .long, accessFlags := 26, slot := 6, constantValue := 0 }, { name := "twoToTheDoubleScaleUp", type := .double, accessFlags := 8, slot := 7, constantValue := 0 }, { name := "twoToTheDoubleScaleDown", type := .double, accessFlags := 8, slot := 8, constantValue := 0 }, { name := "$assertionsDisabled", type := .boolean, accessFlags := 4120, slot := 9, constantValue := 0 }]
  methods := #[k3m0, k3m1]
  instanceTypes := #[]
  staticTypes := #[.double, .double, .double, .double, .double, .long, .long, .double, .double, .boolean]
  resolved := Array.replicate 460 none
  statics := none }

def pool4 : Array CpInfo := pool [(1, u "java/lang/Cloneable"), (0, .class_ 1), (0, u "java/lang/Object"), (0, .class_ 3)] 3

/-- java/lang/Cloneable -/
def k4 : Class := { plain "java/lang/Cloneable" (some 0) with
  accessFlags := 1537
  interfaces := #[]
  cf := some (fileOf pool4 2 #[] #[] 1537 4 #[] #[])
  fields := #[]
  methods := #[]
  instanceTypes := #[]
  staticTypes := #[]
  resolved := Array.replicate 8 none
  statics := none }

def pool5 : Array CpInfo := pool [(1, u "java/io/Serializable"), (0, .class_ 1), (0, u "java/lang/Object"), (0, .class_ 3)] 3

/-- java/io/Serializable -/
def k5 : Class := { plain "java/io/Serializable" (some 0) with
  accessFlags := 1537
  interfaces := #[]
  cf := some (fileOf pool5 2 #[] #[] 1537 4 #[] #[])
  fields := #[]
  methods := #[]
  instanceTypes := #[]
  staticTypes := #[]
  resolved := Array.replicate 8 none
  statics := none }

/-- the primitive byte -/
def k6 : Class := { plain "byte" none with kind := .primitive 'B', accessFlags := 0x411 }
/-- [B -/
def k7 : Class := { plain "[B" (some 0) with kind := .array 6 .byte, interfaces := #[4, 5], accessFlags := 1041 }

/-- the primitive int -/
def k8 : Class := { plain "int" none with kind := .primitive 'I', accessFlags := 0x411 }
/-- [I -/
def k9 : Class := { plain "[I" (some 0) with kind := .array 8 .int, interfaces := #[4, 5], accessFlags := 1041 }

def heap : Heap := #[]
def classes : Array Class := #[k0, k1, k2, k3, k4, k5, k6, k7, k8, k9]
def interned : List (Array UInt16 × Addr) := []
def slotsUsed : Nat := 0
def theMethod : MethodId := ⟨1, 1⟩
def args0 : Array Value := #[.long 5, .long 6, .int 7]
def aboutOver (below : List Frame) : State where
  vm := { classes := classes, interned := interned.toArray }
  heap := heap
  slotsUsed := slotsUsed
  threads := #[{ frames := .invoking theMethod args0 :: below }]
def below0 : List Frame := [.native { method := ⟨0, 0⟩, args := #[] }]
def about1 : State := aboutOver below0
def p0 : Program := .bare "" "" ""
def e0 : Env := launch0.env 0 0 0
theorem w_frames : about1.frames = Frame.invoking theMethod args0 :: below0 := rfl
set_option maxRecDepth 65536 in
theorem w_args : argsFit about1.vm theMethod args0 = true := by decide +kernel
set_option maxRecDepth 65536 in
theorem w_heap : heapFits about1 = true := by decide +kernel
set_option maxRecDepth 65536 in
theorem w_runnable : about1.curStatus? = some .runnable := by decide +kernel
set_option maxRecDepth 65536 in
theorem w_alone : about1.alone = true := by decide +kernel
set_option maxRecDepth 65536 in
theorem w_named : about1.methodNamed? x = some theMethod := by decide +kernel
set_option maxRecDepth 65536 in
theorem w_hears : about1.hears theMethod below0 = true := by decide +kernel
set_option maxRecDepth 65536 in
theorem w_ripe : about1.ripe theMethod args0 below0 = true := by decide +kernel
theorem w_running : about1.status = .running := rfl
set_option maxRecDepth 65536 in
theorem w_room : about1.hasRoom e0.platform room_1 = true :=
  launch0.hasRoom_least _ room_1 (by decide +kernel) (by decide +kernel) (by decide +kernel) (by decide +kernel) (by decide +kernel) (by decide +kernel)
theorem allAtoms_all (ts : List Jvm.Cond) (a : Array Jvm.Value) (st : Jvm.State) : (allAtoms ts).before a st = ts.all (fun c => c.before a st) := by
  induction ts with
  | nil => rfl
  | cons c t ih =>
    show (Jvm.Cond.and c (allAtoms t)).before a st = _
    rw [Jvm.Cond.before_and, ih, List.all_cons]
def words1 : List Jvm.Cond := Jvm.Cond.code x code maxLocals ret :: tables_1
/-- a 'code' word, met by the world's own term for the bytes: nothing is compared byte by byte -/
theorem code_word {y : MethodName} {bytes : ByteArray} {mx : Nat} {rt : Option FieldType} {a : Array Value} {s : State} {m : MethodId} {meth : Method} {c : Code} (h1 : s.methodNamed? y = some m) (h2 : s.vm.method? m = some meth) (h3 : meth.code = some c) (h4 : c.code = bytes)
    (h5 : (c.maxLocals == mx && c.exceptionTable.isEmpty && decide (c.maxStack ≤ mostOperands) && decide (meth.sig.returnType = rt) && !meth.locks && decide (parseMethodDescriptor y.desc = some meth.sig)) = true) : (Jvm.Cond.code y bytes mx rt).before a s = true := by
  simp only [Bool.and_eq_true, beq_iff_eq, Bool.not_eq_true', decide_eq_true_eq] at h5
  obtain ⟨⟨⟨⟨⟨g1, g2⟩, g3⟩, g4⟩, g5⟩, g6⟩ := h5
  simp [Cond.before, Cond.holds, Cond.value, h1, h2, h3, h4, g1, g2, g3, g4, g5, g6]
def isCode : Jvm.Cond → Bool
  | .code _ _ _ _ => true
  | _ => false
theorem all_split {L : List Jvm.Cond} {P : Jvm.Cond → Bool} (h1 : L.all (fun c => isCode c || P c) = true) (h2 : ∀ c ∈ L.filter isCode, P c = true) : L.all P = true := by
  refine List.all_eq_true.mpr fun c hc => ?_
  have h := List.all_eq_true.mp h1 c hc
  rcases Bool.eq_false_or_eq_true (isCode c) with hi | hi
  · exact h2 c (List.mem_filter.mpr ⟨hc, hi⟩)
  · simpa [hi] using h
set_option maxRecDepth 65536 in
theorem w_c0 : (Jvm.Cond.code x code maxLocals ret).before args0 about1 = true := code_word (m := ⟨1, 1⟩) (meth := k1m1) (c := k1c1) (by decide +kernel) rfl rfl rfl (by decide +kernel)
set_option maxRecDepth 65536 in
theorem w_c1 : (Jvm.Cond.code ({ cls := "com/example/leiste/leiste/service/ClientMemory", name := "<init>", desc := "(J)V" } : Jvm.MethodName) prog_19_method_1_code (3 : Nat) (Option.none : Option Jvm.ClassFile.FieldType)).before args0 about1 = true := code_word (m := ⟨2, 0⟩) (meth := k2m0) (c := k2c0) (by decide +kernel) rfl rfl rfl (by decide +kernel)
set_option maxRecDepth 65536 in
theorem w_c2 : (Jvm.Cond.code ({ cls := "java/lang/Object", name := "<init>", desc := "()V" } : Jvm.MethodName) object_method_1_code (1 : Nat) (Option.none : Option Jvm.ClassFile.FieldType)).before args0 about1 = true := code_word (m := ⟨0, 0⟩) (meth := k0m0) (c := k0c0) (by decide +kernel) rfl rfl rfl (by decide +kernel)
set_option maxRecDepth 65536 in
theorem w_c3 : (Jvm.Cond.code ({ cls := "java/lang/Math", name := "min", desc := "(JJ)J" } : Jvm.MethodName) jdk_29_method_70_code (4 : Nat) (Option.some Jvm.ClassFile.FieldType.long)).before args0 about1 = true := code_word (m := ⟨3, 1⟩) (meth := k3m1) (c := k3c1) (by decide +kernel) rfl rfl rfl (by decide +kernel)
set_option maxRecDepth 65536 in
theorem w_c4 : (Jvm.Cond.code ({ cls := "com/example/leiste/leiste/service/ClientMemory", name := "isOver", desc := "()Z" } : Jvm.MethodName) prog_19_method_6_code (1 : Nat) (Option.some Jvm.ClassFile.FieldType.boolean)).before args0 about1 = true := code_word (m := ⟨2, 2⟩) (meth := k2m2) (c := k2c2) (by decide +kernel) rfl rfl rfl (by decide +kernel)
set_option maxRecDepth 65536 in
theorem w_c5 : (Jvm.Cond.code ({ cls := "com/example/leiste/leiste/service/ClientMemory", name := "add", desc := "(J)V" } : Jvm.MethodName) prog_19_method_5_code (3 : Nat) (Option.none : Option Jvm.ClassFile.FieldType)).before args0 about1 = true := code_word (m := ⟨2, 1⟩) (meth := k2m1) (c := k2c1) (by decide +kernel) rfl rfl rfl (by decide +kernel)
def codes1 : List Jvm.Cond := [Jvm.Cond.code x code maxLocals ret, Jvm.Cond.code ({ cls := "com/example/leiste/leiste/service/ClientMemory", name := "<init>", desc := "(J)V" } : Jvm.MethodName) prog_19_method_1_code (3 : Nat) (Option.none : Option Jvm.ClassFile.FieldType), Jvm.Cond.code ({ cls := "java/lang/Object", name := "<init>", desc := "()V" } : Jvm.MethodName) object_method_1_code (1 : Nat) (Option.none : Option Jvm.ClassFile.FieldType), Jvm.Cond.code ({ cls := "java/lang/Math", name := "min", desc := "(JJ)J" } : Jvm.MethodName) jdk_29_method_70_code (4 : Nat) (Option.some Jvm.ClassFile.FieldType.long), Jvm.Cond.code ({ cls := "com/example/leiste/leiste/service/ClientMemory", name := "isOver", desc := "()Z" } : Jvm.MethodName) prog_19_method_6_code (1 : Nat) (Option.some Jvm.ClassFile.FieldType.boolean), Jvm.Cond.code ({ cls := "com/example/leiste/leiste/service/ClientMemory", name := "add", desc := "(J)V" } : Jvm.MethodName) prog_19_method_5_code (3 : Nat) (Option.none : Option Jvm.ClassFile.FieldType)]
set_option maxRecDepth 65536 in
theorem codes_eq : words1.filter isCode = codes1 := rfl
theorem w_codes : ∀ c ∈ words1.filter isCode, c.before args0 about1 = true := by
  rw [codes_eq]
  intro c hc
  simp only [codes1, List.mem_cons, List.not_mem_nil, or_false] at hc
  rcases hc with rfl | rfl | rfl | rfl | rfl | rfl
  · exact w_c0
  · exact w_c1
  · exact w_c2
  · exact w_c3
  · exact w_c4
  · exact w_c5
set_option maxRecDepth 65536 in
theorem w_t1 : (words1.take 24).all (fun c => isCode c || c.before args0 about1) = true := by decide +kernel
set_option maxRecDepth 65536 in
theorem w_t2 : (words1.drop 24).all (fun c => isCode c || c.before args0 about1) = true := by decide +kernel
theorem w_tables : (allAtoms (Jvm.Cond.code x code maxLocals ret :: tables_1)).before args0 about1 = true := by
  rw [allAtoms_all]
  show words1.all (fun c => c.before args0 about1) = true
  refine all_split ?_ w_codes
  rw [← List.take_append_drop 24 words1, List.all_append, w_t1, w_t2]
  rfl
set_option maxRecDepth 65536 in
theorem w_case : (Jvm.Cond.and given_1 narrow_1).before args0 about1 = true := by decide +kernel
theorem w_applies : (headSpec (Jvm.Cond.code x code maxLocals ret :: tables_1) room_1).applies x e0.platform about1 = true :=
  (Spec.applies_iff w_frames).mpr ⟨w_running, w_runnable, w_alone, w_named, w_hears, w_ripe, w_room, w_tables⟩
theorem atStart : AtStart classFile x code maxLocals ret World_1 tables_1 room_1 Calls_1 rest_1 Pre_1 launch0 p0 e0 about1 theMethod args0 below0 :=
  ⟨lists_1, trivial, launch0.admits_env _ _ _, launch0.least_env, fairChoices_fair.cas, fairChoices_fair.clock, w_frames, w_args, w_heap, w_applies, trivial, trivial, w_case⟩
end start1
theorem witness_1 : WitnessClaimed_1 := ⟨start1.p0, start1.e0, start1.about1, start1.theMethod, start1.args0, start1.below0, start1.atStart⟩
end Jvm.Pilot.@@N@@
