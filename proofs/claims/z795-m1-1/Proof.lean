import JvmDerived
import JvmDerived.Pilot.@@N@@Statement
import JvmDerived.Pilot.@@N@@Code
set_option linter.unusedVariables false
set_option linter.unusedSimpArgs false
@@BLOCK:NumsL.lean.txt@@
namespace Jvm.OwnGo
open Sem ClassFile Op Lib Jvm.Stand Jvm.Free Jvm.LawKit Jvm.RoadKit
/-- where a walk stands -/
def K (p : Program) (l : Launch) (e : Env) (R : Room) (s : State) (m : MethodId) (args : Array Value) (below : List Frame) (meth : Method) (c : Code) (bytes : ByteArray) (own : String) (maxL : Nat) (ret : Option FieldType) (nm : String) (T : State) (locs : List Loc) (cells slots : Nat) (Z : State) (h : Heap) (n0 : Nat) : Prop :=
  Stand p l e R s m args below meth c T locs cells slots ∧ p.tables.exec = Jvm.exec ∧ Z.Warmed39 s.vm ∧ T.heap = h ∧ Fr n0 locs ∧ c.code = bytes ∧ s.vm.findClass own = some m.cls ∧ c.maxLocals = maxL ∧ meth.sig.returnType = ret ∧ meth.name = nm ∧ meth.locks = false
/-- from here the run comes to an end that meets P -/
def Go (p : Program) (e : Env) (below : List Frame) (P : State → Outcome → Prop) (T : State) (g : JFrame) : Prop :=
  ∃ s₂ o, Steps p.tables e below (T.setTop g) s₂ ∧ s₂.status = .running ∧ Ended s₂ below o ∧ P s₂ o
/-- what a return pays -/
def Pay (s : State) (Q : Option Value → Heap → Prop) (n0 cc ss : Nat) (P : State → Outcome → Prop) : Prop :=
  ∀ v h L s₂, Q v h → s₂.heap = h → Fr n0 L → FrameEnd s (.returned v) s₂ L cc ss → P s₂ (.returned v)
section Own
variable {p : Program} {l : Launch} {e : Env} {R : Room} {s : State} {m : MethodId} {args : Array Value} {below : List Frame} {meth : Method} {c : Code} {bytes : ByteArray} {own : String} {maxL : Nat} {ret : Option FieldType} {nm : String} {T : State} {locs : List Loc} {cells slots : Nat} {Z : State} {h : Heap} {n0 : Nat} {Q : Option Value → Heap → Prop} {P : State → Outcome → Prop} {cc ss : Nat} {a0 : Array Value} {Ls : Array Slot} {st rest : List Value} {pc pc' pc3 : Nat}
theorem Go.to {T' : State} {g g' : JFrame} (h1 : ∀ target, Steps p.tables e below (T'.setTop g') target → Steps p.tables e below (T.setTop g) target) (k : Go p e below P T' g') : Go p e below P T g := by
  obtain ⟨s₂, o, h2, h3⟩ := k; exact ⟨s₂, o, h1 _ h2, h3⟩
theorem Go.tr {T' : State} {g g' : JFrame} (h1 : Steps p.tables e below (T.setTop g) (T'.setTop g')) (k : Go p e below P T' g') : Go p e below P T g := by
  obtain ⟨s₂, o, h2, h3⟩ := k; exact ⟨s₂, o, h1.trans h2, h3⟩
theorem Go.weak {P' : State → Outcome → Prop} {g : JFrame} (k : Go p e below P T g) (h1 : ∀ s o, P s o → P' s o) : Go p e below P' T g := by
  obtain ⟨s₂, o, h2, h3, h4, h5⟩ := k; exact ⟨s₂, o, h2, h3, h4, h1 _ _ h5⟩
theorem nar_ref {C : String} {v : Value} (h : v.isRef = true) : narrow (.object C) v = v := by cases v <;> first | rfl | (simp [Value.isRef] at h)
theorem fit_ref {C : String} {v : Value} (h : v.isRef = true) : fits (.object C) v = true := by cases v <;> first | rfl | (simp [Value.isRef] at h)
theorem k_hp (k : K p l e R s m args below meth c bytes own maxL ret nm T locs cells slots Z h n0) {T' : State} {h' : Heap} {locs' : List Loc} {cells' slots' : Nat} (X : Stand p l e R s m args below meth c T' locs' cells' slots') (eT : T'.heap = h') (N : Fr n0 locs') : K p l e R s m args below meth c bytes own maxL ret nm T' locs' cells' slots' Z h' n0 :=
  ⟨X, k.2.1, k.2.2.1, eT, N, k.2.2.2.2.2⟩
theorem k_more (k : K p l e R s m args below meth c bytes own maxL ret nm T locs cells slots Z h n0) {cells' slots' : Nat} (h1 : cells ≤ cells') (h2 : slots ≤ slots') : K p l e R s m args below meth c bytes own maxL ret nm T locs cells' slots' Z h n0 :=
  ⟨k.1.more h1 h2, k.2⟩

theorem s_iloadN (k : K p l e R s m args below meth c bytes own maxL ret nm T locs cells slots Z h n0) {i : Fin 4} {v : Int32} (hd : decode bytes pc = .ok (.iload_n i, 1)) (hl : Ls[i.val]? = some (.val (.int v))) (hp : pc + 1 = pc') (g : Go p e below P T (mkF m pc' Ls (.int v :: st))) : Go p e below P T (mkF m pc Ls st) := by
  subst hp
  exact Go.to (fun _ q => XS.iloadN k.1.here k.2.1 rfl (hb k.2.2.2.2.2.1 hd) hl q) g
theorem s_istoreN (k : K p l e R s m args below meth c bytes own maxL ret nm T locs cells slots Z h n0) {i : Fin 4} {x : Int32} {l' : Array Slot} (hd : decode bytes pc = .ok (.istore_n i, 1)) (hl : storeLocals Ls i.val (.int x) = some l') (hp : pc + 1 = pc') (g : Go p e below P T (mkF m pc' l' st)) : Go p e below P T (mkF m pc Ls (.int x :: st)) := by
  subst hp
  exact Go.to (fun _ q => XS.istoreN k.1.here k.2.1 rfl (hb k.2.2.2.2.2.1 hd) rfl hl q) g
theorem s_iload (k : K p l e R s m args below meth c bytes own maxL ret nm T locs cells slots Z h n0) {i : Nat} {v : Int32} (hd : decode bytes pc = .ok (.iload i, 2)) (hl : Ls[i]? = some (.val (.int v))) (hp : pc + 2 = pc') (g : Go p e below P T (mkF m pc' Ls (.int v :: st))) : Go p e below P T (mkF m pc Ls st) := by
  subst hp
  exact Go.to (fun _ q => XS.iload k.1.here k.2.1 rfl (hb k.2.2.2.2.2.1 hd) hl q) g
theorem s_istore (k : K p l e R s m args below meth c bytes own maxL ret nm T locs cells slots Z h n0) {i : Nat} {x : Int32} {l' : Array Slot} (hd : decode bytes pc = .ok (.istore i, 2)) (hl : storeLocals Ls i (.int x) = some l') (hp : pc + 2 = pc') (g : Go p e below P T (mkF m pc' l' st)) : Go p e below P T (mkF m pc Ls (.int x :: st)) := by
  subst hp
  exact Go.to (fun _ q => XS.istore k.1.here k.2.1 rfl (hb k.2.2.2.2.2.1 hd) rfl hl q) g
theorem s_lloadN (k : K p l e R s m args below meth c bytes own maxL ret nm T locs cells slots Z h n0) {i : Fin 4} {v : Int64} (hd : decode bytes pc = .ok (.lload_n i, 1)) (hl : Ls[i.val]? = some (.val (.long v))) (hp : pc + 1 = pc') (g : Go p e below P T (mkF m pc' Ls (.long v :: st))) : Go p e below P T (mkF m pc Ls st) := by
  subst hp
  exact Go.to (fun _ q => XT.lloadN k.1.here k.2.1 rfl (hb k.2.2.2.2.2.1 hd) hl q) g
theorem s_lstoreN (k : K p l e R s m args below meth c bytes own maxL ret nm T locs cells slots Z h n0) {i : Fin 4} {x : Int64} {l' : Array Slot} (hd : decode bytes pc = .ok (.lstore_n i, 1)) (hl : storeLocals Ls i.val (.long x) = some l') (hp : pc + 1 = pc') (g : Go p e below P T (mkF m pc' l' st)) : Go p e below P T (mkF m pc Ls (.long x :: st)) := by
  subst hp
  exact Go.to (fun _ q => XT.lstoreN k.1.here k.2.1 rfl (hb k.2.2.2.2.2.1 hd) rfl hl q) g
theorem s_lload (k : K p l e R s m args below meth c bytes own maxL ret nm T locs cells slots Z h n0) {i : Nat} {v : Int64} (hd : decode bytes pc = .ok (.lload i, 2)) (hl : Ls[i]? = some (.val (.long v))) (hp : pc + 2 = pc') (g : Go p e below P T (mkF m pc' Ls (.long v :: st))) : Go p e below P T (mkF m pc Ls st) := by
  subst hp
  exact Go.to (fun _ q => XT.lload k.1.here k.2.1 rfl (hb k.2.2.2.2.2.1 hd) hl q) g
theorem s_lstore (k : K p l e R s m args below meth c bytes own maxL ret nm T locs cells slots Z h n0) {i : Nat} {x : Int64} {l' : Array Slot} (hd : decode bytes pc = .ok (.lstore i, 2)) (hl : storeLocals Ls i (.long x) = some l') (hp : pc + 2 = pc') (g : Go p e below P T (mkF m pc' l' st)) : Go p e below P T (mkF m pc Ls (.long x :: st)) := by
  subst hp
  exact Go.to (fun _ q => XT.lstore k.1.here k.2.1 rfl (hb k.2.2.2.2.2.1 hd) rfl hl q) g
theorem s_aloadN (k : K p l e R s m args below meth c bytes own maxL ret nm T locs cells slots Z h n0) {i : Fin 4} {v : Value} (hd : decode bytes pc = .ok (.aload_n i, 1)) (hl : Ls[i.val]? = some (.val v)) (hv : v.isRef = true) (hp : pc + 1 = pc') (g : Go p e below P T (mkF m pc' Ls (v :: st))) : Go p e below P T (mkF m pc Ls st) := by
  subst hp
  exact Go.to (fun _ q => XS.aloadN k.1.here k.2.1 rfl (hb k.2.2.2.2.2.1 hd) hl hv q) g
theorem s_astoreN (k : K p l e R s m args below meth c bytes own maxL ret nm T locs cells slots Z h n0) {i : Fin 4} {x : Value} {l' : Array Slot} (hd : decode bytes pc = .ok (.astore_n i, 1)) (hv : x.isRef = true) (hl : storeLocals Ls i.val x = some l') (hp : pc + 1 = pc') (g : Go p e below P T (mkF m pc' l' st)) : Go p e below P T (mkF m pc Ls (x :: st)) := by
  subst hp
  exact Go.to (fun _ q => XS.astoreN k.1.here k.2.1 rfl (hb k.2.2.2.2.2.1 hd) rfl hv hl q) g
theorem s_aload (k : K p l e R s m args below meth c bytes own maxL ret nm T locs cells slots Z h n0) {i : Nat} {v : Value} (hd : decode bytes pc = .ok (.aload i, 2)) (hl : Ls[i]? = some (.val v)) (hv : v.isRef = true) (hp : pc + 2 = pc') (g : Go p e below P T (mkF m pc' Ls (v :: st))) : Go p e below P T (mkF m pc Ls st) := by
  subst hp
  exact Go.to (fun _ q => XS.aload k.1.here k.2.1 rfl (hb k.2.2.2.2.2.1 hd) hl hv q) g
theorem s_astore (k : K p l e R s m args below meth c bytes own maxL ret nm T locs cells slots Z h n0) {i : Nat} {x : Value} {l' : Array Slot} (hd : decode bytes pc = .ok (.astore i, 2)) (hv : x.isRef = true) (hl : storeLocals Ls i x = some l') (hp : pc + 2 = pc') (g : Go p e below P T (mkF m pc' l' st)) : Go p e below P T (mkF m pc Ls (x :: st)) := by
  subst hp
  exact Go.to (fun _ q => XS.astore k.1.here k.2.1 rfl (hb k.2.2.2.2.2.1 hd) rfl hv hl q) g
theorem s_iconst (k : K p l e R s m args below meth c bytes own maxL ret nm T locs cells slots Z h n0) {i : Int} {z : Int32} (hd : decode bytes pc = .ok (.iconst i, 1)) (hz : Int32.ofInt i = z) (hp : pc + 1 = pc') (g : Go p e below P T (mkF m pc' Ls (.int z :: st))) : Go p e below P T (mkF m pc Ls st) := by
  subst hp hz
  exact Go.to (fun _ q => XS.iconst k.1.here k.2.1 rfl (hb k.2.2.2.2.2.1 hd) q) g
theorem s_bipush (k : K p l e R s m args below meth c bytes own maxL ret nm T locs cells slots Z h n0) {i : Int} {z : Int32} (hd : decode bytes pc = .ok (.bipush i, 2)) (hz : (Int8.ofInt i).toInt32 = z) (hp : pc + 2 = pc') (g : Go p e below P T (mkF m pc' Ls (.int z :: st))) : Go p e below P T (mkF m pc Ls st) := by
  subst hp hz
  exact Go.to (fun _ q => XS.bipush k.1.here k.2.1 rfl (hb k.2.2.2.2.2.1 hd) q) g
theorem s_sipush (k : K p l e R s m args below meth c bytes own maxL ret nm T locs cells slots Z h n0) {i : Int} {z : Int32} (hd : decode bytes pc = .ok (.sipush i, 3)) (hz : (Int16.ofInt i).toInt32 = z) (hp : pc + 3 = pc') (g : Go p e below P T (mkF m pc' Ls (.int z :: st))) : Go p e below P T (mkF m pc Ls st) := by
  subst hp hz
  exact Go.to (fun _ q => XS.sipush k.1.here k.2.1 rfl (hb k.2.2.2.2.2.1 hd) q) g
theorem s_lconst (k : K p l e R s m args below meth c bytes own maxL ret nm T locs cells slots Z h n0) {i : Fin 2} {z : Int64} (hd : decode bytes pc = .ok (.lconst i, 1)) (hz : Int64.ofNat i = z) (hp : pc + 1 = pc') (g : Go p e below P T (mkF m pc' Ls (.long z :: st))) : Go p e below P T (mkF m pc Ls st) := by
  subst hp hz
  exact Go.to (fun _ q => XT.lconst k.1.here k.2.1 rfl (hb k.2.2.2.2.2.1 hd) q) g
theorem s_null (k : K p l e R s m args below meth c bytes own maxL ret nm T locs cells slots Z h n0)  (hd : decode bytes pc = .ok (.aconst_null, 1))  (hp : pc + 1 = pc') (g : Go p e below P T (mkF m pc' Ls (.null :: st))) : Go p e below P T (mkF m pc Ls st) := by
  subst hp
  exact Go.to (fun _ q => XS.aconstNull k.1.here k.2.1 rfl (hb k.2.2.2.2.2.1 hd)  q) g
theorem s_iadd (k : K p l e R s m args below meth c bytes own maxL ret nm T locs cells slots Z h n0) {x y : Int32} {z : Int32} (hd : decode bytes pc = .ok (.iadd, 1))  (hz : x + y = z) (hp : pc + 1 = pc') (g : Go p e below P T (mkF m pc' Ls (.int z :: st))) : Go p e below P T (mkF m pc Ls (.int y :: .int x :: st)) := by
  subst hp hz
  exact Go.to (fun _ q => XS.iadd k.1.here k.2.1 rfl (hb k.2.2.2.2.2.1 hd) rfl q) g
theorem s_ladd (k : K p l e R s m args below meth c bytes own maxL ret nm T locs cells slots Z h n0) {x y : Int64} {z : Int64} (hd : decode bytes pc = .ok (.ladd, 1))  (hz : x + y = z) (hp : pc + 1 = pc') (g : Go p e below P T (mkF m pc' Ls (.long z :: st))) : Go p e below P T (mkF m pc Ls (.long y :: .long x :: st)) := by
  subst hp hz
  exact Go.to (fun _ q => XT.ladd k.1.here k.2.1 rfl (hb k.2.2.2.2.2.1 hd) rfl q) g
theorem s_isub (k : K p l e R s m args below meth c bytes own maxL ret nm T locs cells slots Z h n0) {x y : Int32} {z : Int32} (hd : decode bytes pc = .ok (.isub, 1))  (hz : x - y = z) (hp : pc + 1 = pc') (g : Go p e below P T (mkF m pc' Ls (.int z :: st))) : Go p e below P T (mkF m pc Ls (.int y :: .int x :: st)) := by
  subst hp hz
  exact Go.to (fun _ q => XS.isub k.1.here k.2.1 rfl (hb k.2.2.2.2.2.1 hd) rfl q) g
theorem s_lsub (k : K p l e R s m args below meth c bytes own maxL ret nm T locs cells slots Z h n0) {x y : Int64} {z : Int64} (hd : decode bytes pc = .ok (.lsub, 1))  (hz : x - y = z) (hp : pc + 1 = pc') (g : Go p e below P T (mkF m pc' Ls (.long z :: st))) : Go p e below P T (mkF m pc Ls (.long y :: .long x :: st)) := by
  subst hp hz
  exact Go.to (fun _ q => XT.lsub k.1.here k.2.1 rfl (hb k.2.2.2.2.2.1 hd) rfl q) g
theorem s_imul (k : K p l e R s m args below meth c bytes own maxL ret nm T locs cells slots Z h n0) {x y : Int32} {z : Int32} (hd : decode bytes pc = .ok (.imul, 1))  (hz : x * y = z) (hp : pc + 1 = pc') (g : Go p e below P T (mkF m pc' Ls (.int z :: st))) : Go p e below P T (mkF m pc Ls (.int y :: .int x :: st)) := by
  subst hp hz
  exact Go.to (fun _ q => XS.imul k.1.here k.2.1 rfl (hb k.2.2.2.2.2.1 hd) rfl q) g
theorem s_lmul (k : K p l e R s m args below meth c bytes own maxL ret nm T locs cells slots Z h n0) {x y : Int64} {z : Int64} (hd : decode bytes pc = .ok (.lmul, 1))  (hz : x * y = z) (hp : pc + 1 = pc') (g : Go p e below P T (mkF m pc' Ls (.long z :: st))) : Go p e below P T (mkF m pc Ls (.long y :: .long x :: st)) := by
  subst hp hz
  exact Go.to (fun _ q => XT.lmul k.1.here k.2.1 rfl (hb k.2.2.2.2.2.1 hd) rfl q) g
theorem s_iand (k : K p l e R s m args below meth c bytes own maxL ret nm T locs cells slots Z h n0) {x y : Int32} {z : Int32} (hd : decode bytes pc = .ok (.iand, 1))  (hz : x &&& y = z) (hp : pc + 1 = pc') (g : Go p e below P T (mkF m pc' Ls (.int z :: st))) : Go p e below P T (mkF m pc Ls (.int y :: .int x :: st)) := by
  subst hp hz
  exact Go.to (fun _ q => XS.iand k.1.here k.2.1 rfl (hb k.2.2.2.2.2.1 hd) rfl q) g
theorem s_land (k : K p l e R s m args below meth c bytes own maxL ret nm T locs cells slots Z h n0) {x y : Int64} {z : Int64} (hd : decode bytes pc = .ok (.land, 1))  (hz : x &&& y = z) (hp : pc + 1 = pc') (g : Go p e below P T (mkF m pc' Ls (.long z :: st))) : Go p e below P T (mkF m pc Ls (.long y :: .long x :: st)) := by
  subst hp hz
  exact Go.to (fun _ q => XT.land k.1.here k.2.1 rfl (hb k.2.2.2.2.2.1 hd) rfl q) g
theorem s_ior (k : K p l e R s m args below meth c bytes own maxL ret nm T locs cells slots Z h n0) {x y : Int32} {z : Int32} (hd : decode bytes pc = .ok (.ior, 1))  (hz : x ||| y = z) (hp : pc + 1 = pc') (g : Go p e below P T (mkF m pc' Ls (.int z :: st))) : Go p e below P T (mkF m pc Ls (.int y :: .int x :: st)) := by
  subst hp hz
  exact Go.to (fun _ q => XT.ior k.1.here k.2.1 rfl (hb k.2.2.2.2.2.1 hd) rfl q) g
theorem s_lor (k : K p l e R s m args below meth c bytes own maxL ret nm T locs cells slots Z h n0) {x y : Int64} {z : Int64} (hd : decode bytes pc = .ok (.lor, 1))  (hz : x ||| y = z) (hp : pc + 1 = pc') (g : Go p e below P T (mkF m pc' Ls (.long z :: st))) : Go p e below P T (mkF m pc Ls (.long y :: .long x :: st)) := by
  subst hp hz
  exact Go.to (fun _ q => XT.lor k.1.here k.2.1 rfl (hb k.2.2.2.2.2.1 hd) rfl q) g
theorem s_ixor (k : K p l e R s m args below meth c bytes own maxL ret nm T locs cells slots Z h n0) {x y : Int32} {z : Int32} (hd : decode bytes pc = .ok (.ixor, 1))  (hz : x ^^^ y = z) (hp : pc + 1 = pc') (g : Go p e below P T (mkF m pc' Ls (.int z :: st))) : Go p e below P T (mkF m pc Ls (.int y :: .int x :: st)) := by
  subst hp hz
  exact Go.to (fun _ q => XT.ixor k.1.here k.2.1 rfl (hb k.2.2.2.2.2.1 hd) rfl q) g
theorem s_lxor (k : K p l e R s m args below meth c bytes own maxL ret nm T locs cells slots Z h n0) {x y : Int64} {z : Int64} (hd : decode bytes pc = .ok (.lxor, 1))  (hz : x ^^^ y = z) (hp : pc + 1 = pc') (g : Go p e below P T (mkF m pc' Ls (.long z :: st))) : Go p e below P T (mkF m pc Ls (.long y :: .long x :: st)) := by
  subst hp hz
  exact Go.to (fun _ q => XT.lxor k.1.here k.2.1 rfl (hb k.2.2.2.2.2.1 hd) rfl q) g
theorem s_iushr (k : K p l e R s m args below meth c bytes own maxL ret nm T locs cells slots Z h n0) {x y : Int32} {z : Int32} (hd : decode bytes pc = .ok (.iushr, 1))  (hz : XT.ushr x y = z) (hp : pc + 1 = pc') (g : Go p e below P T (mkF m pc' Ls (.int z :: st))) : Go p e below P T (mkF m pc Ls (.int y :: .int x :: st)) := by
  subst hp hz
  exact Go.to (fun _ q => XT.iushr k.1.here k.2.1 rfl (hb k.2.2.2.2.2.1 hd) rfl q) g
theorem s_ishr (k : K p l e R s m args below meth c bytes own maxL ret nm T locs cells slots Z h n0) {x y : Int32} {z : Int32} (hd : decode bytes pc = .ok (.ishr, 1))  (hz : x >>> (y &&& 31) = z) (hp : pc + 1 = pc') (g : Go p e below P T (mkF m pc' Ls (.int z :: st))) : Go p e below P T (mkF m pc Ls (.int y :: .int x :: st)) := by
  subst hp hz
  exact Go.to (fun _ q => XT.ishr k.1.here k.2.1 rfl (hb k.2.2.2.2.2.1 hd) rfl q) g
theorem s_ishl (k : K p l e R s m args below meth c bytes own maxL ret nm T locs cells slots Z h n0) {x y : Int32} {z : Int32} (hd : decode bytes pc = .ok (.ishl, 1))  (hz : x <<< (y &&& 31) = z) (hp : pc + 1 = pc') (g : Go p e below P T (mkF m pc' Ls (.int z :: st))) : Go p e below P T (mkF m pc Ls (.int y :: .int x :: st)) := by
  subst hp hz
  exact Go.to (fun _ q => XT.ishl k.1.here k.2.1 rfl (hb k.2.2.2.2.2.1 hd) rfl q) g
theorem s_lushr (k : K p l e R s m args below meth c bytes own maxL ret nm T locs cells slots Z h n0) {x : Int64} {y : Int32} {z : Int64} (hd : decode bytes pc = .ok (.lushr, 1))  (hz : XT.ushrL x y = z) (hp : pc + 1 = pc') (g : Go p e below P T (mkF m pc' Ls (.long z :: st))) : Go p e below P T (mkF m pc Ls (.int y :: .long x :: st)) := by
  subst hp hz
  exact Go.to (fun _ q => XT.lushr k.1.here k.2.1 rfl (hb k.2.2.2.2.2.1 hd) rfl q) g
theorem s_lshl (k : K p l e R s m args below meth c bytes own maxL ret nm T locs cells slots Z h n0) {x : Int64} {y : Int32} {z : Int64} (hd : decode bytes pc = .ok (.lshl, 1))  (hz : x <<< (y.toInt64 &&& 63) = z) (hp : pc + 1 = pc') (g : Go p e below P T (mkF m pc' Ls (.long z :: st))) : Go p e below P T (mkF m pc Ls (.int y :: .long x :: st)) := by
  subst hp hz
  exact Go.to (fun _ q => XT.lshl k.1.here k.2.1 rfl (hb k.2.2.2.2.2.1 hd) rfl q) g
theorem s_lshr (k : K p l e R s m args below meth c bytes own maxL ret nm T locs cells slots Z h n0) {x : Int64} {y : Int32} {z : Int64} (hd : decode bytes pc = .ok (.lshr, 1))  (hz : x >>> (y.toInt64 &&& 63) = z) (hp : pc + 1 = pc') (g : Go p e below P T (mkF m pc' Ls (.long z :: st))) : Go p e below P T (mkF m pc Ls (.int y :: .long x :: st)) := by
  subst hp hz
  exact Go.to (fun _ q => XT.lshr k.1.here k.2.1 rfl (hb k.2.2.2.2.2.1 hd) rfl q) g
theorem s_idiv (k : K p l e R s m args below meth c bytes own maxL ret nm T locs cells slots Z h n0) {x y : Int32} {z : Int32} (hd : decode bytes pc = .ok (.idiv, 1)) (hy : y ≠ 0) (hz : x / y = z) (hp : pc + 1 = pc') (g : Go p e below P T (mkF m pc' Ls (.int z :: st))) : Go p e below P T (mkF m pc Ls (.int y :: .int x :: st)) := by
  subst hp hz
  exact Go.to (fun _ q => XS.idiv k.1.here k.2.1 rfl (hb k.2.2.2.2.2.1 hd) rfl hy q) g
theorem s_ldiv (k : K p l e R s m args below meth c bytes own maxL ret nm T locs cells slots Z h n0) {x y : Int64} {z : Int64} (hd : decode bytes pc = .ok (.ldiv, 1)) (hy : y ≠ 0) (hz : x / y = z) (hp : pc + 1 = pc') (g : Go p e below P T (mkF m pc' Ls (.long z :: st))) : Go p e below P T (mkF m pc Ls (.long y :: .long x :: st)) := by
  subst hp hz
  exact Go.to (fun _ q => XT.ldiv k.1.here k.2.1 rfl (hb k.2.2.2.2.2.1 hd) rfl hy q) g
theorem s_irem (k : K p l e R s m args below meth c bytes own maxL ret nm T locs cells slots Z h n0) {x y : Int32} {z : Int32} (hd : decode bytes pc = .ok (.irem, 1)) (hy : y ≠ 0) (hz : x % y = z) (hp : pc + 1 = pc') (g : Go p e below P T (mkF m pc' Ls (.int z :: st))) : Go p e below P T (mkF m pc Ls (.int y :: .int x :: st)) := by
  subst hp hz
  exact Go.to (fun _ q => iremM k.1 k.2.1 rfl (hb k.2.2.2.2.2.1 hd) rfl hy q) g
theorem s_lrem (k : K p l e R s m args below meth c bytes own maxL ret nm T locs cells slots Z h n0) {x y : Int64} {z : Int64} (hd : decode bytes pc = .ok (.lrem, 1)) (hy : y ≠ 0) (hz : x - x / y * y = z) (hp : pc + 1 = pc') (g : Go p e below P T (mkF m pc' Ls (.long z :: st))) : Go p e below P T (mkF m pc Ls (.long y :: .long x :: st)) := by
  subst hp hz
  exact Go.to (fun _ q => XT.lrem k.1.here k.2.1 rfl (hb k.2.2.2.2.2.1 hd) rfl hy q) g
theorem s_lneg (k : K p l e R s m args below meth c bytes own maxL ret nm T locs cells slots Z h n0) {x : Int64} {z : Int64} (hd : decode bytes pc = .ok (.lneg, 1))  (hz : -x = z) (hp : pc + 1 = pc') (g : Go p e below P T (mkF m pc' Ls (.long z :: st))) : Go p e below P T (mkF m pc Ls (.long x :: st)) := by
  subst hp hz
  exact Go.to (fun _ q => XT.lneg k.1.here k.2.1 rfl (hb k.2.2.2.2.2.1 hd) rfl q) g
theorem s_ineg (k : K p l e R s m args below meth c bytes own maxL ret nm T locs cells slots Z h n0) {x : Int32} {z : Int32} (hd : decode bytes pc = .ok (.ineg, 1))  (hz : -x = z) (hp : pc + 1 = pc') (g : Go p e below P T (mkF m pc' Ls (.int z :: st))) : Go p e below P T (mkF m pc Ls (.int x :: st)) := by
  subst hp hz
  exact Go.to (fun _ q => XS.ineg k.1.here k.2.1 rfl (hb k.2.2.2.2.2.1 hd) rfl q) g
theorem s_i2l (k : K p l e R s m args below meth c bytes own maxL ret nm T locs cells slots Z h n0) {x : Int32} {z : Int64} (hd : decode bytes pc = .ok (.i2l, 1))  (hz : x.toInt64 = z) (hp : pc + 1 = pc') (g : Go p e below P T (mkF m pc' Ls (.long z :: st))) : Go p e below P T (mkF m pc Ls (.int x :: st)) := by
  subst hp hz
  exact Go.to (fun _ q => XT.i2l k.1.here k.2.1 rfl (hb k.2.2.2.2.2.1 hd) rfl q) g
theorem s_l2i (k : K p l e R s m args below meth c bytes own maxL ret nm T locs cells slots Z h n0) {x : Int64} {z : Int32} (hd : decode bytes pc = .ok (.l2i, 1))  (hz : x.toInt32 = z) (hp : pc + 1 = pc') (g : Go p e below P T (mkF m pc' Ls (.int z :: st))) : Go p e below P T (mkF m pc Ls (.long x :: st)) := by
  subst hp hz
  exact Go.to (fun _ q => XT.l2i k.1.here k.2.1 rfl (hb k.2.2.2.2.2.1 hd) rfl q) g
theorem s_i2b (k : K p l e R s m args below meth c bytes own maxL ret nm T locs cells slots Z h n0) {x : Int32} {z : Int32} (hd : decode bytes pc = .ok (.i2b, 1))  (hz : x.toInt8.toInt32 = z) (hp : pc + 1 = pc') (g : Go p e below P T (mkF m pc' Ls (.int z :: st))) : Go p e below P T (mkF m pc Ls (.int x :: st)) := by
  subst hp hz
  exact Go.to (fun _ q => XT.i2b k.1.here k.2.1 rfl (hb k.2.2.2.2.2.1 hd) rfl q) g
theorem s_i2c (k : K p l e R s m args below meth c bytes own maxL ret nm T locs cells slots Z h n0) {x : Int32} {z : Int32} (hd : decode bytes pc = .ok (.i2c, 1))  (hz : x.toUInt32.toUInt16.toUInt32.toInt32 = z) (hp : pc + 1 = pc') (g : Go p e below P T (mkF m pc' Ls (.int z :: st))) : Go p e below P T (mkF m pc Ls (.int x :: st)) := by
  subst hp hz
  exact Go.to (fun _ q => XT.i2c k.1.here k.2.1 rfl (hb k.2.2.2.2.2.1 hd) rfl q) g
theorem s_dup (k : K p l e R s m args below meth c bytes own maxL ret nm T locs cells slots Z h n0) {x : Value} (hd : decode bytes pc = .ok (.dup, 1)) (hc : x.category = 1) (hp : pc + 1 = pc') (g : Go p e below P T (mkF m pc' Ls (x :: x :: st))) : Go p e below P T (mkF m pc Ls (x :: st)) := by
  subst hp
  exact Go.to (fun _ q => XS.dup k.1.here k.2.1 rfl (hb k.2.2.2.2.2.1 hd) rfl hc q) g
theorem s_pop (k : K p l e R s m args below meth c bytes own maxL ret nm T locs cells slots Z h n0) {x : Value} (hd : decode bytes pc = .ok (.pop, 1)) (hc : x.category = 1) (hp : pc + 1 = pc') (g : Go p e below P T (mkF m pc' Ls st)) : Go p e below P T (mkF m pc Ls (x :: st)) := by
  subst hp
  exact Go.to (fun _ q => XT.pop k.1.here k.2.1 rfl (hb k.2.2.2.2.2.1 hd) rfl hc q) g
theorem s_dupx1 (k : K p l e R s m args below meth c bytes own maxL ret nm T locs cells slots Z h n0) {x y : Value} (hd : decode bytes pc = .ok (.dup_x1, 1)) (hc : x.category = 1) (hc' : y.category = 1) (hp : pc + 1 = pc') (g : Go p e below P T (mkF m pc' Ls (x :: y :: x :: st))) : Go p e below P T (mkF m pc Ls (x :: y :: st)) := by
  subst hp
  exact Go.to (fun _ q => XT.dupX1 k.1.here k.2.1 rfl (hb k.2.2.2.2.2.1 hd) rfl hc hc' q) g
theorem s_dup2 (k : K p l e R s m args below meth c bytes own maxL ret nm T locs cells slots Z h n0) {x y : Value} (hd : decode bytes pc = .ok (.dup2, 1)) (hc : x.category = 1) (hc' : y.category = 1) (hp : pc + 1 = pc') (g : Go p e below P T (mkF m pc' Ls (x :: y :: x :: y :: st))) : Go p e below P T (mkF m pc Ls (x :: y :: st)) := by
  subst hp
  exact Go.to (fun _ q => XT.dup2 k.1.here k.2.1 rfl (hb k.2.2.2.2.2.1 hd) rfl hc hc' q) g
theorem s_iinc (k : K p l e R s m args below meth c bytes own maxL ret nm T locs cells slots Z h n0) {i : Nat} {d : Int} {x z : Int32} {l' : Array Slot} (hd : decode bytes pc = .ok (.iinc i d, 3)) (hl : Ls[i]? = some (.val (.int x))) (hz : x + Int32.ofInt d = z) (hl' : storeLocals Ls i (.int z) = some l') (hp : pc + 3 = pc') (g : Go p e below P T (mkF m pc' l' st)) : Go p e below P T (mkF m pc Ls st) := by
  subst hp
  exact Go.to (fun _ q => XS.iinc k.1.here k.2.1 rfl (hb k.2.2.2.2.2.1 hd) hl (hz ▸ hl') q) g
theorem s_goto (k : K p l e R s m args below meth c bytes own maxL ret nm T locs cells slots Z h n0) {o : Int} (hd : decode bytes pc = .ok (.goto o, 3)) (ho : 0 ≤ (pc : Int) + o) (hp : ((pc : Int) + o).toNat = pc') (g : Go p e below P T (mkF m pc' Ls st)) : Go p e below P T (mkF m pc Ls st) :=
  Go.to (fun _ q => XS.goto k.1.here k.2.1 rfl rfl (hb k.2.2.2.2.2.1 hd) ho hp q) g
theorem s_icmp_eq (k : K p l e R s m args below meth c bytes own maxL ret nm T locs cells slots Z h n0) {x y : Int32} {o : Int} (hd : decode bytes pc = .ok (.if_icmp .eq o, 3)) (ho : 0 ≤ (pc : Int) + o) (hp : ((pc : Int) + o).toNat = pc') (h3 : pc + 3 = pc3) (gt : x = y → Go p e below P T (mkF m pc' Ls st)) (gf : ¬ (x = y) → Go p e below P T (mkF m pc3 Ls st)) : Go p e below P T (mkF m pc Ls (.int y :: .int x :: st)) := by
  subst h3
  by_cases hc : x = y
  · exact Go.to (fun _ q => XS.icmpYes k.1.here k.2.1 rfl rfl (hb k.2.2.2.2.2.1 hd) rfl (teq hc).1 ho hp q) (gt hc)
  · exact Go.to (fun _ q => XS.icmpNo k.1.here k.2.1 rfl (hb k.2.2.2.2.2.1 hd) rfl (feq hc).1 q) (gf hc)
theorem s_if_eq (k : K p l e R s m args below meth c bytes own maxL ret nm T locs cells slots Z h n0) {x : Int32} {o : Int} (hd : decode bytes pc = .ok (.ifCond .eq o, 3)) (ho : 0 ≤ (pc : Int) + o) (hp : ((pc : Int) + o).toNat = pc') (h3 : pc + 3 = pc3) (gt : x = 0 → Go p e below P T (mkF m pc' Ls st)) (gf : ¬ (x = 0) → Go p e below P T (mkF m pc3 Ls st)) : Go p e below P T (mkF m pc Ls (.int x :: st)) := by
  subst h3
  by_cases hc : x = 0
  · exact Go.to (fun _ q => XS.ifYes k.1.here k.2.1 rfl rfl (hb k.2.2.2.2.2.1 hd) rfl ((if0 _ _).trans (teq hc).1) ho hp q) (gt hc)
  · exact Go.to (fun _ q => XS.ifNo k.1.here k.2.1 rfl (hb k.2.2.2.2.2.1 hd) rfl ((if0 _ _).trans (feq hc).1) q) (gf hc)
theorem s_icmp_ne (k : K p l e R s m args below meth c bytes own maxL ret nm T locs cells slots Z h n0) {x y : Int32} {o : Int} (hd : decode bytes pc = .ok (.if_icmp .ne o, 3)) (ho : 0 ≤ (pc : Int) + o) (hp : ((pc : Int) + o).toNat = pc') (h3 : pc + 3 = pc3) (gt : x = y → Go p e below P T (mkF m pc3 Ls st)) (gf : ¬ (x = y) → Go p e below P T (mkF m pc' Ls st)) : Go p e below P T (mkF m pc Ls (.int y :: .int x :: st)) := by
  subst h3
  by_cases hc : x = y
  · exact Go.to (fun _ q => XS.icmpNo k.1.here k.2.1 rfl (hb k.2.2.2.2.2.1 hd) rfl (teq hc).2 q) (gt hc)
  · exact Go.to (fun _ q => XS.icmpYes k.1.here k.2.1 rfl rfl (hb k.2.2.2.2.2.1 hd) rfl (feq hc).2 ho hp q) (gf hc)
theorem s_if_ne (k : K p l e R s m args below meth c bytes own maxL ret nm T locs cells slots Z h n0) {x : Int32} {o : Int} (hd : decode bytes pc = .ok (.ifCond .ne o, 3)) (ho : 0 ≤ (pc : Int) + o) (hp : ((pc : Int) + o).toNat = pc') (h3 : pc + 3 = pc3) (gt : x = 0 → Go p e below P T (mkF m pc3 Ls st)) (gf : ¬ (x = 0) → Go p e below P T (mkF m pc' Ls st)) : Go p e below P T (mkF m pc Ls (.int x :: st)) := by
  subst h3
  by_cases hc : x = 0
  · exact Go.to (fun _ q => XS.ifNo k.1.here k.2.1 rfl (hb k.2.2.2.2.2.1 hd) rfl ((if0 _ _).trans (teq hc).2) q) (gt hc)
  · exact Go.to (fun _ q => XS.ifYes k.1.here k.2.1 rfl rfl (hb k.2.2.2.2.2.1 hd) rfl ((if0 _ _).trans (feq hc).2) ho hp q) (gf hc)
theorem s_icmp_lt (k : K p l e R s m args below meth c bytes own maxL ret nm T locs cells slots Z h n0) {x y : Int32} {o : Int} (hd : decode bytes pc = .ok (.if_icmp .lt o, 3)) (ho : 0 ≤ (pc : Int) + o) (hp : ((pc : Int) + o).toNat = pc') (h3 : pc + 3 = pc3) (gt : x < y → Go p e below P T (mkF m pc' Ls st)) (gf : ¬ (x < y) → Go p e below P T (mkF m pc3 Ls st)) : Go p e below P T (mkF m pc Ls (.int y :: .int x :: st)) := by
  subst h3
  by_cases hc : x < y
  · exact Go.to (fun _ q => XS.icmpYes k.1.here k.2.1 rfl rfl (hb k.2.2.2.2.2.1 hd) rfl (tlt hc).1 ho hp q) (gt hc)
  · exact Go.to (fun _ q => XS.icmpNo k.1.here k.2.1 rfl (hb k.2.2.2.2.2.1 hd) rfl (flt hc).1 q) (gf hc)
theorem s_if_lt (k : K p l e R s m args below meth c bytes own maxL ret nm T locs cells slots Z h n0) {x : Int32} {o : Int} (hd : decode bytes pc = .ok (.ifCond .lt o, 3)) (ho : 0 ≤ (pc : Int) + o) (hp : ((pc : Int) + o).toNat = pc') (h3 : pc + 3 = pc3) (gt : x < 0 → Go p e below P T (mkF m pc' Ls st)) (gf : ¬ (x < 0) → Go p e below P T (mkF m pc3 Ls st)) : Go p e below P T (mkF m pc Ls (.int x :: st)) := by
  subst h3
  by_cases hc : x < 0
  · exact Go.to (fun _ q => XS.ifYes k.1.here k.2.1 rfl rfl (hb k.2.2.2.2.2.1 hd) rfl ((if0 _ _).trans (tlt hc).1) ho hp q) (gt hc)
  · exact Go.to (fun _ q => XS.ifNo k.1.here k.2.1 rfl (hb k.2.2.2.2.2.1 hd) rfl ((if0 _ _).trans (flt hc).1) q) (gf hc)
theorem s_icmp_ge (k : K p l e R s m args below meth c bytes own maxL ret nm T locs cells slots Z h n0) {x y : Int32} {o : Int} (hd : decode bytes pc = .ok (.if_icmp .ge o, 3)) (ho : 0 ≤ (pc : Int) + o) (hp : ((pc : Int) + o).toNat = pc') (h3 : pc + 3 = pc3) (gt : x < y → Go p e below P T (mkF m pc3 Ls st)) (gf : ¬ (x < y) → Go p e below P T (mkF m pc' Ls st)) : Go p e below P T (mkF m pc Ls (.int y :: .int x :: st)) := by
  subst h3
  by_cases hc : x < y
  · exact Go.to (fun _ q => XS.icmpNo k.1.here k.2.1 rfl (hb k.2.2.2.2.2.1 hd) rfl (tlt hc).2.1 q) (gt hc)
  · exact Go.to (fun _ q => XS.icmpYes k.1.here k.2.1 rfl rfl (hb k.2.2.2.2.2.1 hd) rfl (flt hc).2.1 ho hp q) (gf hc)
theorem s_if_ge (k : K p l e R s m args below meth c bytes own maxL ret nm T locs cells slots Z h n0) {x : Int32} {o : Int} (hd : decode bytes pc = .ok (.ifCond .ge o, 3)) (ho : 0 ≤ (pc : Int) + o) (hp : ((pc : Int) + o).toNat = pc') (h3 : pc + 3 = pc3) (gt : x < 0 → Go p e below P T (mkF m pc3 Ls st)) (gf : ¬ (x < 0) → Go p e below P T (mkF m pc' Ls st)) : Go p e below P T (mkF m pc Ls (.int x :: st)) := by
  subst h3
  by_cases hc : x < 0
  · exact Go.to (fun _ q => XS.ifNo k.1.here k.2.1 rfl (hb k.2.2.2.2.2.1 hd) rfl ((if0 _ _).trans (tlt hc).2.1) q) (gt hc)
  · exact Go.to (fun _ q => XS.ifYes k.1.here k.2.1 rfl rfl (hb k.2.2.2.2.2.1 hd) rfl ((if0 _ _).trans (flt hc).2.1) ho hp q) (gf hc)
theorem s_icmp_gt (k : K p l e R s m args below meth c bytes own maxL ret nm T locs cells slots Z h n0) {x y : Int32} {o : Int} (hd : decode bytes pc = .ok (.if_icmp .gt o, 3)) (ho : 0 ≤ (pc : Int) + o) (hp : ((pc : Int) + o).toNat = pc') (h3 : pc + 3 = pc3) (gt : y < x → Go p e below P T (mkF m pc' Ls st)) (gf : ¬ (y < x) → Go p e below P T (mkF m pc3 Ls st)) : Go p e below P T (mkF m pc Ls (.int y :: .int x :: st)) := by
  subst h3
  by_cases hc : y < x
  · exact Go.to (fun _ q => XS.icmpYes k.1.here k.2.1 rfl rfl (hb k.2.2.2.2.2.1 hd) rfl (tlt hc).2.2.1 ho hp q) (gt hc)
  · exact Go.to (fun _ q => XS.icmpNo k.1.here k.2.1 rfl (hb k.2.2.2.2.2.1 hd) rfl (flt hc).2.2.1 q) (gf hc)
theorem s_if_gt (k : K p l e R s m args below meth c bytes own maxL ret nm T locs cells slots Z h n0) {x : Int32} {o : Int} (hd : decode bytes pc = .ok (.ifCond .gt o, 3)) (ho : 0 ≤ (pc : Int) + o) (hp : ((pc : Int) + o).toNat = pc') (h3 : pc + 3 = pc3) (gt : 0 < x → Go p e below P T (mkF m pc' Ls st)) (gf : ¬ (0 < x) → Go p e below P T (mkF m pc3 Ls st)) : Go p e below P T (mkF m pc Ls (.int x :: st)) := by
  subst h3
  by_cases hc : 0 < x
  · exact Go.to (fun _ q => XS.ifYes k.1.here k.2.1 rfl rfl (hb k.2.2.2.2.2.1 hd) rfl ((if0 _ _).trans (tlt hc).2.2.1) ho hp q) (gt hc)
  · exact Go.to (fun _ q => XS.ifNo k.1.here k.2.1 rfl (hb k.2.2.2.2.2.1 hd) rfl ((if0 _ _).trans (flt hc).2.2.1) q) (gf hc)
theorem s_icmp_le (k : K p l e R s m args below meth c bytes own maxL ret nm T locs cells slots Z h n0) {x y : Int32} {o : Int} (hd : decode bytes pc = .ok (.if_icmp .le o, 3)) (ho : 0 ≤ (pc : Int) + o) (hp : ((pc : Int) + o).toNat = pc') (h3 : pc + 3 = pc3) (gt : y < x → Go p e below P T (mkF m pc3 Ls st)) (gf : ¬ (y < x) → Go p e below P T (mkF m pc' Ls st)) : Go p e below P T (mkF m pc Ls (.int y :: .int x :: st)) := by
  subst h3
  by_cases hc : y < x
  · exact Go.to (fun _ q => XS.icmpNo k.1.here k.2.1 rfl (hb k.2.2.2.2.2.1 hd) rfl (tlt hc).2.2.2 q) (gt hc)
  · exact Go.to (fun _ q => XS.icmpYes k.1.here k.2.1 rfl rfl (hb k.2.2.2.2.2.1 hd) rfl (flt hc).2.2.2 ho hp q) (gf hc)
theorem s_if_le (k : K p l e R s m args below meth c bytes own maxL ret nm T locs cells slots Z h n0) {x : Int32} {o : Int} (hd : decode bytes pc = .ok (.ifCond .le o, 3)) (ho : 0 ≤ (pc : Int) + o) (hp : ((pc : Int) + o).toNat = pc') (h3 : pc + 3 = pc3) (gt : 0 < x → Go p e below P T (mkF m pc3 Ls st)) (gf : ¬ (0 < x) → Go p e below P T (mkF m pc' Ls st)) : Go p e below P T (mkF m pc Ls (.int x :: st)) := by
  subst h3
  by_cases hc : 0 < x
  · exact Go.to (fun _ q => XS.ifNo k.1.here k.2.1 rfl (hb k.2.2.2.2.2.1 hd) rfl ((if0 _ _).trans (tlt hc).2.2.2) q) (gt hc)
  · exact Go.to (fun _ q => XS.ifYes k.1.here k.2.1 rfl rfl (hb k.2.2.2.2.2.1 hd) rfl ((if0 _ _).trans (flt hc).2.2.2) ho hp q) (gf hc)
theorem cmpL_lt (x y : Int64) : XT.cmpL x y < 0 ↔ x < y := by unfold XT.cmpL; split <;> (try split) <;> simp_all [Int64.lt_iff_toInt_lt, ← Int64.toInt_inj] <;> omega
theorem cmpL_gt (x y : Int64) : 0 < XT.cmpL x y ↔ y < x := by unfold XT.cmpL; split <;> (try split) <;> simp_all [Int64.lt_iff_toInt_lt, ← Int64.toInt_inj] <;> omega
theorem cmpL_eq (x y : Int64) : XT.cmpL x y = 0 ↔ x = y := by unfold XT.cmpL; split <;> (try split) <;> simp_all [Int64.lt_iff_toInt_lt, ← Int64.toInt_inj] <;> omega
theorem s_lcmp_eq (k : K p l e R s m args below meth c bytes own maxL ret nm T locs cells slots Z h n0) {x y : Int64} {o : Int} {pc1 : Nat} (hd1 : decode bytes pc = .ok (.lcmp, 1)) (h1 : pc + 1 = pc1) (hd : decode bytes pc1 = .ok (.ifCond .eq o, 3)) (ho : 0 ≤ (pc1 : Int) + o) (hp : ((pc1 : Int) + o).toNat = pc') (h3 : pc1 + 3 = pc3) (gt : x = y → Go p e below P T (mkF m pc' Ls st)) (gf : ¬ (x = y) → Go p e below P T (mkF m pc3 Ls st)) : Go p e below P T (mkF m pc Ls (.long y :: .long x :: st)) := by
  subst h1
  refine Go.to (fun _ q => XT.lcmp k.1.here k.2.1 rfl (hb k.2.2.2.2.2.1 hd1) rfl q) ?_
  exact s_if_eq k hd ho hp h3 (fun q => gt ((cmpL_eq x y).mp q)) (fun q => gf fun z => q ((cmpL_eq x y).mpr z))
theorem s_lcmp_ne (k : K p l e R s m args below meth c bytes own maxL ret nm T locs cells slots Z h n0) {x y : Int64} {o : Int} {pc1 : Nat} (hd1 : decode bytes pc = .ok (.lcmp, 1)) (h1 : pc + 1 = pc1) (hd : decode bytes pc1 = .ok (.ifCond .ne o, 3)) (ho : 0 ≤ (pc1 : Int) + o) (hp : ((pc1 : Int) + o).toNat = pc') (h3 : pc1 + 3 = pc3) (gt : x = y → Go p e below P T (mkF m pc3 Ls st)) (gf : ¬ (x = y) → Go p e below P T (mkF m pc' Ls st)) : Go p e below P T (mkF m pc Ls (.long y :: .long x :: st)) := by
  subst h1
  refine Go.to (fun _ q => XT.lcmp k.1.here k.2.1 rfl (hb k.2.2.2.2.2.1 hd1) rfl q) ?_
  exact s_if_ne k hd ho hp h3 (fun q => gt ((cmpL_eq x y).mp q)) (fun q => gf fun z => q ((cmpL_eq x y).mpr z))
theorem s_lcmp_lt (k : K p l e R s m args below meth c bytes own maxL ret nm T locs cells slots Z h n0) {x y : Int64} {o : Int} {pc1 : Nat} (hd1 : decode bytes pc = .ok (.lcmp, 1)) (h1 : pc + 1 = pc1) (hd : decode bytes pc1 = .ok (.ifCond .lt o, 3)) (ho : 0 ≤ (pc1 : Int) + o) (hp : ((pc1 : Int) + o).toNat = pc') (h3 : pc1 + 3 = pc3) (gt : x < y → Go p e below P T (mkF m pc' Ls st)) (gf : ¬ (x < y) → Go p e below P T (mkF m pc3 Ls st)) : Go p e below P T (mkF m pc Ls (.long y :: .long x :: st)) := by
  subst h1
  refine Go.to (fun _ q => XT.lcmp k.1.here k.2.1 rfl (hb k.2.2.2.2.2.1 hd1) rfl q) ?_
  exact s_if_lt k hd ho hp h3 (fun q => gt ((cmpL_lt x y).mp q)) (fun q => gf fun z => q ((cmpL_lt x y).mpr z))
theorem s_lcmp_ge (k : K p l e R s m args below meth c bytes own maxL ret nm T locs cells slots Z h n0) {x y : Int64} {o : Int} {pc1 : Nat} (hd1 : decode bytes pc = .ok (.lcmp, 1)) (h1 : pc + 1 = pc1) (hd : decode bytes pc1 = .ok (.ifCond .ge o, 3)) (ho : 0 ≤ (pc1 : Int) + o) (hp : ((pc1 : Int) + o).toNat = pc') (h3 : pc1 + 3 = pc3) (gt : x < y → Go p e below P T (mkF m pc3 Ls st)) (gf : ¬ (x < y) → Go p e below P T (mkF m pc' Ls st)) : Go p e below P T (mkF m pc Ls (.long y :: .long x :: st)) := by
  subst h1
  refine Go.to (fun _ q => XT.lcmp k.1.here k.2.1 rfl (hb k.2.2.2.2.2.1 hd1) rfl q) ?_
  exact s_if_ge k hd ho hp h3 (fun q => gt ((cmpL_lt x y).mp q)) (fun q => gf fun z => q ((cmpL_lt x y).mpr z))
theorem s_lcmp_gt (k : K p l e R s m args below meth c bytes own maxL ret nm T locs cells slots Z h n0) {x y : Int64} {o : Int} {pc1 : Nat} (hd1 : decode bytes pc = .ok (.lcmp, 1)) (h1 : pc + 1 = pc1) (hd : decode bytes pc1 = .ok (.ifCond .gt o, 3)) (ho : 0 ≤ (pc1 : Int) + o) (hp : ((pc1 : Int) + o).toNat = pc') (h3 : pc1 + 3 = pc3) (gt : y < x → Go p e below P T (mkF m pc' Ls st)) (gf : ¬ (y < x) → Go p e below P T (mkF m pc3 Ls st)) : Go p e below P T (mkF m pc Ls (.long y :: .long x :: st)) := by
  subst h1
  refine Go.to (fun _ q => XT.lcmp k.1.here k.2.1 rfl (hb k.2.2.2.2.2.1 hd1) rfl q) ?_
  exact s_if_gt k hd ho hp h3 (fun q => gt ((cmpL_gt x y).mp q)) (fun q => gf fun z => q ((cmpL_gt x y).mpr z))
theorem s_lcmp_le (k : K p l e R s m args below meth c bytes own maxL ret nm T locs cells slots Z h n0) {x y : Int64} {o : Int} {pc1 : Nat} (hd1 : decode bytes pc = .ok (.lcmp, 1)) (h1 : pc + 1 = pc1) (hd : decode bytes pc1 = .ok (.ifCond .le o, 3)) (ho : 0 ≤ (pc1 : Int) + o) (hp : ((pc1 : Int) + o).toNat = pc') (h3 : pc1 + 3 = pc3) (gt : y < x → Go p e below P T (mkF m pc3 Ls st)) (gf : ¬ (y < x) → Go p e below P T (mkF m pc' Ls st)) : Go p e below P T (mkF m pc Ls (.long y :: .long x :: st)) := by
  subst h1
  refine Go.to (fun _ q => XT.lcmp k.1.here k.2.1 rfl (hb k.2.2.2.2.2.1 hd1) rfl q) ?_
  exact s_if_le k hd ho hp h3 (fun q => gt ((cmpL_gt x y).mp q)) (fun q => gf fun z => q ((cmpL_gt x y).mpr z))
theorem s_ldcI (k : K p l e R s m args below meth c bytes own maxL ret nm T locs cells slots Z h n0) {index : Nat} {v : Int32} (hd : decode bytes pc = .ok (.ldc index, 2)) (w : (Cond.constant own index v).before a0 Z = true) (hp : pc + 2 = pc') (g : Go p e below P T (mkF m pc' Ls (.int v :: st))) : Go p e below P T (mkF m pc Ls st) := by
  subst hp
  exact Go.to (k.1.ldcInt k.2.1 k.2.2.2.2.2.2.1 (mvT k.2.2.1 w) (g := mkF m pc Ls st) rfl (hb k.2.2.2.2.2.1 hd)) g
theorem s_ldcwI (k : K p l e R s m args below meth c bytes own maxL ret nm T locs cells slots Z h n0) {index : Nat} {v : Int32} (hd : decode bytes pc = .ok (.ldc_w index, 3)) (w : (Cond.constant own index v).before a0 Z = true) (hp : pc + 3 = pc') (g : Go p e below P T (mkF m pc' Ls (.int v :: st))) : Go p e below P T (mkF m pc Ls st) := by
  subst hp
  exact Go.to (k.1.ldcwInt k.2.1 k.2.2.2.2.2.2.1 (mvT k.2.2.1 w) (g := mkF m pc Ls st) rfl (hb k.2.2.2.2.2.1 hd)) g
theorem s_ldcL (k : K p l e R s m args below meth c bytes own maxL ret nm T locs cells slots Z h n0) {index : Nat} {v : Int64} (hd : decode bytes pc = .ok (.ldc2_w index, 3)) (w : (Cond.constantLong own index v).before a0 Z = true) (hp : pc + 3 = pc') (g : Go p e below P T (mkF m pc' Ls (.long v :: st))) : Go p e below P T (mkF m pc Ls st) := by
  subst hp
  exact Go.to (k.1.ldc2Long k.2.1 k.2.2.2.2.2.2.1 (mvT k.2.2.1 w) (g := mkF m pc Ls st) rfl (hb k.2.2.2.2.2.1 hd)) g
/-- a null test -/
theorem s_nullY (k : K p l e R s m args below meth c bytes own maxL ret nm T locs cells slots Z h n0) {o : Int} (hd : decode bytes pc = .ok (.ifnull o, 3)) (ho : 0 ≤ (pc : Int) + o) (hp : ((pc : Int) + o).toNat = pc') (g : Go p e below P T (mkF m pc' Ls st)) : Go p e below P T (mkF m pc Ls (.null :: st)) :=
  Go.to (fun _ q => XS.ifnullYes k.1.here k.2.1 rfl rfl (hb k.2.2.2.2.2.1 hd) rfl ho hp q) g
theorem s_nullN (k : K p l e R s m args below meth c bytes own maxL ret nm T locs cells slots Z h n0) {o : Int} {b : Addr} (hd : decode bytes pc = .ok (.ifnull o, 3)) (hp : pc + 3 = pc') (g : Go p e below P T (mkF m pc' Ls st)) : Go p e below P T (mkF m pc Ls (.ref b :: st)) := by
  subst hp
  exact Go.to (fun _ q => XS.ifnullNo k.1.here k.2.1 rfl (hb k.2.2.2.2.2.1 hd) rfl q) g
theorem s_nonnullY (k : K p l e R s m args below meth c bytes own maxL ret nm T locs cells slots Z h n0) {o : Int} {b : Addr} (hd : decode bytes pc = .ok (.ifnonnull o, 3)) (ho : 0 ≤ (pc : Int) + o) (hp : ((pc : Int) + o).toNat = pc') (g : Go p e below P T (mkF m pc' Ls st)) : Go p e below P T (mkF m pc Ls (.ref b :: st)) :=
  Go.to (fun _ q => XT.ifnonnullYes k.1.here k.2.1 rfl rfl (hb k.2.2.2.2.2.1 hd) rfl ho hp q) g
theorem s_nonnullN (k : K p l e R s m args below meth c bytes own maxL ret nm T locs cells slots Z h n0) {o : Int} (hd : decode bytes pc = .ok (.ifnonnull o, 3)) (hp : pc + 3 = pc') (g : Go p e below P T (mkF m pc' Ls st)) : Go p e below P T (mkF m pc Ls (.null :: st)) := by
  subst hp
  exact Go.to (fun _ q => XT.ifnonnullNo k.1.here k.2.1 rfl (hb k.2.2.2.2.2.1 hd) rfl q) g
theorem s_acmp_ne (k : K p l e R s m args below meth c bytes own maxL ret nm T locs cells slots Z h n0) {x y : Value} {o : Int} (hd : decode bytes pc = .ok (.if_acmp .ne o, 3)) (hx : x.isRef = true) (hy : y.isRef = true) (ho : 0 ≤ (pc : Int) + o) (hp : ((pc : Int) + o).toNat = pc') (h3 : pc + 3 = pc3) (gt : x = y → Go p e below P T (mkF m pc3 Ls st)) (gf : ¬ (x = y) → Go p e below P T (mkF m pc' Ls st)) : Go p e below P T (mkF m pc Ls (y :: x :: st)) := by
  by_cases hc : x = y
  · exact Go.to (fun _ q => Jvm.RoadKit.acmp (g := mkF m pc Ls (y :: x :: st)) k.1 k.2.1 rfl hx hy (pc' := pc3) (same := true) rfl (hb k.2.2.2.2.2.1 hd) rfl (decide_eq_true hc) ho h3.symm q) (gt hc)
  · exact Go.to (fun _ q => Jvm.RoadKit.acmp (g := mkF m pc Ls (y :: x :: st)) k.1 k.2.1 rfl hx hy (pc' := pc') (same := false) rfl (hb k.2.2.2.2.2.1 hd) rfl (decide_eq_false hc) ho hp.symm q) (gf hc)
/-- getfield -/
theorem s_get (k : K p l e R s m args below meth c bytes own maxL ret nm T locs cells slots Z h n0) {R0 O n d host : String} {index : Nat} {a : Addr} {v : Value} (hd : decode bytes pc = .ok (.getfield index, 3)) (w : (Cond.fieldLink own index R0 n d).before a0 Z = true ∨ (Cond.fieldLinkNest own index R0 n d host).before a0 Z = true) (via : Via Z R0 O n d) (F : Fld Z h a O n d v) (hp : pc + 3 = pc')
    (g : ∀ T', K p l e R s m args below meth c bytes own maxL ret nm T' locs cells slots Z h n0 → Go p e below P T' (mkF m pc' Ls (v :: st))) : Go p e below P T (mkF m pc Ls (.ref a :: st)) := by
  subst hp
  obtain ⟨T', X', e', q⟩ := getF k.1 k.2.1 k.2.2.1 k.2.2.2.2.2.2.1 w via k.2.2.2.1 F (g := mkF m pc Ls (.ref a :: st)) rfl rfl (hb k.2.2.2.2.2.1 hd)
  exact Go.to q (g T' (k_hp k X' e' k.2.2.2.2.1))
/-- putfield -/
theorem s_put (k : K p l e R s m args below meth c bytes own maxL ret nm T locs cells slots Z h n0) {R0 O n d host C : String} {index kk : Nat} {ty : FieldType} {a : Addr} {v old : Value} (hd : decode bytes pc = .ok (.putfield index, 3)) (w : (Cond.fieldLink own index R0 n d).before a0 Z = true ∨ (Cond.fieldLinkNest own index R0 n d host).before a0 Z = true) (via : Via Z R0 O n d) (F : Fld Z h a O n d old) (E : Exa Z h a C) (L : (Cond.lays C O n d).before a0 Z = true ∨ ((Cond.laysFinal C O n d).before a0 Z = true ∧ own = O ∧ nm = "<init>")) (wi : (Cond.instantiable C kk).before a0 Z = true)
    (hty : parseFieldDescriptor d = some ty) (hn : narrow ty v = v) (hf : fits ty v = true) (ha : n0 ≤ a) (hp : pc + 3 = pc')
    (g : ∀ T' h' L', K p l e R s m args below meth c bytes own maxL ret nm T' L' cells slots Z h' n0 → Wr h h' a (Jvm.RoadKit.slotOf Z O n d) v → Go p e below P T' (mkF m pc' Ls st)) : Go p e below P T (mkF m pc Ls (v :: .ref a :: st)) := by
  subst hp
  obtain ⟨T', h', X', e', W, q⟩ := putF k.1 k.2.1 k.2.2.1 k.2.2.2.2.2.2.1 w via k.2.2.2.1 F E (L.imp id fun z => ⟨z.1, z.2.1, k.2.2.2.2.2.2.2.2.2.1.trans z.2.2⟩) wi hty hn hf (g := mkF m pc Ls (v :: .ref a :: st)) rfl rfl (hb k.2.2.2.2.2.1 hd)
  exact Go.to q (g T' h' _ (k_hp k X' e' (Fr.snoc X' k.2.2.2.2.1 ha)) W)
/-- getfield by an entry that is resolved -/
theorem ready_of (k : K p l e R s m args below meth c bytes own maxL ret nm T locs cells slots Z h n0) {R0 O n d : String} {index : Nat} (w : (Cond.fieldRef own index R0 n d).before a0 Z = true) (via : Via Z R0 O n d) {cf i : Nat} {kk : Class} {f : Field} (h2 : Z.fieldFound? O n d = some (cf, kk, i, f)) : T.vm.fieldReady m.cls index cf f := by
  have hU : Z.Warmed39 T.vm := wtrans k.2.2.1 k.1.warmed
  have hw := Cond.fieldRef_warmed39 hU w
  have hcur : (Z.setVm T.vm).vm.findClass own = some m.cls := by
    show T.vm.findClass own = _
    rw [k.1.warmed.alike.findClass]; exact k.2.2.2.2.2.2.1
  obtain ⟨c1, k1, i1, f1, hi1, hr1⟩ := Cond.fieldRef_spec hcur hw
  obtain ⟨k', hi', -⟩ := State.fieldFound?_setVm (s := Z) hU.alike (via _ h2)
  cases hi1.symm.trans hi'
  exact hr1
theorem s_getR (k : K p l e R s m args below meth c bytes own maxL ret nm T locs cells slots Z h n0) {R0 O n d : String} {index : Nat} {a : Addr} {v : Value} (hd : decode bytes pc = .ok (.getfield index, 3)) (w : (Cond.fieldRef own index R0 n d).before a0 Z = true) (via : Via Z R0 O n d) (F : Fld Z h a O n d v) (hp : pc + 3 = pc') (g : Go p e below P T (mkF m pc' Ls (v :: st))) : Go p e below P T (mkF m pc Ls (.ref a :: st)) := by
  subst hp
  obtain ⟨cell, cf, kk, i, f, h1, h2, h3, h4, -, -, h7⟩ := F
  have hr1 := ready_of k w via h2
  have hcell : T.heap[a]? = some cell := by rw [k.2.2.2.1]; exact h1
  refine Go.to (fun target q => ?_) g
  jvm_step k.1.here [k.2.1, hb k.2.2.2.2.2.1 hd, getfield.wp_ready (e := e) (s := T) (f := mkF m pc Ls (.ref a :: st)) k.1.here.top hr1 h3 rfl hcell h4 h7]
  exact q
/-- putfield by an entry that is resolved -/
theorem s_putR (k : K p l e R s m args below meth c bytes own maxL ret nm T locs cells slots Z h n0) {R0 O n d C : String} {index kk : Nat} {ty : FieldType} {a : Addr} {v old : Value} (hd : decode bytes pc = .ok (.putfield index, 3)) (w : (Cond.fieldRef own index R0 n d).before a0 Z = true) (via : Via Z R0 O n d) (F : Fld Z h a O n d old) (E : Exa Z h a C) (L : (Cond.lays C O n d).before a0 Z = true) (wi : (Cond.instantiable C kk).before a0 Z = true)
    (hty : parseFieldDescriptor d = some ty) (hn : narrow ty v = v) (hf : fits ty v = true) (ha : n0 ≤ a) (hp : pc + 3 = pc')
    (g : ∀ T' h' L', K p l e R s m args below meth c bytes own maxL ret nm T' L' cells slots Z h' n0 → Wr h h' a (Jvm.RoadKit.slotOf Z O n d) v → Go p e below P T' (mkF m pc' Ls st)) : Go p e below P T (mkF m pc Ls (v :: .ref a :: st)) := by
  subst hp
  obtain ⟨cell, cf, kf, i, f, h1, h2, h3, h4, h5, -, h7⟩ := F
  obtain ⟨cell', kc, e1, e2, e3, -⟩ := E
  cases h1.symm.trans e1
  obtain ⟨c1, k1, cf1, kf1, i1, f1, a1, a2, a3, -, -, a6, -⟩ := Laid.spec (Or.inl L)
  cases h2.symm.trans a3
  cases e2.symm.trans a1
  obtain ⟨c2, k2, i1, i2, i3, -⟩ := Cond.instantiable_spec wi
  cases e2.symm.trans i1
  cases a2.symm.trans i2
  have ht := (State.fieldFound?_type h2 hty).2
  have hfit : Z.fitsSlot cell.cls cell.vm f.slot v = true := by
    have q : Z.slotType? cell.cls cell.vm f.slot = some ty := by
      simp only [State.slotType?, a2, Option.bind_eq_bind, Option.bind_some, i3]
      cases hq : cell.vm <;> first | (rw [hq] at h5; exact Bool.noConfusion h5) | (rw [a6, ht])
    simp [State.fitsSlot, q, hf]
  have hU : Z.Warmed39 T.vm := wtrans k.2.2.1 k.1.warmed
  have hfit' : T.fitsSlot cell.cls cell.vm f.slot v = true := by rw [← State.fitsSlot_setVm hU.alike] at hfit; exact hfit
  have hfin : hasFlag f.accessFlags Acc.final = false := by
    obtain ⟨_, _, _, _, _, _, -, -, b3, -, b5, -⟩ := Cond.lays_spec L
    cases h2.symm.trans b3
    exact b5
  have hr1 := ready_of k w via h2
  have hlt := (Array.getElem?_eq_some_iff.mp h7).1
  have es : Jvm.RoadKit.slotOf Z O n d = f.slot := by simp [Jvm.RoadKit.slotOf, h2]
  have hcell : T.heap[a]? = some cell := by rw [k.2.2.2.1]; exact h1
  obtain ⟨X', q⟩ := k.1.putfieldReady k.2.1 hr1 h3 (Or.inl hfin) hcell h4 hlt (by rw [ht]; exact hn) hfit' (g := mkF m pc Ls (v :: .ref a :: st)) rfl rfl (hb k.2.2.2.2.2.1 hd)
  refine Go.to q (g _ _ _ (k_hp k X' rfl (Fr.snoc X' k.2.2.2.2.1 ha)) ?_)
  rw [es]
  exact ⟨cell, h1, h5, hlt, by rw [← k.2.2.2.1]; rfl⟩
/-- new -/
theorem s_new (k : K p l e R s m args below meth c bytes own maxL ret nm T locs cells slots Z h n0) {C : String} {index n : Nat} (hd : decode bytes pc = .ok (.new index, 3)) (w : (Cond.classLink own index C).before a0 Z = true) (wi : (Cond.instantiable C n).before a0 Z = true) (wz : (Cond.initialized C).before a0 Z = true) (hc : cells + 1 ≤ R.cells) (hl : slots + n ≤ R.slots) (hp : pc + 3 = pc')
    (g : ∀ T' h' b, b = h.size → K p l e R s m args below meth c bytes own maxL ret nm T' locs (cells + 1) (slots + n) Z h' n0 → Ext h h' → Exa Z h' b C → (∀ {O nm d : String} {ty : FieldType}, Laid Z a0 C O nm d → parseFieldDescriptor d = some ty → Fld Z h' b O nm d (defaultValue ty)) → Go p e below P T' (mkF m pc' Ls (.ref b :: st))) : Go p e below P T (mkF m pc Ls st) := by
  subst hp
  obtain ⟨T', h', X', e', E, A, D, -, q⟩ := newO k.1 k.2.1 k.2.2.1 k.2.2.2.2.2.2.1 w wi wz k.2.2.2.1 (g := mkF m pc Ls st) rfl (hb k.2.2.2.2.2.1 hd) hc hl
  exact Go.to q (g T' h' _ rfl (k_hp k X' e' k.2.2.2.2.1) E A D)
/-- newarray of a primitive kind -/
theorem s_newP (k : K p l e R s m args below meth c bytes own maxL ret nm T locs cells slots Z h n0) {aty : ArrayType} {n : Int32} {cap : Nat} (hd : decode bytes pc = .ok (.newarray aty, 2)) (w : (Cond.arrayClass (newarray.typeOf aty)).before a0 Z = true) (hn : ¬ n < 0) (hcap : n.toNatClampNeg ≤ cap) (hb' : cap * 8 ≤ 536870912) (hc : cells + 1 ≤ R.cells) (hl : slots + cap ≤ R.slots) (hp : pc + 2 = pc')
    (g : ∀ T' h' b cA, b = h.size → K p l e R s m args below meth c bytes own maxL ret nm T' locs (cells + 1) (slots + cap) Z h' n0 → Ext h h' → Arv Z h' b cA (newarray.typeOf aty) n [] (defaultValue (newarray.typeOf aty)) → Go p e below P T' (mkF m pc' Ls (.ref b :: st))) : Go p e below P T (mkF m pc Ls (.int n :: st)) := by
  subst hp
  obtain ⟨T', h', cA, X', e', E, A, q⟩ := newP k.1 k.2.1 k.2.2.1 w k.2.2.2.1 (g := mkF m pc Ls (.int n :: st)) rfl (hb k.2.2.2.2.2.1 hd) rfl hn hcap hb' hc hl
  exact Go.to q (g T' h' _ cA rfl (k_hp k X' e' k.2.2.2.2.1) E (Arv.new A hn))
/-- anewarray -/
theorem s_newR (k : K p l e R s m args below meth c bytes own maxL ret nm T locs cells slots Z h n0) {C : String} {index : Nat} {n : Int32} {cap : Nat} (hd : decode bytes pc = .ok (.anewarray index, 3)) (w1 : (Cond.classLink own index C).before a0 Z = true) (w2 : (Cond.arrayOver (.object C)).before a0 Z = true) (hn : ¬ n < 0) (hcap : n.toNatClampNeg ≤ cap) (hb' : cap * 8 ≤ 536870912) (hc : cells + 1 ≤ R.cells) (hl : slots + cap ≤ R.slots) (hp : pc + 3 = pc')
    (g : ∀ T' h' b cA, b = h.size → K p l e R s m args below meth c bytes own maxL ret nm T' locs (cells + 1) (slots + cap) Z h' n0 → Ext h h' → Arv Z h' b cA (.object C) n [] .null → Ovr Z cA C → Go p e below P T' (mkF m pc' Ls (.ref b :: st))) : Go p e below P T (mkF m pc Ls (.int n :: st)) := by
  subst hp
  obtain ⟨T', h', cA, X', e', E, A, O, q⟩ := newR k.1 k.2.1 k.2.2.1 k.2.2.2.2.2.2.1 w1 w2 k.2.2.2.1 (g := mkF m pc Ls (.int n :: st)) rfl (hb k.2.2.2.2.2.1 hd) rfl hn hcap hb' hc hl
  exact Go.to q (g T' h' _ cA rfl (k_hp k X' e' k.2.2.2.2.1) E (Arv.new A hn) O)
/-- arraylength -/
theorem s_len (k : K p l e R s m args below meth c bytes own maxL ret nm T locs cells slots Z h n0) {a : Addr} {kc : ClassId} {ty : FieldType} {z : Int32} {vs : List Value} {dv : Value} (hd : decode bytes pc = .ok (.arraylength, 1)) (A : Arv Z h a kc ty z vs dv) (hp : pc + 1 = pc') (g : Go p e below P T (mkF m pc' Ls (.int z :: st))) : Go p e below P T (mkF m pc Ls (.ref a :: st)) := by
  subst hp
  obtain ⟨cl, A1, -, S, N, -⟩ := A
  rw [← len_of S N] at g
  exact Go.to (fun _ q => k.1.arraylength k.2.1 (by rw [k.2.2.2.1]; exact A1.1) (State.isArrayOf_alike k.2.2.1.alike A1.2.1) (g := mkF m pc Ls (.ref a :: st)) rfl rfl (hb k.2.2.2.2.2.1 hd) _ q) g

theorem s_laload (k : K p l e R s m args below meth c bytes own maxL ret nm T locs cells slots Z h n0) {a : Addr} {kc : ClassId} {z j : Int32} {vs : List Value} {dv v : Value} (hd : decode bytes pc = .ok (.laload, 1)) (A : Arv Z h a kc .long z vs dv) (hj : ¬ j < 0 ∧ j < z) (hv : vs.getD j.toNatClampNeg dv = v) (hp : pc + 1 = pc') (g : Go p e below P T (mkF m pc' Ls (v :: st))) : Go p e below P T (mkF m pc Ls (.int j :: .ref a :: st)) := by
  subst hp
  obtain ⟨cl, A1, -, S, N, H, -⟩ := A
  exact Go.to (fun _ q => k.1.laload k.2.1 (by rw [k.2.2.2.1]; exact A1.1) (State.isArrayOf_alike k.2.2.1.alike A1.2.1) A1.2.2 (inb_of S hj) (H.at (inb_of S hj) hv) (g := mkF m pc Ls (.int j :: .ref a :: st)) rfl rfl (hb k.2.2.2.2.2.1 hd) _ q) g
theorem s_baload (k : K p l e R s m args below meth c bytes own maxL ret nm T locs cells slots Z h n0) {a : Addr} {kc : ClassId} {z j : Int32} {vs : List Value} {dv v : Value} (hd : decode bytes pc = .ok (.baload, 1)) (A : Arv Z h a kc .byte z vs dv) (hj : ¬ j < 0 ∧ j < z) (hv : vs.getD j.toNatClampNeg dv = v) (hp : pc + 1 = pc') (g : Go p e below P T (mkF m pc' Ls (v :: st))) : Go p e below P T (mkF m pc Ls (.int j :: .ref a :: st)) := by
  subst hp
  obtain ⟨cl, A1, -, S, N, H, -⟩ := A
  exact Go.to (fun _ q => k.1.baloadBytes k.2.1 (by rw [k.2.2.2.1]; exact A1.1) (State.isArrayOf_alike k.2.2.1.alike A1.2.1) A1.2.2 (inb_of S hj) (H.at (inb_of S hj) hv) (g := mkF m pc Ls (.int j :: .ref a :: st)) rfl rfl (hb k.2.2.2.2.2.1 hd) _ q) g
theorem s_iaload (k : K p l e R s m args below meth c bytes own maxL ret nm T locs cells slots Z h n0) {a : Addr} {kc : ClassId} {z j : Int32} {vs : List Value} {dv v : Value} (hd : decode bytes pc = .ok (.iaload, 1)) (A : Arv Z h a kc .int z vs dv) (hj : ¬ j < 0 ∧ j < z) (hv : vs.getD j.toNatClampNeg dv = v) (hp : pc + 1 = pc') (g : Go p e below P T (mkF m pc' Ls (v :: st))) : Go p e below P T (mkF m pc Ls (.int j :: .ref a :: st)) := by
  subst hp
  obtain ⟨cl, A1, -, S, N, H, -⟩ := A
  exact Go.to (fun _ q => k.1.iaload k.2.1 (by rw [k.2.2.2.1]; exact A1.1) (State.isArrayOf_alike k.2.2.1.alike A1.2.1) A1.2.2 (inb_of S hj) (H.at (inb_of S hj) hv) (g := mkF m pc Ls (.int j :: .ref a :: st)) rfl rfl (hb k.2.2.2.2.2.1 hd) _ q) g
theorem s_aaload (k : K p l e R s m args below meth c bytes own maxL ret nm T locs cells slots Z h n0) {a : Addr} {kc : ClassId} {ty : FieldType} {z j : Int32} {vs : List Value} {dv v : Value} (hd : decode bytes pc = .ok (.aaload, 1)) (A : Arv Z h a kc ty z vs dv) (hty : ty.isReference = true) (hj : ¬ j < 0 ∧ j < z) (hv : vs.getD j.toNatClampNeg dv = v) (hp : pc + 1 = pc') (g : Go p e below P T (mkF m pc' Ls (v :: st))) : Go p e below P T (mkF m pc Ls (.int j :: .ref a :: st)) := by
  subst hp
  obtain ⟨cl, A1, -, S, N, H, -⟩ := A
  exact Go.to (fun _ q => k.1.aaload k.2.1 (by rw [k.2.2.2.1]; exact A1.1) (State.isArrayOf_alike k.2.2.1.alike A1.2.1) hty A1.2.2 (inb_of S hj) (H.at (inb_of S hj) hv) (g := mkF m pc Ls (.int j :: .ref a :: st)) rfl rfl (hb k.2.2.2.2.2.1 hd) _ q) g
theorem s_lastore (k : K p l e R s m args below meth c bytes own maxL ret nm T locs cells slots Z h n0) {a : Addr} {kc : ClassId} {z j : Int32} {vs : List Value} {dv : Value} {x : Int64} {i : Nat} (hd : decode bytes pc = .ok (.lastore, 1)) (A : Arv Z h a kc .long z vs dv) (hj : ¬ j < 0 ∧ j < z) (hi : j.toNatClampNeg = i) (hl : i < vs.length) (ha : n0 ≤ a) (hp : pc + 1 = pc')
    (g : ∀ T' h' L', K p l e R s m args below meth c bytes own maxL ret nm T' L' cells slots Z h' n0 → Wr h h' a i (.long x) → Arv Z h' a kc .long z (vs.set i (.long x)) dv → Go p e below P T' (mkF m pc' Ls st)) : Go p e below P T (mkF m pc Ls (.long x :: .int j :: .ref a :: st)) := by
  subst hp hi
  obtain ⟨cl, A1, q1, S, N, H, Gf⟩ := A
  obtain ⟨T', h', X', e', W, q⟩ := stJ k.1 k.2.1 k.2.2.1 k.2.2.2.1 A1 (inb_of S hj) (g := mkF m pc Ls (.long x :: .int j :: .ref a :: st)) rfl rfl (hb k.2.2.2.2.2.1 hd)
  exact Go.to q (g T' h' _ (k_hp k X' e' (Fr.snoc X' k.2.2.2.2.1 ha)) W (Arv.set A1 q1 S N H Gf rfl W _ rfl hl))
theorem s_iastore (k : K p l e R s m args below meth c bytes own maxL ret nm T locs cells slots Z h n0) {a : Addr} {kc : ClassId} {z j : Int32} {vs : List Value} {dv : Value} {x : Int32} {i : Nat} (hd : decode bytes pc = .ok (.iastore, 1)) (A : Arv Z h a kc .int z vs dv) (hj : ¬ j < 0 ∧ j < z) (hi : j.toNatClampNeg = i) (hl : i < vs.length) (ha : n0 ≤ a) (hp : pc + 1 = pc')
    (g : ∀ T' h' L', K p l e R s m args below meth c bytes own maxL ret nm T' L' cells slots Z h' n0 → Wr h h' a i (.int x) → Arv Z h' a kc .int z (vs.set i (.int x)) dv → Go p e below P T' (mkF m pc' Ls st)) : Go p e below P T (mkF m pc Ls (.int x :: .int j :: .ref a :: st)) := by
  subst hp hi
  obtain ⟨cl, A1, q1, S, N, H, Gf⟩ := A
  obtain ⟨T', h', X', e', W, q⟩ := stI k.1 k.2.1 k.2.2.1 k.2.2.2.1 A1 (inb_of S hj) (g := mkF m pc Ls (.int x :: .int j :: .ref a :: st)) rfl rfl (hb k.2.2.2.2.2.1 hd)
  exact Go.to q (g T' h' _ (k_hp k X' e' (Fr.snoc X' k.2.2.2.2.1 ha)) W (Arv.set A1 q1 S N H Gf rfl W _ rfl hl))
theorem s_bastore0 (k : K p l e R s m args below meth c bytes own maxL ret nm T locs cells slots Z h n0) {a : Addr} {kc : ClassId} {z j : Int32} {vs : List Value} {dv : Value} {x : Int32} {i : Nat} (hd : decode bytes pc = .ok (.bastore, 1)) (A : Arv Z h a kc .byte z vs dv) (hj : ¬ j < 0 ∧ j < z) (hi : j.toNatClampNeg = i) (hl : i < vs.length) (ha : n0 ≤ a) (hp : pc + 1 = pc')
    (g : ∀ T' h' L', K p l e R s m args below meth c bytes own maxL ret nm T' L' cells slots Z h' n0 → Wr h h' a i (.int x.toInt8.toInt32) → Arv Z h' a kc .byte z (vs.set i (.int x.toInt8.toInt32)) dv → Go p e below P T' (mkF m pc' Ls st)) : Go p e below P T (mkF m pc Ls (.int x :: .int j :: .ref a :: st)) := by
  subst hp hi
  obtain ⟨cl, A1, q1, S, N, H, Gf⟩ := A
  obtain ⟨T', h', X', e', W, q⟩ := stB k.1 k.2.1 k.2.2.1 k.2.2.2.1 A1 (inb_of S hj) (g := mkF m pc Ls (.int x :: .int j :: .ref a :: st)) rfl rfl (hb k.2.2.2.2.2.1 hd)
  exact Go.to q (g T' h' _ (k_hp k X' e' (Fr.snoc X' k.2.2.2.2.1 ha)) W (Arv.set A1 q1 S N H Gf (fits_nar_byte x) W _ rfl hl))
theorem s_bastore (k : K p l e R s m args below meth c bytes own maxL ret nm T locs cells slots Z h n0) {a : Addr} {kc : ClassId} {z j : Int32} {vs : List Value} {dv : Value} {x y : Int32} {i : Nat} (hd : decode bytes pc = .ok (.bastore, 1)) (A : Arv Z h a kc .byte z vs dv) (hj : ¬ j < 0 ∧ j < z) (hi : j.toNatClampNeg = i) (hl : i < vs.length) (hy : x.toInt8.toInt32 = y) (ha : n0 ≤ a) (hp : pc + 1 = pc')
    (g : ∀ T' h' L', K p l e R s m args below meth c bytes own maxL ret nm T' L' cells slots Z h' n0 → Wr h h' a i (.int y) → Arv Z h' a kc .byte z (vs.set i (.int y)) dv → Go p e below P T' (mkF m pc' Ls st)) : Go p e below P T (mkF m pc Ls (.int x :: .int j :: .ref a :: st)) := by
  subst hy
  exact s_bastore0 k hd A hj hi hl ha hp g
theorem s_aastore (k : K p l e R s m args below meth c bytes own maxL ret nm T locs cells slots Z h n0) {a : Addr} {kc : ClassId} {C : String} {z j : Int32} {vs : List Value} {dv v : Value} {i : Nat} (hd : decode bytes pc = .ok (.aastore, 1)) (A : Arv Z h a kc (.object C) z vs dv) (hj : ¬ j < 0 ∧ j < z) (hi : j.toNatClampNeg = i) (hl : i < vs.length) (O : Ovr Z kc C) (I : v = .null ∨ ∃ y, v = .ref y ∧ Ins Z h y C true) (ha : n0 ≤ a) (hp : pc + 1 = pc')
    (g : ∀ T' h' L', K p l e R s m args below meth c bytes own maxL ret nm T' L' cells slots Z h' n0 → Wr h h' a i v → Arv Z h' a kc (.object C) z (vs.set i v) dv → Go p e below P T' (mkF m pc' Ls st)) : Go p e below P T (mkF m pc Ls (v :: .int j :: .ref a :: st)) := by
  subst hp hi
  obtain ⟨cl, A1, q1, S, N, H, Gf⟩ := A
  have hs : Sto Z h a v := by
    rcases I with rfl | ⟨y, rfl, I⟩
    · exact Or.inl rfl
    · exact Sto.ofV A1 q1 O I
  have hfv : fits (.object C) v = true := by
    rcases I with rfl | ⟨y, rfl, I⟩ <;> rfl
  obtain ⟨T', h', X', e', W, q⟩ := stR k.1 k.2.1 k.2.2.1 k.2.2.2.1 A1 (inb_of S hj) rfl hs (g := mkF m pc Ls (v :: .int j :: .ref a :: st)) rfl rfl (hb k.2.2.2.2.2.1 hd)
  exact Go.to q (g T' h' _ (k_hp k X' e' (Fr.snoc X' k.2.2.2.2.1 ha)) W (Arv.set A1 q1 S N H Gf hfv W _ rfl hl))
theorem s_cast (k : K p l e R s m args below meth c bytes own maxL ret nm T locs cells slots Z h n0) {C : String} {index : Nat} {a : Addr} (hd : decode bytes pc = .ok (.checkcast index, 3)) (w : (Cond.classLink own index C).before a0 Z = true) (I : Ins Z h a C true) (hp : pc + 3 = pc')
    (g : ∀ T', K p l e R s m args below meth c bytes own maxL ret nm T' locs cells slots Z h n0 → Go p e below P T' (mkF m pc' Ls (.ref a :: st))) : Go p e below P T (mkF m pc Ls (.ref a :: st)) := by
  subst hp
  obtain ⟨T', X', e', q⟩ := castY k.1 k.2.1 k.2.2.1 k.2.2.2.2.2.2.1 w k.2.2.2.1 I (g := mkF m pc Ls (.ref a :: st)) rfl rfl (hb k.2.2.2.2.2.1 hd)
  exact Go.to q (g T' (k_hp k X' e' k.2.2.2.2.1))
theorem s_castNull (k : K p l e R s m args below meth c bytes own maxL ret nm T locs cells slots Z h n0) {index : Nat} (hd : decode bytes pc = .ok (.checkcast index, 3)) (hp : pc + 3 = pc') (g : Go p e below P T (mkF m pc' Ls (.null :: st))) : Go p e below P T (mkF m pc Ls (.null :: st)) := by
  subst hp
  exact Go.to (k.1.checkcastNull k.2.1 (g := mkF m pc Ls (.null :: st)) rfl rfl (hb k.2.2.2.2.2.1 hd)) g
theorem s_instY (k : K p l e R s m args below meth c bytes own maxL ret nm T locs cells slots Z h n0) {C : String} {index : Nat} {a : Addr} (hd : decode bytes pc = .ok (.instanceof index, 3)) (w : (Cond.classLink own index C).before a0 Z = true) (I : Ins Z h a C true) (hp : pc + 3 = pc')
    (g : ∀ T', K p l e R s m args below meth c bytes own maxL ret nm T' locs cells slots Z h n0 → Go p e below P T' (mkF m pc' Ls (.int 1 :: st))) : Go p e below P T (mkF m pc Ls (.ref a :: st)) := by
  subst hp
  obtain ⟨T', X', e', q⟩ := instY k.1 k.2.1 k.2.2.1 k.2.2.2.2.2.2.1 w k.2.2.2.1 I (g := mkF m pc Ls (.ref a :: st)) rfl rfl (hb k.2.2.2.2.2.1 hd)
  exact Go.to q (g T' (k_hp k X' e' k.2.2.2.2.1))
/-- the returns -/
theorem s_retV (k : K p l e R s m args below meth c bytes own maxL ret nm T locs cells slots Z h n0) {w : Value} {t : FieldType} {i : Instr} (hd : decode bytes pc = .ok (i, 1)) (hr : ret = some t) (hn : narrow t w = w)
    (hi : (i = .ireturn ∧ (t = .int ∨ t = .boolean ∨ t = .byte ∨ t = .char ∨ t = .short) ∧ ∃ z, w = .int z) ∨ (i = .lreturn ∧ t = .long ∧ ∃ z, w = .long z) ∨ (i = .dreturn ∧ t = .double ∧ ∃ z, w = .double z) ∨ (i = .freturn ∧ t = .float ∧ ∃ z, w = .float z) ∨ (i = .areturn ∧ t.isReference = true ∧ w.isRef = true))
    (hP : Pay s Q n0 cc ss P) (hc : cells ≤ cc) (hs : slots ≤ ss) (q : Q (some w) h) : Go p e below P T (mkF m pc Ls (w :: st)) := by
  obtain ⟨fs, hr', hrun, hended, hW, hsame⟩ := k.1.leave (v := some w) (fun z => by rw [k.2.2.2.2.2.2.2.2.1, hr] at z; cases z) k.2.2.2.2.2.2.2.2.2.2
  exact ⟨_, _, retOut k.1 k.2.1 (k.2.2.2.2.2.2.2.2.1.trans hr) hn hi (hb k.2.2.2.2.2.1 hd) hr', hrun, hended, hP _ _ _ _ q (show T.heap = h from k.2.2.2.1) k.2.2.2.2.1 ⟨⟨_, rfl⟩, hW, hsame.mono hc hs⟩⟩
theorem s_retI (k : K p l e R s m args below meth c bytes own maxL ret nm T locs cells slots Z h n0) {z : Int32} (hd : decode bytes pc = .ok (.ireturn, 1)) (hr : ret = some .int) (hP : Pay s Q n0 cc ss P) (hc : cells ≤ cc) (hs : slots ≤ ss) (q : Q (some (.int z)) h) : Go p e below P T (mkF m pc Ls (.int z :: st)) :=
  s_retV k hd hr rfl (Or.inl ⟨rfl, Or.inl rfl, z, rfl⟩) hP hc hs q
theorem s_retL (k : K p l e R s m args below meth c bytes own maxL ret nm T locs cells slots Z h n0) {z : Int64} (hd : decode bytes pc = .ok (.lreturn, 1)) (hr : ret = some .long) (hP : Pay s Q n0 cc ss P) (hc : cells ≤ cc) (hs : slots ≤ ss) (q : Q (some (.long z)) h) : Go p e below P T (mkF m pc Ls (.long z :: st)) :=
  s_retV k hd hr rfl (Or.inr (Or.inl ⟨rfl, rfl, z, rfl⟩)) hP hc hs q
theorem s_retA (k : K p l e R s m args below meth c bytes own maxL ret nm T locs cells slots Z h n0) {w : Value} {t : FieldType} (hd : decode bytes pc = .ok (.areturn, 1)) (hr : ret = some t) (ht : t.isReference = true) (hw : w.isRef = true) (hP : Pay s Q n0 cc ss P) (hc : cells ≤ cc) (hs : slots ≤ ss) (q : Q (some w) h) : Go p e below P T (mkF m pc Ls (w :: st)) :=
  s_retV k hd hr (by cases t <;> simp [FieldType.isReference] at ht <;> rfl) (Or.inr (Or.inr (Or.inr (Or.inr ⟨rfl, ht, hw⟩)))) hP hc hs q
theorem s_retZ (k : K p l e R s m args below meth c bytes own maxL ret nm T locs cells slots Z h n0) {z : Int32} (hd : decode bytes pc = .ok (.ireturn, 1)) (hr : ret = some .boolean) (hz : z &&& 1 = z) (hP : Pay s Q n0 cc ss P) (hc : cells ≤ cc) (hs : slots ≤ ss) (q : Q (some (.int z)) h) : Go p e below P T (mkF m pc Ls (.int z :: st)) :=
  s_retV k hd hr (show Value.int (z &&& 1) = .int z by rw [hz]) (Or.inl ⟨rfl, Or.inr (Or.inl rfl), z, rfl⟩) hP hc hs q
theorem s_ret (k : K p l e R s m args below meth c bytes own maxL ret nm T locs cells slots Z h n0) (hd : decode bytes pc = .ok (.return_, 1)) (hr : ret = none) (hP : Pay s Q n0 cc ss P) (hc : cells ≤ cc) (hs : slots ≤ ss) (q : Q none h) : Go p e below P T (mkF m pc Ls []) := by
  obtain ⟨fs, hr', hrun, hended, hW, hsame⟩ := k.1.leave (v := none) (fun _ => rfl) k.2.2.2.2.2.2.2.2.2.2
  exact ⟨_, _, k.1.returnOut k.2.1 (k.2.2.2.2.2.2.2.2.1.trans hr) (hb k.2.2.2.2.2.1 hd) hr', hrun, hended, hP _ _ _ _ q (show T.heap = h from k.2.2.2.1) k.2.2.2.2.1 ⟨⟨_, rfl⟩, hW, hsame.mono hc hs⟩⟩
end Own

/-- a method's contract at one array of arguments and one heap -/
def Met (l : Launch) (Z : State) (y : MethodName) (bytes : ByteArray) (maxL : Nat) (ret : Option FieldType) (rm : Room) (n0 : Nat) (as' : Array Value) (h : Heap) (Q : Option Value → Heap → Prop) : Prop :=
  ∀ ws : List Jvm.Cond, MetFree l y (head1 (Jvm.Cond.code y bytes maxL ret :: ws) rm) (fun a U => a = as' ∧ Z.Warmed39 U.vm ∧ U.heap = h) (fun _ _ _ _ _ => True) (fun _ U o U' => ∃ v L, o = .returned v ∧ (Q v U'.heap ∧ Fr n0 L) ∧ FrameEnd U o U' L rm.cells rm.slots)
theorem Met.of {l : Launch} {Z : State} {y : MethodName} {bytes : ByteArray} {maxL : Nat} {ret : Option FieldType} {rm : Room} {n0 : Nat} {as' : Array Value} {h : Heap} {Q : Option Value → Heap → Prop} {Ls : Array Slot} (hpl : plainFor y = true) (hef : ∀ m, entryFrame m as' maxL = mkF m 0 Ls [])
    (body : ∀ p e s m below meth c T P, Pay s Q n0 rm.cells rm.slots P → K p l e rm s m as' below meth c bytes y.cls maxL ret y.name T [] 0 0 Z h n0 → Go p e below P T (mkF m 0 Ls [])) : Met l Z y bytes maxL ret rm n0 as' h Q := by
  intro ws
  refine MetFree.of_bodySF hpl hisR ?_
  intro p e s m args below meth c s₁ Bd hml0 hP hK
  obtain ⟨rfl, hZ, hh⟩ := hP
  have X0 : Stand p l e rm s m args below meth c s₁ [] 0 0 := Stand.of_body Bd
  rw [hef m]
  exact body p e s m below meth c s₁ _ (fun v h L s₂ q1 q2 q3 q4 => ⟨v, L, rfl, ⟨q2.symm ▸ q1, q3⟩, q4⟩) ⟨X0, Bd.exec, hZ, by rw [← hh, Bd.state]; rfl, Fr.nil n0, Bd.bytes, findClass_of_methodNamed Bd.named, hml0, Bd.returns, (name_of_methodNamed Bd.named Bd.method).1, BodyLoose.notSynchronized Bd⟩
/-- the model's own selection picks a private method itself (lines of the worked claim gauge-weight, turned) -/
theorem sel_priv {y : MethodName} {s : State} {args : Array Value} {n : Nat} (hy : y.cls ≠ "java/lang/invoke/MethodHandle" ∧ y.cls ≠ "java/lang/invoke/VarHandle") (hins : (Cond.instantiable y.cls n).before args s = true) (hpriv : (Cond.privateMethod y).before args s = true) (hinst : (Cond.instanceMethod y).before args s = true) : (Cond.selects y.cls y y).before args s = true := by
  obtain ⟨c, k, hc, hk, -, hniab, -, -⟩ := Cond.instantiable_spec hins
  have hni : k.isInterface = false := (Bool.or_eq_false_iff.mp hniab).1
  obtain ⟨mk, methM, hnamed, hmethM, -, -⟩ := Cond.instanceMethod_spec hinst
  have hfound : s.methodFound? y.cls y.name y.desc = some mk := State.methodFound?_of_named hnamed hy
  have hcls : mk.cls = c := Option.some.inj ((findClass_of_methodNamed hnamed).symm.trans hc)
  have hsel : selectMethod {} s.vm c mk = .method mk := selectMethod_private hmethM (Cond.privateMethod_at hpriv mk methM hnamed hmethM)
  simp only [Cond.before, Cond.holds, Cond.value, hc, hfound, hnamed, hsel, hcls, hk]
  simp; exact hni
section Calls
variable {p : Program} {l : Launch} {e : Env} {R : Room} {s : State} {m : MethodId} {args : Array Value} {below : List Frame} {meth : Method} {c : Code} {bytes : ByteArray} {own : String} {maxL : Nat} {ret : Option FieldType} {nm : String} {T : State} {locs : List Loc} {cells slots : Nat} {Z : State} {h : Heap} {n0 : Nat} {Q : Option Value → Heap → Prop} {P : State → Outcome → Prop} {cc ss : Nat} {a0 : Array Value} {Ls : Array Slot} {st rest : List Value} {pc pc' : Nat}
theorem wsum (W : Nat) (st : List Value) (hW : (st.map fun v => v.category).sum ≤ W) : 2 * 0 + (st.map fun v => v.category).sum ≤ W := by omega
/-- a static call -/
theorem s_callS (k : K p l e R s m args below meth c bytes own maxL ret nm T locs cells slots Z h n0) {index : Nat} {y : MethodName} {yb : ByteArray} {ym : Nat} {yr : Option FieldType} {rm : Room} {Qy : Option Value → Heap → Prop} {ps : List FieldType} (argsL : List Value) (W : Nat) (hd : decode bytes pc = .ok (.invokestatic index, 3)) (w1 : (Cond.methodLink own index y).before a0 Z = true) (w2 : (Cond.static y).before a0 Z = true) (w3 : (Cond.initialized y.cls).before a0 Z = true) (w4 : (Cond.code y yb ym yr).before a0 Z = true)
    (hy : y.cls ≠ "java/lang/invoke/MethodHandle" ∧ y.cls ≠ "java/lang/invoke/VarHandle") (M : Met l Z y yb ym yr rm n0 argsL.toArray h Qy) (hf : rm.frames + 1 ≤ R.frames) (hl : W + (ym + 11) + rm.locals ≤ R.locals) (hpd : parseMethodDescriptor y.desc = some ⟨ps, yr⟩) (hlen : argsL.length = ps.length) (hW : (st.map fun v => v.category).sum ≤ W) (hsz : Ls.size = maxL) (hc : cells + rm.cells ≤ R.cells) (hs : slots + rm.slots ≤ R.slots) (hst : rest = argsL.reverse ++ st) (hp : pc + 3 = pc')
    (g : ∀ v T' h' L', K p l e R s m args below meth c bytes own maxL ret nm T' L' (cells + rm.cells) (slots + rm.slots) Z h' n0 → Qy v h' → Go p e below P T' (mkF m pc' Ls (v.toList ++ st))) : Go p e below P T (mkF m pc Ls rest) := by
  subst hp hst
  obtain ⟨v, vm1, ⟨T', L', k', n'⟩, -, X', ⟨L, hQ, l1, l2, l3⟩, q⟩ := Jvm.LawKit.callS k.1 k.2.1 k.2.2.2.2.2.2.1 (mvT k.2.2.1 w1) (mvT k.2.2.1 w2) (mvT k.2.2.1 w3) (mvT k.2.2.1 w4) hy (backOf (W := W) (Q := fun v h L => Qy v h ∧ Fr n0 L) (M []) k.2.2.1 w4 w3 hf hl) (g := mkF m pc Ls (argsL.reverse ++ st)) rfl (hsz.trans k.2.2.2.2.2.2.2.1.symm) (argsL := argsL) (rest := st) (lenOf hpd hlen) rfl (wsum W st hW) (hb k.2.2.2.2.2.1 hd) (fun _ _ => ⟨rfl, k.2.2.2.1, hc, hs⟩)
  dsimp only [Pt.U, Pt.locs, Pt.cells, Pt.slots] at X' l1 l2 l3 q hQ
  subst l1 l2 l3
  exact Go.to q (g v T' _ _ (k_hp k X' rfl (Fr.app k.2.2.2.2.1 hQ.2)) hQ.1)
/-- a constructor -/
theorem s_callI (k : K p l e R s m args below meth c bytes own maxL ret nm T locs cells slots Z h n0) {index : Nat} {y : MethodName} {yb : ByteArray} {ym : Nat} {rm : Room} {Qy : Option Value → Heap → Prop} {ps : List FieldType} {a : Addr} (argsL : List Value) (W : Nat) (hd : decode bytes pc = .ok (.invokespecial index, 3)) (hy1 : y.name = "<init>") (w1 : (Cond.methodLink own index y).before a0 Z = true) (w2 : (Cond.instanceMethod y).before a0 Z = true) (w3 : (Cond.initialized y.cls).before a0 Z = true) (w4 : (Cond.code y yb ym none).before a0 Z = true)
    (hy : y.cls ≠ "java/lang/invoke/MethodHandle" ∧ y.cls ≠ "java/lang/invoke/VarHandle") (M : Met l Z y yb ym none rm n0 (.ref a :: argsL).toArray h Qy) (hf : rm.frames + 1 ≤ R.frames) (hl : W + (ym + 11) + rm.locals ≤ R.locals) (hpd : parseMethodDescriptor y.desc = some ⟨ps, none⟩) (hlen : argsL.length = ps.length) (hW : (st.map fun v => v.category).sum ≤ W) (hsz : Ls.size = maxL) (hc : cells + rm.cells ≤ R.cells) (hs : slots + rm.slots ≤ R.slots) (hst : rest = argsL.reverse ++ .ref a :: st) (hp : pc + 3 = pc')
    (g : ∀ v T' h' L', K p l e R s m args below meth c bytes own maxL ret nm T' L' (cells + rm.cells) (slots + rm.slots) Z h' n0 → Qy v h' → Go p e below P T' (mkF m pc' Ls (v.toList ++ st))) : Go p e below P T (mkF m pc Ls rest) := by
  subst hp hst
  obtain ⟨v, vm1, ⟨T', L', k', n'⟩, -, X', ⟨L, hQ, l1, l2, l3⟩, q⟩ := k.1.specialBack k.2.1 hy1 k.2.2.2.2.2.2.1 (mvT k.2.2.1 w1) (mvT k.2.2.1 w2) (mvT k.2.2.1 w4) hy (backOf (W := W) (Q := fun v h L => Qy v h ∧ Fr n0 L) (M []) k.2.2.1 w4 w3 hf hl) (g := mkF m pc Ls (argsL.reverse ++ .ref a :: st)) rfl (hsz.trans k.2.2.2.2.2.2.2.1.symm) (Steps.refl _) (a := a) (argsL := argsL) (rest := st) (lenOf hpd hlen) rfl (wsum W st hW) (hb k.2.2.2.2.2.1 hd) (fun _ _ => ⟨rfl, k.2.2.2.1, hc, hs⟩)
  dsimp only [Pt.U, Pt.locs, Pt.cells, Pt.slots] at X' l1 l2 l3 q hQ
  subst l1 l2 l3
  exact Go.tr q (g v T' _ _ (k_hp k X' rfl (Fr.app k.2.2.2.2.1 hQ.2)) hQ.1)
/-- an instance method -/
theorem s_callV (k : K p l e R s m args below meth c bytes own maxL ret nm T locs cells slots Z h n0) {index : Nat} {C : String} {y : MethodName} {yb : ByteArray} {ym : Nat} {yr : Option FieldType} {rm : Room} {Qy : Option Value → Heap → Prop} {ps : List FieldType} {a : Addr} (argsL : List Value) (W : Nat) (hd : decode bytes pc = .ok (.invokevirtual index, 3)) (w1 : (Cond.methodLink own index y).before a0 Z = true) (w2 : (Cond.declares y).before a0 Z = true) (w5 : (Cond.selects C y y).before a0 Z = true) (w6 : (Cond.instanceMethod y).before a0 Z = true) (w3 : (Cond.initialized y.cls).before a0 Z = true) (w4 : (Cond.code y yb ym yr).before a0 Z = true)
    (hy : y.cls ≠ "java/lang/invoke/MethodHandle" ∧ y.cls ≠ "java/lang/invoke/VarHandle") (E : Exa Z h a C) (M : Met l Z y yb ym yr rm n0 (.ref a :: argsL).toArray h Qy) (hf : rm.frames + 1 ≤ R.frames) (hl : W + (ym + 11) + rm.locals ≤ R.locals) (hpd : parseMethodDescriptor y.desc = some ⟨ps, yr⟩) (hlen : argsL.length = ps.length) (hW : (st.map fun v => v.category).sum ≤ W) (hsz : Ls.size = maxL) (hc : cells + rm.cells ≤ R.cells) (hs : slots + rm.slots ≤ R.slots) (hst : rest = argsL.reverse ++ .ref a :: st) (hp : pc + 3 = pc')
    (g : ∀ v T' h' L', K p l e R s m args below meth c bytes own maxL ret nm T' L' (cells + rm.cells) (slots + rm.slots) Z h' n0 → Qy v h' → Go p e below P T' (mkF m pc' Ls (v.toList ++ st))) : Go p e below P T (mkF m pc Ls rest) := by
  subst hp hst
  obtain ⟨cq, kq, qa, qb, qc⟩ := isOf k.2.2.1 k.2.2.2.1 E
  obtain ⟨v, vm1, ⟨T', L', k', n'⟩, -, X', ⟨L, hQ, l1, l2, l3⟩, q⟩ := k.1.virtualBack k.2.1 (y := y) (z := y) k.2.2.2.2.2.2.1 (mvT k.2.2.1 w1) (mvT k.2.2.1 w2) (notFace_of_selects (args := #[]) (mvT k.2.2.1 w5)) (mvT k.2.2.1 w5) (mvT k.2.2.1 w6) hy (backOf (W := W) (Q := fun v h L => Qy v h ∧ Fr n0 L) (M []) k.2.2.1 w4 w3 hf hl) qa qc (g := mkF m pc Ls (argsL.reverse ++ .ref a :: st)) rfl (hsz.trans k.2.2.2.2.2.2.2.1.symm) (Steps.refl _) (argsL := argsL) (rest := st) (lenOf hpd hlen) rfl (wsum W st hW) (hb k.2.2.2.2.2.1 hd) (fun _ _ => ⟨rfl, k.2.2.2.1, hc, hs⟩)
  dsimp only [Pt.U, Pt.locs, Pt.cells, Pt.slots] at X' l1 l2 l3 q hQ
  subst l1 l2 l3
  exact Go.tr q (g v T' _ _ (k_hp k X' rfl (Fr.app k.2.2.2.2.1 hQ.2)) hQ.1)
/-- a private method, called by invokevirtual -/
theorem s_callP (k : K p l e R s m args below meth c bytes own maxL ret nm T locs cells slots Z h n0) {index : Nat} {y : MethodName} {yb : ByteArray} {ym : Nat} {yr : Option FieldType} {rm : Room} {Qy : Option Value → Heap → Prop} {ps : List FieldType} {a : Addr} (argsL : List Value) (W : Nat) (hd : decode bytes pc = .ok (.invokevirtual index, 3)) (w1 : (Cond.methodLink own index y).before a0 Z = true) (w5 : (Cond.selects y.cls y y).before a0 Z = true) (w6 : (Cond.instanceMethod y).before a0 Z = true) (w7 : (Cond.privateMethod y).before a0 Z = true) (w3 : (Cond.initialized y.cls).before a0 Z = true) (w4 : (Cond.code y yb ym yr).before a0 Z = true)
    (hy : y.cls ≠ "java/lang/invoke/MethodHandle" ∧ y.cls ≠ "java/lang/invoke/VarHandle") (E : Exa Z h a y.cls) (M : Met l Z y yb ym yr rm n0 (.ref a :: argsL).toArray h Qy) (hf : rm.frames + 1 ≤ R.frames) (hl : W + (ym + 11) + rm.locals ≤ R.locals) (hpd : parseMethodDescriptor y.desc = some ⟨ps, yr⟩) (hlen : argsL.length = ps.length) (hW : (st.map fun v => v.category).sum ≤ W) (hsz : Ls.size = maxL) (hc : cells + rm.cells ≤ R.cells) (hs : slots + rm.slots ≤ R.slots) (hst : rest = argsL.reverse ++ .ref a :: st) (hp : pc + 3 = pc')
    (g : ∀ v T' h' L', K p l e R s m args below meth c bytes own maxL ret nm T' L' (cells + rm.cells) (slots + rm.slots) Z h' n0 → Qy v h' → Go p e below P T' (mkF m pc' Ls (v.toList ++ st))) : Go p e below P T (mkF m pc Ls rest) := by
  subst hp hst
  obtain ⟨cq, qa, qb⟩ := E.cell
  obtain ⟨v, vm1, ⟨T', L', k', n'⟩, -, X', ⟨L, hQ, l1, l2, l3⟩, q⟩ := k.1.privateBack k.2.1 (y := y) k.2.2.2.2.2.2.1 (mvT k.2.2.1 w1) (mvT k.2.2.1 w6) (mvT k.2.2.1 w5) (Cond.privateMethod_at (mvP k.2.2.1 w7 (args := #[]))) (mvT k.2.2.1 w4) hy (backOf (W := W) (Q := fun v h L => Qy v h ∧ Fr n0 L) (M []) k.2.2.1 w4 w3 hf hl) (g := mkF m pc Ls (argsL.reverse ++ .ref a :: st)) rfl (hsz.trans k.2.2.2.2.2.2.2.1.symm) (Steps.refl _) (a := a) (by rw [k.2.2.2.1]; exact qa) qb (argsL := argsL) (rest := st) (lenOf hpd hlen) rfl (wsum W st hW) (hb k.2.2.2.2.2.1 hd) (fun _ _ => ⟨rfl, k.2.2.2.1, hc, hs⟩)
  dsimp only [Pt.U, Pt.locs, Pt.cells, Pt.slots] at X' l1 l2 l3 q hQ
  subst l1 l2 l3
  exact Go.tr q (g v T' _ _ (k_hp k X' rfl (Fr.app k.2.2.2.2.1 hQ.2)) hQ.1)
end Calls
end Jvm.OwnGo
namespace Jvm.OwnGo
open Sem ClassFile Op Lib Jvm.Stand Jvm.Free Jvm.LawKit Jvm.RoadKit
def upd (f : Nat → Value) (i : Nat) (v : Value) : Nat → Value := fun q => if q = i then v else f q
def updL (f : Nat → Int64) (i : Nat) (v : Int64) : Nat → Int64 := fun q => if q = i then v else f q
def lon (f : Nat → Int64) : Nat → Value := fun q => .long (f q)
theorem upd_same (f : Nat → Value) (i : Nat) (v : Value) : upd f i v i = v := if_pos rfl
theorem lon_upd (f : Nat → Int64) (i : Nat) (v : Int64) : upd (lon f) i (.long v) = lon (updL f i v) := by
  funext q; unfold upd lon updL; split <;> rfl
def Arf (Z : State) (h : Heap) (a : Addr) (k : ClassId) (ty : FieldType) (n : Nat) (f : Nat → Value) : Prop :=
  ∃ c : Cell, Arr Z h a c ty ∧ c.cls = k ∧ c.slots.size = n ∧ ∀ i, i < n → c.slots[i]? = some (f i)
section Own2
variable {p : Program} {l : Launch} {e : Env} {R : Room} {s : State} {m : MethodId} {args : Array Value} {below : List Frame} {meth : Method} {c : Code} {bytes : ByteArray} {own : String} {maxL : Nat} {ret : Option FieldType} {nm : String} {T : State} {locs : List Loc} {cells slots : Nat} {Z : State} {h h' : Heap} {n0 : Nat} {P : State → Outcome → Prop} {a0 : Array Value} {Ls : Array Slot} {st : List Value} {pc pc' : Nat} {a b : Addr} {kc : ClassId} {ty : FieldType} {n i sl : Nat} {f : Nat → Value} {v : Value} {j : Int32} {ws : List Addr} {C : String}
theorem Arf.lt (F : Arf Z h a kc ty n f) : a < h.size := by obtain ⟨c, A, -⟩ := F; exact A.lt
theorem Arf.ext (F : Arf Z h a kc ty n f) (E : Ext h h') : Arf Z h' a kc ty n f := by obtain ⟨c, A, r⟩ := F; exact ⟨c, A.ext E, r⟩
theorem Arf.other (F : Arf Z h b kc ty n f) (W : Wr h h' a sl v) (q : b ≠ a) : Arf Z h' b kc ty n f := by obtain ⟨c, A, r⟩ := F; exact ⟨c, A.other W q, r⟩
theorem Arf.keep (F : Arf Z h a kc ty n f) (K : Keep h h' ws) (q : a ∉ ws) : Arf Z h' a kc ty n f := by obtain ⟨c, A, r⟩ := F; exact ⟨c, ⟨K.2.1 a c A.1 q, A.2⟩, r⟩
theorem Arf.of {z : Int32} {dv : Value} (F : Arv Z h a kc ty z [] dv) (q : z.toNatClampNeg = n) : Arf Z h a kc ty n (fun _ => dv) := by
  obtain ⟨c, A, r1, r2, r3, H, -⟩ := F
  refine ⟨c, A, r1, r2.trans q, fun i hi => ?_⟩
  have := H i (by rw [r2, q]; exact hi)
  simpa using this
theorem Arf.ofV {z : Int32} {dv : Value} {vs : List Value} (F : Arv Z h a kc ty z vs dv) (q : z.toNatClampNeg = n) (hv : ∀ i, i < n → vs.getD i dv = f i) : Arf Z h a kc ty n f := by
  obtain ⟨c, A, r1, r2, r3, H, -⟩ := F
  exact ⟨c, A, r1, r2.trans q, fun i hi => (H i (by rw [r2, q]; exact hi)).trans (by rw [hv i hi])⟩
theorem Arf.set (F : Arf Z h a kc ty n f) (W : Wr h h' a i v) : Arf Z h' a kc ty n (upd f i v) := by
  obtain ⟨c, A, r1, r2, H⟩ := F
  refine ⟨_, A.same W, r1, by rw [sz_set]; exact r2, fun q hq => ?_⟩
  unfold upd
  by_cases e : q = i
  · subst e
    rw [if_pos rfl]
    simp [Cell.setSlot, r2, hq]
  · rw [if_neg e, ← H q hq]
    exact Array.getElem?_setIfInBounds_ne (Ne.symm e)
theorem Arf.inb {cl : Cell} (r2 : cl.slots.size = n) (hj : ¬ j < 0) (hi : j.toNatClampNeg = i) (hn : i < n) : ¬ (j < 0 ∨ cl.slots.size ≤ j.toNatClampNeg) := by
  rintro (q | q)
  · exact hj q
  · rw [r2, hi] at q; omega
theorem s_aaloadF (k : K p l e R s m args below meth c bytes own maxL ret nm T locs cells slots Z h n0) (hd : decode bytes pc = .ok (.aaload, 1)) (A : Arf Z h a kc ty n f) (hty : ty.isReference = true) (hj : ¬ j < 0) (hi : j.toNatClampNeg = i) (hn : i < n) (hv : f i = v) (hp : pc + 1 = pc') (g : Go p e below P T (mkF m pc' Ls (v :: st))) : Go p e below P T (mkF m pc Ls (.int j :: .ref a :: st)) := by
  subst hp hi
  obtain ⟨cl, A1, -, S, H⟩ := A
  exact Go.to (fun _ q => k.1.aaload k.2.1 (by rw [k.2.2.2.1]; exact A1.1) (State.isArrayOf_alike k.2.2.1.alike A1.2.1) hty A1.2.2 (Arf.inb S hj rfl hn) (hv ▸ H _ hn) (g := mkF m pc Ls (.int j :: .ref a :: st)) rfl rfl (hb k.2.2.2.2.2.1 hd) _ q) g
theorem s_laloadF (k : K p l e R s m args below meth c bytes own maxL ret nm T locs cells slots Z h n0) {fl : Nat → Int64} {x : Int64} (hd : decode bytes pc = .ok (.laload, 1)) (A : Arf Z h a kc .long n (lon fl)) (hj : ¬ j < 0) (hi : j.toNatClampNeg = i) (hn : i < n) (hv : fl i = x) (hp : pc + 1 = pc') (g : Go p e below P T (mkF m pc' Ls (.long x :: st))) : Go p e below P T (mkF m pc Ls (.int j :: .ref a :: st)) := by
  subst hp hi hv
  obtain ⟨cl, A1, -, S, H⟩ := A
  exact Go.to (fun _ q => k.1.laload k.2.1 (by rw [k.2.2.2.1]; exact A1.1) (State.isArrayOf_alike k.2.2.1.alike A1.2.1) A1.2.2 (Arf.inb S hj rfl hn) (H _ hn) (g := mkF m pc Ls (.int j :: .ref a :: st)) rfl rfl (hb k.2.2.2.2.2.1 hd) _ q) g
theorem s_aastoreF (k : K p l e R s m args below meth c bytes own maxL ret nm T locs cells slots Z h n0) (hd : decode bytes pc = .ok (.aastore, 1)) (A : Arf Z h a kc (.object C) n f) (hj : ¬ j < 0) (hi : j.toNatClampNeg = i) (hn : i < n) (O : Ovr Z kc C) (I : v = .null ∨ ∃ y, v = .ref y ∧ Ins Z h y C true) (ha : n0 ≤ a) (hp : pc + 1 = pc')
    (g : ∀ T' h' L', K p l e R s m args below meth c bytes own maxL ret nm T' L' cells slots Z h' n0 → Wr h h' a i v → Arf Z h' a kc (.object C) n (upd f i v) → Go p e below P T' (mkF m pc' Ls st)) : Go p e below P T (mkF m pc Ls (v :: .int j :: .ref a :: st)) := by
  subst hp hi
  have A' := A
  obtain ⟨cl, A1, q1, S, H⟩ := A
  have hs : Sto Z h a v := by
    rcases I with rfl | ⟨y, rfl, I⟩
    · exact Or.inl rfl
    · exact Sto.ofV A1 q1 O I
  obtain ⟨T', h', X', e', W, q⟩ := stR k.1 k.2.1 k.2.2.1 k.2.2.2.1 A1 (Arf.inb S hj rfl hn) rfl hs (g := mkF m pc Ls (v :: .int j :: .ref a :: st)) rfl rfl (hb k.2.2.2.2.2.1 hd)
  exact Go.to q (g T' h' _ (k_hp k X' e' (Fr.snoc X' k.2.2.2.2.1 ha)) W (A'.set W))
theorem s_lastoreF (k : K p l e R s m args below meth c bytes own maxL ret nm T locs cells slots Z h n0) {fl : Nat → Int64} {x : Int64} (hd : decode bytes pc = .ok (.lastore, 1)) (A : Arf Z h a kc .long n (lon fl)) (hj : ¬ j < 0) (hi : j.toNatClampNeg = i) (hn : i < n) (ha : n0 ≤ a) (hp : pc + 1 = pc')
    (g : ∀ T' h' L', K p l e R s m args below meth c bytes own maxL ret nm T' L' cells slots Z h' n0 → Wr h h' a i (.long x) → Arf Z h' a kc .long n (lon (updL fl i x)) → Go p e below P T' (mkF m pc' Ls st)) : Go p e below P T (mkF m pc Ls (.long x :: .int j :: .ref a :: st)) := by
  subst hp hi
  have A' := A
  obtain ⟨cl, A1, q1, S, H⟩ := A
  obtain ⟨T', h', X', e', W, q⟩ := stJ k.1 k.2.1 k.2.2.1 k.2.2.2.1 A1 (Arf.inb S hj rfl hn) (g := mkF m pc Ls (.long x :: .int j :: .ref a :: st)) rfl rfl (hb k.2.2.2.2.2.1 hd)
  exact Go.to q (g T' h' _ (k_hp k X' e' (Fr.snoc X' k.2.2.2.2.1 ha)) W (lon_upd fl _ x ▸ A'.set W))
theorem Met.mono {l : Launch} {Z : State} {y : MethodName} {bytes : ByteArray} {maxL : Nat} {ret : Option FieldType} {rm : Room} {n0 : Nat} {as' : Array Value} {h : Heap} {Q Q' : Option Value → Heap → Prop} (M : Met l Z y bytes maxL ret rm n0 as' h Q) (q : ∀ v h, Q v h → Q' v h) : Met l Z y bytes maxL ret rm n0 as' h Q' := by
  intro ws p e ha hc hk s m args below hf happ hP hK
  obtain ⟨n, o, h1, h2, h3, v, L, h4, ⟨h5, h6⟩, h7⟩ := M ws p e ha hc hk s m args below hf happ hP hK
  exact ⟨n, o, h1, h2, h3, v, L, h4, ⟨q _ _ h5, h6⟩, h7⟩
end Own2
end Jvm.OwnGo
namespace Jvm.Pilot.@@N@@
open Jvm Jvm.ClassFile Sem Op Lib Jvm.Free Jvm.Stand Jvm.LawKit Jvm.RoadKit Bundle Jvm.OwnGo Jvm.Pilot.@@N@@.Jvm.D
theorem d7_0 : decode jdk_33_method_47_code 0 = .ok (.iload_n 0, 1) := by decide +kernel
theorem d7_1 : decode jdk_33_method_47_code 1 = .ok (.ifCond .gt 14, 3) := by decide +kernel
theorem d7_4 : decode jdk_33_method_47_code 4 = .ok (.iload_n 0, 1) := by decide +kernel
theorem d7_5 : decode jdk_33_method_47_code 5 = .ok (.ifCond .ne 8, 3) := by decide +kernel
theorem d7_8 : decode jdk_33_method_47_code 8 = .ok (.bipush 32, 2) := by decide +kernel
theorem d7_10 : decode jdk_33_method_47_code 10 = .ok (.goto 4, 3) := by decide +kernel
theorem d7_13 : decode jdk_33_method_47_code 13 = .ok (.iconst 0, 1) := by decide +kernel
theorem d7_14 : decode jdk_33_method_47_code 14 = .ok (.ireturn, 1) := by decide +kernel
theorem d7_15 : decode jdk_33_method_47_code 15 = .ok (.bipush 31, 2) := by decide +kernel
theorem d7_17 : decode jdk_33_method_47_code 17 = .ok (.istore_n 1, 1) := by decide +kernel
theorem d7_18 : decode jdk_33_method_47_code 18 = .ok (.iload_n 0, 1) := by decide +kernel
theorem d7_19 : decode jdk_33_method_47_code 19 = .ok (.ldc_w 264, 3) := by decide +kernel
theorem d7_22 : decode jdk_33_method_47_code 22 = .ok (.if_icmp .lt 11, 3) := by decide +kernel
theorem d7_25 : decode jdk_33_method_47_code 25 = .ok (.iinc 1 (-16), 3) := by decide +kernel
theorem d7_28 : decode jdk_33_method_47_code 28 = .ok (.iload_n 0, 1) := by decide +kernel
theorem d7_29 : decode jdk_33_method_47_code 29 = .ok (.bipush 16, 2) := by decide +kernel
theorem d7_31 : decode jdk_33_method_47_code 31 = .ok (.iushr, 1) := by decide +kernel
theorem d7_32 : decode jdk_33_method_47_code 32 = .ok (.istore_n 0, 1) := by decide +kernel
theorem d7_33 : decode jdk_33_method_47_code 33 = .ok (.iload_n 0, 1) := by decide +kernel
theorem d7_34 : decode jdk_33_method_47_code 34 = .ok (.sipush 256, 3) := by decide +kernel
theorem d7_37 : decode jdk_33_method_47_code 37 = .ok (.if_icmp .lt 11, 3) := by decide +kernel
theorem d7_40 : decode jdk_33_method_47_code 40 = .ok (.iinc 1 (-8), 3) := by decide +kernel
theorem d7_43 : decode jdk_33_method_47_code 43 = .ok (.iload_n 0, 1) := by decide +kernel
theorem d7_44 : decode jdk_33_method_47_code 44 = .ok (.bipush 8, 2) := by decide +kernel
theorem d7_46 : decode jdk_33_method_47_code 46 = .ok (.iushr, 1) := by decide +kernel
theorem d7_47 : decode jdk_33_method_47_code 47 = .ok (.istore_n 0, 1) := by decide +kernel
theorem d7_48 : decode jdk_33_method_47_code 48 = .ok (.iload_n 0, 1) := by decide +kernel
theorem d7_49 : decode jdk_33_method_47_code 49 = .ok (.bipush 16, 2) := by decide +kernel
theorem d7_51 : decode jdk_33_method_47_code 51 = .ok (.if_icmp .lt 10, 3) := by decide +kernel
theorem d7_54 : decode jdk_33_method_47_code 54 = .ok (.iinc 1 (-4), 3) := by decide +kernel
theorem d7_57 : decode jdk_33_method_47_code 57 = .ok (.iload_n 0, 1) := by decide +kernel
theorem d7_58 : decode jdk_33_method_47_code 58 = .ok (.iconst 4, 1) := by decide +kernel
theorem d7_59 : decode jdk_33_method_47_code 59 = .ok (.iushr, 1) := by decide +kernel
theorem d7_60 : decode jdk_33_method_47_code 60 = .ok (.istore_n 0, 1) := by decide +kernel
theorem d7_61 : decode jdk_33_method_47_code 61 = .ok (.iload_n 0, 1) := by decide +kernel
theorem d7_62 : decode jdk_33_method_47_code 62 = .ok (.iconst 4, 1) := by decide +kernel
theorem d7_63 : decode jdk_33_method_47_code 63 = .ok (.if_icmp .lt 10, 3) := by decide +kernel
theorem d7_66 : decode jdk_33_method_47_code 66 = .ok (.iinc 1 (-2), 3) := by decide +kernel
theorem d7_69 : decode jdk_33_method_47_code 69 = .ok (.iload_n 0, 1) := by decide +kernel
theorem d7_70 : decode jdk_33_method_47_code 70 = .ok (.iconst 2, 1) := by decide +kernel
theorem d7_71 : decode jdk_33_method_47_code 71 = .ok (.iushr, 1) := by decide +kernel
theorem d7_72 : decode jdk_33_method_47_code 72 = .ok (.istore_n 0, 1) := by decide +kernel
theorem d7_73 : decode jdk_33_method_47_code 73 = .ok (.iload_n 1, 1) := by decide +kernel
theorem d7_74 : decode jdk_33_method_47_code 74 = .ok (.iload_n 0, 1) := by decide +kernel
theorem d7_75 : decode jdk_33_method_47_code 75 = .ok (.iconst 1, 1) := by decide +kernel
theorem d7_76 : decode jdk_33_method_47_code 76 = .ok (.iushr, 1) := by decide +kernel
theorem d7_77 : decode jdk_33_method_47_code 77 = .ok (.isub, 1) := by decide +kernel
theorem d7_78 : decode jdk_33_method_47_code 78 = .ok (.ireturn, 1) := by decide +kernel
theorem pn_7_rmnz : plainFor (⟨"java/lang/Integer", "numberOfLeadingZeros", "(I)I"⟩ : MethodName) = true := plainFor_of_name (by first | (simp [plainName, overriddenIn]; done) | decide +kernel)
def fnz (p1 : Int32) : Int32 := (if (0 : Int32) < p1 then (if p1 < (65536 : Int32) then (if p1 < (256 : Int32) then (if p1 < (16 : Int32) then (if p1 < (4 : Int32) then ((31 : Int32) - (Jvm.Free.XT.ushr p1 (1 : Int32))) else ((29 : Int32) - (Jvm.Free.XT.ushr (Jvm.Free.XT.ushr p1 (2 : Int32)) (1 : Int32)))) else (if (Jvm.Free.XT.ushr p1 (4 : Int32)) < (4 : Int32) then ((27 : Int32) - (Jvm.Free.XT.ushr (Jvm.Free.XT.ushr p1 (4 : Int32)) (1 : Int32))) else ((25 : Int32) - (Jvm.Free.XT.ushr (Jvm.Free.XT.ushr (Jvm.Free.XT.ushr p1 (4 : Int32)) (2 : Int32)) (1 : Int32))))) else (if (Jvm.Free.XT.ushr p1 (8 : Int32)) < (16 : Int32) then (if (Jvm.Free.XT.ushr p1 (8 : Int32)) < (4 : Int32) then ((23 : Int32) - (Jvm.Free.XT.ushr (Jvm.Free.XT.ushr p1 (8 : Int32)) (1 : Int32))) else ((21 : Int32) - (Jvm.Free.XT.ushr (Jvm.Free.XT.ushr (Jvm.Free.XT.ushr p1 (8 : Int32)) (2 : Int32)) (1 : Int32)))) else (if (Jvm.Free.XT.ushr (Jvm.Free.XT.ushr p1 (8 : Int32)) (4 : Int32)) < (4 : Int32) then ((19 : Int32) - (Jvm.Free.XT.ushr (Jvm.Free.XT.ushr (Jvm.Free.XT.ushr p1 (8 : Int32)) (4 : Int32)) (1 : Int32))) else ((17 : Int32) - (Jvm.Free.XT.ushr (Jvm.Free.XT.ushr (Jvm.Free.XT.ushr (Jvm.Free.XT.ushr p1 (8 : Int32)) (4 : Int32)) (2 : Int32)) (1 : Int32)))))) else (if (Jvm.Free.XT.ushr p1 (16 : Int32)) < (256 : Int32) then (if (Jvm.Free.XT.ushr p1 (16 : Int32)) < (16 : Int32) then (if (Jvm.Free.XT.ushr p1 (16 : Int32)) < (4 : Int32) then ((15 : Int32) - (Jvm.Free.XT.ushr (Jvm.Free.XT.ushr p1 (16 : Int32)) (1 : Int32))) else ((13 : Int32) - (Jvm.Free.XT.ushr (Jvm.Free.XT.ushr (Jvm.Free.XT.ushr p1 (16 : Int32)) (2 : Int32)) (1 : Int32)))) else (if (Jvm.Free.XT.ushr (Jvm.Free.XT.ushr p1 (16 : Int32)) (4 : Int32)) < (4 : Int32) then ((11 : Int32) - (Jvm.Free.XT.ushr (Jvm.Free.XT.ushr (Jvm.Free.XT.ushr p1 (16 : Int32)) (4 : Int32)) (1 : Int32))) else ((9 : Int32) - (Jvm.Free.XT.ushr (Jvm.Free.XT.ushr (Jvm.Free.XT.ushr (Jvm.Free.XT.ushr p1 (16 : Int32)) (4 : Int32)) (2 : Int32)) (1 : Int32))))) else (if (Jvm.Free.XT.ushr (Jvm.Free.XT.ushr p1 (16 : Int32)) (8 : Int32)) < (16 : Int32) then (if (Jvm.Free.XT.ushr (Jvm.Free.XT.ushr p1 (16 : Int32)) (8 : Int32)) < (4 : Int32) then ((7 : Int32) - (Jvm.Free.XT.ushr (Jvm.Free.XT.ushr (Jvm.Free.XT.ushr p1 (16 : Int32)) (8 : Int32)) (1 : Int32))) else ((5 : Int32) - (Jvm.Free.XT.ushr (Jvm.Free.XT.ushr (Jvm.Free.XT.ushr (Jvm.Free.XT.ushr p1 (16 : Int32)) (8 : Int32)) (2 : Int32)) (1 : Int32)))) else (if (Jvm.Free.XT.ushr (Jvm.Free.XT.ushr (Jvm.Free.XT.ushr p1 (16 : Int32)) (8 : Int32)) (4 : Int32)) < (4 : Int32) then ((3 : Int32) - (Jvm.Free.XT.ushr (Jvm.Free.XT.ushr (Jvm.Free.XT.ushr (Jvm.Free.XT.ushr p1 (16 : Int32)) (8 : Int32)) (4 : Int32)) (1 : Int32))) else ((1 : Int32) - (Jvm.Free.XT.ushr (Jvm.Free.XT.ushr (Jvm.Free.XT.ushr (Jvm.Free.XT.ushr (Jvm.Free.XT.ushr p1 (16 : Int32)) (8 : Int32)) (4 : Int32)) (2 : Int32)) (1 : Int32))))))) else (if p1 = (0 : Int32) then (32 : Int32) else (0 : Int32)))
theorem fnz_eq (p1 : Int32) : fnz p1 = (if (0 : Int32) < p1 then (if p1 < (65536 : Int32) then (if p1 < (256 : Int32) then (if p1 < (16 : Int32) then (if p1 < (4 : Int32) then ((31 : Int32) - (Jvm.Free.XT.ushr p1 (1 : Int32))) else ((29 : Int32) - (Jvm.Free.XT.ushr (Jvm.Free.XT.ushr p1 (2 : Int32)) (1 : Int32)))) else (if (Jvm.Free.XT.ushr p1 (4 : Int32)) < (4 : Int32) then ((27 : Int32) - (Jvm.Free.XT.ushr (Jvm.Free.XT.ushr p1 (4 : Int32)) (1 : Int32))) else ((25 : Int32) - (Jvm.Free.XT.ushr (Jvm.Free.XT.ushr (Jvm.Free.XT.ushr p1 (4 : Int32)) (2 : Int32)) (1 : Int32))))) else (if (Jvm.Free.XT.ushr p1 (8 : Int32)) < (16 : Int32) then (if (Jvm.Free.XT.ushr p1 (8 : Int32)) < (4 : Int32) then ((23 : Int32) - (Jvm.Free.XT.ushr (Jvm.Free.XT.ushr p1 (8 : Int32)) (1 : Int32))) else ((21 : Int32) - (Jvm.Free.XT.ushr (Jvm.Free.XT.ushr (Jvm.Free.XT.ushr p1 (8 : Int32)) (2 : Int32)) (1 : Int32)))) else (if (Jvm.Free.XT.ushr (Jvm.Free.XT.ushr p1 (8 : Int32)) (4 : Int32)) < (4 : Int32) then ((19 : Int32) - (Jvm.Free.XT.ushr (Jvm.Free.XT.ushr (Jvm.Free.XT.ushr p1 (8 : Int32)) (4 : Int32)) (1 : Int32))) else ((17 : Int32) - (Jvm.Free.XT.ushr (Jvm.Free.XT.ushr (Jvm.Free.XT.ushr (Jvm.Free.XT.ushr p1 (8 : Int32)) (4 : Int32)) (2 : Int32)) (1 : Int32)))))) else (if (Jvm.Free.XT.ushr p1 (16 : Int32)) < (256 : Int32) then (if (Jvm.Free.XT.ushr p1 (16 : Int32)) < (16 : Int32) then (if (Jvm.Free.XT.ushr p1 (16 : Int32)) < (4 : Int32) then ((15 : Int32) - (Jvm.Free.XT.ushr (Jvm.Free.XT.ushr p1 (16 : Int32)) (1 : Int32))) else ((13 : Int32) - (Jvm.Free.XT.ushr (Jvm.Free.XT.ushr (Jvm.Free.XT.ushr p1 (16 : Int32)) (2 : Int32)) (1 : Int32)))) else (if (Jvm.Free.XT.ushr (Jvm.Free.XT.ushr p1 (16 : Int32)) (4 : Int32)) < (4 : Int32) then ((11 : Int32) - (Jvm.Free.XT.ushr (Jvm.Free.XT.ushr (Jvm.Free.XT.ushr p1 (16 : Int32)) (4 : Int32)) (1 : Int32))) else ((9 : Int32) - (Jvm.Free.XT.ushr (Jvm.Free.XT.ushr (Jvm.Free.XT.ushr (Jvm.Free.XT.ushr p1 (16 : Int32)) (4 : Int32)) (2 : Int32)) (1 : Int32))))) else (if (Jvm.Free.XT.ushr (Jvm.Free.XT.ushr p1 (16 : Int32)) (8 : Int32)) < (16 : Int32) then (if (Jvm.Free.XT.ushr (Jvm.Free.XT.ushr p1 (16 : Int32)) (8 : Int32)) < (4 : Int32) then ((7 : Int32) - (Jvm.Free.XT.ushr (Jvm.Free.XT.ushr (Jvm.Free.XT.ushr p1 (16 : Int32)) (8 : Int32)) (1 : Int32))) else ((5 : Int32) - (Jvm.Free.XT.ushr (Jvm.Free.XT.ushr (Jvm.Free.XT.ushr (Jvm.Free.XT.ushr p1 (16 : Int32)) (8 : Int32)) (2 : Int32)) (1 : Int32)))) else (if (Jvm.Free.XT.ushr (Jvm.Free.XT.ushr (Jvm.Free.XT.ushr p1 (16 : Int32)) (8 : Int32)) (4 : Int32)) < (4 : Int32) then ((3 : Int32) - (Jvm.Free.XT.ushr (Jvm.Free.XT.ushr (Jvm.Free.XT.ushr (Jvm.Free.XT.ushr p1 (16 : Int32)) (8 : Int32)) (4 : Int32)) (1 : Int32))) else ((1 : Int32) - (Jvm.Free.XT.ushr (Jvm.Free.XT.ushr (Jvm.Free.XT.ushr (Jvm.Free.XT.ushr (Jvm.Free.XT.ushr p1 (16 : Int32)) (8 : Int32)) (4 : Int32)) (2 : Int32)) (1 : Int32))))))) else (if p1 = (0 : Int32) then (32 : Int32) else (0 : Int32))) := rfl
theorem ef_rmnz {p1 : Int32} (m : MethodId) : entryFrame m #[.int p1] 2 = mkF m 0 #[.val (.int p1), .unset] [] := by first | (simp [entryFrame, mkF, argsToLocals, Value.category]; done) | rfl
set_option maxRecDepth 65536 in
set_option maxHeartbeats 40000000 in
theorem rmnz (l : Launch) (Z : State) (a0 : Array Value) (hw : ∀ d ∈ tables_1, d.before a0 Z = true) (p1 : Int32) (h0 : Heap) (n0 : Nat) (Z0 : n0 ≤ h0.size)  :
    Met l Z (⟨"java/lang/Integer", "numberOfLeadingZeros", "(I)I"⟩ : MethodName) jdk_33_method_47_code 2 (some .int) ({ frames := 0, cells := 0, slots := 0, locals := 0 } : Room) n0 #[.int p1] h0 (fun v h => v = some (.int (fnz p1)) ∧ h0 = h) := by
  refine Met.of (Ls := #[.val (.int p1), .unset]) pn_7_rmnz (fun m => ef_rmnz m) fun p e s m below meth c T0 P hP k0 => ?_
  refine s_iloadN k0 d7_0 rfl (pc' := 1) rfl ?_
  refine s_if_gt k0 d7_1 (by decide) (pc' := 15) (by decide) (pc3 := 4) rfl (fun hc1 => ?_) (fun hc1 => ?_)
  · refine s_bipush k0 (z := 31) d7_15 (by decide) (pc' := 17) rfl ?_
    refine s_istoreN k0 d7_17 (l' := #[.val (.int p1), .val (.int (31 : Int32))]) rfl (pc' := 18) rfl ?_
    refine s_iloadN k0 d7_18 rfl (pc' := 19) rfl ?_
    refine s_ldcwI k0 d7_19 (hw _ (List.mem_of_getElem? (i := 51) rfl)) (pc' := 22) rfl ?_
    refine s_icmp_lt k0 d7_22 (by decide) (pc' := 33) (by decide) (pc3 := 25) rfl (fun hc22 => ?_) (fun hc22 => ?_)
    · refine s_iloadN k0 d7_33 rfl (pc' := 34) rfl ?_
      refine s_sipush k0 (z := 256) d7_34 (by decide) (pc' := 37) rfl ?_
      refine s_icmp_lt k0 d7_37 (by decide) (pc' := 48) (by decide) (pc3 := 40) rfl (fun hc37 => ?_) (fun hc37 => ?_)
      · refine s_iloadN k0 d7_48 rfl (pc' := 49) rfl ?_
        refine s_bipush k0 (z := 16) d7_49 (by decide) (pc' := 51) rfl ?_
        refine s_icmp_lt k0 d7_51 (by decide) (pc' := 61) (by decide) (pc3 := 54) rfl (fun hc51 => ?_) (fun hc51 => ?_)
        · refine s_iloadN k0 d7_61 rfl (pc' := 62) rfl ?_
          refine s_iconst k0 (z := 4) d7_62 (by decide) (pc' := 63) rfl ?_
          refine s_icmp_lt k0 d7_63 (by decide) (pc' := 73) (by decide) (pc3 := 66) rfl (fun hc63 => ?_) (fun hc63 => ?_)
          · refine s_iloadN k0 d7_73 rfl (pc' := 74) rfl ?_
            refine s_iloadN k0 d7_74 rfl (pc' := 75) rfl ?_
            refine s_iconst k0 (z := 1) d7_75 (by decide) (pc' := 76) rfl ?_
            refine s_iushr k0 d7_76 rfl (pc' := 77) rfl ?_
            refine s_isub k0 d7_77 rfl (pc' := 78) rfl ?_
            exact s_retI k0 d7_78 rfl hP (by decide) (by decide) ⟨by rw [fnz_eq, if_pos hc1, if_pos hc22, if_pos hc37, if_pos hc51, if_pos hc63], rfl⟩
          · refine s_iinc k0 (z := (29 : Int32)) d7_66 rfl (by decide) (l' := #[.val (.int p1), .val (.int (29 : Int32))]) rfl (pc' := 69) rfl ?_
            refine s_iloadN k0 d7_69 rfl (pc' := 70) rfl ?_
            refine s_iconst k0 (z := 2) d7_70 (by decide) (pc' := 71) rfl ?_
            refine s_iushr k0 d7_71 rfl (pc' := 72) rfl ?_
            refine s_istoreN k0 d7_72 (l' := #[.val (.int (Jvm.Free.XT.ushr p1 (2 : Int32))), .val (.int (29 : Int32))]) rfl (pc' := 73) rfl ?_
            refine s_iloadN k0 d7_73 rfl (pc' := 74) rfl ?_
            refine s_iloadN k0 d7_74 rfl (pc' := 75) rfl ?_
            refine s_iconst k0 (z := 1) d7_75 (by decide) (pc' := 76) rfl ?_
            refine s_iushr k0 d7_76 rfl (pc' := 77) rfl ?_
            refine s_isub k0 d7_77 rfl (pc' := 78) rfl ?_
            exact s_retI k0 d7_78 rfl hP (by decide) (by decide) ⟨by rw [fnz_eq, if_pos hc1, if_pos hc22, if_pos hc37, if_pos hc51, if_neg hc63], rfl⟩
        · refine s_iinc k0 (z := (27 : Int32)) d7_54 rfl (by decide) (l' := #[.val (.int p1), .val (.int (27 : Int32))]) rfl (pc' := 57) rfl ?_
          refine s_iloadN k0 d7_57 rfl (pc' := 58) rfl ?_
          refine s_iconst k0 (z := 4) d7_58 (by decide) (pc' := 59) rfl ?_
          refine s_iushr k0 d7_59 rfl (pc' := 60) rfl ?_
          refine s_istoreN k0 d7_60 (l' := #[.val (.int (Jvm.Free.XT.ushr p1 (4 : Int32))), .val (.int (27 : Int32))]) rfl (pc' := 61) rfl ?_
          refine s_iloadN k0 d7_61 rfl (pc' := 62) rfl ?_
          refine s_iconst k0 (z := 4) d7_62 (by decide) (pc' := 63) rfl ?_
          refine s_icmp_lt k0 d7_63 (by decide) (pc' := 73) (by decide) (pc3 := 66) rfl (fun hc63 => ?_) (fun hc63 => ?_)
          · refine s_iloadN k0 d7_73 rfl (pc' := 74) rfl ?_
            refine s_iloadN k0 d7_74 rfl (pc' := 75) rfl ?_
            refine s_iconst k0 (z := 1) d7_75 (by decide) (pc' := 76) rfl ?_
            refine s_iushr k0 d7_76 rfl (pc' := 77) rfl ?_
            refine s_isub k0 d7_77 rfl (pc' := 78) rfl ?_
            exact s_retI k0 d7_78 rfl hP (by decide) (by decide) ⟨by rw [fnz_eq, if_pos hc1, if_pos hc22, if_pos hc37, if_neg hc51, if_pos hc63], rfl⟩
          · refine s_iinc k0 (z := (25 : Int32)) d7_66 rfl (by decide) (l' := #[.val (.int (Jvm.Free.XT.ushr p1 (4 : Int32))), .val (.int (25 : Int32))]) rfl (pc' := 69) rfl ?_
            refine s_iloadN k0 d7_69 rfl (pc' := 70) rfl ?_
            refine s_iconst k0 (z := 2) d7_70 (by decide) (pc' := 71) rfl ?_
            refine s_iushr k0 d7_71 rfl (pc' := 72) rfl ?_
            refine s_istoreN k0 d7_72 (l' := #[.val (.int (Jvm.Free.XT.ushr (Jvm.Free.XT.ushr p1 (4 : Int32)) (2 : Int32))), .val (.int (25 : Int32))]) rfl (pc' := 73) rfl ?_
            refine s_iloadN k0 d7_73 rfl (pc' := 74) rfl ?_
            refine s_iloadN k0 d7_74 rfl (pc' := 75) rfl ?_
            refine s_iconst k0 (z := 1) d7_75 (by decide) (pc' := 76) rfl ?_
            refine s_iushr k0 d7_76 rfl (pc' := 77) rfl ?_
            refine s_isub k0 d7_77 rfl (pc' := 78) rfl ?_
            exact s_retI k0 d7_78 rfl hP (by decide) (by decide) ⟨by rw [fnz_eq, if_pos hc1, if_pos hc22, if_pos hc37, if_neg hc51, if_neg hc63], rfl⟩
      · refine s_iinc k0 (z := (23 : Int32)) d7_40 rfl (by decide) (l' := #[.val (.int p1), .val (.int (23 : Int32))]) rfl (pc' := 43) rfl ?_
        refine s_iloadN k0 d7_43 rfl (pc' := 44) rfl ?_
        refine s_bipush k0 (z := 8) d7_44 (by decide) (pc' := 46) rfl ?_
        refine s_iushr k0 d7_46 rfl (pc' := 47) rfl ?_
        refine s_istoreN k0 d7_47 (l' := #[.val (.int (Jvm.Free.XT.ushr p1 (8 : Int32))), .val (.int (23 : Int32))]) rfl (pc' := 48) rfl ?_
        refine s_iloadN k0 d7_48 rfl (pc' := 49) rfl ?_
        refine s_bipush k0 (z := 16) d7_49 (by decide) (pc' := 51) rfl ?_
        refine s_icmp_lt k0 d7_51 (by decide) (pc' := 61) (by decide) (pc3 := 54) rfl (fun hc51 => ?_) (fun hc51 => ?_)
        · refine s_iloadN k0 d7_61 rfl (pc' := 62) rfl ?_
          refine s_iconst k0 (z := 4) d7_62 (by decide) (pc' := 63) rfl ?_
          refine s_icmp_lt k0 d7_63 (by decide) (pc' := 73) (by decide) (pc3 := 66) rfl (fun hc63 => ?_) (fun hc63 => ?_)
          · refine s_iloadN k0 d7_73 rfl (pc' := 74) rfl ?_
            refine s_iloadN k0 d7_74 rfl (pc' := 75) rfl ?_
            refine s_iconst k0 (z := 1) d7_75 (by decide) (pc' := 76) rfl ?_
            refine s_iushr k0 d7_76 rfl (pc' := 77) rfl ?_
            refine s_isub k0 d7_77 rfl (pc' := 78) rfl ?_
            exact s_retI k0 d7_78 rfl hP (by decide) (by decide) ⟨by rw [fnz_eq, if_pos hc1, if_pos hc22, if_neg hc37, if_pos hc51, if_pos hc63], rfl⟩
          · refine s_iinc k0 (z := (21 : Int32)) d7_66 rfl (by decide) (l' := #[.val (.int (Jvm.Free.XT.ushr p1 (8 : Int32))), .val (.int (21 : Int32))]) rfl (pc' := 69) rfl ?_
            refine s_iloadN k0 d7_69 rfl (pc' := 70) rfl ?_
            refine s_iconst k0 (z := 2) d7_70 (by decide) (pc' := 71) rfl ?_
            refine s_iushr k0 d7_71 rfl (pc' := 72) rfl ?_
            refine s_istoreN k0 d7_72 (l' := #[.val (.int (Jvm.Free.XT.ushr (Jvm.Free.XT.ushr p1 (8 : Int32)) (2 : Int32))), .val (.int (21 : Int32))]) rfl (pc' := 73) rfl ?_
            refine s_iloadN k0 d7_73 rfl (pc' := 74) rfl ?_
            refine s_iloadN k0 d7_74 rfl (pc' := 75) rfl ?_
            refine s_iconst k0 (z := 1) d7_75 (by decide) (pc' := 76) rfl ?_
            refine s_iushr k0 d7_76 rfl (pc' := 77) rfl ?_
            refine s_isub k0 d7_77 rfl (pc' := 78) rfl ?_
            exact s_retI k0 d7_78 rfl hP (by decide) (by decide) ⟨by rw [fnz_eq, if_pos hc1, if_pos hc22, if_neg hc37, if_pos hc51, if_neg hc63], rfl⟩
        · refine s_iinc k0 (z := (19 : Int32)) d7_54 rfl (by decide) (l' := #[.val (.int (Jvm.Free.XT.ushr p1 (8 : Int32))), .val (.int (19 : Int32))]) rfl (pc' := 57) rfl ?_
          refine s_iloadN k0 d7_57 rfl (pc' := 58) rfl ?_
          refine s_iconst k0 (z := 4) d7_58 (by decide) (pc' := 59) rfl ?_
          refine s_iushr k0 d7_59 rfl (pc' := 60) rfl ?_
          refine s_istoreN k0 d7_60 (l' := #[.val (.int (Jvm.Free.XT.ushr (Jvm.Free.XT.ushr p1 (8 : Int32)) (4 : Int32))), .val (.int (19 : Int32))]) rfl (pc' := 61) rfl ?_
          refine s_iloadN k0 d7_61 rfl (pc' := 62) rfl ?_
          refine s_iconst k0 (z := 4) d7_62 (by decide) (pc' := 63) rfl ?_
          refine s_icmp_lt k0 d7_63 (by decide) (pc' := 73) (by decide) (pc3 := 66) rfl (fun hc63 => ?_) (fun hc63 => ?_)
          · refine s_iloadN k0 d7_73 rfl (pc' := 74) rfl ?_
            refine s_iloadN k0 d7_74 rfl (pc' := 75) rfl ?_
            refine s_iconst k0 (z := 1) d7_75 (by decide) (pc' := 76) rfl ?_
            refine s_iushr k0 d7_76 rfl (pc' := 77) rfl ?_
            refine s_isub k0 d7_77 rfl (pc' := 78) rfl ?_
            exact s_retI k0 d7_78 rfl hP (by decide) (by decide) ⟨by rw [fnz_eq, if_pos hc1, if_pos hc22, if_neg hc37, if_neg hc51, if_pos hc63], rfl⟩
          · refine s_iinc k0 (z := (17 : Int32)) d7_66 rfl (by decide) (l' := #[.val (.int (Jvm.Free.XT.ushr (Jvm.Free.XT.ushr p1 (8 : Int32)) (4 : Int32))), .val (.int (17 : Int32))]) rfl (pc' := 69) rfl ?_
            refine s_iloadN k0 d7_69 rfl (pc' := 70) rfl ?_
            refine s_iconst k0 (z := 2) d7_70 (by decide) (pc' := 71) rfl ?_
            refine s_iushr k0 d7_71 rfl (pc' := 72) rfl ?_
            refine s_istoreN k0 d7_72 (l' := #[.val (.int (Jvm.Free.XT.ushr (Jvm.Free.XT.ushr (Jvm.Free.XT.ushr p1 (8 : Int32)) (4 : Int32)) (2 : Int32))), .val (.int (17 : Int32))]) rfl (pc' := 73) rfl ?_
            refine s_iloadN k0 d7_73 rfl (pc' := 74) rfl ?_
            refine s_iloadN k0 d7_74 rfl (pc' := 75) rfl ?_
            refine s_iconst k0 (z := 1) d7_75 (by decide) (pc' := 76) rfl ?_
            refine s_iushr k0 d7_76 rfl (pc' := 77) rfl ?_
            refine s_isub k0 d7_77 rfl (pc' := 78) rfl ?_
            exact s_retI k0 d7_78 rfl hP (by decide) (by decide) ⟨by rw [fnz_eq, if_pos hc1, if_pos hc22, if_neg hc37, if_neg hc51, if_neg hc63], rfl⟩
    · refine s_iinc k0 (z := (15 : Int32)) d7_25 rfl (by decide) (l' := #[.val (.int p1), .val (.int (15 : Int32))]) rfl (pc' := 28) rfl ?_
      refine s_iloadN k0 d7_28 rfl (pc' := 29) rfl ?_
      refine s_bipush k0 (z := 16) d7_29 (by decide) (pc' := 31) rfl ?_
      refine s_iushr k0 d7_31 rfl (pc' := 32) rfl ?_
      refine s_istoreN k0 d7_32 (l' := #[.val (.int (Jvm.Free.XT.ushr p1 (16 : Int32))), .val (.int (15 : Int32))]) rfl (pc' := 33) rfl ?_
      refine s_iloadN k0 d7_33 rfl (pc' := 34) rfl ?_
      refine s_sipush k0 (z := 256) d7_34 (by decide) (pc' := 37) rfl ?_
      refine s_icmp_lt k0 d7_37 (by decide) (pc' := 48) (by decide) (pc3 := 40) rfl (fun hc37 => ?_) (fun hc37 => ?_)
      · refine s_iloadN k0 d7_48 rfl (pc' := 49) rfl ?_
        refine s_bipush k0 (z := 16) d7_49 (by decide) (pc' := 51) rfl ?_
        refine s_icmp_lt k0 d7_51 (by decide) (pc' := 61) (by decide) (pc3 := 54) rfl (fun hc51 => ?_) (fun hc51 => ?_)
        · refine s_iloadN k0 d7_61 rfl (pc' := 62) rfl ?_
          refine s_iconst k0 (z := 4) d7_62 (by decide) (pc' := 63) rfl ?_
          refine s_icmp_lt k0 d7_63 (by decide) (pc' := 73) (by decide) (pc3 := 66) rfl (fun hc63 => ?_) (fun hc63 => ?_)
          · refine s_iloadN k0 d7_73 rfl (pc' := 74) rfl ?_
            refine s_iloadN k0 d7_74 rfl (pc' := 75) rfl ?_
            refine s_iconst k0 (z := 1) d7_75 (by decide) (pc' := 76) rfl ?_
            refine s_iushr k0 d7_76 rfl (pc' := 77) rfl ?_
            refine s_isub k0 d7_77 rfl (pc' := 78) rfl ?_
            exact s_retI k0 d7_78 rfl hP (by decide) (by decide) ⟨by rw [fnz_eq, if_pos hc1, if_neg hc22, if_pos hc37, if_pos hc51, if_pos hc63], rfl⟩
          · refine s_iinc k0 (z := (13 : Int32)) d7_66 rfl (by decide) (l' := #[.val (.int (Jvm.Free.XT.ushr p1 (16 : Int32))), .val (.int (13 : Int32))]) rfl (pc' := 69) rfl ?_
            refine s_iloadN k0 d7_69 rfl (pc' := 70) rfl ?_
            refine s_iconst k0 (z := 2) d7_70 (by decide) (pc' := 71) rfl ?_
            refine s_iushr k0 d7_71 rfl (pc' := 72) rfl ?_
            refine s_istoreN k0 d7_72 (l' := #[.val (.int (Jvm.Free.XT.ushr (Jvm.Free.XT.ushr p1 (16 : Int32)) (2 : Int32))), .val (.int (13 : Int32))]) rfl (pc' := 73) rfl ?_
            refine s_iloadN k0 d7_73 rfl (pc' := 74) rfl ?_
            refine s_iloadN k0 d7_74 rfl (pc' := 75) rfl ?_
            refine s_iconst k0 (z := 1) d7_75 (by decide) (pc' := 76) rfl ?_
            refine s_iushr k0 d7_76 rfl (pc' := 77) rfl ?_
            refine s_isub k0 d7_77 rfl (pc' := 78) rfl ?_
            exact s_retI k0 d7_78 rfl hP (by decide) (by decide) ⟨by rw [fnz_eq, if_pos hc1, if_neg hc22, if_pos hc37, if_pos hc51, if_neg hc63], rfl⟩
        · refine s_iinc k0 (z := (11 : Int32)) d7_54 rfl (by decide) (l' := #[.val (.int (Jvm.Free.XT.ushr p1 (16 : Int32))), .val (.int (11 : Int32))]) rfl (pc' := 57) rfl ?_
          refine s_iloadN k0 d7_57 rfl (pc' := 58) rfl ?_
          refine s_iconst k0 (z := 4) d7_58 (by decide) (pc' := 59) rfl ?_
          refine s_iushr k0 d7_59 rfl (pc' := 60) rfl ?_
          refine s_istoreN k0 d7_60 (l' := #[.val (.int (Jvm.Free.XT.ushr (Jvm.Free.XT.ushr p1 (16 : Int32)) (4 : Int32))), .val (.int (11 : Int32))]) rfl (pc' := 61) rfl ?_
          refine s_iloadN k0 d7_61 rfl (pc' := 62) rfl ?_
          refine s_iconst k0 (z := 4) d7_62 (by decide) (pc' := 63) rfl ?_
          refine s_icmp_lt k0 d7_63 (by decide) (pc' := 73) (by decide) (pc3 := 66) rfl (fun hc63 => ?_) (fun hc63 => ?_)
          · refine s_iloadN k0 d7_73 rfl (pc' := 74) rfl ?_
            refine s_iloadN k0 d7_74 rfl (pc' := 75) rfl ?_
            refine s_iconst k0 (z := 1) d7_75 (by decide) (pc' := 76) rfl ?_
            refine s_iushr k0 d7_76 rfl (pc' := 77) rfl ?_
            refine s_isub k0 d7_77 rfl (pc' := 78) rfl ?_
            exact s_retI k0 d7_78 rfl hP (by decide) (by decide) ⟨by rw [fnz_eq, if_pos hc1, if_neg hc22, if_pos hc37, if_neg hc51, if_pos hc63], rfl⟩
          · refine s_iinc k0 (z := (9 : Int32)) d7_66 rfl (by decide) (l' := #[.val (.int (Jvm.Free.XT.ushr (Jvm.Free.XT.ushr p1 (16 : Int32)) (4 : Int32))), .val (.int (9 : Int32))]) rfl (pc' := 69) rfl ?_
            refine s_iloadN k0 d7_69 rfl (pc' := 70) rfl ?_
            refine s_iconst k0 (z := 2) d7_70 (by decide) (pc' := 71) rfl ?_
            refine s_iushr k0 d7_71 rfl (pc' := 72) rfl ?_
            refine s_istoreN k0 d7_72 (l' := #[.val (.int (Jvm.Free.XT.ushr (Jvm.Free.XT.ushr (Jvm.Free.XT.ushr p1 (16 : Int32)) (4 : Int32)) (2 : Int32))), .val (.int (9 : Int32))]) rfl (pc' := 73) rfl ?_
            refine s_iloadN k0 d7_73 rfl (pc' := 74) rfl ?_
            refine s_iloadN k0 d7_74 rfl (pc' := 75) rfl ?_
            refine s_iconst k0 (z := 1) d7_75 (by decide) (pc' := 76) rfl ?_
            refine s_iushr k0 d7_76 rfl (pc' := 77) rfl ?_
            refine s_isub k0 d7_77 rfl (pc' := 78) rfl ?_
            exact s_retI k0 d7_78 rfl hP (by decide) (by decide) ⟨by rw [fnz_eq, if_pos hc1, if_neg hc22, if_pos hc37, if_neg hc51, if_neg hc63], rfl⟩
      · refine s_iinc k0 (z := (7 : Int32)) d7_40 rfl (by decide) (l' := #[.val (.int (Jvm.Free.XT.ushr p1 (16 : Int32))), .val (.int (7 : Int32))]) rfl (pc' := 43) rfl ?_
        refine s_iloadN k0 d7_43 rfl (pc' := 44) rfl ?_
        refine s_bipush k0 (z := 8) d7_44 (by decide) (pc' := 46) rfl ?_
        refine s_iushr k0 d7_46 rfl (pc' := 47) rfl ?_
        refine s_istoreN k0 d7_47 (l' := #[.val (.int (Jvm.Free.XT.ushr (Jvm.Free.XT.ushr p1 (16 : Int32)) (8 : Int32))), .val (.int (7 : Int32))]) rfl (pc' := 48) rfl ?_
        refine s_iloadN k0 d7_48 rfl (pc' := 49) rfl ?_
        refine s_bipush k0 (z := 16) d7_49 (by decide) (pc' := 51) rfl ?_
        refine s_icmp_lt k0 d7_51 (by decide) (pc' := 61) (by decide) (pc3 := 54) rfl (fun hc51 => ?_) (fun hc51 => ?_)
        · refine s_iloadN k0 d7_61 rfl (pc' := 62) rfl ?_
          refine s_iconst k0 (z := 4) d7_62 (by decide) (pc' := 63) rfl ?_
          refine s_icmp_lt k0 d7_63 (by decide) (pc' := 73) (by decide) (pc3 := 66) rfl (fun hc63 => ?_) (fun hc63 => ?_)
          · refine s_iloadN k0 d7_73 rfl (pc' := 74) rfl ?_
            refine s_iloadN k0 d7_74 rfl (pc' := 75) rfl ?_
            refine s_iconst k0 (z := 1) d7_75 (by decide) (pc' := 76) rfl ?_
            refine s_iushr k0 d7_76 rfl (pc' := 77) rfl ?_
            refine s_isub k0 d7_77 rfl (pc' := 78) rfl ?_
            exact s_retI k0 d7_78 rfl hP (by decide) (by decide) ⟨by rw [fnz_eq, if_pos hc1, if_neg hc22, if_neg hc37, if_pos hc51, if_pos hc63], rfl⟩
          · refine s_iinc k0 (z := (5 : Int32)) d7_66 rfl (by decide) (l' := #[.val (.int (Jvm.Free.XT.ushr (Jvm.Free.XT.ushr p1 (16 : Int32)) (8 : Int32))), .val (.int (5 : Int32))]) rfl (pc' := 69) rfl ?_
            refine s_iloadN k0 d7_69 rfl (pc' := 70) rfl ?_
            refine s_iconst k0 (z := 2) d7_70 (by decide) (pc' := 71) rfl ?_
            refine s_iushr k0 d7_71 rfl (pc' := 72) rfl ?_
            refine s_istoreN k0 d7_72 (l' := #[.val (.int (Jvm.Free.XT.ushr (Jvm.Free.XT.ushr (Jvm.Free.XT.ushr p1 (16 : Int32)) (8 : Int32)) (2 : Int32))), .val (.int (5 : Int32))]) rfl (pc' := 73) rfl ?_
            refine s_iloadN k0 d7_73 rfl (pc' := 74) rfl ?_
            refine s_iloadN k0 d7_74 rfl (pc' := 75) rfl ?_
            refine s_iconst k0 (z := 1) d7_75 (by decide) (pc' := 76) rfl ?_
            refine s_iushr k0 d7_76 rfl (pc' := 77) rfl ?_
            refine s_isub k0 d7_77 rfl (pc' := 78) rfl ?_
            exact s_retI k0 d7_78 rfl hP (by decide) (by decide) ⟨by rw [fnz_eq, if_pos hc1, if_neg hc22, if_neg hc37, if_pos hc51, if_neg hc63], rfl⟩
        · refine s_iinc k0 (z := (3 : Int32)) d7_54 rfl (by decide) (l' := #[.val (.int (Jvm.Free.XT.ushr (Jvm.Free.XT.ushr p1 (16 : Int32)) (8 : Int32))), .val (.int (3 : Int32))]) rfl (pc' := 57) rfl ?_
          refine s_iloadN k0 d7_57 rfl (pc' := 58) rfl ?_
          refine s_iconst k0 (z := 4) d7_58 (by decide) (pc' := 59) rfl ?_
          refine s_iushr k0 d7_59 rfl (pc' := 60) rfl ?_
          refine s_istoreN k0 d7_60 (l' := #[.val (.int (Jvm.Free.XT.ushr (Jvm.Free.XT.ushr (Jvm.Free.XT.ushr p1 (16 : Int32)) (8 : Int32)) (4 : Int32))), .val (.int (3 : Int32))]) rfl (pc' := 61) rfl ?_
          refine s_iloadN k0 d7_61 rfl (pc' := 62) rfl ?_
          refine s_iconst k0 (z := 4) d7_62 (by decide) (pc' := 63) rfl ?_
          refine s_icmp_lt k0 d7_63 (by decide) (pc' := 73) (by decide) (pc3 := 66) rfl (fun hc63 => ?_) (fun hc63 => ?_)
          · refine s_iloadN k0 d7_73 rfl (pc' := 74) rfl ?_
            refine s_iloadN k0 d7_74 rfl (pc' := 75) rfl ?_
            refine s_iconst k0 (z := 1) d7_75 (by decide) (pc' := 76) rfl ?_
            refine s_iushr k0 d7_76 rfl (pc' := 77) rfl ?_
            refine s_isub k0 d7_77 rfl (pc' := 78) rfl ?_
            exact s_retI k0 d7_78 rfl hP (by decide) (by decide) ⟨by rw [fnz_eq, if_pos hc1, if_neg hc22, if_neg hc37, if_neg hc51, if_pos hc63], rfl⟩
          · refine s_iinc k0 (z := (1 : Int32)) d7_66 rfl (by decide) (l' := #[.val (.int (Jvm.Free.XT.ushr (Jvm.Free.XT.ushr (Jvm.Free.XT.ushr p1 (16 : Int32)) (8 : Int32)) (4 : Int32))), .val (.int (1 : Int32))]) rfl (pc' := 69) rfl ?_
            refine s_iloadN k0 d7_69 rfl (pc' := 70) rfl ?_
            refine s_iconst k0 (z := 2) d7_70 (by decide) (pc' := 71) rfl ?_
            refine s_iushr k0 d7_71 rfl (pc' := 72) rfl ?_
            refine s_istoreN k0 d7_72 (l' := #[.val (.int (Jvm.Free.XT.ushr (Jvm.Free.XT.ushr (Jvm.Free.XT.ushr (Jvm.Free.XT.ushr p1 (16 : Int32)) (8 : Int32)) (4 : Int32)) (2 : Int32))), .val (.int (1 : Int32))]) rfl (pc' := 73) rfl ?_
            refine s_iloadN k0 d7_73 rfl (pc' := 74) rfl ?_
            refine s_iloadN k0 d7_74 rfl (pc' := 75) rfl ?_
            refine s_iconst k0 (z := 1) d7_75 (by decide) (pc' := 76) rfl ?_
            refine s_iushr k0 d7_76 rfl (pc' := 77) rfl ?_
            refine s_isub k0 d7_77 rfl (pc' := 78) rfl ?_
            exact s_retI k0 d7_78 rfl hP (by decide) (by decide) ⟨by rw [fnz_eq, if_pos hc1, if_neg hc22, if_neg hc37, if_neg hc51, if_neg hc63], rfl⟩
  · refine s_iloadN k0 d7_4 rfl (pc' := 5) rfl ?_
    refine s_if_ne k0 d7_5 (by decide) (pc' := 13) (by decide) (pc3 := 8) rfl (fun hc5 => ?_) (fun hc5 => ?_)
    · refine s_bipush k0 (z := 32) d7_8 (by decide) (pc' := 10) rfl ?_
      refine s_goto k0 d7_10 (by decide) (pc' := 14) (by decide) ?_
      exact s_retI k0 d7_14 rfl hP (by decide) (by decide) ⟨by rw [fnz_eq, if_neg hc1, if_pos hc5], rfl⟩
    · refine s_iconst k0 (z := 0) d7_13 (by decide) (pc' := 14) rfl ?_
      exact s_retI k0 d7_14 rfl hP (by decide) (by decide) ⟨by rw [fnz_eq, if_neg hc1, if_neg hc5], rfl⟩
theorem d6_0 : decode jdk_35_method_48_code 0 = .ok (.lload_n 0, 1) := by decide +kernel
theorem d6_1 : decode jdk_35_method_48_code 1 = .ok (.bipush 32, 2) := by decide +kernel
theorem d6_3 : decode jdk_35_method_48_code 3 = .ok (.lushr, 1) := by decide +kernel
theorem d6_4 : decode jdk_35_method_48_code 4 = .ok (.l2i, 1) := by decide +kernel
theorem d6_5 : decode jdk_35_method_48_code 5 = .ok (.istore_n 2, 1) := by decide +kernel
theorem d6_6 : decode jdk_35_method_48_code 6 = .ok (.iload_n 2, 1) := by decide +kernel
theorem d6_7 : decode jdk_35_method_48_code 7 = .ok (.ifCond .ne 14, 3) := by decide +kernel
theorem d6_10 : decode jdk_35_method_48_code 10 = .ok (.bipush 32, 2) := by decide +kernel
theorem d6_12 : decode jdk_35_method_48_code 12 = .ok (.lload_n 0, 1) := by decide +kernel
theorem d6_13 : decode jdk_35_method_48_code 13 = .ok (.l2i, 1) := by decide +kernel
theorem d6_14 : decode jdk_35_method_48_code 14 = .ok (.invokestatic 308, 3) := by decide +kernel
theorem d6_17 : decode jdk_35_method_48_code 17 = .ok (.iadd, 1) := by decide +kernel
theorem d6_18 : decode jdk_35_method_48_code 18 = .ok (.goto 7, 3) := by decide +kernel
theorem d6_21 : decode jdk_35_method_48_code 21 = .ok (.iload_n 2, 1) := by decide +kernel
theorem d6_22 : decode jdk_35_method_48_code 22 = .ok (.invokestatic 308, 3) := by decide +kernel
theorem d6_25 : decode jdk_35_method_48_code 25 = .ok (.ireturn, 1) := by decide +kernel
theorem pd__28I_29I : parseMethodDescriptor "(I)I" = some ⟨[.int], some .int⟩ := by decide +kernel
theorem pn_6_rmnlz : plainFor (⟨"java/lang/Long", "numberOfLeadingZeros", "(J)I"⟩ : MethodName) = true := plainFor_of_name (by first | (simp [plainName, overriddenIn]; done) | decide +kernel)
def fnlz (p1 : Int64) : Int32 := (if (Jvm.Free.XT.ushrL p1 (32 : Int32)).toInt32 = (0 : Int32) then ((32 : Int32) + (fnz p1.toInt32)) else (fnz (Jvm.Free.XT.ushrL p1 (32 : Int32)).toInt32))
theorem fnlz_eq (p1 : Int64) : fnlz p1 = (if (Jvm.Free.XT.ushrL p1 (32 : Int32)).toInt32 = (0 : Int32) then ((32 : Int32) + (fnz p1.toInt32)) else (fnz (Jvm.Free.XT.ushrL p1 (32 : Int32)).toInt32)) := rfl
theorem ef_rmnlz {p1 : Int64} (m : MethodId) : entryFrame m #[.long p1] 3 = mkF m 0 #[.val (.long p1), .second, .unset] [] := by first | (simp [entryFrame, mkF, argsToLocals, Value.category]; done) | rfl
set_option maxRecDepth 65536 in
set_option maxHeartbeats 40000000 in
theorem rmnlz (l : Launch) (Z : State) (a0 : Array Value) (hw : ∀ d ∈ tables_1, d.before a0 Z = true) (p1 : Int64) (h0 : Heap) (n0 : Nat) (Z0 : n0 ≤ h0.size)  :
    Met l Z (⟨"java/lang/Long", "numberOfLeadingZeros", "(J)I"⟩ : MethodName) jdk_35_method_48_code 3 (some .int) ({ frames := 1, cells := 0, slots := 0, locals := 20 } : Room) n0 #[.long p1] h0 (fun v h => v = some (.int (fnlz p1)) ∧ h0 = h) := by
  refine Met.of (Ls := #[.val (.long p1), .second, .unset]) pn_6_rmnlz (fun m => ef_rmnlz m) fun p e s m below meth c T0 P hP k0 => ?_
  refine s_lloadN k0 d6_0 rfl (pc' := 1) rfl ?_
  refine s_bipush k0 (z := 32) d6_1 (by decide) (pc' := 3) rfl ?_
  refine s_lushr k0 d6_3 rfl (pc' := 4) rfl ?_
  refine s_l2i k0 d6_4 rfl (pc' := 5) rfl ?_
  refine s_istoreN k0 d6_5 (l' := #[.val (.long p1), .second, .val (.int (Jvm.Free.XT.ushrL p1 (32 : Int32)).toInt32)]) rfl (pc' := 6) rfl ?_
  refine s_iloadN k0 d6_6 rfl (pc' := 7) rfl ?_
  refine s_if_ne k0 d6_7 (by decide) (pc' := 21) (by decide) (pc3 := 10) rfl (fun hc7 => ?_) (fun hc7 => ?_)
  · refine s_bipush k0 (z := 32) d6_10 (by decide) (pc' := 12) rfl ?_
    refine s_lloadN k0 d6_12 rfl (pc' := 13) rfl ?_
    refine s_l2i k0 d6_13 rfl (pc' := 14) rfl ?_
    refine s_callS k0 [.int p1.toInt32] 1 d6_14 (hw _ (List.mem_of_getElem? (i := 47) rfl)) (hw _ (List.mem_of_getElem? (i := 48) rfl)) (hw _ (List.mem_of_getElem? (i := 49) rfl)) (hw _ (List.mem_of_getElem? (i := 50) rfl)) (by decide) (rmnz l Z a0 hw p1.toInt32 h0 n0 Z0 ) (by decide) (by decide) pd__28I_29I rfl (Nat.le_of_eq rfl) rfl (by decide) (by decide) rfl (pc' := 17) rfl fun v1 T1 h1 L1 k1 Qv1 => ?_
    obtain ⟨rfl, rfl⟩ := Qv1
    show Go p e below P T1 (mkF m 17 #[.val (.long p1), .second, .val (.int (Jvm.Free.XT.ushrL p1 (32 : Int32)).toInt32)] [.int (fnz p1.toInt32), .int (32 : Int32)])
    refine s_iadd k1 d6_17 rfl (pc' := 18) rfl ?_
    refine s_goto k1 d6_18 (by decide) (pc' := 25) (by decide) ?_
    exact s_retI k1 d6_25 rfl hP (by decide) (by decide) ⟨by rw [fnlz_eq, if_pos hc7], rfl⟩
  · refine s_iloadN k0 d6_21 rfl (pc' := 22) rfl ?_
    refine s_callS k0 [.int (Jvm.Free.XT.ushrL p1 (32 : Int32)).toInt32] 0 d6_22 (hw _ (List.mem_of_getElem? (i := 47) rfl)) (hw _ (List.mem_of_getElem? (i := 48) rfl)) (hw _ (List.mem_of_getElem? (i := 49) rfl)) (hw _ (List.mem_of_getElem? (i := 50) rfl)) (by decide) (rmnz l Z a0 hw (Jvm.Free.XT.ushrL p1 (32 : Int32)).toInt32 h0 n0 Z0 ) (by decide) (by decide) pd__28I_29I rfl (Nat.le_of_eq rfl) rfl (by decide) (by decide) rfl (pc' := 25) rfl fun v2 T2 h2 L2 k2 Qv2 => ?_
    obtain ⟨rfl, rfl⟩ := Qv2
    show Go p e below P T2 (mkF m 25 #[.val (.long p1), .second, .val (.int (Jvm.Free.XT.ushrL p1 (32 : Int32)).toInt32)] [.int (fnz (Jvm.Free.XT.ushrL p1 (32 : Int32)).toInt32)])
    exact s_retI k2 d6_25 rfl hP (by decide) (by decide) ⟨by rw [fnlz_eq, if_neg hc7], rfl⟩
theorem d15_0 : decode jdk_33_method_48_code 0 = .ok (.iload_n 0, 1) := by decide +kernel
theorem d15_1 : decode jdk_33_method_48_code 1 = .ok (.iconst (-1), 1) := by decide +kernel
theorem d15_2 : decode jdk_33_method_48_code 2 = .ok (.ixor, 1) := by decide +kernel
theorem d15_3 : decode jdk_33_method_48_code 3 = .ok (.iload_n 0, 1) := by decide +kernel
theorem d15_4 : decode jdk_33_method_48_code 4 = .ok (.iconst 1, 1) := by decide +kernel
theorem d15_5 : decode jdk_33_method_48_code 5 = .ok (.isub, 1) := by decide +kernel
theorem d15_6 : decode jdk_33_method_48_code 6 = .ok (.iand, 1) := by decide +kernel
theorem d15_7 : decode jdk_33_method_48_code 7 = .ok (.istore_n 0, 1) := by decide +kernel
theorem d15_8 : decode jdk_33_method_48_code 8 = .ok (.iload_n 0, 1) := by decide +kernel
theorem d15_9 : decode jdk_33_method_48_code 9 = .ok (.ifCond .gt 8, 3) := by decide +kernel
theorem d15_12 : decode jdk_33_method_48_code 12 = .ok (.iload_n 0, 1) := by decide +kernel
theorem d15_13 : decode jdk_33_method_48_code 13 = .ok (.bipush 32, 2) := by decide +kernel
theorem d15_15 : decode jdk_33_method_48_code 15 = .ok (.iand, 1) := by decide +kernel
theorem d15_16 : decode jdk_33_method_48_code 16 = .ok (.ireturn, 1) := by decide +kernel
theorem d15_17 : decode jdk_33_method_48_code 17 = .ok (.iconst 1, 1) := by decide +kernel
theorem d15_18 : decode jdk_33_method_48_code 18 = .ok (.istore_n 1, 1) := by decide +kernel
theorem d15_19 : decode jdk_33_method_48_code 19 = .ok (.iload_n 0, 1) := by decide +kernel
theorem d15_20 : decode jdk_33_method_48_code 20 = .ok (.ldc_w 264, 3) := by decide +kernel
theorem d15_23 : decode jdk_33_method_48_code 23 = .ok (.if_icmp .le 11, 3) := by decide +kernel
theorem d15_26 : decode jdk_33_method_48_code 26 = .ok (.iinc 1 16, 3) := by decide +kernel
theorem d15_29 : decode jdk_33_method_48_code 29 = .ok (.iload_n 0, 1) := by decide +kernel
theorem d15_30 : decode jdk_33_method_48_code 30 = .ok (.bipush 16, 2) := by decide +kernel
theorem d15_32 : decode jdk_33_method_48_code 32 = .ok (.iushr, 1) := by decide +kernel
theorem d15_33 : decode jdk_33_method_48_code 33 = .ok (.istore_n 0, 1) := by decide +kernel
theorem d15_34 : decode jdk_33_method_48_code 34 = .ok (.iload_n 0, 1) := by decide +kernel
theorem d15_35 : decode jdk_33_method_48_code 35 = .ok (.sipush 256, 3) := by decide +kernel
theorem d15_38 : decode jdk_33_method_48_code 38 = .ok (.if_icmp .le 11, 3) := by decide +kernel
theorem d15_41 : decode jdk_33_method_48_code 41 = .ok (.iinc 1 8, 3) := by decide +kernel
theorem d15_44 : decode jdk_33_method_48_code 44 = .ok (.iload_n 0, 1) := by decide +kernel
theorem d15_45 : decode jdk_33_method_48_code 45 = .ok (.bipush 8, 2) := by decide +kernel
theorem d15_47 : decode jdk_33_method_48_code 47 = .ok (.iushr, 1) := by decide +kernel
theorem d15_48 : decode jdk_33_method_48_code 48 = .ok (.istore_n 0, 1) := by decide +kernel
theorem d15_49 : decode jdk_33_method_48_code 49 = .ok (.iload_n 0, 1) := by decide +kernel
theorem d15_50 : decode jdk_33_method_48_code 50 = .ok (.bipush 16, 2) := by decide +kernel
theorem d15_52 : decode jdk_33_method_48_code 52 = .ok (.if_icmp .le 10, 3) := by decide +kernel
theorem d15_55 : decode jdk_33_method_48_code 55 = .ok (.iinc 1 4, 3) := by decide +kernel
theorem d15_58 : decode jdk_33_method_48_code 58 = .ok (.iload_n 0, 1) := by decide +kernel
theorem d15_59 : decode jdk_33_method_48_code 59 = .ok (.iconst 4, 1) := by decide +kernel
theorem d15_60 : decode jdk_33_method_48_code 60 = .ok (.iushr, 1) := by decide +kernel
theorem d15_61 : decode jdk_33_method_48_code 61 = .ok (.istore_n 0, 1) := by decide +kernel
theorem d15_62 : decode jdk_33_method_48_code 62 = .ok (.iload_n 0, 1) := by decide +kernel
theorem d15_63 : decode jdk_33_method_48_code 63 = .ok (.iconst 4, 1) := by decide +kernel
theorem d15_64 : decode jdk_33_method_48_code 64 = .ok (.if_icmp .le 10, 3) := by decide +kernel
theorem d15_67 : decode jdk_33_method_48_code 67 = .ok (.iinc 1 2, 3) := by decide +kernel
theorem d15_70 : decode jdk_33_method_48_code 70 = .ok (.iload_n 0, 1) := by decide +kernel
theorem d15_71 : decode jdk_33_method_48_code 71 = .ok (.iconst 2, 1) := by decide +kernel
theorem d15_72 : decode jdk_33_method_48_code 72 = .ok (.iushr, 1) := by decide +kernel
theorem d15_73 : decode jdk_33_method_48_code 73 = .ok (.istore_n 0, 1) := by decide +kernel
theorem d15_74 : decode jdk_33_method_48_code 74 = .ok (.iload_n 1, 1) := by decide +kernel
theorem d15_75 : decode jdk_33_method_48_code 75 = .ok (.iload_n 0, 1) := by decide +kernel
theorem d15_76 : decode jdk_33_method_48_code 76 = .ok (.iconst 1, 1) := by decide +kernel
theorem d15_77 : decode jdk_33_method_48_code 77 = .ok (.iushr, 1) := by decide +kernel
theorem d15_78 : decode jdk_33_method_48_code 78 = .ok (.iadd, 1) := by decide +kernel
theorem d15_79 : decode jdk_33_method_48_code 79 = .ok (.ireturn, 1) := by decide +kernel
theorem pn_15_rmtz : plainFor (⟨"java/lang/Integer", "numberOfTrailingZeros", "(I)I"⟩ : MethodName) = true := plainFor_of_name (by first | (simp [plainName, overriddenIn]; done) | decide +kernel)
def ftz (p1 : Int32) : Int32 := (if (0 : Int32) < ((p1 ^^^ (-1 : Int32)) &&& (p1 - (1 : Int32))) then (if (65536 : Int32) < ((p1 ^^^ (-1 : Int32)) &&& (p1 - (1 : Int32))) then (if (256 : Int32) < (Jvm.Free.XT.ushr ((p1 ^^^ (-1 : Int32)) &&& (p1 - (1 : Int32))) (16 : Int32)) then (if (16 : Int32) < (Jvm.Free.XT.ushr (Jvm.Free.XT.ushr ((p1 ^^^ (-1 : Int32)) &&& (p1 - (1 : Int32))) (16 : Int32)) (8 : Int32)) then (if (4 : Int32) < (Jvm.Free.XT.ushr (Jvm.Free.XT.ushr (Jvm.Free.XT.ushr ((p1 ^^^ (-1 : Int32)) &&& (p1 - (1 : Int32))) (16 : Int32)) (8 : Int32)) (4 : Int32)) then ((31 : Int32) + (Jvm.Free.XT.ushr (Jvm.Free.XT.ushr (Jvm.Free.XT.ushr (Jvm.Free.XT.ushr (Jvm.Free.XT.ushr ((p1 ^^^ (-1 : Int32)) &&& (p1 - (1 : Int32))) (16 : Int32)) (8 : Int32)) (4 : Int32)) (2 : Int32)) (1 : Int32))) else ((29 : Int32) + (Jvm.Free.XT.ushr (Jvm.Free.XT.ushr (Jvm.Free.XT.ushr (Jvm.Free.XT.ushr ((p1 ^^^ (-1 : Int32)) &&& (p1 - (1 : Int32))) (16 : Int32)) (8 : Int32)) (4 : Int32)) (1 : Int32)))) else (if (4 : Int32) < (Jvm.Free.XT.ushr (Jvm.Free.XT.ushr ((p1 ^^^ (-1 : Int32)) &&& (p1 - (1 : Int32))) (16 : Int32)) (8 : Int32)) then ((27 : Int32) + (Jvm.Free.XT.ushr (Jvm.Free.XT.ushr (Jvm.Free.XT.ushr (Jvm.Free.XT.ushr ((p1 ^^^ (-1 : Int32)) &&& (p1 - (1 : Int32))) (16 : Int32)) (8 : Int32)) (2 : Int32)) (1 : Int32))) else ((25 : Int32) + (Jvm.Free.XT.ushr (Jvm.Free.XT.ushr (Jvm.Free.XT.ushr ((p1 ^^^ (-1 : Int32)) &&& (p1 - (1 : Int32))) (16 : Int32)) (8 : Int32)) (1 : Int32))))) else (if (16 : Int32) < (Jvm.Free.XT.ushr ((p1 ^^^ (-1 : Int32)) &&& (p1 - (1 : Int32))) (16 : Int32)) then (if (4 : Int32) < (Jvm.Free.XT.ushr (Jvm.Free.XT.ushr ((p1 ^^^ (-1 : Int32)) &&& (p1 - (1 : Int32))) (16 : Int32)) (4 : Int32)) then ((23 : Int32) + (Jvm.Free.XT.ushr (Jvm.Free.XT.ushr (Jvm.Free.XT.ushr (Jvm.Free.XT.ushr ((p1 ^^^ (-1 : Int32)) &&& (p1 - (1 : Int32))) (16 : Int32)) (4 : Int32)) (2 : Int32)) (1 : Int32))) else ((21 : Int32) + (Jvm.Free.XT.ushr (Jvm.Free.XT.ushr (Jvm.Free.XT.ushr ((p1 ^^^ (-1 : Int32)) &&& (p1 - (1 : Int32))) (16 : Int32)) (4 : Int32)) (1 : Int32)))) else (if (4 : Int32) < (Jvm.Free.XT.ushr ((p1 ^^^ (-1 : Int32)) &&& (p1 - (1 : Int32))) (16 : Int32)) then ((19 : Int32) + (Jvm.Free.XT.ushr (Jvm.Free.XT.ushr (Jvm.Free.XT.ushr ((p1 ^^^ (-1 : Int32)) &&& (p1 - (1 : Int32))) (16 : Int32)) (2 : Int32)) (1 : Int32))) else ((17 : Int32) + (Jvm.Free.XT.ushr (Jvm.Free.XT.ushr ((p1 ^^^ (-1 : Int32)) &&& (p1 - (1 : Int32))) (16 : Int32)) (1 : Int32)))))) else (if (256 : Int32) < ((p1 ^^^ (-1 : Int32)) &&& (p1 - (1 : Int32))) then (if (16 : Int32) < (Jvm.Free.XT.ushr ((p1 ^^^ (-1 : Int32)) &&& (p1 - (1 : Int32))) (8 : Int32)) then (if (4 : Int32) < (Jvm.Free.XT.ushr (Jvm.Free.XT.ushr ((p1 ^^^ (-1 : Int32)) &&& (p1 - (1 : Int32))) (8 : Int32)) (4 : Int32)) then ((15 : Int32) + (Jvm.Free.XT.ushr (Jvm.Free.XT.ushr (Jvm.Free.XT.ushr (Jvm.Free.XT.ushr ((p1 ^^^ (-1 : Int32)) &&& (p1 - (1 : Int32))) (8 : Int32)) (4 : Int32)) (2 : Int32)) (1 : Int32))) else ((13 : Int32) + (Jvm.Free.XT.ushr (Jvm.Free.XT.ushr (Jvm.Free.XT.ushr ((p1 ^^^ (-1 : Int32)) &&& (p1 - (1 : Int32))) (8 : Int32)) (4 : Int32)) (1 : Int32)))) else (if (4 : Int32) < (Jvm.Free.XT.ushr ((p1 ^^^ (-1 : Int32)) &&& (p1 - (1 : Int32))) (8 : Int32)) then ((11 : Int32) + (Jvm.Free.XT.ushr (Jvm.Free.XT.ushr (Jvm.Free.XT.ushr ((p1 ^^^ (-1 : Int32)) &&& (p1 - (1 : Int32))) (8 : Int32)) (2 : Int32)) (1 : Int32))) else ((9 : Int32) + (Jvm.Free.XT.ushr (Jvm.Free.XT.ushr ((p1 ^^^ (-1 : Int32)) &&& (p1 - (1 : Int32))) (8 : Int32)) (1 : Int32))))) else (if (16 : Int32) < ((p1 ^^^ (-1 : Int32)) &&& (p1 - (1 : Int32))) then (if (4 : Int32) < (Jvm.Free.XT.ushr ((p1 ^^^ (-1 : Int32)) &&& (p1 - (1 : Int32))) (4 : Int32)) then ((7 : Int32) + (Jvm.Free.XT.ushr (Jvm.Free.XT.ushr (Jvm.Free.XT.ushr ((p1 ^^^ (-1 : Int32)) &&& (p1 - (1 : Int32))) (4 : Int32)) (2 : Int32)) (1 : Int32))) else ((5 : Int32) + (Jvm.Free.XT.ushr (Jvm.Free.XT.ushr ((p1 ^^^ (-1 : Int32)) &&& (p1 - (1 : Int32))) (4 : Int32)) (1 : Int32)))) else (if (4 : Int32) < ((p1 ^^^ (-1 : Int32)) &&& (p1 - (1 : Int32))) then ((3 : Int32) + (Jvm.Free.XT.ushr (Jvm.Free.XT.ushr ((p1 ^^^ (-1 : Int32)) &&& (p1 - (1 : Int32))) (2 : Int32)) (1 : Int32))) else ((1 : Int32) + (Jvm.Free.XT.ushr ((p1 ^^^ (-1 : Int32)) &&& (p1 - (1 : Int32))) (1 : Int32))))))) else (((p1 ^^^ (-1 : Int32)) &&& (p1 - (1 : Int32))) &&& (32 : Int32)))
theorem ftz_eq (p1 : Int32) : ftz p1 = (if (0 : Int32) < ((p1 ^^^ (-1 : Int32)) &&& (p1 - (1 : Int32))) then (if (65536 : Int32) < ((p1 ^^^ (-1 : Int32)) &&& (p1 - (1 : Int32))) then (if (256 : Int32) < (Jvm.Free.XT.ushr ((p1 ^^^ (-1 : Int32)) &&& (p1 - (1 : Int32))) (16 : Int32)) then (if (16 : Int32) < (Jvm.Free.XT.ushr (Jvm.Free.XT.ushr ((p1 ^^^ (-1 : Int32)) &&& (p1 - (1 : Int32))) (16 : Int32)) (8 : Int32)) then (if (4 : Int32) < (Jvm.Free.XT.ushr (Jvm.Free.XT.ushr (Jvm.Free.XT.ushr ((p1 ^^^ (-1 : Int32)) &&& (p1 - (1 : Int32))) (16 : Int32)) (8 : Int32)) (4 : Int32)) then ((31 : Int32) + (Jvm.Free.XT.ushr (Jvm.Free.XT.ushr (Jvm.Free.XT.ushr (Jvm.Free.XT.ushr (Jvm.Free.XT.ushr ((p1 ^^^ (-1 : Int32)) &&& (p1 - (1 : Int32))) (16 : Int32)) (8 : Int32)) (4 : Int32)) (2 : Int32)) (1 : Int32))) else ((29 : Int32) + (Jvm.Free.XT.ushr (Jvm.Free.XT.ushr (Jvm.Free.XT.ushr (Jvm.Free.XT.ushr ((p1 ^^^ (-1 : Int32)) &&& (p1 - (1 : Int32))) (16 : Int32)) (8 : Int32)) (4 : Int32)) (1 : Int32)))) else (if (4 : Int32) < (Jvm.Free.XT.ushr (Jvm.Free.XT.ushr ((p1 ^^^ (-1 : Int32)) &&& (p1 - (1 : Int32))) (16 : Int32)) (8 : Int32)) then ((27 : Int32) + (Jvm.Free.XT.ushr (Jvm.Free.XT.ushr (Jvm.Free.XT.ushr (Jvm.Free.XT.ushr ((p1 ^^^ (-1 : Int32)) &&& (p1 - (1 : Int32))) (16 : Int32)) (8 : Int32)) (2 : Int32)) (1 : Int32))) else ((25 : Int32) + (Jvm.Free.XT.ushr (Jvm.Free.XT.ushr (Jvm.Free.XT.ushr ((p1 ^^^ (-1 : Int32)) &&& (p1 - (1 : Int32))) (16 : Int32)) (8 : Int32)) (1 : Int32))))) else (if (16 : Int32) < (Jvm.Free.XT.ushr ((p1 ^^^ (-1 : Int32)) &&& (p1 - (1 : Int32))) (16 : Int32)) then (if (4 : Int32) < (Jvm.Free.XT.ushr (Jvm.Free.XT.ushr ((p1 ^^^ (-1 : Int32)) &&& (p1 - (1 : Int32))) (16 : Int32)) (4 : Int32)) then ((23 : Int32) + (Jvm.Free.XT.ushr (Jvm.Free.XT.ushr (Jvm.Free.XT.ushr (Jvm.Free.XT.ushr ((p1 ^^^ (-1 : Int32)) &&& (p1 - (1 : Int32))) (16 : Int32)) (4 : Int32)) (2 : Int32)) (1 : Int32))) else ((21 : Int32) + (Jvm.Free.XT.ushr (Jvm.Free.XT.ushr (Jvm.Free.XT.ushr ((p1 ^^^ (-1 : Int32)) &&& (p1 - (1 : Int32))) (16 : Int32)) (4 : Int32)) (1 : Int32)))) else (if (4 : Int32) < (Jvm.Free.XT.ushr ((p1 ^^^ (-1 : Int32)) &&& (p1 - (1 : Int32))) (16 : Int32)) then ((19 : Int32) + (Jvm.Free.XT.ushr (Jvm.Free.XT.ushr (Jvm.Free.XT.ushr ((p1 ^^^ (-1 : Int32)) &&& (p1 - (1 : Int32))) (16 : Int32)) (2 : Int32)) (1 : Int32))) else ((17 : Int32) + (Jvm.Free.XT.ushr (Jvm.Free.XT.ushr ((p1 ^^^ (-1 : Int32)) &&& (p1 - (1 : Int32))) (16 : Int32)) (1 : Int32)))))) else (if (256 : Int32) < ((p1 ^^^ (-1 : Int32)) &&& (p1 - (1 : Int32))) then (if (16 : Int32) < (Jvm.Free.XT.ushr ((p1 ^^^ (-1 : Int32)) &&& (p1 - (1 : Int32))) (8 : Int32)) then (if (4 : Int32) < (Jvm.Free.XT.ushr (Jvm.Free.XT.ushr ((p1 ^^^ (-1 : Int32)) &&& (p1 - (1 : Int32))) (8 : Int32)) (4 : Int32)) then ((15 : Int32) + (Jvm.Free.XT.ushr (Jvm.Free.XT.ushr (Jvm.Free.XT.ushr (Jvm.Free.XT.ushr ((p1 ^^^ (-1 : Int32)) &&& (p1 - (1 : Int32))) (8 : Int32)) (4 : Int32)) (2 : Int32)) (1 : Int32))) else ((13 : Int32) + (Jvm.Free.XT.ushr (Jvm.Free.XT.ushr (Jvm.Free.XT.ushr ((p1 ^^^ (-1 : Int32)) &&& (p1 - (1 : Int32))) (8 : Int32)) (4 : Int32)) (1 : Int32)))) else (if (4 : Int32) < (Jvm.Free.XT.ushr ((p1 ^^^ (-1 : Int32)) &&& (p1 - (1 : Int32))) (8 : Int32)) then ((11 : Int32) + (Jvm.Free.XT.ushr (Jvm.Free.XT.ushr (Jvm.Free.XT.ushr ((p1 ^^^ (-1 : Int32)) &&& (p1 - (1 : Int32))) (8 : Int32)) (2 : Int32)) (1 : Int32))) else ((9 : Int32) + (Jvm.Free.XT.ushr (Jvm.Free.XT.ushr ((p1 ^^^ (-1 : Int32)) &&& (p1 - (1 : Int32))) (8 : Int32)) (1 : Int32))))) else (if (16 : Int32) < ((p1 ^^^ (-1 : Int32)) &&& (p1 - (1 : Int32))) then (if (4 : Int32) < (Jvm.Free.XT.ushr ((p1 ^^^ (-1 : Int32)) &&& (p1 - (1 : Int32))) (4 : Int32)) then ((7 : Int32) + (Jvm.Free.XT.ushr (Jvm.Free.XT.ushr (Jvm.Free.XT.ushr ((p1 ^^^ (-1 : Int32)) &&& (p1 - (1 : Int32))) (4 : Int32)) (2 : Int32)) (1 : Int32))) else ((5 : Int32) + (Jvm.Free.XT.ushr (Jvm.Free.XT.ushr ((p1 ^^^ (-1 : Int32)) &&& (p1 - (1 : Int32))) (4 : Int32)) (1 : Int32)))) else (if (4 : Int32) < ((p1 ^^^ (-1 : Int32)) &&& (p1 - (1 : Int32))) then ((3 : Int32) + (Jvm.Free.XT.ushr (Jvm.Free.XT.ushr ((p1 ^^^ (-1 : Int32)) &&& (p1 - (1 : Int32))) (2 : Int32)) (1 : Int32))) else ((1 : Int32) + (Jvm.Free.XT.ushr ((p1 ^^^ (-1 : Int32)) &&& (p1 - (1 : Int32))) (1 : Int32))))))) else (((p1 ^^^ (-1 : Int32)) &&& (p1 - (1 : Int32))) &&& (32 : Int32))) := rfl
theorem ef_rmtz {p1 : Int32} (m : MethodId) : entryFrame m #[.int p1] 2 = mkF m 0 #[.val (.int p1), .unset] [] := by first | (simp [entryFrame, mkF, argsToLocals, Value.category]; done) | rfl
set_option maxRecDepth 65536 in
set_option maxHeartbeats 40000000 in
theorem rmtz (l : Launch) (Z : State) (a0 : Array Value) (hw : ∀ d ∈ tables_1, d.before a0 Z = true) (p1 : Int32) (h0 : Heap) (n0 : Nat) (Z0 : n0 ≤ h0.size)  :
    Met l Z (⟨"java/lang/Integer", "numberOfTrailingZeros", "(I)I"⟩ : MethodName) jdk_33_method_48_code 2 (some .int) ({ frames := 0, cells := 0, slots := 0, locals := 0 } : Room) n0 #[.int p1] h0 (fun v h => v = some (.int (ftz p1)) ∧ h0 = h) := by
  refine Met.of (Ls := #[.val (.int p1), .unset]) pn_15_rmtz (fun m => ef_rmtz m) fun p e s m below meth c T0 P hP k0 => ?_
  refine s_iloadN k0 d15_0 rfl (pc' := 1) rfl ?_
  refine s_iconst k0 (z := -1) d15_1 (by decide) (pc' := 2) rfl ?_
  refine s_ixor k0 d15_2 rfl (pc' := 3) rfl ?_
  refine s_iloadN k0 d15_3 rfl (pc' := 4) rfl ?_
  refine s_iconst k0 (z := 1) d15_4 (by decide) (pc' := 5) rfl ?_
  refine s_isub k0 d15_5 rfl (pc' := 6) rfl ?_
  refine s_iand k0 d15_6 rfl (pc' := 7) rfl ?_
  refine s_istoreN k0 d15_7 (l' := #[.val (.int ((p1 ^^^ (-1 : Int32)) &&& (p1 - (1 : Int32)))), .unset]) rfl (pc' := 8) rfl ?_
  refine s_iloadN k0 d15_8 rfl (pc' := 9) rfl ?_
  refine s_if_gt k0 d15_9 (by decide) (pc' := 17) (by decide) (pc3 := 12) rfl (fun hc9 => ?_) (fun hc9 => ?_)
  · refine s_iconst k0 (z := 1) d15_17 (by decide) (pc' := 18) rfl ?_
    refine s_istoreN k0 d15_18 (l' := #[.val (.int ((p1 ^^^ (-1 : Int32)) &&& (p1 - (1 : Int32)))), .val (.int (1 : Int32))]) rfl (pc' := 19) rfl ?_
    refine s_iloadN k0 d15_19 rfl (pc' := 20) rfl ?_
    refine s_ldcwI k0 d15_20 (hw _ (List.mem_of_getElem? (i := 51) rfl)) (pc' := 23) rfl ?_
    refine s_icmp_le k0 d15_23 (by decide) (pc' := 34) (by decide) (pc3 := 26) rfl (fun hc23 => ?_) (fun hc23 => ?_)
    · refine s_iinc k0 (z := (17 : Int32)) d15_26 rfl (by decide) (l' := #[.val (.int ((p1 ^^^ (-1 : Int32)) &&& (p1 - (1 : Int32)))), .val (.int (17 : Int32))]) rfl (pc' := 29) rfl ?_
      refine s_iloadN k0 d15_29 rfl (pc' := 30) rfl ?_
      refine s_bipush k0 (z := 16) d15_30 (by decide) (pc' := 32) rfl ?_
      refine s_iushr k0 d15_32 rfl (pc' := 33) rfl ?_
      refine s_istoreN k0 d15_33 (l' := #[.val (.int (Jvm.Free.XT.ushr ((p1 ^^^ (-1 : Int32)) &&& (p1 - (1 : Int32))) (16 : Int32))), .val (.int (17 : Int32))]) rfl (pc' := 34) rfl ?_
      refine s_iloadN k0 d15_34 rfl (pc' := 35) rfl ?_
      refine s_sipush k0 (z := 256) d15_35 (by decide) (pc' := 38) rfl ?_
      refine s_icmp_le k0 d15_38 (by decide) (pc' := 49) (by decide) (pc3 := 41) rfl (fun hc38 => ?_) (fun hc38 => ?_)
      · refine s_iinc k0 (z := (25 : Int32)) d15_41 rfl (by decide) (l' := #[.val (.int (Jvm.Free.XT.ushr ((p1 ^^^ (-1 : Int32)) &&& (p1 - (1 : Int32))) (16 : Int32))), .val (.int (25 : Int32))]) rfl (pc' := 44) rfl ?_
        refine s_iloadN k0 d15_44 rfl (pc' := 45) rfl ?_
        refine s_bipush k0 (z := 8) d15_45 (by decide) (pc' := 47) rfl ?_
        refine s_iushr k0 d15_47 rfl (pc' := 48) rfl ?_
        refine s_istoreN k0 d15_48 (l' := #[.val (.int (Jvm.Free.XT.ushr (Jvm.Free.XT.ushr ((p1 ^^^ (-1 : Int32)) &&& (p1 - (1 : Int32))) (16 : Int32)) (8 : Int32))), .val (.int (25 : Int32))]) rfl (pc' := 49) rfl ?_
        refine s_iloadN k0 d15_49 rfl (pc' := 50) rfl ?_
        refine s_bipush k0 (z := 16) d15_50 (by decide) (pc' := 52) rfl ?_
        refine s_icmp_le k0 d15_52 (by decide) (pc' := 62) (by decide) (pc3 := 55) rfl (fun hc52 => ?_) (fun hc52 => ?_)
        · refine s_iinc k0 (z := (29 : Int32)) d15_55 rfl (by decide) (l' := #[.val (.int (Jvm.Free.XT.ushr (Jvm.Free.XT.ushr ((p1 ^^^ (-1 : Int32)) &&& (p1 - (1 : Int32))) (16 : Int32)) (8 : Int32))), .val (.int (29 : Int32))]) rfl (pc' := 58) rfl ?_
          refine s_iloadN k0 d15_58 rfl (pc' := 59) rfl ?_
          refine s_iconst k0 (z := 4) d15_59 (by decide) (pc' := 60) rfl ?_
          refine s_iushr k0 d15_60 rfl (pc' := 61) rfl ?_
          refine s_istoreN k0 d15_61 (l' := #[.val (.int (Jvm.Free.XT.ushr (Jvm.Free.XT.ushr (Jvm.Free.XT.ushr ((p1 ^^^ (-1 : Int32)) &&& (p1 - (1 : Int32))) (16 : Int32)) (8 : Int32)) (4 : Int32))), .val (.int (29 : Int32))]) rfl (pc' := 62) rfl ?_
          refine s_iloadN k0 d15_62 rfl (pc' := 63) rfl ?_
          refine s_iconst k0 (z := 4) d15_63 (by decide) (pc' := 64) rfl ?_
          refine s_icmp_le k0 d15_64 (by decide) (pc' := 74) (by decide) (pc3 := 67) rfl (fun hc64 => ?_) (fun hc64 => ?_)
          · refine s_iinc k0 (z := (31 : Int32)) d15_67 rfl (by decide) (l' := #[.val (.int (Jvm.Free.XT.ushr (Jvm.Free.XT.ushr (Jvm.Free.XT.ushr ((p1 ^^^ (-1 : Int32)) &&& (p1 - (1 : Int32))) (16 : Int32)) (8 : Int32)) (4 : Int32))), .val (.int (31 : Int32))]) rfl (pc' := 70) rfl ?_
            refine s_iloadN k0 d15_70 rfl (pc' := 71) rfl ?_
            refine s_iconst k0 (z := 2) d15_71 (by decide) (pc' := 72) rfl ?_
            refine s_iushr k0 d15_72 rfl (pc' := 73) rfl ?_
            refine s_istoreN k0 d15_73 (l' := #[.val (.int (Jvm.Free.XT.ushr (Jvm.Free.XT.ushr (Jvm.Free.XT.ushr (Jvm.Free.XT.ushr ((p1 ^^^ (-1 : Int32)) &&& (p1 - (1 : Int32))) (16 : Int32)) (8 : Int32)) (4 : Int32)) (2 : Int32))), .val (.int (31 : Int32))]) rfl (pc' := 74) rfl ?_
            refine s_iloadN k0 d15_74 rfl (pc' := 75) rfl ?_
            refine s_iloadN k0 d15_75 rfl (pc' := 76) rfl ?_
            refine s_iconst k0 (z := 1) d15_76 (by decide) (pc' := 77) rfl ?_
            refine s_iushr k0 d15_77 rfl (pc' := 78) rfl ?_
            refine s_iadd k0 d15_78 rfl (pc' := 79) rfl ?_
            exact s_retI k0 d15_79 rfl hP (by decide) (by decide) ⟨by rw [ftz_eq, if_pos hc9, if_pos hc23, if_pos hc38, if_pos hc52, if_pos hc64], rfl⟩
          · refine s_iloadN k0 d15_74 rfl (pc' := 75) rfl ?_
            refine s_iloadN k0 d15_75 rfl (pc' := 76) rfl ?_
            refine s_iconst k0 (z := 1) d15_76 (by decide) (pc' := 77) rfl ?_
            refine s_iushr k0 d15_77 rfl (pc' := 78) rfl ?_
            refine s_iadd k0 d15_78 rfl (pc' := 79) rfl ?_
            exact s_retI k0 d15_79 rfl hP (by decide) (by decide) ⟨by rw [ftz_eq, if_pos hc9, if_pos hc23, if_pos hc38, if_pos hc52, if_neg hc64], rfl⟩
        · refine s_iloadN k0 d15_62 rfl (pc' := 63) rfl ?_
          refine s_iconst k0 (z := 4) d15_63 (by decide) (pc' := 64) rfl ?_
          refine s_icmp_le k0 d15_64 (by decide) (pc' := 74) (by decide) (pc3 := 67) rfl (fun hc64 => ?_) (fun hc64 => ?_)
          · refine s_iinc k0 (z := (27 : Int32)) d15_67 rfl (by decide) (l' := #[.val (.int (Jvm.Free.XT.ushr (Jvm.Free.XT.ushr ((p1 ^^^ (-1 : Int32)) &&& (p1 - (1 : Int32))) (16 : Int32)) (8 : Int32))), .val (.int (27 : Int32))]) rfl (pc' := 70) rfl ?_
            refine s_iloadN k0 d15_70 rfl (pc' := 71) rfl ?_
            refine s_iconst k0 (z := 2) d15_71 (by decide) (pc' := 72) rfl ?_
            refine s_iushr k0 d15_72 rfl (pc' := 73) rfl ?_
            refine s_istoreN k0 d15_73 (l' := #[.val (.int (Jvm.Free.XT.ushr (Jvm.Free.XT.ushr (Jvm.Free.XT.ushr ((p1 ^^^ (-1 : Int32)) &&& (p1 - (1 : Int32))) (16 : Int32)) (8 : Int32)) (2 : Int32))), .val (.int (27 : Int32))]) rfl (pc' := 74) rfl ?_
            refine s_iloadN k0 d15_74 rfl (pc' := 75) rfl ?_
            refine s_iloadN k0 d15_75 rfl (pc' := 76) rfl ?_
            refine s_iconst k0 (z := 1) d15_76 (by decide) (pc' := 77) rfl ?_
            refine s_iushr k0 d15_77 rfl (pc' := 78) rfl ?_
            refine s_iadd k0 d15_78 rfl (pc' := 79) rfl ?_
            exact s_retI k0 d15_79 rfl hP (by decide) (by decide) ⟨by rw [ftz_eq, if_pos hc9, if_pos hc23, if_pos hc38, if_neg hc52, if_pos hc64], rfl⟩
          · refine s_iloadN k0 d15_74 rfl (pc' := 75) rfl ?_
            refine s_iloadN k0 d15_75 rfl (pc' := 76) rfl ?_
            refine s_iconst k0 (z := 1) d15_76 (by decide) (pc' := 77) rfl ?_
            refine s_iushr k0 d15_77 rfl (pc' := 78) rfl ?_
            refine s_iadd k0 d15_78 rfl (pc' := 79) rfl ?_
            exact s_retI k0 d15_79 rfl hP (by decide) (by decide) ⟨by rw [ftz_eq, if_pos hc9, if_pos hc23, if_pos hc38, if_neg hc52, if_neg hc64], rfl⟩
      · refine s_iloadN k0 d15_49 rfl (pc' := 50) rfl ?_
        refine s_bipush k0 (z := 16) d15_50 (by decide) (pc' := 52) rfl ?_
        refine s_icmp_le k0 d15_52 (by decide) (pc' := 62) (by decide) (pc3 := 55) rfl (fun hc52 => ?_) (fun hc52 => ?_)
        · refine s_iinc k0 (z := (21 : Int32)) d15_55 rfl (by decide) (l' := #[.val (.int (Jvm.Free.XT.ushr ((p1 ^^^ (-1 : Int32)) &&& (p1 - (1 : Int32))) (16 : Int32))), .val (.int (21 : Int32))]) rfl (pc' := 58) rfl ?_
          refine s_iloadN k0 d15_58 rfl (pc' := 59) rfl ?_
          refine s_iconst k0 (z := 4) d15_59 (by decide) (pc' := 60) rfl ?_
          refine s_iushr k0 d15_60 rfl (pc' := 61) rfl ?_
          refine s_istoreN k0 d15_61 (l' := #[.val (.int (Jvm.Free.XT.ushr (Jvm.Free.XT.ushr ((p1 ^^^ (-1 : Int32)) &&& (p1 - (1 : Int32))) (16 : Int32)) (4 : Int32))), .val (.int (21 : Int32))]) rfl (pc' := 62) rfl ?_
          refine s_iloadN k0 d15_62 rfl (pc' := 63) rfl ?_
          refine s_iconst k0 (z := 4) d15_63 (by decide) (pc' := 64) rfl ?_
          refine s_icmp_le k0 d15_64 (by decide) (pc' := 74) (by decide) (pc3 := 67) rfl (fun hc64 => ?_) (fun hc64 => ?_)
          · refine s_iinc k0 (z := (23 : Int32)) d15_67 rfl (by decide) (l' := #[.val (.int (Jvm.Free.XT.ushr (Jvm.Free.XT.ushr ((p1 ^^^ (-1 : Int32)) &&& (p1 - (1 : Int32))) (16 : Int32)) (4 : Int32))), .val (.int (23 : Int32))]) rfl (pc' := 70) rfl ?_
            refine s_iloadN k0 d15_70 rfl (pc' := 71) rfl ?_
            refine s_iconst k0 (z := 2) d15_71 (by decide) (pc' := 72) rfl ?_
            refine s_iushr k0 d15_72 rfl (pc' := 73) rfl ?_
            refine s_istoreN k0 d15_73 (l' := #[.val (.int (Jvm.Free.XT.ushr (Jvm.Free.XT.ushr (Jvm.Free.XT.ushr ((p1 ^^^ (-1 : Int32)) &&& (p1 - (1 : Int32))) (16 : Int32)) (4 : Int32)) (2 : Int32))), .val (.int (23 : Int32))]) rfl (pc' := 74) rfl ?_
            refine s_iloadN k0 d15_74 rfl (pc' := 75) rfl ?_
            refine s_iloadN k0 d15_75 rfl (pc' := 76) rfl ?_
            refine s_iconst k0 (z := 1) d15_76 (by decide) (pc' := 77) rfl ?_
            refine s_iushr k0 d15_77 rfl (pc' := 78) rfl ?_
            refine s_iadd k0 d15_78 rfl (pc' := 79) rfl ?_
            exact s_retI k0 d15_79 rfl hP (by decide) (by decide) ⟨by rw [ftz_eq, if_pos hc9, if_pos hc23, if_neg hc38, if_pos hc52, if_pos hc64], rfl⟩
          · refine s_iloadN k0 d15_74 rfl (pc' := 75) rfl ?_
            refine s_iloadN k0 d15_75 rfl (pc' := 76) rfl ?_
            refine s_iconst k0 (z := 1) d15_76 (by decide) (pc' := 77) rfl ?_
            refine s_iushr k0 d15_77 rfl (pc' := 78) rfl ?_
            refine s_iadd k0 d15_78 rfl (pc' := 79) rfl ?_
            exact s_retI k0 d15_79 rfl hP (by decide) (by decide) ⟨by rw [ftz_eq, if_pos hc9, if_pos hc23, if_neg hc38, if_pos hc52, if_neg hc64], rfl⟩
        · refine s_iloadN k0 d15_62 rfl (pc' := 63) rfl ?_
          refine s_iconst k0 (z := 4) d15_63 (by decide) (pc' := 64) rfl ?_
          refine s_icmp_le k0 d15_64 (by decide) (pc' := 74) (by decide) (pc3 := 67) rfl (fun hc64 => ?_) (fun hc64 => ?_)
          · refine s_iinc k0 (z := (19 : Int32)) d15_67 rfl (by decide) (l' := #[.val (.int (Jvm.Free.XT.ushr ((p1 ^^^ (-1 : Int32)) &&& (p1 - (1 : Int32))) (16 : Int32))), .val (.int (19 : Int32))]) rfl (pc' := 70) rfl ?_
            refine s_iloadN k0 d15_70 rfl (pc' := 71) rfl ?_
            refine s_iconst k0 (z := 2) d15_71 (by decide) (pc' := 72) rfl ?_
            refine s_iushr k0 d15_72 rfl (pc' := 73) rfl ?_
            refine s_istoreN k0 d15_73 (l' := #[.val (.int (Jvm.Free.XT.ushr (Jvm.Free.XT.ushr ((p1 ^^^ (-1 : Int32)) &&& (p1 - (1 : Int32))) (16 : Int32)) (2 : Int32))), .val (.int (19 : Int32))]) rfl (pc' := 74) rfl ?_
            refine s_iloadN k0 d15_74 rfl (pc' := 75) rfl ?_
            refine s_iloadN k0 d15_75 rfl (pc' := 76) rfl ?_
            refine s_iconst k0 (z := 1) d15_76 (by decide) (pc' := 77) rfl ?_
            refine s_iushr k0 d15_77 rfl (pc' := 78) rfl ?_
            refine s_iadd k0 d15_78 rfl (pc' := 79) rfl ?_
            exact s_retI k0 d15_79 rfl hP (by decide) (by decide) ⟨by rw [ftz_eq, if_pos hc9, if_pos hc23, if_neg hc38, if_neg hc52, if_pos hc64], rfl⟩
          · refine s_iloadN k0 d15_74 rfl (pc' := 75) rfl ?_
            refine s_iloadN k0 d15_75 rfl (pc' := 76) rfl ?_
            refine s_iconst k0 (z := 1) d15_76 (by decide) (pc' := 77) rfl ?_
            refine s_iushr k0 d15_77 rfl (pc' := 78) rfl ?_
            refine s_iadd k0 d15_78 rfl (pc' := 79) rfl ?_
            exact s_retI k0 d15_79 rfl hP (by decide) (by decide) ⟨by rw [ftz_eq, if_pos hc9, if_pos hc23, if_neg hc38, if_neg hc52, if_neg hc64], rfl⟩
    · refine s_iloadN k0 d15_34 rfl (pc' := 35) rfl ?_
      refine s_sipush k0 (z := 256) d15_35 (by decide) (pc' := 38) rfl ?_
      refine s_icmp_le k0 d15_38 (by decide) (pc' := 49) (by decide) (pc3 := 41) rfl (fun hc38 => ?_) (fun hc38 => ?_)
      · refine s_iinc k0 (z := (9 : Int32)) d15_41 rfl (by decide) (l' := #[.val (.int ((p1 ^^^ (-1 : Int32)) &&& (p1 - (1 : Int32)))), .val (.int (9 : Int32))]) rfl (pc' := 44) rfl ?_
        refine s_iloadN k0 d15_44 rfl (pc' := 45) rfl ?_
        refine s_bipush k0 (z := 8) d15_45 (by decide) (pc' := 47) rfl ?_
        refine s_iushr k0 d15_47 rfl (pc' := 48) rfl ?_
        refine s_istoreN k0 d15_48 (l' := #[.val (.int (Jvm.Free.XT.ushr ((p1 ^^^ (-1 : Int32)) &&& (p1 - (1 : Int32))) (8 : Int32))), .val (.int (9 : Int32))]) rfl (pc' := 49) rfl ?_
        refine s_iloadN k0 d15_49 rfl (pc' := 50) rfl ?_
        refine s_bipush k0 (z := 16) d15_50 (by decide) (pc' := 52) rfl ?_
        refine s_icmp_le k0 d15_52 (by decide) (pc' := 62) (by decide) (pc3 := 55) rfl (fun hc52 => ?_) (fun hc52 => ?_)
        · refine s_iinc k0 (z := (13 : Int32)) d15_55 rfl (by decide) (l' := #[.val (.int (Jvm.Free.XT.ushr ((p1 ^^^ (-1 : Int32)) &&& (p1 - (1 : Int32))) (8 : Int32))), .val (.int (13 : Int32))]) rfl (pc' := 58) rfl ?_
          refine s_iloadN k0 d15_58 rfl (pc' := 59) rfl ?_
          refine s_iconst k0 (z := 4) d15_59 (by decide) (pc' := 60) rfl ?_
          refine s_iushr k0 d15_60 rfl (pc' := 61) rfl ?_
          refine s_istoreN k0 d15_61 (l' := #[.val (.int (Jvm.Free.XT.ushr (Jvm.Free.XT.ushr ((p1 ^^^ (-1 : Int32)) &&& (p1 - (1 : Int32))) (8 : Int32)) (4 : Int32))), .val (.int (13 : Int32))]) rfl (pc' := 62) rfl ?_
          refine s_iloadN k0 d15_62 rfl (pc' := 63) rfl ?_
          refine s_iconst k0 (z := 4) d15_63 (by decide) (pc' := 64) rfl ?_
          refine s_icmp_le k0 d15_64 (by decide) (pc' := 74) (by decide) (pc3 := 67) rfl (fun hc64 => ?_) (fun hc64 => ?_)
          · refine s_iinc k0 (z := (15 : Int32)) d15_67 rfl (by decide) (l' := #[.val (.int (Jvm.Free.XT.ushr (Jvm.Free.XT.ushr ((p1 ^^^ (-1 : Int32)) &&& (p1 - (1 : Int32))) (8 : Int32)) (4 : Int32))), .val (.int (15 : Int32))]) rfl (pc' := 70) rfl ?_
            refine s_iloadN k0 d15_70 rfl (pc' := 71) rfl ?_
            refine s_iconst k0 (z := 2) d15_71 (by decide) (pc' := 72) rfl ?_
            refine s_iushr k0 d15_72 rfl (pc' := 73) rfl ?_
            refine s_istoreN k0 d15_73 (l' := #[.val (.int (Jvm.Free.XT.ushr (Jvm.Free.XT.ushr (Jvm.Free.XT.ushr ((p1 ^^^ (-1 : Int32)) &&& (p1 - (1 : Int32))) (8 : Int32)) (4 : Int32)) (2 : Int32))), .val (.int (15 : Int32))]) rfl (pc' := 74) rfl ?_
            refine s_iloadN k0 d15_74 rfl (pc' := 75) rfl ?_
            refine s_iloadN k0 d15_75 rfl (pc' := 76) rfl ?_
            refine s_iconst k0 (z := 1) d15_76 (by decide) (pc' := 77) rfl ?_
            refine s_iushr k0 d15_77 rfl (pc' := 78) rfl ?_
            refine s_iadd k0 d15_78 rfl (pc' := 79) rfl ?_
            exact s_retI k0 d15_79 rfl hP (by decide) (by decide) ⟨by rw [ftz_eq, if_pos hc9, if_neg hc23, if_pos hc38, if_pos hc52, if_pos hc64], rfl⟩
          · refine s_iloadN k0 d15_74 rfl (pc' := 75) rfl ?_
            refine s_iloadN k0 d15_75 rfl (pc' := 76) rfl ?_
            refine s_iconst k0 (z := 1) d15_76 (by decide) (pc' := 77) rfl ?_
            refine s_iushr k0 d15_77 rfl (pc' := 78) rfl ?_
            refine s_iadd k0 d15_78 rfl (pc' := 79) rfl ?_
            exact s_retI k0 d15_79 rfl hP (by decide) (by decide) ⟨by rw [ftz_eq, if_pos hc9, if_neg hc23, if_pos hc38, if_pos hc52, if_neg hc64], rfl⟩
        · refine s_iloadN k0 d15_62 rfl (pc' := 63) rfl ?_
          refine s_iconst k0 (z := 4) d15_63 (by decide) (pc' := 64) rfl ?_
          refine s_icmp_le k0 d15_64 (by decide) (pc' := 74) (by decide) (pc3 := 67) rfl (fun hc64 => ?_) (fun hc64 => ?_)
          · refine s_iinc k0 (z := (11 : Int32)) d15_67 rfl (by decide) (l' := #[.val (.int (Jvm.Free.XT.ushr ((p1 ^^^ (-1 : Int32)) &&& (p1 - (1 : Int32))) (8 : Int32))), .val (.int (11 : Int32))]) rfl (pc' := 70) rfl ?_
            refine s_iloadN k0 d15_70 rfl (pc' := 71) rfl ?_
            refine s_iconst k0 (z := 2) d15_71 (by decide) (pc' := 72) rfl ?_
            refine s_iushr k0 d15_72 rfl (pc' := 73) rfl ?_
            refine s_istoreN k0 d15_73 (l' := #[.val (.int (Jvm.Free.XT.ushr (Jvm.Free.XT.ushr ((p1 ^^^ (-1 : Int32)) &&& (p1 - (1 : Int32))) (8 : Int32)) (2 : Int32))), .val (.int (11 : Int32))]) rfl (pc' := 74) rfl ?_
            refine s_iloadN k0 d15_74 rfl (pc' := 75) rfl ?_
            refine s_iloadN k0 d15_75 rfl (pc' := 76) rfl ?_
            refine s_iconst k0 (z := 1) d15_76 (by decide) (pc' := 77) rfl ?_
            refine s_iushr k0 d15_77 rfl (pc' := 78) rfl ?_
            refine s_iadd k0 d15_78 rfl (pc' := 79) rfl ?_
            exact s_retI k0 d15_79 rfl hP (by decide) (by decide) ⟨by rw [ftz_eq, if_pos hc9, if_neg hc23, if_pos hc38, if_neg hc52, if_pos hc64], rfl⟩
          · refine s_iloadN k0 d15_74 rfl (pc' := 75) rfl ?_
            refine s_iloadN k0 d15_75 rfl (pc' := 76) rfl ?_
            refine s_iconst k0 (z := 1) d15_76 (by decide) (pc' := 77) rfl ?_
            refine s_iushr k0 d15_77 rfl (pc' := 78) rfl ?_
            refine s_iadd k0 d15_78 rfl (pc' := 79) rfl ?_
            exact s_retI k0 d15_79 rfl hP (by decide) (by decide) ⟨by rw [ftz_eq, if_pos hc9, if_neg hc23, if_pos hc38, if_neg hc52, if_neg hc64], rfl⟩
      · refine s_iloadN k0 d15_49 rfl (pc' := 50) rfl ?_
        refine s_bipush k0 (z := 16) d15_50 (by decide) (pc' := 52) rfl ?_
        refine s_icmp_le k0 d15_52 (by decide) (pc' := 62) (by decide) (pc3 := 55) rfl (fun hc52 => ?_) (fun hc52 => ?_)
        · refine s_iinc k0 (z := (5 : Int32)) d15_55 rfl (by decide) (l' := #[.val (.int ((p1 ^^^ (-1 : Int32)) &&& (p1 - (1 : Int32)))), .val (.int (5 : Int32))]) rfl (pc' := 58) rfl ?_
          refine s_iloadN k0 d15_58 rfl (pc' := 59) rfl ?_
          refine s_iconst k0 (z := 4) d15_59 (by decide) (pc' := 60) rfl ?_
          refine s_iushr k0 d15_60 rfl (pc' := 61) rfl ?_
          refine s_istoreN k0 d15_61 (l' := #[.val (.int (Jvm.Free.XT.ushr ((p1 ^^^ (-1 : Int32)) &&& (p1 - (1 : Int32))) (4 : Int32))), .val (.int (5 : Int32))]) rfl (pc' := 62) rfl ?_
          refine s_iloadN k0 d15_62 rfl (pc' := 63) rfl ?_
          refine s_iconst k0 (z := 4) d15_63 (by decide) (pc' := 64) rfl ?_
          refine s_icmp_le k0 d15_64 (by decide) (pc' := 74) (by decide) (pc3 := 67) rfl (fun hc64 => ?_) (fun hc64 => ?_)
          · refine s_iinc k0 (z := (7 : Int32)) d15_67 rfl (by decide) (l' := #[.val (.int (Jvm.Free.XT.ushr ((p1 ^^^ (-1 : Int32)) &&& (p1 - (1 : Int32))) (4 : Int32))), .val (.int (7 : Int32))]) rfl (pc' := 70) rfl ?_
            refine s_iloadN k0 d15_70 rfl (pc' := 71) rfl ?_
            refine s_iconst k0 (z := 2) d15_71 (by decide) (pc' := 72) rfl ?_
            refine s_iushr k0 d15_72 rfl (pc' := 73) rfl ?_
            refine s_istoreN k0 d15_73 (l' := #[.val (.int (Jvm.Free.XT.ushr (Jvm.Free.XT.ushr ((p1 ^^^ (-1 : Int32)) &&& (p1 - (1 : Int32))) (4 : Int32)) (2 : Int32))), .val (.int (7 : Int32))]) rfl (pc' := 74) rfl ?_
            refine s_iloadN k0 d15_74 rfl (pc' := 75) rfl ?_
            refine s_iloadN k0 d15_75 rfl (pc' := 76) rfl ?_
            refine s_iconst k0 (z := 1) d15_76 (by decide) (pc' := 77) rfl ?_
            refine s_iushr k0 d15_77 rfl (pc' := 78) rfl ?_
            refine s_iadd k0 d15_78 rfl (pc' := 79) rfl ?_
            exact s_retI k0 d15_79 rfl hP (by decide) (by decide) ⟨by rw [ftz_eq, if_pos hc9, if_neg hc23, if_neg hc38, if_pos hc52, if_pos hc64], rfl⟩
          · refine s_iloadN k0 d15_74 rfl (pc' := 75) rfl ?_
            refine s_iloadN k0 d15_75 rfl (pc' := 76) rfl ?_
            refine s_iconst k0 (z := 1) d15_76 (by decide) (pc' := 77) rfl ?_
            refine s_iushr k0 d15_77 rfl (pc' := 78) rfl ?_
            refine s_iadd k0 d15_78 rfl (pc' := 79) rfl ?_
            exact s_retI k0 d15_79 rfl hP (by decide) (by decide) ⟨by rw [ftz_eq, if_pos hc9, if_neg hc23, if_neg hc38, if_pos hc52, if_neg hc64], rfl⟩
        · refine s_iloadN k0 d15_62 rfl (pc' := 63) rfl ?_
          refine s_iconst k0 (z := 4) d15_63 (by decide) (pc' := 64) rfl ?_
          refine s_icmp_le k0 d15_64 (by decide) (pc' := 74) (by decide) (pc3 := 67) rfl (fun hc64 => ?_) (fun hc64 => ?_)
          · refine s_iinc k0 (z := (3 : Int32)) d15_67 rfl (by decide) (l' := #[.val (.int ((p1 ^^^ (-1 : Int32)) &&& (p1 - (1 : Int32)))), .val (.int (3 : Int32))]) rfl (pc' := 70) rfl ?_
            refine s_iloadN k0 d15_70 rfl (pc' := 71) rfl ?_
            refine s_iconst k0 (z := 2) d15_71 (by decide) (pc' := 72) rfl ?_
            refine s_iushr k0 d15_72 rfl (pc' := 73) rfl ?_
            refine s_istoreN k0 d15_73 (l' := #[.val (.int (Jvm.Free.XT.ushr ((p1 ^^^ (-1 : Int32)) &&& (p1 - (1 : Int32))) (2 : Int32))), .val (.int (3 : Int32))]) rfl (pc' := 74) rfl ?_
            refine s_iloadN k0 d15_74 rfl (pc' := 75) rfl ?_
            refine s_iloadN k0 d15_75 rfl (pc' := 76) rfl ?_
            refine s_iconst k0 (z := 1) d15_76 (by decide) (pc' := 77) rfl ?_
            refine s_iushr k0 d15_77 rfl (pc' := 78) rfl ?_
            refine s_iadd k0 d15_78 rfl (pc' := 79) rfl ?_
            exact s_retI k0 d15_79 rfl hP (by decide) (by decide) ⟨by rw [ftz_eq, if_pos hc9, if_neg hc23, if_neg hc38, if_neg hc52, if_pos hc64], rfl⟩
          · refine s_iloadN k0 d15_74 rfl (pc' := 75) rfl ?_
            refine s_iloadN k0 d15_75 rfl (pc' := 76) rfl ?_
            refine s_iconst k0 (z := 1) d15_76 (by decide) (pc' := 77) rfl ?_
            refine s_iushr k0 d15_77 rfl (pc' := 78) rfl ?_
            refine s_iadd k0 d15_78 rfl (pc' := 79) rfl ?_
            exact s_retI k0 d15_79 rfl hP (by decide) (by decide) ⟨by rw [ftz_eq, if_pos hc9, if_neg hc23, if_neg hc38, if_neg hc52, if_neg hc64], rfl⟩
  · refine s_iloadN k0 d15_12 rfl (pc' := 13) rfl ?_
    refine s_bipush k0 (z := 32) d15_13 (by decide) (pc' := 15) rfl ?_
    refine s_iand k0 d15_15 rfl (pc' := 16) rfl ?_
    exact s_retI k0 d15_16 rfl hP (by decide) (by decide) ⟨by rw [ftz_eq, if_neg hc9], rfl⟩
theorem d14_0 : decode jdk_35_method_49_code 0 = .ok (.lload_n 0, 1) := by decide +kernel
theorem d14_1 : decode jdk_35_method_49_code 1 = .ok (.l2i, 1) := by decide +kernel
theorem d14_2 : decode jdk_35_method_49_code 2 = .ok (.istore_n 2, 1) := by decide +kernel
theorem d14_3 : decode jdk_35_method_49_code 3 = .ok (.iload_n 2, 1) := by decide +kernel
theorem d14_4 : decode jdk_35_method_49_code 4 = .ok (.ifCond .ne 17, 3) := by decide +kernel
theorem d14_7 : decode jdk_35_method_49_code 7 = .ok (.bipush 32, 2) := by decide +kernel
theorem d14_9 : decode jdk_35_method_49_code 9 = .ok (.lload_n 0, 1) := by decide +kernel
theorem d14_10 : decode jdk_35_method_49_code 10 = .ok (.bipush 32, 2) := by decide +kernel
theorem d14_12 : decode jdk_35_method_49_code 12 = .ok (.lushr, 1) := by decide +kernel
theorem d14_13 : decode jdk_35_method_49_code 13 = .ok (.l2i, 1) := by decide +kernel
theorem d14_14 : decode jdk_35_method_49_code 14 = .ok (.invokestatic 311, 3) := by decide +kernel
theorem d14_17 : decode jdk_35_method_49_code 17 = .ok (.iadd, 1) := by decide +kernel
theorem d14_18 : decode jdk_35_method_49_code 18 = .ok (.goto 7, 3) := by decide +kernel
theorem d14_21 : decode jdk_35_method_49_code 21 = .ok (.iload_n 2, 1) := by decide +kernel
theorem d14_22 : decode jdk_35_method_49_code 22 = .ok (.invokestatic 311, 3) := by decide +kernel
theorem d14_25 : decode jdk_35_method_49_code 25 = .ok (.ireturn, 1) := by decide +kernel
theorem pn_14_rmntz : plainFor (⟨"java/lang/Long", "numberOfTrailingZeros", "(J)I"⟩ : MethodName) = true := plainFor_of_name (by first | (simp [plainName, overriddenIn]; done) | decide +kernel)
def fntz (p1 : Int64) : Int32 := (if p1.toInt32 = (0 : Int32) then ((32 : Int32) + (ftz (Jvm.Free.XT.ushrL p1 (32 : Int32)).toInt32)) else (ftz p1.toInt32))
theorem fntz_eq (p1 : Int64) : fntz p1 = (if p1.toInt32 = (0 : Int32) then ((32 : Int32) + (ftz (Jvm.Free.XT.ushrL p1 (32 : Int32)).toInt32)) else (ftz p1.toInt32)) := rfl
theorem ef_rmntz {p1 : Int64} (m : MethodId) : entryFrame m #[.long p1] 3 = mkF m 0 #[.val (.long p1), .second, .unset] [] := by first | (simp [entryFrame, mkF, argsToLocals, Value.category]; done) | rfl
set_option maxRecDepth 65536 in
set_option maxHeartbeats 40000000 in
theorem rmntz (l : Launch) (Z : State) (a0 : Array Value) (hw : ∀ d ∈ tables_1, d.before a0 Z = true) (p1 : Int64) (h0 : Heap) (n0 : Nat) (Z0 : n0 ≤ h0.size)  :
    Met l Z (⟨"java/lang/Long", "numberOfTrailingZeros", "(J)I"⟩ : MethodName) jdk_35_method_49_code 3 (some .int) ({ frames := 1, cells := 0, slots := 0, locals := 20 } : Room) n0 #[.long p1] h0 (fun v h => v = some (.int (fntz p1)) ∧ h0 = h) := by
  refine Met.of (Ls := #[.val (.long p1), .second, .unset]) pn_14_rmntz (fun m => ef_rmntz m) fun p e s m below meth c T0 P hP k0 => ?_
  refine s_lloadN k0 d14_0 rfl (pc' := 1) rfl ?_
  refine s_l2i k0 d14_1 rfl (pc' := 2) rfl ?_
  refine s_istoreN k0 d14_2 (l' := #[.val (.long p1), .second, .val (.int p1.toInt32)]) rfl (pc' := 3) rfl ?_
  refine s_iloadN k0 d14_3 rfl (pc' := 4) rfl ?_
  refine s_if_ne k0 d14_4 (by decide) (pc' := 21) (by decide) (pc3 := 7) rfl (fun hc4 => ?_) (fun hc4 => ?_)
  · refine s_bipush k0 (z := 32) d14_7 (by decide) (pc' := 9) rfl ?_
    refine s_lloadN k0 d14_9 rfl (pc' := 10) rfl ?_
    refine s_bipush k0 (z := 32) d14_10 (by decide) (pc' := 12) rfl ?_
    refine s_lushr k0 d14_12 rfl (pc' := 13) rfl ?_
    refine s_l2i k0 d14_13 rfl (pc' := 14) rfl ?_
    refine s_callS k0 [.int (Jvm.Free.XT.ushrL p1 (32 : Int32)).toInt32] 1 d14_14 (hw _ (List.mem_of_getElem? (i := 93) rfl)) (hw _ (List.mem_of_getElem? (i := 94) rfl)) (hw _ (List.mem_of_getElem? (i := 49) rfl)) (hw _ (List.mem_of_getElem? (i := 95) rfl)) (by decide) (rmtz l Z a0 hw (Jvm.Free.XT.ushrL p1 (32 : Int32)).toInt32 h0 n0 Z0 ) (by decide) (by decide) pd__28I_29I rfl (Nat.le_of_eq rfl) rfl (by decide) (by decide) rfl (pc' := 17) rfl fun v1 T1 h1 L1 k1 Qv1 => ?_
    obtain ⟨rfl, rfl⟩ := Qv1
    show Go p e below P T1 (mkF m 17 #[.val (.long p1), .second, .val (.int p1.toInt32)] [.int (ftz (Jvm.Free.XT.ushrL p1 (32 : Int32)).toInt32), .int (32 : Int32)])
    refine s_iadd k1 d14_17 rfl (pc' := 18) rfl ?_
    refine s_goto k1 d14_18 (by decide) (pc' := 25) (by decide) ?_
    exact s_retI k1 d14_25 rfl hP (by decide) (by decide) ⟨by rw [fntz_eq, if_pos hc4], rfl⟩
  · refine s_iloadN k0 d14_21 rfl (pc' := 22) rfl ?_
    refine s_callS k0 [.int p1.toInt32] 0 d14_22 (hw _ (List.mem_of_getElem? (i := 93) rfl)) (hw _ (List.mem_of_getElem? (i := 94) rfl)) (hw _ (List.mem_of_getElem? (i := 49) rfl)) (hw _ (List.mem_of_getElem? (i := 95) rfl)) (by decide) (rmtz l Z a0 hw p1.toInt32 h0 n0 Z0 ) (by decide) (by decide) pd__28I_29I rfl (Nat.le_of_eq rfl) rfl (by decide) (by decide) rfl (pc' := 25) rfl fun v2 T2 h2 L2 k2 Qv2 => ?_
    obtain ⟨rfl, rfl⟩ := Qv2
    show Go p e below P T2 (mkF m 25 #[.val (.long p1), .second, .val (.int p1.toInt32)] [.int (ftz p1.toInt32)])
    exact s_retI k2 d14_25 rfl hP (by decide) (by decide) ⟨by rw [fntz_eq, if_neg hc4], rfl⟩
theorem d13_0 : decode jdk_29_method_70_code 0 = .ok (.lload_n 0, 1) := by decide +kernel
theorem d13_1 : decode jdk_29_method_70_code 1 = .ok (.lload_n 2, 1) := by decide +kernel
theorem d13_2 : decode jdk_29_method_70_code 2 = .ok (.lcmp, 1) := by decide +kernel
theorem d13_3 : decode jdk_29_method_70_code 3 = .ok (.ifCond .gt 7, 3) := by decide +kernel
theorem d13_6 : decode jdk_29_method_70_code 6 = .ok (.lload_n 0, 1) := by decide +kernel
theorem d13_7 : decode jdk_29_method_70_code 7 = .ok (.goto 4, 3) := by decide +kernel
theorem d13_10 : decode jdk_29_method_70_code 10 = .ok (.lload_n 2, 1) := by decide +kernel
theorem d13_11 : decode jdk_29_method_70_code 11 = .ok (.lreturn, 1) := by decide +kernel
theorem pn_13_rmmin : plainFor (⟨"java/lang/Math", "min", "(JJ)J"⟩ : MethodName) = true := by decide +kernel
def fmin (p1 : Int64) (p2 : Int64) : Int64 := (if p2 < p1 then p2 else p1)
theorem fmin_eq (p1 : Int64) (p2 : Int64) : fmin p1 p2 = (if p2 < p1 then p2 else p1) := rfl
theorem ef_rmmin {p1 : Int64} {p2 : Int64} (m : MethodId) : entryFrame m #[.long p1, .long p2] 4 = mkF m 0 #[.val (.long p1), .second, .val (.long p2), .second] [] := by first | (simp [entryFrame, mkF, argsToLocals, Value.category]; done) | rfl
set_option maxRecDepth 65536 in
set_option maxHeartbeats 40000000 in
theorem rmmin (l : Launch) (Z : State) (a0 : Array Value) (hw : ∀ d ∈ tables_1, d.before a0 Z = true) (p1 : Int64) (p2 : Int64) (h0 : Heap) (n0 : Nat) (Z0 : n0 ≤ h0.size)  :
    Met l Z (⟨"java/lang/Math", "min", "(JJ)J"⟩ : MethodName) jdk_29_method_70_code 4 (some .long) ({ frames := 0, cells := 0, slots := 0, locals := 0 } : Room) n0 #[.long p1, .long p2] h0 (fun v h => v = some (.long (fmin p1 p2)) ∧ h0 = h) := by
  refine Met.of (Ls := #[.val (.long p1), .second, .val (.long p2), .second]) pn_13_rmmin (fun m => ef_rmmin m) fun p e s m below meth c T0 P hP k0 => ?_
  refine s_lloadN k0 d13_0 rfl (pc' := 1) rfl ?_
  refine s_lloadN k0 d13_1 rfl (pc' := 2) rfl ?_
  refine s_lcmp_gt k0 d13_2 rfl d13_3 (by decide) (pc' := 10) (by decide) (pc3 := 6) rfl (fun hc2 => ?_) (fun hc2 => ?_)
  · refine s_lloadN k0 d13_10 rfl (pc' := 11) rfl ?_
    exact s_retL k0 d13_11 rfl hP (by decide) (by decide) ⟨by rw [fmin_eq, if_pos hc2], rfl⟩
  · refine s_lloadN k0 d13_6 rfl (pc' := 7) rfl ?_
    refine s_goto k0 d13_7 (by decide) (pc' := 11) (by decide) ?_
    exact s_retL k0 d13_11 rfl hP (by decide) (by decide) ⟨by rw [fmin_eq, if_neg hc2], rfl⟩
theorem d1_0 : decode method_3_code 0 = .ok (.iload 4, 2) := by decide +kernel
theorem d1_2 : decode method_3_code 2 = .ok (.ifCond .ne 5, 3) := by decide +kernel
theorem d1_5 : decode method_3_code 5 = .ok (.lload_n 2, 1) := by decide +kernel
theorem d1_6 : decode method_3_code 6 = .ok (.lreturn, 1) := by decide +kernel
theorem d1_7 : decode method_3_code 7 = .ok (.iload 4, 2) := by decide +kernel
theorem d1_9 : decode method_3_code 9 = .ok (.iconst 1, 1) := by decide +kernel
theorem d1_10 : decode method_3_code 10 = .ok (.if_icmp .ne 11, 3) := by decide +kernel
theorem d1_13 : decode method_3_code 13 = .ok (.lload_n 0, 1) := by decide +kernel
theorem d1_14 : decode method_3_code 14 = .ok (.lload_n 2, 1) := by decide +kernel
theorem d1_15 : decode method_3_code 15 = .ok (.ldc2_w 52, 3) := by decide +kernel
theorem d1_18 : decode method_3_code 18 = .ok (.land, 1) := by decide +kernel
theorem d1_19 : decode method_3_code 19 = .ok (.ladd, 1) := by decide +kernel
theorem d1_20 : decode method_3_code 20 = .ok (.lreturn, 1) := by decide +kernel
theorem d1_21 : decode method_3_code 21 = .ok (.iload 4, 2) := by decide +kernel
theorem d1_23 : decode method_3_code 23 = .ok (.iconst 2, 1) := by decide +kernel
theorem d1_24 : decode method_3_code 24 = .ok (.if_icmp .ne 11, 3) := by decide +kernel
theorem d1_27 : decode method_3_code 27 = .ok (.lload_n 0, 1) := by decide +kernel
theorem d1_28 : decode method_3_code 28 = .ok (.lload_n 2, 1) := by decide +kernel
theorem d1_29 : decode method_3_code 29 = .ok (.ldc2_w 54, 3) := by decide +kernel
theorem d1_32 : decode method_3_code 32 = .ok (.land, 1) := by decide +kernel
theorem d1_33 : decode method_3_code 33 = .ok (.ladd, 1) := by decide +kernel
theorem d1_34 : decode method_3_code 34 = .ok (.lreturn, 1) := by decide +kernel
theorem d1_35 : decode method_3_code 35 = .ok (.lload_n 0, 1) := by decide +kernel
theorem d1_36 : decode method_3_code 36 = .ok (.lload_n 2, 1) := by decide +kernel
theorem d1_37 : decode method_3_code 37 = .ok (.ldc2_w 56, 3) := by decide +kernel
theorem d1_40 : decode method_3_code 40 = .ok (.land, 1) := by decide +kernel
theorem d1_41 : decode method_3_code 41 = .ok (.ladd, 1) := by decide +kernel
theorem d1_42 : decode method_3_code 42 = .ok (.lreturn, 1) := by decide +kernel
theorem pn_1_rmdl : plainFor (⟨"com/example/gull/gull/TimerWheelRemovePinLaw", "deadline", "(JJI)J"⟩ : MethodName) = true := plainFor_of_name (by first | (simp [plainName, overriddenIn]; done) | decide +kernel)
def fdl (p1 : Int64) (p2 : Int64) (p3 : Int32) : Int64 := (if p3 = (0 : Int32) then p2 else (if p3 = (1 : Int32) then (p1 + (p2 &&& (127 : Int64))) else (if p3 = (2 : Int32) then (p1 + (p2 &&& (16777215 : Int64))) else (p1 + (p2 &&& (68719476735 : Int64))))))
theorem fdl_eq (p1 : Int64) (p2 : Int64) (p3 : Int32) : fdl p1 p2 p3 = (if p3 = (0 : Int32) then p2 else (if p3 = (1 : Int32) then (p1 + (p2 &&& (127 : Int64))) else (if p3 = (2 : Int32) then (p1 + (p2 &&& (16777215 : Int64))) else (p1 + (p2 &&& (68719476735 : Int64)))))) := rfl
theorem ef_rmdl {p1 : Int64} {p2 : Int64} {p3 : Int32} (m : MethodId) : entryFrame m #[.long p1, .long p2, .int p3] 5 = mkF m 0 #[.val (.long p1), .second, .val (.long p2), .second, .val (.int p3)] [] := by first | (simp [entryFrame, mkF, argsToLocals, Value.category]; done) | rfl
set_option maxRecDepth 65536 in
set_option maxHeartbeats 40000000 in
theorem rmdl (l : Launch) (Z : State) (a0 : Array Value) (hw : ∀ d ∈ tables_1, d.before a0 Z = true) (p1 : Int64) (p2 : Int64) (p3 : Int32) (h0 : Heap) (n0 : Nat) (Z0 : n0 ≤ h0.size)  :
    Met l Z (⟨"com/example/gull/gull/TimerWheelRemovePinLaw", "deadline", "(JJI)J"⟩ : MethodName) method_3_code 5 (some .long) ({ frames := 0, cells := 0, slots := 0, locals := 0 } : Room) n0 #[.long p1, .long p2, .int p3] h0 (fun v h => v = some (.long (fdl p1 p2 p3)) ∧ h0 = h) := by
  refine Met.of (Ls := #[.val (.long p1), .second, .val (.long p2), .second, .val (.int p3)]) pn_1_rmdl (fun m => ef_rmdl m) fun p e s m below meth c T0 P hP k0 => ?_
  refine s_iload k0 d1_0 rfl (pc' := 2) rfl ?_
  refine s_if_ne k0 d1_2 (by decide) (pc' := 7) (by decide) (pc3 := 5) rfl (fun hc2 => ?_) (fun hc2 => ?_)
  · refine s_lloadN k0 d1_5 rfl (pc' := 6) rfl ?_
    exact s_retL k0 d1_6 rfl hP (by decide) (by decide) ⟨by rw [fdl_eq, if_pos hc2], rfl⟩
  · refine s_iload k0 d1_7 rfl (pc' := 9) rfl ?_
    refine s_iconst k0 (z := 1) d1_9 (by decide) (pc' := 10) rfl ?_
    refine s_icmp_ne k0 d1_10 (by decide) (pc' := 21) (by decide) (pc3 := 13) rfl (fun hc10 => ?_) (fun hc10 => ?_)
    · refine s_lloadN k0 d1_13 rfl (pc' := 14) rfl ?_
      refine s_lloadN k0 d1_14 rfl (pc' := 15) rfl ?_
      refine s_ldcL k0 d1_15 (hw _ (List.mem_of_getElem? (i := 103) rfl)) (pc' := 18) rfl ?_
      refine s_land k0 d1_18 rfl (pc' := 19) rfl ?_
      refine s_ladd k0 d1_19 rfl (pc' := 20) rfl ?_
      exact s_retL k0 d1_20 rfl hP (by decide) (by decide) ⟨by rw [fdl_eq, if_neg hc2, if_pos hc10], rfl⟩
    · refine s_iload k0 d1_21 rfl (pc' := 23) rfl ?_
      refine s_iconst k0 (z := 2) d1_23 (by decide) (pc' := 24) rfl ?_
      refine s_icmp_ne k0 d1_24 (by decide) (pc' := 35) (by decide) (pc3 := 27) rfl (fun hc24 => ?_) (fun hc24 => ?_)
      · refine s_lloadN k0 d1_27 rfl (pc' := 28) rfl ?_
        refine s_lloadN k0 d1_28 rfl (pc' := 29) rfl ?_
        refine s_ldcL k0 d1_29 (hw _ (List.mem_of_getElem? (i := 4) rfl)) (pc' := 32) rfl ?_
        refine s_land k0 d1_32 rfl (pc' := 33) rfl ?_
        refine s_ladd k0 d1_33 rfl (pc' := 34) rfl ?_
        exact s_retL k0 d1_34 rfl hP (by decide) (by decide) ⟨by rw [fdl_eq, if_neg hc2, if_neg hc10, if_pos hc24], rfl⟩
      · refine s_lloadN k0 d1_35 rfl (pc' := 36) rfl ?_
        refine s_lloadN k0 d1_36 rfl (pc' := 37) rfl ?_
        refine s_ldcL k0 d1_37 (hw _ (List.mem_of_getElem? (i := 102) rfl)) (pc' := 40) rfl ?_
        refine s_land k0 d1_40 rfl (pc' := 41) rfl ?_
        refine s_ladd k0 d1_41 rfl (pc' := 42) rfl ?_
        exact s_retL k0 d1_42 rfl hP (by decide) (by decide) ⟨by rw [fdl_eq, if_neg hc2, if_neg hc10, if_neg hc24], rfl⟩
theorem d17_0 : decode method_4_code 0 = .ok (.lload_n 0, 1) := by decide +kernel
theorem d17_1 : decode method_4_code 1 = .ok (.lload_n 2, 1) := by decide +kernel
theorem d17_2 : decode method_4_code 2 = .ok (.lxor, 1) := by decide +kernel
theorem d17_3 : decode method_4_code 3 = .ok (.lstore 4, 2) := by decide +kernel
theorem d17_5 : decode method_4_code 5 = .ok (.lload 4, 2) := by decide +kernel
theorem d17_7 : decode method_4_code 7 = .ok (.bipush 6, 2) := by decide +kernel
theorem d17_9 : decode method_4_code 9 = .ok (.lushr, 1) := by decide +kernel
theorem d17_10 : decode method_4_code 10 = .ok (.lconst 0, 1) := by decide +kernel
theorem d17_11 : decode method_4_code 11 = .ok (.lcmp, 1) := by decide +kernel
theorem d17_12 : decode method_4_code 12 = .ok (.ifCond .ne 5, 3) := by decide +kernel
theorem d17_15 : decode method_4_code 15 = .ok (.iconst 0, 1) := by decide +kernel
theorem d17_16 : decode method_4_code 16 = .ok (.ireturn, 1) := by decide +kernel
theorem d17_17 : decode method_4_code 17 = .ok (.lload 4, 2) := by decide +kernel
theorem d17_19 : decode method_4_code 19 = .ok (.bipush 12, 2) := by decide +kernel
theorem d17_21 : decode method_4_code 21 = .ok (.lushr, 1) := by decide +kernel
theorem d17_22 : decode method_4_code 22 = .ok (.lconst 0, 1) := by decide +kernel
theorem d17_23 : decode method_4_code 23 = .ok (.lcmp, 1) := by decide +kernel
theorem d17_24 : decode method_4_code 24 = .ok (.ifCond .ne 5, 3) := by decide +kernel
theorem d17_27 : decode method_4_code 27 = .ok (.iconst 1, 1) := by decide +kernel
theorem d17_28 : decode method_4_code 28 = .ok (.ireturn, 1) := by decide +kernel
theorem d17_29 : decode method_4_code 29 = .ok (.lload 4, 2) := by decide +kernel
theorem d17_31 : decode method_4_code 31 = .ok (.bipush 18, 2) := by decide +kernel
theorem d17_33 : decode method_4_code 33 = .ok (.lushr, 1) := by decide +kernel
theorem d17_34 : decode method_4_code 34 = .ok (.lconst 0, 1) := by decide +kernel
theorem d17_35 : decode method_4_code 35 = .ok (.lcmp, 1) := by decide +kernel
theorem d17_36 : decode method_4_code 36 = .ok (.ifCond .ne 5, 3) := by decide +kernel
theorem d17_39 : decode method_4_code 39 = .ok (.iconst 2, 1) := by decide +kernel
theorem d17_40 : decode method_4_code 40 = .ok (.ireturn, 1) := by decide +kernel
theorem d17_41 : decode method_4_code 41 = .ok (.lload 4, 2) := by decide +kernel
theorem d17_43 : decode method_4_code 43 = .ok (.bipush 24, 2) := by decide +kernel
theorem d17_45 : decode method_4_code 45 = .ok (.lushr, 1) := by decide +kernel
theorem d17_46 : decode method_4_code 46 = .ok (.lconst 0, 1) := by decide +kernel
theorem d17_47 : decode method_4_code 47 = .ok (.lcmp, 1) := by decide +kernel
theorem d17_48 : decode method_4_code 48 = .ok (.ifCond .ne 5, 3) := by decide +kernel
theorem d17_51 : decode method_4_code 51 = .ok (.iconst 3, 1) := by decide +kernel
theorem d17_52 : decode method_4_code 52 = .ok (.ireturn, 1) := by decide +kernel
theorem d17_53 : decode method_4_code 53 = .ok (.lload 4, 2) := by decide +kernel
theorem d17_55 : decode method_4_code 55 = .ok (.bipush 30, 2) := by decide +kernel
theorem d17_57 : decode method_4_code 57 = .ok (.lushr, 1) := by decide +kernel
theorem d17_58 : decode method_4_code 58 = .ok (.lconst 0, 1) := by decide +kernel
theorem d17_59 : decode method_4_code 59 = .ok (.lcmp, 1) := by decide +kernel
theorem d17_60 : decode method_4_code 60 = .ok (.ifCond .ne 5, 3) := by decide +kernel
theorem d17_63 : decode method_4_code 63 = .ok (.iconst 4, 1) := by decide +kernel
theorem d17_64 : decode method_4_code 64 = .ok (.ireturn, 1) := by decide +kernel
theorem d17_65 : decode method_4_code 65 = .ok (.iconst 5, 1) := by decide +kernel
theorem d17_66 : decode method_4_code 66 = .ok (.ireturn, 1) := by decide +kernel
theorem pn_17_rmlv : plainFor (⟨"com/example/gull/gull/TimerWheelRemovePinLaw", "level", "(JJ)I"⟩ : MethodName) = true := plainFor_of_name (by first | (simp [plainName, overriddenIn]; done) | decide +kernel)
def flv (p1 : Int64) (p2 : Int64) : Int32 := (if (Jvm.Free.XT.ushrL (p1 ^^^ p2) (6 : Int32)) = (0 : Int64) then (0 : Int32) else (if (Jvm.Free.XT.ushrL (p1 ^^^ p2) (12 : Int32)) = (0 : Int64) then (1 : Int32) else (if (Jvm.Free.XT.ushrL (p1 ^^^ p2) (18 : Int32)) = (0 : Int64) then (2 : Int32) else (if (Jvm.Free.XT.ushrL (p1 ^^^ p2) (24 : Int32)) = (0 : Int64) then (3 : Int32) else (if (Jvm.Free.XT.ushrL (p1 ^^^ p2) (30 : Int32)) = (0 : Int64) then (4 : Int32) else (5 : Int32))))))
theorem flv_eq (p1 : Int64) (p2 : Int64) : flv p1 p2 = (if (Jvm.Free.XT.ushrL (p1 ^^^ p2) (6 : Int32)) = (0 : Int64) then (0 : Int32) else (if (Jvm.Free.XT.ushrL (p1 ^^^ p2) (12 : Int32)) = (0 : Int64) then (1 : Int32) else (if (Jvm.Free.XT.ushrL (p1 ^^^ p2) (18 : Int32)) = (0 : Int64) then (2 : Int32) else (if (Jvm.Free.XT.ushrL (p1 ^^^ p2) (24 : Int32)) = (0 : Int64) then (3 : Int32) else (if (Jvm.Free.XT.ushrL (p1 ^^^ p2) (30 : Int32)) = (0 : Int64) then (4 : Int32) else (5 : Int32)))))) := rfl
theorem ef_rmlv {p1 : Int64} {p2 : Int64} (m : MethodId) : entryFrame m #[.long p1, .long p2] 6 = mkF m 0 #[.val (.long p1), .second, .val (.long p2), .second, .unset, .unset] [] := by first | (simp [entryFrame, mkF, argsToLocals, Value.category]; done) | rfl
set_option maxRecDepth 65536 in
set_option maxHeartbeats 40000000 in
theorem rmlv (l : Launch) (Z : State) (a0 : Array Value) (hw : ∀ d ∈ tables_1, d.before a0 Z = true) (p1 : Int64) (p2 : Int64) (h0 : Heap) (n0 : Nat) (Z0 : n0 ≤ h0.size)  :
    Met l Z (⟨"com/example/gull/gull/TimerWheelRemovePinLaw", "level", "(JJ)I"⟩ : MethodName) method_4_code 6 (some .int) ({ frames := 0, cells := 0, slots := 0, locals := 0 } : Room) n0 #[.long p1, .long p2] h0 (fun v h => v = some (.int (flv p1 p2)) ∧ h0 = h) := by
  refine Met.of (Ls := #[.val (.long p1), .second, .val (.long p2), .second, .unset, .unset]) pn_17_rmlv (fun m => ef_rmlv m) fun p e s m below meth c T0 P hP k0 => ?_
  refine s_lloadN k0 d17_0 rfl (pc' := 1) rfl ?_
  refine s_lloadN k0 d17_1 rfl (pc' := 2) rfl ?_
  refine s_lxor k0 d17_2 rfl (pc' := 3) rfl ?_
  refine s_lstore k0 d17_3 (l' := #[.val (.long p1), .second, .val (.long p2), .second, .val (.long (p1 ^^^ p2)), .second]) rfl (pc' := 5) rfl ?_
  refine s_lload k0 d17_5 rfl (pc' := 7) rfl ?_
  refine s_bipush k0 (z := 6) d17_7 (by decide) (pc' := 9) rfl ?_
  refine s_lushr k0 d17_9 rfl (pc' := 10) rfl ?_
  refine s_lconst k0 (z := 0) d17_10 (by decide) (pc' := 11) rfl ?_
  refine s_lcmp_ne k0 d17_11 rfl d17_12 (by decide) (pc' := 17) (by decide) (pc3 := 15) rfl (fun hc11 => ?_) (fun hc11 => ?_)
  · refine s_iconst k0 (z := 0) d17_15 (by decide) (pc' := 16) rfl ?_
    exact s_retI k0 d17_16 rfl hP (by decide) (by decide) ⟨by rw [flv_eq, if_pos hc11], rfl⟩
  · refine s_lload k0 d17_17 rfl (pc' := 19) rfl ?_
    refine s_bipush k0 (z := 12) d17_19 (by decide) (pc' := 21) rfl ?_
    refine s_lushr k0 d17_21 rfl (pc' := 22) rfl ?_
    refine s_lconst k0 (z := 0) d17_22 (by decide) (pc' := 23) rfl ?_
    refine s_lcmp_ne k0 d17_23 rfl d17_24 (by decide) (pc' := 29) (by decide) (pc3 := 27) rfl (fun hc23 => ?_) (fun hc23 => ?_)
    · refine s_iconst k0 (z := 1) d17_27 (by decide) (pc' := 28) rfl ?_
      exact s_retI k0 d17_28 rfl hP (by decide) (by decide) ⟨by rw [flv_eq, if_neg hc11, if_pos hc23], rfl⟩
    · refine s_lload k0 d17_29 rfl (pc' := 31) rfl ?_
      refine s_bipush k0 (z := 18) d17_31 (by decide) (pc' := 33) rfl ?_
      refine s_lushr k0 d17_33 rfl (pc' := 34) rfl ?_
      refine s_lconst k0 (z := 0) d17_34 (by decide) (pc' := 35) rfl ?_
      refine s_lcmp_ne k0 d17_35 rfl d17_36 (by decide) (pc' := 41) (by decide) (pc3 := 39) rfl (fun hc35 => ?_) (fun hc35 => ?_)
      · refine s_iconst k0 (z := 2) d17_39 (by decide) (pc' := 40) rfl ?_
        exact s_retI k0 d17_40 rfl hP (by decide) (by decide) ⟨by rw [flv_eq, if_neg hc11, if_neg hc23, if_pos hc35], rfl⟩
      · refine s_lload k0 d17_41 rfl (pc' := 43) rfl ?_
        refine s_bipush k0 (z := 24) d17_43 (by decide) (pc' := 45) rfl ?_
        refine s_lushr k0 d17_45 rfl (pc' := 46) rfl ?_
        refine s_lconst k0 (z := 0) d17_46 (by decide) (pc' := 47) rfl ?_
        refine s_lcmp_ne k0 d17_47 rfl d17_48 (by decide) (pc' := 53) (by decide) (pc3 := 51) rfl (fun hc47 => ?_) (fun hc47 => ?_)
        · refine s_iconst k0 (z := 3) d17_51 (by decide) (pc' := 52) rfl ?_
          exact s_retI k0 d17_52 rfl hP (by decide) (by decide) ⟨by rw [flv_eq, if_neg hc11, if_neg hc23, if_neg hc35, if_pos hc47], rfl⟩
        · refine s_lload k0 d17_53 rfl (pc' := 55) rfl ?_
          refine s_bipush k0 (z := 30) d17_55 (by decide) (pc' := 57) rfl ?_
          refine s_lushr k0 d17_57 rfl (pc' := 58) rfl ?_
          refine s_lconst k0 (z := 0) d17_58 (by decide) (pc' := 59) rfl ?_
          refine s_lcmp_ne k0 d17_59 rfl d17_60 (by decide) (pc' := 65) (by decide) (pc3 := 63) rfl (fun hc59 => ?_) (fun hc59 => ?_)
          · refine s_iconst k0 (z := 4) d17_63 (by decide) (pc' := 64) rfl ?_
            exact s_retI k0 d17_64 rfl hP (by decide) (by decide) ⟨by rw [flv_eq, if_neg hc11, if_neg hc23, if_neg hc35, if_neg hc47, if_pos hc59], rfl⟩
          · refine s_iconst k0 (z := 5) d17_65 (by decide) (pc' := 66) rfl ?_
            exact s_retI k0 d17_66 rfl hP (by decide) (by decide) ⟨by rw [flv_eq, if_neg hc11, if_neg hc23, if_neg hc35, if_neg hc47, if_neg hc59], rfl⟩
theorem d16_0 : decode method_5_code 0 = .ok (.lload_n 2, 1) := by decide +kernel
theorem d16_1 : decode method_5_code 1 = .ok (.lconst 1, 1) := by decide +kernel
theorem d16_2 : decode method_5_code 2 = .ok (.bipush 6, 2) := by decide +kernel
theorem d16_4 : decode method_5_code 4 = .ok (.lload_n 0, 1) := by decide +kernel
theorem d16_5 : decode method_5_code 5 = .ok (.lload_n 2, 1) := by decide +kernel
theorem d16_6 : decode method_5_code 6 = .ok (.invokestatic 43, 3) := by decide +kernel
theorem d16_9 : decode method_5_code 9 = .ok (.imul, 1) := by decide +kernel
theorem d16_10 : decode method_5_code 10 = .ok (.lshl, 1) := by decide +kernel
theorem d16_11 : decode method_5_code 11 = .ok (.lneg, 1) := by decide +kernel
theorem d16_12 : decode method_5_code 12 = .ok (.land, 1) := by decide +kernel
theorem d16_13 : decode method_5_code 13 = .ok (.lreturn, 1) := by decide +kernel
theorem pd__28JJ_29I : parseMethodDescriptor "(JJ)I" = some ⟨[.long, .long], some .int⟩ := by decide +kernel
theorem pn_16_rmev : plainFor (⟨"com/example/gull/gull/TimerWheelRemovePinLaw", "eventOf", "(JJ)J"⟩ : MethodName) = true := plainFor_of_name (by first | (simp [plainName, overriddenIn]; done) | decide +kernel)
def fev (p1 : Int64) (p2 : Int64) : Int64 := (p2 &&& (-((1 : Int64) <<< (((6 : Int32) * (flv p1 p2)).toInt64 &&& 63))))
theorem fev_eq (p1 : Int64) (p2 : Int64) : fev p1 p2 = (p2 &&& (-((1 : Int64) <<< (((6 : Int32) * (flv p1 p2)).toInt64 &&& 63)))) := rfl
theorem ef_rmev {p1 : Int64} {p2 : Int64} (m : MethodId) : entryFrame m #[.long p1, .long p2] 4 = mkF m 0 #[.val (.long p1), .second, .val (.long p2), .second] [] := by first | (simp [entryFrame, mkF, argsToLocals, Value.category]; done) | rfl
set_option maxRecDepth 65536 in
set_option maxHeartbeats 40000000 in
theorem rmev (l : Launch) (Z : State) (a0 : Array Value) (hw : ∀ d ∈ tables_1, d.before a0 Z = true) (p1 : Int64) (p2 : Int64) (h0 : Heap) (n0 : Nat) (Z0 : n0 ≤ h0.size)  :
    Met l Z (⟨"com/example/gull/gull/TimerWheelRemovePinLaw", "eventOf", "(JJ)J"⟩ : MethodName) method_5_code 4 (some .long) ({ frames := 1, cells := 0, slots := 0, locals := 28 } : Room) n0 #[.long p1, .long p2] h0 (fun v h => v = some (.long (fev p1 p2)) ∧ h0 = h) := by
  refine Met.of (Ls := #[.val (.long p1), .second, .val (.long p2), .second]) pn_16_rmev (fun m => ef_rmev m) fun p e s m below meth c T0 P hP k0 => ?_
  refine s_lloadN k0 d16_0 rfl (pc' := 1) rfl ?_
  refine s_lconst k0 (z := 1) d16_1 (by decide) (pc' := 2) rfl ?_
  refine s_bipush k0 (z := 6) d16_2 (by decide) (pc' := 4) rfl ?_
  refine s_lloadN k0 d16_4 rfl (pc' := 5) rfl ?_
  refine s_lloadN k0 d16_5 rfl (pc' := 6) rfl ?_
  refine s_callS k0 [.long p1, .long p2] 5 d16_6 (hw _ (List.mem_of_getElem? (i := 99) rfl)) (hw _ (List.mem_of_getElem? (i := 100) rfl)) (hw _ (List.mem_of_getElem? (i := 2) rfl)) (hw _ (List.mem_of_getElem? (i := 101) rfl)) (by decide) (rmlv l Z a0 hw p1 p2 h0 n0 Z0 ) (by decide) (by decide) pd__28JJ_29I rfl (Nat.le_of_eq rfl) rfl (by decide) (by decide) rfl (pc' := 9) rfl fun v1 T1 h1 L1 k1 Qv1 => ?_
  obtain ⟨rfl, rfl⟩ := Qv1
  show Go p e below P T1 (mkF m 9 #[.val (.long p1), .second, .val (.long p2), .second] [.int (flv p1 p2), .int (6 : Int32), .long (1 : Int64), .long p2])
  refine s_imul k1 d16_9 rfl (pc' := 10) rfl ?_
  refine s_lshl k1 d16_10 rfl (pc' := 11) rfl ?_
  refine s_lneg k1 d16_11 rfl (pc' := 12) rfl ?_
  refine s_land k1 d16_12 rfl (pc' := 13) rfl ?_
  exact s_retL k1 d16_13 rfl hP (by decide) (by decide) ⟨by rw [fev_eq], rfl⟩
def Ctx (n0 : Nat) (w sa oa t q : Addr) : Prop := (n0 ≤ w ∧ n0 ≤ sa ∧ n0 ≤ oa ∧ n0 ≤ t ∧ n0 ≤ q) ∧ w ≠ sa ∧ w ≠ oa ∧ w ≠ t ∧ w ≠ q ∧ sa ≠ oa ∧ sa ≠ t ∧ sa ≠ q ∧ oa ≠ t ∧ oa ≠ q ∧ t ≠ q
def Whl (Z : State) (h : Heap) (w sa oa : Addr) (ka ko : ClassId) (S : Nat → Value) (Oc : Nat → Int64) (ov : Value) (oe el : Int64) : Prop :=
  Exa Z h w "com/example/gull/gull/TimerWheel" ∧ Fld Z h w "com/example/gull/gull/TimerWheel" "slots" "[Lcom/example/gull/gull/TimerWheel$Timer;" (.ref sa) ∧ Fld Z h w "com/example/gull/gull/TimerWheel" "occupied" "[J" (.ref oa) ∧ Fld Z h w "com/example/gull/gull/TimerWheel" "overflow" "Lcom/example/gull/gull/TimerWheel$Timer;" ov ∧ Fld Z h w "com/example/gull/gull/TimerWheel" "overflowEvent" "J" (.long oe) ∧ Fld Z h w "com/example/gull/gull/TimerWheel" "elapsed" "J" (.long el) ∧ Arf Z h sa ka (.object "com/example/gull/gull/TimerWheel$Timer") 320 S ∧ Arf Z h oa ko .long 5 (lon Oc)
def Tmr (Z : State) (h : Heap) (t : Addr) (d : Int64) (pl : Int32) (nx pv : Value) : Prop :=
  Exa Z h t "com/example/gull/gull/TimerWheel$Timer" ∧ Fld Z h t "com/example/gull/gull/TimerWheel$Timer" "deadline" "J" (.long d) ∧ Fld Z h t "com/example/gull/gull/TimerWheel$Timer" "place" "I" (.int pl) ∧ Fld Z h t "com/example/gull/gull/TimerWheel$Timer" "next" "Lcom/example/gull/gull/TimerWheel$Timer;" nx ∧ Fld Z h t "com/example/gull/gull/TimerWheel$Timer" "previous" "Lcom/example/gull/gull/TimerWheel$Timer;" pv
theorem d5_0 : decode prog_30_method_2_code 0 = .ok (.aload_n 1, 1) := by decide +kernel
theorem d5_1 : decode prog_30_method_2_code 1 = .ok (.getfield 30, 3) := by decide +kernel
theorem d5_4 : decode prog_30_method_2_code 4 = .ok (.aload_n 0, 1) := by decide +kernel
theorem d5_5 : decode prog_30_method_2_code 5 = .ok (.getfield 27, 3) := by decide +kernel
theorem d5_8 : decode prog_30_method_2_code 8 = .ok (.lcmp, 1) := by decide +kernel
theorem d5_9 : decode prog_30_method_2_code 9 = .ok (.ifCond .gt 5, 3) := by decide +kernel
theorem d5_12 : decode prog_30_method_2_code 12 = .ok (.iconst 0, 1) := by decide +kernel
theorem d5_13 : decode prog_30_method_2_code 13 = .ok (.ireturn, 1) := by decide +kernel
theorem pn_5_addN : plainFor (⟨"com/example/gull/gull/TimerWheel", "add", "(Lcom/example/gull/gull/TimerWheel$Timer;)Z"⟩ : MethodName) = true := plainFor_of_name (by first | (simp [plainName, overriddenIn]; done) | decide +kernel)
theorem ef_addN {w : Addr} {t : Addr} (m : MethodId) : entryFrame m #[.ref w, .ref t] 6 = mkF m 0 #[.val (.ref w), .val (.ref t), .unset, .unset, .unset, .unset] [] := by first | (simp [entryFrame, mkF, argsToLocals, Value.category]; done) | rfl
set_option maxRecDepth 65536 in
set_option maxHeartbeats 40000000 in
theorem addN (l : Launch) (Z : State) (a0 : Array Value) (hw : ∀ d ∈ tables_1, d.before a0 Z = true) (w sa oa t q : Addr) (ka ko : ClassId) (el : Int64) (S : Nat → Value) (Oc : Nat → Int64) (oe d dq : Int64) (p0 pq : Int32) (nq vq : Value) (ov : Value) (h0 : Heap) (n0 : Nat) (Z0 : n0 ≤ h0.size) (Cx : Ctx n0 w sa oa t q) (O_sa : Ovr Z ka "com/example/gull/gull/TimerWheel$Timer") (HW : Whl Z h0 w sa oa ka ko S Oc ov oe el) (HT : Tmr Z h0 t d p0 .null .null) (HQ : Tmr Z h0 q dq pq nq vq) (hd : ¬ el < d) :
    Met l Z (⟨"com/example/gull/gull/TimerWheel", "add", "(Lcom/example/gull/gull/TimerWheel$Timer;)Z"⟩ : MethodName) prog_30_method_2_code 6 (some .boolean) ({ frames := 2, cells := 0, slots := 0, locals := 48 } : Room) n0 #[.ref w, .ref t] h0 (fun v h => v = some (.int (0 : Int32)) ∧ h0 = h) := by
  refine Met.of (Ls := #[.val (.ref w), .val (.ref t), .unset, .unset, .unset, .unset]) pn_5_addN (fun m => ef_addN m) fun p e s m below meth c T0 P hP k0 => ?_
  obtain ⟨⟨g_w, g_sa, g_oa, g_t, g_q⟩, ne_w_sa, ne_w_oa, ne_w_t, ne_w_q, ne_sa_oa, ne_sa_t, ne_sa_q, ne_oa_t, ne_oa_q, ne_t_q⟩ := Cx
  obtain ⟨E_w, F_w_sl, F_w_oc, F_w_ov, F_w_oe, F_w_el, B_sa, B_oa⟩ := HW
  obtain ⟨E_t, F_t_d, F_t_p, F_t_n, F_t_v⟩ := HT
  obtain ⟨E_q, F_q_d, F_q_p, F_q_n, F_q_v⟩ := HQ
  refine s_aloadN k0 d5_0 rfl rfl (pc' := 1) rfl ?_
  refine s_getR k0 d5_1 (hw _ (List.mem_of_getElem? (i := 42) rfl)) Via.refl F_t_d (pc' := 4) rfl ?_
  refine s_aloadN k0 d5_4 rfl rfl (pc' := 5) rfl ?_
  refine s_get k0 d5_5 (host := "") (Or.inl (hw _ (List.mem_of_getElem? (i := 24) rfl))) Via.refl F_w_el (pc' := 8) rfl fun T1 k1 => ?_
  refine s_lcmp_gt k1 d5_8 rfl d5_9 (by decide) (pc' := 14) (by decide) (pc3 := 12) rfl (fun hc8 => absurd hc8 hd) (fun hc8 => ?_)
  refine s_iconst k1 (z := 0) d5_12 (by decide) (pc' := 13) rfl ?_
  exact s_retZ k1 d5_13 rfl (by decide) hP (by decide) (by decide) ⟨rfl, rfl⟩
theorem d5_14 : decode prog_30_method_2_code 14 = .ok (.aload_n 0, 1) := by decide +kernel
theorem d5_15 : decode prog_30_method_2_code 15 = .ok (.getfield 27, 3) := by decide +kernel
theorem d5_18 : decode prog_30_method_2_code 18 = .ok (.aload_n 1, 1) := by decide +kernel
theorem d5_19 : decode prog_30_method_2_code 19 = .ok (.getfield 30, 3) := by decide +kernel
theorem d5_22 : decode prog_30_method_2_code 22 = .ok (.lxor, 1) := by decide +kernel
theorem d5_23 : decode prog_30_method_2_code 23 = .ok (.lstore_n 2, 1) := by decide +kernel
theorem d5_24 : decode prog_30_method_2_code 24 = .ok (.bipush 63, 2) := by decide +kernel
theorem d5_26 : decode prog_30_method_2_code 26 = .ok (.lload_n 2, 1) := by decide +kernel
theorem d5_27 : decode prog_30_method_2_code 27 = .ok (.invokestatic 33, 3) := by decide +kernel
theorem d5_30 : decode prog_30_method_2_code 30 = .ok (.isub, 1) := by decide +kernel
theorem d5_31 : decode prog_30_method_2_code 31 = .ok (.bipush 6, 2) := by decide +kernel
theorem d5_33 : decode prog_30_method_2_code 33 = .ok (.idiv, 1) := by decide +kernel
theorem d5_34 : decode prog_30_method_2_code 34 = .ok (.istore 4, 2) := by decide +kernel
theorem d5_36 : decode prog_30_method_2_code 36 = .ok (.iload 4, 2) := by decide +kernel
theorem d5_38 : decode prog_30_method_2_code 38 = .ok (.iconst 5, 1) := by decide +kernel
theorem d5_39 : decode prog_30_method_2_code 39 = .ok (.if_icmp .ge 71, 3) := by decide +kernel
theorem d5_42 : decode prog_30_method_2_code 42 = .ok (.aload_n 1, 1) := by decide +kernel
theorem d5_43 : decode prog_30_method_2_code 43 = .ok (.getfield 30, 3) := by decide +kernel
theorem d5_46 : decode prog_30_method_2_code 46 = .ok (.iload 4, 2) := by decide +kernel
theorem d5_48 : decode prog_30_method_2_code 48 = .ok (.bipush 6, 2) := by decide +kernel
theorem d5_50 : decode prog_30_method_2_code 50 = .ok (.imul, 1) := by decide +kernel
theorem d5_51 : decode prog_30_method_2_code 51 = .ok (.lushr, 1) := by decide +kernel
theorem d5_52 : decode prog_30_method_2_code 52 = .ok (.l2i, 1) := by decide +kernel
theorem d5_53 : decode prog_30_method_2_code 53 = .ok (.bipush 63, 2) := by decide +kernel
theorem d5_55 : decode prog_30_method_2_code 55 = .ok (.iand, 1) := by decide +kernel
theorem d5_56 : decode prog_30_method_2_code 56 = .ok (.istore 5, 2) := by decide +kernel
theorem d5_58 : decode prog_30_method_2_code 58 = .ok (.aload_n 1, 1) := by decide +kernel
theorem d5_59 : decode prog_30_method_2_code 59 = .ok (.iload 4, 2) := by decide +kernel
theorem d5_61 : decode prog_30_method_2_code 61 = .ok (.bipush 64, 2) := by decide +kernel
theorem d5_63 : decode prog_30_method_2_code 63 = .ok (.imul, 1) := by decide +kernel
theorem d5_64 : decode prog_30_method_2_code 64 = .ok (.iload 5, 2) := by decide +kernel
theorem d5_66 : decode prog_30_method_2_code 66 = .ok (.iadd, 1) := by decide +kernel
theorem d5_67 : decode prog_30_method_2_code 67 = .ok (.putfield 37, 3) := by decide +kernel
theorem d5_70 : decode prog_30_method_2_code 70 = .ok (.aload_n 1, 1) := by decide +kernel
theorem d5_71 : decode prog_30_method_2_code 71 = .ok (.aload_n 0, 1) := by decide +kernel
theorem d5_72 : decode prog_30_method_2_code 72 = .ok (.getfield 13, 3) := by decide +kernel
theorem d5_75 : decode prog_30_method_2_code 75 = .ok (.aload_n 1, 1) := by decide +kernel
theorem d5_76 : decode prog_30_method_2_code 76 = .ok (.getfield 37, 3) := by decide +kernel
theorem d5_79 : decode prog_30_method_2_code 79 = .ok (.aaload, 1) := by decide +kernel
theorem d5_80 : decode prog_30_method_2_code 80 = .ok (.putfield 41, 3) := by decide +kernel
theorem d5_83 : decode prog_30_method_2_code 83 = .ok (.aload_n 0, 1) := by decide +kernel
theorem d5_84 : decode prog_30_method_2_code 84 = .ok (.getfield 13, 3) := by decide +kernel
theorem d5_87 : decode prog_30_method_2_code 87 = .ok (.aload_n 1, 1) := by decide +kernel
theorem d5_88 : decode prog_30_method_2_code 88 = .ok (.getfield 37, 3) := by decide +kernel
theorem d5_91 : decode prog_30_method_2_code 91 = .ok (.aload_n 1, 1) := by decide +kernel
theorem d5_92 : decode prog_30_method_2_code 92 = .ok (.aastore, 1) := by decide +kernel
theorem d5_93 : decode prog_30_method_2_code 93 = .ok (.aload_n 0, 1) := by decide +kernel
theorem d5_94 : decode prog_30_method_2_code 94 = .ok (.getfield 17, 3) := by decide +kernel
theorem d5_97 : decode prog_30_method_2_code 97 = .ok (.iload 4, 2) := by decide +kernel
theorem d5_99 : decode prog_30_method_2_code 99 = .ok (.dup2, 1) := by decide +kernel
theorem d5_100 : decode prog_30_method_2_code 100 = .ok (.laload, 1) := by decide +kernel
theorem d5_101 : decode prog_30_method_2_code 101 = .ok (.lconst 1, 1) := by decide +kernel
theorem d5_102 : decode prog_30_method_2_code 102 = .ok (.iload 5, 2) := by decide +kernel
theorem d5_104 : decode prog_30_method_2_code 104 = .ok (.lshl, 1) := by decide +kernel
theorem d5_105 : decode prog_30_method_2_code 105 = .ok (.lor, 1) := by decide +kernel
theorem d5_106 : decode prog_30_method_2_code 106 = .ok (.lastore, 1) := by decide +kernel
theorem d5_107 : decode prog_30_method_2_code 107 = .ok (.goto 41, 3) := by decide +kernel
theorem d5_148 : decode prog_30_method_2_code 148 = .ok (.aload_n 1, 1) := by decide +kernel
theorem d5_149 : decode prog_30_method_2_code 149 = .ok (.getfield 41, 3) := by decide +kernel
theorem d5_152 : decode prog_30_method_2_code 152 = .ok (.ifnull 11, 3) := by decide +kernel
theorem d5_163 : decode prog_30_method_2_code 163 = .ok (.iconst 1, 1) := by decide +kernel
theorem d5_164 : decode prog_30_method_2_code 164 = .ok (.ireturn, 1) := by decide +kernel
theorem pd__28J_29I : parseMethodDescriptor "(J)I" = some ⟨[.long], some .int⟩ := by decide +kernel
theorem pn_5_addS : plainFor (⟨"com/example/gull/gull/TimerWheel", "add", "(Lcom/example/gull/gull/TimerWheel$Timer;)Z"⟩ : MethodName) = true := plainFor_of_name (by first | (simp [plainName, overriddenIn]; done) | decide +kernel)
theorem ef_addS {w : Addr} {t : Addr} (m : MethodId) : entryFrame m #[.ref w, .ref t] 6 = mkF m 0 #[.val (.ref w), .val (.ref t), .unset, .unset, .unset, .unset] [] := by first | (simp [entryFrame, mkF, argsToLocals, Value.category]; done) | rfl
set_option maxRecDepth 65536 in
set_option maxHeartbeats 40000000 in
theorem addS (l : Launch) (Z : State) (a0 : Array Value) (hw : ∀ d ∈ tables_1, d.before a0 Z = true) (w sa oa t q : Addr) (ka ko : ClassId) (el : Int64) (S : Nat → Value) (Oc : Nat → Int64) (oe d dq : Int64) (p0 pq : Int32) (nq vq : Value) (ov : Value) (lv sv pl : Int32) (li pi : Nat)  (h0 : Heap) (n0 : Nat) (Z0 : n0 ≤ h0.size) (Cx : Ctx n0 w sa oa t q) (O_sa : Ovr Z ka "com/example/gull/gull/TimerWheel$Timer") (HW : Whl Z h0 w sa oa ka ko S Oc ov oe el) (HT : Tmr Z h0 t d p0 .null .null) (HQ : Tmr Z h0 q dq pq nq vq) (hd : el < d) (hlv : (((63 : Int32) - (fnlz (el ^^^ d))) / (6 : Int32)) = lv) (h5 : lv < (5 : Int32)) (hsv : ((Jvm.Free.XT.ushrL d (lv * (6 : Int32))).toInt32 &&& (63 : Int32)) = sv) (hpl : ((lv * (64 : Int32)) + sv) = pl) (hpn : ¬ pl < 0) (hpi : pl.toNatClampNeg = pi) (hp3 : pi < 320) (hln : ¬ lv < 0) (hli : lv.toNatClampNeg = li) (hl5 : li < 5) (hS : S pi = .null) :
    Met l Z (⟨"com/example/gull/gull/TimerWheel", "add", "(Lcom/example/gull/gull/TimerWheel$Timer;)Z"⟩ : MethodName) prog_30_method_2_code 6 (some .boolean) ({ frames := 2, cells := 0, slots := 0, locals := 48 } : Room) n0 #[.ref w, .ref t] h0 (fun v h => v = some (.int (1 : Int32)) ∧ Whl Z h w sa oa ka ko (upd S pi (.ref t)) (updL Oc li ((Oc li) ||| ((1 : Int64) <<< (sv.toInt64 &&& 63)))) ov oe el ∧ Tmr Z h t d pl .null .null ∧ Tmr Z h q dq pq nq vq) := by
  refine Met.of (Ls := #[.val (.ref w), .val (.ref t), .unset, .unset, .unset, .unset]) pn_5_addS (fun m => ef_addS m) fun p e s m below meth c T0 P hP k0 => ?_
  obtain ⟨⟨g_w, g_sa, g_oa, g_t, g_q⟩, ne_w_sa, ne_w_oa, ne_w_t, ne_w_q, ne_sa_oa, ne_sa_t, ne_sa_q, ne_oa_t, ne_oa_q, ne_t_q⟩ := Cx
  obtain ⟨E_w, F_w_sl, F_w_oc, F_w_ov, F_w_oe, F_w_el, B_sa, B_oa⟩ := HW
  obtain ⟨E_t, F_t_d, F_t_p, F_t_n, F_t_v⟩ := HT
  obtain ⟨E_q, F_q_d, F_q_p, F_q_n, F_q_v⟩ := HQ
  refine s_aloadN k0 d5_0 rfl rfl (pc' := 1) rfl ?_
  refine s_getR k0 d5_1 (hw _ (List.mem_of_getElem? (i := 42) rfl)) Via.refl F_t_d (pc' := 4) rfl ?_
  refine s_aloadN k0 d5_4 rfl rfl (pc' := 5) rfl ?_
  refine s_get k0 d5_5 (host := "") (Or.inl (hw _ (List.mem_of_getElem? (i := 24) rfl))) Via.refl F_w_el (pc' := 8) rfl fun T1 k1 => ?_
  refine s_lcmp_gt k1 d5_8 rfl d5_9 (by decide) (pc' := 14) (by decide) (pc3 := 12) rfl (fun hc8 => ?_) (fun hc8 => absurd hd hc8)
  refine s_aloadN k1 d5_14 rfl rfl (pc' := 15) rfl ?_
  refine s_get k1 d5_15 (host := "") (Or.inl (hw _ (List.mem_of_getElem? (i := 24) rfl))) Via.refl F_w_el (pc' := 18) rfl fun T2 k2 => ?_
  refine s_aloadN k2 d5_18 rfl rfl (pc' := 19) rfl ?_
  refine s_getR k2 d5_19 (hw _ (List.mem_of_getElem? (i := 42) rfl)) Via.refl F_t_d (pc' := 22) rfl ?_
  refine s_lxor k2 d5_22 rfl (pc' := 23) rfl ?_
  refine s_lstoreN k2 d5_23 (l' := #[.val (.ref w), .val (.ref t), .val (.long (el ^^^ d)), .second, .unset, .unset]) rfl (pc' := 24) rfl ?_
  refine s_bipush k2 (z := 63) d5_24 (by decide) (pc' := 26) rfl ?_
  refine s_lloadN k2 d5_26 rfl (pc' := 27) rfl ?_
  refine s_callS k2 [.long (el ^^^ d)] 1 d5_27 (hw _ (List.mem_of_getElem? (i := 43) rfl)) (hw _ (List.mem_of_getElem? (i := 44) rfl)) (hw _ (List.mem_of_getElem? (i := 45) rfl)) (hw _ (List.mem_of_getElem? (i := 46) rfl)) (by decide) (rmnlz l Z a0 hw (el ^^^ d) h0 n0 Z0 ) (by decide) (by decide) pd__28J_29I rfl (Nat.le_of_eq rfl) rfl (by decide) (by decide) rfl (pc' := 30) rfl fun v3 T3 h3 L3 k3 Qv3 => ?_
  obtain ⟨rfl, rfl⟩ := Qv3
  show Go p e below P T3 (mkF m 30 #[.val (.ref w), .val (.ref t), .val (.long (el ^^^ d)), .second, .unset, .unset] [.int (fnlz (el ^^^ d)), .int (63 : Int32)])
  refine s_isub k3 d5_30 rfl (pc' := 31) rfl ?_
  refine s_bipush k3 (z := 6) d5_31 (by decide) (pc' := 33) rfl ?_
  refine s_idiv k3 d5_33 (by decide) rfl (pc' := 34) rfl ?_
  refine s_istore k3 d5_34 (l' := #[.val (.ref w), .val (.ref t), .val (.long (el ^^^ d)), .second, .val (.int (((63 : Int32) - (fnlz (el ^^^ d))) / (6 : Int32))), .unset]) rfl (pc' := 36) rfl ?_
  rw [hlv]
  show Go p e below P T3 (mkF m 36 #[.val (.ref w), .val (.ref t), .val (.long (el ^^^ d)), .second, .val (.int lv), .unset] [])
  refine s_iload k3 d5_36 rfl (pc' := 38) rfl ?_
  refine s_iconst k3 (z := 5) d5_38 (by decide) (pc' := 39) rfl ?_
  refine s_icmp_ge k3 d5_39 (by decide) (pc' := 110) (by decide) (pc3 := 42) rfl (fun hc39 => ?_) (fun hc39 => absurd h5 hc39)
  refine s_aloadN k3 d5_42 rfl rfl (pc' := 43) rfl ?_
  refine s_getR k3 d5_43 (hw _ (List.mem_of_getElem? (i := 42) rfl)) Via.refl F_t_d (pc' := 46) rfl ?_
  refine s_iload k3 d5_46 rfl (pc' := 48) rfl ?_
  refine s_bipush k3 (z := 6) d5_48 (by decide) (pc' := 50) rfl ?_
  refine s_imul k3 d5_50 rfl (pc' := 51) rfl ?_
  refine s_lushr k3 d5_51 rfl (pc' := 52) rfl ?_
  refine s_l2i k3 d5_52 rfl (pc' := 53) rfl ?_
  refine s_bipush k3 (z := 63) d5_53 (by decide) (pc' := 55) rfl ?_
  refine s_iand k3 d5_55 rfl (pc' := 56) rfl ?_
  refine s_istore k3 d5_56 (l' := #[.val (.ref w), .val (.ref t), .val (.long (el ^^^ d)), .second, .val (.int lv), .val (.int ((Jvm.Free.XT.ushrL d (lv * (6 : Int32))).toInt32 &&& (63 : Int32)))]) rfl (pc' := 58) rfl ?_
  rw [hsv]
  show Go p e below P T3 (mkF m 58 #[.val (.ref w), .val (.ref t), .val (.long (el ^^^ d)), .second, .val (.int lv), .val (.int sv)] [])
  refine s_aloadN k3 d5_58 rfl rfl (pc' := 59) rfl ?_
  refine s_iload k3 d5_59 rfl (pc' := 61) rfl ?_
  refine s_bipush k3 (z := 64) d5_61 (by decide) (pc' := 63) rfl ?_
  refine s_imul k3 d5_63 rfl (pc' := 64) rfl ?_
  refine s_iload k3 d5_64 rfl (pc' := 66) rfl ?_
  refine s_iadd k3 d5_66 rfl (pc' := 67) rfl ?_
  rw [hpl]
  show Go p e below P T3 (mkF m 67 #[.val (.ref w), .val (.ref t), .val (.long (el ^^^ d)), .second, .val (.int lv), .val (.int sv)] [.int pl, .ref t])
  refine s_putR k3 d5_67 (hw _ (List.mem_of_getElem? (i := 52) rfl)) Via.refl F_t_p E_t (hw _ (List.mem_of_getElem? (i := 34) rfl)) (hw _ (List.mem_of_getElem? (i := 27) rfl)) (ty := .int) (by decide) rfl rfl g_t (pc' := 70) rfl fun T4 h4 L4 k4 W4 => ?_
  have F5_w_slots := F_w_sl.other W4 (Or.inl ne_w_t)
  have F6_w_occupied := F_w_oc.other W4 (Or.inl ne_w_t)
  have F7_w_overflow := F_w_ov.other W4 (Or.inl ne_w_t)
  have F8_w_overflowEvent := F_w_oe.other W4 (Or.inl ne_w_t)
  have F9_w_elapsed := F_w_el.other W4 (Or.inl ne_w_t)
  have F10_t_deadline := F_t_d.other W4 (Or.inr (slot_ne (Or.inr (hw _ (List.mem_of_getElem? (i := 36) rfl))) (Or.inl (hw _ (List.mem_of_getElem? (i := 34) rfl))) (by decide) (t := .long) (t' := .int) (by decide) (by decide)))
  have F11_t_place := F_t_p.same W4
  have F12_t_next := F_t_n.other W4 (Or.inr (slot_ne (Or.inl (hw _ (List.mem_of_getElem? (i := 54) rfl))) (Or.inl (hw _ (List.mem_of_getElem? (i := 34) rfl))) (by decide) (t := (.object "com/example/gull/gull/TimerWheel$Timer")) (t' := .int) (by decide) (by decide)))
  have F13_t_previous := F_t_v.other W4 (Or.inr (slot_ne (Or.inl (hw _ (List.mem_of_getElem? (i := 62) rfl))) (Or.inl (hw _ (List.mem_of_getElem? (i := 34) rfl))) (by decide) (t := (.object "com/example/gull/gull/TimerWheel$Timer")) (t' := .int) (by decide) (by decide)))
  have F14_q_deadline := F_q_d.other W4 (Or.inl (Ne.symm ne_t_q))
  have F15_q_place := F_q_p.other W4 (Or.inl (Ne.symm ne_t_q))
  have F16_q_next := F_q_n.other W4 (Or.inl (Ne.symm ne_t_q))
  have F17_q_previous := F_q_v.other W4 (Or.inl (Ne.symm ne_t_q))
  have E18_w := E_w.wr W4
  have E19_t := E_t.wr W4
  have E20_q := E_q.wr W4
  have B21_sa := B_sa.other W4 ne_sa_t
  have B22_oa := B_oa.other W4 ne_oa_t
  have Z23 := Nat.le_trans Z0 (Keep.of_wr W4).1
  refine s_aloadN k4 d5_70 rfl rfl (pc' := 71) rfl ?_
  refine s_aloadN k4 d5_71 rfl rfl (pc' := 72) rfl ?_
  refine s_get k4 d5_72 (host := "") (Or.inl (hw _ (List.mem_of_getElem? (i := 16) rfl))) Via.refl F5_w_slots (pc' := 75) rfl fun T24 k24 => ?_
  refine s_aloadN k24 d5_75 rfl rfl (pc' := 76) rfl ?_
  refine s_getR k24 d5_76 (hw _ (List.mem_of_getElem? (i := 52) rfl)) Via.refl F11_t_place (pc' := 79) rfl ?_
  refine s_aaloadF k24 (i := pi) d5_79 B21_sa rfl hpn hpi hp3 hS (pc' := 80) rfl ?_
  refine s_putR k24 d5_80 (hw _ (List.mem_of_getElem? (i := 53) rfl)) Via.refl F12_t_next E19_t (hw _ (List.mem_of_getElem? (i := 54) rfl)) (hw _ (List.mem_of_getElem? (i := 27) rfl)) (ty := (.object "com/example/gull/gull/TimerWheel$Timer")) (by decide) rfl rfl g_t (pc' := 83) rfl fun T25 h25 L25 k25 W25 => ?_
  have F26_w_slots := F5_w_slots.other W25 (Or.inl ne_w_t)
  have F27_w_occupied := F6_w_occupied.other W25 (Or.inl ne_w_t)
  have F28_w_overflow := F7_w_overflow.other W25 (Or.inl ne_w_t)
  have F29_w_overflowEvent := F8_w_overflowEvent.other W25 (Or.inl ne_w_t)
  have F30_w_elapsed := F9_w_elapsed.other W25 (Or.inl ne_w_t)
  have F31_t_deadline := F10_t_deadline.other W25 (Or.inr (slot_ne (Or.inr (hw _ (List.mem_of_getElem? (i := 36) rfl))) (Or.inl (hw _ (List.mem_of_getElem? (i := 54) rfl))) (by decide) (t := .long) (t' := (.object "com/example/gull/gull/TimerWheel$Timer")) (by decide) (by decide)))
  have F32_t_place := F11_t_place.other W25 (Or.inr (slot_ne (Or.inl (hw _ (List.mem_of_getElem? (i := 34) rfl))) (Or.inl (hw _ (List.mem_of_getElem? (i := 54) rfl))) (by decide) (t := .int) (t' := (.object "com/example/gull/gull/TimerWheel$Timer")) (by decide) (by decide)))
  have F33_t_next := F12_t_next.same W25
  have F34_t_previous := F13_t_previous.other W25 (Or.inr (slot_ne (Or.inl (hw _ (List.mem_of_getElem? (i := 62) rfl))) (Or.inl (hw _ (List.mem_of_getElem? (i := 54) rfl))) (by decide) (t := (.object "com/example/gull/gull/TimerWheel$Timer")) (t' := (.object "com/example/gull/gull/TimerWheel$Timer")) (by decide) (by decide)))
  have F35_q_deadline := F14_q_deadline.other W25 (Or.inl (Ne.symm ne_t_q))
  have F36_q_place := F15_q_place.other W25 (Or.inl (Ne.symm ne_t_q))
  have F37_q_next := F16_q_next.other W25 (Or.inl (Ne.symm ne_t_q))
  have F38_q_previous := F17_q_previous.other W25 (Or.inl (Ne.symm ne_t_q))
  have E39_w := E18_w.wr W25
  have E40_t := E19_t.wr W25
  have E41_q := E20_q.wr W25
  have B42_sa := B21_sa.other W25 ne_sa_t
  have B43_oa := B22_oa.other W25 ne_oa_t
  have Z44 := Nat.le_trans Z23 (Keep.of_wr W25).1
  refine s_aloadN k25 d5_83 rfl rfl (pc' := 84) rfl ?_
  refine s_get k25 d5_84 (host := "") (Or.inl (hw _ (List.mem_of_getElem? (i := 16) rfl))) Via.refl F26_w_slots (pc' := 87) rfl fun T45 k45 => ?_
  refine s_aloadN k45 d5_87 rfl rfl (pc' := 88) rfl ?_
  refine s_getR k45 d5_88 (hw _ (List.mem_of_getElem? (i := 52) rfl)) Via.refl F32_t_place (pc' := 91) rfl ?_
  refine s_aloadN k45 d5_91 rfl rfl (pc' := 92) rfl ?_
  refine s_aastoreF k45 (i := pi) d5_92 B42_sa hpn hpi hp3 O_sa (Or.inr ⟨_, rfl, (Ins.self E40_t)⟩) g_sa (pc' := 93) rfl fun T46 h46 L46 k46 W46 B46 => ?_
  have F47_w_slots := F26_w_slots.other W46 (Or.inl ne_w_sa)
  have F48_w_occupied := F27_w_occupied.other W46 (Or.inl ne_w_sa)
  have F49_w_overflow := F28_w_overflow.other W46 (Or.inl ne_w_sa)
  have F50_w_overflowEvent := F29_w_overflowEvent.other W46 (Or.inl ne_w_sa)
  have F51_w_elapsed := F30_w_elapsed.other W46 (Or.inl ne_w_sa)
  have F52_t_deadline := F31_t_deadline.other W46 (Or.inl (Ne.symm ne_sa_t))
  have F53_t_place := F32_t_place.other W46 (Or.inl (Ne.symm ne_sa_t))
  have F54_t_next := F33_t_next.other W46 (Or.inl (Ne.symm ne_sa_t))
  have F55_t_previous := F34_t_previous.other W46 (Or.inl (Ne.symm ne_sa_t))
  have F56_q_deadline := F35_q_deadline.other W46 (Or.inl (Ne.symm ne_sa_q))
  have F57_q_place := F36_q_place.other W46 (Or.inl (Ne.symm ne_sa_q))
  have F58_q_next := F37_q_next.other W46 (Or.inl (Ne.symm ne_sa_q))
  have F59_q_previous := F38_q_previous.other W46 (Or.inl (Ne.symm ne_sa_q))
  have E60_w := E39_w.wr W46
  have E61_t := E40_t.wr W46
  have E62_q := E41_q.wr W46
  have B63_oa := B43_oa.other W46 (Ne.symm ne_sa_oa)
  have Z64 := Nat.le_trans Z44 (Keep.of_wr W46).1
  refine s_aloadN k46 d5_93 rfl rfl (pc' := 94) rfl ?_
  refine s_get k46 d5_94 (host := "") (Or.inl (hw _ (List.mem_of_getElem? (i := 19) rfl))) Via.refl F48_w_occupied (pc' := 97) rfl fun T65 k65 => ?_
  refine s_iload k65 d5_97 rfl (pc' := 99) rfl ?_
  refine s_dup2 k65 d5_99 rfl rfl (pc' := 100) rfl ?_
  refine s_laloadF k65 (i := li) d5_100 B63_oa hln hli hl5 rfl (pc' := 101) rfl ?_
  refine s_lconst k65 (z := 1) d5_101 (by decide) (pc' := 102) rfl ?_
  refine s_iload k65 d5_102 rfl (pc' := 104) rfl ?_
  refine s_lshl k65 d5_104 rfl (pc' := 105) rfl ?_
  refine s_lor k65 d5_105 rfl (pc' := 106) rfl ?_
  refine s_lastoreF k65 (i := li) d5_106 B63_oa hln hli hl5 g_oa (pc' := 107) rfl fun T66 h66 L66 k66 W66 B66 => ?_
  have F67_w_slots := F47_w_slots.other W66 (Or.inl ne_w_oa)
  have F68_w_occupied := F48_w_occupied.other W66 (Or.inl ne_w_oa)
  have F69_w_overflow := F49_w_overflow.other W66 (Or.inl ne_w_oa)
  have F70_w_overflowEvent := F50_w_overflowEvent.other W66 (Or.inl ne_w_oa)
  have F71_w_elapsed := F51_w_elapsed.other W66 (Or.inl ne_w_oa)
  have F72_t_deadline := F52_t_deadline.other W66 (Or.inl (Ne.symm ne_oa_t))
  have F73_t_place := F53_t_place.other W66 (Or.inl (Ne.symm ne_oa_t))
  have F74_t_next := F54_t_next.other W66 (Or.inl (Ne.symm ne_oa_t))
  have F75_t_previous := F55_t_previous.other W66 (Or.inl (Ne.symm ne_oa_t))
  have F76_q_deadline := F56_q_deadline.other W66 (Or.inl (Ne.symm ne_oa_q))
  have F77_q_place := F57_q_place.other W66 (Or.inl (Ne.symm ne_oa_q))
  have F78_q_next := F58_q_next.other W66 (Or.inl (Ne.symm ne_oa_q))
  have F79_q_previous := F59_q_previous.other W66 (Or.inl (Ne.symm ne_oa_q))
  have E80_w := E60_w.wr W66
  have E81_t := E61_t.wr W66
  have E82_q := E62_q.wr W66
  have B83_sa := B46.other W66 ne_sa_oa
  have Z84 := Nat.le_trans Z64 (Keep.of_wr W66).1
  refine s_goto k66 d5_107 (by decide) (pc' := 148) (by decide) ?_
  refine s_aloadN k66 d5_148 rfl rfl (pc' := 149) rfl ?_
  refine s_getR k66 d5_149 (hw _ (List.mem_of_getElem? (i := 53) rfl)) Via.refl F74_t_next (pc' := 152) rfl ?_
  refine s_nullY k66 d5_152 (by decide) (pc' := 163) (by decide) ?_
  refine s_iconst k66 (z := 1) d5_163 (by decide) (pc' := 164) rfl ?_
  exact s_retZ k66 d5_164 rfl (by decide) hP (by decide) (by decide) ⟨rfl, ⟨E80_w, F67_w_slots, F68_w_occupied, F69_w_overflow, F70_w_overflowEvent, F71_w_elapsed, B83_sa, B66⟩, ⟨E81_t, F72_t_deadline, F73_t_place, F74_t_next, F75_t_previous⟩, ⟨E82_q, F76_q_deadline, F77_q_place, F78_q_next, F79_q_previous⟩⟩
theorem d5_155 : decode prog_30_method_2_code 155 = .ok (.aload_n 1, 1) := by decide +kernel
theorem d5_156 : decode prog_30_method_2_code 156 = .ok (.getfield 41, 3) := by decide +kernel
theorem d5_159 : decode prog_30_method_2_code 159 = .ok (.aload_n 1, 1) := by decide +kernel
theorem d5_160 : decode prog_30_method_2_code 160 = .ok (.putfield 56, 3) := by decide +kernel
theorem pn_5_addSq : plainFor (⟨"com/example/gull/gull/TimerWheel", "add", "(Lcom/example/gull/gull/TimerWheel$Timer;)Z"⟩ : MethodName) = true := plainFor_of_name (by first | (simp [plainName, overriddenIn]; done) | decide +kernel)
theorem ef_addSq {w : Addr} {t : Addr} (m : MethodId) : entryFrame m #[.ref w, .ref t] 6 = mkF m 0 #[.val (.ref w), .val (.ref t), .unset, .unset, .unset, .unset] [] := by first | (simp [entryFrame, mkF, argsToLocals, Value.category]; done) | rfl
set_option maxRecDepth 65536 in
set_option maxHeartbeats 40000000 in
theorem addSq (l : Launch) (Z : State) (a0 : Array Value) (hw : ∀ d ∈ tables_1, d.before a0 Z = true) (w sa oa t q : Addr) (ka ko : ClassId) (el : Int64) (S : Nat → Value) (Oc : Nat → Int64) (oe d dq : Int64) (p0 pq : Int32) (nq vq : Value) (ov : Value) (lv sv pl : Int32) (li pi : Nat)  (h0 : Heap) (n0 : Nat) (Z0 : n0 ≤ h0.size) (Cx : Ctx n0 w sa oa t q) (O_sa : Ovr Z ka "com/example/gull/gull/TimerWheel$Timer") (HW : Whl Z h0 w sa oa ka ko S Oc ov oe el) (HT : Tmr Z h0 t d p0 .null .null) (HQ : Tmr Z h0 q dq pq nq vq) (hd : el < d) (hlv : (((63 : Int32) - (fnlz (el ^^^ d))) / (6 : Int32)) = lv) (h5 : lv < (5 : Int32)) (hsv : ((Jvm.Free.XT.ushrL d (lv * (6 : Int32))).toInt32 &&& (63 : Int32)) = sv) (hpl : ((lv * (64 : Int32)) + sv) = pl) (hpn : ¬ pl < 0) (hpi : pl.toNatClampNeg = pi) (hp3 : pi < 320) (hln : ¬ lv < 0) (hli : lv.toNatClampNeg = li) (hl5 : li < 5) (hS : S pi = .ref q) :
    Met l Z (⟨"com/example/gull/gull/TimerWheel", "add", "(Lcom/example/gull/gull/TimerWheel$Timer;)Z"⟩ : MethodName) prog_30_method_2_code 6 (some .boolean) ({ frames := 2, cells := 0, slots := 0, locals := 48 } : Room) n0 #[.ref w, .ref t] h0 (fun v h => v = some (.int (1 : Int32)) ∧ Whl Z h w sa oa ka ko (upd S pi (.ref t)) (updL Oc li ((Oc li) ||| ((1 : Int64) <<< (sv.toInt64 &&& 63)))) ov oe el ∧ Tmr Z h t d pl (.ref q) .null ∧ Tmr Z h q dq pq nq (.ref t)) := by
  refine Met.of (Ls := #[.val (.ref w), .val (.ref t), .unset, .unset, .unset, .unset]) pn_5_addSq (fun m => ef_addSq m) fun p e s m below meth c T0 P hP k0 => ?_
  obtain ⟨⟨g_w, g_sa, g_oa, g_t, g_q⟩, ne_w_sa, ne_w_oa, ne_w_t, ne_w_q, ne_sa_oa, ne_sa_t, ne_sa_q, ne_oa_t, ne_oa_q, ne_t_q⟩ := Cx
  obtain ⟨E_w, F_w_sl, F_w_oc, F_w_ov, F_w_oe, F_w_el, B_sa, B_oa⟩ := HW
  obtain ⟨E_t, F_t_d, F_t_p, F_t_n, F_t_v⟩ := HT
  obtain ⟨E_q, F_q_d, F_q_p, F_q_n, F_q_v⟩ := HQ
  refine s_aloadN k0 d5_0 rfl rfl (pc' := 1) rfl ?_
  refine s_getR k0 d5_1 (hw _ (List.mem_of_getElem? (i := 42) rfl)) Via.refl F_t_d (pc' := 4) rfl ?_
  refine s_aloadN k0 d5_4 rfl rfl (pc' := 5) rfl ?_
  refine s_get k0 d5_5 (host := "") (Or.inl (hw _ (List.mem_of_getElem? (i := 24) rfl))) Via.refl F_w_el (pc' := 8) rfl fun T1 k1 => ?_
  refine s_lcmp_gt k1 d5_8 rfl d5_9 (by decide) (pc' := 14) (by decide) (pc3 := 12) rfl (fun hc8 => ?_) (fun hc8 => absurd hd hc8)
  refine s_aloadN k1 d5_14 rfl rfl (pc' := 15) rfl ?_
  refine s_get k1 d5_15 (host := "") (Or.inl (hw _ (List.mem_of_getElem? (i := 24) rfl))) Via.refl F_w_el (pc' := 18) rfl fun T2 k2 => ?_
  refine s_aloadN k2 d5_18 rfl rfl (pc' := 19) rfl ?_
  refine s_getR k2 d5_19 (hw _ (List.mem_of_getElem? (i := 42) rfl)) Via.refl F_t_d (pc' := 22) rfl ?_
  refine s_lxor k2 d5_22 rfl (pc' := 23) rfl ?_
  refine s_lstoreN k2 d5_23 (l' := #[.val (.ref w), .val (.ref t), .val (.long (el ^^^ d)), .second, .unset, .unset]) rfl (pc' := 24) rfl ?_
  refine s_bipush k2 (z := 63) d5_24 (by decide) (pc' := 26) rfl ?_
  refine s_lloadN k2 d5_26 rfl (pc' := 27) rfl ?_
  refine s_callS k2 [.long (el ^^^ d)] 1 d5_27 (hw _ (List.mem_of_getElem? (i := 43) rfl)) (hw _ (List.mem_of_getElem? (i := 44) rfl)) (hw _ (List.mem_of_getElem? (i := 45) rfl)) (hw _ (List.mem_of_getElem? (i := 46) rfl)) (by decide) (rmnlz l Z a0 hw (el ^^^ d) h0 n0 Z0 ) (by decide) (by decide) pd__28J_29I rfl (Nat.le_of_eq rfl) rfl (by decide) (by decide) rfl (pc' := 30) rfl fun v3 T3 h3 L3 k3 Qv3 => ?_
  obtain ⟨rfl, rfl⟩ := Qv3
  show Go p e below P T3 (mkF m 30 #[.val (.ref w), .val (.ref t), .val (.long (el ^^^ d)), .second, .unset, .unset] [.int (fnlz (el ^^^ d)), .int (63 : Int32)])
  refine s_isub k3 d5_30 rfl (pc' := 31) rfl ?_
  refine s_bipush k3 (z := 6) d5_31 (by decide) (pc' := 33) rfl ?_
  refine s_idiv k3 d5_33 (by decide) rfl (pc' := 34) rfl ?_
  refine s_istore k3 d5_34 (l' := #[.val (.ref w), .val (.ref t), .val (.long (el ^^^ d)), .second, .val (.int (((63 : Int32) - (fnlz (el ^^^ d))) / (6 : Int32))), .unset]) rfl (pc' := 36) rfl ?_
  rw [hlv]
  show Go p e below P T3 (mkF m 36 #[.val (.ref w), .val (.ref t), .val (.long (el ^^^ d)), .second, .val (.int lv), .unset] [])
  refine s_iload k3 d5_36 rfl (pc' := 38) rfl ?_
  refine s_iconst k3 (z := 5) d5_38 (by decide) (pc' := 39) rfl ?_
  refine s_icmp_ge k3 d5_39 (by decide) (pc' := 110) (by decide) (pc3 := 42) rfl (fun hc39 => ?_) (fun hc39 => absurd h5 hc39)
  refine s_aloadN k3 d5_42 rfl rfl (pc' := 43) rfl ?_
  refine s_getR k3 d5_43 (hw _ (List.mem_of_getElem? (i := 42) rfl)) Via.refl F_t_d (pc' := 46) rfl ?_
  refine s_iload k3 d5_46 rfl (pc' := 48) rfl ?_
  refine s_bipush k3 (z := 6) d5_48 (by decide) (pc' := 50) rfl ?_
  refine s_imul k3 d5_50 rfl (pc' := 51) rfl ?_
  refine s_lushr k3 d5_51 rfl (pc' := 52) rfl ?_
  refine s_l2i k3 d5_52 rfl (pc' := 53) rfl ?_
  refine s_bipush k3 (z := 63) d5_53 (by decide) (pc' := 55) rfl ?_
  refine s_iand k3 d5_55 rfl (pc' := 56) rfl ?_
  refine s_istore k3 d5_56 (l' := #[.val (.ref w), .val (.ref t), .val (.long (el ^^^ d)), .second, .val (.int lv), .val (.int ((Jvm.Free.XT.ushrL d (lv * (6 : Int32))).toInt32 &&& (63 : Int32)))]) rfl (pc' := 58) rfl ?_
  rw [hsv]
  show Go p e below P T3 (mkF m 58 #[.val (.ref w), .val (.ref t), .val (.long (el ^^^ d)), .second, .val (.int lv), .val (.int sv)] [])
  refine s_aloadN k3 d5_58 rfl rfl (pc' := 59) rfl ?_
  refine s_iload k3 d5_59 rfl (pc' := 61) rfl ?_
  refine s_bipush k3 (z := 64) d5_61 (by decide) (pc' := 63) rfl ?_
  refine s_imul k3 d5_63 rfl (pc' := 64) rfl ?_
  refine s_iload k3 d5_64 rfl (pc' := 66) rfl ?_
  refine s_iadd k3 d5_66 rfl (pc' := 67) rfl ?_
  rw [hpl]
  show Go p e below P T3 (mkF m 67 #[.val (.ref w), .val (.ref t), .val (.long (el ^^^ d)), .second, .val (.int lv), .val (.int sv)] [.int pl, .ref t])
  refine s_putR k3 d5_67 (hw _ (List.mem_of_getElem? (i := 52) rfl)) Via.refl F_t_p E_t (hw _ (List.mem_of_getElem? (i := 34) rfl)) (hw _ (List.mem_of_getElem? (i := 27) rfl)) (ty := .int) (by decide) rfl rfl g_t (pc' := 70) rfl fun T4 h4 L4 k4 W4 => ?_
  have F5_w_slots := F_w_sl.other W4 (Or.inl ne_w_t)
  have F6_w_occupied := F_w_oc.other W4 (Or.inl ne_w_t)
  have F7_w_overflow := F_w_ov.other W4 (Or.inl ne_w_t)
  have F8_w_overflowEvent := F_w_oe.other W4 (Or.inl ne_w_t)
  have F9_w_elapsed := F_w_el.other W4 (Or.inl ne_w_t)
  have F10_t_deadline := F_t_d.other W4 (Or.inr (slot_ne (Or.inr (hw _ (List.mem_of_getElem? (i := 36) rfl))) (Or.inl (hw _ (List.mem_of_getElem? (i := 34) rfl))) (by decide) (t := .long) (t' := .int) (by decide) (by decide)))
  have F11_t_place := F_t_p.same W4
  have F12_t_next := F_t_n.other W4 (Or.inr (slot_ne (Or.inl (hw _ (List.mem_of_getElem? (i := 54) rfl))) (Or.inl (hw _ (List.mem_of_getElem? (i := 34) rfl))) (by decide) (t := (.object "com/example/gull/gull/TimerWheel$Timer")) (t' := .int) (by decide) (by decide)))
  have F13_t_previous := F_t_v.other W4 (Or.inr (slot_ne (Or.inl (hw _ (List.mem_of_getElem? (i := 62) rfl))) (Or.inl (hw _ (List.mem_of_getElem? (i := 34) rfl))) (by decide) (t := (.object "com/example/gull/gull/TimerWheel$Timer")) (t' := .int) (by decide) (by decide)))
  have F14_q_deadline := F_q_d.other W4 (Or.inl (Ne.symm ne_t_q))
  have F15_q_place := F_q_p.other W4 (Or.inl (Ne.symm ne_t_q))
  have F16_q_next := F_q_n.other W4 (Or.inl (Ne.symm ne_t_q))
  have F17_q_previous := F_q_v.other W4 (Or.inl (Ne.symm ne_t_q))
  have E18_w := E_w.wr W4
  have E19_t := E_t.wr W4
  have E20_q := E_q.wr W4
  have B21_sa := B_sa.other W4 ne_sa_t
  have B22_oa := B_oa.other W4 ne_oa_t
  have Z23 := Nat.le_trans Z0 (Keep.of_wr W4).1
  refine s_aloadN k4 d5_70 rfl rfl (pc' := 71) rfl ?_
  refine s_aloadN k4 d5_71 rfl rfl (pc' := 72) rfl ?_
  refine s_get k4 d5_72 (host := "") (Or.inl (hw _ (List.mem_of_getElem? (i := 16) rfl))) Via.refl F5_w_slots (pc' := 75) rfl fun T24 k24 => ?_
  refine s_aloadN k24 d5_75 rfl rfl (pc' := 76) rfl ?_
  refine s_getR k24 d5_76 (hw _ (List.mem_of_getElem? (i := 52) rfl)) Via.refl F11_t_place (pc' := 79) rfl ?_
  refine s_aaloadF k24 (i := pi) d5_79 B21_sa rfl hpn hpi hp3 hS (pc' := 80) rfl ?_
  refine s_putR k24 d5_80 (hw _ (List.mem_of_getElem? (i := 53) rfl)) Via.refl F12_t_next E19_t (hw _ (List.mem_of_getElem? (i := 54) rfl)) (hw _ (List.mem_of_getElem? (i := 27) rfl)) (ty := (.object "com/example/gull/gull/TimerWheel$Timer")) (by decide) rfl rfl g_t (pc' := 83) rfl fun T25 h25 L25 k25 W25 => ?_
  have F26_w_slots := F5_w_slots.other W25 (Or.inl ne_w_t)
  have F27_w_occupied := F6_w_occupied.other W25 (Or.inl ne_w_t)
  have F28_w_overflow := F7_w_overflow.other W25 (Or.inl ne_w_t)
  have F29_w_overflowEvent := F8_w_overflowEvent.other W25 (Or.inl ne_w_t)
  have F30_w_elapsed := F9_w_elapsed.other W25 (Or.inl ne_w_t)
  have F31_t_deadline := F10_t_deadline.other W25 (Or.inr (slot_ne (Or.inr (hw _ (List.mem_of_getElem? (i := 36) rfl))) (Or.inl (hw _ (List.mem_of_getElem? (i := 54) rfl))) (by decide) (t := .long) (t' := (.object "com/example/gull/gull/TimerWheel$Timer")) (by decide) (by decide)))
  have F32_t_place := F11_t_place.other W25 (Or.inr (slot_ne (Or.inl (hw _ (List.mem_of_getElem? (i := 34) rfl))) (Or.inl (hw _ (List.mem_of_getElem? (i := 54) rfl))) (by decide) (t := .int) (t' := (.object "com/example/gull/gull/TimerWheel$Timer")) (by decide) (by decide)))
  have F33_t_next := F12_t_next.same W25
  have F34_t_previous := F13_t_previous.other W25 (Or.inr (slot_ne (Or.inl (hw _ (List.mem_of_getElem? (i := 62) rfl))) (Or.inl (hw _ (List.mem_of_getElem? (i := 54) rfl))) (by decide) (t := (.object "com/example/gull/gull/TimerWheel$Timer")) (t' := (.object "com/example/gull/gull/TimerWheel$Timer")) (by decide) (by decide)))
  have F35_q_deadline := F14_q_deadline.other W25 (Or.inl (Ne.symm ne_t_q))
  have F36_q_place := F15_q_place.other W25 (Or.inl (Ne.symm ne_t_q))
  have F37_q_next := F16_q_next.other W25 (Or.inl (Ne.symm ne_t_q))
  have F38_q_previous := F17_q_previous.other W25 (Or.inl (Ne.symm ne_t_q))
  have E39_w := E18_w.wr W25
  have E40_t := E19_t.wr W25
  have E41_q := E20_q.wr W25
  have B42_sa := B21_sa.other W25 ne_sa_t
  have B43_oa := B22_oa.other W25 ne_oa_t
  have Z44 := Nat.le_trans Z23 (Keep.of_wr W25).1
  refine s_aloadN k25 d5_83 rfl rfl (pc' := 84) rfl ?_
  refine s_get k25 d5_84 (host := "") (Or.inl (hw _ (List.mem_of_getElem? (i := 16) rfl))) Via.refl F26_w_slots (pc' := 87) rfl fun T45 k45 => ?_
  refine s_aloadN k45 d5_87 rfl rfl (pc' := 88) rfl ?_
  refine s_getR k45 d5_88 (hw _ (List.mem_of_getElem? (i := 52) rfl)) Via.refl F32_t_place (pc' := 91) rfl ?_
  refine s_aloadN k45 d5_91 rfl rfl (pc' := 92) rfl ?_
  refine s_aastoreF k45 (i := pi) d5_92 B42_sa hpn hpi hp3 O_sa (Or.inr ⟨_, rfl, (Ins.self E40_t)⟩) g_sa (pc' := 93) rfl fun T46 h46 L46 k46 W46 B46 => ?_
  have F47_w_slots := F26_w_slots.other W46 (Or.inl ne_w_sa)
  have F48_w_occupied := F27_w_occupied.other W46 (Or.inl ne_w_sa)
  have F49_w_overflow := F28_w_overflow.other W46 (Or.inl ne_w_sa)
  have F50_w_overflowEvent := F29_w_overflowEvent.other W46 (Or.inl ne_w_sa)
  have F51_w_elapsed := F30_w_elapsed.other W46 (Or.inl ne_w_sa)
  have F52_t_deadline := F31_t_deadline.other W46 (Or.inl (Ne.symm ne_sa_t))
  have F53_t_place := F32_t_place.other W46 (Or.inl (Ne.symm ne_sa_t))
  have F54_t_next := F33_t_next.other W46 (Or.inl (Ne.symm ne_sa_t))
  have F55_t_previous := F34_t_previous.other W46 (Or.inl (Ne.symm ne_sa_t))
  have F56_q_deadline := F35_q_deadline.other W46 (Or.inl (Ne.symm ne_sa_q))
  have F57_q_place := F36_q_place.other W46 (Or.inl (Ne.symm ne_sa_q))
  have F58_q_next := F37_q_next.other W46 (Or.inl (Ne.symm ne_sa_q))
  have F59_q_previous := F38_q_previous.other W46 (Or.inl (Ne.symm ne_sa_q))
  have E60_w := E39_w.wr W46
  have E61_t := E40_t.wr W46
  have E62_q := E41_q.wr W46
  have B63_oa := B43_oa.other W46 (Ne.symm ne_sa_oa)
  have Z64 := Nat.le_trans Z44 (Keep.of_wr W46).1
  refine s_aloadN k46 d5_93 rfl rfl (pc' := 94) rfl ?_
  refine s_get k46 d5_94 (host := "") (Or.inl (hw _ (List.mem_of_getElem? (i := 19) rfl))) Via.refl F48_w_occupied (pc' := 97) rfl fun T65 k65 => ?_
  refine s_iload k65 d5_97 rfl (pc' := 99) rfl ?_
  refine s_dup2 k65 d5_99 rfl rfl (pc' := 100) rfl ?_
  refine s_laloadF k65 (i := li) d5_100 B63_oa hln hli hl5 rfl (pc' := 101) rfl ?_
  refine s_lconst k65 (z := 1) d5_101 (by decide) (pc' := 102) rfl ?_
  refine s_iload k65 d5_102 rfl (pc' := 104) rfl ?_
  refine s_lshl k65 d5_104 rfl (pc' := 105) rfl ?_
  refine s_lor k65 d5_105 rfl (pc' := 106) rfl ?_
  refine s_lastoreF k65 (i := li) d5_106 B63_oa hln hli hl5 g_oa (pc' := 107) rfl fun T66 h66 L66 k66 W66 B66 => ?_
  have F67_w_slots := F47_w_slots.other W66 (Or.inl ne_w_oa)
  have F68_w_occupied := F48_w_occupied.other W66 (Or.inl ne_w_oa)
  have F69_w_overflow := F49_w_overflow.other W66 (Or.inl ne_w_oa)
  have F70_w_overflowEvent := F50_w_overflowEvent.other W66 (Or.inl ne_w_oa)
  have F71_w_elapsed := F51_w_elapsed.other W66 (Or.inl ne_w_oa)
  have F72_t_deadline := F52_t_deadline.other W66 (Or.inl (Ne.symm ne_oa_t))
  have F73_t_place := F53_t_place.other W66 (Or.inl (Ne.symm ne_oa_t))
  have F74_t_next := F54_t_next.other W66 (Or.inl (Ne.symm ne_oa_t))
  have F75_t_previous := F55_t_previous.other W66 (Or.inl (Ne.symm ne_oa_t))
  have F76_q_deadline := F56_q_deadline.other W66 (Or.inl (Ne.symm ne_oa_q))
  have F77_q_place := F57_q_place.other W66 (Or.inl (Ne.symm ne_oa_q))
  have F78_q_next := F58_q_next.other W66 (Or.inl (Ne.symm ne_oa_q))
  have F79_q_previous := F59_q_previous.other W66 (Or.inl (Ne.symm ne_oa_q))
  have E80_w := E60_w.wr W66
  have E81_t := E61_t.wr W66
  have E82_q := E62_q.wr W66
  have B83_sa := B46.other W66 ne_sa_oa
  have Z84 := Nat.le_trans Z64 (Keep.of_wr W66).1
  refine s_goto k66 d5_107 (by decide) (pc' := 148) (by decide) ?_
  refine s_aloadN k66 d5_148 rfl rfl (pc' := 149) rfl ?_
  refine s_getR k66 d5_149 (hw _ (List.mem_of_getElem? (i := 53) rfl)) Via.refl F74_t_next (pc' := 152) rfl ?_
  refine s_nullN k66 d5_152 (pc' := 155) rfl ?_
  refine s_aloadN k66 d5_155 rfl rfl (pc' := 156) rfl ?_
  refine s_getR k66 d5_156 (hw _ (List.mem_of_getElem? (i := 53) rfl)) Via.refl F74_t_next (pc' := 159) rfl ?_
  refine s_aloadN k66 d5_159 rfl rfl (pc' := 160) rfl ?_
  refine s_putR k66 d5_160 (hw _ (List.mem_of_getElem? (i := 61) rfl)) Via.refl F79_q_previous E82_q (hw _ (List.mem_of_getElem? (i := 62) rfl)) (hw _ (List.mem_of_getElem? (i := 27) rfl)) (ty := (.object "com/example/gull/gull/TimerWheel$Timer")) (by decide) rfl rfl g_q (pc' := 163) rfl fun T85 h85 L85 k85 W85 => ?_
  have F86_w_slots := F67_w_slots.other W85 (Or.inl ne_w_q)
  have F87_w_occupied := F68_w_occupied.other W85 (Or.inl ne_w_q)
  have F88_w_overflow := F69_w_overflow.other W85 (Or.inl ne_w_q)
  have F89_w_overflowEvent := F70_w_overflowEvent.other W85 (Or.inl ne_w_q)
  have F90_w_elapsed := F71_w_elapsed.other W85 (Or.inl ne_w_q)
  have F91_t_deadline := F72_t_deadline.other W85 (Or.inl ne_t_q)
  have F92_t_place := F73_t_place.other W85 (Or.inl ne_t_q)
  have F93_t_next := F74_t_next.other W85 (Or.inl ne_t_q)
  have F94_t_previous := F75_t_previous.other W85 (Or.inl ne_t_q)
  have F95_q_deadline := F76_q_deadline.other W85 (Or.inr (slot_ne (Or.inr (hw _ (List.mem_of_getElem? (i := 36) rfl))) (Or.inl (hw _ (List.mem_of_getElem? (i := 62) rfl))) (by decide) (t := .long) (t' := (.object "com/example/gull/gull/TimerWheel$Timer")) (by decide) (by decide)))
  have F96_q_place := F77_q_place.other W85 (Or.inr (slot_ne (Or.inl (hw _ (List.mem_of_getElem? (i := 34) rfl))) (Or.inl (hw _ (List.mem_of_getElem? (i := 62) rfl))) (by decide) (t := .int) (t' := (.object "com/example/gull/gull/TimerWheel$Timer")) (by decide) (by decide)))
  have F97_q_next := F78_q_next.other W85 (Or.inr (slot_ne (Or.inl (hw _ (List.mem_of_getElem? (i := 54) rfl))) (Or.inl (hw _ (List.mem_of_getElem? (i := 62) rfl))) (by decide) (t := (.object "com/example/gull/gull/TimerWheel$Timer")) (t' := (.object "com/example/gull/gull/TimerWheel$Timer")) (by decide) (by decide)))
  have F98_q_previous := F79_q_previous.same W85
  have E99_w := E80_w.wr W85
  have E100_t := E81_t.wr W85
  have E101_q := E82_q.wr W85
  have B102_sa := B83_sa.other W85 ne_sa_q
  have B103_oa := B66.other W85 ne_oa_q
  have Z104 := Nat.le_trans Z84 (Keep.of_wr W85).1
  refine s_iconst k85 (z := 1) d5_163 (by decide) (pc' := 164) rfl ?_
  exact s_retZ k85 d5_164 rfl (by decide) hP (by decide) (by decide) ⟨rfl, ⟨E99_w, F86_w_slots, F87_w_occupied, F88_w_overflow, F89_w_overflowEvent, F90_w_elapsed, B102_sa, B103_oa⟩, ⟨E100_t, F91_t_deadline, F92_t_place, F93_t_next, F94_t_previous⟩, ⟨E101_q, F95_q_deadline, F96_q_place, F97_q_next, F98_q_previous⟩⟩
theorem d5_110 : decode prog_30_method_2_code 110 = .ok (.aload_n 1, 1) := by decide +kernel
theorem d5_111 : decode prog_30_method_2_code 111 = .ok (.bipush (-2), 2) := by decide +kernel
theorem d5_113 : decode prog_30_method_2_code 113 = .ok (.putfield 37, 3) := by decide +kernel
theorem d5_116 : decode prog_30_method_2_code 116 = .ok (.aload_n 1, 1) := by decide +kernel
theorem d5_117 : decode prog_30_method_2_code 117 = .ok (.aload_n 0, 1) := by decide +kernel
theorem d5_118 : decode prog_30_method_2_code 118 = .ok (.getfield 45, 3) := by decide +kernel
theorem d5_121 : decode prog_30_method_2_code 121 = .ok (.putfield 41, 3) := by decide +kernel
theorem d5_124 : decode prog_30_method_2_code 124 = .ok (.aload_n 0, 1) := by decide +kernel
theorem d5_125 : decode prog_30_method_2_code 125 = .ok (.aload_n 1, 1) := by decide +kernel
theorem d5_126 : decode prog_30_method_2_code 126 = .ok (.putfield 45, 3) := by decide +kernel
theorem d5_129 : decode prog_30_method_2_code 129 = .ok (.aload_n 0, 1) := by decide +kernel
theorem d5_130 : decode prog_30_method_2_code 130 = .ok (.aload_n 0, 1) := by decide +kernel
theorem d5_131 : decode prog_30_method_2_code 131 = .ok (.getfield 23, 3) := by decide +kernel
theorem d5_134 : decode prog_30_method_2_code 134 = .ok (.aload_n 1, 1) := by decide +kernel
theorem d5_135 : decode prog_30_method_2_code 135 = .ok (.getfield 30, 3) := by decide +kernel
theorem d5_138 : decode prog_30_method_2_code 138 = .ok (.ldc2_w 48, 3) := by decide +kernel
theorem d5_141 : decode prog_30_method_2_code 141 = .ok (.land, 1) := by decide +kernel
theorem d5_142 : decode prog_30_method_2_code 142 = .ok (.invokestatic 50, 3) := by decide +kernel
theorem d5_145 : decode prog_30_method_2_code 145 = .ok (.putfield 23, 3) := by decide +kernel
theorem pd__28JJ_29J : parseMethodDescriptor "(JJ)J" = some ⟨[.long, .long], some .long⟩ := by decide +kernel
theorem pn_5_addO : plainFor (⟨"com/example/gull/gull/TimerWheel", "add", "(Lcom/example/gull/gull/TimerWheel$Timer;)Z"⟩ : MethodName) = true := plainFor_of_name (by first | (simp [plainName, overriddenIn]; done) | decide +kernel)
theorem ef_addO {w : Addr} {t : Addr} (m : MethodId) : entryFrame m #[.ref w, .ref t] 6 = mkF m 0 #[.val (.ref w), .val (.ref t), .unset, .unset, .unset, .unset] [] := by first | (simp [entryFrame, mkF, argsToLocals, Value.category]; done) | rfl
set_option maxRecDepth 65536 in
set_option maxHeartbeats 40000000 in
theorem addO (l : Launch) (Z : State) (a0 : Array Value) (hw : ∀ d ∈ tables_1, d.before a0 Z = true) (w sa oa t q : Addr) (ka ko : ClassId) (el : Int64) (S : Nat → Value) (Oc : Nat → Int64) (oe d dq : Int64) (p0 pq : Int32) (nq vq : Value) (lv : Int32) (h0 : Heap) (n0 : Nat) (Z0 : n0 ≤ h0.size) (Cx : Ctx n0 w sa oa t q) (O_sa : Ovr Z ka "com/example/gull/gull/TimerWheel$Timer") (HW : Whl Z h0 w sa oa ka ko S Oc .null oe el) (HT : Tmr Z h0 t d p0 .null .null) (HQ : Tmr Z h0 q dq pq nq vq) (hd : el < d) (hlv : (((63 : Int32) - (fnlz (el ^^^ d))) / (6 : Int32)) = lv) (h5 : ¬ lv < (5 : Int32))  :
    Met l Z (⟨"com/example/gull/gull/TimerWheel", "add", "(Lcom/example/gull/gull/TimerWheel$Timer;)Z"⟩ : MethodName) prog_30_method_2_code 6 (some .boolean) ({ frames := 2, cells := 0, slots := 0, locals := 48 } : Room) n0 #[.ref w, .ref t] h0 (fun v h => v = some (.int (1 : Int32)) ∧ Whl Z h w sa oa ka ko S Oc (.ref t) (fmin oe (d &&& (-1073741824 : Int64))) el ∧ Tmr Z h t d (-2 : Int32) .null .null ∧ Tmr Z h q dq pq nq vq) := by
  refine Met.of (Ls := #[.val (.ref w), .val (.ref t), .unset, .unset, .unset, .unset]) pn_5_addO (fun m => ef_addO m) fun p e s m below meth c T0 P hP k0 => ?_
  obtain ⟨⟨g_w, g_sa, g_oa, g_t, g_q⟩, ne_w_sa, ne_w_oa, ne_w_t, ne_w_q, ne_sa_oa, ne_sa_t, ne_sa_q, ne_oa_t, ne_oa_q, ne_t_q⟩ := Cx
  obtain ⟨E_w, F_w_sl, F_w_oc, F_w_ov, F_w_oe, F_w_el, B_sa, B_oa⟩ := HW
  obtain ⟨E_t, F_t_d, F_t_p, F_t_n, F_t_v⟩ := HT
  obtain ⟨E_q, F_q_d, F_q_p, F_q_n, F_q_v⟩ := HQ
  refine s_aloadN k0 d5_0 rfl rfl (pc' := 1) rfl ?_
  refine s_getR k0 d5_1 (hw _ (List.mem_of_getElem? (i := 42) rfl)) Via.refl F_t_d (pc' := 4) rfl ?_
  refine s_aloadN k0 d5_4 rfl rfl (pc' := 5) rfl ?_
  refine s_get k0 d5_5 (host := "") (Or.inl (hw _ (List.mem_of_getElem? (i := 24) rfl))) Via.refl F_w_el (pc' := 8) rfl fun T1 k1 => ?_
  refine s_lcmp_gt k1 d5_8 rfl d5_9 (by decide) (pc' := 14) (by decide) (pc3 := 12) rfl (fun hc8 => ?_) (fun hc8 => absurd hd hc8)
  refine s_aloadN k1 d5_14 rfl rfl (pc' := 15) rfl ?_
  refine s_get k1 d5_15 (host := "") (Or.inl (hw _ (List.mem_of_getElem? (i := 24) rfl))) Via.refl F_w_el (pc' := 18) rfl fun T2 k2 => ?_
  refine s_aloadN k2 d5_18 rfl rfl (pc' := 19) rfl ?_
  refine s_getR k2 d5_19 (hw _ (List.mem_of_getElem? (i := 42) rfl)) Via.refl F_t_d (pc' := 22) rfl ?_
  refine s_lxor k2 d5_22 rfl (pc' := 23) rfl ?_
  refine s_lstoreN k2 d5_23 (l' := #[.val (.ref w), .val (.ref t), .val (.long (el ^^^ d)), .second, .unset, .unset]) rfl (pc' := 24) rfl ?_
  refine s_bipush k2 (z := 63) d5_24 (by decide) (pc' := 26) rfl ?_
  refine s_lloadN k2 d5_26 rfl (pc' := 27) rfl ?_
  refine s_callS k2 [.long (el ^^^ d)] 1 d5_27 (hw _ (List.mem_of_getElem? (i := 43) rfl)) (hw _ (List.mem_of_getElem? (i := 44) rfl)) (hw _ (List.mem_of_getElem? (i := 45) rfl)) (hw _ (List.mem_of_getElem? (i := 46) rfl)) (by decide) (rmnlz l Z a0 hw (el ^^^ d) h0 n0 Z0 ) (by decide) (by decide) pd__28J_29I rfl (Nat.le_of_eq rfl) rfl (by decide) (by decide) rfl (pc' := 30) rfl fun v3 T3 h3 L3 k3 Qv3 => ?_
  obtain ⟨rfl, rfl⟩ := Qv3
  show Go p e below P T3 (mkF m 30 #[.val (.ref w), .val (.ref t), .val (.long (el ^^^ d)), .second, .unset, .unset] [.int (fnlz (el ^^^ d)), .int (63 : Int32)])
  refine s_isub k3 d5_30 rfl (pc' := 31) rfl ?_
  refine s_bipush k3 (z := 6) d5_31 (by decide) (pc' := 33) rfl ?_
  refine s_idiv k3 d5_33 (by decide) rfl (pc' := 34) rfl ?_
  refine s_istore k3 d5_34 (l' := #[.val (.ref w), .val (.ref t), .val (.long (el ^^^ d)), .second, .val (.int (((63 : Int32) - (fnlz (el ^^^ d))) / (6 : Int32))), .unset]) rfl (pc' := 36) rfl ?_
  rw [hlv]
  show Go p e below P T3 (mkF m 36 #[.val (.ref w), .val (.ref t), .val (.long (el ^^^ d)), .second, .val (.int lv), .unset] [])
  refine s_iload k3 d5_36 rfl (pc' := 38) rfl ?_
  refine s_iconst k3 (z := 5) d5_38 (by decide) (pc' := 39) rfl ?_
  refine s_icmp_ge k3 d5_39 (by decide) (pc' := 110) (by decide) (pc3 := 42) rfl (fun hc39 => absurd hc39 h5) (fun hc39 => ?_)
  refine s_aloadN k3 d5_110 rfl rfl (pc' := 111) rfl ?_
  refine s_bipush k3 (z := -2) d5_111 (by decide) (pc' := 113) rfl ?_
  refine s_putR k3 d5_113 (hw _ (List.mem_of_getElem? (i := 52) rfl)) Via.refl F_t_p E_t (hw _ (List.mem_of_getElem? (i := 34) rfl)) (hw _ (List.mem_of_getElem? (i := 27) rfl)) (ty := .int) (by decide) rfl rfl g_t (pc' := 116) rfl fun T4 h4 L4 k4 W4 => ?_
  have F5_w_slots := F_w_sl.other W4 (Or.inl ne_w_t)
  have F6_w_occupied := F_w_oc.other W4 (Or.inl ne_w_t)
  have F7_w_overflow := F_w_ov.other W4 (Or.inl ne_w_t)
  have F8_w_overflowEvent := F_w_oe.other W4 (Or.inl ne_w_t)
  have F9_w_elapsed := F_w_el.other W4 (Or.inl ne_w_t)
  have F10_t_deadline := F_t_d.other W4 (Or.inr (slot_ne (Or.inr (hw _ (List.mem_of_getElem? (i := 36) rfl))) (Or.inl (hw _ (List.mem_of_getElem? (i := 34) rfl))) (by decide) (t := .long) (t' := .int) (by decide) (by decide)))
  have F11_t_place := F_t_p.same W4
  have F12_t_next := F_t_n.other W4 (Or.inr (slot_ne (Or.inl (hw _ (List.mem_of_getElem? (i := 54) rfl))) (Or.inl (hw _ (List.mem_of_getElem? (i := 34) rfl))) (by decide) (t := (.object "com/example/gull/gull/TimerWheel$Timer")) (t' := .int) (by decide) (by decide)))
  have F13_t_previous := F_t_v.other W4 (Or.inr (slot_ne (Or.inl (hw _ (List.mem_of_getElem? (i := 62) rfl))) (Or.inl (hw _ (List.mem_of_getElem? (i := 34) rfl))) (by decide) (t := (.object "com/example/gull/gull/TimerWheel$Timer")) (t' := .int) (by decide) (by decide)))
  have F14_q_deadline := F_q_d.other W4 (Or.inl (Ne.symm ne_t_q))
  have F15_q_place := F_q_p.other W4 (Or.inl (Ne.symm ne_t_q))
  have F16_q_next := F_q_n.other W4 (Or.inl (Ne.symm ne_t_q))
  have F17_q_previous := F_q_v.other W4 (Or.inl (Ne.symm ne_t_q))
  have E18_w := E_w.wr W4
  have E19_t := E_t.wr W4
  have E20_q := E_q.wr W4
  have B21_sa := B_sa.other W4 ne_sa_t
  have B22_oa := B_oa.other W4 ne_oa_t
  have Z23 := Nat.le_trans Z0 (Keep.of_wr W4).1
  refine s_aloadN k4 d5_116 rfl rfl (pc' := 117) rfl ?_
  refine s_aloadN k4 d5_117 rfl rfl (pc' := 118) rfl ?_
  refine s_get k4 d5_118 (host := "") (Or.inl (hw _ (List.mem_of_getElem? (i := 63) rfl))) Via.refl F7_w_overflow (pc' := 121) rfl fun T24 k24 => ?_
  refine s_putR k24 d5_121 (hw _ (List.mem_of_getElem? (i := 53) rfl)) Via.refl F12_t_next E19_t (hw _ (List.mem_of_getElem? (i := 54) rfl)) (hw _ (List.mem_of_getElem? (i := 27) rfl)) (ty := (.object "com/example/gull/gull/TimerWheel$Timer")) (by decide) rfl rfl g_t (pc' := 124) rfl fun T25 h25 L25 k25 W25 => ?_
  have F26_w_slots := F5_w_slots.other W25 (Or.inl ne_w_t)
  have F27_w_occupied := F6_w_occupied.other W25 (Or.inl ne_w_t)
  have F28_w_overflow := F7_w_overflow.other W25 (Or.inl ne_w_t)
  have F29_w_overflowEvent := F8_w_overflowEvent.other W25 (Or.inl ne_w_t)
  have F30_w_elapsed := F9_w_elapsed.other W25 (Or.inl ne_w_t)
  have F31_t_deadline := F10_t_deadline.other W25 (Or.inr (slot_ne (Or.inr (hw _ (List.mem_of_getElem? (i := 36) rfl))) (Or.inl (hw _ (List.mem_of_getElem? (i := 54) rfl))) (by decide) (t := .long) (t' := (.object "com/example/gull/gull/TimerWheel$Timer")) (by decide) (by decide)))
  have F32_t_place := F11_t_place.other W25 (Or.inr (slot_ne (Or.inl (hw _ (List.mem_of_getElem? (i := 34) rfl))) (Or.inl (hw _ (List.mem_of_getElem? (i := 54) rfl))) (by decide) (t := .int) (t' := (.object "com/example/gull/gull/TimerWheel$Timer")) (by decide) (by decide)))
  have F33_t_next := F12_t_next.same W25
  have F34_t_previous := F13_t_previous.other W25 (Or.inr (slot_ne (Or.inl (hw _ (List.mem_of_getElem? (i := 62) rfl))) (Or.inl (hw _ (List.mem_of_getElem? (i := 54) rfl))) (by decide) (t := (.object "com/example/gull/gull/TimerWheel$Timer")) (t' := (.object "com/example/gull/gull/TimerWheel$Timer")) (by decide) (by decide)))
  have F35_q_deadline := F14_q_deadline.other W25 (Or.inl (Ne.symm ne_t_q))
  have F36_q_place := F15_q_place.other W25 (Or.inl (Ne.symm ne_t_q))
  have F37_q_next := F16_q_next.other W25 (Or.inl (Ne.symm ne_t_q))
  have F38_q_previous := F17_q_previous.other W25 (Or.inl (Ne.symm ne_t_q))
  have E39_w := E18_w.wr W25
  have E40_t := E19_t.wr W25
  have E41_q := E20_q.wr W25
  have B42_sa := B21_sa.other W25 ne_sa_t
  have B43_oa := B22_oa.other W25 ne_oa_t
  have Z44 := Nat.le_trans Z23 (Keep.of_wr W25).1
  refine s_aloadN k25 d5_124 rfl rfl (pc' := 125) rfl ?_
  refine s_aloadN k25 d5_125 rfl rfl (pc' := 126) rfl ?_
  refine s_put k25 d5_126 (host := "") (Or.inl (hw _ (List.mem_of_getElem? (i := 63) rfl))) Via.refl F28_w_overflow E39_w (Or.inl (hw _ (List.mem_of_getElem? (i := 64) rfl))) (hw _ (List.mem_of_getElem? (i := 6) rfl)) (ty := (.object "com/example/gull/gull/TimerWheel$Timer")) (by decide) rfl rfl g_w (pc' := 129) rfl fun T45 h45 L45 k45 W45 => ?_
  have F46_w_slots := F26_w_slots.other W45 (Or.inr (slot_ne (Or.inr (hw _ (List.mem_of_getElem? (i := 17) rfl))) (Or.inl (hw _ (List.mem_of_getElem? (i := 64) rfl))) (by decide) (t := (.array (.object "com/example/gull/gull/TimerWheel$Timer"))) (t' := (.object "com/example/gull/gull/TimerWheel$Timer")) (by decide) (by decide)))
  have F47_w_occupied := F27_w_occupied.other W45 (Or.inr (slot_ne (Or.inr (hw _ (List.mem_of_getElem? (i := 20) rfl))) (Or.inl (hw _ (List.mem_of_getElem? (i := 64) rfl))) (by decide) (t := (.array .long)) (t' := (.object "com/example/gull/gull/TimerWheel$Timer")) (by decide) (by decide)))
  have F48_w_overflow := F28_w_overflow.same W45
  have F49_w_overflowEvent := F29_w_overflowEvent.other W45 (Or.inr (slot_ne (Or.inl (hw _ (List.mem_of_getElem? (i := 23) rfl))) (Or.inl (hw _ (List.mem_of_getElem? (i := 64) rfl))) (by decide) (t := .long) (t' := (.object "com/example/gull/gull/TimerWheel$Timer")) (by decide) (by decide)))
  have F50_w_elapsed := F30_w_elapsed.other W45 (Or.inr (slot_ne (Or.inl (hw _ (List.mem_of_getElem? (i := 25) rfl))) (Or.inl (hw _ (List.mem_of_getElem? (i := 64) rfl))) (by decide) (t := .long) (t' := (.object "com/example/gull/gull/TimerWheel$Timer")) (by decide) (by decide)))
  have F51_t_deadline := F31_t_deadline.other W45 (Or.inl (Ne.symm ne_w_t))
  have F52_t_place := F32_t_place.other W45 (Or.inl (Ne.symm ne_w_t))
  have F53_t_next := F33_t_next.other W45 (Or.inl (Ne.symm ne_w_t))
  have F54_t_previous := F34_t_previous.other W45 (Or.inl (Ne.symm ne_w_t))
  have F55_q_deadline := F35_q_deadline.other W45 (Or.inl (Ne.symm ne_w_q))
  have F56_q_place := F36_q_place.other W45 (Or.inl (Ne.symm ne_w_q))
  have F57_q_next := F37_q_next.other W45 (Or.inl (Ne.symm ne_w_q))
  have F58_q_previous := F38_q_previous.other W45 (Or.inl (Ne.symm ne_w_q))
  have E59_w := E39_w.wr W45
  have E60_t := E40_t.wr W45
  have E61_q := E41_q.wr W45
  have B62_sa := B42_sa.other W45 (Ne.symm ne_w_sa)
  have B63_oa := B43_oa.other W45 (Ne.symm ne_w_oa)
  have Z64 := Nat.le_trans Z44 (Keep.of_wr W45).1
  refine s_aloadN k45 d5_129 rfl rfl (pc' := 130) rfl ?_
  refine s_aloadN k45 d5_130 rfl rfl (pc' := 131) rfl ?_
  refine s_get k45 d5_131 (host := "") (Or.inl (hw _ (List.mem_of_getElem? (i := 22) rfl))) Via.refl F49_w_overflowEvent (pc' := 134) rfl fun T65 k65 => ?_
  refine s_aloadN k65 d5_134 rfl rfl (pc' := 135) rfl ?_
  refine s_getR k65 d5_135 (hw _ (List.mem_of_getElem? (i := 42) rfl)) Via.refl F51_t_deadline (pc' := 138) rfl ?_
  refine s_ldcL k65 d5_138 (hw _ (List.mem_of_getElem? (i := 85) rfl)) (pc' := 141) rfl ?_
  refine s_land k65 d5_141 rfl (pc' := 142) rfl ?_
  refine s_callS k65 [.long oe, .long (d &&& (-1073741824 : Int64))] 1 d5_142 (hw _ (List.mem_of_getElem? (i := 86) rfl)) (hw _ (List.mem_of_getElem? (i := 87) rfl)) (hw _ (List.mem_of_getElem? (i := 88) rfl)) (hw _ (List.mem_of_getElem? (i := 89) rfl)) (by decide) (rmmin l Z a0 hw oe (d &&& (-1073741824 : Int64)) h45 n0 Z64 ) (by decide) (by decide) pd__28JJ_29J rfl (Nat.le_of_eq rfl) rfl (by decide) (by decide) rfl (pc' := 145) rfl fun v66 T66 h66 L66 k66 Qv66 => ?_
  obtain ⟨rfl, rfl⟩ := Qv66
  show Go p e below P T66 (mkF m 145 #[.val (.ref w), .val (.ref t), .val (.long (el ^^^ d)), .second, .val (.int lv), .unset] [.long (fmin oe (d &&& (-1073741824 : Int64))), .ref w])
  refine s_put k66 d5_145 (host := "") (Or.inl (hw _ (List.mem_of_getElem? (i := 22) rfl))) Via.refl F49_w_overflowEvent E59_w (Or.inl (hw _ (List.mem_of_getElem? (i := 23) rfl))) (hw _ (List.mem_of_getElem? (i := 6) rfl)) (ty := .long) (by decide) rfl rfl g_w (pc' := 148) rfl fun T67 h67 L67 k67 W67 => ?_
  have F68_w_slots := F46_w_slots.other W67 (Or.inr (slot_ne (Or.inr (hw _ (List.mem_of_getElem? (i := 17) rfl))) (Or.inl (hw _ (List.mem_of_getElem? (i := 23) rfl))) (by decide) (t := (.array (.object "com/example/gull/gull/TimerWheel$Timer"))) (t' := .long) (by decide) (by decide)))
  have F69_w_occupied := F47_w_occupied.other W67 (Or.inr (slot_ne (Or.inr (hw _ (List.mem_of_getElem? (i := 20) rfl))) (Or.inl (hw _ (List.mem_of_getElem? (i := 23) rfl))) (by decide) (t := (.array .long)) (t' := .long) (by decide) (by decide)))
  have F70_w_overflow := F48_w_overflow.other W67 (Or.inr (slot_ne (Or.inl (hw _ (List.mem_of_getElem? (i := 64) rfl))) (Or.inl (hw _ (List.mem_of_getElem? (i := 23) rfl))) (by decide) (t := (.object "com/example/gull/gull/TimerWheel$Timer")) (t' := .long) (by decide) (by decide)))
  have F71_w_overflowEvent := F49_w_overflowEvent.same W67
  have F72_w_elapsed := F50_w_elapsed.other W67 (Or.inr (slot_ne (Or.inl (hw _ (List.mem_of_getElem? (i := 25) rfl))) (Or.inl (hw _ (List.mem_of_getElem? (i := 23) rfl))) (by decide) (t := .long) (t' := .long) (by decide) (by decide)))
  have F73_t_deadline := F51_t_deadline.other W67 (Or.inl (Ne.symm ne_w_t))
  have F74_t_place := F52_t_place.other W67 (Or.inl (Ne.symm ne_w_t))
  have F75_t_next := F53_t_next.other W67 (Or.inl (Ne.symm ne_w_t))
  have F76_t_previous := F54_t_previous.other W67 (Or.inl (Ne.symm ne_w_t))
  have F77_q_deadline := F55_q_deadline.other W67 (Or.inl (Ne.symm ne_w_q))
  have F78_q_place := F56_q_place.other W67 (Or.inl (Ne.symm ne_w_q))
  have F79_q_next := F57_q_next.other W67 (Or.inl (Ne.symm ne_w_q))
  have F80_q_previous := F58_q_previous.other W67 (Or.inl (Ne.symm ne_w_q))
  have E81_w := E59_w.wr W67
  have E82_t := E60_t.wr W67
  have E83_q := E61_q.wr W67
  have B84_sa := B62_sa.other W67 (Ne.symm ne_w_sa)
  have B85_oa := B63_oa.other W67 (Ne.symm ne_w_oa)
  have Z86 := Nat.le_trans Z64 (Keep.of_wr W67).1
  refine s_aloadN k67 d5_148 rfl rfl (pc' := 149) rfl ?_
  refine s_getR k67 d5_149 (hw _ (List.mem_of_getElem? (i := 53) rfl)) Via.refl F75_t_next (pc' := 152) rfl ?_
  refine s_nullY k67 d5_152 (by decide) (pc' := 163) (by decide) ?_
  refine s_iconst k67 (z := 1) d5_163 (by decide) (pc' := 164) rfl ?_
  exact s_retZ k67 d5_164 rfl (by decide) hP (by decide) (by decide) ⟨rfl, ⟨E81_w, F68_w_slots, F69_w_occupied, F70_w_overflow, F71_w_overflowEvent, F72_w_elapsed, B84_sa, B85_oa⟩, ⟨E82_t, F73_t_deadline, F74_t_place, F75_t_next, F76_t_previous⟩, ⟨E83_q, F77_q_deadline, F78_q_place, F79_q_next, F80_q_previous⟩⟩
theorem pn_5_addOq : plainFor (⟨"com/example/gull/gull/TimerWheel", "add", "(Lcom/example/gull/gull/TimerWheel$Timer;)Z"⟩ : MethodName) = true := plainFor_of_name (by first | (simp [plainName, overriddenIn]; done) | decide +kernel)
theorem ef_addOq {w : Addr} {t : Addr} (m : MethodId) : entryFrame m #[.ref w, .ref t] 6 = mkF m 0 #[.val (.ref w), .val (.ref t), .unset, .unset, .unset, .unset] [] := by first | (simp [entryFrame, mkF, argsToLocals, Value.category]; done) | rfl
set_option maxRecDepth 65536 in
set_option maxHeartbeats 40000000 in
theorem addOq (l : Launch) (Z : State) (a0 : Array Value) (hw : ∀ d ∈ tables_1, d.before a0 Z = true) (w sa oa t q : Addr) (ka ko : ClassId) (el : Int64) (S : Nat → Value) (Oc : Nat → Int64) (oe d dq : Int64) (p0 pq : Int32) (nq vq : Value) (lv : Int32) (h0 : Heap) (n0 : Nat) (Z0 : n0 ≤ h0.size) (Cx : Ctx n0 w sa oa t q) (O_sa : Ovr Z ka "com/example/gull/gull/TimerWheel$Timer") (HW : Whl Z h0 w sa oa ka ko S Oc (.ref q) oe el) (HT : Tmr Z h0 t d p0 .null .null) (HQ : Tmr Z h0 q dq pq nq vq) (hd : el < d) (hlv : (((63 : Int32) - (fnlz (el ^^^ d))) / (6 : Int32)) = lv) (h5 : ¬ lv < (5 : Int32))  :
    Met l Z (⟨"com/example/gull/gull/TimerWheel", "add", "(Lcom/example/gull/gull/TimerWheel$Timer;)Z"⟩ : MethodName) prog_30_method_2_code 6 (some .boolean) ({ frames := 2, cells := 0, slots := 0, locals := 48 } : Room) n0 #[.ref w, .ref t] h0 (fun v h => v = some (.int (1 : Int32)) ∧ Whl Z h w sa oa ka ko S Oc (.ref t) (fmin oe (d &&& (-1073741824 : Int64))) el ∧ Tmr Z h t d (-2 : Int32) (.ref q) .null ∧ Tmr Z h q dq pq nq (.ref t)) := by
  refine Met.of (Ls := #[.val (.ref w), .val (.ref t), .unset, .unset, .unset, .unset]) pn_5_addOq (fun m => ef_addOq m) fun p e s m below meth c T0 P hP k0 => ?_
  obtain ⟨⟨g_w, g_sa, g_oa, g_t, g_q⟩, ne_w_sa, ne_w_oa, ne_w_t, ne_w_q, ne_sa_oa, ne_sa_t, ne_sa_q, ne_oa_t, ne_oa_q, ne_t_q⟩ := Cx
  obtain ⟨E_w, F_w_sl, F_w_oc, F_w_ov, F_w_oe, F_w_el, B_sa, B_oa⟩ := HW
  obtain ⟨E_t, F_t_d, F_t_p, F_t_n, F_t_v⟩ := HT
  obtain ⟨E_q, F_q_d, F_q_p, F_q_n, F_q_v⟩ := HQ
  refine s_aloadN k0 d5_0 rfl rfl (pc' := 1) rfl ?_
  refine s_getR k0 d5_1 (hw _ (List.mem_of_getElem? (i := 42) rfl)) Via.refl F_t_d (pc' := 4) rfl ?_
  refine s_aloadN k0 d5_4 rfl rfl (pc' := 5) rfl ?_
  refine s_get k0 d5_5 (host := "") (Or.inl (hw _ (List.mem_of_getElem? (i := 24) rfl))) Via.refl F_w_el (pc' := 8) rfl fun T1 k1 => ?_
  refine s_lcmp_gt k1 d5_8 rfl d5_9 (by decide) (pc' := 14) (by decide) (pc3 := 12) rfl (fun hc8 => ?_) (fun hc8 => absurd hd hc8)
  refine s_aloadN k1 d5_14 rfl rfl (pc' := 15) rfl ?_
  refine s_get k1 d5_15 (host := "") (Or.inl (hw _ (List.mem_of_getElem? (i := 24) rfl))) Via.refl F_w_el (pc' := 18) rfl fun T2 k2 => ?_
  refine s_aloadN k2 d5_18 rfl rfl (pc' := 19) rfl ?_
  refine s_getR k2 d5_19 (hw _ (List.mem_of_getElem? (i := 42) rfl)) Via.refl F_t_d (pc' := 22) rfl ?_
  refine s_lxor k2 d5_22 rfl (pc' := 23) rfl ?_
  refine s_lstoreN k2 d5_23 (l' := #[.val (.ref w), .val (.ref t), .val (.long (el ^^^ d)), .second, .unset, .unset]) rfl (pc' := 24) rfl ?_
  refine s_bipush k2 (z := 63) d5_24 (by decide) (pc' := 26) rfl ?_
  refine s_lloadN k2 d5_26 rfl (pc' := 27) rfl ?_
  refine s_callS k2 [.long (el ^^^ d)] 1 d5_27 (hw _ (List.mem_of_getElem? (i := 43) rfl)) (hw _ (List.mem_of_getElem? (i := 44) rfl)) (hw _ (List.mem_of_getElem? (i := 45) rfl)) (hw _ (List.mem_of_getElem? (i := 46) rfl)) (by decide) (rmnlz l Z a0 hw (el ^^^ d) h0 n0 Z0 ) (by decide) (by decide) pd__28J_29I rfl (Nat.le_of_eq rfl) rfl (by decide) (by decide) rfl (pc' := 30) rfl fun v3 T3 h3 L3 k3 Qv3 => ?_
  obtain ⟨rfl, rfl⟩ := Qv3
  show Go p e below P T3 (mkF m 30 #[.val (.ref w), .val (.ref t), .val (.long (el ^^^ d)), .second, .unset, .unset] [.int (fnlz (el ^^^ d)), .int (63 : Int32)])
  refine s_isub k3 d5_30 rfl (pc' := 31) rfl ?_
  refine s_bipush k3 (z := 6) d5_31 (by decide) (pc' := 33) rfl ?_
  refine s_idiv k3 d5_33 (by decide) rfl (pc' := 34) rfl ?_
  refine s_istore k3 d5_34 (l' := #[.val (.ref w), .val (.ref t), .val (.long (el ^^^ d)), .second, .val (.int (((63 : Int32) - (fnlz (el ^^^ d))) / (6 : Int32))), .unset]) rfl (pc' := 36) rfl ?_
  rw [hlv]
  show Go p e below P T3 (mkF m 36 #[.val (.ref w), .val (.ref t), .val (.long (el ^^^ d)), .second, .val (.int lv), .unset] [])
  refine s_iload k3 d5_36 rfl (pc' := 38) rfl ?_
  refine s_iconst k3 (z := 5) d5_38 (by decide) (pc' := 39) rfl ?_
  refine s_icmp_ge k3 d5_39 (by decide) (pc' := 110) (by decide) (pc3 := 42) rfl (fun hc39 => absurd hc39 h5) (fun hc39 => ?_)
  refine s_aloadN k3 d5_110 rfl rfl (pc' := 111) rfl ?_
  refine s_bipush k3 (z := -2) d5_111 (by decide) (pc' := 113) rfl ?_
  refine s_putR k3 d5_113 (hw _ (List.mem_of_getElem? (i := 52) rfl)) Via.refl F_t_p E_t (hw _ (List.mem_of_getElem? (i := 34) rfl)) (hw _ (List.mem_of_getElem? (i := 27) rfl)) (ty := .int) (by decide) rfl rfl g_t (pc' := 116) rfl fun T4 h4 L4 k4 W4 => ?_
  have F5_w_slots := F_w_sl.other W4 (Or.inl ne_w_t)
  have F6_w_occupied := F_w_oc.other W4 (Or.inl ne_w_t)
  have F7_w_overflow := F_w_ov.other W4 (Or.inl ne_w_t)
  have F8_w_overflowEvent := F_w_oe.other W4 (Or.inl ne_w_t)
  have F9_w_elapsed := F_w_el.other W4 (Or.inl ne_w_t)
  have F10_t_deadline := F_t_d.other W4 (Or.inr (slot_ne (Or.inr (hw _ (List.mem_of_getElem? (i := 36) rfl))) (Or.inl (hw _ (List.mem_of_getElem? (i := 34) rfl))) (by decide) (t := .long) (t' := .int) (by decide) (by decide)))
  have F11_t_place := F_t_p.same W4
  have F12_t_next := F_t_n.other W4 (Or.inr (slot_ne (Or.inl (hw _ (List.mem_of_getElem? (i := 54) rfl))) (Or.inl (hw _ (List.mem_of_getElem? (i := 34) rfl))) (by decide) (t := (.object "com/example/gull/gull/TimerWheel$Timer")) (t' := .int) (by decide) (by decide)))
  have F13_t_previous := F_t_v.other W4 (Or.inr (slot_ne (Or.inl (hw _ (List.mem_of_getElem? (i := 62) rfl))) (Or.inl (hw _ (List.mem_of_getElem? (i := 34) rfl))) (by decide) (t := (.object "com/example/gull/gull/TimerWheel$Timer")) (t' := .int) (by decide) (by decide)))
  have F14_q_deadline := F_q_d.other W4 (Or.inl (Ne.symm ne_t_q))
  have F15_q_place := F_q_p.other W4 (Or.inl (Ne.symm ne_t_q))
  have F16_q_next := F_q_n.other W4 (Or.inl (Ne.symm ne_t_q))
  have F17_q_previous := F_q_v.other W4 (Or.inl (Ne.symm ne_t_q))
  have E18_w := E_w.wr W4
  have E19_t := E_t.wr W4
  have E20_q := E_q.wr W4
  have B21_sa := B_sa.other W4 ne_sa_t
  have B22_oa := B_oa.other W4 ne_oa_t
  have Z23 := Nat.le_trans Z0 (Keep.of_wr W4).1
  refine s_aloadN k4 d5_116 rfl rfl (pc' := 117) rfl ?_
  refine s_aloadN k4 d5_117 rfl rfl (pc' := 118) rfl ?_
  refine s_get k4 d5_118 (host := "") (Or.inl (hw _ (List.mem_of_getElem? (i := 63) rfl))) Via.refl F7_w_overflow (pc' := 121) rfl fun T24 k24 => ?_
  refine s_putR k24 d5_121 (hw _ (List.mem_of_getElem? (i := 53) rfl)) Via.refl F12_t_next E19_t (hw _ (List.mem_of_getElem? (i := 54) rfl)) (hw _ (List.mem_of_getElem? (i := 27) rfl)) (ty := (.object "com/example/gull/gull/TimerWheel$Timer")) (by decide) rfl rfl g_t (pc' := 124) rfl fun T25 h25 L25 k25 W25 => ?_
  have F26_w_slots := F5_w_slots.other W25 (Or.inl ne_w_t)
  have F27_w_occupied := F6_w_occupied.other W25 (Or.inl ne_w_t)
  have F28_w_overflow := F7_w_overflow.other W25 (Or.inl ne_w_t)
  have F29_w_overflowEvent := F8_w_overflowEvent.other W25 (Or.inl ne_w_t)
  have F30_w_elapsed := F9_w_elapsed.other W25 (Or.inl ne_w_t)
  have F31_t_deadline := F10_t_deadline.other W25 (Or.inr (slot_ne (Or.inr (hw _ (List.mem_of_getElem? (i := 36) rfl))) (Or.inl (hw _ (List.mem_of_getElem? (i := 54) rfl))) (by decide) (t := .long) (t' := (.object "com/example/gull/gull/TimerWheel$Timer")) (by decide) (by decide)))
  have F32_t_place := F11_t_place.other W25 (Or.inr (slot_ne (Or.inl (hw _ (List.mem_of_getElem? (i := 34) rfl))) (Or.inl (hw _ (List.mem_of_getElem? (i := 54) rfl))) (by decide) (t := .int) (t' := (.object "com/example/gull/gull/TimerWheel$Timer")) (by decide) (by decide)))
  have F33_t_next := F12_t_next.same W25
  have F34_t_previous := F13_t_previous.other W25 (Or.inr (slot_ne (Or.inl (hw _ (List.mem_of_getElem? (i := 62) rfl))) (Or.inl (hw _ (List.mem_of_getElem? (i := 54) rfl))) (by decide) (t := (.object "com/example/gull/gull/TimerWheel$Timer")) (t' := (.object "com/example/gull/gull/TimerWheel$Timer")) (by decide) (by decide)))
  have F35_q_deadline := F14_q_deadline.other W25 (Or.inl (Ne.symm ne_t_q))
  have F36_q_place := F15_q_place.other W25 (Or.inl (Ne.symm ne_t_q))
  have F37_q_next := F16_q_next.other W25 (Or.inl (Ne.symm ne_t_q))
  have F38_q_previous := F17_q_previous.other W25 (Or.inl (Ne.symm ne_t_q))
  have E39_w := E18_w.wr W25
  have E40_t := E19_t.wr W25
  have E41_q := E20_q.wr W25
  have B42_sa := B21_sa.other W25 ne_sa_t
  have B43_oa := B22_oa.other W25 ne_oa_t
  have Z44 := Nat.le_trans Z23 (Keep.of_wr W25).1
  refine s_aloadN k25 d5_124 rfl rfl (pc' := 125) rfl ?_
  refine s_aloadN k25 d5_125 rfl rfl (pc' := 126) rfl ?_
  refine s_put k25 d5_126 (host := "") (Or.inl (hw _ (List.mem_of_getElem? (i := 63) rfl))) Via.refl F28_w_overflow E39_w (Or.inl (hw _ (List.mem_of_getElem? (i := 64) rfl))) (hw _ (List.mem_of_getElem? (i := 6) rfl)) (ty := (.object "com/example/gull/gull/TimerWheel$Timer")) (by decide) rfl rfl g_w (pc' := 129) rfl fun T45 h45 L45 k45 W45 => ?_
  have F46_w_slots := F26_w_slots.other W45 (Or.inr (slot_ne (Or.inr (hw _ (List.mem_of_getElem? (i := 17) rfl))) (Or.inl (hw _ (List.mem_of_getElem? (i := 64) rfl))) (by decide) (t := (.array (.object "com/example/gull/gull/TimerWheel$Timer"))) (t' := (.object "com/example/gull/gull/TimerWheel$Timer")) (by decide) (by decide)))
  have F47_w_occupied := F27_w_occupied.other W45 (Or.inr (slot_ne (Or.inr (hw _ (List.mem_of_getElem? (i := 20) rfl))) (Or.inl (hw _ (List.mem_of_getElem? (i := 64) rfl))) (by decide) (t := (.array .long)) (t' := (.object "com/example/gull/gull/TimerWheel$Timer")) (by decide) (by decide)))
  have F48_w_overflow := F28_w_overflow.same W45
  have F49_w_overflowEvent := F29_w_overflowEvent.other W45 (Or.inr (slot_ne (Or.inl (hw _ (List.mem_of_getElem? (i := 23) rfl))) (Or.inl (hw _ (List.mem_of_getElem? (i := 64) rfl))) (by decide) (t := .long) (t' := (.object "com/example/gull/gull/TimerWheel$Timer")) (by decide) (by decide)))
  have F50_w_elapsed := F30_w_elapsed.other W45 (Or.inr (slot_ne (Or.inl (hw _ (List.mem_of_getElem? (i := 25) rfl))) (Or.inl (hw _ (List.mem_of_getElem? (i := 64) rfl))) (by decide) (t := .long) (t' := (.object "com/example/gull/gull/TimerWheel$Timer")) (by decide) (by decide)))
  have F51_t_deadline := F31_t_deadline.other W45 (Or.inl (Ne.symm ne_w_t))
  have F52_t_place := F32_t_place.other W45 (Or.inl (Ne.symm ne_w_t))
  have F53_t_next := F33_t_next.other W45 (Or.inl (Ne.symm ne_w_t))
  have F54_t_previous := F34_t_previous.other W45 (Or.inl (Ne.symm ne_w_t))
  have F55_q_deadline := F35_q_deadline.other W45 (Or.inl (Ne.symm ne_w_q))
  have F56_q_place := F36_q_place.other W45 (Or.inl (Ne.symm ne_w_q))
  have F57_q_next := F37_q_next.other W45 (Or.inl (Ne.symm ne_w_q))
  have F58_q_previous := F38_q_previous.other W45 (Or.inl (Ne.symm ne_w_q))
  have E59_w := E39_w.wr W45
  have E60_t := E40_t.wr W45
  have E61_q := E41_q.wr W45
  have B62_sa := B42_sa.other W45 (Ne.symm ne_w_sa)
  have B63_oa := B43_oa.other W45 (Ne.symm ne_w_oa)
  have Z64 := Nat.le_trans Z44 (Keep.of_wr W45).1
  refine s_aloadN k45 d5_129 rfl rfl (pc' := 130) rfl ?_
  refine s_aloadN k45 d5_130 rfl rfl (pc' := 131) rfl ?_
  refine s_get k45 d5_131 (host := "") (Or.inl (hw _ (List.mem_of_getElem? (i := 22) rfl))) Via.refl F49_w_overflowEvent (pc' := 134) rfl fun T65 k65 => ?_
  refine s_aloadN k65 d5_134 rfl rfl (pc' := 135) rfl ?_
  refine s_getR k65 d5_135 (hw _ (List.mem_of_getElem? (i := 42) rfl)) Via.refl F51_t_deadline (pc' := 138) rfl ?_
  refine s_ldcL k65 d5_138 (hw _ (List.mem_of_getElem? (i := 85) rfl)) (pc' := 141) rfl ?_
  refine s_land k65 d5_141 rfl (pc' := 142) rfl ?_
  refine s_callS k65 [.long oe, .long (d &&& (-1073741824 : Int64))] 1 d5_142 (hw _ (List.mem_of_getElem? (i := 86) rfl)) (hw _ (List.mem_of_getElem? (i := 87) rfl)) (hw _ (List.mem_of_getElem? (i := 88) rfl)) (hw _ (List.mem_of_getElem? (i := 89) rfl)) (by decide) (rmmin l Z a0 hw oe (d &&& (-1073741824 : Int64)) h45 n0 Z64 ) (by decide) (by decide) pd__28JJ_29J rfl (Nat.le_of_eq rfl) rfl (by decide) (by decide) rfl (pc' := 145) rfl fun v66 T66 h66 L66 k66 Qv66 => ?_
  obtain ⟨rfl, rfl⟩ := Qv66
  show Go p e below P T66 (mkF m 145 #[.val (.ref w), .val (.ref t), .val (.long (el ^^^ d)), .second, .val (.int lv), .unset] [.long (fmin oe (d &&& (-1073741824 : Int64))), .ref w])
  refine s_put k66 d5_145 (host := "") (Or.inl (hw _ (List.mem_of_getElem? (i := 22) rfl))) Via.refl F49_w_overflowEvent E59_w (Or.inl (hw _ (List.mem_of_getElem? (i := 23) rfl))) (hw _ (List.mem_of_getElem? (i := 6) rfl)) (ty := .long) (by decide) rfl rfl g_w (pc' := 148) rfl fun T67 h67 L67 k67 W67 => ?_
  have F68_w_slots := F46_w_slots.other W67 (Or.inr (slot_ne (Or.inr (hw _ (List.mem_of_getElem? (i := 17) rfl))) (Or.inl (hw _ (List.mem_of_getElem? (i := 23) rfl))) (by decide) (t := (.array (.object "com/example/gull/gull/TimerWheel$Timer"))) (t' := .long) (by decide) (by decide)))
  have F69_w_occupied := F47_w_occupied.other W67 (Or.inr (slot_ne (Or.inr (hw _ (List.mem_of_getElem? (i := 20) rfl))) (Or.inl (hw _ (List.mem_of_getElem? (i := 23) rfl))) (by decide) (t := (.array .long)) (t' := .long) (by decide) (by decide)))
  have F70_w_overflow := F48_w_overflow.other W67 (Or.inr (slot_ne (Or.inl (hw _ (List.mem_of_getElem? (i := 64) rfl))) (Or.inl (hw _ (List.mem_of_getElem? (i := 23) rfl))) (by decide) (t := (.object "com/example/gull/gull/TimerWheel$Timer")) (t' := .long) (by decide) (by decide)))
  have F71_w_overflowEvent := F49_w_overflowEvent.same W67
  have F72_w_elapsed := F50_w_elapsed.other W67 (Or.inr (slot_ne (Or.inl (hw _ (List.mem_of_getElem? (i := 25) rfl))) (Or.inl (hw _ (List.mem_of_getElem? (i := 23) rfl))) (by decide) (t := .long) (t' := .long) (by decide) (by decide)))
  have F73_t_deadline := F51_t_deadline.other W67 (Or.inl (Ne.symm ne_w_t))
  have F74_t_place := F52_t_place.other W67 (Or.inl (Ne.symm ne_w_t))
  have F75_t_next := F53_t_next.other W67 (Or.inl (Ne.symm ne_w_t))
  have F76_t_previous := F54_t_previous.other W67 (Or.inl (Ne.symm ne_w_t))
  have F77_q_deadline := F55_q_deadline.other W67 (Or.inl (Ne.symm ne_w_q))
  have F78_q_place := F56_q_place.other W67 (Or.inl (Ne.symm ne_w_q))
  have F79_q_next := F57_q_next.other W67 (Or.inl (Ne.symm ne_w_q))
  have F80_q_previous := F58_q_previous.other W67 (Or.inl (Ne.symm ne_w_q))
  have E81_w := E59_w.wr W67
  have E82_t := E60_t.wr W67
  have E83_q := E61_q.wr W67
  have B84_sa := B62_sa.other W67 (Ne.symm ne_w_sa)
  have B85_oa := B63_oa.other W67 (Ne.symm ne_w_oa)
  have Z86 := Nat.le_trans Z64 (Keep.of_wr W67).1
  refine s_aloadN k67 d5_148 rfl rfl (pc' := 149) rfl ?_
  refine s_getR k67 d5_149 (hw _ (List.mem_of_getElem? (i := 53) rfl)) Via.refl F75_t_next (pc' := 152) rfl ?_
  refine s_nullN k67 d5_152 (pc' := 155) rfl ?_
  refine s_aloadN k67 d5_155 rfl rfl (pc' := 156) rfl ?_
  refine s_getR k67 d5_156 (hw _ (List.mem_of_getElem? (i := 53) rfl)) Via.refl F75_t_next (pc' := 159) rfl ?_
  refine s_aloadN k67 d5_159 rfl rfl (pc' := 160) rfl ?_
  refine s_putR k67 d5_160 (hw _ (List.mem_of_getElem? (i := 61) rfl)) Via.refl F80_q_previous E83_q (hw _ (List.mem_of_getElem? (i := 62) rfl)) (hw _ (List.mem_of_getElem? (i := 27) rfl)) (ty := (.object "com/example/gull/gull/TimerWheel$Timer")) (by decide) rfl rfl g_q (pc' := 163) rfl fun T87 h87 L87 k87 W87 => ?_
  have F88_w_slots := F68_w_slots.other W87 (Or.inl ne_w_q)
  have F89_w_occupied := F69_w_occupied.other W87 (Or.inl ne_w_q)
  have F90_w_overflow := F70_w_overflow.other W87 (Or.inl ne_w_q)
  have F91_w_overflowEvent := F71_w_overflowEvent.other W87 (Or.inl ne_w_q)
  have F92_w_elapsed := F72_w_elapsed.other W87 (Or.inl ne_w_q)
  have F93_t_deadline := F73_t_deadline.other W87 (Or.inl ne_t_q)
  have F94_t_place := F74_t_place.other W87 (Or.inl ne_t_q)
  have F95_t_next := F75_t_next.other W87 (Or.inl ne_t_q)
  have F96_t_previous := F76_t_previous.other W87 (Or.inl ne_t_q)
  have F97_q_deadline := F77_q_deadline.other W87 (Or.inr (slot_ne (Or.inr (hw _ (List.mem_of_getElem? (i := 36) rfl))) (Or.inl (hw _ (List.mem_of_getElem? (i := 62) rfl))) (by decide) (t := .long) (t' := (.object "com/example/gull/gull/TimerWheel$Timer")) (by decide) (by decide)))
  have F98_q_place := F78_q_place.other W87 (Or.inr (slot_ne (Or.inl (hw _ (List.mem_of_getElem? (i := 34) rfl))) (Or.inl (hw _ (List.mem_of_getElem? (i := 62) rfl))) (by decide) (t := .int) (t' := (.object "com/example/gull/gull/TimerWheel$Timer")) (by decide) (by decide)))
  have F99_q_next := F79_q_next.other W87 (Or.inr (slot_ne (Or.inl (hw _ (List.mem_of_getElem? (i := 54) rfl))) (Or.inl (hw _ (List.mem_of_getElem? (i := 62) rfl))) (by decide) (t := (.object "com/example/gull/gull/TimerWheel$Timer")) (t' := (.object "com/example/gull/gull/TimerWheel$Timer")) (by decide) (by decide)))
  have F100_q_previous := F80_q_previous.same W87
  have E101_w := E81_w.wr W87
  have E102_t := E82_t.wr W87
  have E103_q := E83_q.wr W87
  have B104_sa := B84_sa.other W87 ne_sa_q
  have B105_oa := B85_oa.other W87 ne_oa_q
  have Z106 := Nat.le_trans Z86 (Keep.of_wr W87).1
  refine s_iconst k87 (z := 1) d5_163 (by decide) (pc' := 164) rfl ?_
  exact s_retZ k87 d5_164 rfl (by decide) hP (by decide) (by decide) ⟨rfl, ⟨E101_w, F88_w_slots, F89_w_occupied, F90_w_overflow, F91_w_overflowEvent, F92_w_elapsed, B104_sa, B105_oa⟩, ⟨E102_t, F93_t_deadline, F94_t_place, F95_t_next, F96_t_previous⟩, ⟨E103_q, F97_q_deadline, F98_q_place, F99_q_next, F100_q_previous⟩⟩
theorem d8_0 : decode prog_30_method_3_code 0 = .ok (.aload_n 1, 1) := by decide +kernel
theorem d8_1 : decode prog_30_method_3_code 1 = .ok (.getfield 37, 3) := by decide +kernel
theorem d8_4 : decode prog_30_method_3_code 4 = .ok (.iconst (-1), 1) := by decide +kernel
theorem d8_5 : decode prog_30_method_3_code 5 = .ok (.if_icmp .ne 4, 3) := by decide +kernel
theorem d8_8 : decode prog_30_method_3_code 8 = .ok (.return_, 1) := by decide +kernel
theorem pn_8_remN : plainFor (⟨"com/example/gull/gull/TimerWheel", "remove", "(Lcom/example/gull/gull/TimerWheel$Timer;)V"⟩ : MethodName) = true := plainFor_of_name (by first | (simp [plainName, overriddenIn]; done) | decide +kernel)
theorem ef_remN {w : Addr} {t : Addr} (m : MethodId) : entryFrame m #[.ref w, .ref t] 2 = mkF m 0 #[.val (.ref w), .val (.ref t)] [] := by first | (simp [entryFrame, mkF, argsToLocals, Value.category]; done) | rfl
set_option maxRecDepth 65536 in
set_option maxHeartbeats 40000000 in
theorem remN (l : Launch) (Z : State) (a0 : Array Value) (hw : ∀ d ∈ tables_1, d.before a0 Z = true) (w sa oa t q : Addr) (ka ko : ClassId) (el : Int64) (S : Nat → Value) (Oc : Nat → Int64) (oe d dq : Int64) (pq : Int32) (nq vq : Value) (ov : Value) (h0 : Heap) (n0 : Nat) (Z0 : n0 ≤ h0.size) (Cx : Ctx n0 w sa oa t q) (O_sa : Ovr Z ka "com/example/gull/gull/TimerWheel$Timer") (HW : Whl Z h0 w sa oa ka ko S Oc ov oe el) (HT : Tmr Z h0 t d (-1 : Int32) .null .null) (HQ : Tmr Z h0 q dq pq nq vq)  :
    Met l Z (⟨"com/example/gull/gull/TimerWheel", "remove", "(Lcom/example/gull/gull/TimerWheel$Timer;)V"⟩ : MethodName) prog_30_method_3_code 2 none ({ frames := 0, cells := 0, slots := 0, locals := 0 } : Room) n0 #[.ref w, .ref t] h0 (fun v h => v = none ∧ h0 = h) := by
  refine Met.of (Ls := #[.val (.ref w), .val (.ref t)]) pn_8_remN (fun m => ef_remN m) fun p e s m below meth c T0 P hP k0 => ?_
  obtain ⟨⟨g_w, g_sa, g_oa, g_t, g_q⟩, ne_w_sa, ne_w_oa, ne_w_t, ne_w_q, ne_sa_oa, ne_sa_t, ne_sa_q, ne_oa_t, ne_oa_q, ne_t_q⟩ := Cx
  obtain ⟨E_w, F_w_sl, F_w_oc, F_w_ov, F_w_oe, F_w_el, B_sa, B_oa⟩ := HW
  obtain ⟨E_t, F_t_d, F_t_p, F_t_n, F_t_v⟩ := HT
  obtain ⟨E_q, F_q_d, F_q_p, F_q_n, F_q_v⟩ := HQ
  refine s_aloadN k0 d8_0 rfl rfl (pc' := 1) rfl ?_
  refine s_getR k0 d8_1 (hw _ (List.mem_of_getElem? (i := 52) rfl)) Via.refl F_t_p (pc' := 4) rfl ?_
  refine s_iconst k0 (z := -1) d8_4 (by decide) (pc' := 5) rfl ?_
  refine s_icmp_ne k0 d8_5 (by decide) (pc' := 9) (by decide) (pc3 := 8) rfl (fun hc5 => ?_) (fun hc5 => absurd (by decide) hc5)
  exact s_ret k0 d8_8 rfl hP (by decide) (by decide) ⟨rfl, rfl⟩
theorem d8_9 : decode prog_30_method_3_code 9 = .ok (.aload_n 1, 1) := by decide +kernel
theorem d8_10 : decode prog_30_method_3_code 10 = .ok (.getfield 56, 3) := by decide +kernel
theorem d8_13 : decode prog_30_method_3_code 13 = .ok (.ifnull 17, 3) := by decide +kernel
theorem d8_30 : decode prog_30_method_3_code 30 = .ok (.aload_n 1, 1) := by decide +kernel
theorem d8_31 : decode prog_30_method_3_code 31 = .ok (.getfield 37, 3) := by decide +kernel
theorem d8_34 : decode prog_30_method_3_code 34 = .ok (.bipush (-2), 2) := by decide +kernel
theorem d8_36 : decode prog_30_method_3_code 36 = .ok (.if_icmp .ne 14, 3) := by decide +kernel
theorem d8_39 : decode prog_30_method_3_code 39 = .ok (.aload_n 0, 1) := by decide +kernel
theorem d8_40 : decode prog_30_method_3_code 40 = .ok (.aload_n 1, 1) := by decide +kernel
theorem d8_41 : decode prog_30_method_3_code 41 = .ok (.getfield 41, 3) := by decide +kernel
theorem d8_44 : decode prog_30_method_3_code 44 = .ok (.putfield 45, 3) := by decide +kernel
theorem d8_47 : decode prog_30_method_3_code 47 = .ok (.goto 16, 3) := by decide +kernel
theorem d8_63 : decode prog_30_method_3_code 63 = .ok (.aload_n 1, 1) := by decide +kernel
theorem d8_64 : decode prog_30_method_3_code 64 = .ok (.getfield 41, 3) := by decide +kernel
theorem d8_67 : decode prog_30_method_3_code 67 = .ok (.ifnull 14, 3) := by decide +kernel
theorem d8_81 : decode prog_30_method_3_code 81 = .ok (.aload_n 0, 1) := by decide +kernel
theorem d8_82 : decode prog_30_method_3_code 82 = .ok (.getfield 45, 3) := by decide +kernel
theorem d8_85 : decode prog_30_method_3_code 85 = .ok (.ifnonnull 10, 3) := by decide +kernel
theorem d8_88 : decode prog_30_method_3_code 88 = .ok (.aload_n 0, 1) := by decide +kernel
theorem d8_89 : decode prog_30_method_3_code 89 = .ok (.ldc2_w 21, 3) := by decide +kernel
theorem d8_92 : decode prog_30_method_3_code 92 = .ok (.putfield 23, 3) := by decide +kernel
theorem d8_95 : decode prog_30_method_3_code 95 = .ok (.aload_n 1, 1) := by decide +kernel
theorem d8_96 : decode prog_30_method_3_code 96 = .ok (.getfield 37, 3) := by decide +kernel
theorem d8_99 : decode prog_30_method_3_code 99 = .ok (.bipush (-2), 2) := by decide +kernel
theorem d8_101 : decode prog_30_method_3_code 101 = .ok (.if_icmp .eq 43, 3) := by decide +kernel
theorem d8_144 : decode prog_30_method_3_code 144 = .ok (.aload_n 1, 1) := by decide +kernel
theorem d8_145 : decode prog_30_method_3_code 145 = .ok (.iconst (-1), 1) := by decide +kernel
theorem d8_146 : decode prog_30_method_3_code 146 = .ok (.putfield 37, 3) := by decide +kernel
theorem d8_149 : decode prog_30_method_3_code 149 = .ok (.aload_n 1, 1) := by decide +kernel
theorem d8_150 : decode prog_30_method_3_code 150 = .ok (.aconst_null, 1) := by decide +kernel
theorem d8_151 : decode prog_30_method_3_code 151 = .ok (.putfield 56, 3) := by decide +kernel
theorem d8_154 : decode prog_30_method_3_code 154 = .ok (.aload_n 1, 1) := by decide +kernel
theorem d8_155 : decode prog_30_method_3_code 155 = .ok (.aconst_null, 1) := by decide +kernel
theorem d8_156 : decode prog_30_method_3_code 156 = .ok (.putfield 41, 3) := by decide +kernel
theorem d8_159 : decode prog_30_method_3_code 159 = .ok (.return_, 1) := by decide +kernel
theorem pn_8_remO : plainFor (⟨"com/example/gull/gull/TimerWheel", "remove", "(Lcom/example/gull/gull/TimerWheel$Timer;)V"⟩ : MethodName) = true := plainFor_of_name (by first | (simp [plainName, overriddenIn]; done) | decide +kernel)
theorem ef_remO {w : Addr} {t : Addr} (m : MethodId) : entryFrame m #[.ref w, .ref t] 2 = mkF m 0 #[.val (.ref w), .val (.ref t)] [] := by first | (simp [entryFrame, mkF, argsToLocals, Value.category]; done) | rfl
set_option maxRecDepth 65536 in
set_option maxHeartbeats 40000000 in
theorem remO (l : Launch) (Z : State) (a0 : Array Value) (hw : ∀ d ∈ tables_1, d.before a0 Z = true) (w sa oa t q : Addr) (ka ko : ClassId) (el : Int64) (S : Nat → Value) (Oc : Nat → Int64) (oe d dq : Int64) (pq : Int32) (nq vq : Value)  (h0 : Heap) (n0 : Nat) (Z0 : n0 ≤ h0.size) (Cx : Ctx n0 w sa oa t q) (O_sa : Ovr Z ka "com/example/gull/gull/TimerWheel$Timer") (HW : Whl Z h0 w sa oa ka ko S Oc (.ref t) oe el) (HT : Tmr Z h0 t d (-2 : Int32) .null .null) (HQ : Tmr Z h0 q dq pq nq vq)  :
    Met l Z (⟨"com/example/gull/gull/TimerWheel", "remove", "(Lcom/example/gull/gull/TimerWheel$Timer;)V"⟩ : MethodName) prog_30_method_3_code 2 none ({ frames := 0, cells := 0, slots := 0, locals := 0 } : Room) n0 #[.ref w, .ref t] h0 (fun v h => v = none ∧ Whl Z h w sa oa ka ko S Oc .null (9223372036854775807 : Int64) el ∧ Tmr Z h t d (-1 : Int32) .null .null ∧ Tmr Z h q dq pq nq vq) := by
  refine Met.of (Ls := #[.val (.ref w), .val (.ref t)]) pn_8_remO (fun m => ef_remO m) fun p e s m below meth c T0 P hP k0 => ?_
  obtain ⟨⟨g_w, g_sa, g_oa, g_t, g_q⟩, ne_w_sa, ne_w_oa, ne_w_t, ne_w_q, ne_sa_oa, ne_sa_t, ne_sa_q, ne_oa_t, ne_oa_q, ne_t_q⟩ := Cx
  obtain ⟨E_w, F_w_sl, F_w_oc, F_w_ov, F_w_oe, F_w_el, B_sa, B_oa⟩ := HW
  obtain ⟨E_t, F_t_d, F_t_p, F_t_n, F_t_v⟩ := HT
  obtain ⟨E_q, F_q_d, F_q_p, F_q_n, F_q_v⟩ := HQ
  refine s_aloadN k0 d8_0 rfl rfl (pc' := 1) rfl ?_
  refine s_getR k0 d8_1 (hw _ (List.mem_of_getElem? (i := 52) rfl)) Via.refl F_t_p (pc' := 4) rfl ?_
  refine s_iconst k0 (z := -1) d8_4 (by decide) (pc' := 5) rfl ?_
  refine s_icmp_ne k0 d8_5 (by decide) (pc' := 9) (by decide) (pc3 := 8) rfl (fun hc5 => absurd hc5 (by decide)) (fun hc5 => ?_)
  refine s_aloadN k0 d8_9 rfl rfl (pc' := 10) rfl ?_
  refine s_getR k0 d8_10 (hw _ (List.mem_of_getElem? (i := 61) rfl)) Via.refl F_t_v (pc' := 13) rfl ?_
  refine s_nullY k0 d8_13 (by decide) (pc' := 30) (by decide) ?_
  refine s_aloadN k0 d8_30 rfl rfl (pc' := 31) rfl ?_
  refine s_getR k0 d8_31 (hw _ (List.mem_of_getElem? (i := 52) rfl)) Via.refl F_t_p (pc' := 34) rfl ?_
  refine s_bipush k0 (z := -2) d8_34 (by decide) (pc' := 36) rfl ?_
  refine s_icmp_ne k0 d8_36 (by decide) (pc' := 50) (by decide) (pc3 := 39) rfl (fun hc36 => ?_) (fun hc36 => absurd (by decide) hc36)
  refine s_aloadN k0 d8_39 rfl rfl (pc' := 40) rfl ?_
  refine s_aloadN k0 d8_40 rfl rfl (pc' := 41) rfl ?_
  refine s_getR k0 d8_41 (hw _ (List.mem_of_getElem? (i := 53) rfl)) Via.refl F_t_n (pc' := 44) rfl ?_
  refine s_put k0 d8_44 (host := "") (Or.inl (hw _ (List.mem_of_getElem? (i := 63) rfl))) Via.refl F_w_ov E_w (Or.inl (hw _ (List.mem_of_getElem? (i := 64) rfl))) (hw _ (List.mem_of_getElem? (i := 6) rfl)) (ty := (.object "com/example/gull/gull/TimerWheel$Timer")) (by decide) rfl rfl g_w (pc' := 47) rfl fun T1 h1 L1 k1 W1 => ?_
  have F2_w_slots := F_w_sl.other W1 (Or.inr (slot_ne (Or.inr (hw _ (List.mem_of_getElem? (i := 17) rfl))) (Or.inl (hw _ (List.mem_of_getElem? (i := 64) rfl))) (by decide) (t := (.array (.object "com/example/gull/gull/TimerWheel$Timer"))) (t' := (.object "com/example/gull/gull/TimerWheel$Timer")) (by decide) (by decide)))
  have F3_w_occupied := F_w_oc.other W1 (Or.inr (slot_ne (Or.inr (hw _ (List.mem_of_getElem? (i := 20) rfl))) (Or.inl (hw _ (List.mem_of_getElem? (i := 64) rfl))) (by decide) (t := (.array .long)) (t' := (.object "com/example/gull/gull/TimerWheel$Timer")) (by decide) (by decide)))
  have F4_w_overflow := F_w_ov.same W1
  have F5_w_overflowEvent := F_w_oe.other W1 (Or.inr (slot_ne (Or.inl (hw _ (List.mem_of_getElem? (i := 23) rfl))) (Or.inl (hw _ (List.mem_of_getElem? (i := 64) rfl))) (by decide) (t := .long) (t' := (.object "com/example/gull/gull/TimerWheel$Timer")) (by decide) (by decide)))
  have F6_w_elapsed := F_w_el.other W1 (Or.inr (slot_ne (Or.inl (hw _ (List.mem_of_getElem? (i := 25) rfl))) (Or.inl (hw _ (List.mem_of_getElem? (i := 64) rfl))) (by decide) (t := .long) (t' := (.object "com/example/gull/gull/TimerWheel$Timer")) (by decide) (by decide)))
  have F7_t_deadline := F_t_d.other W1 (Or.inl (Ne.symm ne_w_t))
  have F8_t_place := F_t_p.other W1 (Or.inl (Ne.symm ne_w_t))
  have F9_t_next := F_t_n.other W1 (Or.inl (Ne.symm ne_w_t))
  have F10_t_previous := F_t_v.other W1 (Or.inl (Ne.symm ne_w_t))
  have F11_q_deadline := F_q_d.other W1 (Or.inl (Ne.symm ne_w_q))
  have F12_q_place := F_q_p.other W1 (Or.inl (Ne.symm ne_w_q))
  have F13_q_next := F_q_n.other W1 (Or.inl (Ne.symm ne_w_q))
  have F14_q_previous := F_q_v.other W1 (Or.inl (Ne.symm ne_w_q))
  have E15_w := E_w.wr W1
  have E16_t := E_t.wr W1
  have E17_q := E_q.wr W1
  have B18_sa := B_sa.other W1 (Ne.symm ne_w_sa)
  have B19_oa := B_oa.other W1 (Ne.symm ne_w_oa)
  have Z20 := Nat.le_trans Z0 (Keep.of_wr W1).1
  refine s_goto k1 d8_47 (by decide) (pc' := 63) (by decide) ?_
  refine s_aloadN k1 d8_63 rfl rfl (pc' := 64) rfl ?_
  refine s_getR k1 d8_64 (hw _ (List.mem_of_getElem? (i := 53) rfl)) Via.refl F9_t_next (pc' := 67) rfl ?_
  refine s_nullY k1 d8_67 (by decide) (pc' := 81) (by decide) ?_
  refine s_aloadN k1 d8_81 rfl rfl (pc' := 82) rfl ?_
  refine s_get k1 d8_82 (host := "") (Or.inl (hw _ (List.mem_of_getElem? (i := 63) rfl))) Via.refl F4_w_overflow (pc' := 85) rfl fun T21 k21 => ?_
  refine s_nonnullN k21 d8_85 (pc' := 88) rfl ?_
  refine s_aloadN k21 d8_88 rfl rfl (pc' := 89) rfl ?_
  refine s_ldcL k21 d8_89 (hw _ (List.mem_of_getElem? (i := 21) rfl)) (pc' := 92) rfl ?_
  refine s_put k21 d8_92 (host := "") (Or.inl (hw _ (List.mem_of_getElem? (i := 22) rfl))) Via.refl F5_w_overflowEvent E15_w (Or.inl (hw _ (List.mem_of_getElem? (i := 23) rfl))) (hw _ (List.mem_of_getElem? (i := 6) rfl)) (ty := .long) (by decide) rfl rfl g_w (pc' := 95) rfl fun T22 h22 L22 k22 W22 => ?_
  have F23_w_slots := F2_w_slots.other W22 (Or.inr (slot_ne (Or.inr (hw _ (List.mem_of_getElem? (i := 17) rfl))) (Or.inl (hw _ (List.mem_of_getElem? (i := 23) rfl))) (by decide) (t := (.array (.object "com/example/gull/gull/TimerWheel$Timer"))) (t' := .long) (by decide) (by decide)))
  have F24_w_occupied := F3_w_occupied.other W22 (Or.inr (slot_ne (Or.inr (hw _ (List.mem_of_getElem? (i := 20) rfl))) (Or.inl (hw _ (List.mem_of_getElem? (i := 23) rfl))) (by decide) (t := (.array .long)) (t' := .long) (by decide) (by decide)))
  have F25_w_overflow := F4_w_overflow.other W22 (Or.inr (slot_ne (Or.inl (hw _ (List.mem_of_getElem? (i := 64) rfl))) (Or.inl (hw _ (List.mem_of_getElem? (i := 23) rfl))) (by decide) (t := (.object "com/example/gull/gull/TimerWheel$Timer")) (t' := .long) (by decide) (by decide)))
  have F26_w_overflowEvent := F5_w_overflowEvent.same W22
  have F27_w_elapsed := F6_w_elapsed.other W22 (Or.inr (slot_ne (Or.inl (hw _ (List.mem_of_getElem? (i := 25) rfl))) (Or.inl (hw _ (List.mem_of_getElem? (i := 23) rfl))) (by decide) (t := .long) (t' := .long) (by decide) (by decide)))
  have F28_t_deadline := F7_t_deadline.other W22 (Or.inl (Ne.symm ne_w_t))
  have F29_t_place := F8_t_place.other W22 (Or.inl (Ne.symm ne_w_t))
  have F30_t_next := F9_t_next.other W22 (Or.inl (Ne.symm ne_w_t))
  have F31_t_previous := F10_t_previous.other W22 (Or.inl (Ne.symm ne_w_t))
  have F32_q_deadline := F11_q_deadline.other W22 (Or.inl (Ne.symm ne_w_q))
  have F33_q_place := F12_q_place.other W22 (Or.inl (Ne.symm ne_w_q))
  have F34_q_next := F13_q_next.other W22 (Or.inl (Ne.symm ne_w_q))
  have F35_q_previous := F14_q_previous.other W22 (Or.inl (Ne.symm ne_w_q))
  have E36_w := E15_w.wr W22
  have E37_t := E16_t.wr W22
  have E38_q := E17_q.wr W22
  have B39_sa := B18_sa.other W22 (Ne.symm ne_w_sa)
  have B40_oa := B19_oa.other W22 (Ne.symm ne_w_oa)
  have Z41 := Nat.le_trans Z20 (Keep.of_wr W22).1
  refine s_aloadN k22 d8_95 rfl rfl (pc' := 96) rfl ?_
  refine s_getR k22 d8_96 (hw _ (List.mem_of_getElem? (i := 52) rfl)) Via.refl F29_t_place (pc' := 99) rfl ?_
  refine s_bipush k22 (z := -2) d8_99 (by decide) (pc' := 101) rfl ?_
  refine s_icmp_eq k22 d8_101 (by decide) (pc' := 144) (by decide) (pc3 := 104) rfl (fun hc101 => ?_) (fun hc101 => absurd (by decide) hc101)
  refine s_aloadN k22 d8_144 rfl rfl (pc' := 145) rfl ?_
  refine s_iconst k22 (z := -1) d8_145 (by decide) (pc' := 146) rfl ?_
  refine s_putR k22 d8_146 (hw _ (List.mem_of_getElem? (i := 52) rfl)) Via.refl F29_t_place E37_t (hw _ (List.mem_of_getElem? (i := 34) rfl)) (hw _ (List.mem_of_getElem? (i := 27) rfl)) (ty := .int) (by decide) rfl rfl g_t (pc' := 149) rfl fun T42 h42 L42 k42 W42 => ?_
  have F43_w_slots := F23_w_slots.other W42 (Or.inl ne_w_t)
  have F44_w_occupied := F24_w_occupied.other W42 (Or.inl ne_w_t)
  have F45_w_overflow := F25_w_overflow.other W42 (Or.inl ne_w_t)
  have F46_w_overflowEvent := F26_w_overflowEvent.other W42 (Or.inl ne_w_t)
  have F47_w_elapsed := F27_w_elapsed.other W42 (Or.inl ne_w_t)
  have F48_t_deadline := F28_t_deadline.other W42 (Or.inr (slot_ne (Or.inr (hw _ (List.mem_of_getElem? (i := 36) rfl))) (Or.inl (hw _ (List.mem_of_getElem? (i := 34) rfl))) (by decide) (t := .long) (t' := .int) (by decide) (by decide)))
  have F49_t_place := F29_t_place.same W42
  have F50_t_next := F30_t_next.other W42 (Or.inr (slot_ne (Or.inl (hw _ (List.mem_of_getElem? (i := 54) rfl))) (Or.inl (hw _ (List.mem_of_getElem? (i := 34) rfl))) (by decide) (t := (.object "com/example/gull/gull/TimerWheel$Timer")) (t' := .int) (by decide) (by decide)))
  have F51_t_previous := F31_t_previous.other W42 (Or.inr (slot_ne (Or.inl (hw _ (List.mem_of_getElem? (i := 62) rfl))) (Or.inl (hw _ (List.mem_of_getElem? (i := 34) rfl))) (by decide) (t := (.object "com/example/gull/gull/TimerWheel$Timer")) (t' := .int) (by decide) (by decide)))
  have F52_q_deadline := F32_q_deadline.other W42 (Or.inl (Ne.symm ne_t_q))
  have F53_q_place := F33_q_place.other W42 (Or.inl (Ne.symm ne_t_q))
  have F54_q_next := F34_q_next.other W42 (Or.inl (Ne.symm ne_t_q))
  have F55_q_previous := F35_q_previous.other W42 (Or.inl (Ne.symm ne_t_q))
  have E56_w := E36_w.wr W42
  have E57_t := E37_t.wr W42
  have E58_q := E38_q.wr W42
  have B59_sa := B39_sa.other W42 ne_sa_t
  have B60_oa := B40_oa.other W42 ne_oa_t
  have Z61 := Nat.le_trans Z41 (Keep.of_wr W42).1
  refine s_aloadN k42 d8_149 rfl rfl (pc' := 150) rfl ?_
  refine s_null k42 d8_150 (pc' := 151) rfl ?_
  refine s_putR k42 d8_151 (hw _ (List.mem_of_getElem? (i := 61) rfl)) Via.refl F51_t_previous E57_t (hw _ (List.mem_of_getElem? (i := 62) rfl)) (hw _ (List.mem_of_getElem? (i := 27) rfl)) (ty := (.object "com/example/gull/gull/TimerWheel$Timer")) (by decide) rfl rfl g_t (pc' := 154) rfl fun T62 h62 L62 k62 W62 => ?_
  have F63_w_slots := F43_w_slots.other W62 (Or.inl ne_w_t)
  have F64_w_occupied := F44_w_occupied.other W62 (Or.inl ne_w_t)
  have F65_w_overflow := F45_w_overflow.other W62 (Or.inl ne_w_t)
  have F66_w_overflowEvent := F46_w_overflowEvent.other W62 (Or.inl ne_w_t)
  have F67_w_elapsed := F47_w_elapsed.other W62 (Or.inl ne_w_t)
  have F68_t_deadline := F48_t_deadline.other W62 (Or.inr (slot_ne (Or.inr (hw _ (List.mem_of_getElem? (i := 36) rfl))) (Or.inl (hw _ (List.mem_of_getElem? (i := 62) rfl))) (by decide) (t := .long) (t' := (.object "com/example/gull/gull/TimerWheel$Timer")) (by decide) (by decide)))
  have F69_t_place := F49_t_place.other W62 (Or.inr (slot_ne (Or.inl (hw _ (List.mem_of_getElem? (i := 34) rfl))) (Or.inl (hw _ (List.mem_of_getElem? (i := 62) rfl))) (by decide) (t := .int) (t' := (.object "com/example/gull/gull/TimerWheel$Timer")) (by decide) (by decide)))
  have F70_t_next := F50_t_next.other W62 (Or.inr (slot_ne (Or.inl (hw _ (List.mem_of_getElem? (i := 54) rfl))) (Or.inl (hw _ (List.mem_of_getElem? (i := 62) rfl))) (by decide) (t := (.object "com/example/gull/gull/TimerWheel$Timer")) (t' := (.object "com/example/gull/gull/TimerWheel$Timer")) (by decide) (by decide)))
  have F71_t_previous := F51_t_previous.same W62
  have F72_q_deadline := F52_q_deadline.other W62 (Or.inl (Ne.symm ne_t_q))
  have F73_q_place := F53_q_place.other W62 (Or.inl (Ne.symm ne_t_q))
  have F74_q_next := F54_q_next.other W62 (Or.inl (Ne.symm ne_t_q))
  have F75_q_previous := F55_q_previous.other W62 (Or.inl (Ne.symm ne_t_q))
  have E76_w := E56_w.wr W62
  have E77_t := E57_t.wr W62
  have E78_q := E58_q.wr W62
  have B79_sa := B59_sa.other W62 ne_sa_t
  have B80_oa := B60_oa.other W62 ne_oa_t
  have Z81 := Nat.le_trans Z61 (Keep.of_wr W62).1
  refine s_aloadN k62 d8_154 rfl rfl (pc' := 155) rfl ?_
  refine s_null k62 d8_155 (pc' := 156) rfl ?_
  refine s_putR k62 d8_156 (hw _ (List.mem_of_getElem? (i := 53) rfl)) Via.refl F70_t_next E77_t (hw _ (List.mem_of_getElem? (i := 54) rfl)) (hw _ (List.mem_of_getElem? (i := 27) rfl)) (ty := (.object "com/example/gull/gull/TimerWheel$Timer")) (by decide) rfl rfl g_t (pc' := 159) rfl fun T82 h82 L82 k82 W82 => ?_
  have F83_w_slots := F63_w_slots.other W82 (Or.inl ne_w_t)
  have F84_w_occupied := F64_w_occupied.other W82 (Or.inl ne_w_t)
  have F85_w_overflow := F65_w_overflow.other W82 (Or.inl ne_w_t)
  have F86_w_overflowEvent := F66_w_overflowEvent.other W82 (Or.inl ne_w_t)
  have F87_w_elapsed := F67_w_elapsed.other W82 (Or.inl ne_w_t)
  have F88_t_deadline := F68_t_deadline.other W82 (Or.inr (slot_ne (Or.inr (hw _ (List.mem_of_getElem? (i := 36) rfl))) (Or.inl (hw _ (List.mem_of_getElem? (i := 54) rfl))) (by decide) (t := .long) (t' := (.object "com/example/gull/gull/TimerWheel$Timer")) (by decide) (by decide)))
  have F89_t_place := F69_t_place.other W82 (Or.inr (slot_ne (Or.inl (hw _ (List.mem_of_getElem? (i := 34) rfl))) (Or.inl (hw _ (List.mem_of_getElem? (i := 54) rfl))) (by decide) (t := .int) (t' := (.object "com/example/gull/gull/TimerWheel$Timer")) (by decide) (by decide)))
  have F90_t_next := F70_t_next.same W82
  have F91_t_previous := F71_t_previous.other W82 (Or.inr (slot_ne (Or.inl (hw _ (List.mem_of_getElem? (i := 62) rfl))) (Or.inl (hw _ (List.mem_of_getElem? (i := 54) rfl))) (by decide) (t := (.object "com/example/gull/gull/TimerWheel$Timer")) (t' := (.object "com/example/gull/gull/TimerWheel$Timer")) (by decide) (by decide)))
  have F92_q_deadline := F72_q_deadline.other W82 (Or.inl (Ne.symm ne_t_q))
  have F93_q_place := F73_q_place.other W82 (Or.inl (Ne.symm ne_t_q))
  have F94_q_next := F74_q_next.other W82 (Or.inl (Ne.symm ne_t_q))
  have F95_q_previous := F75_q_previous.other W82 (Or.inl (Ne.symm ne_t_q))
  have E96_w := E76_w.wr W82
  have E97_t := E77_t.wr W82
  have E98_q := E78_q.wr W82
  have B99_sa := B79_sa.other W82 ne_sa_t
  have B100_oa := B80_oa.other W82 ne_oa_t
  have Z101 := Nat.le_trans Z81 (Keep.of_wr W82).1
  exact s_ret k82 d8_159 rfl hP (by decide) (by decide) ⟨rfl, ⟨E96_w, F83_w_slots, F84_w_occupied, F85_w_overflow, F86_w_overflowEvent, F87_w_elapsed, B99_sa, B100_oa⟩, ⟨E97_t, F88_t_deadline, F89_t_place, F90_t_next, F91_t_previous⟩, ⟨E98_q, F92_q_deadline, F93_q_place, F94_q_next, F95_q_previous⟩⟩
theorem d8_70 : decode prog_30_method_3_code 70 = .ok (.aload_n 1, 1) := by decide +kernel
theorem d8_71 : decode prog_30_method_3_code 71 = .ok (.getfield 41, 3) := by decide +kernel
theorem d8_74 : decode prog_30_method_3_code 74 = .ok (.aload_n 1, 1) := by decide +kernel
theorem d8_75 : decode prog_30_method_3_code 75 = .ok (.getfield 56, 3) := by decide +kernel
theorem d8_78 : decode prog_30_method_3_code 78 = .ok (.putfield 56, 3) := by decide +kernel
theorem pn_8_remOh : plainFor (⟨"com/example/gull/gull/TimerWheel", "remove", "(Lcom/example/gull/gull/TimerWheel$Timer;)V"⟩ : MethodName) = true := plainFor_of_name (by first | (simp [plainName, overriddenIn]; done) | decide +kernel)
theorem ef_remOh {w : Addr} {t : Addr} (m : MethodId) : entryFrame m #[.ref w, .ref t] 2 = mkF m 0 #[.val (.ref w), .val (.ref t)] [] := by first | (simp [entryFrame, mkF, argsToLocals, Value.category]; done) | rfl
set_option maxRecDepth 65536 in
set_option maxHeartbeats 40000000 in
theorem remOh (l : Launch) (Z : State) (a0 : Array Value) (hw : ∀ d ∈ tables_1, d.before a0 Z = true) (w sa oa t q : Addr) (ka ko : ClassId) (el : Int64) (S : Nat → Value) (Oc : Nat → Int64) (oe d dq : Int64) (pq : Int32) (nq vq : Value)  (h0 : Heap) (n0 : Nat) (Z0 : n0 ≤ h0.size) (Cx : Ctx n0 w sa oa t q) (O_sa : Ovr Z ka "com/example/gull/gull/TimerWheel$Timer") (HW : Whl Z h0 w sa oa ka ko S Oc (.ref t) oe el) (HT : Tmr Z h0 t d (-2 : Int32) (.ref q) .null) (HQ : Tmr Z h0 q dq pq nq vq)  :
    Met l Z (⟨"com/example/gull/gull/TimerWheel", "remove", "(Lcom/example/gull/gull/TimerWheel$Timer;)V"⟩ : MethodName) prog_30_method_3_code 2 none ({ frames := 0, cells := 0, slots := 0, locals := 0 } : Room) n0 #[.ref w, .ref t] h0 (fun v h => v = none ∧ Whl Z h w sa oa ka ko S Oc (.ref q) oe el ∧ Tmr Z h t d (-1 : Int32) .null .null ∧ Tmr Z h q dq pq nq .null) := by
  refine Met.of (Ls := #[.val (.ref w), .val (.ref t)]) pn_8_remOh (fun m => ef_remOh m) fun p e s m below meth c T0 P hP k0 => ?_
  obtain ⟨⟨g_w, g_sa, g_oa, g_t, g_q⟩, ne_w_sa, ne_w_oa, ne_w_t, ne_w_q, ne_sa_oa, ne_sa_t, ne_sa_q, ne_oa_t, ne_oa_q, ne_t_q⟩ := Cx
  obtain ⟨E_w, F_w_sl, F_w_oc, F_w_ov, F_w_oe, F_w_el, B_sa, B_oa⟩ := HW
  obtain ⟨E_t, F_t_d, F_t_p, F_t_n, F_t_v⟩ := HT
  obtain ⟨E_q, F_q_d, F_q_p, F_q_n, F_q_v⟩ := HQ
  refine s_aloadN k0 d8_0 rfl rfl (pc' := 1) rfl ?_
  refine s_getR k0 d8_1 (hw _ (List.mem_of_getElem? (i := 52) rfl)) Via.refl F_t_p (pc' := 4) rfl ?_
  refine s_iconst k0 (z := -1) d8_4 (by decide) (pc' := 5) rfl ?_
  refine s_icmp_ne k0 d8_5 (by decide) (pc' := 9) (by decide) (pc3 := 8) rfl (fun hc5 => absurd hc5 (by decide)) (fun hc5 => ?_)
  refine s_aloadN k0 d8_9 rfl rfl (pc' := 10) rfl ?_
  refine s_getR k0 d8_10 (hw _ (List.mem_of_getElem? (i := 61) rfl)) Via.refl F_t_v (pc' := 13) rfl ?_
  refine s_nullY k0 d8_13 (by decide) (pc' := 30) (by decide) ?_
  refine s_aloadN k0 d8_30 rfl rfl (pc' := 31) rfl ?_
  refine s_getR k0 d8_31 (hw _ (List.mem_of_getElem? (i := 52) rfl)) Via.refl F_t_p (pc' := 34) rfl ?_
  refine s_bipush k0 (z := -2) d8_34 (by decide) (pc' := 36) rfl ?_
  refine s_icmp_ne k0 d8_36 (by decide) (pc' := 50) (by decide) (pc3 := 39) rfl (fun hc36 => ?_) (fun hc36 => absurd (by decide) hc36)
  refine s_aloadN k0 d8_39 rfl rfl (pc' := 40) rfl ?_
  refine s_aloadN k0 d8_40 rfl rfl (pc' := 41) rfl ?_
  refine s_getR k0 d8_41 (hw _ (List.mem_of_getElem? (i := 53) rfl)) Via.refl F_t_n (pc' := 44) rfl ?_
  refine s_put k0 d8_44 (host := "") (Or.inl (hw _ (List.mem_of_getElem? (i := 63) rfl))) Via.refl F_w_ov E_w (Or.inl (hw _ (List.mem_of_getElem? (i := 64) rfl))) (hw _ (List.mem_of_getElem? (i := 6) rfl)) (ty := (.object "com/example/gull/gull/TimerWheel$Timer")) (by decide) rfl rfl g_w (pc' := 47) rfl fun T1 h1 L1 k1 W1 => ?_
  have F2_w_slots := F_w_sl.other W1 (Or.inr (slot_ne (Or.inr (hw _ (List.mem_of_getElem? (i := 17) rfl))) (Or.inl (hw _ (List.mem_of_getElem? (i := 64) rfl))) (by decide) (t := (.array (.object "com/example/gull/gull/TimerWheel$Timer"))) (t' := (.object "com/example/gull/gull/TimerWheel$Timer")) (by decide) (by decide)))
  have F3_w_occupied := F_w_oc.other W1 (Or.inr (slot_ne (Or.inr (hw _ (List.mem_of_getElem? (i := 20) rfl))) (Or.inl (hw _ (List.mem_of_getElem? (i := 64) rfl))) (by decide) (t := (.array .long)) (t' := (.object "com/example/gull/gull/TimerWheel$Timer")) (by decide) (by decide)))
  have F4_w_overflow := F_w_ov.same W1
  have F5_w_overflowEvent := F_w_oe.other W1 (Or.inr (slot_ne (Or.inl (hw _ (List.mem_of_getElem? (i := 23) rfl))) (Or.inl (hw _ (List.mem_of_getElem? (i := 64) rfl))) (by decide) (t := .long) (t' := (.object "com/example/gull/gull/TimerWheel$Timer")) (by decide) (by decide)))
  have F6_w_elapsed := F_w_el.other W1 (Or.inr (slot_ne (Or.inl (hw _ (List.mem_of_getElem? (i := 25) rfl))) (Or.inl (hw _ (List.mem_of_getElem? (i := 64) rfl))) (by decide) (t := .long) (t' := (.object "com/example/gull/gull/TimerWheel$Timer")) (by decide) (by decide)))
  have F7_t_deadline := F_t_d.other W1 (Or.inl (Ne.symm ne_w_t))
  have F8_t_place := F_t_p.other W1 (Or.inl (Ne.symm ne_w_t))
  have F9_t_next := F_t_n.other W1 (Or.inl (Ne.symm ne_w_t))
  have F10_t_previous := F_t_v.other W1 (Or.inl (Ne.symm ne_w_t))
  have F11_q_deadline := F_q_d.other W1 (Or.inl (Ne.symm ne_w_q))
  have F12_q_place := F_q_p.other W1 (Or.inl (Ne.symm ne_w_q))
  have F13_q_next := F_q_n.other W1 (Or.inl (Ne.symm ne_w_q))
  have F14_q_previous := F_q_v.other W1 (Or.inl (Ne.symm ne_w_q))
  have E15_w := E_w.wr W1
  have E16_t := E_t.wr W1
  have E17_q := E_q.wr W1
  have B18_sa := B_sa.other W1 (Ne.symm ne_w_sa)
  have B19_oa := B_oa.other W1 (Ne.symm ne_w_oa)
  have Z20 := Nat.le_trans Z0 (Keep.of_wr W1).1
  refine s_goto k1 d8_47 (by decide) (pc' := 63) (by decide) ?_
  refine s_aloadN k1 d8_63 rfl rfl (pc' := 64) rfl ?_
  refine s_getR k1 d8_64 (hw _ (List.mem_of_getElem? (i := 53) rfl)) Via.refl F9_t_next (pc' := 67) rfl ?_
  refine s_nullN k1 d8_67 (pc' := 70) rfl ?_
  refine s_aloadN k1 d8_70 rfl rfl (pc' := 71) rfl ?_
  refine s_getR k1 d8_71 (hw _ (List.mem_of_getElem? (i := 53) rfl)) Via.refl F9_t_next (pc' := 74) rfl ?_
  refine s_aloadN k1 d8_74 rfl rfl (pc' := 75) rfl ?_
  refine s_getR k1 d8_75 (hw _ (List.mem_of_getElem? (i := 61) rfl)) Via.refl F10_t_previous (pc' := 78) rfl ?_
  refine s_putR k1 d8_78 (hw _ (List.mem_of_getElem? (i := 61) rfl)) Via.refl F14_q_previous E17_q (hw _ (List.mem_of_getElem? (i := 62) rfl)) (hw _ (List.mem_of_getElem? (i := 27) rfl)) (ty := (.object "com/example/gull/gull/TimerWheel$Timer")) (by decide) rfl rfl g_q (pc' := 81) rfl fun T21 h21 L21 k21 W21 => ?_
  have F22_w_slots := F2_w_slots.other W21 (Or.inl ne_w_q)
  have F23_w_occupied := F3_w_occupied.other W21 (Or.inl ne_w_q)
  have F24_w_overflow := F4_w_overflow.other W21 (Or.inl ne_w_q)
  have F25_w_overflowEvent := F5_w_overflowEvent.other W21 (Or.inl ne_w_q)
  have F26_w_elapsed := F6_w_elapsed.other W21 (Or.inl ne_w_q)
  have F27_t_deadline := F7_t_deadline.other W21 (Or.inl ne_t_q)
  have F28_t_place := F8_t_place.other W21 (Or.inl ne_t_q)
  have F29_t_next := F9_t_next.other W21 (Or.inl ne_t_q)
  have F30_t_previous := F10_t_previous.other W21 (Or.inl ne_t_q)
  have F31_q_deadline := F11_q_deadline.other W21 (Or.inr (slot_ne (Or.inr (hw _ (List.mem_of_getElem? (i := 36) rfl))) (Or.inl (hw _ (List.mem_of_getElem? (i := 62) rfl))) (by decide) (t := .long) (t' := (.object "com/example/gull/gull/TimerWheel$Timer")) (by decide) (by decide)))
  have F32_q_place := F12_q_place.other W21 (Or.inr (slot_ne (Or.inl (hw _ (List.mem_of_getElem? (i := 34) rfl))) (Or.inl (hw _ (List.mem_of_getElem? (i := 62) rfl))) (by decide) (t := .int) (t' := (.object "com/example/gull/gull/TimerWheel$Timer")) (by decide) (by decide)))
  have F33_q_next := F13_q_next.other W21 (Or.inr (slot_ne (Or.inl (hw _ (List.mem_of_getElem? (i := 54) rfl))) (Or.inl (hw _ (List.mem_of_getElem? (i := 62) rfl))) (by decide) (t := (.object "com/example/gull/gull/TimerWheel$Timer")) (t' := (.object "com/example/gull/gull/TimerWheel$Timer")) (by decide) (by decide)))
  have F34_q_previous := F14_q_previous.same W21
  have E35_w := E15_w.wr W21
  have E36_t := E16_t.wr W21
  have E37_q := E17_q.wr W21
  have B38_sa := B18_sa.other W21 ne_sa_q
  have B39_oa := B19_oa.other W21 ne_oa_q
  have Z40 := Nat.le_trans Z20 (Keep.of_wr W21).1
  refine s_aloadN k21 d8_81 rfl rfl (pc' := 82) rfl ?_
  refine s_get k21 d8_82 (host := "") (Or.inl (hw _ (List.mem_of_getElem? (i := 63) rfl))) Via.refl F24_w_overflow (pc' := 85) rfl fun T41 k41 => ?_
  refine s_nonnullY k41 d8_85 (by decide) (pc' := 95) (by decide) ?_
  refine s_aloadN k41 d8_95 rfl rfl (pc' := 96) rfl ?_
  refine s_getR k41 d8_96 (hw _ (List.mem_of_getElem? (i := 52) rfl)) Via.refl F28_t_place (pc' := 99) rfl ?_
  refine s_bipush k41 (z := -2) d8_99 (by decide) (pc' := 101) rfl ?_
  refine s_icmp_eq k41 d8_101 (by decide) (pc' := 144) (by decide) (pc3 := 104) rfl (fun hc101 => ?_) (fun hc101 => absurd (by decide) hc101)
  refine s_aloadN k41 d8_144 rfl rfl (pc' := 145) rfl ?_
  refine s_iconst k41 (z := -1) d8_145 (by decide) (pc' := 146) rfl ?_
  refine s_putR k41 d8_146 (hw _ (List.mem_of_getElem? (i := 52) rfl)) Via.refl F28_t_place E36_t (hw _ (List.mem_of_getElem? (i := 34) rfl)) (hw _ (List.mem_of_getElem? (i := 27) rfl)) (ty := .int) (by decide) rfl rfl g_t (pc' := 149) rfl fun T42 h42 L42 k42 W42 => ?_
  have F43_w_slots := F22_w_slots.other W42 (Or.inl ne_w_t)
  have F44_w_occupied := F23_w_occupied.other W42 (Or.inl ne_w_t)
  have F45_w_overflow := F24_w_overflow.other W42 (Or.inl ne_w_t)
  have F46_w_overflowEvent := F25_w_overflowEvent.other W42 (Or.inl ne_w_t)
  have F47_w_elapsed := F26_w_elapsed.other W42 (Or.inl ne_w_t)
  have F48_t_deadline := F27_t_deadline.other W42 (Or.inr (slot_ne (Or.inr (hw _ (List.mem_of_getElem? (i := 36) rfl))) (Or.inl (hw _ (List.mem_of_getElem? (i := 34) rfl))) (by decide) (t := .long) (t' := .int) (by decide) (by decide)))
  have F49_t_place := F28_t_place.same W42
  have F50_t_next := F29_t_next.other W42 (Or.inr (slot_ne (Or.inl (hw _ (List.mem_of_getElem? (i := 54) rfl))) (Or.inl (hw _ (List.mem_of_getElem? (i := 34) rfl))) (by decide) (t := (.object "com/example/gull/gull/TimerWheel$Timer")) (t' := .int) (by decide) (by decide)))
  have F51_t_previous := F30_t_previous.other W42 (Or.inr (slot_ne (Or.inl (hw _ (List.mem_of_getElem? (i := 62) rfl))) (Or.inl (hw _ (List.mem_of_getElem? (i := 34) rfl))) (by decide) (t := (.object "com/example/gull/gull/TimerWheel$Timer")) (t' := .int) (by decide) (by decide)))
  have F52_q_deadline := F31_q_deadline.other W42 (Or.inl (Ne.symm ne_t_q))
  have F53_q_place := F32_q_place.other W42 (Or.inl (Ne.symm ne_t_q))
  have F54_q_next := F33_q_next.other W42 (Or.inl (Ne.symm ne_t_q))
  have F55_q_previous := F34_q_previous.other W42 (Or.inl (Ne.symm ne_t_q))
  have E56_w := E35_w.wr W42
  have E57_t := E36_t.wr W42
  have E58_q := E37_q.wr W42
  have B59_sa := B38_sa.other W42 ne_sa_t
  have B60_oa := B39_oa.other W42 ne_oa_t
  have Z61 := Nat.le_trans Z40 (Keep.of_wr W42).1
  refine s_aloadN k42 d8_149 rfl rfl (pc' := 150) rfl ?_
  refine s_null k42 d8_150 (pc' := 151) rfl ?_
  refine s_putR k42 d8_151 (hw _ (List.mem_of_getElem? (i := 61) rfl)) Via.refl F51_t_previous E57_t (hw _ (List.mem_of_getElem? (i := 62) rfl)) (hw _ (List.mem_of_getElem? (i := 27) rfl)) (ty := (.object "com/example/gull/gull/TimerWheel$Timer")) (by decide) rfl rfl g_t (pc' := 154) rfl fun T62 h62 L62 k62 W62 => ?_
  have F63_w_slots := F43_w_slots.other W62 (Or.inl ne_w_t)
  have F64_w_occupied := F44_w_occupied.other W62 (Or.inl ne_w_t)
  have F65_w_overflow := F45_w_overflow.other W62 (Or.inl ne_w_t)
  have F66_w_overflowEvent := F46_w_overflowEvent.other W62 (Or.inl ne_w_t)
  have F67_w_elapsed := F47_w_elapsed.other W62 (Or.inl ne_w_t)
  have F68_t_deadline := F48_t_deadline.other W62 (Or.inr (slot_ne (Or.inr (hw _ (List.mem_of_getElem? (i := 36) rfl))) (Or.inl (hw _ (List.mem_of_getElem? (i := 62) rfl))) (by decide) (t := .long) (t' := (.object "com/example/gull/gull/TimerWheel$Timer")) (by decide) (by decide)))
  have F69_t_place := F49_t_place.other W62 (Or.inr (slot_ne (Or.inl (hw _ (List.mem_of_getElem? (i := 34) rfl))) (Or.inl (hw _ (List.mem_of_getElem? (i := 62) rfl))) (by decide) (t := .int) (t' := (.object "com/example/gull/gull/TimerWheel$Timer")) (by decide) (by decide)))
  have F70_t_next := F50_t_next.other W62 (Or.inr (slot_ne (Or.inl (hw _ (List.mem_of_getElem? (i := 54) rfl))) (Or.inl (hw _ (List.mem_of_getElem? (i := 62) rfl))) (by decide) (t := (.object "com/example/gull/gull/TimerWheel$Timer")) (t' := (.object "com/example/gull/gull/TimerWheel$Timer")) (by decide) (by decide)))
  have F71_t_previous := F51_t_previous.same W62
  have F72_q_deadline := F52_q_deadline.other W62 (Or.inl (Ne.symm ne_t_q))
  have F73_q_place := F53_q_place.other W62 (Or.inl (Ne.symm ne_t_q))
  have F74_q_next := F54_q_next.other W62 (Or.inl (Ne.symm ne_t_q))
  have F75_q_previous := F55_q_previous.other W62 (Or.inl (Ne.symm ne_t_q))
  have E76_w := E56_w.wr W62
  have E77_t := E57_t.wr W62
  have E78_q := E58_q.wr W62
  have B79_sa := B59_sa.other W62 ne_sa_t
  have B80_oa := B60_oa.other W62 ne_oa_t
  have Z81 := Nat.le_trans Z61 (Keep.of_wr W62).1
  refine s_aloadN k62 d8_154 rfl rfl (pc' := 155) rfl ?_
  refine s_null k62 d8_155 (pc' := 156) rfl ?_
  refine s_putR k62 d8_156 (hw _ (List.mem_of_getElem? (i := 53) rfl)) Via.refl F70_t_next E77_t (hw _ (List.mem_of_getElem? (i := 54) rfl)) (hw _ (List.mem_of_getElem? (i := 27) rfl)) (ty := (.object "com/example/gull/gull/TimerWheel$Timer")) (by decide) rfl rfl g_t (pc' := 159) rfl fun T82 h82 L82 k82 W82 => ?_
  have F83_w_slots := F63_w_slots.other W82 (Or.inl ne_w_t)
  have F84_w_occupied := F64_w_occupied.other W82 (Or.inl ne_w_t)
  have F85_w_overflow := F65_w_overflow.other W82 (Or.inl ne_w_t)
  have F86_w_overflowEvent := F66_w_overflowEvent.other W82 (Or.inl ne_w_t)
  have F87_w_elapsed := F67_w_elapsed.other W82 (Or.inl ne_w_t)
  have F88_t_deadline := F68_t_deadline.other W82 (Or.inr (slot_ne (Or.inr (hw _ (List.mem_of_getElem? (i := 36) rfl))) (Or.inl (hw _ (List.mem_of_getElem? (i := 54) rfl))) (by decide) (t := .long) (t' := (.object "com/example/gull/gull/TimerWheel$Timer")) (by decide) (by decide)))
  have F89_t_place := F69_t_place.other W82 (Or.inr (slot_ne (Or.inl (hw _ (List.mem_of_getElem? (i := 34) rfl))) (Or.inl (hw _ (List.mem_of_getElem? (i := 54) rfl))) (by decide) (t := .int) (t' := (.object "com/example/gull/gull/TimerWheel$Timer")) (by decide) (by decide)))
  have F90_t_next := F70_t_next.same W82
  have F91_t_previous := F71_t_previous.other W82 (Or.inr (slot_ne (Or.inl (hw _ (List.mem_of_getElem? (i := 62) rfl))) (Or.inl (hw _ (List.mem_of_getElem? (i := 54) rfl))) (by decide) (t := (.object "com/example/gull/gull/TimerWheel$Timer")) (t' := (.object "com/example/gull/gull/TimerWheel$Timer")) (by decide) (by decide)))
  have F92_q_deadline := F72_q_deadline.other W82 (Or.inl (Ne.symm ne_t_q))
  have F93_q_place := F73_q_place.other W82 (Or.inl (Ne.symm ne_t_q))
  have F94_q_next := F74_q_next.other W82 (Or.inl (Ne.symm ne_t_q))
  have F95_q_previous := F75_q_previous.other W82 (Or.inl (Ne.symm ne_t_q))
  have E96_w := E76_w.wr W82
  have E97_t := E77_t.wr W82
  have E98_q := E78_q.wr W82
  have B99_sa := B79_sa.other W82 ne_sa_t
  have B100_oa := B80_oa.other W82 ne_oa_t
  have Z101 := Nat.le_trans Z81 (Keep.of_wr W82).1
  exact s_ret k82 d8_159 rfl hP (by decide) (by decide) ⟨rfl, ⟨E96_w, F83_w_slots, F84_w_occupied, F85_w_overflow, F86_w_overflowEvent, F87_w_elapsed, B99_sa, B100_oa⟩, ⟨E97_t, F88_t_deadline, F89_t_place, F90_t_next, F91_t_previous⟩, ⟨E98_q, F92_q_deadline, F93_q_place, F94_q_next, F95_q_previous⟩⟩
theorem d8_16 : decode prog_30_method_3_code 16 = .ok (.aload_n 1, 1) := by decide +kernel
theorem d8_17 : decode prog_30_method_3_code 17 = .ok (.getfield 56, 3) := by decide +kernel
theorem d8_20 : decode prog_30_method_3_code 20 = .ok (.aload_n 1, 1) := by decide +kernel
theorem d8_21 : decode prog_30_method_3_code 21 = .ok (.getfield 41, 3) := by decide +kernel
theorem d8_24 : decode prog_30_method_3_code 24 = .ok (.putfield 41, 3) := by decide +kernel
theorem d8_27 : decode prog_30_method_3_code 27 = .ok (.goto 36, 3) := by decide +kernel
theorem pn_8_remOt : plainFor (⟨"com/example/gull/gull/TimerWheel", "remove", "(Lcom/example/gull/gull/TimerWheel$Timer;)V"⟩ : MethodName) = true := plainFor_of_name (by first | (simp [plainName, overriddenIn]; done) | decide +kernel)
theorem ef_remOt {w : Addr} {t : Addr} (m : MethodId) : entryFrame m #[.ref w, .ref t] 2 = mkF m 0 #[.val (.ref w), .val (.ref t)] [] := by first | (simp [entryFrame, mkF, argsToLocals, Value.category]; done) | rfl
set_option maxRecDepth 65536 in
set_option maxHeartbeats 40000000 in
theorem remOt (l : Launch) (Z : State) (a0 : Array Value) (hw : ∀ d ∈ tables_1, d.before a0 Z = true) (w sa oa t q : Addr) (ka ko : ClassId) (el : Int64) (S : Nat → Value) (Oc : Nat → Int64) (oe d dq : Int64) (pq : Int32) (nq vq : Value)  (h0 : Heap) (n0 : Nat) (Z0 : n0 ≤ h0.size) (Cx : Ctx n0 w sa oa t q) (O_sa : Ovr Z ka "com/example/gull/gull/TimerWheel$Timer") (HW : Whl Z h0 w sa oa ka ko S Oc (.ref q) oe el) (HT : Tmr Z h0 t d (-2 : Int32) .null (.ref q)) (HQ : Tmr Z h0 q dq pq nq vq)  :
    Met l Z (⟨"com/example/gull/gull/TimerWheel", "remove", "(Lcom/example/gull/gull/TimerWheel$Timer;)V"⟩ : MethodName) prog_30_method_3_code 2 none ({ frames := 0, cells := 0, slots := 0, locals := 0 } : Room) n0 #[.ref w, .ref t] h0 (fun v h => v = none ∧ Whl Z h w sa oa ka ko S Oc (.ref q) oe el ∧ Tmr Z h t d (-1 : Int32) .null .null ∧ Tmr Z h q dq pq .null vq) := by
  refine Met.of (Ls := #[.val (.ref w), .val (.ref t)]) pn_8_remOt (fun m => ef_remOt m) fun p e s m below meth c T0 P hP k0 => ?_
  obtain ⟨⟨g_w, g_sa, g_oa, g_t, g_q⟩, ne_w_sa, ne_w_oa, ne_w_t, ne_w_q, ne_sa_oa, ne_sa_t, ne_sa_q, ne_oa_t, ne_oa_q, ne_t_q⟩ := Cx
  obtain ⟨E_w, F_w_sl, F_w_oc, F_w_ov, F_w_oe, F_w_el, B_sa, B_oa⟩ := HW
  obtain ⟨E_t, F_t_d, F_t_p, F_t_n, F_t_v⟩ := HT
  obtain ⟨E_q, F_q_d, F_q_p, F_q_n, F_q_v⟩ := HQ
  refine s_aloadN k0 d8_0 rfl rfl (pc' := 1) rfl ?_
  refine s_getR k0 d8_1 (hw _ (List.mem_of_getElem? (i := 52) rfl)) Via.refl F_t_p (pc' := 4) rfl ?_
  refine s_iconst k0 (z := -1) d8_4 (by decide) (pc' := 5) rfl ?_
  refine s_icmp_ne k0 d8_5 (by decide) (pc' := 9) (by decide) (pc3 := 8) rfl (fun hc5 => absurd hc5 (by decide)) (fun hc5 => ?_)
  refine s_aloadN k0 d8_9 rfl rfl (pc' := 10) rfl ?_
  refine s_getR k0 d8_10 (hw _ (List.mem_of_getElem? (i := 61) rfl)) Via.refl F_t_v (pc' := 13) rfl ?_
  refine s_nullN k0 d8_13 (pc' := 16) rfl ?_
  refine s_aloadN k0 d8_16 rfl rfl (pc' := 17) rfl ?_
  refine s_getR k0 d8_17 (hw _ (List.mem_of_getElem? (i := 61) rfl)) Via.refl F_t_v (pc' := 20) rfl ?_
  refine s_aloadN k0 d8_20 rfl rfl (pc' := 21) rfl ?_
  refine s_getR k0 d8_21 (hw _ (List.mem_of_getElem? (i := 53) rfl)) Via.refl F_t_n (pc' := 24) rfl ?_
  refine s_putR k0 d8_24 (hw _ (List.mem_of_getElem? (i := 53) rfl)) Via.refl F_q_n E_q (hw _ (List.mem_of_getElem? (i := 54) rfl)) (hw _ (List.mem_of_getElem? (i := 27) rfl)) (ty := (.object "com/example/gull/gull/TimerWheel$Timer")) (by decide) rfl rfl g_q (pc' := 27) rfl fun T1 h1 L1 k1 W1 => ?_
  have F2_w_slots := F_w_sl.other W1 (Or.inl ne_w_q)
  have F3_w_occupied := F_w_oc.other W1 (Or.inl ne_w_q)
  have F4_w_overflow := F_w_ov.other W1 (Or.inl ne_w_q)
  have F5_w_overflowEvent := F_w_oe.other W1 (Or.inl ne_w_q)
  have F6_w_elapsed := F_w_el.other W1 (Or.inl ne_w_q)
  have F7_t_deadline := F_t_d.other W1 (Or.inl ne_t_q)
  have F8_t_place := F_t_p.other W1 (Or.inl ne_t_q)
  have F9_t_next := F_t_n.other W1 (Or.inl ne_t_q)
  have F10_t_previous := F_t_v.other W1 (Or.inl ne_t_q)
  have F11_q_deadline := F_q_d.other W1 (Or.inr (slot_ne (Or.inr (hw _ (List.mem_of_getElem? (i := 36) rfl))) (Or.inl (hw _ (List.mem_of_getElem? (i := 54) rfl))) (by decide) (t := .long) (t' := (.object "com/example/gull/gull/TimerWheel$Timer")) (by decide) (by decide)))
  have F12_q_place := F_q_p.other W1 (Or.inr (slot_ne (Or.inl (hw _ (List.mem_of_getElem? (i := 34) rfl))) (Or.inl (hw _ (List.mem_of_getElem? (i := 54) rfl))) (by decide) (t := .int) (t' := (.object "com/example/gull/gull/TimerWheel$Timer")) (by decide) (by decide)))
  have F13_q_next := F_q_n.same W1
  have F14_q_previous := F_q_v.other W1 (Or.inr (slot_ne (Or.inl (hw _ (List.mem_of_getElem? (i := 62) rfl))) (Or.inl (hw _ (List.mem_of_getElem? (i := 54) rfl))) (by decide) (t := (.object "com/example/gull/gull/TimerWheel$Timer")) (t' := (.object "com/example/gull/gull/TimerWheel$Timer")) (by decide) (by decide)))
  have E15_w := E_w.wr W1
  have E16_t := E_t.wr W1
  have E17_q := E_q.wr W1
  have B18_sa := B_sa.other W1 ne_sa_q
  have B19_oa := B_oa.other W1 ne_oa_q
  have Z20 := Nat.le_trans Z0 (Keep.of_wr W1).1
  refine s_goto k1 d8_27 (by decide) (pc' := 63) (by decide) ?_
  refine s_aloadN k1 d8_63 rfl rfl (pc' := 64) rfl ?_
  refine s_getR k1 d8_64 (hw _ (List.mem_of_getElem? (i := 53) rfl)) Via.refl F9_t_next (pc' := 67) rfl ?_
  refine s_nullY k1 d8_67 (by decide) (pc' := 81) (by decide) ?_
  refine s_aloadN k1 d8_81 rfl rfl (pc' := 82) rfl ?_
  refine s_get k1 d8_82 (host := "") (Or.inl (hw _ (List.mem_of_getElem? (i := 63) rfl))) Via.refl F4_w_overflow (pc' := 85) rfl fun T21 k21 => ?_
  refine s_nonnullY k21 d8_85 (by decide) (pc' := 95) (by decide) ?_
  refine s_aloadN k21 d8_95 rfl rfl (pc' := 96) rfl ?_
  refine s_getR k21 d8_96 (hw _ (List.mem_of_getElem? (i := 52) rfl)) Via.refl F8_t_place (pc' := 99) rfl ?_
  refine s_bipush k21 (z := -2) d8_99 (by decide) (pc' := 101) rfl ?_
  refine s_icmp_eq k21 d8_101 (by decide) (pc' := 144) (by decide) (pc3 := 104) rfl (fun hc101 => ?_) (fun hc101 => absurd (by decide) hc101)
  refine s_aloadN k21 d8_144 rfl rfl (pc' := 145) rfl ?_
  refine s_iconst k21 (z := -1) d8_145 (by decide) (pc' := 146) rfl ?_
  refine s_putR k21 d8_146 (hw _ (List.mem_of_getElem? (i := 52) rfl)) Via.refl F8_t_place E16_t (hw _ (List.mem_of_getElem? (i := 34) rfl)) (hw _ (List.mem_of_getElem? (i := 27) rfl)) (ty := .int) (by decide) rfl rfl g_t (pc' := 149) rfl fun T22 h22 L22 k22 W22 => ?_
  have F23_w_slots := F2_w_slots.other W22 (Or.inl ne_w_t)
  have F24_w_occupied := F3_w_occupied.other W22 (Or.inl ne_w_t)
  have F25_w_overflow := F4_w_overflow.other W22 (Or.inl ne_w_t)
  have F26_w_overflowEvent := F5_w_overflowEvent.other W22 (Or.inl ne_w_t)
  have F27_w_elapsed := F6_w_elapsed.other W22 (Or.inl ne_w_t)
  have F28_t_deadline := F7_t_deadline.other W22 (Or.inr (slot_ne (Or.inr (hw _ (List.mem_of_getElem? (i := 36) rfl))) (Or.inl (hw _ (List.mem_of_getElem? (i := 34) rfl))) (by decide) (t := .long) (t' := .int) (by decide) (by decide)))
  have F29_t_place := F8_t_place.same W22
  have F30_t_next := F9_t_next.other W22 (Or.inr (slot_ne (Or.inl (hw _ (List.mem_of_getElem? (i := 54) rfl))) (Or.inl (hw _ (List.mem_of_getElem? (i := 34) rfl))) (by decide) (t := (.object "com/example/gull/gull/TimerWheel$Timer")) (t' := .int) (by decide) (by decide)))
  have F31_t_previous := F10_t_previous.other W22 (Or.inr (slot_ne (Or.inl (hw _ (List.mem_of_getElem? (i := 62) rfl))) (Or.inl (hw _ (List.mem_of_getElem? (i := 34) rfl))) (by decide) (t := (.object "com/example/gull/gull/TimerWheel$Timer")) (t' := .int) (by decide) (by decide)))
  have F32_q_deadline := F11_q_deadline.other W22 (Or.inl (Ne.symm ne_t_q))
  have F33_q_place := F12_q_place.other W22 (Or.inl (Ne.symm ne_t_q))
  have F34_q_next := F13_q_next.other W22 (Or.inl (Ne.symm ne_t_q))
  have F35_q_previous := F14_q_previous.other W22 (Or.inl (Ne.symm ne_t_q))
  have E36_w := E15_w.wr W22
  have E37_t := E16_t.wr W22
  have E38_q := E17_q.wr W22
  have B39_sa := B18_sa.other W22 ne_sa_t
  have B40_oa := B19_oa.other W22 ne_oa_t
  have Z41 := Nat.le_trans Z20 (Keep.of_wr W22).1
  refine s_aloadN k22 d8_149 rfl rfl (pc' := 150) rfl ?_
  refine s_null k22 d8_150 (pc' := 151) rfl ?_
  refine s_putR k22 d8_151 (hw _ (List.mem_of_getElem? (i := 61) rfl)) Via.refl F31_t_previous E37_t (hw _ (List.mem_of_getElem? (i := 62) rfl)) (hw _ (List.mem_of_getElem? (i := 27) rfl)) (ty := (.object "com/example/gull/gull/TimerWheel$Timer")) (by decide) rfl rfl g_t (pc' := 154) rfl fun T42 h42 L42 k42 W42 => ?_
  have F43_w_slots := F23_w_slots.other W42 (Or.inl ne_w_t)
  have F44_w_occupied := F24_w_occupied.other W42 (Or.inl ne_w_t)
  have F45_w_overflow := F25_w_overflow.other W42 (Or.inl ne_w_t)
  have F46_w_overflowEvent := F26_w_overflowEvent.other W42 (Or.inl ne_w_t)
  have F47_w_elapsed := F27_w_elapsed.other W42 (Or.inl ne_w_t)
  have F48_t_deadline := F28_t_deadline.other W42 (Or.inr (slot_ne (Or.inr (hw _ (List.mem_of_getElem? (i := 36) rfl))) (Or.inl (hw _ (List.mem_of_getElem? (i := 62) rfl))) (by decide) (t := .long) (t' := (.object "com/example/gull/gull/TimerWheel$Timer")) (by decide) (by decide)))
  have F49_t_place := F29_t_place.other W42 (Or.inr (slot_ne (Or.inl (hw _ (List.mem_of_getElem? (i := 34) rfl))) (Or.inl (hw _ (List.mem_of_getElem? (i := 62) rfl))) (by decide) (t := .int) (t' := (.object "com/example/gull/gull/TimerWheel$Timer")) (by decide) (by decide)))
  have F50_t_next := F30_t_next.other W42 (Or.inr (slot_ne (Or.inl (hw _ (List.mem_of_getElem? (i := 54) rfl))) (Or.inl (hw _ (List.mem_of_getElem? (i := 62) rfl))) (by decide) (t := (.object "com/example/gull/gull/TimerWheel$Timer")) (t' := (.object "com/example/gull/gull/TimerWheel$Timer")) (by decide) (by decide)))
  have F51_t_previous := F31_t_previous.same W42
  have F52_q_deadline := F32_q_deadline.other W42 (Or.inl (Ne.symm ne_t_q))
  have F53_q_place := F33_q_place.other W42 (Or.inl (Ne.symm ne_t_q))
  have F54_q_next := F34_q_next.other W42 (Or.inl (Ne.symm ne_t_q))
  have F55_q_previous := F35_q_previous.other W42 (Or.inl (Ne.symm ne_t_q))
  have E56_w := E36_w.wr W42
  have E57_t := E37_t.wr W42
  have E58_q := E38_q.wr W42
  have B59_sa := B39_sa.other W42 ne_sa_t
  have B60_oa := B40_oa.other W42 ne_oa_t
  have Z61 := Nat.le_trans Z41 (Keep.of_wr W42).1
  refine s_aloadN k42 d8_154 rfl rfl (pc' := 155) rfl ?_
  refine s_null k42 d8_155 (pc' := 156) rfl ?_
  refine s_putR k42 d8_156 (hw _ (List.mem_of_getElem? (i := 53) rfl)) Via.refl F50_t_next E57_t (hw _ (List.mem_of_getElem? (i := 54) rfl)) (hw _ (List.mem_of_getElem? (i := 27) rfl)) (ty := (.object "com/example/gull/gull/TimerWheel$Timer")) (by decide) rfl rfl g_t (pc' := 159) rfl fun T62 h62 L62 k62 W62 => ?_
  have F63_w_slots := F43_w_slots.other W62 (Or.inl ne_w_t)
  have F64_w_occupied := F44_w_occupied.other W62 (Or.inl ne_w_t)
  have F65_w_overflow := F45_w_overflow.other W62 (Or.inl ne_w_t)
  have F66_w_overflowEvent := F46_w_overflowEvent.other W62 (Or.inl ne_w_t)
  have F67_w_elapsed := F47_w_elapsed.other W62 (Or.inl ne_w_t)
  have F68_t_deadline := F48_t_deadline.other W62 (Or.inr (slot_ne (Or.inr (hw _ (List.mem_of_getElem? (i := 36) rfl))) (Or.inl (hw _ (List.mem_of_getElem? (i := 54) rfl))) (by decide) (t := .long) (t' := (.object "com/example/gull/gull/TimerWheel$Timer")) (by decide) (by decide)))
  have F69_t_place := F49_t_place.other W62 (Or.inr (slot_ne (Or.inl (hw _ (List.mem_of_getElem? (i := 34) rfl))) (Or.inl (hw _ (List.mem_of_getElem? (i := 54) rfl))) (by decide) (t := .int) (t' := (.object "com/example/gull/gull/TimerWheel$Timer")) (by decide) (by decide)))
  have F70_t_next := F50_t_next.same W62
  have F71_t_previous := F51_t_previous.other W62 (Or.inr (slot_ne (Or.inl (hw _ (List.mem_of_getElem? (i := 62) rfl))) (Or.inl (hw _ (List.mem_of_getElem? (i := 54) rfl))) (by decide) (t := (.object "com/example/gull/gull/TimerWheel$Timer")) (t' := (.object "com/example/gull/gull/TimerWheel$Timer")) (by decide) (by decide)))
  have F72_q_deadline := F52_q_deadline.other W62 (Or.inl (Ne.symm ne_t_q))
  have F73_q_place := F53_q_place.other W62 (Or.inl (Ne.symm ne_t_q))
  have F74_q_next := F54_q_next.other W62 (Or.inl (Ne.symm ne_t_q))
  have F75_q_previous := F55_q_previous.other W62 (Or.inl (Ne.symm ne_t_q))
  have E76_w := E56_w.wr W62
  have E77_t := E57_t.wr W62
  have E78_q := E58_q.wr W62
  have B79_sa := B59_sa.other W62 ne_sa_t
  have B80_oa := B60_oa.other W62 ne_oa_t
  have Z81 := Nat.le_trans Z61 (Keep.of_wr W62).1
  exact s_ret k62 d8_159 rfl hP (by decide) (by decide) ⟨rfl, ⟨E76_w, F63_w_slots, F64_w_occupied, F65_w_overflow, F66_w_overflowEvent, F67_w_elapsed, B79_sa, B80_oa⟩, ⟨E77_t, F68_t_deadline, F69_t_place, F70_t_next, F71_t_previous⟩, ⟨E78_q, F72_q_deadline, F73_q_place, F74_q_next, F75_q_previous⟩⟩
theorem d8_50 : decode prog_30_method_3_code 50 = .ok (.aload_n 0, 1) := by decide +kernel
theorem d8_51 : decode prog_30_method_3_code 51 = .ok (.getfield 13, 3) := by decide +kernel
theorem d8_54 : decode prog_30_method_3_code 54 = .ok (.aload_n 1, 1) := by decide +kernel
theorem d8_55 : decode prog_30_method_3_code 55 = .ok (.getfield 37, 3) := by decide +kernel
theorem d8_58 : decode prog_30_method_3_code 58 = .ok (.aload_n 1, 1) := by decide +kernel
theorem d8_59 : decode prog_30_method_3_code 59 = .ok (.getfield 41, 3) := by decide +kernel
theorem d8_62 : decode prog_30_method_3_code 62 = .ok (.aastore, 1) := by decide +kernel
theorem d8_104 : decode prog_30_method_3_code 104 = .ok (.aload_n 0, 1) := by decide +kernel
theorem d8_105 : decode prog_30_method_3_code 105 = .ok (.getfield 13, 3) := by decide +kernel
theorem d8_108 : decode prog_30_method_3_code 108 = .ok (.aload_n 1, 1) := by decide +kernel
theorem d8_109 : decode prog_30_method_3_code 109 = .ok (.getfield 37, 3) := by decide +kernel
theorem d8_112 : decode prog_30_method_3_code 112 = .ok (.aaload, 1) := by decide +kernel
theorem d8_113 : decode prog_30_method_3_code 113 = .ok (.ifnonnull 31, 3) := by decide +kernel
theorem d8_116 : decode prog_30_method_3_code 116 = .ok (.aload_n 0, 1) := by decide +kernel
theorem d8_117 : decode prog_30_method_3_code 117 = .ok (.getfield 17, 3) := by decide +kernel
theorem d8_120 : decode prog_30_method_3_code 120 = .ok (.aload_n 1, 1) := by decide +kernel
theorem d8_121 : decode prog_30_method_3_code 121 = .ok (.getfield 37, 3) := by decide +kernel
theorem d8_124 : decode prog_30_method_3_code 124 = .ok (.bipush 64, 2) := by decide +kernel
theorem d8_126 : decode prog_30_method_3_code 126 = .ok (.idiv, 1) := by decide +kernel
theorem d8_127 : decode prog_30_method_3_code 127 = .ok (.dup2, 1) := by decide +kernel
theorem d8_128 : decode prog_30_method_3_code 128 = .ok (.laload, 1) := by decide +kernel
theorem d8_129 : decode prog_30_method_3_code 129 = .ok (.lconst 1, 1) := by decide +kernel
theorem d8_130 : decode prog_30_method_3_code 130 = .ok (.aload_n 1, 1) := by decide +kernel
theorem d8_131 : decode prog_30_method_3_code 131 = .ok (.getfield 37, 3) := by decide +kernel
theorem d8_134 : decode prog_30_method_3_code 134 = .ok (.bipush 64, 2) := by decide +kernel
theorem d8_136 : decode prog_30_method_3_code 136 = .ok (.irem, 1) := by decide +kernel
theorem d8_137 : decode prog_30_method_3_code 137 = .ok (.lshl, 1) := by decide +kernel
theorem d8_138 : decode prog_30_method_3_code 138 = .ok (.ldc2_w 59, 3) := by decide +kernel
theorem d8_141 : decode prog_30_method_3_code 141 = .ok (.lxor, 1) := by decide +kernel
theorem d8_142 : decode prog_30_method_3_code 142 = .ok (.land, 1) := by decide +kernel
theorem d8_143 : decode prog_30_method_3_code 143 = .ok (.lastore, 1) := by decide +kernel
theorem pn_8_remS : plainFor (⟨"com/example/gull/gull/TimerWheel", "remove", "(Lcom/example/gull/gull/TimerWheel$Timer;)V"⟩ : MethodName) = true := plainFor_of_name (by first | (simp [plainName, overriddenIn]; done) | decide +kernel)
theorem ef_remS {w : Addr} {t : Addr} (m : MethodId) : entryFrame m #[.ref w, .ref t] 2 = mkF m 0 #[.val (.ref w), .val (.ref t)] [] := by first | (simp [entryFrame, mkF, argsToLocals, Value.category]; done) | rfl
set_option maxRecDepth 65536 in
set_option maxHeartbeats 40000000 in
theorem remS (l : Launch) (Z : State) (a0 : Array Value) (hw : ∀ d ∈ tables_1, d.before a0 Z = true) (w sa oa t q : Addr) (ka ko : ClassId) (el : Int64) (S : Nat → Value) (Oc : Nat → Int64) (oe d dq : Int64) (pq : Int32) (nq vq : Value) (lv sv pl : Int32) (li pi : Nat)  (h0 : Heap) (n0 : Nat) (Z0 : n0 ≤ h0.size) (Cx : Ctx n0 w sa oa t q) (O_sa : Ovr Z ka "com/example/gull/gull/TimerWheel$Timer") (HW : Whl Z h0 w sa oa ka ko S Oc .null oe el) (HT : Tmr Z h0 t d pl .null .null) (HQ : Tmr Z h0 q dq pq nq vq) (hm1 : ¬ pl = (-1 : Int32)) (hm2 : ¬ pl = (-2 : Int32)) (hpn : ¬ pl < 0) (hpi : pl.toNatClampNeg = pi) (hp3 : pi < 320) (hdv : pl / (64 : Int32) = lv) (hmd : pl % (64 : Int32) = sv) (hln : ¬ lv < 0) (hli : lv.toNatClampNeg = li) (hl5 : li < 5)  :
    Met l Z (⟨"com/example/gull/gull/TimerWheel", "remove", "(Lcom/example/gull/gull/TimerWheel$Timer;)V"⟩ : MethodName) prog_30_method_3_code 2 none ({ frames := 0, cells := 0, slots := 0, locals := 0 } : Room) n0 #[.ref w, .ref t] h0 (fun v h => v = none ∧ Whl Z h w sa oa ka ko (upd S pi .null) (updL Oc li ((Oc li) &&& (((1 : Int64) <<< (sv.toInt64 &&& 63)) ^^^ (-1 : Int64)))) .null (9223372036854775807 : Int64) el ∧ Tmr Z h t d (-1 : Int32) .null .null ∧ Tmr Z h q dq pq nq vq) := by
  refine Met.of (Ls := #[.val (.ref w), .val (.ref t)]) pn_8_remS (fun m => ef_remS m) fun p e s m below meth c T0 P hP k0 => ?_
  obtain ⟨⟨g_w, g_sa, g_oa, g_t, g_q⟩, ne_w_sa, ne_w_oa, ne_w_t, ne_w_q, ne_sa_oa, ne_sa_t, ne_sa_q, ne_oa_t, ne_oa_q, ne_t_q⟩ := Cx
  obtain ⟨E_w, F_w_sl, F_w_oc, F_w_ov, F_w_oe, F_w_el, B_sa, B_oa⟩ := HW
  obtain ⟨E_t, F_t_d, F_t_p, F_t_n, F_t_v⟩ := HT
  obtain ⟨E_q, F_q_d, F_q_p, F_q_n, F_q_v⟩ := HQ
  refine s_aloadN k0 d8_0 rfl rfl (pc' := 1) rfl ?_
  refine s_getR k0 d8_1 (hw _ (List.mem_of_getElem? (i := 52) rfl)) Via.refl F_t_p (pc' := 4) rfl ?_
  refine s_iconst k0 (z := -1) d8_4 (by decide) (pc' := 5) rfl ?_
  refine s_icmp_ne k0 d8_5 (by decide) (pc' := 9) (by decide) (pc3 := 8) rfl (fun hc5 => absurd hc5 hm1) (fun hc5 => ?_)
  refine s_aloadN k0 d8_9 rfl rfl (pc' := 10) rfl ?_
  refine s_getR k0 d8_10 (hw _ (List.mem_of_getElem? (i := 61) rfl)) Via.refl F_t_v (pc' := 13) rfl ?_
  refine s_nullY k0 d8_13 (by decide) (pc' := 30) (by decide) ?_
  refine s_aloadN k0 d8_30 rfl rfl (pc' := 31) rfl ?_
  refine s_getR k0 d8_31 (hw _ (List.mem_of_getElem? (i := 52) rfl)) Via.refl F_t_p (pc' := 34) rfl ?_
  refine s_bipush k0 (z := -2) d8_34 (by decide) (pc' := 36) rfl ?_
  refine s_icmp_ne k0 d8_36 (by decide) (pc' := 50) (by decide) (pc3 := 39) rfl (fun hc36 => absurd hc36 hm2) (fun hc36 => ?_)
  refine s_aloadN k0 d8_50 rfl rfl (pc' := 51) rfl ?_
  refine s_get k0 d8_51 (host := "") (Or.inl (hw _ (List.mem_of_getElem? (i := 16) rfl))) Via.refl F_w_sl (pc' := 54) rfl fun T1 k1 => ?_
  refine s_aloadN k1 d8_54 rfl rfl (pc' := 55) rfl ?_
  refine s_getR k1 d8_55 (hw _ (List.mem_of_getElem? (i := 52) rfl)) Via.refl F_t_p (pc' := 58) rfl ?_
  refine s_aloadN k1 d8_58 rfl rfl (pc' := 59) rfl ?_
  refine s_getR k1 d8_59 (hw _ (List.mem_of_getElem? (i := 53) rfl)) Via.refl F_t_n (pc' := 62) rfl ?_
  refine s_aastoreF k1 (i := pi) d8_62 B_sa hpn hpi hp3 O_sa (Or.inl rfl) g_sa (pc' := 63) rfl fun T2 h2 L2 k2 W2 B2 => ?_
  have F3_w_slots := F_w_sl.other W2 (Or.inl ne_w_sa)
  have F4_w_occupied := F_w_oc.other W2 (Or.inl ne_w_sa)
  have F5_w_overflow := F_w_ov.other W2 (Or.inl ne_w_sa)
  have F6_w_overflowEvent := F_w_oe.other W2 (Or.inl ne_w_sa)
  have F7_w_elapsed := F_w_el.other W2 (Or.inl ne_w_sa)
  have F8_t_deadline := F_t_d.other W2 (Or.inl (Ne.symm ne_sa_t))
  have F9_t_place := F_t_p.other W2 (Or.inl (Ne.symm ne_sa_t))
  have F10_t_next := F_t_n.other W2 (Or.inl (Ne.symm ne_sa_t))
  have F11_t_previous := F_t_v.other W2 (Or.inl (Ne.symm ne_sa_t))
  have F12_q_deadline := F_q_d.other W2 (Or.inl (Ne.symm ne_sa_q))
  have F13_q_place := F_q_p.other W2 (Or.inl (Ne.symm ne_sa_q))
  have F14_q_next := F_q_n.other W2 (Or.inl (Ne.symm ne_sa_q))
  have F15_q_previous := F_q_v.other W2 (Or.inl (Ne.symm ne_sa_q))
  have E16_w := E_w.wr W2
  have E17_t := E_t.wr W2
  have E18_q := E_q.wr W2
  have B19_oa := B_oa.other W2 (Ne.symm ne_sa_oa)
  have Z20 := Nat.le_trans Z0 (Keep.of_wr W2).1
  refine s_aloadN k2 d8_63 rfl rfl (pc' := 64) rfl ?_
  refine s_getR k2 d8_64 (hw _ (List.mem_of_getElem? (i := 53) rfl)) Via.refl F10_t_next (pc' := 67) rfl ?_
  refine s_nullY k2 d8_67 (by decide) (pc' := 81) (by decide) ?_
  refine s_aloadN k2 d8_81 rfl rfl (pc' := 82) rfl ?_
  refine s_get k2 d8_82 (host := "") (Or.inl (hw _ (List.mem_of_getElem? (i := 63) rfl))) Via.refl F5_w_overflow (pc' := 85) rfl fun T21 k21 => ?_
  refine s_nonnullN k21 d8_85 (pc' := 88) rfl ?_
  refine s_aloadN k21 d8_88 rfl rfl (pc' := 89) rfl ?_
  refine s_ldcL k21 d8_89 (hw _ (List.mem_of_getElem? (i := 21) rfl)) (pc' := 92) rfl ?_
  refine s_put k21 d8_92 (host := "") (Or.inl (hw _ (List.mem_of_getElem? (i := 22) rfl))) Via.refl F6_w_overflowEvent E16_w (Or.inl (hw _ (List.mem_of_getElem? (i := 23) rfl))) (hw _ (List.mem_of_getElem? (i := 6) rfl)) (ty := .long) (by decide) rfl rfl g_w (pc' := 95) rfl fun T22 h22 L22 k22 W22 => ?_
  have F23_w_slots := F3_w_slots.other W22 (Or.inr (slot_ne (Or.inr (hw _ (List.mem_of_getElem? (i := 17) rfl))) (Or.inl (hw _ (List.mem_of_getElem? (i := 23) rfl))) (by decide) (t := (.array (.object "com/example/gull/gull/TimerWheel$Timer"))) (t' := .long) (by decide) (by decide)))
  have F24_w_occupied := F4_w_occupied.other W22 (Or.inr (slot_ne (Or.inr (hw _ (List.mem_of_getElem? (i := 20) rfl))) (Or.inl (hw _ (List.mem_of_getElem? (i := 23) rfl))) (by decide) (t := (.array .long)) (t' := .long) (by decide) (by decide)))
  have F25_w_overflow := F5_w_overflow.other W22 (Or.inr (slot_ne (Or.inl (hw _ (List.mem_of_getElem? (i := 64) rfl))) (Or.inl (hw _ (List.mem_of_getElem? (i := 23) rfl))) (by decide) (t := (.object "com/example/gull/gull/TimerWheel$Timer")) (t' := .long) (by decide) (by decide)))
  have F26_w_overflowEvent := F6_w_overflowEvent.same W22
  have F27_w_elapsed := F7_w_elapsed.other W22 (Or.inr (slot_ne (Or.inl (hw _ (List.mem_of_getElem? (i := 25) rfl))) (Or.inl (hw _ (List.mem_of_getElem? (i := 23) rfl))) (by decide) (t := .long) (t' := .long) (by decide) (by decide)))
  have F28_t_deadline := F8_t_deadline.other W22 (Or.inl (Ne.symm ne_w_t))
  have F29_t_place := F9_t_place.other W22 (Or.inl (Ne.symm ne_w_t))
  have F30_t_next := F10_t_next.other W22 (Or.inl (Ne.symm ne_w_t))
  have F31_t_previous := F11_t_previous.other W22 (Or.inl (Ne.symm ne_w_t))
  have F32_q_deadline := F12_q_deadline.other W22 (Or.inl (Ne.symm ne_w_q))
  have F33_q_place := F13_q_place.other W22 (Or.inl (Ne.symm ne_w_q))
  have F34_q_next := F14_q_next.other W22 (Or.inl (Ne.symm ne_w_q))
  have F35_q_previous := F15_q_previous.other W22 (Or.inl (Ne.symm ne_w_q))
  have E36_w := E16_w.wr W22
  have E37_t := E17_t.wr W22
  have E38_q := E18_q.wr W22
  have B39_sa := B2.other W22 (Ne.symm ne_w_sa)
  have B40_oa := B19_oa.other W22 (Ne.symm ne_w_oa)
  have Z41 := Nat.le_trans Z20 (Keep.of_wr W22).1
  refine s_aloadN k22 d8_95 rfl rfl (pc' := 96) rfl ?_
  refine s_getR k22 d8_96 (hw _ (List.mem_of_getElem? (i := 52) rfl)) Via.refl F29_t_place (pc' := 99) rfl ?_
  refine s_bipush k22 (z := -2) d8_99 (by decide) (pc' := 101) rfl ?_
  refine s_icmp_eq k22 d8_101 (by decide) (pc' := 144) (by decide) (pc3 := 104) rfl (fun hc101 => absurd hc101 hm2) (fun hc101 => ?_)
  refine s_aloadN k22 d8_104 rfl rfl (pc' := 105) rfl ?_
  refine s_get k22 d8_105 (host := "") (Or.inl (hw _ (List.mem_of_getElem? (i := 16) rfl))) Via.refl F23_w_slots (pc' := 108) rfl fun T42 k42 => ?_
  refine s_aloadN k42 d8_108 rfl rfl (pc' := 109) rfl ?_
  refine s_getR k42 d8_109 (hw _ (List.mem_of_getElem? (i := 52) rfl)) Via.refl F29_t_place (pc' := 112) rfl ?_
  refine s_aaloadF k42 (i := pi) d8_112 B39_sa rfl hpn hpi hp3 (upd_same _ _ _) (pc' := 113) rfl ?_
  refine s_nonnullN k42 d8_113 (pc' := 116) rfl ?_
  refine s_aloadN k42 d8_116 rfl rfl (pc' := 117) rfl ?_
  refine s_get k42 d8_117 (host := "") (Or.inl (hw _ (List.mem_of_getElem? (i := 19) rfl))) Via.refl F24_w_occupied (pc' := 120) rfl fun T43 k43 => ?_
  refine s_aloadN k43 d8_120 rfl rfl (pc' := 121) rfl ?_
  refine s_getR k43 d8_121 (hw _ (List.mem_of_getElem? (i := 52) rfl)) Via.refl F29_t_place (pc' := 124) rfl ?_
  refine s_bipush k43 (z := 64) d8_124 (by decide) (pc' := 126) rfl ?_
  refine s_idiv k43 d8_126 (by decide) rfl (pc' := 127) rfl ?_
  rw [hdv]
  show Go p e below P T43 (mkF m 127 #[.val (.ref w), .val (.ref t)] [.int lv, .ref oa])
  refine s_dup2 k43 d8_127 rfl rfl (pc' := 128) rfl ?_
  refine s_laloadF k43 (i := li) d8_128 B40_oa hln hli hl5 rfl (pc' := 129) rfl ?_
  refine s_lconst k43 (z := 1) d8_129 (by decide) (pc' := 130) rfl ?_
  refine s_aloadN k43 d8_130 rfl rfl (pc' := 131) rfl ?_
  refine s_getR k43 d8_131 (hw _ (List.mem_of_getElem? (i := 52) rfl)) Via.refl F29_t_place (pc' := 134) rfl ?_
  refine s_bipush k43 (z := 64) d8_134 (by decide) (pc' := 136) rfl ?_
  refine s_irem k43 d8_136 (by decide) rfl (pc' := 137) rfl ?_
  rw [hmd]
  show Go p e below P T43 (mkF m 137 #[.val (.ref w), .val (.ref t)] [.int sv, .long (1 : Int64), .long (Oc li), .int lv, .ref oa])
  refine s_lshl k43 d8_137 rfl (pc' := 138) rfl ?_
  refine s_ldcL k43 d8_138 (hw _ (List.mem_of_getElem? (i := 65) rfl)) (pc' := 141) rfl ?_
  refine s_lxor k43 d8_141 rfl (pc' := 142) rfl ?_
  refine s_land k43 d8_142 rfl (pc' := 143) rfl ?_
  refine s_lastoreF k43 (i := li) d8_143 B40_oa hln hli hl5 g_oa (pc' := 144) rfl fun T44 h44 L44 k44 W44 B44 => ?_
  have F45_w_slots := F23_w_slots.other W44 (Or.inl ne_w_oa)
  have F46_w_occupied := F24_w_occupied.other W44 (Or.inl ne_w_oa)
  have F47_w_overflow := F25_w_overflow.other W44 (Or.inl ne_w_oa)
  have F48_w_overflowEvent := F26_w_overflowEvent.other W44 (Or.inl ne_w_oa)
  have F49_w_elapsed := F27_w_elapsed.other W44 (Or.inl ne_w_oa)
  have F50_t_deadline := F28_t_deadline.other W44 (Or.inl (Ne.symm ne_oa_t))
  have F51_t_place := F29_t_place.other W44 (Or.inl (Ne.symm ne_oa_t))
  have F52_t_next := F30_t_next.other W44 (Or.inl (Ne.symm ne_oa_t))
  have F53_t_previous := F31_t_previous.other W44 (Or.inl (Ne.symm ne_oa_t))
  have F54_q_deadline := F32_q_deadline.other W44 (Or.inl (Ne.symm ne_oa_q))
  have F55_q_place := F33_q_place.other W44 (Or.inl (Ne.symm ne_oa_q))
  have F56_q_next := F34_q_next.other W44 (Or.inl (Ne.symm ne_oa_q))
  have F57_q_previous := F35_q_previous.other W44 (Or.inl (Ne.symm ne_oa_q))
  have E58_w := E36_w.wr W44
  have E59_t := E37_t.wr W44
  have E60_q := E38_q.wr W44
  have B61_sa := B39_sa.other W44 ne_sa_oa
  have Z62 := Nat.le_trans Z41 (Keep.of_wr W44).1
  refine s_aloadN k44 d8_144 rfl rfl (pc' := 145) rfl ?_
  refine s_iconst k44 (z := -1) d8_145 (by decide) (pc' := 146) rfl ?_
  refine s_putR k44 d8_146 (hw _ (List.mem_of_getElem? (i := 52) rfl)) Via.refl F51_t_place E59_t (hw _ (List.mem_of_getElem? (i := 34) rfl)) (hw _ (List.mem_of_getElem? (i := 27) rfl)) (ty := .int) (by decide) rfl rfl g_t (pc' := 149) rfl fun T63 h63 L63 k63 W63 => ?_
  have F64_w_slots := F45_w_slots.other W63 (Or.inl ne_w_t)
  have F65_w_occupied := F46_w_occupied.other W63 (Or.inl ne_w_t)
  have F66_w_overflow := F47_w_overflow.other W63 (Or.inl ne_w_t)
  have F67_w_overflowEvent := F48_w_overflowEvent.other W63 (Or.inl ne_w_t)
  have F68_w_elapsed := F49_w_elapsed.other W63 (Or.inl ne_w_t)
  have F69_t_deadline := F50_t_deadline.other W63 (Or.inr (slot_ne (Or.inr (hw _ (List.mem_of_getElem? (i := 36) rfl))) (Or.inl (hw _ (List.mem_of_getElem? (i := 34) rfl))) (by decide) (t := .long) (t' := .int) (by decide) (by decide)))
  have F70_t_place := F51_t_place.same W63
  have F71_t_next := F52_t_next.other W63 (Or.inr (slot_ne (Or.inl (hw _ (List.mem_of_getElem? (i := 54) rfl))) (Or.inl (hw _ (List.mem_of_getElem? (i := 34) rfl))) (by decide) (t := (.object "com/example/gull/gull/TimerWheel$Timer")) (t' := .int) (by decide) (by decide)))
  have F72_t_previous := F53_t_previous.other W63 (Or.inr (slot_ne (Or.inl (hw _ (List.mem_of_getElem? (i := 62) rfl))) (Or.inl (hw _ (List.mem_of_getElem? (i := 34) rfl))) (by decide) (t := (.object "com/example/gull/gull/TimerWheel$Timer")) (t' := .int) (by decide) (by decide)))
  have F73_q_deadline := F54_q_deadline.other W63 (Or.inl (Ne.symm ne_t_q))
  have F74_q_place := F55_q_place.other W63 (Or.inl (Ne.symm ne_t_q))
  have F75_q_next := F56_q_next.other W63 (Or.inl (Ne.symm ne_t_q))
  have F76_q_previous := F57_q_previous.other W63 (Or.inl (Ne.symm ne_t_q))
  have E77_w := E58_w.wr W63
  have E78_t := E59_t.wr W63
  have E79_q := E60_q.wr W63
  have B80_sa := B61_sa.other W63 ne_sa_t
  have B81_oa := B44.other W63 ne_oa_t
  have Z82 := Nat.le_trans Z62 (Keep.of_wr W63).1
  refine s_aloadN k63 d8_149 rfl rfl (pc' := 150) rfl ?_
  refine s_null k63 d8_150 (pc' := 151) rfl ?_
  refine s_putR k63 d8_151 (hw _ (List.mem_of_getElem? (i := 61) rfl)) Via.refl F72_t_previous E78_t (hw _ (List.mem_of_getElem? (i := 62) rfl)) (hw _ (List.mem_of_getElem? (i := 27) rfl)) (ty := (.object "com/example/gull/gull/TimerWheel$Timer")) (by decide) rfl rfl g_t (pc' := 154) rfl fun T83 h83 L83 k83 W83 => ?_
  have F84_w_slots := F64_w_slots.other W83 (Or.inl ne_w_t)
  have F85_w_occupied := F65_w_occupied.other W83 (Or.inl ne_w_t)
  have F86_w_overflow := F66_w_overflow.other W83 (Or.inl ne_w_t)
  have F87_w_overflowEvent := F67_w_overflowEvent.other W83 (Or.inl ne_w_t)
  have F88_w_elapsed := F68_w_elapsed.other W83 (Or.inl ne_w_t)
  have F89_t_deadline := F69_t_deadline.other W83 (Or.inr (slot_ne (Or.inr (hw _ (List.mem_of_getElem? (i := 36) rfl))) (Or.inl (hw _ (List.mem_of_getElem? (i := 62) rfl))) (by decide) (t := .long) (t' := (.object "com/example/gull/gull/TimerWheel$Timer")) (by decide) (by decide)))
  have F90_t_place := F70_t_place.other W83 (Or.inr (slot_ne (Or.inl (hw _ (List.mem_of_getElem? (i := 34) rfl))) (Or.inl (hw _ (List.mem_of_getElem? (i := 62) rfl))) (by decide) (t := .int) (t' := (.object "com/example/gull/gull/TimerWheel$Timer")) (by decide) (by decide)))
  have F91_t_next := F71_t_next.other W83 (Or.inr (slot_ne (Or.inl (hw _ (List.mem_of_getElem? (i := 54) rfl))) (Or.inl (hw _ (List.mem_of_getElem? (i := 62) rfl))) (by decide) (t := (.object "com/example/gull/gull/TimerWheel$Timer")) (t' := (.object "com/example/gull/gull/TimerWheel$Timer")) (by decide) (by decide)))
  have F92_t_previous := F72_t_previous.same W83
  have F93_q_deadline := F73_q_deadline.other W83 (Or.inl (Ne.symm ne_t_q))
  have F94_q_place := F74_q_place.other W83 (Or.inl (Ne.symm ne_t_q))
  have F95_q_next := F75_q_next.other W83 (Or.inl (Ne.symm ne_t_q))
  have F96_q_previous := F76_q_previous.other W83 (Or.inl (Ne.symm ne_t_q))
  have E97_w := E77_w.wr W83
  have E98_t := E78_t.wr W83
  have E99_q := E79_q.wr W83
  have B100_sa := B80_sa.other W83 ne_sa_t
  have B101_oa := B81_oa.other W83 ne_oa_t
  have Z102 := Nat.le_trans Z82 (Keep.of_wr W83).1
  refine s_aloadN k83 d8_154 rfl rfl (pc' := 155) rfl ?_
  refine s_null k83 d8_155 (pc' := 156) rfl ?_
  refine s_putR k83 d8_156 (hw _ (List.mem_of_getElem? (i := 53) rfl)) Via.refl F91_t_next E98_t (hw _ (List.mem_of_getElem? (i := 54) rfl)) (hw _ (List.mem_of_getElem? (i := 27) rfl)) (ty := (.object "com/example/gull/gull/TimerWheel$Timer")) (by decide) rfl rfl g_t (pc' := 159) rfl fun T103 h103 L103 k103 W103 => ?_
  have F104_w_slots := F84_w_slots.other W103 (Or.inl ne_w_t)
  have F105_w_occupied := F85_w_occupied.other W103 (Or.inl ne_w_t)
  have F106_w_overflow := F86_w_overflow.other W103 (Or.inl ne_w_t)
  have F107_w_overflowEvent := F87_w_overflowEvent.other W103 (Or.inl ne_w_t)
  have F108_w_elapsed := F88_w_elapsed.other W103 (Or.inl ne_w_t)
  have F109_t_deadline := F89_t_deadline.other W103 (Or.inr (slot_ne (Or.inr (hw _ (List.mem_of_getElem? (i := 36) rfl))) (Or.inl (hw _ (List.mem_of_getElem? (i := 54) rfl))) (by decide) (t := .long) (t' := (.object "com/example/gull/gull/TimerWheel$Timer")) (by decide) (by decide)))
  have F110_t_place := F90_t_place.other W103 (Or.inr (slot_ne (Or.inl (hw _ (List.mem_of_getElem? (i := 34) rfl))) (Or.inl (hw _ (List.mem_of_getElem? (i := 54) rfl))) (by decide) (t := .int) (t' := (.object "com/example/gull/gull/TimerWheel$Timer")) (by decide) (by decide)))
  have F111_t_next := F91_t_next.same W103
  have F112_t_previous := F92_t_previous.other W103 (Or.inr (slot_ne (Or.inl (hw _ (List.mem_of_getElem? (i := 62) rfl))) (Or.inl (hw _ (List.mem_of_getElem? (i := 54) rfl))) (by decide) (t := (.object "com/example/gull/gull/TimerWheel$Timer")) (t' := (.object "com/example/gull/gull/TimerWheel$Timer")) (by decide) (by decide)))
  have F113_q_deadline := F93_q_deadline.other W103 (Or.inl (Ne.symm ne_t_q))
  have F114_q_place := F94_q_place.other W103 (Or.inl (Ne.symm ne_t_q))
  have F115_q_next := F95_q_next.other W103 (Or.inl (Ne.symm ne_t_q))
  have F116_q_previous := F96_q_previous.other W103 (Or.inl (Ne.symm ne_t_q))
  have E117_w := E97_w.wr W103
  have E118_t := E98_t.wr W103
  have E119_q := E99_q.wr W103
  have B120_sa := B100_sa.other W103 ne_sa_t
  have B121_oa := B101_oa.other W103 ne_oa_t
  have Z122 := Nat.le_trans Z102 (Keep.of_wr W103).1
  exact s_ret k103 d8_159 rfl hP (by decide) (by decide) ⟨rfl, ⟨E117_w, F104_w_slots, F105_w_occupied, F106_w_overflow, F107_w_overflowEvent, F108_w_elapsed, B120_sa, B121_oa⟩, ⟨E118_t, F109_t_deadline, F110_t_place, F111_t_next, F112_t_previous⟩, ⟨E119_q, F113_q_deadline, F114_q_place, F115_q_next, F116_q_previous⟩⟩
theorem pn_8_remSo : plainFor (⟨"com/example/gull/gull/TimerWheel", "remove", "(Lcom/example/gull/gull/TimerWheel$Timer;)V"⟩ : MethodName) = true := plainFor_of_name (by first | (simp [plainName, overriddenIn]; done) | decide +kernel)
theorem ef_remSo {w : Addr} {t : Addr} (m : MethodId) : entryFrame m #[.ref w, .ref t] 2 = mkF m 0 #[.val (.ref w), .val (.ref t)] [] := by first | (simp [entryFrame, mkF, argsToLocals, Value.category]; done) | rfl
set_option maxRecDepth 65536 in
set_option maxHeartbeats 40000000 in
theorem remSo (l : Launch) (Z : State) (a0 : Array Value) (hw : ∀ d ∈ tables_1, d.before a0 Z = true) (w sa oa t q : Addr) (ka ko : ClassId) (el : Int64) (S : Nat → Value) (Oc : Nat → Int64) (oe d dq : Int64) (pq : Int32) (nq vq : Value) (lv sv pl : Int32) (li pi : Nat)  (h0 : Heap) (n0 : Nat) (Z0 : n0 ≤ h0.size) (Cx : Ctx n0 w sa oa t q) (O_sa : Ovr Z ka "com/example/gull/gull/TimerWheel$Timer") (HW : Whl Z h0 w sa oa ka ko S Oc (.ref q) oe el) (HT : Tmr Z h0 t d pl .null .null) (HQ : Tmr Z h0 q dq pq nq vq) (hm1 : ¬ pl = (-1 : Int32)) (hm2 : ¬ pl = (-2 : Int32)) (hpn : ¬ pl < 0) (hpi : pl.toNatClampNeg = pi) (hp3 : pi < 320) (hdv : pl / (64 : Int32) = lv) (hmd : pl % (64 : Int32) = sv) (hln : ¬ lv < 0) (hli : lv.toNatClampNeg = li) (hl5 : li < 5)  :
    Met l Z (⟨"com/example/gull/gull/TimerWheel", "remove", "(Lcom/example/gull/gull/TimerWheel$Timer;)V"⟩ : MethodName) prog_30_method_3_code 2 none ({ frames := 0, cells := 0, slots := 0, locals := 0 } : Room) n0 #[.ref w, .ref t] h0 (fun v h => v = none ∧ Whl Z h w sa oa ka ko (upd S pi .null) (updL Oc li ((Oc li) &&& (((1 : Int64) <<< (sv.toInt64 &&& 63)) ^^^ (-1 : Int64)))) (.ref q) oe el ∧ Tmr Z h t d (-1 : Int32) .null .null ∧ Tmr Z h q dq pq nq vq) := by
  refine Met.of (Ls := #[.val (.ref w), .val (.ref t)]) pn_8_remSo (fun m => ef_remSo m) fun p e s m below meth c T0 P hP k0 => ?_
  obtain ⟨⟨g_w, g_sa, g_oa, g_t, g_q⟩, ne_w_sa, ne_w_oa, ne_w_t, ne_w_q, ne_sa_oa, ne_sa_t, ne_sa_q, ne_oa_t, ne_oa_q, ne_t_q⟩ := Cx
  obtain ⟨E_w, F_w_sl, F_w_oc, F_w_ov, F_w_oe, F_w_el, B_sa, B_oa⟩ := HW
  obtain ⟨E_t, F_t_d, F_t_p, F_t_n, F_t_v⟩ := HT
  obtain ⟨E_q, F_q_d, F_q_p, F_q_n, F_q_v⟩ := HQ
  refine s_aloadN k0 d8_0 rfl rfl (pc' := 1) rfl ?_
  refine s_getR k0 d8_1 (hw _ (List.mem_of_getElem? (i := 52) rfl)) Via.refl F_t_p (pc' := 4) rfl ?_
  refine s_iconst k0 (z := -1) d8_4 (by decide) (pc' := 5) rfl ?_
  refine s_icmp_ne k0 d8_5 (by decide) (pc' := 9) (by decide) (pc3 := 8) rfl (fun hc5 => absurd hc5 hm1) (fun hc5 => ?_)
  refine s_aloadN k0 d8_9 rfl rfl (pc' := 10) rfl ?_
  refine s_getR k0 d8_10 (hw _ (List.mem_of_getElem? (i := 61) rfl)) Via.refl F_t_v (pc' := 13) rfl ?_
  refine s_nullY k0 d8_13 (by decide) (pc' := 30) (by decide) ?_
  refine s_aloadN k0 d8_30 rfl rfl (pc' := 31) rfl ?_
  refine s_getR k0 d8_31 (hw _ (List.mem_of_getElem? (i := 52) rfl)) Via.refl F_t_p (pc' := 34) rfl ?_
  refine s_bipush k0 (z := -2) d8_34 (by decide) (pc' := 36) rfl ?_
  refine s_icmp_ne k0 d8_36 (by decide) (pc' := 50) (by decide) (pc3 := 39) rfl (fun hc36 => absurd hc36 hm2) (fun hc36 => ?_)
  refine s_aloadN k0 d8_50 rfl rfl (pc' := 51) rfl ?_
  refine s_get k0 d8_51 (host := "") (Or.inl (hw _ (List.mem_of_getElem? (i := 16) rfl))) Via.refl F_w_sl (pc' := 54) rfl fun T1 k1 => ?_
  refine s_aloadN k1 d8_54 rfl rfl (pc' := 55) rfl ?_
  refine s_getR k1 d8_55 (hw _ (List.mem_of_getElem? (i := 52) rfl)) Via.refl F_t_p (pc' := 58) rfl ?_
  refine s_aloadN k1 d8_58 rfl rfl (pc' := 59) rfl ?_
  refine s_getR k1 d8_59 (hw _ (List.mem_of_getElem? (i := 53) rfl)) Via.refl F_t_n (pc' := 62) rfl ?_
  refine s_aastoreF k1 (i := pi) d8_62 B_sa hpn hpi hp3 O_sa (Or.inl rfl) g_sa (pc' := 63) rfl fun T2 h2 L2 k2 W2 B2 => ?_
  have F3_w_slots := F_w_sl.other W2 (Or.inl ne_w_sa)
  have F4_w_occupied := F_w_oc.other W2 (Or.inl ne_w_sa)
  have F5_w_overflow := F_w_ov.other W2 (Or.inl ne_w_sa)
  have F6_w_overflowEvent := F_w_oe.other W2 (Or.inl ne_w_sa)
  have F7_w_elapsed := F_w_el.other W2 (Or.inl ne_w_sa)
  have F8_t_deadline := F_t_d.other W2 (Or.inl (Ne.symm ne_sa_t))
  have F9_t_place := F_t_p.other W2 (Or.inl (Ne.symm ne_sa_t))
  have F10_t_next := F_t_n.other W2 (Or.inl (Ne.symm ne_sa_t))
  have F11_t_previous := F_t_v.other W2 (Or.inl (Ne.symm ne_sa_t))
  have F12_q_deadline := F_q_d.other W2 (Or.inl (Ne.symm ne_sa_q))
  have F13_q_place := F_q_p.other W2 (Or.inl (Ne.symm ne_sa_q))
  have F14_q_next := F_q_n.other W2 (Or.inl (Ne.symm ne_sa_q))
  have F15_q_previous := F_q_v.other W2 (Or.inl (Ne.symm ne_sa_q))
  have E16_w := E_w.wr W2
  have E17_t := E_t.wr W2
  have E18_q := E_q.wr W2
  have B19_oa := B_oa.other W2 (Ne.symm ne_sa_oa)
  have Z20 := Nat.le_trans Z0 (Keep.of_wr W2).1
  refine s_aloadN k2 d8_63 rfl rfl (pc' := 64) rfl ?_
  refine s_getR k2 d8_64 (hw _ (List.mem_of_getElem? (i := 53) rfl)) Via.refl F10_t_next (pc' := 67) rfl ?_
  refine s_nullY k2 d8_67 (by decide) (pc' := 81) (by decide) ?_
  refine s_aloadN k2 d8_81 rfl rfl (pc' := 82) rfl ?_
  refine s_get k2 d8_82 (host := "") (Or.inl (hw _ (List.mem_of_getElem? (i := 63) rfl))) Via.refl F5_w_overflow (pc' := 85) rfl fun T21 k21 => ?_
  refine s_nonnullY k21 d8_85 (by decide) (pc' := 95) (by decide) ?_
  refine s_aloadN k21 d8_95 rfl rfl (pc' := 96) rfl ?_
  refine s_getR k21 d8_96 (hw _ (List.mem_of_getElem? (i := 52) rfl)) Via.refl F9_t_place (pc' := 99) rfl ?_
  refine s_bipush k21 (z := -2) d8_99 (by decide) (pc' := 101) rfl ?_
  refine s_icmp_eq k21 d8_101 (by decide) (pc' := 144) (by decide) (pc3 := 104) rfl (fun hc101 => absurd hc101 hm2) (fun hc101 => ?_)
  refine s_aloadN k21 d8_104 rfl rfl (pc' := 105) rfl ?_
  refine s_get k21 d8_105 (host := "") (Or.inl (hw _ (List.mem_of_getElem? (i := 16) rfl))) Via.refl F3_w_slots (pc' := 108) rfl fun T22 k22 => ?_
  refine s_aloadN k22 d8_108 rfl rfl (pc' := 109) rfl ?_
  refine s_getR k22 d8_109 (hw _ (List.mem_of_getElem? (i := 52) rfl)) Via.refl F9_t_place (pc' := 112) rfl ?_
  refine s_aaloadF k22 (i := pi) d8_112 B2 rfl hpn hpi hp3 (upd_same _ _ _) (pc' := 113) rfl ?_
  refine s_nonnullN k22 d8_113 (pc' := 116) rfl ?_
  refine s_aloadN k22 d8_116 rfl rfl (pc' := 117) rfl ?_
  refine s_get k22 d8_117 (host := "") (Or.inl (hw _ (List.mem_of_getElem? (i := 19) rfl))) Via.refl F4_w_occupied (pc' := 120) rfl fun T23 k23 => ?_
  refine s_aloadN k23 d8_120 rfl rfl (pc' := 121) rfl ?_
  refine s_getR k23 d8_121 (hw _ (List.mem_of_getElem? (i := 52) rfl)) Via.refl F9_t_place (pc' := 124) rfl ?_
  refine s_bipush k23 (z := 64) d8_124 (by decide) (pc' := 126) rfl ?_
  refine s_idiv k23 d8_126 (by decide) rfl (pc' := 127) rfl ?_
  rw [hdv]
  show Go p e below P T23 (mkF m 127 #[.val (.ref w), .val (.ref t)] [.int lv, .ref oa])
  refine s_dup2 k23 d8_127 rfl rfl (pc' := 128) rfl ?_
  refine s_laloadF k23 (i := li) d8_128 B19_oa hln hli hl5 rfl (pc' := 129) rfl ?_
  refine s_lconst k23 (z := 1) d8_129 (by decide) (pc' := 130) rfl ?_
  refine s_aloadN k23 d8_130 rfl rfl (pc' := 131) rfl ?_
  refine s_getR k23 d8_131 (hw _ (List.mem_of_getElem? (i := 52) rfl)) Via.refl F9_t_place (pc' := 134) rfl ?_
  refine s_bipush k23 (z := 64) d8_134 (by decide) (pc' := 136) rfl ?_
  refine s_irem k23 d8_136 (by decide) rfl (pc' := 137) rfl ?_
  rw [hmd]
  show Go p e below P T23 (mkF m 137 #[.val (.ref w), .val (.ref t)] [.int sv, .long (1 : Int64), .long (Oc li), .int lv, .ref oa])
  refine s_lshl k23 d8_137 rfl (pc' := 138) rfl ?_
  refine s_ldcL k23 d8_138 (hw _ (List.mem_of_getElem? (i := 65) rfl)) (pc' := 141) rfl ?_
  refine s_lxor k23 d8_141 rfl (pc' := 142) rfl ?_
  refine s_land k23 d8_142 rfl (pc' := 143) rfl ?_
  refine s_lastoreF k23 (i := li) d8_143 B19_oa hln hli hl5 g_oa (pc' := 144) rfl fun T24 h24 L24 k24 W24 B24 => ?_
  have F25_w_slots := F3_w_slots.other W24 (Or.inl ne_w_oa)
  have F26_w_occupied := F4_w_occupied.other W24 (Or.inl ne_w_oa)
  have F27_w_overflow := F5_w_overflow.other W24 (Or.inl ne_w_oa)
  have F28_w_overflowEvent := F6_w_overflowEvent.other W24 (Or.inl ne_w_oa)
  have F29_w_elapsed := F7_w_elapsed.other W24 (Or.inl ne_w_oa)
  have F30_t_deadline := F8_t_deadline.other W24 (Or.inl (Ne.symm ne_oa_t))
  have F31_t_place := F9_t_place.other W24 (Or.inl (Ne.symm ne_oa_t))
  have F32_t_next := F10_t_next.other W24 (Or.inl (Ne.symm ne_oa_t))
  have F33_t_previous := F11_t_previous.other W24 (Or.inl (Ne.symm ne_oa_t))
  have F34_q_deadline := F12_q_deadline.other W24 (Or.inl (Ne.symm ne_oa_q))
  have F35_q_place := F13_q_place.other W24 (Or.inl (Ne.symm ne_oa_q))
  have F36_q_next := F14_q_next.other W24 (Or.inl (Ne.symm ne_oa_q))
  have F37_q_previous := F15_q_previous.other W24 (Or.inl (Ne.symm ne_oa_q))
  have E38_w := E16_w.wr W24
  have E39_t := E17_t.wr W24
  have E40_q := E18_q.wr W24
  have B41_sa := B2.other W24 ne_sa_oa
  have Z42 := Nat.le_trans Z20 (Keep.of_wr W24).1
  refine s_aloadN k24 d8_144 rfl rfl (pc' := 145) rfl ?_
  refine s_iconst k24 (z := -1) d8_145 (by decide) (pc' := 146) rfl ?_
  refine s_putR k24 d8_146 (hw _ (List.mem_of_getElem? (i := 52) rfl)) Via.refl F31_t_place E39_t (hw _ (List.mem_of_getElem? (i := 34) rfl)) (hw _ (List.mem_of_getElem? (i := 27) rfl)) (ty := .int) (by decide) rfl rfl g_t (pc' := 149) rfl fun T43 h43 L43 k43 W43 => ?_
  have F44_w_slots := F25_w_slots.other W43 (Or.inl ne_w_t)
  have F45_w_occupied := F26_w_occupied.other W43 (Or.inl ne_w_t)
  have F46_w_overflow := F27_w_overflow.other W43 (Or.inl ne_w_t)
  have F47_w_overflowEvent := F28_w_overflowEvent.other W43 (Or.inl ne_w_t)
  have F48_w_elapsed := F29_w_elapsed.other W43 (Or.inl ne_w_t)
  have F49_t_deadline := F30_t_deadline.other W43 (Or.inr (slot_ne (Or.inr (hw _ (List.mem_of_getElem? (i := 36) rfl))) (Or.inl (hw _ (List.mem_of_getElem? (i := 34) rfl))) (by decide) (t := .long) (t' := .int) (by decide) (by decide)))
  have F50_t_place := F31_t_place.same W43
  have F51_t_next := F32_t_next.other W43 (Or.inr (slot_ne (Or.inl (hw _ (List.mem_of_getElem? (i := 54) rfl))) (Or.inl (hw _ (List.mem_of_getElem? (i := 34) rfl))) (by decide) (t := (.object "com/example/gull/gull/TimerWheel$Timer")) (t' := .int) (by decide) (by decide)))
  have F52_t_previous := F33_t_previous.other W43 (Or.inr (slot_ne (Or.inl (hw _ (List.mem_of_getElem? (i := 62) rfl))) (Or.inl (hw _ (List.mem_of_getElem? (i := 34) rfl))) (by decide) (t := (.object "com/example/gull/gull/TimerWheel$Timer")) (t' := .int) (by decide) (by decide)))
  have F53_q_deadline := F34_q_deadline.other W43 (Or.inl (Ne.symm ne_t_q))
  have F54_q_place := F35_q_place.other W43 (Or.inl (Ne.symm ne_t_q))
  have F55_q_next := F36_q_next.other W43 (Or.inl (Ne.symm ne_t_q))
  have F56_q_previous := F37_q_previous.other W43 (Or.inl (Ne.symm ne_t_q))
  have E57_w := E38_w.wr W43
  have E58_t := E39_t.wr W43
  have E59_q := E40_q.wr W43
  have B60_sa := B41_sa.other W43 ne_sa_t
  have B61_oa := B24.other W43 ne_oa_t
  have Z62 := Nat.le_trans Z42 (Keep.of_wr W43).1
  refine s_aloadN k43 d8_149 rfl rfl (pc' := 150) rfl ?_
  refine s_null k43 d8_150 (pc' := 151) rfl ?_
  refine s_putR k43 d8_151 (hw _ (List.mem_of_getElem? (i := 61) rfl)) Via.refl F52_t_previous E58_t (hw _ (List.mem_of_getElem? (i := 62) rfl)) (hw _ (List.mem_of_getElem? (i := 27) rfl)) (ty := (.object "com/example/gull/gull/TimerWheel$Timer")) (by decide) rfl rfl g_t (pc' := 154) rfl fun T63 h63 L63 k63 W63 => ?_
  have F64_w_slots := F44_w_slots.other W63 (Or.inl ne_w_t)
  have F65_w_occupied := F45_w_occupied.other W63 (Or.inl ne_w_t)
  have F66_w_overflow := F46_w_overflow.other W63 (Or.inl ne_w_t)
  have F67_w_overflowEvent := F47_w_overflowEvent.other W63 (Or.inl ne_w_t)
  have F68_w_elapsed := F48_w_elapsed.other W63 (Or.inl ne_w_t)
  have F69_t_deadline := F49_t_deadline.other W63 (Or.inr (slot_ne (Or.inr (hw _ (List.mem_of_getElem? (i := 36) rfl))) (Or.inl (hw _ (List.mem_of_getElem? (i := 62) rfl))) (by decide) (t := .long) (t' := (.object "com/example/gull/gull/TimerWheel$Timer")) (by decide) (by decide)))
  have F70_t_place := F50_t_place.other W63 (Or.inr (slot_ne (Or.inl (hw _ (List.mem_of_getElem? (i := 34) rfl))) (Or.inl (hw _ (List.mem_of_getElem? (i := 62) rfl))) (by decide) (t := .int) (t' := (.object "com/example/gull/gull/TimerWheel$Timer")) (by decide) (by decide)))
  have F71_t_next := F51_t_next.other W63 (Or.inr (slot_ne (Or.inl (hw _ (List.mem_of_getElem? (i := 54) rfl))) (Or.inl (hw _ (List.mem_of_getElem? (i := 62) rfl))) (by decide) (t := (.object "com/example/gull/gull/TimerWheel$Timer")) (t' := (.object "com/example/gull/gull/TimerWheel$Timer")) (by decide) (by decide)))
  have F72_t_previous := F52_t_previous.same W63
  have F73_q_deadline := F53_q_deadline.other W63 (Or.inl (Ne.symm ne_t_q))
  have F74_q_place := F54_q_place.other W63 (Or.inl (Ne.symm ne_t_q))
  have F75_q_next := F55_q_next.other W63 (Or.inl (Ne.symm ne_t_q))
  have F76_q_previous := F56_q_previous.other W63 (Or.inl (Ne.symm ne_t_q))
  have E77_w := E57_w.wr W63
  have E78_t := E58_t.wr W63
  have E79_q := E59_q.wr W63
  have B80_sa := B60_sa.other W63 ne_sa_t
  have B81_oa := B61_oa.other W63 ne_oa_t
  have Z82 := Nat.le_trans Z62 (Keep.of_wr W63).1
  refine s_aloadN k63 d8_154 rfl rfl (pc' := 155) rfl ?_
  refine s_null k63 d8_155 (pc' := 156) rfl ?_
  refine s_putR k63 d8_156 (hw _ (List.mem_of_getElem? (i := 53) rfl)) Via.refl F71_t_next E78_t (hw _ (List.mem_of_getElem? (i := 54) rfl)) (hw _ (List.mem_of_getElem? (i := 27) rfl)) (ty := (.object "com/example/gull/gull/TimerWheel$Timer")) (by decide) rfl rfl g_t (pc' := 159) rfl fun T83 h83 L83 k83 W83 => ?_
  have F84_w_slots := F64_w_slots.other W83 (Or.inl ne_w_t)
  have F85_w_occupied := F65_w_occupied.other W83 (Or.inl ne_w_t)
  have F86_w_overflow := F66_w_overflow.other W83 (Or.inl ne_w_t)
  have F87_w_overflowEvent := F67_w_overflowEvent.other W83 (Or.inl ne_w_t)
  have F88_w_elapsed := F68_w_elapsed.other W83 (Or.inl ne_w_t)
  have F89_t_deadline := F69_t_deadline.other W83 (Or.inr (slot_ne (Or.inr (hw _ (List.mem_of_getElem? (i := 36) rfl))) (Or.inl (hw _ (List.mem_of_getElem? (i := 54) rfl))) (by decide) (t := .long) (t' := (.object "com/example/gull/gull/TimerWheel$Timer")) (by decide) (by decide)))
  have F90_t_place := F70_t_place.other W83 (Or.inr (slot_ne (Or.inl (hw _ (List.mem_of_getElem? (i := 34) rfl))) (Or.inl (hw _ (List.mem_of_getElem? (i := 54) rfl))) (by decide) (t := .int) (t' := (.object "com/example/gull/gull/TimerWheel$Timer")) (by decide) (by decide)))
  have F91_t_next := F71_t_next.same W83
  have F92_t_previous := F72_t_previous.other W83 (Or.inr (slot_ne (Or.inl (hw _ (List.mem_of_getElem? (i := 62) rfl))) (Or.inl (hw _ (List.mem_of_getElem? (i := 54) rfl))) (by decide) (t := (.object "com/example/gull/gull/TimerWheel$Timer")) (t' := (.object "com/example/gull/gull/TimerWheel$Timer")) (by decide) (by decide)))
  have F93_q_deadline := F73_q_deadline.other W83 (Or.inl (Ne.symm ne_t_q))
  have F94_q_place := F74_q_place.other W83 (Or.inl (Ne.symm ne_t_q))
  have F95_q_next := F75_q_next.other W83 (Or.inl (Ne.symm ne_t_q))
  have F96_q_previous := F76_q_previous.other W83 (Or.inl (Ne.symm ne_t_q))
  have E97_w := E77_w.wr W83
  have E98_t := E78_t.wr W83
  have E99_q := E79_q.wr W83
  have B100_sa := B80_sa.other W83 ne_sa_t
  have B101_oa := B81_oa.other W83 ne_oa_t
  have Z102 := Nat.le_trans Z82 (Keep.of_wr W83).1
  exact s_ret k83 d8_159 rfl hP (by decide) (by decide) ⟨rfl, ⟨E97_w, F84_w_slots, F85_w_occupied, F86_w_overflow, F87_w_overflowEvent, F88_w_elapsed, B100_sa, B101_oa⟩, ⟨E98_t, F89_t_deadline, F90_t_place, F91_t_next, F92_t_previous⟩, ⟨E99_q, F93_q_deadline, F94_q_place, F95_q_next, F96_q_previous⟩⟩
theorem pn_8_remSh : plainFor (⟨"com/example/gull/gull/TimerWheel", "remove", "(Lcom/example/gull/gull/TimerWheel$Timer;)V"⟩ : MethodName) = true := plainFor_of_name (by first | (simp [plainName, overriddenIn]; done) | decide +kernel)
theorem ef_remSh {w : Addr} {t : Addr} (m : MethodId) : entryFrame m #[.ref w, .ref t] 2 = mkF m 0 #[.val (.ref w), .val (.ref t)] [] := by first | (simp [entryFrame, mkF, argsToLocals, Value.category]; done) | rfl
set_option maxRecDepth 65536 in
set_option maxHeartbeats 40000000 in
theorem remSh (l : Launch) (Z : State) (a0 : Array Value) (hw : ∀ d ∈ tables_1, d.before a0 Z = true) (w sa oa t q : Addr) (ka ko : ClassId) (el : Int64) (S : Nat → Value) (Oc : Nat → Int64) (oe d dq : Int64) (pq : Int32) (nq vq : Value) (pl : Int32) (pi : Nat)  (h0 : Heap) (n0 : Nat) (Z0 : n0 ≤ h0.size) (Cx : Ctx n0 w sa oa t q) (O_sa : Ovr Z ka "com/example/gull/gull/TimerWheel$Timer") (HW : Whl Z h0 w sa oa ka ko S Oc .null oe el) (HT : Tmr Z h0 t d pl (.ref q) .null) (HQ : Tmr Z h0 q dq pq nq vq) (hm1 : ¬ pl = (-1 : Int32)) (hm2 : ¬ pl = (-2 : Int32)) (hpn : ¬ pl < 0) (hpi : pl.toNatClampNeg = pi) (hp3 : pi < 320)  :
    Met l Z (⟨"com/example/gull/gull/TimerWheel", "remove", "(Lcom/example/gull/gull/TimerWheel$Timer;)V"⟩ : MethodName) prog_30_method_3_code 2 none ({ frames := 0, cells := 0, slots := 0, locals := 0 } : Room) n0 #[.ref w, .ref t] h0 (fun v h => v = none ∧ Whl Z h w sa oa ka ko (upd S pi (.ref q)) Oc .null (9223372036854775807 : Int64) el ∧ Tmr Z h t d (-1 : Int32) .null .null ∧ Tmr Z h q dq pq nq .null) := by
  refine Met.of (Ls := #[.val (.ref w), .val (.ref t)]) pn_8_remSh (fun m => ef_remSh m) fun p e s m below meth c T0 P hP k0 => ?_
  obtain ⟨⟨g_w, g_sa, g_oa, g_t, g_q⟩, ne_w_sa, ne_w_oa, ne_w_t, ne_w_q, ne_sa_oa, ne_sa_t, ne_sa_q, ne_oa_t, ne_oa_q, ne_t_q⟩ := Cx
  obtain ⟨E_w, F_w_sl, F_w_oc, F_w_ov, F_w_oe, F_w_el, B_sa, B_oa⟩ := HW
  obtain ⟨E_t, F_t_d, F_t_p, F_t_n, F_t_v⟩ := HT
  obtain ⟨E_q, F_q_d, F_q_p, F_q_n, F_q_v⟩ := HQ
  refine s_aloadN k0 d8_0 rfl rfl (pc' := 1) rfl ?_
  refine s_getR k0 d8_1 (hw _ (List.mem_of_getElem? (i := 52) rfl)) Via.refl F_t_p (pc' := 4) rfl ?_
  refine s_iconst k0 (z := -1) d8_4 (by decide) (pc' := 5) rfl ?_
  refine s_icmp_ne k0 d8_5 (by decide) (pc' := 9) (by decide) (pc3 := 8) rfl (fun hc5 => absurd hc5 hm1) (fun hc5 => ?_)
  refine s_aloadN k0 d8_9 rfl rfl (pc' := 10) rfl ?_
  refine s_getR k0 d8_10 (hw _ (List.mem_of_getElem? (i := 61) rfl)) Via.refl F_t_v (pc' := 13) rfl ?_
  refine s_nullY k0 d8_13 (by decide) (pc' := 30) (by decide) ?_
  refine s_aloadN k0 d8_30 rfl rfl (pc' := 31) rfl ?_
  refine s_getR k0 d8_31 (hw _ (List.mem_of_getElem? (i := 52) rfl)) Via.refl F_t_p (pc' := 34) rfl ?_
  refine s_bipush k0 (z := -2) d8_34 (by decide) (pc' := 36) rfl ?_
  refine s_icmp_ne k0 d8_36 (by decide) (pc' := 50) (by decide) (pc3 := 39) rfl (fun hc36 => absurd hc36 hm2) (fun hc36 => ?_)
  refine s_aloadN k0 d8_50 rfl rfl (pc' := 51) rfl ?_
  refine s_get k0 d8_51 (host := "") (Or.inl (hw _ (List.mem_of_getElem? (i := 16) rfl))) Via.refl F_w_sl (pc' := 54) rfl fun T1 k1 => ?_
  refine s_aloadN k1 d8_54 rfl rfl (pc' := 55) rfl ?_
  refine s_getR k1 d8_55 (hw _ (List.mem_of_getElem? (i := 52) rfl)) Via.refl F_t_p (pc' := 58) rfl ?_
  refine s_aloadN k1 d8_58 rfl rfl (pc' := 59) rfl ?_
  refine s_getR k1 d8_59 (hw _ (List.mem_of_getElem? (i := 53) rfl)) Via.refl F_t_n (pc' := 62) rfl ?_
  refine s_aastoreF k1 (i := pi) d8_62 B_sa hpn hpi hp3 O_sa (Or.inr ⟨_, rfl, (Ins.self E_q)⟩) g_sa (pc' := 63) rfl fun T2 h2 L2 k2 W2 B2 => ?_
  have F3_w_slots := F_w_sl.other W2 (Or.inl ne_w_sa)
  have F4_w_occupied := F_w_oc.other W2 (Or.inl ne_w_sa)
  have F5_w_overflow := F_w_ov.other W2 (Or.inl ne_w_sa)
  have F6_w_overflowEvent := F_w_oe.other W2 (Or.inl ne_w_sa)
  have F7_w_elapsed := F_w_el.other W2 (Or.inl ne_w_sa)
  have F8_t_deadline := F_t_d.other W2 (Or.inl (Ne.symm ne_sa_t))
  have F9_t_place := F_t_p.other W2 (Or.inl (Ne.symm ne_sa_t))
  have F10_t_next := F_t_n.other W2 (Or.inl (Ne.symm ne_sa_t))
  have F11_t_previous := F_t_v.other W2 (Or.inl (Ne.symm ne_sa_t))
  have F12_q_deadline := F_q_d.other W2 (Or.inl (Ne.symm ne_sa_q))
  have F13_q_place := F_q_p.other W2 (Or.inl (Ne.symm ne_sa_q))
  have F14_q_next := F_q_n.other W2 (Or.inl (Ne.symm ne_sa_q))
  have F15_q_previous := F_q_v.other W2 (Or.inl (Ne.symm ne_sa_q))
  have E16_w := E_w.wr W2
  have E17_t := E_t.wr W2
  have E18_q := E_q.wr W2
  have B19_oa := B_oa.other W2 (Ne.symm ne_sa_oa)
  have Z20 := Nat.le_trans Z0 (Keep.of_wr W2).1
  refine s_aloadN k2 d8_63 rfl rfl (pc' := 64) rfl ?_
  refine s_getR k2 d8_64 (hw _ (List.mem_of_getElem? (i := 53) rfl)) Via.refl F10_t_next (pc' := 67) rfl ?_
  refine s_nullN k2 d8_67 (pc' := 70) rfl ?_
  refine s_aloadN k2 d8_70 rfl rfl (pc' := 71) rfl ?_
  refine s_getR k2 d8_71 (hw _ (List.mem_of_getElem? (i := 53) rfl)) Via.refl F10_t_next (pc' := 74) rfl ?_
  refine s_aloadN k2 d8_74 rfl rfl (pc' := 75) rfl ?_
  refine s_getR k2 d8_75 (hw _ (List.mem_of_getElem? (i := 61) rfl)) Via.refl F11_t_previous (pc' := 78) rfl ?_
  refine s_putR k2 d8_78 (hw _ (List.mem_of_getElem? (i := 61) rfl)) Via.refl F15_q_previous E18_q (hw _ (List.mem_of_getElem? (i := 62) rfl)) (hw _ (List.mem_of_getElem? (i := 27) rfl)) (ty := (.object "com/example/gull/gull/TimerWheel$Timer")) (by decide) rfl rfl g_q (pc' := 81) rfl fun T21 h21 L21 k21 W21 => ?_
  have F22_w_slots := F3_w_slots.other W21 (Or.inl ne_w_q)
  have F23_w_occupied := F4_w_occupied.other W21 (Or.inl ne_w_q)
  have F24_w_overflow := F5_w_overflow.other W21 (Or.inl ne_w_q)
  have F25_w_overflowEvent := F6_w_overflowEvent.other W21 (Or.inl ne_w_q)
  have F26_w_elapsed := F7_w_elapsed.other W21 (Or.inl ne_w_q)
  have F27_t_deadline := F8_t_deadline.other W21 (Or.inl ne_t_q)
  have F28_t_place := F9_t_place.other W21 (Or.inl ne_t_q)
  have F29_t_next := F10_t_next.other W21 (Or.inl ne_t_q)
  have F30_t_previous := F11_t_previous.other W21 (Or.inl ne_t_q)
  have F31_q_deadline := F12_q_deadline.other W21 (Or.inr (slot_ne (Or.inr (hw _ (List.mem_of_getElem? (i := 36) rfl))) (Or.inl (hw _ (List.mem_of_getElem? (i := 62) rfl))) (by decide) (t := .long) (t' := (.object "com/example/gull/gull/TimerWheel$Timer")) (by decide) (by decide)))
  have F32_q_place := F13_q_place.other W21 (Or.inr (slot_ne (Or.inl (hw _ (List.mem_of_getElem? (i := 34) rfl))) (Or.inl (hw _ (List.mem_of_getElem? (i := 62) rfl))) (by decide) (t := .int) (t' := (.object "com/example/gull/gull/TimerWheel$Timer")) (by decide) (by decide)))
  have F33_q_next := F14_q_next.other W21 (Or.inr (slot_ne (Or.inl (hw _ (List.mem_of_getElem? (i := 54) rfl))) (Or.inl (hw _ (List.mem_of_getElem? (i := 62) rfl))) (by decide) (t := (.object "com/example/gull/gull/TimerWheel$Timer")) (t' := (.object "com/example/gull/gull/TimerWheel$Timer")) (by decide) (by decide)))
  have F34_q_previous := F15_q_previous.same W21
  have E35_w := E16_w.wr W21
  have E36_t := E17_t.wr W21
  have E37_q := E18_q.wr W21
  have B38_sa := B2.other W21 ne_sa_q
  have B39_oa := B19_oa.other W21 ne_oa_q
  have Z40 := Nat.le_trans Z20 (Keep.of_wr W21).1
  refine s_aloadN k21 d8_81 rfl rfl (pc' := 82) rfl ?_
  refine s_get k21 d8_82 (host := "") (Or.inl (hw _ (List.mem_of_getElem? (i := 63) rfl))) Via.refl F24_w_overflow (pc' := 85) rfl fun T41 k41 => ?_
  refine s_nonnullN k41 d8_85 (pc' := 88) rfl ?_
  refine s_aloadN k41 d8_88 rfl rfl (pc' := 89) rfl ?_
  refine s_ldcL k41 d8_89 (hw _ (List.mem_of_getElem? (i := 21) rfl)) (pc' := 92) rfl ?_
  refine s_put k41 d8_92 (host := "") (Or.inl (hw _ (List.mem_of_getElem? (i := 22) rfl))) Via.refl F25_w_overflowEvent E35_w (Or.inl (hw _ (List.mem_of_getElem? (i := 23) rfl))) (hw _ (List.mem_of_getElem? (i := 6) rfl)) (ty := .long) (by decide) rfl rfl g_w (pc' := 95) rfl fun T42 h42 L42 k42 W42 => ?_
  have F43_w_slots := F22_w_slots.other W42 (Or.inr (slot_ne (Or.inr (hw _ (List.mem_of_getElem? (i := 17) rfl))) (Or.inl (hw _ (List.mem_of_getElem? (i := 23) rfl))) (by decide) (t := (.array (.object "com/example/gull/gull/TimerWheel$Timer"))) (t' := .long) (by decide) (by decide)))
  have F44_w_occupied := F23_w_occupied.other W42 (Or.inr (slot_ne (Or.inr (hw _ (List.mem_of_getElem? (i := 20) rfl))) (Or.inl (hw _ (List.mem_of_getElem? (i := 23) rfl))) (by decide) (t := (.array .long)) (t' := .long) (by decide) (by decide)))
  have F45_w_overflow := F24_w_overflow.other W42 (Or.inr (slot_ne (Or.inl (hw _ (List.mem_of_getElem? (i := 64) rfl))) (Or.inl (hw _ (List.mem_of_getElem? (i := 23) rfl))) (by decide) (t := (.object "com/example/gull/gull/TimerWheel$Timer")) (t' := .long) (by decide) (by decide)))
  have F46_w_overflowEvent := F25_w_overflowEvent.same W42
  have F47_w_elapsed := F26_w_elapsed.other W42 (Or.inr (slot_ne (Or.inl (hw _ (List.mem_of_getElem? (i := 25) rfl))) (Or.inl (hw _ (List.mem_of_getElem? (i := 23) rfl))) (by decide) (t := .long) (t' := .long) (by decide) (by decide)))
  have F48_t_deadline := F27_t_deadline.other W42 (Or.inl (Ne.symm ne_w_t))
  have F49_t_place := F28_t_place.other W42 (Or.inl (Ne.symm ne_w_t))
  have F50_t_next := F29_t_next.other W42 (Or.inl (Ne.symm ne_w_t))
  have F51_t_previous := F30_t_previous.other W42 (Or.inl (Ne.symm ne_w_t))
  have F52_q_deadline := F31_q_deadline.other W42 (Or.inl (Ne.symm ne_w_q))
  have F53_q_place := F32_q_place.other W42 (Or.inl (Ne.symm ne_w_q))
  have F54_q_next := F33_q_next.other W42 (Or.inl (Ne.symm ne_w_q))
  have F55_q_previous := F34_q_previous.other W42 (Or.inl (Ne.symm ne_w_q))
  have E56_w := E35_w.wr W42
  have E57_t := E36_t.wr W42
  have E58_q := E37_q.wr W42
  have B59_sa := B38_sa.other W42 (Ne.symm ne_w_sa)
  have B60_oa := B39_oa.other W42 (Ne.symm ne_w_oa)
  have Z61 := Nat.le_trans Z40 (Keep.of_wr W42).1
  refine s_aloadN k42 d8_95 rfl rfl (pc' := 96) rfl ?_
  refine s_getR k42 d8_96 (hw _ (List.mem_of_getElem? (i := 52) rfl)) Via.refl F49_t_place (pc' := 99) rfl ?_
  refine s_bipush k42 (z := -2) d8_99 (by decide) (pc' := 101) rfl ?_
  refine s_icmp_eq k42 d8_101 (by decide) (pc' := 144) (by decide) (pc3 := 104) rfl (fun hc101 => absurd hc101 hm2) (fun hc101 => ?_)
  refine s_aloadN k42 d8_104 rfl rfl (pc' := 105) rfl ?_
  refine s_get k42 d8_105 (host := "") (Or.inl (hw _ (List.mem_of_getElem? (i := 16) rfl))) Via.refl F43_w_slots (pc' := 108) rfl fun T62 k62 => ?_
  refine s_aloadN k62 d8_108 rfl rfl (pc' := 109) rfl ?_
  refine s_getR k62 d8_109 (hw _ (List.mem_of_getElem? (i := 52) rfl)) Via.refl F49_t_place (pc' := 112) rfl ?_
  refine s_aaloadF k62 (i := pi) d8_112 B59_sa rfl hpn hpi hp3 (upd_same _ _ _) (pc' := 113) rfl ?_
  refine s_nonnullY k62 d8_113 (by decide) (pc' := 144) (by decide) ?_
  refine s_aloadN k62 d8_144 rfl rfl (pc' := 145) rfl ?_
  refine s_iconst k62 (z := -1) d8_145 (by decide) (pc' := 146) rfl ?_
  refine s_putR k62 d8_146 (hw _ (List.mem_of_getElem? (i := 52) rfl)) Via.refl F49_t_place E57_t (hw _ (List.mem_of_getElem? (i := 34) rfl)) (hw _ (List.mem_of_getElem? (i := 27) rfl)) (ty := .int) (by decide) rfl rfl g_t (pc' := 149) rfl fun T63 h63 L63 k63 W63 => ?_
  have F64_w_slots := F43_w_slots.other W63 (Or.inl ne_w_t)
  have F65_w_occupied := F44_w_occupied.other W63 (Or.inl ne_w_t)
  have F66_w_overflow := F45_w_overflow.other W63 (Or.inl ne_w_t)
  have F67_w_overflowEvent := F46_w_overflowEvent.other W63 (Or.inl ne_w_t)
  have F68_w_elapsed := F47_w_elapsed.other W63 (Or.inl ne_w_t)
  have F69_t_deadline := F48_t_deadline.other W63 (Or.inr (slot_ne (Or.inr (hw _ (List.mem_of_getElem? (i := 36) rfl))) (Or.inl (hw _ (List.mem_of_getElem? (i := 34) rfl))) (by decide) (t := .long) (t' := .int) (by decide) (by decide)))
  have F70_t_place := F49_t_place.same W63
  have F71_t_next := F50_t_next.other W63 (Or.inr (slot_ne (Or.inl (hw _ (List.mem_of_getElem? (i := 54) rfl))) (Or.inl (hw _ (List.mem_of_getElem? (i := 34) rfl))) (by decide) (t := (.object "com/example/gull/gull/TimerWheel$Timer")) (t' := .int) (by decide) (by decide)))
  have F72_t_previous := F51_t_previous.other W63 (Or.inr (slot_ne (Or.inl (hw _ (List.mem_of_getElem? (i := 62) rfl))) (Or.inl (hw _ (List.mem_of_getElem? (i := 34) rfl))) (by decide) (t := (.object "com/example/gull/gull/TimerWheel$Timer")) (t' := .int) (by decide) (by decide)))
  have F73_q_deadline := F52_q_deadline.other W63 (Or.inl (Ne.symm ne_t_q))
  have F74_q_place := F53_q_place.other W63 (Or.inl (Ne.symm ne_t_q))
  have F75_q_next := F54_q_next.other W63 (Or.inl (Ne.symm ne_t_q))
  have F76_q_previous := F55_q_previous.other W63 (Or.inl (Ne.symm ne_t_q))
  have E77_w := E56_w.wr W63
  have E78_t := E57_t.wr W63
  have E79_q := E58_q.wr W63
  have B80_sa := B59_sa.other W63 ne_sa_t
  have B81_oa := B60_oa.other W63 ne_oa_t
  have Z82 := Nat.le_trans Z61 (Keep.of_wr W63).1
  refine s_aloadN k63 d8_149 rfl rfl (pc' := 150) rfl ?_
  refine s_null k63 d8_150 (pc' := 151) rfl ?_
  refine s_putR k63 d8_151 (hw _ (List.mem_of_getElem? (i := 61) rfl)) Via.refl F72_t_previous E78_t (hw _ (List.mem_of_getElem? (i := 62) rfl)) (hw _ (List.mem_of_getElem? (i := 27) rfl)) (ty := (.object "com/example/gull/gull/TimerWheel$Timer")) (by decide) rfl rfl g_t (pc' := 154) rfl fun T83 h83 L83 k83 W83 => ?_
  have F84_w_slots := F64_w_slots.other W83 (Or.inl ne_w_t)
  have F85_w_occupied := F65_w_occupied.other W83 (Or.inl ne_w_t)
  have F86_w_overflow := F66_w_overflow.other W83 (Or.inl ne_w_t)
  have F87_w_overflowEvent := F67_w_overflowEvent.other W83 (Or.inl ne_w_t)
  have F88_w_elapsed := F68_w_elapsed.other W83 (Or.inl ne_w_t)
  have F89_t_deadline := F69_t_deadline.other W83 (Or.inr (slot_ne (Or.inr (hw _ (List.mem_of_getElem? (i := 36) rfl))) (Or.inl (hw _ (List.mem_of_getElem? (i := 62) rfl))) (by decide) (t := .long) (t' := (.object "com/example/gull/gull/TimerWheel$Timer")) (by decide) (by decide)))
  have F90_t_place := F70_t_place.other W83 (Or.inr (slot_ne (Or.inl (hw _ (List.mem_of_getElem? (i := 34) rfl))) (Or.inl (hw _ (List.mem_of_getElem? (i := 62) rfl))) (by decide) (t := .int) (t' := (.object "com/example/gull/gull/TimerWheel$Timer")) (by decide) (by decide)))
  have F91_t_next := F71_t_next.other W83 (Or.inr (slot_ne (Or.inl (hw _ (List.mem_of_getElem? (i := 54) rfl))) (Or.inl (hw _ (List.mem_of_getElem? (i := 62) rfl))) (by decide) (t := (.object "com/example/gull/gull/TimerWheel$Timer")) (t' := (.object "com/example/gull/gull/TimerWheel$Timer")) (by decide) (by decide)))
  have F92_t_previous := F72_t_previous.same W83
  have F93_q_deadline := F73_q_deadline.other W83 (Or.inl (Ne.symm ne_t_q))
  have F94_q_place := F74_q_place.other W83 (Or.inl (Ne.symm ne_t_q))
  have F95_q_next := F75_q_next.other W83 (Or.inl (Ne.symm ne_t_q))
  have F96_q_previous := F76_q_previous.other W83 (Or.inl (Ne.symm ne_t_q))
  have E97_w := E77_w.wr W83
  have E98_t := E78_t.wr W83
  have E99_q := E79_q.wr W83
  have B100_sa := B80_sa.other W83 ne_sa_t
  have B101_oa := B81_oa.other W83 ne_oa_t
  have Z102 := Nat.le_trans Z82 (Keep.of_wr W83).1
  refine s_aloadN k83 d8_154 rfl rfl (pc' := 155) rfl ?_
  refine s_null k83 d8_155 (pc' := 156) rfl ?_
  refine s_putR k83 d8_156 (hw _ (List.mem_of_getElem? (i := 53) rfl)) Via.refl F91_t_next E98_t (hw _ (List.mem_of_getElem? (i := 54) rfl)) (hw _ (List.mem_of_getElem? (i := 27) rfl)) (ty := (.object "com/example/gull/gull/TimerWheel$Timer")) (by decide) rfl rfl g_t (pc' := 159) rfl fun T103 h103 L103 k103 W103 => ?_
  have F104_w_slots := F84_w_slots.other W103 (Or.inl ne_w_t)
  have F105_w_occupied := F85_w_occupied.other W103 (Or.inl ne_w_t)
  have F106_w_overflow := F86_w_overflow.other W103 (Or.inl ne_w_t)
  have F107_w_overflowEvent := F87_w_overflowEvent.other W103 (Or.inl ne_w_t)
  have F108_w_elapsed := F88_w_elapsed.other W103 (Or.inl ne_w_t)
  have F109_t_deadline := F89_t_deadline.other W103 (Or.inr (slot_ne (Or.inr (hw _ (List.mem_of_getElem? (i := 36) rfl))) (Or.inl (hw _ (List.mem_of_getElem? (i := 54) rfl))) (by decide) (t := .long) (t' := (.object "com/example/gull/gull/TimerWheel$Timer")) (by decide) (by decide)))
  have F110_t_place := F90_t_place.other W103 (Or.inr (slot_ne (Or.inl (hw _ (List.mem_of_getElem? (i := 34) rfl))) (Or.inl (hw _ (List.mem_of_getElem? (i := 54) rfl))) (by decide) (t := .int) (t' := (.object "com/example/gull/gull/TimerWheel$Timer")) (by decide) (by decide)))
  have F111_t_next := F91_t_next.same W103
  have F112_t_previous := F92_t_previous.other W103 (Or.inr (slot_ne (Or.inl (hw _ (List.mem_of_getElem? (i := 62) rfl))) (Or.inl (hw _ (List.mem_of_getElem? (i := 54) rfl))) (by decide) (t := (.object "com/example/gull/gull/TimerWheel$Timer")) (t' := (.object "com/example/gull/gull/TimerWheel$Timer")) (by decide) (by decide)))
  have F113_q_deadline := F93_q_deadline.other W103 (Or.inl (Ne.symm ne_t_q))
  have F114_q_place := F94_q_place.other W103 (Or.inl (Ne.symm ne_t_q))
  have F115_q_next := F95_q_next.other W103 (Or.inl (Ne.symm ne_t_q))
  have F116_q_previous := F96_q_previous.other W103 (Or.inl (Ne.symm ne_t_q))
  have E117_w := E97_w.wr W103
  have E118_t := E98_t.wr W103
  have E119_q := E99_q.wr W103
  have B120_sa := B100_sa.other W103 ne_sa_t
  have B121_oa := B101_oa.other W103 ne_oa_t
  have Z122 := Nat.le_trans Z102 (Keep.of_wr W103).1
  exact s_ret k103 d8_159 rfl hP (by decide) (by decide) ⟨rfl, ⟨E117_w, F104_w_slots, F105_w_occupied, F106_w_overflow, F107_w_overflowEvent, F108_w_elapsed, B120_sa, B121_oa⟩, ⟨E118_t, F109_t_deadline, F110_t_place, F111_t_next, F112_t_previous⟩, ⟨E119_q, F113_q_deadline, F114_q_place, F115_q_next, F116_q_previous⟩⟩
theorem pn_8_remSt : plainFor (⟨"com/example/gull/gull/TimerWheel", "remove", "(Lcom/example/gull/gull/TimerWheel$Timer;)V"⟩ : MethodName) = true := plainFor_of_name (by first | (simp [plainName, overriddenIn]; done) | decide +kernel)
theorem ef_remSt {w : Addr} {t : Addr} (m : MethodId) : entryFrame m #[.ref w, .ref t] 2 = mkF m 0 #[.val (.ref w), .val (.ref t)] [] := by first | (simp [entryFrame, mkF, argsToLocals, Value.category]; done) | rfl
set_option maxRecDepth 65536 in
set_option maxHeartbeats 40000000 in
theorem remSt (l : Launch) (Z : State) (a0 : Array Value) (hw : ∀ d ∈ tables_1, d.before a0 Z = true) (w sa oa t q : Addr) (ka ko : ClassId) (el : Int64) (S : Nat → Value) (Oc : Nat → Int64) (oe d dq : Int64) (pq : Int32) (nq vq : Value) (pl : Int32) (pi : Nat)  (h0 : Heap) (n0 : Nat) (Z0 : n0 ≤ h0.size) (Cx : Ctx n0 w sa oa t q) (O_sa : Ovr Z ka "com/example/gull/gull/TimerWheel$Timer") (HW : Whl Z h0 w sa oa ka ko S Oc .null oe el) (HT : Tmr Z h0 t d pl .null (.ref q)) (HQ : Tmr Z h0 q dq pq nq vq) (hm1 : ¬ pl = (-1 : Int32)) (hm2 : ¬ pl = (-2 : Int32)) (hpn : ¬ pl < 0) (hpi : pl.toNatClampNeg = pi) (hp3 : pi < 320) (hS : S pi = .ref q) :
    Met l Z (⟨"com/example/gull/gull/TimerWheel", "remove", "(Lcom/example/gull/gull/TimerWheel$Timer;)V"⟩ : MethodName) prog_30_method_3_code 2 none ({ frames := 0, cells := 0, slots := 0, locals := 0 } : Room) n0 #[.ref w, .ref t] h0 (fun v h => v = none ∧ Whl Z h w sa oa ka ko S Oc .null (9223372036854775807 : Int64) el ∧ Tmr Z h t d (-1 : Int32) .null .null ∧ Tmr Z h q dq pq .null vq) := by
  refine Met.of (Ls := #[.val (.ref w), .val (.ref t)]) pn_8_remSt (fun m => ef_remSt m) fun p e s m below meth c T0 P hP k0 => ?_
  obtain ⟨⟨g_w, g_sa, g_oa, g_t, g_q⟩, ne_w_sa, ne_w_oa, ne_w_t, ne_w_q, ne_sa_oa, ne_sa_t, ne_sa_q, ne_oa_t, ne_oa_q, ne_t_q⟩ := Cx
  obtain ⟨E_w, F_w_sl, F_w_oc, F_w_ov, F_w_oe, F_w_el, B_sa, B_oa⟩ := HW
  obtain ⟨E_t, F_t_d, F_t_p, F_t_n, F_t_v⟩ := HT
  obtain ⟨E_q, F_q_d, F_q_p, F_q_n, F_q_v⟩ := HQ
  refine s_aloadN k0 d8_0 rfl rfl (pc' := 1) rfl ?_
  refine s_getR k0 d8_1 (hw _ (List.mem_of_getElem? (i := 52) rfl)) Via.refl F_t_p (pc' := 4) rfl ?_
  refine s_iconst k0 (z := -1) d8_4 (by decide) (pc' := 5) rfl ?_
  refine s_icmp_ne k0 d8_5 (by decide) (pc' := 9) (by decide) (pc3 := 8) rfl (fun hc5 => absurd hc5 hm1) (fun hc5 => ?_)
  refine s_aloadN k0 d8_9 rfl rfl (pc' := 10) rfl ?_
  refine s_getR k0 d8_10 (hw _ (List.mem_of_getElem? (i := 61) rfl)) Via.refl F_t_v (pc' := 13) rfl ?_
  refine s_nullN k0 d8_13 (pc' := 16) rfl ?_
  refine s_aloadN k0 d8_16 rfl rfl (pc' := 17) rfl ?_
  refine s_getR k0 d8_17 (hw _ (List.mem_of_getElem? (i := 61) rfl)) Via.refl F_t_v (pc' := 20) rfl ?_
  refine s_aloadN k0 d8_20 rfl rfl (pc' := 21) rfl ?_
  refine s_getR k0 d8_21 (hw _ (List.mem_of_getElem? (i := 53) rfl)) Via.refl F_t_n (pc' := 24) rfl ?_
  refine s_putR k0 d8_24 (hw _ (List.mem_of_getElem? (i := 53) rfl)) Via.refl F_q_n E_q (hw _ (List.mem_of_getElem? (i := 54) rfl)) (hw _ (List.mem_of_getElem? (i := 27) rfl)) (ty := (.object "com/example/gull/gull/TimerWheel$Timer")) (by decide) rfl rfl g_q (pc' := 27) rfl fun T1 h1 L1 k1 W1 => ?_
  have F2_w_slots := F_w_sl.other W1 (Or.inl ne_w_q)
  have F3_w_occupied := F_w_oc.other W1 (Or.inl ne_w_q)
  have F4_w_overflow := F_w_ov.other W1 (Or.inl ne_w_q)
  have F5_w_overflowEvent := F_w_oe.other W1 (Or.inl ne_w_q)
  have F6_w_elapsed := F_w_el.other W1 (Or.inl ne_w_q)
  have F7_t_deadline := F_t_d.other W1 (Or.inl ne_t_q)
  have F8_t_place := F_t_p.other W1 (Or.inl ne_t_q)
  have F9_t_next := F_t_n.other W1 (Or.inl ne_t_q)
  have F10_t_previous := F_t_v.other W1 (Or.inl ne_t_q)
  have F11_q_deadline := F_q_d.other W1 (Or.inr (slot_ne (Or.inr (hw _ (List.mem_of_getElem? (i := 36) rfl))) (Or.inl (hw _ (List.mem_of_getElem? (i := 54) rfl))) (by decide) (t := .long) (t' := (.object "com/example/gull/gull/TimerWheel$Timer")) (by decide) (by decide)))
  have F12_q_place := F_q_p.other W1 (Or.inr (slot_ne (Or.inl (hw _ (List.mem_of_getElem? (i := 34) rfl))) (Or.inl (hw _ (List.mem_of_getElem? (i := 54) rfl))) (by decide) (t := .int) (t' := (.object "com/example/gull/gull/TimerWheel$Timer")) (by decide) (by decide)))
  have F13_q_next := F_q_n.same W1
  have F14_q_previous := F_q_v.other W1 (Or.inr (slot_ne (Or.inl (hw _ (List.mem_of_getElem? (i := 62) rfl))) (Or.inl (hw _ (List.mem_of_getElem? (i := 54) rfl))) (by decide) (t := (.object "com/example/gull/gull/TimerWheel$Timer")) (t' := (.object "com/example/gull/gull/TimerWheel$Timer")) (by decide) (by decide)))
  have E15_w := E_w.wr W1
  have E16_t := E_t.wr W1
  have E17_q := E_q.wr W1
  have B18_sa := B_sa.other W1 ne_sa_q
  have B19_oa := B_oa.other W1 ne_oa_q
  have Z20 := Nat.le_trans Z0 (Keep.of_wr W1).1
  refine s_goto k1 d8_27 (by decide) (pc' := 63) (by decide) ?_
  refine s_aloadN k1 d8_63 rfl rfl (pc' := 64) rfl ?_
  refine s_getR k1 d8_64 (hw _ (List.mem_of_getElem? (i := 53) rfl)) Via.refl F9_t_next (pc' := 67) rfl ?_
  refine s_nullY k1 d8_67 (by decide) (pc' := 81) (by decide) ?_
  refine s_aloadN k1 d8_81 rfl rfl (pc' := 82) rfl ?_
  refine s_get k1 d8_82 (host := "") (Or.inl (hw _ (List.mem_of_getElem? (i := 63) rfl))) Via.refl F4_w_overflow (pc' := 85) rfl fun T21 k21 => ?_
  refine s_nonnullN k21 d8_85 (pc' := 88) rfl ?_
  refine s_aloadN k21 d8_88 rfl rfl (pc' := 89) rfl ?_
  refine s_ldcL k21 d8_89 (hw _ (List.mem_of_getElem? (i := 21) rfl)) (pc' := 92) rfl ?_
  refine s_put k21 d8_92 (host := "") (Or.inl (hw _ (List.mem_of_getElem? (i := 22) rfl))) Via.refl F5_w_overflowEvent E15_w (Or.inl (hw _ (List.mem_of_getElem? (i := 23) rfl))) (hw _ (List.mem_of_getElem? (i := 6) rfl)) (ty := .long) (by decide) rfl rfl g_w (pc' := 95) rfl fun T22 h22 L22 k22 W22 => ?_
  have F23_w_slots := F2_w_slots.other W22 (Or.inr (slot_ne (Or.inr (hw _ (List.mem_of_getElem? (i := 17) rfl))) (Or.inl (hw _ (List.mem_of_getElem? (i := 23) rfl))) (by decide) (t := (.array (.object "com/example/gull/gull/TimerWheel$Timer"))) (t' := .long) (by decide) (by decide)))
  have F24_w_occupied := F3_w_occupied.other W22 (Or.inr (slot_ne (Or.inr (hw _ (List.mem_of_getElem? (i := 20) rfl))) (Or.inl (hw _ (List.mem_of_getElem? (i := 23) rfl))) (by decide) (t := (.array .long)) (t' := .long) (by decide) (by decide)))
  have F25_w_overflow := F4_w_overflow.other W22 (Or.inr (slot_ne (Or.inl (hw _ (List.mem_of_getElem? (i := 64) rfl))) (Or.inl (hw _ (List.mem_of_getElem? (i := 23) rfl))) (by decide) (t := (.object "com/example/gull/gull/TimerWheel$Timer")) (t' := .long) (by decide) (by decide)))
  have F26_w_overflowEvent := F5_w_overflowEvent.same W22
  have F27_w_elapsed := F6_w_elapsed.other W22 (Or.inr (slot_ne (Or.inl (hw _ (List.mem_of_getElem? (i := 25) rfl))) (Or.inl (hw _ (List.mem_of_getElem? (i := 23) rfl))) (by decide) (t := .long) (t' := .long) (by decide) (by decide)))
  have F28_t_deadline := F7_t_deadline.other W22 (Or.inl (Ne.symm ne_w_t))
  have F29_t_place := F8_t_place.other W22 (Or.inl (Ne.symm ne_w_t))
  have F30_t_next := F9_t_next.other W22 (Or.inl (Ne.symm ne_w_t))
  have F31_t_previous := F10_t_previous.other W22 (Or.inl (Ne.symm ne_w_t))
  have F32_q_deadline := F11_q_deadline.other W22 (Or.inl (Ne.symm ne_w_q))
  have F33_q_place := F12_q_place.other W22 (Or.inl (Ne.symm ne_w_q))
  have F34_q_next := F13_q_next.other W22 (Or.inl (Ne.symm ne_w_q))
  have F35_q_previous := F14_q_previous.other W22 (Or.inl (Ne.symm ne_w_q))
  have E36_w := E15_w.wr W22
  have E37_t := E16_t.wr W22
  have E38_q := E17_q.wr W22
  have B39_sa := B18_sa.other W22 (Ne.symm ne_w_sa)
  have B40_oa := B19_oa.other W22 (Ne.symm ne_w_oa)
  have Z41 := Nat.le_trans Z20 (Keep.of_wr W22).1
  refine s_aloadN k22 d8_95 rfl rfl (pc' := 96) rfl ?_
  refine s_getR k22 d8_96 (hw _ (List.mem_of_getElem? (i := 52) rfl)) Via.refl F29_t_place (pc' := 99) rfl ?_
  refine s_bipush k22 (z := -2) d8_99 (by decide) (pc' := 101) rfl ?_
  refine s_icmp_eq k22 d8_101 (by decide) (pc' := 144) (by decide) (pc3 := 104) rfl (fun hc101 => absurd hc101 hm2) (fun hc101 => ?_)
  refine s_aloadN k22 d8_104 rfl rfl (pc' := 105) rfl ?_
  refine s_get k22 d8_105 (host := "") (Or.inl (hw _ (List.mem_of_getElem? (i := 16) rfl))) Via.refl F23_w_slots (pc' := 108) rfl fun T42 k42 => ?_
  refine s_aloadN k42 d8_108 rfl rfl (pc' := 109) rfl ?_
  refine s_getR k42 d8_109 (hw _ (List.mem_of_getElem? (i := 52) rfl)) Via.refl F29_t_place (pc' := 112) rfl ?_
  refine s_aaloadF k42 (i := pi) d8_112 B39_sa rfl hpn hpi hp3 hS (pc' := 113) rfl ?_
  refine s_nonnullY k42 d8_113 (by decide) (pc' := 144) (by decide) ?_
  refine s_aloadN k42 d8_144 rfl rfl (pc' := 145) rfl ?_
  refine s_iconst k42 (z := -1) d8_145 (by decide) (pc' := 146) rfl ?_
  refine s_putR k42 d8_146 (hw _ (List.mem_of_getElem? (i := 52) rfl)) Via.refl F29_t_place E37_t (hw _ (List.mem_of_getElem? (i := 34) rfl)) (hw _ (List.mem_of_getElem? (i := 27) rfl)) (ty := .int) (by decide) rfl rfl g_t (pc' := 149) rfl fun T43 h43 L43 k43 W43 => ?_
  have F44_w_slots := F23_w_slots.other W43 (Or.inl ne_w_t)
  have F45_w_occupied := F24_w_occupied.other W43 (Or.inl ne_w_t)
  have F46_w_overflow := F25_w_overflow.other W43 (Or.inl ne_w_t)
  have F47_w_overflowEvent := F26_w_overflowEvent.other W43 (Or.inl ne_w_t)
  have F48_w_elapsed := F27_w_elapsed.other W43 (Or.inl ne_w_t)
  have F49_t_deadline := F28_t_deadline.other W43 (Or.inr (slot_ne (Or.inr (hw _ (List.mem_of_getElem? (i := 36) rfl))) (Or.inl (hw _ (List.mem_of_getElem? (i := 34) rfl))) (by decide) (t := .long) (t' := .int) (by decide) (by decide)))
  have F50_t_place := F29_t_place.same W43
  have F51_t_next := F30_t_next.other W43 (Or.inr (slot_ne (Or.inl (hw _ (List.mem_of_getElem? (i := 54) rfl))) (Or.inl (hw _ (List.mem_of_getElem? (i := 34) rfl))) (by decide) (t := (.object "com/example/gull/gull/TimerWheel$Timer")) (t' := .int) (by decide) (by decide)))
  have F52_t_previous := F31_t_previous.other W43 (Or.inr (slot_ne (Or.inl (hw _ (List.mem_of_getElem? (i := 62) rfl))) (Or.inl (hw _ (List.mem_of_getElem? (i := 34) rfl))) (by decide) (t := (.object "com/example/gull/gull/TimerWheel$Timer")) (t' := .int) (by decide) (by decide)))
  have F53_q_deadline := F32_q_deadline.other W43 (Or.inl (Ne.symm ne_t_q))
  have F54_q_place := F33_q_place.other W43 (Or.inl (Ne.symm ne_t_q))
  have F55_q_next := F34_q_next.other W43 (Or.inl (Ne.symm ne_t_q))
  have F56_q_previous := F35_q_previous.other W43 (Or.inl (Ne.symm ne_t_q))
  have E57_w := E36_w.wr W43
  have E58_t := E37_t.wr W43
  have E59_q := E38_q.wr W43
  have B60_sa := B39_sa.other W43 ne_sa_t
  have B61_oa := B40_oa.other W43 ne_oa_t
  have Z62 := Nat.le_trans Z41 (Keep.of_wr W43).1
  refine s_aloadN k43 d8_149 rfl rfl (pc' := 150) rfl ?_
  refine s_null k43 d8_150 (pc' := 151) rfl ?_
  refine s_putR k43 d8_151 (hw _ (List.mem_of_getElem? (i := 61) rfl)) Via.refl F52_t_previous E58_t (hw _ (List.mem_of_getElem? (i := 62) rfl)) (hw _ (List.mem_of_getElem? (i := 27) rfl)) (ty := (.object "com/example/gull/gull/TimerWheel$Timer")) (by decide) rfl rfl g_t (pc' := 154) rfl fun T63 h63 L63 k63 W63 => ?_
  have F64_w_slots := F44_w_slots.other W63 (Or.inl ne_w_t)
  have F65_w_occupied := F45_w_occupied.other W63 (Or.inl ne_w_t)
  have F66_w_overflow := F46_w_overflow.other W63 (Or.inl ne_w_t)
  have F67_w_overflowEvent := F47_w_overflowEvent.other W63 (Or.inl ne_w_t)
  have F68_w_elapsed := F48_w_elapsed.other W63 (Or.inl ne_w_t)
  have F69_t_deadline := F49_t_deadline.other W63 (Or.inr (slot_ne (Or.inr (hw _ (List.mem_of_getElem? (i := 36) rfl))) (Or.inl (hw _ (List.mem_of_getElem? (i := 62) rfl))) (by decide) (t := .long) (t' := (.object "com/example/gull/gull/TimerWheel$Timer")) (by decide) (by decide)))
  have F70_t_place := F50_t_place.other W63 (Or.inr (slot_ne (Or.inl (hw _ (List.mem_of_getElem? (i := 34) rfl))) (Or.inl (hw _ (List.mem_of_getElem? (i := 62) rfl))) (by decide) (t := .int) (t' := (.object "com/example/gull/gull/TimerWheel$Timer")) (by decide) (by decide)))
  have F71_t_next := F51_t_next.other W63 (Or.inr (slot_ne (Or.inl (hw _ (List.mem_of_getElem? (i := 54) rfl))) (Or.inl (hw _ (List.mem_of_getElem? (i := 62) rfl))) (by decide) (t := (.object "com/example/gull/gull/TimerWheel$Timer")) (t' := (.object "com/example/gull/gull/TimerWheel$Timer")) (by decide) (by decide)))
  have F72_t_previous := F52_t_previous.same W63
  have F73_q_deadline := F53_q_deadline.other W63 (Or.inl (Ne.symm ne_t_q))
  have F74_q_place := F54_q_place.other W63 (Or.inl (Ne.symm ne_t_q))
  have F75_q_next := F55_q_next.other W63 (Or.inl (Ne.symm ne_t_q))
  have F76_q_previous := F56_q_previous.other W63 (Or.inl (Ne.symm ne_t_q))
  have E77_w := E57_w.wr W63
  have E78_t := E58_t.wr W63
  have E79_q := E59_q.wr W63
  have B80_sa := B60_sa.other W63 ne_sa_t
  have B81_oa := B61_oa.other W63 ne_oa_t
  have Z82 := Nat.le_trans Z62 (Keep.of_wr W63).1
  refine s_aloadN k63 d8_154 rfl rfl (pc' := 155) rfl ?_
  refine s_null k63 d8_155 (pc' := 156) rfl ?_
  refine s_putR k63 d8_156 (hw _ (List.mem_of_getElem? (i := 53) rfl)) Via.refl F71_t_next E78_t (hw _ (List.mem_of_getElem? (i := 54) rfl)) (hw _ (List.mem_of_getElem? (i := 27) rfl)) (ty := (.object "com/example/gull/gull/TimerWheel$Timer")) (by decide) rfl rfl g_t (pc' := 159) rfl fun T83 h83 L83 k83 W83 => ?_
  have F84_w_slots := F64_w_slots.other W83 (Or.inl ne_w_t)
  have F85_w_occupied := F65_w_occupied.other W83 (Or.inl ne_w_t)
  have F86_w_overflow := F66_w_overflow.other W83 (Or.inl ne_w_t)
  have F87_w_overflowEvent := F67_w_overflowEvent.other W83 (Or.inl ne_w_t)
  have F88_w_elapsed := F68_w_elapsed.other W83 (Or.inl ne_w_t)
  have F89_t_deadline := F69_t_deadline.other W83 (Or.inr (slot_ne (Or.inr (hw _ (List.mem_of_getElem? (i := 36) rfl))) (Or.inl (hw _ (List.mem_of_getElem? (i := 54) rfl))) (by decide) (t := .long) (t' := (.object "com/example/gull/gull/TimerWheel$Timer")) (by decide) (by decide)))
  have F90_t_place := F70_t_place.other W83 (Or.inr (slot_ne (Or.inl (hw _ (List.mem_of_getElem? (i := 34) rfl))) (Or.inl (hw _ (List.mem_of_getElem? (i := 54) rfl))) (by decide) (t := .int) (t' := (.object "com/example/gull/gull/TimerWheel$Timer")) (by decide) (by decide)))
  have F91_t_next := F71_t_next.same W83
  have F92_t_previous := F72_t_previous.other W83 (Or.inr (slot_ne (Or.inl (hw _ (List.mem_of_getElem? (i := 62) rfl))) (Or.inl (hw _ (List.mem_of_getElem? (i := 54) rfl))) (by decide) (t := (.object "com/example/gull/gull/TimerWheel$Timer")) (t' := (.object "com/example/gull/gull/TimerWheel$Timer")) (by decide) (by decide)))
  have F93_q_deadline := F73_q_deadline.other W83 (Or.inl (Ne.symm ne_t_q))
  have F94_q_place := F74_q_place.other W83 (Or.inl (Ne.symm ne_t_q))
  have F95_q_next := F75_q_next.other W83 (Or.inl (Ne.symm ne_t_q))
  have F96_q_previous := F76_q_previous.other W83 (Or.inl (Ne.symm ne_t_q))
  have E97_w := E77_w.wr W83
  have E98_t := E78_t.wr W83
  have E99_q := E79_q.wr W83
  have B100_sa := B80_sa.other W83 ne_sa_t
  have B101_oa := B81_oa.other W83 ne_oa_t
  have Z102 := Nat.le_trans Z82 (Keep.of_wr W83).1
  exact s_ret k83 d8_159 rfl hP (by decide) (by decide) ⟨rfl, ⟨E97_w, F84_w_slots, F85_w_occupied, F86_w_overflow, F87_w_overflowEvent, F88_w_elapsed, B100_sa, B101_oa⟩, ⟨E98_t, F89_t_deadline, F90_t_place, F91_t_next, F92_t_previous⟩, ⟨E99_q, F93_q_deadline, F94_q_place, F95_q_next, F96_q_previous⟩⟩
theorem d9_0 : decode prog_31_method_2_code 0 = .ok (.aload_n 0, 1) := by decide +kernel
theorem d9_1 : decode prog_31_method_2_code 1 = .ok (.getfield 9, 3) := by decide +kernel
theorem d9_4 : decode prog_31_method_2_code 4 = .ok (.iconst (-1), 1) := by decide +kernel
theorem d9_5 : decode prog_31_method_2_code 5 = .ok (.if_icmp .eq 7, 3) := by decide +kernel
theorem d9_12 : decode prog_31_method_2_code 12 = .ok (.iconst 0, 1) := by decide +kernel
theorem d9_13 : decode prog_31_method_2_code 13 = .ok (.ireturn, 1) := by decide +kernel
theorem pn_9_rmh0 : plainFor (⟨"com/example/gull/gull/TimerWheel$Timer", "isHeld", "()Z"⟩ : MethodName) = true := plainFor_of_name (by first | (simp [plainName, overriddenIn]; done) | decide +kernel)
theorem ef_rmh0 {t : Addr} (m : MethodId) : entryFrame m #[.ref t] 1 = mkF m 0 #[.val (.ref t)] [] := by first | (simp [entryFrame, mkF, argsToLocals, Value.category]; done) | rfl
set_option maxRecDepth 65536 in
set_option maxHeartbeats 40000000 in
theorem rmh0 (l : Launch) (Z : State) (a0 : Array Value) (hw : ∀ d ∈ tables_1, d.before a0 Z = true) (t : Addr) (pl : Int32) (h0 : Heap) (n0 : Nat) (Z0 : n0 ≤ h0.size) (F_p : Fld Z h0 t "com/example/gull/gull/TimerWheel$Timer" "place" "I" (.int pl)) (hp : pl = (-1 : Int32)) :
    Met l Z (⟨"com/example/gull/gull/TimerWheel$Timer", "isHeld", "()Z"⟩ : MethodName) prog_31_method_2_code 1 (some .boolean) ({ frames := 0, cells := 0, slots := 0, locals := 0 } : Room) n0 #[.ref t] h0 (fun v h => v = some (.int 0) ∧ h0 = h) := by
  refine Met.of (Ls := #[.val (.ref t)]) pn_9_rmh0 (fun m => ef_rmh0 m) fun p e s m below meth c T0 P hP k0 => ?_
  refine s_aloadN k0 d9_0 rfl rfl (pc' := 1) rfl ?_
  refine s_get k0 d9_1 (host := "") (Or.inl (hw _ (List.mem_of_getElem? (i := 33) rfl))) Via.refl F_p (pc' := 4) rfl fun T1 k1 => ?_
  refine s_iconst k1 (z := -1) d9_4 (by decide) (pc' := 5) rfl ?_
  refine s_icmp_eq k1 d9_5 (by decide) (pc' := 12) (by decide) (pc3 := 8) rfl (fun hc5 => ?_) (fun hc5 => absurd hp hc5)
  refine s_iconst k1 (z := 0) d9_12 (by decide) (pc' := 13) rfl ?_
  exact s_retZ k1 d9_13 rfl (by decide) hP (by decide) (by decide) ⟨rfl, rfl⟩
theorem d9_8 : decode prog_31_method_2_code 8 = .ok (.iconst 1, 1) := by decide +kernel
theorem d9_9 : decode prog_31_method_2_code 9 = .ok (.goto 4, 3) := by decide +kernel
theorem pn_9_rmh1 : plainFor (⟨"com/example/gull/gull/TimerWheel$Timer", "isHeld", "()Z"⟩ : MethodName) = true := plainFor_of_name (by first | (simp [plainName, overriddenIn]; done) | decide +kernel)
theorem ef_rmh1 {t : Addr} (m : MethodId) : entryFrame m #[.ref t] 1 = mkF m 0 #[.val (.ref t)] [] := by first | (simp [entryFrame, mkF, argsToLocals, Value.category]; done) | rfl
set_option maxRecDepth 65536 in
set_option maxHeartbeats 40000000 in
theorem rmh1 (l : Launch) (Z : State) (a0 : Array Value) (hw : ∀ d ∈ tables_1, d.before a0 Z = true) (t : Addr) (pl : Int32) (h0 : Heap) (n0 : Nat) (Z0 : n0 ≤ h0.size) (F_p : Fld Z h0 t "com/example/gull/gull/TimerWheel$Timer" "place" "I" (.int pl)) (hp : ¬ pl = (-1 : Int32)) :
    Met l Z (⟨"com/example/gull/gull/TimerWheel$Timer", "isHeld", "()Z"⟩ : MethodName) prog_31_method_2_code 1 (some .boolean) ({ frames := 0, cells := 0, slots := 0, locals := 0 } : Room) n0 #[.ref t] h0 (fun v h => v = some (.int 1) ∧ h0 = h) := by
  refine Met.of (Ls := #[.val (.ref t)]) pn_9_rmh1 (fun m => ef_rmh1 m) fun p e s m below meth c T0 P hP k0 => ?_
  refine s_aloadN k0 d9_0 rfl rfl (pc' := 1) rfl ?_
  refine s_get k0 d9_1 (host := "") (Or.inl (hw _ (List.mem_of_getElem? (i := 33) rfl))) Via.refl F_p (pc' := 4) rfl fun T1 k1 => ?_
  refine s_iconst k1 (z := -1) d9_4 (by decide) (pc' := 5) rfl ?_
  refine s_icmp_eq k1 d9_5 (by decide) (pc' := 12) (by decide) (pc3 := 8) rfl (fun hc5 => absurd hc5 hp) (fun hc5 => ?_)
  refine s_iconst k1 (z := 1) d9_8 (by decide) (pc' := 9) rfl ?_
  refine s_goto k1 d9_9 (by decide) (pc' := 13) (by decide) ?_
  exact s_retZ k1 d9_13 rfl (by decide) hP (by decide) (by decide) ⟨rfl, rfl⟩
theorem d11_0 : decode prog_30_method_6_code 0 = .ok (.iconst 0, 1) := by decide +kernel
theorem d11_1 : decode prog_30_method_6_code 1 = .ok (.istore_n 1, 1) := by decide +kernel
theorem d11_2 : decode prog_30_method_6_code 2 = .ok (.iload_n 1, 1) := by decide +kernel
theorem d11_3 : decode prog_30_method_6_code 3 = .ok (.iconst 5, 1) := by decide +kernel
theorem d11_4 : decode prog_30_method_6_code 4 = .ok (.if_icmp .ge 20, 3) := by decide +kernel
theorem d11_7 : decode prog_30_method_6_code 7 = .ok (.aload_n 0, 1) := by decide +kernel
theorem d11_8 : decode prog_30_method_6_code 8 = .ok (.getfield 17, 3) := by decide +kernel
theorem d11_11 : decode prog_30_method_6_code 11 = .ok (.iload_n 1, 1) := by decide +kernel
theorem d11_12 : decode prog_30_method_6_code 12 = .ok (.laload, 1) := by decide +kernel
theorem d11_13 : decode prog_30_method_6_code 13 = .ok (.lconst 0, 1) := by decide +kernel
theorem d11_14 : decode prog_30_method_6_code 14 = .ok (.lcmp, 1) := by decide +kernel
theorem d11_15 : decode prog_30_method_6_code 15 = .ok (.ifCond .ne 9, 3) := by decide +kernel
theorem d11_24 : decode prog_30_method_6_code 24 = .ok (.iload_n 1, 1) := by decide +kernel
theorem d11_25 : decode prog_30_method_6_code 25 = .ok (.iconst 5, 1) := by decide +kernel
theorem d11_26 : decode prog_30_method_6_code 26 = .ok (.if_icmp .ge 21, 3) := by decide +kernel
theorem d11_29 : decode prog_30_method_6_code 29 = .ok (.iload_n 1, 1) := by decide +kernel
theorem d11_30 : decode prog_30_method_6_code 30 = .ok (.bipush 64, 2) := by decide +kernel
theorem d11_32 : decode prog_30_method_6_code 32 = .ok (.imul, 1) := by decide +kernel
theorem d11_33 : decode prog_30_method_6_code 33 = .ok (.aload_n 0, 1) := by decide +kernel
theorem d11_34 : decode prog_30_method_6_code 34 = .ok (.getfield 17, 3) := by decide +kernel
theorem d11_37 : decode prog_30_method_6_code 37 = .ok (.iload_n 1, 1) := by decide +kernel
theorem d11_38 : decode prog_30_method_6_code 38 = .ok (.laload, 1) := by decide +kernel
theorem d11_39 : decode prog_30_method_6_code 39 = .ok (.invokestatic 81, 3) := by decide +kernel
theorem d11_42 : decode prog_30_method_6_code 42 = .ok (.iadd, 1) := by decide +kernel
theorem d11_43 : decode prog_30_method_6_code 43 = .ok (.istore_n 2, 1) := by decide +kernel
theorem d11_44 : decode prog_30_method_6_code 44 = .ok (.goto 18, 3) := by decide +kernel
theorem d11_62 : decode prog_30_method_6_code 62 = .ok (.iload_n 2, 1) := by decide +kernel
theorem d11_63 : decode prog_30_method_6_code 63 = .ok (.ireturn, 1) := by decide +kernel
theorem pn_11_np0 : plainFor (⟨"com/example/gull/gull/TimerWheel", "nextPlace", "()I"⟩ : MethodName) = true := plainFor_of_name (by first | (simp [plainName, overriddenIn]; done) | decide +kernel)
theorem ef_np0 {w : Addr} (m : MethodId) : entryFrame m #[.ref w] 3 = mkF m 0 #[.val (.ref w), .unset, .unset] [] := by first | (simp [entryFrame, mkF, argsToLocals, Value.category]; done) | rfl
set_option maxRecDepth 65536 in
set_option maxHeartbeats 40000000 in
theorem np0 (l : Launch) (Z : State) (a0 : Array Value) (hw : ∀ d ∈ tables_1, d.before a0 Z = true) (w sa oa t q : Addr) (ka ko : ClassId) (el : Int64) (S : Nat → Value) (Oc : Nat → Int64) (oe d dq : Int64) (p0 pq : Int32) (nt vt nq vq : Value) (ov : Value) (h0 : Heap) (n0 : Nat) (Z0 : n0 ≤ h0.size) (Cx : Ctx n0 w sa oa t q) (O_sa : Ovr Z ka "com/example/gull/gull/TimerWheel$Timer") (HW : Whl Z h0 w sa oa ka ko S Oc ov oe el) (HT : Tmr Z h0 t d p0 nt vt) (HQ : Tmr Z h0 q dq pq nq vq)  (z0 : ¬ Oc 0 = 0) :
    Met l Z (⟨"com/example/gull/gull/TimerWheel", "nextPlace", "()I"⟩ : MethodName) prog_30_method_6_code 3 (some .int) ({ frames := 2, cells := 0, slots := 0, locals := 40 } : Room) n0 #[.ref w] h0 (fun v h => v = some (.int ((0 : Int32) + (fntz (Oc 0)))) ∧ h0 = h) := by
  refine Met.of (Ls := #[.val (.ref w), .unset, .unset]) pn_11_np0 (fun m => ef_np0 m) fun p e s m below meth c T0 P hP k0 => ?_
  obtain ⟨⟨g_w, g_sa, g_oa, g_t, g_q⟩, ne_w_sa, ne_w_oa, ne_w_t, ne_w_q, ne_sa_oa, ne_sa_t, ne_sa_q, ne_oa_t, ne_oa_q, ne_t_q⟩ := Cx
  obtain ⟨E_w, F_w_sl, F_w_oc, F_w_ov, F_w_oe, F_w_el, B_sa, B_oa⟩ := HW
  obtain ⟨E_t, F_t_d, F_t_p, F_t_n, F_t_v⟩ := HT
  obtain ⟨E_q, F_q_d, F_q_p, F_q_n, F_q_v⟩ := HQ
  refine s_iconst k0 (z := 0) d11_0 (by decide) (pc' := 1) rfl ?_
  refine s_istoreN k0 d11_1 (l' := #[.val (.ref w), .val (.int (0 : Int32)), .unset]) rfl (pc' := 2) rfl ?_
  refine s_iloadN k0 d11_2 rfl (pc' := 3) rfl ?_
  refine s_iconst k0 (z := 5) d11_3 (by decide) (pc' := 4) rfl ?_
  refine s_icmp_ge k0 d11_4 (by decide) (pc' := 24) (by decide) (pc3 := 7) rfl (fun hc4 => ?_) (fun hc4 => absurd (by decide) hc4)
  refine s_aloadN k0 d11_7 rfl rfl (pc' := 8) rfl ?_
  refine s_get k0 d11_8 (host := "") (Or.inl (hw _ (List.mem_of_getElem? (i := 19) rfl))) Via.refl F_w_oc (pc' := 11) rfl fun T1 k1 => ?_
  refine s_iloadN k1 d11_11 rfl (pc' := 12) rfl ?_
  refine s_laloadF k1 (i := 0) d11_12 B_oa (by decide) (by decide) (by decide) rfl (pc' := 13) rfl ?_
  refine s_lconst k1 (z := 0) d11_13 (by decide) (pc' := 14) rfl ?_
  refine s_lcmp_ne k1 d11_14 rfl d11_15 (by decide) (pc' := 24) (by decide) (pc3 := 18) rfl (fun hc14 => absurd hc14 z0) (fun hc14 => ?_)
  refine s_iloadN k1 d11_24 rfl (pc' := 25) rfl ?_
  refine s_iconst k1 (z := 5) d11_25 (by decide) (pc' := 26) rfl ?_
  refine s_icmp_ge k1 d11_26 (by decide) (pc' := 47) (by decide) (pc3 := 29) rfl (fun hc26 => ?_) (fun hc26 => absurd (by decide) hc26)
  refine s_iloadN k1 d11_29 rfl (pc' := 30) rfl ?_
  refine s_bipush k1 (z := 64) d11_30 (by decide) (pc' := 32) rfl ?_
  refine s_imul k1 (z := (0 : Int32)) d11_32 (by decide) (pc' := 33) rfl ?_
  refine s_aloadN k1 d11_33 rfl rfl (pc' := 34) rfl ?_
  refine s_get k1 d11_34 (host := "") (Or.inl (hw _ (List.mem_of_getElem? (i := 19) rfl))) Via.refl F_w_oc (pc' := 37) rfl fun T2 k2 => ?_
  refine s_iloadN k2 d11_37 rfl (pc' := 38) rfl ?_
  refine s_laloadF k2 (i := 0) d11_38 B_oa (by decide) (by decide) (by decide) rfl (pc' := 39) rfl ?_
  refine s_callS k2 [.long (Oc 0)] 1 d11_39 (hw _ (List.mem_of_getElem? (i := 90) rfl)) (hw _ (List.mem_of_getElem? (i := 91) rfl)) (hw _ (List.mem_of_getElem? (i := 45) rfl)) (hw _ (List.mem_of_getElem? (i := 92) rfl)) (by decide) (rmntz l Z a0 hw (Oc 0) h0 n0 Z0 ) (by decide) (by decide) pd__28J_29I rfl (Nat.le_of_eq rfl) rfl (by decide) (by decide) rfl (pc' := 42) rfl fun v3 T3 h3 L3 k3 Qv3 => ?_
  obtain ⟨rfl, rfl⟩ := Qv3
  show Go p e below P T3 (mkF m 42 #[.val (.ref w), .val (.int (0 : Int32)), .unset] [.int (fntz (Oc 0)), .int (0 : Int32)])
  refine s_iadd k3 d11_42 rfl (pc' := 43) rfl ?_
  refine s_istoreN k3 d11_43 (l' := #[.val (.ref w), .val (.int (0 : Int32)), .val (.int ((0 : Int32) + (fntz (Oc 0))))]) rfl (pc' := 44) rfl ?_
  refine s_goto k3 d11_44 (by decide) (pc' := 62) (by decide) ?_
  refine s_iloadN k3 d11_62 rfl (pc' := 63) rfl ?_
  exact s_retI k3 d11_63 rfl hP (by decide) (by decide) ⟨rfl, rfl⟩
theorem d11_18 : decode prog_30_method_6_code 18 = .ok (.iinc 1 1, 3) := by decide +kernel
theorem d11_21 : decode prog_30_method_6_code 21 = .ok (.goto (-19), 3) := by decide +kernel
theorem pn_11_np1 : plainFor (⟨"com/example/gull/gull/TimerWheel", "nextPlace", "()I"⟩ : MethodName) = true := plainFor_of_name (by first | (simp [plainName, overriddenIn]; done) | decide +kernel)
theorem ef_np1 {w : Addr} (m : MethodId) : entryFrame m #[.ref w] 3 = mkF m 0 #[.val (.ref w), .unset, .unset] [] := by first | (simp [entryFrame, mkF, argsToLocals, Value.category]; done) | rfl
set_option maxRecDepth 65536 in
set_option maxHeartbeats 40000000 in
theorem np1 (l : Launch) (Z : State) (a0 : Array Value) (hw : ∀ d ∈ tables_1, d.before a0 Z = true) (w sa oa t q : Addr) (ka ko : ClassId) (el : Int64) (S : Nat → Value) (Oc : Nat → Int64) (oe d dq : Int64) (p0 pq : Int32) (nt vt nq vq : Value) (ov : Value) (h0 : Heap) (n0 : Nat) (Z0 : n0 ≤ h0.size) (Cx : Ctx n0 w sa oa t q) (O_sa : Ovr Z ka "com/example/gull/gull/TimerWheel$Timer") (HW : Whl Z h0 w sa oa ka ko S Oc ov oe el) (HT : Tmr Z h0 t d p0 nt vt) (HQ : Tmr Z h0 q dq pq nq vq) (z0 : Oc 0 = 0) (z1 : ¬ Oc 1 = 0) :
    Met l Z (⟨"com/example/gull/gull/TimerWheel", "nextPlace", "()I"⟩ : MethodName) prog_30_method_6_code 3 (some .int) ({ frames := 2, cells := 0, slots := 0, locals := 40 } : Room) n0 #[.ref w] h0 (fun v h => v = some (.int ((64 : Int32) + (fntz (Oc 1)))) ∧ h0 = h) := by
  refine Met.of (Ls := #[.val (.ref w), .unset, .unset]) pn_11_np1 (fun m => ef_np1 m) fun p e s m below meth c T0 P hP k0 => ?_
  obtain ⟨⟨g_w, g_sa, g_oa, g_t, g_q⟩, ne_w_sa, ne_w_oa, ne_w_t, ne_w_q, ne_sa_oa, ne_sa_t, ne_sa_q, ne_oa_t, ne_oa_q, ne_t_q⟩ := Cx
  obtain ⟨E_w, F_w_sl, F_w_oc, F_w_ov, F_w_oe, F_w_el, B_sa, B_oa⟩ := HW
  obtain ⟨E_t, F_t_d, F_t_p, F_t_n, F_t_v⟩ := HT
  obtain ⟨E_q, F_q_d, F_q_p, F_q_n, F_q_v⟩ := HQ
  refine s_iconst k0 (z := 0) d11_0 (by decide) (pc' := 1) rfl ?_
  refine s_istoreN k0 d11_1 (l' := #[.val (.ref w), .val (.int (0 : Int32)), .unset]) rfl (pc' := 2) rfl ?_
  refine s_iloadN k0 d11_2 rfl (pc' := 3) rfl ?_
  refine s_iconst k0 (z := 5) d11_3 (by decide) (pc' := 4) rfl ?_
  refine s_icmp_ge k0 d11_4 (by decide) (pc' := 24) (by decide) (pc3 := 7) rfl (fun hc4 => ?_) (fun hc4 => absurd (by decide) hc4)
  refine s_aloadN k0 d11_7 rfl rfl (pc' := 8) rfl ?_
  refine s_get k0 d11_8 (host := "") (Or.inl (hw _ (List.mem_of_getElem? (i := 19) rfl))) Via.refl F_w_oc (pc' := 11) rfl fun T1 k1 => ?_
  refine s_iloadN k1 d11_11 rfl (pc' := 12) rfl ?_
  refine s_laloadF k1 (i := 0) d11_12 B_oa (by decide) (by decide) (by decide) rfl (pc' := 13) rfl ?_
  refine s_lconst k1 (z := 0) d11_13 (by decide) (pc' := 14) rfl ?_
  refine s_lcmp_ne k1 d11_14 rfl d11_15 (by decide) (pc' := 24) (by decide) (pc3 := 18) rfl (fun hc14 => ?_) (fun hc14 => absurd z0 hc14)
  refine s_iinc k1 (z := (1 : Int32)) d11_18 rfl (by decide) (l' := #[.val (.ref w), .val (.int (1 : Int32)), .unset]) rfl (pc' := 21) rfl ?_
  refine s_goto k1 d11_21 (by decide) (pc' := 2) (by decide) ?_
  refine s_iloadN k1 d11_2 rfl (pc' := 3) rfl ?_
  refine s_iconst k1 (z := 5) d11_3 (by decide) (pc' := 4) rfl ?_
  refine s_icmp_ge k1 d11_4 (by decide) (pc' := 24) (by decide) (pc3 := 7) rfl (fun hc4 => ?_) (fun hc4 => absurd (by decide) hc4)
  refine s_aloadN k1 d11_7 rfl rfl (pc' := 8) rfl ?_
  refine s_get k1 d11_8 (host := "") (Or.inl (hw _ (List.mem_of_getElem? (i := 19) rfl))) Via.refl F_w_oc (pc' := 11) rfl fun T2 k2 => ?_
  refine s_iloadN k2 d11_11 rfl (pc' := 12) rfl ?_
  refine s_laloadF k2 (i := 1) d11_12 B_oa (by decide) (by decide) (by decide) rfl (pc' := 13) rfl ?_
  refine s_lconst k2 (z := 0) d11_13 (by decide) (pc' := 14) rfl ?_
  refine s_lcmp_ne k2 d11_14 rfl d11_15 (by decide) (pc' := 24) (by decide) (pc3 := 18) rfl (fun hc14 => absurd hc14 z1) (fun hc14 => ?_)
  refine s_iloadN k2 d11_24 rfl (pc' := 25) rfl ?_
  refine s_iconst k2 (z := 5) d11_25 (by decide) (pc' := 26) rfl ?_
  refine s_icmp_ge k2 d11_26 (by decide) (pc' := 47) (by decide) (pc3 := 29) rfl (fun hc26 => ?_) (fun hc26 => absurd (by decide) hc26)
  refine s_iloadN k2 d11_29 rfl (pc' := 30) rfl ?_
  refine s_bipush k2 (z := 64) d11_30 (by decide) (pc' := 32) rfl ?_
  refine s_imul k2 (z := (64 : Int32)) d11_32 (by decide) (pc' := 33) rfl ?_
  refine s_aloadN k2 d11_33 rfl rfl (pc' := 34) rfl ?_
  refine s_get k2 d11_34 (host := "") (Or.inl (hw _ (List.mem_of_getElem? (i := 19) rfl))) Via.refl F_w_oc (pc' := 37) rfl fun T3 k3 => ?_
  refine s_iloadN k3 d11_37 rfl (pc' := 38) rfl ?_
  refine s_laloadF k3 (i := 1) d11_38 B_oa (by decide) (by decide) (by decide) rfl (pc' := 39) rfl ?_
  refine s_callS k3 [.long (Oc 1)] 1 d11_39 (hw _ (List.mem_of_getElem? (i := 90) rfl)) (hw _ (List.mem_of_getElem? (i := 91) rfl)) (hw _ (List.mem_of_getElem? (i := 45) rfl)) (hw _ (List.mem_of_getElem? (i := 92) rfl)) (by decide) (rmntz l Z a0 hw (Oc 1) h0 n0 Z0 ) (by decide) (by decide) pd__28J_29I rfl (Nat.le_of_eq rfl) rfl (by decide) (by decide) rfl (pc' := 42) rfl fun v4 T4 h4 L4 k4 Qv4 => ?_
  obtain ⟨rfl, rfl⟩ := Qv4
  show Go p e below P T4 (mkF m 42 #[.val (.ref w), .val (.int (1 : Int32)), .unset] [.int (fntz (Oc 1)), .int (64 : Int32)])
  refine s_iadd k4 d11_42 rfl (pc' := 43) rfl ?_
  refine s_istoreN k4 d11_43 (l' := #[.val (.ref w), .val (.int (1 : Int32)), .val (.int ((64 : Int32) + (fntz (Oc 1))))]) rfl (pc' := 44) rfl ?_
  refine s_goto k4 d11_44 (by decide) (pc' := 62) (by decide) ?_
  refine s_iloadN k4 d11_62 rfl (pc' := 63) rfl ?_
  exact s_retI k4 d11_63 rfl hP (by decide) (by decide) ⟨rfl, rfl⟩
theorem pn_11_np2 : plainFor (⟨"com/example/gull/gull/TimerWheel", "nextPlace", "()I"⟩ : MethodName) = true := plainFor_of_name (by first | (simp [plainName, overriddenIn]; done) | decide +kernel)
theorem ef_np2 {w : Addr} (m : MethodId) : entryFrame m #[.ref w] 3 = mkF m 0 #[.val (.ref w), .unset, .unset] [] := by first | (simp [entryFrame, mkF, argsToLocals, Value.category]; done) | rfl
set_option maxRecDepth 65536 in
set_option maxHeartbeats 40000000 in
theorem np2 (l : Launch) (Z : State) (a0 : Array Value) (hw : ∀ d ∈ tables_1, d.before a0 Z = true) (w sa oa t q : Addr) (ka ko : ClassId) (el : Int64) (S : Nat → Value) (Oc : Nat → Int64) (oe d dq : Int64) (p0 pq : Int32) (nt vt nq vq : Value) (ov : Value) (h0 : Heap) (n0 : Nat) (Z0 : n0 ≤ h0.size) (Cx : Ctx n0 w sa oa t q) (O_sa : Ovr Z ka "com/example/gull/gull/TimerWheel$Timer") (HW : Whl Z h0 w sa oa ka ko S Oc ov oe el) (HT : Tmr Z h0 t d p0 nt vt) (HQ : Tmr Z h0 q dq pq nq vq) (z0 : Oc 0 = 0) (z1 : Oc 1 = 0) (z2 : ¬ Oc 2 = 0) :
    Met l Z (⟨"com/example/gull/gull/TimerWheel", "nextPlace", "()I"⟩ : MethodName) prog_30_method_6_code 3 (some .int) ({ frames := 2, cells := 0, slots := 0, locals := 40 } : Room) n0 #[.ref w] h0 (fun v h => v = some (.int ((128 : Int32) + (fntz (Oc 2)))) ∧ h0 = h) := by
  refine Met.of (Ls := #[.val (.ref w), .unset, .unset]) pn_11_np2 (fun m => ef_np2 m) fun p e s m below meth c T0 P hP k0 => ?_
  obtain ⟨⟨g_w, g_sa, g_oa, g_t, g_q⟩, ne_w_sa, ne_w_oa, ne_w_t, ne_w_q, ne_sa_oa, ne_sa_t, ne_sa_q, ne_oa_t, ne_oa_q, ne_t_q⟩ := Cx
  obtain ⟨E_w, F_w_sl, F_w_oc, F_w_ov, F_w_oe, F_w_el, B_sa, B_oa⟩ := HW
  obtain ⟨E_t, F_t_d, F_t_p, F_t_n, F_t_v⟩ := HT
  obtain ⟨E_q, F_q_d, F_q_p, F_q_n, F_q_v⟩ := HQ
  refine s_iconst k0 (z := 0) d11_0 (by decide) (pc' := 1) rfl ?_
  refine s_istoreN k0 d11_1 (l' := #[.val (.ref w), .val (.int (0 : Int32)), .unset]) rfl (pc' := 2) rfl ?_
  refine s_iloadN k0 d11_2 rfl (pc' := 3) rfl ?_
  refine s_iconst k0 (z := 5) d11_3 (by decide) (pc' := 4) rfl ?_
  refine s_icmp_ge k0 d11_4 (by decide) (pc' := 24) (by decide) (pc3 := 7) rfl (fun hc4 => ?_) (fun hc4 => absurd (by decide) hc4)
  refine s_aloadN k0 d11_7 rfl rfl (pc' := 8) rfl ?_
  refine s_get k0 d11_8 (host := "") (Or.inl (hw _ (List.mem_of_getElem? (i := 19) rfl))) Via.refl F_w_oc (pc' := 11) rfl fun T1 k1 => ?_
  refine s_iloadN k1 d11_11 rfl (pc' := 12) rfl ?_
  refine s_laloadF k1 (i := 0) d11_12 B_oa (by decide) (by decide) (by decide) rfl (pc' := 13) rfl ?_
  refine s_lconst k1 (z := 0) d11_13 (by decide) (pc' := 14) rfl ?_
  refine s_lcmp_ne k1 d11_14 rfl d11_15 (by decide) (pc' := 24) (by decide) (pc3 := 18) rfl (fun hc14 => ?_) (fun hc14 => absurd z0 hc14)
  refine s_iinc k1 (z := (1 : Int32)) d11_18 rfl (by decide) (l' := #[.val (.ref w), .val (.int (1 : Int32)), .unset]) rfl (pc' := 21) rfl ?_
  refine s_goto k1 d11_21 (by decide) (pc' := 2) (by decide) ?_
  refine s_iloadN k1 d11_2 rfl (pc' := 3) rfl ?_
  refine s_iconst k1 (z := 5) d11_3 (by decide) (pc' := 4) rfl ?_
  refine s_icmp_ge k1 d11_4 (by decide) (pc' := 24) (by decide) (pc3 := 7) rfl (fun hc4 => ?_) (fun hc4 => absurd (by decide) hc4)
  refine s_aloadN k1 d11_7 rfl rfl (pc' := 8) rfl ?_
  refine s_get k1 d11_8 (host := "") (Or.inl (hw _ (List.mem_of_getElem? (i := 19) rfl))) Via.refl F_w_oc (pc' := 11) rfl fun T2 k2 => ?_
  refine s_iloadN k2 d11_11 rfl (pc' := 12) rfl ?_
  refine s_laloadF k2 (i := 1) d11_12 B_oa (by decide) (by decide) (by decide) rfl (pc' := 13) rfl ?_
  refine s_lconst k2 (z := 0) d11_13 (by decide) (pc' := 14) rfl ?_
  refine s_lcmp_ne k2 d11_14 rfl d11_15 (by decide) (pc' := 24) (by decide) (pc3 := 18) rfl (fun hc14 => ?_) (fun hc14 => absurd z1 hc14)
  refine s_iinc k2 (z := (2 : Int32)) d11_18 rfl (by decide) (l' := #[.val (.ref w), .val (.int (2 : Int32)), .unset]) rfl (pc' := 21) rfl ?_
  refine s_goto k2 d11_21 (by decide) (pc' := 2) (by decide) ?_
  refine s_iloadN k2 d11_2 rfl (pc' := 3) rfl ?_
  refine s_iconst k2 (z := 5) d11_3 (by decide) (pc' := 4) rfl ?_
  refine s_icmp_ge k2 d11_4 (by decide) (pc' := 24) (by decide) (pc3 := 7) rfl (fun hc4 => ?_) (fun hc4 => absurd (by decide) hc4)
  refine s_aloadN k2 d11_7 rfl rfl (pc' := 8) rfl ?_
  refine s_get k2 d11_8 (host := "") (Or.inl (hw _ (List.mem_of_getElem? (i := 19) rfl))) Via.refl F_w_oc (pc' := 11) rfl fun T3 k3 => ?_
  refine s_iloadN k3 d11_11 rfl (pc' := 12) rfl ?_
  refine s_laloadF k3 (i := 2) d11_12 B_oa (by decide) (by decide) (by decide) rfl (pc' := 13) rfl ?_
  refine s_lconst k3 (z := 0) d11_13 (by decide) (pc' := 14) rfl ?_
  refine s_lcmp_ne k3 d11_14 rfl d11_15 (by decide) (pc' := 24) (by decide) (pc3 := 18) rfl (fun hc14 => absurd hc14 z2) (fun hc14 => ?_)
  refine s_iloadN k3 d11_24 rfl (pc' := 25) rfl ?_
  refine s_iconst k3 (z := 5) d11_25 (by decide) (pc' := 26) rfl ?_
  refine s_icmp_ge k3 d11_26 (by decide) (pc' := 47) (by decide) (pc3 := 29) rfl (fun hc26 => ?_) (fun hc26 => absurd (by decide) hc26)
  refine s_iloadN k3 d11_29 rfl (pc' := 30) rfl ?_
  refine s_bipush k3 (z := 64) d11_30 (by decide) (pc' := 32) rfl ?_
  refine s_imul k3 (z := (128 : Int32)) d11_32 (by decide) (pc' := 33) rfl ?_
  refine s_aloadN k3 d11_33 rfl rfl (pc' := 34) rfl ?_
  refine s_get k3 d11_34 (host := "") (Or.inl (hw _ (List.mem_of_getElem? (i := 19) rfl))) Via.refl F_w_oc (pc' := 37) rfl fun T4 k4 => ?_
  refine s_iloadN k4 d11_37 rfl (pc' := 38) rfl ?_
  refine s_laloadF k4 (i := 2) d11_38 B_oa (by decide) (by decide) (by decide) rfl (pc' := 39) rfl ?_
  refine s_callS k4 [.long (Oc 2)] 1 d11_39 (hw _ (List.mem_of_getElem? (i := 90) rfl)) (hw _ (List.mem_of_getElem? (i := 91) rfl)) (hw _ (List.mem_of_getElem? (i := 45) rfl)) (hw _ (List.mem_of_getElem? (i := 92) rfl)) (by decide) (rmntz l Z a0 hw (Oc 2) h0 n0 Z0 ) (by decide) (by decide) pd__28J_29I rfl (Nat.le_of_eq rfl) rfl (by decide) (by decide) rfl (pc' := 42) rfl fun v5 T5 h5 L5 k5 Qv5 => ?_
  obtain ⟨rfl, rfl⟩ := Qv5
  show Go p e below P T5 (mkF m 42 #[.val (.ref w), .val (.int (2 : Int32)), .unset] [.int (fntz (Oc 2)), .int (128 : Int32)])
  refine s_iadd k5 d11_42 rfl (pc' := 43) rfl ?_
  refine s_istoreN k5 d11_43 (l' := #[.val (.ref w), .val (.int (2 : Int32)), .val (.int ((128 : Int32) + (fntz (Oc 2))))]) rfl (pc' := 44) rfl ?_
  refine s_goto k5 d11_44 (by decide) (pc' := 62) (by decide) ?_
  refine s_iloadN k5 d11_62 rfl (pc' := 63) rfl ?_
  exact s_retI k5 d11_63 rfl hP (by decide) (by decide) ⟨rfl, rfl⟩
theorem pn_11_np3 : plainFor (⟨"com/example/gull/gull/TimerWheel", "nextPlace", "()I"⟩ : MethodName) = true := plainFor_of_name (by first | (simp [plainName, overriddenIn]; done) | decide +kernel)
theorem ef_np3 {w : Addr} (m : MethodId) : entryFrame m #[.ref w] 3 = mkF m 0 #[.val (.ref w), .unset, .unset] [] := by first | (simp [entryFrame, mkF, argsToLocals, Value.category]; done) | rfl
set_option maxRecDepth 65536 in
set_option maxHeartbeats 40000000 in
theorem np3 (l : Launch) (Z : State) (a0 : Array Value) (hw : ∀ d ∈ tables_1, d.before a0 Z = true) (w sa oa t q : Addr) (ka ko : ClassId) (el : Int64) (S : Nat → Value) (Oc : Nat → Int64) (oe d dq : Int64) (p0 pq : Int32) (nt vt nq vq : Value) (ov : Value) (h0 : Heap) (n0 : Nat) (Z0 : n0 ≤ h0.size) (Cx : Ctx n0 w sa oa t q) (O_sa : Ovr Z ka "com/example/gull/gull/TimerWheel$Timer") (HW : Whl Z h0 w sa oa ka ko S Oc ov oe el) (HT : Tmr Z h0 t d p0 nt vt) (HQ : Tmr Z h0 q dq pq nq vq) (z0 : Oc 0 = 0) (z1 : Oc 1 = 0) (z2 : Oc 2 = 0) (z3 : ¬ Oc 3 = 0) :
    Met l Z (⟨"com/example/gull/gull/TimerWheel", "nextPlace", "()I"⟩ : MethodName) prog_30_method_6_code 3 (some .int) ({ frames := 2, cells := 0, slots := 0, locals := 40 } : Room) n0 #[.ref w] h0 (fun v h => v = some (.int ((192 : Int32) + (fntz (Oc 3)))) ∧ h0 = h) := by
  refine Met.of (Ls := #[.val (.ref w), .unset, .unset]) pn_11_np3 (fun m => ef_np3 m) fun p e s m below meth c T0 P hP k0 => ?_
  obtain ⟨⟨g_w, g_sa, g_oa, g_t, g_q⟩, ne_w_sa, ne_w_oa, ne_w_t, ne_w_q, ne_sa_oa, ne_sa_t, ne_sa_q, ne_oa_t, ne_oa_q, ne_t_q⟩ := Cx
  obtain ⟨E_w, F_w_sl, F_w_oc, F_w_ov, F_w_oe, F_w_el, B_sa, B_oa⟩ := HW
  obtain ⟨E_t, F_t_d, F_t_p, F_t_n, F_t_v⟩ := HT
  obtain ⟨E_q, F_q_d, F_q_p, F_q_n, F_q_v⟩ := HQ
  refine s_iconst k0 (z := 0) d11_0 (by decide) (pc' := 1) rfl ?_
  refine s_istoreN k0 d11_1 (l' := #[.val (.ref w), .val (.int (0 : Int32)), .unset]) rfl (pc' := 2) rfl ?_
  refine s_iloadN k0 d11_2 rfl (pc' := 3) rfl ?_
  refine s_iconst k0 (z := 5) d11_3 (by decide) (pc' := 4) rfl ?_
  refine s_icmp_ge k0 d11_4 (by decide) (pc' := 24) (by decide) (pc3 := 7) rfl (fun hc4 => ?_) (fun hc4 => absurd (by decide) hc4)
  refine s_aloadN k0 d11_7 rfl rfl (pc' := 8) rfl ?_
  refine s_get k0 d11_8 (host := "") (Or.inl (hw _ (List.mem_of_getElem? (i := 19) rfl))) Via.refl F_w_oc (pc' := 11) rfl fun T1 k1 => ?_
  refine s_iloadN k1 d11_11 rfl (pc' := 12) rfl ?_
  refine s_laloadF k1 (i := 0) d11_12 B_oa (by decide) (by decide) (by decide) rfl (pc' := 13) rfl ?_
  refine s_lconst k1 (z := 0) d11_13 (by decide) (pc' := 14) rfl ?_
  refine s_lcmp_ne k1 d11_14 rfl d11_15 (by decide) (pc' := 24) (by decide) (pc3 := 18) rfl (fun hc14 => ?_) (fun hc14 => absurd z0 hc14)
  refine s_iinc k1 (z := (1 : Int32)) d11_18 rfl (by decide) (l' := #[.val (.ref w), .val (.int (1 : Int32)), .unset]) rfl (pc' := 21) rfl ?_
  refine s_goto k1 d11_21 (by decide) (pc' := 2) (by decide) ?_
  refine s_iloadN k1 d11_2 rfl (pc' := 3) rfl ?_
  refine s_iconst k1 (z := 5) d11_3 (by decide) (pc' := 4) rfl ?_
  refine s_icmp_ge k1 d11_4 (by decide) (pc' := 24) (by decide) (pc3 := 7) rfl (fun hc4 => ?_) (fun hc4 => absurd (by decide) hc4)
  refine s_aloadN k1 d11_7 rfl rfl (pc' := 8) rfl ?_
  refine s_get k1 d11_8 (host := "") (Or.inl (hw _ (List.mem_of_getElem? (i := 19) rfl))) Via.refl F_w_oc (pc' := 11) rfl fun T2 k2 => ?_
  refine s_iloadN k2 d11_11 rfl (pc' := 12) rfl ?_
  refine s_laloadF k2 (i := 1) d11_12 B_oa (by decide) (by decide) (by decide) rfl (pc' := 13) rfl ?_
  refine s_lconst k2 (z := 0) d11_13 (by decide) (pc' := 14) rfl ?_
  refine s_lcmp_ne k2 d11_14 rfl d11_15 (by decide) (pc' := 24) (by decide) (pc3 := 18) rfl (fun hc14 => ?_) (fun hc14 => absurd z1 hc14)
  refine s_iinc k2 (z := (2 : Int32)) d11_18 rfl (by decide) (l' := #[.val (.ref w), .val (.int (2 : Int32)), .unset]) rfl (pc' := 21) rfl ?_
  refine s_goto k2 d11_21 (by decide) (pc' := 2) (by decide) ?_
  refine s_iloadN k2 d11_2 rfl (pc' := 3) rfl ?_
  refine s_iconst k2 (z := 5) d11_3 (by decide) (pc' := 4) rfl ?_
  refine s_icmp_ge k2 d11_4 (by decide) (pc' := 24) (by decide) (pc3 := 7) rfl (fun hc4 => ?_) (fun hc4 => absurd (by decide) hc4)
  refine s_aloadN k2 d11_7 rfl rfl (pc' := 8) rfl ?_
  refine s_get k2 d11_8 (host := "") (Or.inl (hw _ (List.mem_of_getElem? (i := 19) rfl))) Via.refl F_w_oc (pc' := 11) rfl fun T3 k3 => ?_
  refine s_iloadN k3 d11_11 rfl (pc' := 12) rfl ?_
  refine s_laloadF k3 (i := 2) d11_12 B_oa (by decide) (by decide) (by decide) rfl (pc' := 13) rfl ?_
  refine s_lconst k3 (z := 0) d11_13 (by decide) (pc' := 14) rfl ?_
  refine s_lcmp_ne k3 d11_14 rfl d11_15 (by decide) (pc' := 24) (by decide) (pc3 := 18) rfl (fun hc14 => ?_) (fun hc14 => absurd z2 hc14)
  refine s_iinc k3 (z := (3 : Int32)) d11_18 rfl (by decide) (l' := #[.val (.ref w), .val (.int (3 : Int32)), .unset]) rfl (pc' := 21) rfl ?_
  refine s_goto k3 d11_21 (by decide) (pc' := 2) (by decide) ?_
  refine s_iloadN k3 d11_2 rfl (pc' := 3) rfl ?_
  refine s_iconst k3 (z := 5) d11_3 (by decide) (pc' := 4) rfl ?_
  refine s_icmp_ge k3 d11_4 (by decide) (pc' := 24) (by decide) (pc3 := 7) rfl (fun hc4 => ?_) (fun hc4 => absurd (by decide) hc4)
  refine s_aloadN k3 d11_7 rfl rfl (pc' := 8) rfl ?_
  refine s_get k3 d11_8 (host := "") (Or.inl (hw _ (List.mem_of_getElem? (i := 19) rfl))) Via.refl F_w_oc (pc' := 11) rfl fun T4 k4 => ?_
  refine s_iloadN k4 d11_11 rfl (pc' := 12) rfl ?_
  refine s_laloadF k4 (i := 3) d11_12 B_oa (by decide) (by decide) (by decide) rfl (pc' := 13) rfl ?_
  refine s_lconst k4 (z := 0) d11_13 (by decide) (pc' := 14) rfl ?_
  refine s_lcmp_ne k4 d11_14 rfl d11_15 (by decide) (pc' := 24) (by decide) (pc3 := 18) rfl (fun hc14 => absurd hc14 z3) (fun hc14 => ?_)
  refine s_iloadN k4 d11_24 rfl (pc' := 25) rfl ?_
  refine s_iconst k4 (z := 5) d11_25 (by decide) (pc' := 26) rfl ?_
  refine s_icmp_ge k4 d11_26 (by decide) (pc' := 47) (by decide) (pc3 := 29) rfl (fun hc26 => ?_) (fun hc26 => absurd (by decide) hc26)
  refine s_iloadN k4 d11_29 rfl (pc' := 30) rfl ?_
  refine s_bipush k4 (z := 64) d11_30 (by decide) (pc' := 32) rfl ?_
  refine s_imul k4 (z := (192 : Int32)) d11_32 (by decide) (pc' := 33) rfl ?_
  refine s_aloadN k4 d11_33 rfl rfl (pc' := 34) rfl ?_
  refine s_get k4 d11_34 (host := "") (Or.inl (hw _ (List.mem_of_getElem? (i := 19) rfl))) Via.refl F_w_oc (pc' := 37) rfl fun T5 k5 => ?_
  refine s_iloadN k5 d11_37 rfl (pc' := 38) rfl ?_
  refine s_laloadF k5 (i := 3) d11_38 B_oa (by decide) (by decide) (by decide) rfl (pc' := 39) rfl ?_
  refine s_callS k5 [.long (Oc 3)] 1 d11_39 (hw _ (List.mem_of_getElem? (i := 90) rfl)) (hw _ (List.mem_of_getElem? (i := 91) rfl)) (hw _ (List.mem_of_getElem? (i := 45) rfl)) (hw _ (List.mem_of_getElem? (i := 92) rfl)) (by decide) (rmntz l Z a0 hw (Oc 3) h0 n0 Z0 ) (by decide) (by decide) pd__28J_29I rfl (Nat.le_of_eq rfl) rfl (by decide) (by decide) rfl (pc' := 42) rfl fun v6 T6 h6 L6 k6 Qv6 => ?_
  obtain ⟨rfl, rfl⟩ := Qv6
  show Go p e below P T6 (mkF m 42 #[.val (.ref w), .val (.int (3 : Int32)), .unset] [.int (fntz (Oc 3)), .int (192 : Int32)])
  refine s_iadd k6 d11_42 rfl (pc' := 43) rfl ?_
  refine s_istoreN k6 d11_43 (l' := #[.val (.ref w), .val (.int (3 : Int32)), .val (.int ((192 : Int32) + (fntz (Oc 3))))]) rfl (pc' := 44) rfl ?_
  refine s_goto k6 d11_44 (by decide) (pc' := 62) (by decide) ?_
  refine s_iloadN k6 d11_62 rfl (pc' := 63) rfl ?_
  exact s_retI k6 d11_63 rfl hP (by decide) (by decide) ⟨rfl, rfl⟩
theorem pn_11_np4 : plainFor (⟨"com/example/gull/gull/TimerWheel", "nextPlace", "()I"⟩ : MethodName) = true := plainFor_of_name (by first | (simp [plainName, overriddenIn]; done) | decide +kernel)
theorem ef_np4 {w : Addr} (m : MethodId) : entryFrame m #[.ref w] 3 = mkF m 0 #[.val (.ref w), .unset, .unset] [] := by first | (simp [entryFrame, mkF, argsToLocals, Value.category]; done) | rfl
set_option maxRecDepth 65536 in
set_option maxHeartbeats 40000000 in
theorem np4 (l : Launch) (Z : State) (a0 : Array Value) (hw : ∀ d ∈ tables_1, d.before a0 Z = true) (w sa oa t q : Addr) (ka ko : ClassId) (el : Int64) (S : Nat → Value) (Oc : Nat → Int64) (oe d dq : Int64) (p0 pq : Int32) (nt vt nq vq : Value) (ov : Value) (h0 : Heap) (n0 : Nat) (Z0 : n0 ≤ h0.size) (Cx : Ctx n0 w sa oa t q) (O_sa : Ovr Z ka "com/example/gull/gull/TimerWheel$Timer") (HW : Whl Z h0 w sa oa ka ko S Oc ov oe el) (HT : Tmr Z h0 t d p0 nt vt) (HQ : Tmr Z h0 q dq pq nq vq) (z0 : Oc 0 = 0) (z1 : Oc 1 = 0) (z2 : Oc 2 = 0) (z3 : Oc 3 = 0) (z4 : ¬ Oc 4 = 0) :
    Met l Z (⟨"com/example/gull/gull/TimerWheel", "nextPlace", "()I"⟩ : MethodName) prog_30_method_6_code 3 (some .int) ({ frames := 2, cells := 0, slots := 0, locals := 40 } : Room) n0 #[.ref w] h0 (fun v h => v = some (.int ((256 : Int32) + (fntz (Oc 4)))) ∧ h0 = h) := by
  refine Met.of (Ls := #[.val (.ref w), .unset, .unset]) pn_11_np4 (fun m => ef_np4 m) fun p e s m below meth c T0 P hP k0 => ?_
  obtain ⟨⟨g_w, g_sa, g_oa, g_t, g_q⟩, ne_w_sa, ne_w_oa, ne_w_t, ne_w_q, ne_sa_oa, ne_sa_t, ne_sa_q, ne_oa_t, ne_oa_q, ne_t_q⟩ := Cx
  obtain ⟨E_w, F_w_sl, F_w_oc, F_w_ov, F_w_oe, F_w_el, B_sa, B_oa⟩ := HW
  obtain ⟨E_t, F_t_d, F_t_p, F_t_n, F_t_v⟩ := HT
  obtain ⟨E_q, F_q_d, F_q_p, F_q_n, F_q_v⟩ := HQ
  refine s_iconst k0 (z := 0) d11_0 (by decide) (pc' := 1) rfl ?_
  refine s_istoreN k0 d11_1 (l' := #[.val (.ref w), .val (.int (0 : Int32)), .unset]) rfl (pc' := 2) rfl ?_
  refine s_iloadN k0 d11_2 rfl (pc' := 3) rfl ?_
  refine s_iconst k0 (z := 5) d11_3 (by decide) (pc' := 4) rfl ?_
  refine s_icmp_ge k0 d11_4 (by decide) (pc' := 24) (by decide) (pc3 := 7) rfl (fun hc4 => ?_) (fun hc4 => absurd (by decide) hc4)
  refine s_aloadN k0 d11_7 rfl rfl (pc' := 8) rfl ?_
  refine s_get k0 d11_8 (host := "") (Or.inl (hw _ (List.mem_of_getElem? (i := 19) rfl))) Via.refl F_w_oc (pc' := 11) rfl fun T1 k1 => ?_
  refine s_iloadN k1 d11_11 rfl (pc' := 12) rfl ?_
  refine s_laloadF k1 (i := 0) d11_12 B_oa (by decide) (by decide) (by decide) rfl (pc' := 13) rfl ?_
  refine s_lconst k1 (z := 0) d11_13 (by decide) (pc' := 14) rfl ?_
  refine s_lcmp_ne k1 d11_14 rfl d11_15 (by decide) (pc' := 24) (by decide) (pc3 := 18) rfl (fun hc14 => ?_) (fun hc14 => absurd z0 hc14)
  refine s_iinc k1 (z := (1 : Int32)) d11_18 rfl (by decide) (l' := #[.val (.ref w), .val (.int (1 : Int32)), .unset]) rfl (pc' := 21) rfl ?_
  refine s_goto k1 d11_21 (by decide) (pc' := 2) (by decide) ?_
  refine s_iloadN k1 d11_2 rfl (pc' := 3) rfl ?_
  refine s_iconst k1 (z := 5) d11_3 (by decide) (pc' := 4) rfl ?_
  refine s_icmp_ge k1 d11_4 (by decide) (pc' := 24) (by decide) (pc3 := 7) rfl (fun hc4 => ?_) (fun hc4 => absurd (by decide) hc4)
  refine s_aloadN k1 d11_7 rfl rfl (pc' := 8) rfl ?_
  refine s_get k1 d11_8 (host := "") (Or.inl (hw _ (List.mem_of_getElem? (i := 19) rfl))) Via.refl F_w_oc (pc' := 11) rfl fun T2 k2 => ?_
  refine s_iloadN k2 d11_11 rfl (pc' := 12) rfl ?_
  refine s_laloadF k2 (i := 1) d11_12 B_oa (by decide) (by decide) (by decide) rfl (pc' := 13) rfl ?_
  refine s_lconst k2 (z := 0) d11_13 (by decide) (pc' := 14) rfl ?_
  refine s_lcmp_ne k2 d11_14 rfl d11_15 (by decide) (pc' := 24) (by decide) (pc3 := 18) rfl (fun hc14 => ?_) (fun hc14 => absurd z1 hc14)
  refine s_iinc k2 (z := (2 : Int32)) d11_18 rfl (by decide) (l' := #[.val (.ref w), .val (.int (2 : Int32)), .unset]) rfl (pc' := 21) rfl ?_
  refine s_goto k2 d11_21 (by decide) (pc' := 2) (by decide) ?_
  refine s_iloadN k2 d11_2 rfl (pc' := 3) rfl ?_
  refine s_iconst k2 (z := 5) d11_3 (by decide) (pc' := 4) rfl ?_
  refine s_icmp_ge k2 d11_4 (by decide) (pc' := 24) (by decide) (pc3 := 7) rfl (fun hc4 => ?_) (fun hc4 => absurd (by decide) hc4)
  refine s_aloadN k2 d11_7 rfl rfl (pc' := 8) rfl ?_
  refine s_get k2 d11_8 (host := "") (Or.inl (hw _ (List.mem_of_getElem? (i := 19) rfl))) Via.refl F_w_oc (pc' := 11) rfl fun T3 k3 => ?_
  refine s_iloadN k3 d11_11 rfl (pc' := 12) rfl ?_
  refine s_laloadF k3 (i := 2) d11_12 B_oa (by decide) (by decide) (by decide) rfl (pc' := 13) rfl ?_
  refine s_lconst k3 (z := 0) d11_13 (by decide) (pc' := 14) rfl ?_
  refine s_lcmp_ne k3 d11_14 rfl d11_15 (by decide) (pc' := 24) (by decide) (pc3 := 18) rfl (fun hc14 => ?_) (fun hc14 => absurd z2 hc14)
  refine s_iinc k3 (z := (3 : Int32)) d11_18 rfl (by decide) (l' := #[.val (.ref w), .val (.int (3 : Int32)), .unset]) rfl (pc' := 21) rfl ?_
  refine s_goto k3 d11_21 (by decide) (pc' := 2) (by decide) ?_
  refine s_iloadN k3 d11_2 rfl (pc' := 3) rfl ?_
  refine s_iconst k3 (z := 5) d11_3 (by decide) (pc' := 4) rfl ?_
  refine s_icmp_ge k3 d11_4 (by decide) (pc' := 24) (by decide) (pc3 := 7) rfl (fun hc4 => ?_) (fun hc4 => absurd (by decide) hc4)
  refine s_aloadN k3 d11_7 rfl rfl (pc' := 8) rfl ?_
  refine s_get k3 d11_8 (host := "") (Or.inl (hw _ (List.mem_of_getElem? (i := 19) rfl))) Via.refl F_w_oc (pc' := 11) rfl fun T4 k4 => ?_
  refine s_iloadN k4 d11_11 rfl (pc' := 12) rfl ?_
  refine s_laloadF k4 (i := 3) d11_12 B_oa (by decide) (by decide) (by decide) rfl (pc' := 13) rfl ?_
  refine s_lconst k4 (z := 0) d11_13 (by decide) (pc' := 14) rfl ?_
  refine s_lcmp_ne k4 d11_14 rfl d11_15 (by decide) (pc' := 24) (by decide) (pc3 := 18) rfl (fun hc14 => ?_) (fun hc14 => absurd z3 hc14)
  refine s_iinc k4 (z := (4 : Int32)) d11_18 rfl (by decide) (l' := #[.val (.ref w), .val (.int (4 : Int32)), .unset]) rfl (pc' := 21) rfl ?_
  refine s_goto k4 d11_21 (by decide) (pc' := 2) (by decide) ?_
  refine s_iloadN k4 d11_2 rfl (pc' := 3) rfl ?_
  refine s_iconst k4 (z := 5) d11_3 (by decide) (pc' := 4) rfl ?_
  refine s_icmp_ge k4 d11_4 (by decide) (pc' := 24) (by decide) (pc3 := 7) rfl (fun hc4 => ?_) (fun hc4 => absurd (by decide) hc4)
  refine s_aloadN k4 d11_7 rfl rfl (pc' := 8) rfl ?_
  refine s_get k4 d11_8 (host := "") (Or.inl (hw _ (List.mem_of_getElem? (i := 19) rfl))) Via.refl F_w_oc (pc' := 11) rfl fun T5 k5 => ?_
  refine s_iloadN k5 d11_11 rfl (pc' := 12) rfl ?_
  refine s_laloadF k5 (i := 4) d11_12 B_oa (by decide) (by decide) (by decide) rfl (pc' := 13) rfl ?_
  refine s_lconst k5 (z := 0) d11_13 (by decide) (pc' := 14) rfl ?_
  refine s_lcmp_ne k5 d11_14 rfl d11_15 (by decide) (pc' := 24) (by decide) (pc3 := 18) rfl (fun hc14 => absurd hc14 z4) (fun hc14 => ?_)
  refine s_iloadN k5 d11_24 rfl (pc' := 25) rfl ?_
  refine s_iconst k5 (z := 5) d11_25 (by decide) (pc' := 26) rfl ?_
  refine s_icmp_ge k5 d11_26 (by decide) (pc' := 47) (by decide) (pc3 := 29) rfl (fun hc26 => ?_) (fun hc26 => absurd (by decide) hc26)
  refine s_iloadN k5 d11_29 rfl (pc' := 30) rfl ?_
  refine s_bipush k5 (z := 64) d11_30 (by decide) (pc' := 32) rfl ?_
  refine s_imul k5 (z := (256 : Int32)) d11_32 (by decide) (pc' := 33) rfl ?_
  refine s_aloadN k5 d11_33 rfl rfl (pc' := 34) rfl ?_
  refine s_get k5 d11_34 (host := "") (Or.inl (hw _ (List.mem_of_getElem? (i := 19) rfl))) Via.refl F_w_oc (pc' := 37) rfl fun T6 k6 => ?_
  refine s_iloadN k6 d11_37 rfl (pc' := 38) rfl ?_
  refine s_laloadF k6 (i := 4) d11_38 B_oa (by decide) (by decide) (by decide) rfl (pc' := 39) rfl ?_
  refine s_callS k6 [.long (Oc 4)] 1 d11_39 (hw _ (List.mem_of_getElem? (i := 90) rfl)) (hw _ (List.mem_of_getElem? (i := 91) rfl)) (hw _ (List.mem_of_getElem? (i := 45) rfl)) (hw _ (List.mem_of_getElem? (i := 92) rfl)) (by decide) (rmntz l Z a0 hw (Oc 4) h0 n0 Z0 ) (by decide) (by decide) pd__28J_29I rfl (Nat.le_of_eq rfl) rfl (by decide) (by decide) rfl (pc' := 42) rfl fun v7 T7 h7 L7 k7 Qv7 => ?_
  obtain ⟨rfl, rfl⟩ := Qv7
  show Go p e below P T7 (mkF m 42 #[.val (.ref w), .val (.int (4 : Int32)), .unset] [.int (fntz (Oc 4)), .int (256 : Int32)])
  refine s_iadd k7 d11_42 rfl (pc' := 43) rfl ?_
  refine s_istoreN k7 d11_43 (l' := #[.val (.ref w), .val (.int (4 : Int32)), .val (.int ((256 : Int32) + (fntz (Oc 4))))]) rfl (pc' := 44) rfl ?_
  refine s_goto k7 d11_44 (by decide) (pc' := 62) (by decide) ?_
  refine s_iloadN k7 d11_62 rfl (pc' := 63) rfl ?_
  exact s_retI k7 d11_63 rfl hP (by decide) (by decide) ⟨rfl, rfl⟩
theorem d11_47 : decode prog_30_method_6_code 47 = .ok (.aload_n 0, 1) := by decide +kernel
theorem d11_48 : decode prog_30_method_6_code 48 = .ok (.getfield 45, 3) := by decide +kernel
theorem d11_51 : decode prog_30_method_6_code 51 = .ok (.ifnull 9, 3) := by decide +kernel
theorem d11_60 : decode prog_30_method_6_code 60 = .ok (.iconst (-1), 1) := by decide +kernel
theorem d11_61 : decode prog_30_method_6_code 61 = .ok (.istore_n 2, 1) := by decide +kernel
theorem pn_11_npN : plainFor (⟨"com/example/gull/gull/TimerWheel", "nextPlace", "()I"⟩ : MethodName) = true := plainFor_of_name (by first | (simp [plainName, overriddenIn]; done) | decide +kernel)
theorem ef_npN {w : Addr} (m : MethodId) : entryFrame m #[.ref w] 3 = mkF m 0 #[.val (.ref w), .unset, .unset] [] := by first | (simp [entryFrame, mkF, argsToLocals, Value.category]; done) | rfl
set_option maxRecDepth 65536 in
set_option maxHeartbeats 40000000 in
theorem npN (l : Launch) (Z : State) (a0 : Array Value) (hw : ∀ d ∈ tables_1, d.before a0 Z = true) (w sa oa t q : Addr) (ka ko : ClassId) (el : Int64) (S : Nat → Value) (Oc : Nat → Int64) (oe d dq : Int64) (p0 pq : Int32) (nt vt nq vq : Value)  (h0 : Heap) (n0 : Nat) (Z0 : n0 ≤ h0.size) (Cx : Ctx n0 w sa oa t q) (O_sa : Ovr Z ka "com/example/gull/gull/TimerWheel$Timer") (HW : Whl Z h0 w sa oa ka ko S Oc .null oe el) (HT : Tmr Z h0 t d p0 nt vt) (HQ : Tmr Z h0 q dq pq nq vq) (z0 : Oc 0 = 0) (z1 : Oc 1 = 0) (z2 : Oc 2 = 0) (z3 : Oc 3 = 0) (z4 : Oc 4 = 0) :
    Met l Z (⟨"com/example/gull/gull/TimerWheel", "nextPlace", "()I"⟩ : MethodName) prog_30_method_6_code 3 (some .int) ({ frames := 2, cells := 0, slots := 0, locals := 40 } : Room) n0 #[.ref w] h0 (fun v h => v = some (.int (-1 : Int32)) ∧ h0 = h) := by
  refine Met.of (Ls := #[.val (.ref w), .unset, .unset]) pn_11_npN (fun m => ef_npN m) fun p e s m below meth c T0 P hP k0 => ?_
  obtain ⟨⟨g_w, g_sa, g_oa, g_t, g_q⟩, ne_w_sa, ne_w_oa, ne_w_t, ne_w_q, ne_sa_oa, ne_sa_t, ne_sa_q, ne_oa_t, ne_oa_q, ne_t_q⟩ := Cx
  obtain ⟨E_w, F_w_sl, F_w_oc, F_w_ov, F_w_oe, F_w_el, B_sa, B_oa⟩ := HW
  obtain ⟨E_t, F_t_d, F_t_p, F_t_n, F_t_v⟩ := HT
  obtain ⟨E_q, F_q_d, F_q_p, F_q_n, F_q_v⟩ := HQ
  refine s_iconst k0 (z := 0) d11_0 (by decide) (pc' := 1) rfl ?_
  refine s_istoreN k0 d11_1 (l' := #[.val (.ref w), .val (.int (0 : Int32)), .unset]) rfl (pc' := 2) rfl ?_
  refine s_iloadN k0 d11_2 rfl (pc' := 3) rfl ?_
  refine s_iconst k0 (z := 5) d11_3 (by decide) (pc' := 4) rfl ?_
  refine s_icmp_ge k0 d11_4 (by decide) (pc' := 24) (by decide) (pc3 := 7) rfl (fun hc4 => ?_) (fun hc4 => absurd (by decide) hc4)
  refine s_aloadN k0 d11_7 rfl rfl (pc' := 8) rfl ?_
  refine s_get k0 d11_8 (host := "") (Or.inl (hw _ (List.mem_of_getElem? (i := 19) rfl))) Via.refl F_w_oc (pc' := 11) rfl fun T1 k1 => ?_
  refine s_iloadN k1 d11_11 rfl (pc' := 12) rfl ?_
  refine s_laloadF k1 (i := 0) d11_12 B_oa (by decide) (by decide) (by decide) rfl (pc' := 13) rfl ?_
  refine s_lconst k1 (z := 0) d11_13 (by decide) (pc' := 14) rfl ?_
  refine s_lcmp_ne k1 d11_14 rfl d11_15 (by decide) (pc' := 24) (by decide) (pc3 := 18) rfl (fun hc14 => ?_) (fun hc14 => absurd z0 hc14)
  refine s_iinc k1 (z := (1 : Int32)) d11_18 rfl (by decide) (l' := #[.val (.ref w), .val (.int (1 : Int32)), .unset]) rfl (pc' := 21) rfl ?_
  refine s_goto k1 d11_21 (by decide) (pc' := 2) (by decide) ?_
  refine s_iloadN k1 d11_2 rfl (pc' := 3) rfl ?_
  refine s_iconst k1 (z := 5) d11_3 (by decide) (pc' := 4) rfl ?_
  refine s_icmp_ge k1 d11_4 (by decide) (pc' := 24) (by decide) (pc3 := 7) rfl (fun hc4 => ?_) (fun hc4 => absurd (by decide) hc4)
  refine s_aloadN k1 d11_7 rfl rfl (pc' := 8) rfl ?_
  refine s_get k1 d11_8 (host := "") (Or.inl (hw _ (List.mem_of_getElem? (i := 19) rfl))) Via.refl F_w_oc (pc' := 11) rfl fun T2 k2 => ?_
  refine s_iloadN k2 d11_11 rfl (pc' := 12) rfl ?_
  refine s_laloadF k2 (i := 1) d11_12 B_oa (by decide) (by decide) (by decide) rfl (pc' := 13) rfl ?_
  refine s_lconst k2 (z := 0) d11_13 (by decide) (pc' := 14) rfl ?_
  refine s_lcmp_ne k2 d11_14 rfl d11_15 (by decide) (pc' := 24) (by decide) (pc3 := 18) rfl (fun hc14 => ?_) (fun hc14 => absurd z1 hc14)
  refine s_iinc k2 (z := (2 : Int32)) d11_18 rfl (by decide) (l' := #[.val (.ref w), .val (.int (2 : Int32)), .unset]) rfl (pc' := 21) rfl ?_
  refine s_goto k2 d11_21 (by decide) (pc' := 2) (by decide) ?_
  refine s_iloadN k2 d11_2 rfl (pc' := 3) rfl ?_
  refine s_iconst k2 (z := 5) d11_3 (by decide) (pc' := 4) rfl ?_
  refine s_icmp_ge k2 d11_4 (by decide) (pc' := 24) (by decide) (pc3 := 7) rfl (fun hc4 => ?_) (fun hc4 => absurd (by decide) hc4)
  refine s_aloadN k2 d11_7 rfl rfl (pc' := 8) rfl ?_
  refine s_get k2 d11_8 (host := "") (Or.inl (hw _ (List.mem_of_getElem? (i := 19) rfl))) Via.refl F_w_oc (pc' := 11) rfl fun T3 k3 => ?_
  refine s_iloadN k3 d11_11 rfl (pc' := 12) rfl ?_
  refine s_laloadF k3 (i := 2) d11_12 B_oa (by decide) (by decide) (by decide) rfl (pc' := 13) rfl ?_
  refine s_lconst k3 (z := 0) d11_13 (by decide) (pc' := 14) rfl ?_
  refine s_lcmp_ne k3 d11_14 rfl d11_15 (by decide) (pc' := 24) (by decide) (pc3 := 18) rfl (fun hc14 => ?_) (fun hc14 => absurd z2 hc14)
  refine s_iinc k3 (z := (3 : Int32)) d11_18 rfl (by decide) (l' := #[.val (.ref w), .val (.int (3 : Int32)), .unset]) rfl (pc' := 21) rfl ?_
  refine s_goto k3 d11_21 (by decide) (pc' := 2) (by decide) ?_
  refine s_iloadN k3 d11_2 rfl (pc' := 3) rfl ?_
  refine s_iconst k3 (z := 5) d11_3 (by decide) (pc' := 4) rfl ?_
  refine s_icmp_ge k3 d11_4 (by decide) (pc' := 24) (by decide) (pc3 := 7) rfl (fun hc4 => ?_) (fun hc4 => absurd (by decide) hc4)
  refine s_aloadN k3 d11_7 rfl rfl (pc' := 8) rfl ?_
  refine s_get k3 d11_8 (host := "") (Or.inl (hw _ (List.mem_of_getElem? (i := 19) rfl))) Via.refl F_w_oc (pc' := 11) rfl fun T4 k4 => ?_
  refine s_iloadN k4 d11_11 rfl (pc' := 12) rfl ?_
  refine s_laloadF k4 (i := 3) d11_12 B_oa (by decide) (by decide) (by decide) rfl (pc' := 13) rfl ?_
  refine s_lconst k4 (z := 0) d11_13 (by decide) (pc' := 14) rfl ?_
  refine s_lcmp_ne k4 d11_14 rfl d11_15 (by decide) (pc' := 24) (by decide) (pc3 := 18) rfl (fun hc14 => ?_) (fun hc14 => absurd z3 hc14)
  refine s_iinc k4 (z := (4 : Int32)) d11_18 rfl (by decide) (l' := #[.val (.ref w), .val (.int (4 : Int32)), .unset]) rfl (pc' := 21) rfl ?_
  refine s_goto k4 d11_21 (by decide) (pc' := 2) (by decide) ?_
  refine s_iloadN k4 d11_2 rfl (pc' := 3) rfl ?_
  refine s_iconst k4 (z := 5) d11_3 (by decide) (pc' := 4) rfl ?_
  refine s_icmp_ge k4 d11_4 (by decide) (pc' := 24) (by decide) (pc3 := 7) rfl (fun hc4 => ?_) (fun hc4 => absurd (by decide) hc4)
  refine s_aloadN k4 d11_7 rfl rfl (pc' := 8) rfl ?_
  refine s_get k4 d11_8 (host := "") (Or.inl (hw _ (List.mem_of_getElem? (i := 19) rfl))) Via.refl F_w_oc (pc' := 11) rfl fun T5 k5 => ?_
  refine s_iloadN k5 d11_11 rfl (pc' := 12) rfl ?_
  refine s_laloadF k5 (i := 4) d11_12 B_oa (by decide) (by decide) (by decide) rfl (pc' := 13) rfl ?_
  refine s_lconst k5 (z := 0) d11_13 (by decide) (pc' := 14) rfl ?_
  refine s_lcmp_ne k5 d11_14 rfl d11_15 (by decide) (pc' := 24) (by decide) (pc3 := 18) rfl (fun hc14 => ?_) (fun hc14 => absurd z4 hc14)
  refine s_iinc k5 (z := (5 : Int32)) d11_18 rfl (by decide) (l' := #[.val (.ref w), .val (.int (5 : Int32)), .unset]) rfl (pc' := 21) rfl ?_
  refine s_goto k5 d11_21 (by decide) (pc' := 2) (by decide) ?_
  refine s_iloadN k5 d11_2 rfl (pc' := 3) rfl ?_
  refine s_iconst k5 (z := 5) d11_3 (by decide) (pc' := 4) rfl ?_
  refine s_icmp_ge k5 d11_4 (by decide) (pc' := 24) (by decide) (pc3 := 7) rfl (fun hc4 => absurd hc4 (by decide)) (fun hc4 => ?_)
  refine s_iloadN k5 d11_24 rfl (pc' := 25) rfl ?_
  refine s_iconst k5 (z := 5) d11_25 (by decide) (pc' := 26) rfl ?_
  refine s_icmp_ge k5 d11_26 (by decide) (pc' := 47) (by decide) (pc3 := 29) rfl (fun hc26 => absurd hc26 (by decide)) (fun hc26 => ?_)
  refine s_aloadN k5 d11_47 rfl rfl (pc' := 48) rfl ?_
  refine s_get k5 d11_48 (host := "") (Or.inl (hw _ (List.mem_of_getElem? (i := 63) rfl))) Via.refl F_w_ov (pc' := 51) rfl fun T6 k6 => ?_
  refine s_nullY k6 d11_51 (by decide) (pc' := 60) (by decide) ?_
  refine s_iconst k6 (z := -1) d11_60 (by decide) (pc' := 61) rfl ?_
  refine s_istoreN k6 d11_61 (l' := #[.val (.ref w), .val (.int (5 : Int32)), .val (.int (-1 : Int32))]) rfl (pc' := 62) rfl ?_
  refine s_iloadN k6 d11_62 rfl (pc' := 63) rfl ?_
  exact s_retI k6 d11_63 rfl hP (by decide) (by decide) ⟨rfl, rfl⟩
theorem d11_54 : decode prog_30_method_6_code 54 = .ok (.bipush (-2), 2) := by decide +kernel
theorem d11_56 : decode prog_30_method_6_code 56 = .ok (.istore_n 2, 1) := by decide +kernel
theorem d11_57 : decode prog_30_method_6_code 57 = .ok (.goto 5, 3) := by decide +kernel
theorem pn_11_npO : plainFor (⟨"com/example/gull/gull/TimerWheel", "nextPlace", "()I"⟩ : MethodName) = true := plainFor_of_name (by first | (simp [plainName, overriddenIn]; done) | decide +kernel)
theorem ef_npO {w : Addr} (m : MethodId) : entryFrame m #[.ref w] 3 = mkF m 0 #[.val (.ref w), .unset, .unset] [] := by first | (simp [entryFrame, mkF, argsToLocals, Value.category]; done) | rfl
set_option maxRecDepth 65536 in
set_option maxHeartbeats 40000000 in
theorem npO (l : Launch) (Z : State) (a0 : Array Value) (hw : ∀ d ∈ tables_1, d.before a0 Z = true) (w sa oa t q : Addr) (ka ko : ClassId) (el : Int64) (S : Nat → Value) (Oc : Nat → Int64) (oe d dq : Int64) (p0 pq : Int32) (nt vt nq vq : Value)  (h0 : Heap) (n0 : Nat) (Z0 : n0 ≤ h0.size) (Cx : Ctx n0 w sa oa t q) (O_sa : Ovr Z ka "com/example/gull/gull/TimerWheel$Timer") (HW : Whl Z h0 w sa oa ka ko S Oc (.ref t) oe el) (HT : Tmr Z h0 t d p0 nt vt) (HQ : Tmr Z h0 q dq pq nq vq) (z0 : Oc 0 = 0) (z1 : Oc 1 = 0) (z2 : Oc 2 = 0) (z3 : Oc 3 = 0) (z4 : Oc 4 = 0) :
    Met l Z (⟨"com/example/gull/gull/TimerWheel", "nextPlace", "()I"⟩ : MethodName) prog_30_method_6_code 3 (some .int) ({ frames := 2, cells := 0, slots := 0, locals := 40 } : Room) n0 #[.ref w] h0 (fun v h => v = some (.int (-2 : Int32)) ∧ h0 = h) := by
  refine Met.of (Ls := #[.val (.ref w), .unset, .unset]) pn_11_npO (fun m => ef_npO m) fun p e s m below meth c T0 P hP k0 => ?_
  obtain ⟨⟨g_w, g_sa, g_oa, g_t, g_q⟩, ne_w_sa, ne_w_oa, ne_w_t, ne_w_q, ne_sa_oa, ne_sa_t, ne_sa_q, ne_oa_t, ne_oa_q, ne_t_q⟩ := Cx
  obtain ⟨E_w, F_w_sl, F_w_oc, F_w_ov, F_w_oe, F_w_el, B_sa, B_oa⟩ := HW
  obtain ⟨E_t, F_t_d, F_t_p, F_t_n, F_t_v⟩ := HT
  obtain ⟨E_q, F_q_d, F_q_p, F_q_n, F_q_v⟩ := HQ
  refine s_iconst k0 (z := 0) d11_0 (by decide) (pc' := 1) rfl ?_
  refine s_istoreN k0 d11_1 (l' := #[.val (.ref w), .val (.int (0 : Int32)), .unset]) rfl (pc' := 2) rfl ?_
  refine s_iloadN k0 d11_2 rfl (pc' := 3) rfl ?_
  refine s_iconst k0 (z := 5) d11_3 (by decide) (pc' := 4) rfl ?_
  refine s_icmp_ge k0 d11_4 (by decide) (pc' := 24) (by decide) (pc3 := 7) rfl (fun hc4 => ?_) (fun hc4 => absurd (by decide) hc4)
  refine s_aloadN k0 d11_7 rfl rfl (pc' := 8) rfl ?_
  refine s_get k0 d11_8 (host := "") (Or.inl (hw _ (List.mem_of_getElem? (i := 19) rfl))) Via.refl F_w_oc (pc' := 11) rfl fun T1 k1 => ?_
  refine s_iloadN k1 d11_11 rfl (pc' := 12) rfl ?_
  refine s_laloadF k1 (i := 0) d11_12 B_oa (by decide) (by decide) (by decide) rfl (pc' := 13) rfl ?_
  refine s_lconst k1 (z := 0) d11_13 (by decide) (pc' := 14) rfl ?_
  refine s_lcmp_ne k1 d11_14 rfl d11_15 (by decide) (pc' := 24) (by decide) (pc3 := 18) rfl (fun hc14 => ?_) (fun hc14 => absurd z0 hc14)
  refine s_iinc k1 (z := (1 : Int32)) d11_18 rfl (by decide) (l' := #[.val (.ref w), .val (.int (1 : Int32)), .unset]) rfl (pc' := 21) rfl ?_
  refine s_goto k1 d11_21 (by decide) (pc' := 2) (by decide) ?_
  refine s_iloadN k1 d11_2 rfl (pc' := 3) rfl ?_
  refine s_iconst k1 (z := 5) d11_3 (by decide) (pc' := 4) rfl ?_
  refine s_icmp_ge k1 d11_4 (by decide) (pc' := 24) (by decide) (pc3 := 7) rfl (fun hc4 => ?_) (fun hc4 => absurd (by decide) hc4)
  refine s_aloadN k1 d11_7 rfl rfl (pc' := 8) rfl ?_
  refine s_get k1 d11_8 (host := "") (Or.inl (hw _ (List.mem_of_getElem? (i := 19) rfl))) Via.refl F_w_oc (pc' := 11) rfl fun T2 k2 => ?_
  refine s_iloadN k2 d11_11 rfl (pc' := 12) rfl ?_
  refine s_laloadF k2 (i := 1) d11_12 B_oa (by decide) (by decide) (by decide) rfl (pc' := 13) rfl ?_
  refine s_lconst k2 (z := 0) d11_13 (by decide) (pc' := 14) rfl ?_
  refine s_lcmp_ne k2 d11_14 rfl d11_15 (by decide) (pc' := 24) (by decide) (pc3 := 18) rfl (fun hc14 => ?_) (fun hc14 => absurd z1 hc14)
  refine s_iinc k2 (z := (2 : Int32)) d11_18 rfl (by decide) (l' := #[.val (.ref w), .val (.int (2 : Int32)), .unset]) rfl (pc' := 21) rfl ?_
  refine s_goto k2 d11_21 (by decide) (pc' := 2) (by decide) ?_
  refine s_iloadN k2 d11_2 rfl (pc' := 3) rfl ?_
  refine s_iconst k2 (z := 5) d11_3 (by decide) (pc' := 4) rfl ?_
  refine s_icmp_ge k2 d11_4 (by decide) (pc' := 24) (by decide) (pc3 := 7) rfl (fun hc4 => ?_) (fun hc4 => absurd (by decide) hc4)
  refine s_aloadN k2 d11_7 rfl rfl (pc' := 8) rfl ?_
  refine s_get k2 d11_8 (host := "") (Or.inl (hw _ (List.mem_of_getElem? (i := 19) rfl))) Via.refl F_w_oc (pc' := 11) rfl fun T3 k3 => ?_
  refine s_iloadN k3 d11_11 rfl (pc' := 12) rfl ?_
  refine s_laloadF k3 (i := 2) d11_12 B_oa (by decide) (by decide) (by decide) rfl (pc' := 13) rfl ?_
  refine s_lconst k3 (z := 0) d11_13 (by decide) (pc' := 14) rfl ?_
  refine s_lcmp_ne k3 d11_14 rfl d11_15 (by decide) (pc' := 24) (by decide) (pc3 := 18) rfl (fun hc14 => ?_) (fun hc14 => absurd z2 hc14)
  refine s_iinc k3 (z := (3 : Int32)) d11_18 rfl (by decide) (l' := #[.val (.ref w), .val (.int (3 : Int32)), .unset]) rfl (pc' := 21) rfl ?_
  refine s_goto k3 d11_21 (by decide) (pc' := 2) (by decide) ?_
  refine s_iloadN k3 d11_2 rfl (pc' := 3) rfl ?_
  refine s_iconst k3 (z := 5) d11_3 (by decide) (pc' := 4) rfl ?_
  refine s_icmp_ge k3 d11_4 (by decide) (pc' := 24) (by decide) (pc3 := 7) rfl (fun hc4 => ?_) (fun hc4 => absurd (by decide) hc4)
  refine s_aloadN k3 d11_7 rfl rfl (pc' := 8) rfl ?_
  refine s_get k3 d11_8 (host := "") (Or.inl (hw _ (List.mem_of_getElem? (i := 19) rfl))) Via.refl F_w_oc (pc' := 11) rfl fun T4 k4 => ?_
  refine s_iloadN k4 d11_11 rfl (pc' := 12) rfl ?_
  refine s_laloadF k4 (i := 3) d11_12 B_oa (by decide) (by decide) (by decide) rfl (pc' := 13) rfl ?_
  refine s_lconst k4 (z := 0) d11_13 (by decide) (pc' := 14) rfl ?_
  refine s_lcmp_ne k4 d11_14 rfl d11_15 (by decide) (pc' := 24) (by decide) (pc3 := 18) rfl (fun hc14 => ?_) (fun hc14 => absurd z3 hc14)
  refine s_iinc k4 (z := (4 : Int32)) d11_18 rfl (by decide) (l' := #[.val (.ref w), .val (.int (4 : Int32)), .unset]) rfl (pc' := 21) rfl ?_
  refine s_goto k4 d11_21 (by decide) (pc' := 2) (by decide) ?_
  refine s_iloadN k4 d11_2 rfl (pc' := 3) rfl ?_
  refine s_iconst k4 (z := 5) d11_3 (by decide) (pc' := 4) rfl ?_
  refine s_icmp_ge k4 d11_4 (by decide) (pc' := 24) (by decide) (pc3 := 7) rfl (fun hc4 => ?_) (fun hc4 => absurd (by decide) hc4)
  refine s_aloadN k4 d11_7 rfl rfl (pc' := 8) rfl ?_
  refine s_get k4 d11_8 (host := "") (Or.inl (hw _ (List.mem_of_getElem? (i := 19) rfl))) Via.refl F_w_oc (pc' := 11) rfl fun T5 k5 => ?_
  refine s_iloadN k5 d11_11 rfl (pc' := 12) rfl ?_
  refine s_laloadF k5 (i := 4) d11_12 B_oa (by decide) (by decide) (by decide) rfl (pc' := 13) rfl ?_
  refine s_lconst k5 (z := 0) d11_13 (by decide) (pc' := 14) rfl ?_
  refine s_lcmp_ne k5 d11_14 rfl d11_15 (by decide) (pc' := 24) (by decide) (pc3 := 18) rfl (fun hc14 => ?_) (fun hc14 => absurd z4 hc14)
  refine s_iinc k5 (z := (5 : Int32)) d11_18 rfl (by decide) (l' := #[.val (.ref w), .val (.int (5 : Int32)), .unset]) rfl (pc' := 21) rfl ?_
  refine s_goto k5 d11_21 (by decide) (pc' := 2) (by decide) ?_
  refine s_iloadN k5 d11_2 rfl (pc' := 3) rfl ?_
  refine s_iconst k5 (z := 5) d11_3 (by decide) (pc' := 4) rfl ?_
  refine s_icmp_ge k5 d11_4 (by decide) (pc' := 24) (by decide) (pc3 := 7) rfl (fun hc4 => absurd hc4 (by decide)) (fun hc4 => ?_)
  refine s_iloadN k5 d11_24 rfl (pc' := 25) rfl ?_
  refine s_iconst k5 (z := 5) d11_25 (by decide) (pc' := 26) rfl ?_
  refine s_icmp_ge k5 d11_26 (by decide) (pc' := 47) (by decide) (pc3 := 29) rfl (fun hc26 => absurd hc26 (by decide)) (fun hc26 => ?_)
  refine s_aloadN k5 d11_47 rfl rfl (pc' := 48) rfl ?_
  refine s_get k5 d11_48 (host := "") (Or.inl (hw _ (List.mem_of_getElem? (i := 63) rfl))) Via.refl F_w_ov (pc' := 51) rfl fun T6 k6 => ?_
  refine s_nullN k6 d11_51 (pc' := 54) rfl ?_
  refine s_bipush k6 (z := -2) d11_54 (by decide) (pc' := 56) rfl ?_
  refine s_istoreN k6 d11_56 (l' := #[.val (.ref w), .val (.int (5 : Int32)), .val (.int (-2 : Int32))]) rfl (pc' := 57) rfl ?_
  refine s_goto k6 d11_57 (by decide) (pc' := 62) (by decide) ?_
  refine s_iloadN k6 d11_62 rfl (pc' := 63) rfl ?_
  exact s_retI k6 d11_63 rfl hP (by decide) (by decide) ⟨rfl, rfl⟩
theorem d12_0 : decode prog_30_method_7_code 0 = .ok (.iload_n 1, 1) := by decide +kernel
theorem d12_1 : decode prog_30_method_7_code 1 = .ok (.iconst (-1), 1) := by decide +kernel
theorem d12_2 : decode prog_30_method_7_code 2 = .ok (.if_icmp .ne 10, 3) := by decide +kernel
theorem d12_5 : decode prog_30_method_7_code 5 = .ok (.ldc2_w 21, 3) := by decide +kernel
theorem d12_8 : decode prog_30_method_7_code 8 = .ok (.lstore_n 2, 1) := by decide +kernel
theorem d12_9 : decode prog_30_method_7_code 9 = .ok (.goto 53, 3) := by decide +kernel
theorem d12_62 : decode prog_30_method_7_code 62 = .ok (.lload_n 2, 1) := by decide +kernel
theorem d12_63 : decode prog_30_method_7_code 63 = .ok (.lreturn, 1) := by decide +kernel
theorem pn_12_evN : plainFor (⟨"com/example/gull/gull/TimerWheel", "eventAt", "(I)J"⟩ : MethodName) = true := plainFor_of_name (by first | (simp [plainName, overriddenIn]; done) | decide +kernel)
theorem ef_evN {w : Addr} (m : MethodId) : entryFrame m #[.ref w, .int (-1 : Int32)] 7 = mkF m 0 #[.val (.ref w), .val (.int (-1 : Int32)), .unset, .unset, .unset, .unset, .unset] [] := by first | (simp [entryFrame, mkF, argsToLocals, Value.category]; done) | rfl
set_option maxRecDepth 65536 in
set_option maxHeartbeats 40000000 in
theorem evN (l : Launch) (Z : State) (a0 : Array Value) (hw : ∀ d ∈ tables_1, d.before a0 Z = true) (w sa oa t q : Addr) (ka ko : ClassId) (el : Int64) (S : Nat → Value) (Oc : Nat → Int64) (oe d dq : Int64) (p0 pq : Int32) (nt vt nq vq : Value) (ov : Value) (h0 : Heap) (n0 : Nat) (Z0 : n0 ≤ h0.size) (Cx : Ctx n0 w sa oa t q) (O_sa : Ovr Z ka "com/example/gull/gull/TimerWheel$Timer") (HW : Whl Z h0 w sa oa ka ko S Oc ov oe el) (HT : Tmr Z h0 t d p0 nt vt) (HQ : Tmr Z h0 q dq pq nq vq)  :
    Met l Z (⟨"com/example/gull/gull/TimerWheel", "eventAt", "(I)J"⟩ : MethodName) prog_30_method_7_code 7 (some .long) ({ frames := 0, cells := 0, slots := 0, locals := 0 } : Room) n0 #[.ref w, .int (-1 : Int32)] h0 (fun v h => v = some (.long (9223372036854775807 : Int64)) ∧ h0 = h) := by
  refine Met.of (Ls := #[.val (.ref w), .val (.int (-1 : Int32)), .unset, .unset, .unset, .unset, .unset]) pn_12_evN (fun m => ef_evN m) fun p e s m below meth c T0 P hP k0 => ?_
  obtain ⟨⟨g_w, g_sa, g_oa, g_t, g_q⟩, ne_w_sa, ne_w_oa, ne_w_t, ne_w_q, ne_sa_oa, ne_sa_t, ne_sa_q, ne_oa_t, ne_oa_q, ne_t_q⟩ := Cx
  obtain ⟨E_w, F_w_sl, F_w_oc, F_w_ov, F_w_oe, F_w_el, B_sa, B_oa⟩ := HW
  obtain ⟨E_t, F_t_d, F_t_p, F_t_n, F_t_v⟩ := HT
  obtain ⟨E_q, F_q_d, F_q_p, F_q_n, F_q_v⟩ := HQ
  refine s_iloadN k0 d12_0 rfl (pc' := 1) rfl ?_
  refine s_iconst k0 (z := -1) d12_1 (by decide) (pc' := 2) rfl ?_
  refine s_icmp_ne k0 d12_2 (by decide) (pc' := 12) (by decide) (pc3 := 5) rfl (fun hc2 => ?_) (fun hc2 => absurd (by decide) hc2)
  refine s_ldcL k0 d12_5 (hw _ (List.mem_of_getElem? (i := 21) rfl)) (pc' := 8) rfl ?_
  refine s_lstoreN k0 d12_8 (l' := #[.val (.ref w), .val (.int (-1 : Int32)), .val (.long (9223372036854775807 : Int64)), .second, .unset, .unset, .unset]) rfl (pc' := 9) rfl ?_
  refine s_goto k0 d12_9 (by decide) (pc' := 62) (by decide) ?_
  refine s_lloadN k0 d12_62 rfl (pc' := 63) rfl ?_
  exact s_retL k0 d12_63 rfl hP (by decide) (by decide) ⟨rfl, rfl⟩
theorem d12_12 : decode prog_30_method_7_code 12 = .ok (.iload_n 1, 1) := by decide +kernel
theorem d12_13 : decode prog_30_method_7_code 13 = .ok (.bipush (-2), 2) := by decide +kernel
theorem d12_15 : decode prog_30_method_7_code 15 = .ok (.if_icmp .ne 11, 3) := by decide +kernel
theorem d12_18 : decode prog_30_method_7_code 18 = .ok (.aload_n 0, 1) := by decide +kernel
theorem d12_19 : decode prog_30_method_7_code 19 = .ok (.getfield 23, 3) := by decide +kernel
theorem d12_22 : decode prog_30_method_7_code 22 = .ok (.lstore_n 2, 1) := by decide +kernel
theorem d12_23 : decode prog_30_method_7_code 23 = .ok (.goto 39, 3) := by decide +kernel
theorem pn_12_evO : plainFor (⟨"com/example/gull/gull/TimerWheel", "eventAt", "(I)J"⟩ : MethodName) = true := plainFor_of_name (by first | (simp [plainName, overriddenIn]; done) | decide +kernel)
theorem ef_evO {w : Addr} (m : MethodId) : entryFrame m #[.ref w, .int (-2 : Int32)] 7 = mkF m 0 #[.val (.ref w), .val (.int (-2 : Int32)), .unset, .unset, .unset, .unset, .unset] [] := by first | (simp [entryFrame, mkF, argsToLocals, Value.category]; done) | rfl
set_option maxRecDepth 65536 in
set_option maxHeartbeats 40000000 in
theorem evO (l : Launch) (Z : State) (a0 : Array Value) (hw : ∀ d ∈ tables_1, d.before a0 Z = true) (w sa oa t q : Addr) (ka ko : ClassId) (el : Int64) (S : Nat → Value) (Oc : Nat → Int64) (oe d dq : Int64) (p0 pq : Int32) (nt vt nq vq : Value) (ov : Value) (h0 : Heap) (n0 : Nat) (Z0 : n0 ≤ h0.size) (Cx : Ctx n0 w sa oa t q) (O_sa : Ovr Z ka "com/example/gull/gull/TimerWheel$Timer") (HW : Whl Z h0 w sa oa ka ko S Oc ov oe el) (HT : Tmr Z h0 t d p0 nt vt) (HQ : Tmr Z h0 q dq pq nq vq)  :
    Met l Z (⟨"com/example/gull/gull/TimerWheel", "eventAt", "(I)J"⟩ : MethodName) prog_30_method_7_code 7 (some .long) ({ frames := 0, cells := 0, slots := 0, locals := 0 } : Room) n0 #[.ref w, .int (-2 : Int32)] h0 (fun v h => v = some (.long oe) ∧ h0 = h) := by
  refine Met.of (Ls := #[.val (.ref w), .val (.int (-2 : Int32)), .unset, .unset, .unset, .unset, .unset]) pn_12_evO (fun m => ef_evO m) fun p e s m below meth c T0 P hP k0 => ?_
  obtain ⟨⟨g_w, g_sa, g_oa, g_t, g_q⟩, ne_w_sa, ne_w_oa, ne_w_t, ne_w_q, ne_sa_oa, ne_sa_t, ne_sa_q, ne_oa_t, ne_oa_q, ne_t_q⟩ := Cx
  obtain ⟨E_w, F_w_sl, F_w_oc, F_w_ov, F_w_oe, F_w_el, B_sa, B_oa⟩ := HW
  obtain ⟨E_t, F_t_d, F_t_p, F_t_n, F_t_v⟩ := HT
  obtain ⟨E_q, F_q_d, F_q_p, F_q_n, F_q_v⟩ := HQ
  refine s_iloadN k0 d12_0 rfl (pc' := 1) rfl ?_
  refine s_iconst k0 (z := -1) d12_1 (by decide) (pc' := 2) rfl ?_
  refine s_icmp_ne k0 d12_2 (by decide) (pc' := 12) (by decide) (pc3 := 5) rfl (fun hc2 => absurd hc2 (by decide)) (fun hc2 => ?_)
  refine s_iloadN k0 d12_12 rfl (pc' := 13) rfl ?_
  refine s_bipush k0 (z := -2) d12_13 (by decide) (pc' := 15) rfl ?_
  refine s_icmp_ne k0 d12_15 (by decide) (pc' := 26) (by decide) (pc3 := 18) rfl (fun hc15 => ?_) (fun hc15 => absurd (by decide) hc15)
  refine s_aloadN k0 d12_18 rfl rfl (pc' := 19) rfl ?_
  refine s_get k0 d12_19 (host := "") (Or.inl (hw _ (List.mem_of_getElem? (i := 22) rfl))) Via.refl F_w_oe (pc' := 22) rfl fun T1 k1 => ?_
  refine s_lstoreN k1 d12_22 (l' := #[.val (.ref w), .val (.int (-2 : Int32)), .val (.long oe), .second, .unset, .unset, .unset]) rfl (pc' := 23) rfl ?_
  refine s_goto k1 d12_23 (by decide) (pc' := 62) (by decide) ?_
  refine s_lloadN k1 d12_62 rfl (pc' := 63) rfl ?_
  exact s_retL k1 d12_63 rfl hP (by decide) (by decide) ⟨rfl, rfl⟩
theorem d12_26 : decode prog_30_method_7_code 26 = .ok (.iload_n 1, 1) := by decide +kernel
theorem d12_27 : decode prog_30_method_7_code 27 = .ok (.bipush 64, 2) := by decide +kernel
theorem d12_29 : decode prog_30_method_7_code 29 = .ok (.idiv, 1) := by decide +kernel
theorem d12_30 : decode prog_30_method_7_code 30 = .ok (.bipush 6, 2) := by decide +kernel
theorem d12_32 : decode prog_30_method_7_code 32 = .ok (.imul, 1) := by decide +kernel
theorem d12_33 : decode prog_30_method_7_code 33 = .ok (.istore 4, 2) := by decide +kernel
theorem d12_35 : decode prog_30_method_7_code 35 = .ok (.aload_n 0, 1) := by decide +kernel
theorem d12_36 : decode prog_30_method_7_code 36 = .ok (.getfield 27, 3) := by decide +kernel
theorem d12_39 : decode prog_30_method_7_code 39 = .ok (.lconst 1, 1) := by decide +kernel
theorem d12_40 : decode prog_30_method_7_code 40 = .ok (.iload 4, 2) := by decide +kernel
theorem d12_42 : decode prog_30_method_7_code 42 = .ok (.bipush 6, 2) := by decide +kernel
theorem d12_44 : decode prog_30_method_7_code 44 = .ok (.iadd, 1) := by decide +kernel
theorem d12_45 : decode prog_30_method_7_code 45 = .ok (.lshl, 1) := by decide +kernel
theorem d12_46 : decode prog_30_method_7_code 46 = .ok (.lneg, 1) := by decide +kernel
theorem d12_47 : decode prog_30_method_7_code 47 = .ok (.land, 1) := by decide +kernel
theorem d12_48 : decode prog_30_method_7_code 48 = .ok (.lstore 5, 2) := by decide +kernel
theorem d12_50 : decode prog_30_method_7_code 50 = .ok (.lload 5, 2) := by decide +kernel
theorem d12_52 : decode prog_30_method_7_code 52 = .ok (.iload_n 1, 1) := by decide +kernel
theorem d12_53 : decode prog_30_method_7_code 53 = .ok (.bipush 64, 2) := by decide +kernel
theorem d12_55 : decode prog_30_method_7_code 55 = .ok (.irem, 1) := by decide +kernel
theorem d12_56 : decode prog_30_method_7_code 56 = .ok (.i2l, 1) := by decide +kernel
theorem d12_57 : decode prog_30_method_7_code 57 = .ok (.iload 4, 2) := by decide +kernel
theorem d12_59 : decode prog_30_method_7_code 59 = .ok (.lshl, 1) := by decide +kernel
theorem d12_60 : decode prog_30_method_7_code 60 = .ok (.lor, 1) := by decide +kernel
theorem d12_61 : decode prog_30_method_7_code 61 = .ok (.lstore_n 2, 1) := by decide +kernel
theorem pn_12_evS : plainFor (⟨"com/example/gull/gull/TimerWheel", "eventAt", "(I)J"⟩ : MethodName) = true := plainFor_of_name (by first | (simp [plainName, overriddenIn]; done) | decide +kernel)
theorem ef_evS {w : Addr} {pl : Int32} (m : MethodId) : entryFrame m #[.ref w, .int pl] 7 = mkF m 0 #[.val (.ref w), .val (.int pl), .unset, .unset, .unset, .unset, .unset] [] := by first | (simp [entryFrame, mkF, argsToLocals, Value.category]; done) | rfl
set_option maxRecDepth 65536 in
set_option maxHeartbeats 40000000 in
theorem evS (l : Launch) (Z : State) (a0 : Array Value) (hw : ∀ d ∈ tables_1, d.before a0 Z = true) (w sa oa t q : Addr) (ka ko : ClassId) (el : Int64) (S : Nat → Value) (Oc : Nat → Int64) (oe d dq : Int64) (p0 pq : Int32) (nt vt nq vq : Value) (ov : Value) (lv sv pl : Int32) (h0 : Heap) (n0 : Nat) (Z0 : n0 ≤ h0.size) (Cx : Ctx n0 w sa oa t q) (O_sa : Ovr Z ka "com/example/gull/gull/TimerWheel$Timer") (HW : Whl Z h0 w sa oa ka ko S Oc ov oe el) (HT : Tmr Z h0 t d p0 nt vt) (HQ : Tmr Z h0 q dq pq nq vq) (hm1 : ¬ pl = (-1 : Int32)) (hm2 : ¬ pl = (-2 : Int32)) (hdv : pl / (64 : Int32) = lv) (hmd : pl % (64 : Int32) = sv) :
    Met l Z (⟨"com/example/gull/gull/TimerWheel", "eventAt", "(I)J"⟩ : MethodName) prog_30_method_7_code 7 (some .long) ({ frames := 0, cells := 0, slots := 0, locals := 0 } : Room) n0 #[.ref w, .int pl] h0 (fun v h => v = some (.long ((el &&& (-((1 : Int64) <<< (((lv * (6 : Int32)) + (6 : Int32)).toInt64 &&& 63)))) ||| (sv.toInt64 <<< ((lv * (6 : Int32)).toInt64 &&& 63)))) ∧ h0 = h) := by
  refine Met.of (Ls := #[.val (.ref w), .val (.int pl), .unset, .unset, .unset, .unset, .unset]) pn_12_evS (fun m => ef_evS m) fun p e s m below meth c T0 P hP k0 => ?_
  obtain ⟨⟨g_w, g_sa, g_oa, g_t, g_q⟩, ne_w_sa, ne_w_oa, ne_w_t, ne_w_q, ne_sa_oa, ne_sa_t, ne_sa_q, ne_oa_t, ne_oa_q, ne_t_q⟩ := Cx
  obtain ⟨E_w, F_w_sl, F_w_oc, F_w_ov, F_w_oe, F_w_el, B_sa, B_oa⟩ := HW
  obtain ⟨E_t, F_t_d, F_t_p, F_t_n, F_t_v⟩ := HT
  obtain ⟨E_q, F_q_d, F_q_p, F_q_n, F_q_v⟩ := HQ
  refine s_iloadN k0 d12_0 rfl (pc' := 1) rfl ?_
  refine s_iconst k0 (z := -1) d12_1 (by decide) (pc' := 2) rfl ?_
  refine s_icmp_ne k0 d12_2 (by decide) (pc' := 12) (by decide) (pc3 := 5) rfl (fun hc2 => absurd hc2 hm1) (fun hc2 => ?_)
  refine s_iloadN k0 d12_12 rfl (pc' := 13) rfl ?_
  refine s_bipush k0 (z := -2) d12_13 (by decide) (pc' := 15) rfl ?_
  refine s_icmp_ne k0 d12_15 (by decide) (pc' := 26) (by decide) (pc3 := 18) rfl (fun hc15 => absurd hc15 hm2) (fun hc15 => ?_)
  refine s_iloadN k0 d12_26 rfl (pc' := 27) rfl ?_
  refine s_bipush k0 (z := 64) d12_27 (by decide) (pc' := 29) rfl ?_
  refine s_idiv k0 d12_29 (by decide) rfl (pc' := 30) rfl ?_
  rw [hdv]
  show Go p e below P T0 (mkF m 30 #[.val (.ref w), .val (.int pl), .unset, .unset, .unset, .unset, .unset] [.int lv])
  refine s_bipush k0 (z := 6) d12_30 (by decide) (pc' := 32) rfl ?_
  refine s_imul k0 d12_32 rfl (pc' := 33) rfl ?_
  refine s_istore k0 d12_33 (l' := #[.val (.ref w), .val (.int pl), .unset, .unset, .val (.int (lv * (6 : Int32))), .unset, .unset]) rfl (pc' := 35) rfl ?_
  refine s_aloadN k0 d12_35 rfl rfl (pc' := 36) rfl ?_
  refine s_get k0 d12_36 (host := "") (Or.inl (hw _ (List.mem_of_getElem? (i := 24) rfl))) Via.refl F_w_el (pc' := 39) rfl fun T1 k1 => ?_
  refine s_lconst k1 (z := 1) d12_39 (by decide) (pc' := 40) rfl ?_
  refine s_iload k1 d12_40 rfl (pc' := 42) rfl ?_
  refine s_bipush k1 (z := 6) d12_42 (by decide) (pc' := 44) rfl ?_
  refine s_iadd k1 d12_44 rfl (pc' := 45) rfl ?_
  refine s_lshl k1 d12_45 rfl (pc' := 46) rfl ?_
  refine s_lneg k1 d12_46 rfl (pc' := 47) rfl ?_
  refine s_land k1 d12_47 rfl (pc' := 48) rfl ?_
  refine s_lstore k1 d12_48 (l' := #[.val (.ref w), .val (.int pl), .unset, .unset, .val (.int (lv * (6 : Int32))), .val (.long (el &&& (-((1 : Int64) <<< (((lv * (6 : Int32)) + (6 : Int32)).toInt64 &&& 63))))), .second]) rfl (pc' := 50) rfl ?_
  refine s_lload k1 d12_50 rfl (pc' := 52) rfl ?_
  refine s_iloadN k1 d12_52 rfl (pc' := 53) rfl ?_
  refine s_bipush k1 (z := 64) d12_53 (by decide) (pc' := 55) rfl ?_
  refine s_irem k1 d12_55 (by decide) rfl (pc' := 56) rfl ?_
  rw [hmd]
  show Go p e below P T1 (mkF m 56 #[.val (.ref w), .val (.int pl), .unset, .unset, .val (.int (lv * (6 : Int32))), .val (.long (el &&& (-((1 : Int64) <<< (((lv * (6 : Int32)) + (6 : Int32)).toInt64 &&& 63))))), .second] [.int sv, .long (el &&& (-((1 : Int64) <<< (((lv * (6 : Int32)) + (6 : Int32)).toInt64 &&& 63))))])
  refine s_i2l k1 d12_56 rfl (pc' := 57) rfl ?_
  refine s_iload k1 d12_57 rfl (pc' := 59) rfl ?_
  refine s_lshl k1 d12_59 rfl (pc' := 60) rfl ?_
  refine s_lor k1 d12_60 rfl (pc' := 61) rfl ?_
  refine s_lstoreN k1 d12_61 (l' := #[.val (.ref w), .val (.int pl), .val (.long ((el &&& (-((1 : Int64) <<< (((lv * (6 : Int32)) + (6 : Int32)).toInt64 &&& 63)))) ||| (sv.toInt64 <<< ((lv * (6 : Int32)).toInt64 &&& 63)))), .second, .val (.int (lv * (6 : Int32))), .val (.long (el &&& (-((1 : Int64) <<< (((lv * (6 : Int32)) + (6 : Int32)).toInt64 &&& 63))))), .second]) rfl (pc' := 62) rfl ?_
  refine s_lloadN k1 d12_62 rfl (pc' := 63) rfl ?_
  exact s_retL k1 d12_63 rfl hP (by decide) (by decide) ⟨rfl, rfl⟩
abbrev MAdd (l : Launch) (Z : State) (n0 : Nat) (w t : Addr) (h0 : Heap) (Q : Option Value → Heap → Prop) : Prop := Met l Z (⟨"com/example/gull/gull/TimerWheel", "add", "(Lcom/example/gull/gull/TimerWheel$Timer;)Z"⟩ : MethodName) prog_30_method_2_code 6 (some .boolean) ({ frames := 2, cells := 0, slots := 0, locals := 48 } : Room) n0 #[.ref w, .ref t] h0 Q
abbrev MRem (l : Launch) (Z : State) (n0 : Nat) (w t : Addr) (h0 : Heap) (Q : Option Value → Heap → Prop) : Prop := Met l Z (⟨"com/example/gull/gull/TimerWheel", "remove", "(Lcom/example/gull/gull/TimerWheel$Timer;)V"⟩ : MethodName) prog_30_method_3_code 2 none ({ frames := 0, cells := 0, slots := 0, locals := 0 } : Room) n0 #[.ref w, .ref t] h0 Q
abbrev MHeld (l : Launch) (Z : State) (n0 : Nat) (t : Addr) (h0 : Heap) (Q : Option Value → Heap → Prop) : Prop := Met l Z (⟨"com/example/gull/gull/TimerWheel$Timer", "isHeld", "()Z"⟩ : MethodName) prog_31_method_2_code 1 (some .boolean) ({ frames := 0, cells := 0, slots := 0, locals := 0 } : Room) n0 #[.ref t] h0 Q
abbrev MPlace (l : Launch) (Z : State) (n0 : Nat) (w : Addr) (h0 : Heap) (Q : Option Value → Heap → Prop) : Prop := Met l Z (⟨"com/example/gull/gull/TimerWheel", "nextPlace", "()I"⟩ : MethodName) prog_30_method_6_code 3 (some .int) ({ frames := 2, cells := 0, slots := 0, locals := 40 } : Room) n0 #[.ref w] h0 Q
abbrev MEvent (l : Launch) (Z : State) (n0 : Nat) (w : Addr) (pl : Int32) (h0 : Heap) (Q : Option Value → Heap → Prop) : Prop := Met l Z (⟨"com/example/gull/gull/TimerWheel", "eventAt", "(I)J"⟩ : MethodName) prog_30_method_7_code 7 (some .long) ({ frames := 0, cells := 0, slots := 0, locals := 0 } : Room) n0 #[.ref w, .int pl] h0 Q
abbrev MNext (l : Launch) (Z : State) (n0 : Nat) (w : Addr) (h0 : Heap) (Q : Option Value → Heap → Prop) : Prop := Met l Z (⟨"com/example/gull/gull/TimerWheel", "nextEvent", "()J"⟩ : MethodName) prog_30_method_4_code 1 (some .long) ({ frames := 3, cells := 0, slots := 0, locals := 60 } : Room) n0 #[.ref w] h0 Q
theorem d10_0 : decode prog_30_method_4_code 0 = .ok (.aload_n 0, 1) := by decide +kernel
theorem d10_1 : decode prog_30_method_4_code 1 = .ok (.aload_n 0, 1) := by decide +kernel
theorem d10_2 : decode prog_30_method_4_code 2 = .ok (.invokevirtual 61, 3) := by decide +kernel
theorem d10_5 : decode prog_30_method_4_code 5 = .ok (.invokevirtual 65, 3) := by decide +kernel
theorem d10_8 : decode prog_30_method_4_code 8 = .ok (.lreturn, 1) := by decide +kernel
theorem pd__28_29I : parseMethodDescriptor "()I" = some ⟨[], some .int⟩ := by decide +kernel
theorem pd__28I_29J : parseMethodDescriptor "(I)J" = some ⟨[.int], some .long⟩ := by decide +kernel
theorem pn_10_nxt : plainFor (⟨"com/example/gull/gull/TimerWheel", "nextEvent", "()J"⟩ : MethodName) = true := plainFor_of_name (by first | (simp [plainName, overriddenIn]; done) | decide +kernel)
theorem ef_nxt {w : Addr} (m : MethodId) : entryFrame m #[.ref w] 1 = mkF m 0 #[.val (.ref w)] [] := by first | (simp [entryFrame, mkF, argsToLocals, Value.category]; done) | rfl
set_option maxRecDepth 65536 in
set_option maxHeartbeats 40000000 in
theorem nxt (l : Launch) (Z : State) (a0 : Array Value) (hw : ∀ d ∈ tables_1, d.before a0 Z = true) (w : Addr) (pl : Int32) (ev : Int64) (h0 : Heap) (n0 : Nat) (Z0 : n0 ≤ h0.size) (E_w : Exa Z h0 w "com/example/gull/gull/TimerWheel") (hNP : MPlace l Z n0 w h0 (fun v h => v = some (.int pl) ∧ h0 = h)) (hEV : MEvent l Z n0 w pl h0 (fun v h => v = some (.long ev) ∧ h0 = h)) :
    Met l Z (⟨"com/example/gull/gull/TimerWheel", "nextEvent", "()J"⟩ : MethodName) prog_30_method_4_code 1 (some .long) ({ frames := 3, cells := 0, slots := 0, locals := 60 } : Room) n0 #[.ref w] h0 (fun v h => v = some (.long ev) ∧ h0 = h) := by
  refine Met.of (Ls := #[.val (.ref w)]) pn_10_nxt (fun m => ef_nxt m) fun p e s m below meth c T0 P hP k0 => ?_
  refine s_aloadN k0 d10_0 rfl rfl (pc' := 1) rfl ?_
  refine s_aloadN k0 d10_1 rfl rfl (pc' := 2) rfl ?_
  refine s_callP k0 [] 1 d10_2 (hw _ (List.mem_of_getElem? (i := 76) rfl)) (sel_priv (by decide) (hw _ (List.mem_of_getElem? (i := 6) rfl)) (hw _ (List.mem_of_getElem? (i := 78) rfl)) (hw _ (List.mem_of_getElem? (i := 77) rfl))) (hw _ (List.mem_of_getElem? (i := 77) rfl)) (hw _ (List.mem_of_getElem? (i := 78) rfl)) (hw _ (List.mem_of_getElem? (i := 7) rfl)) (hw _ (List.mem_of_getElem? (i := 79) rfl)) (by decide) E_w hNP (by decide) (by decide) pd__28_29I rfl (Nat.le_of_eq rfl) rfl (by decide) (by decide) rfl (pc' := 5) rfl fun v1 T1 h1 L1 k1 Qv1 => ?_
  obtain ⟨rfl, rfl⟩ := Qv1
  show Go p e below P T1 (mkF m 5 #[.val (.ref w)] [.int pl, .ref w])
  refine s_callP k1 [.int pl] 0 d10_5 (hw _ (List.mem_of_getElem? (i := 80) rfl)) (sel_priv (by decide) (hw _ (List.mem_of_getElem? (i := 6) rfl)) (hw _ (List.mem_of_getElem? (i := 82) rfl)) (hw _ (List.mem_of_getElem? (i := 81) rfl))) (hw _ (List.mem_of_getElem? (i := 81) rfl)) (hw _ (List.mem_of_getElem? (i := 82) rfl)) (hw _ (List.mem_of_getElem? (i := 7) rfl)) (hw _ (List.mem_of_getElem? (i := 83) rfl)) (by decide) E_w hEV (by decide) (by decide) pd__28I_29J rfl (Nat.le_of_eq rfl) rfl (by decide) (by decide) rfl (pc' := 8) rfl fun v2 T2 h2 L2 k2 Qv2 => ?_
  obtain ⟨rfl, rfl⟩ := Qv2
  show Go p e below P T2 (mkF m 8 #[.val (.ref w)] [.long ev])
  exact s_retL k2 d10_8 rfl hP (by decide) (by decide) ⟨rfl, rfl⟩
theorem d2_0 : decode prog_30_method_1_code 0 = .ok (.aload_n 0, 1) := by decide +kernel
theorem d2_1 : decode prog_30_method_1_code 1 = .ok (.invokespecial 5, 3) := by decide +kernel
theorem d2_4 : decode prog_30_method_1_code 4 = .ok (.aload_n 0, 1) := by decide +kernel
theorem d2_5 : decode prog_30_method_1_code 5 = .ok (.sipush 320, 3) := by decide +kernel
theorem d2_8 : decode prog_30_method_1_code 8 = .ok (.anewarray 11, 3) := by decide +kernel
theorem d2_11 : decode prog_30_method_1_code 11 = .ok (.putfield 13, 3) := by decide +kernel
theorem d2_14 : decode prog_30_method_1_code 14 = .ok (.aload_n 0, 1) := by decide +kernel
theorem d2_15 : decode prog_30_method_1_code 15 = .ok (.iconst 5, 1) := by decide +kernel
theorem d2_16 : decode prog_30_method_1_code 16 = .ok (.newarray .long, 2) := by decide +kernel
theorem d2_18 : decode prog_30_method_1_code 18 = .ok (.putfield 17, 3) := by decide +kernel
theorem d2_21 : decode prog_30_method_1_code 21 = .ok (.aload_n 0, 1) := by decide +kernel
theorem d2_22 : decode prog_30_method_1_code 22 = .ok (.ldc2_w 21, 3) := by decide +kernel
theorem d2_25 : decode prog_30_method_1_code 25 = .ok (.putfield 23, 3) := by decide +kernel
theorem d2_28 : decode prog_30_method_1_code 28 = .ok (.aload_n 0, 1) := by decide +kernel
theorem d2_29 : decode prog_30_method_1_code 29 = .ok (.lload_n 1, 1) := by decide +kernel
theorem d2_30 : decode prog_30_method_1_code 30 = .ok (.putfield 27, 3) := by decide +kernel
theorem d2_33 : decode prog_30_method_1_code 33 = .ok (.return_, 1) := by decide +kernel
theorem pn_2_rmtw : plainFor (⟨"com/example/gull/gull/TimerWheel", "<init>", "(J)V"⟩ : MethodName) = true := plainFor_of_name (by first | (simp [plainName, overriddenIn]; done) | decide +kernel)
theorem ef_rmtw {w : Addr} {p1 : Int64} (m : MethodId) : entryFrame m #[.ref w, .long p1] 3 = mkF m 0 #[.val (.ref w), .val (.long p1), .second] [] := by first | (simp [entryFrame, mkF, argsToLocals, Value.category]; done) | rfl
set_option maxRecDepth 65536 in
set_option maxHeartbeats 40000000 in
theorem rmtw (l : Launch) (Z : State) (a0 : Array Value) (hw : ∀ d ∈ tables_1, d.before a0 Z = true) (w : Addr) (p1 : Int64) (h0 : Heap) (n0 : Nat) (Z0 : n0 ≤ h0.size) (E_w : Exa Z h0 w "com/example/gull/gull/TimerWheel") (F_slots : Fld Z h0 w "com/example/gull/gull/TimerWheel" "slots" "[Lcom/example/gull/gull/TimerWheel$Timer;" .null) (F_occupied : Fld Z h0 w "com/example/gull/gull/TimerWheel" "occupied" "[J" .null) (F_overflow : Fld Z h0 w "com/example/gull/gull/TimerWheel" "overflow" "Lcom/example/gull/gull/TimerWheel$Timer;" .null) (F_overflowEvent : Fld Z h0 w "com/example/gull/gull/TimerWheel" "overflowEvent" "J" (.long (0 : Int64))) (F_elapsed : Fld Z h0 w "com/example/gull/gull/TimerWheel" "elapsed" "J" (.long (0 : Int64))) (g_w : n0 ≤ w) :
    Met l Z (⟨"com/example/gull/gull/TimerWheel", "<init>", "(J)V"⟩ : MethodName) prog_30_method_1_code 3 none ({ frames := 1, cells := 2, slots := 325, locals := 20 } : Room) n0 #[.ref w, .long p1] h0 (fun v h => v = none ∧ ∃ sa oa ka ko, Ovr Z ka "com/example/gull/gull/TimerWheel$Timer" ∧ Whl Z h w sa oa ka ko (fun _ => .null) (fun _ => 0) .null (9223372036854775807 : Int64) p1 ∧ h0.size ≤ sa ∧ h0.size ≤ oa ∧ w ≠ sa ∧ w ≠ oa ∧ sa ≠ oa) := by
  have Kp0 := Keep.refl h0 [w]
  refine Met.of (Ls := #[.val (.ref w), .val (.long p1), .second]) pn_2_rmtw (fun m => ef_rmtw m) fun p e s m below meth c T0 P hP k0 => ?_
  refine s_aloadN k0 d2_0 rfl rfl (pc' := 1) rfl ?_
  obtain ⟨T1, X1, e1, q1⟩ := initO k0.1 k0.2.1 k0.2.2.1 k0.2.2.2.2.2.2.1 (hw _ (List.mem_of_getElem? (i := 11) rfl)) (hw _ (List.mem_of_getElem? (i := 12) rfl)) (hw _ (List.mem_of_getElem? (i := 13) rfl)) k0.2.2.2.1 (g := (mkF m 1 #[.val (.ref w), .val (.long p1), .second] [.ref w])) rfl k0.2.2.2.2.2.2.2.1.symm rfl (hb k0.2.2.2.2.2.1 d2_1) (by decide) (W := 0) (by show 2 * 0 + _ ≤ _; exact Nat.le_of_eq rfl) (by decide)
  refine Go.to q1 ?_
  have k1 := k_hp k0 X1 e1 k0.2.2.2.2.1
  show Go p e below P T1 (mkF m 4 #[.val (.ref w), .val (.long p1), .second] [])
  refine s_aloadN k1 d2_4 rfl rfl (pc' := 5) rfl ?_
  refine s_sipush k1 (z := 320) d2_5 (by decide) (pc' := 8) rfl ?_
  refine s_newR k1 (cap := 320) d2_8 (hw _ (List.mem_of_getElem? (i := 14) rfl)) (hw _ (List.mem_of_getElem? (i := 15) rfl)) (by decide) (by decide) (by decide) (by decide) (by decide) (pc' := 11) rfl fun T2 h2 b2 c2 q2 k2 X2 A2 O2 => ?_
  have ne_w_b2 : w ≠ b2 := Nat.ne_of_lt (Nat.lt_of_lt_of_eq E_w.lt q2.symm)
  have g_b2 : n0 ≤ b2 := Nat.le_trans Z0 (Nat.le_of_eq q2.symm)
  have sz_b2 : h0.size ≤ b2 := Nat.le_trans Kp0.1 (Nat.le_of_eq q2.symm)
  have F3_w_slots := F_slots.ext X2
  have F4_w_occupied := F_occupied.ext X2
  have F5_w_overflow := F_overflow.ext X2
  have F6_w_overflowEvent := F_overflowEvent.ext X2
  have F7_w_elapsed := F_elapsed.ext X2
  have E8_w := E_w.ext X2
  have Z9 := Nat.le_trans Z0 X2.1
  have Kp10 := Kp0.ext X2
  refine s_put k2 d2_11 (host := "") (Or.inl (hw _ (List.mem_of_getElem? (i := 16) rfl))) Via.refl F3_w_slots E8_w (Or.inr ⟨(hw _ (List.mem_of_getElem? (i := 17) rfl)), rfl, rfl⟩) (hw _ (List.mem_of_getElem? (i := 6) rfl)) (ty := (.array (.object "com/example/gull/gull/TimerWheel$Timer"))) (by decide) rfl rfl g_w (pc' := 14) rfl fun T11 h11 L11 k11 W11 => ?_
  have F12_w_slots := F3_w_slots.same W11
  have F13_w_occupied := F4_w_occupied.other W11 (Or.inr (slot_ne (Or.inr (hw _ (List.mem_of_getElem? (i := 20) rfl))) (Or.inr (hw _ (List.mem_of_getElem? (i := 17) rfl))) (by decide) (t := (.array .long)) (t' := (.array (.object "com/example/gull/gull/TimerWheel$Timer"))) (by decide) (by decide)))
  have F14_w_overflow := F5_w_overflow.other W11 (Or.inr (slot_ne (Or.inl (hw _ (List.mem_of_getElem? (i := 64) rfl))) (Or.inr (hw _ (List.mem_of_getElem? (i := 17) rfl))) (by decide) (t := (.object "com/example/gull/gull/TimerWheel$Timer")) (t' := (.array (.object "com/example/gull/gull/TimerWheel$Timer"))) (by decide) (by decide)))
  have F15_w_overflowEvent := F6_w_overflowEvent.other W11 (Or.inr (slot_ne (Or.inl (hw _ (List.mem_of_getElem? (i := 23) rfl))) (Or.inr (hw _ (List.mem_of_getElem? (i := 17) rfl))) (by decide) (t := .long) (t' := (.array (.object "com/example/gull/gull/TimerWheel$Timer"))) (by decide) (by decide)))
  have F16_w_elapsed := F7_w_elapsed.other W11 (Or.inr (slot_ne (Or.inl (hw _ (List.mem_of_getElem? (i := 25) rfl))) (Or.inr (hw _ (List.mem_of_getElem? (i := 17) rfl))) (by decide) (t := .long) (t' := (.array (.object "com/example/gull/gull/TimerWheel$Timer"))) (by decide) (by decide)))
  have E17_w := E8_w.wr W11
  have A18_b2 := A2.other W11 (Ne.symm ne_w_b2)
  have Z19 := Nat.le_trans Z9 (Keep.of_wr W11).1
  have Kp20 := Kp10.wr W11 (Or.inl (List.mem_of_getElem? (i := 0) rfl))
  refine s_aloadN k11 d2_14 rfl rfl (pc' := 15) rfl ?_
  refine s_iconst k11 (z := 5) d2_15 (by decide) (pc' := 16) rfl ?_
  refine s_newP k11 (cap := 5) d2_16 (hw _ (List.mem_of_getElem? (i := 18) rfl)) (by decide) (by decide) (by decide) (by decide) (by decide) (pc' := 18) rfl fun T21 h21 b21 c21 q21 k21 X21 A21 => ?_
  have ne_w_b21 : w ≠ b21 := Nat.ne_of_lt (Nat.lt_of_lt_of_eq E17_w.lt q21.symm)
  have ne_b2_b21 : b2 ≠ b21 := Nat.ne_of_lt (Nat.lt_of_lt_of_eq A18_b2.lt q21.symm)
  have g_b21 : n0 ≤ b21 := Nat.le_trans Z19 (Nat.le_of_eq q21.symm)
  have sz_b21 : h0.size ≤ b21 := Nat.le_trans Kp20.1 (Nat.le_of_eq q21.symm)
  have F22_w_slots := F12_w_slots.ext X21
  have F23_w_occupied := F13_w_occupied.ext X21
  have F24_w_overflow := F14_w_overflow.ext X21
  have F25_w_overflowEvent := F15_w_overflowEvent.ext X21
  have F26_w_elapsed := F16_w_elapsed.ext X21
  have E27_w := E17_w.ext X21
  have A28_b2 := A18_b2.ext X21
  have Z29 := Nat.le_trans Z19 X21.1
  have Kp30 := Kp20.ext X21
  have A21p : Arv Z h21 b21 c21 .long (5 : Int32) [(.long (0 : Int64)), (.long (0 : Int64)), (.long (0 : Int64)), (.long (0 : Int64)), (.long (0 : Int64))] (.long (0 : Int64)) := (show Arv Z h21 b21 c21 .long (5 : Int32) [] (.long (0 : Int64)) from A21).pad (pad_rep [] _ 5)
  refine s_put k21 d2_18 (host := "") (Or.inl (hw _ (List.mem_of_getElem? (i := 19) rfl))) Via.refl F23_w_occupied E27_w (Or.inr ⟨(hw _ (List.mem_of_getElem? (i := 20) rfl)), rfl, rfl⟩) (hw _ (List.mem_of_getElem? (i := 6) rfl)) (ty := (.array .long)) (by decide) rfl rfl g_w (pc' := 21) rfl fun T31 h31 L31 k31 W31 => ?_
  have F32_w_slots := F22_w_slots.other W31 (Or.inr (slot_ne (Or.inr (hw _ (List.mem_of_getElem? (i := 17) rfl))) (Or.inr (hw _ (List.mem_of_getElem? (i := 20) rfl))) (by decide) (t := (.array (.object "com/example/gull/gull/TimerWheel$Timer"))) (t' := (.array .long)) (by decide) (by decide)))
  have F33_w_occupied := F23_w_occupied.same W31
  have F34_w_overflow := F24_w_overflow.other W31 (Or.inr (slot_ne (Or.inl (hw _ (List.mem_of_getElem? (i := 64) rfl))) (Or.inr (hw _ (List.mem_of_getElem? (i := 20) rfl))) (by decide) (t := (.object "com/example/gull/gull/TimerWheel$Timer")) (t' := (.array .long)) (by decide) (by decide)))
  have F35_w_overflowEvent := F25_w_overflowEvent.other W31 (Or.inr (slot_ne (Or.inl (hw _ (List.mem_of_getElem? (i := 23) rfl))) (Or.inr (hw _ (List.mem_of_getElem? (i := 20) rfl))) (by decide) (t := .long) (t' := (.array .long)) (by decide) (by decide)))
  have F36_w_elapsed := F26_w_elapsed.other W31 (Or.inr (slot_ne (Or.inl (hw _ (List.mem_of_getElem? (i := 25) rfl))) (Or.inr (hw _ (List.mem_of_getElem? (i := 20) rfl))) (by decide) (t := .long) (t' := (.array .long)) (by decide) (by decide)))
  have E37_w := E27_w.wr W31
  have A38_b2 := A28_b2.other W31 (Ne.symm ne_w_b2)
  have A39_b21 := A21p.other W31 (Ne.symm ne_w_b21)
  have Z40 := Nat.le_trans Z29 (Keep.of_wr W31).1
  have Kp41 := Kp30.wr W31 (Or.inl (List.mem_of_getElem? (i := 0) rfl))
  refine s_aloadN k31 d2_21 rfl rfl (pc' := 22) rfl ?_
  refine s_ldcL k31 d2_22 (hw _ (List.mem_of_getElem? (i := 21) rfl)) (pc' := 25) rfl ?_
  refine s_put k31 d2_25 (host := "") (Or.inl (hw _ (List.mem_of_getElem? (i := 22) rfl))) Via.refl F35_w_overflowEvent E37_w (Or.inl (hw _ (List.mem_of_getElem? (i := 23) rfl))) (hw _ (List.mem_of_getElem? (i := 6) rfl)) (ty := .long) (by decide) rfl rfl g_w (pc' := 28) rfl fun T42 h42 L42 k42 W42 => ?_
  have F43_w_slots := F32_w_slots.other W42 (Or.inr (slot_ne (Or.inr (hw _ (List.mem_of_getElem? (i := 17) rfl))) (Or.inl (hw _ (List.mem_of_getElem? (i := 23) rfl))) (by decide) (t := (.array (.object "com/example/gull/gull/TimerWheel$Timer"))) (t' := .long) (by decide) (by decide)))
  have F44_w_occupied := F33_w_occupied.other W42 (Or.inr (slot_ne (Or.inr (hw _ (List.mem_of_getElem? (i := 20) rfl))) (Or.inl (hw _ (List.mem_of_getElem? (i := 23) rfl))) (by decide) (t := (.array .long)) (t' := .long) (by decide) (by decide)))
  have F45_w_overflow := F34_w_overflow.other W42 (Or.inr (slot_ne (Or.inl (hw _ (List.mem_of_getElem? (i := 64) rfl))) (Or.inl (hw _ (List.mem_of_getElem? (i := 23) rfl))) (by decide) (t := (.object "com/example/gull/gull/TimerWheel$Timer")) (t' := .long) (by decide) (by decide)))
  have F46_w_overflowEvent := F35_w_overflowEvent.same W42
  have F47_w_elapsed := F36_w_elapsed.other W42 (Or.inr (slot_ne (Or.inl (hw _ (List.mem_of_getElem? (i := 25) rfl))) (Or.inl (hw _ (List.mem_of_getElem? (i := 23) rfl))) (by decide) (t := .long) (t' := .long) (by decide) (by decide)))
  have E48_w := E37_w.wr W42
  have A49_b2 := A38_b2.other W42 (Ne.symm ne_w_b2)
  have A50_b21 := A39_b21.other W42 (Ne.symm ne_w_b21)
  have Z51 := Nat.le_trans Z40 (Keep.of_wr W42).1
  have Kp52 := Kp41.wr W42 (Or.inl (List.mem_of_getElem? (i := 0) rfl))
  refine s_aloadN k42 d2_28 rfl rfl (pc' := 29) rfl ?_
  refine s_lloadN k42 d2_29 rfl (pc' := 30) rfl ?_
  refine s_put k42 d2_30 (host := "") (Or.inl (hw _ (List.mem_of_getElem? (i := 24) rfl))) Via.refl F47_w_elapsed E48_w (Or.inl (hw _ (List.mem_of_getElem? (i := 25) rfl))) (hw _ (List.mem_of_getElem? (i := 6) rfl)) (ty := .long) (by decide) rfl rfl g_w (pc' := 33) rfl fun T53 h53 L53 k53 W53 => ?_
  have F54_w_slots := F43_w_slots.other W53 (Or.inr (slot_ne (Or.inr (hw _ (List.mem_of_getElem? (i := 17) rfl))) (Or.inl (hw _ (List.mem_of_getElem? (i := 25) rfl))) (by decide) (t := (.array (.object "com/example/gull/gull/TimerWheel$Timer"))) (t' := .long) (by decide) (by decide)))
  have F55_w_occupied := F44_w_occupied.other W53 (Or.inr (slot_ne (Or.inr (hw _ (List.mem_of_getElem? (i := 20) rfl))) (Or.inl (hw _ (List.mem_of_getElem? (i := 25) rfl))) (by decide) (t := (.array .long)) (t' := .long) (by decide) (by decide)))
  have F56_w_overflow := F45_w_overflow.other W53 (Or.inr (slot_ne (Or.inl (hw _ (List.mem_of_getElem? (i := 64) rfl))) (Or.inl (hw _ (List.mem_of_getElem? (i := 25) rfl))) (by decide) (t := (.object "com/example/gull/gull/TimerWheel$Timer")) (t' := .long) (by decide) (by decide)))
  have F57_w_overflowEvent := F46_w_overflowEvent.other W53 (Or.inr (slot_ne (Or.inl (hw _ (List.mem_of_getElem? (i := 23) rfl))) (Or.inl (hw _ (List.mem_of_getElem? (i := 25) rfl))) (by decide) (t := .long) (t' := .long) (by decide) (by decide)))
  have F58_w_elapsed := F47_w_elapsed.same W53
  have E59_w := E48_w.wr W53
  have A60_b2 := A49_b2.other W53 (Ne.symm ne_w_b2)
  have A61_b21 := A50_b21.other W53 (Ne.symm ne_w_b21)
  have Z62 := Nat.le_trans Z51 (Keep.of_wr W53).1
  have Kp63 := Kp52.wr W53 (Or.inl (List.mem_of_getElem? (i := 0) rfl))
  exact s_ret k53 d2_33 rfl hP (by decide) (by decide) ⟨rfl, b2, b21, _, _, O2, ⟨E59_w, F54_w_slots, F55_w_occupied, F56_w_overflow, F57_w_overflowEvent, F58_w_elapsed, Arf.of A60_b2 (by decide), Arf.ofV A61_b21 (by decide) (by decide)⟩, sz_b2, sz_b21, ne_w_b2, ne_w_b21, ne_b2_b21⟩
theorem d4_0 : decode prog_31_method_1_code 0 = .ok (.aload_n 0, 1) := by decide +kernel
theorem d4_1 : decode prog_31_method_1_code 1 = .ok (.invokespecial 3, 3) := by decide +kernel
theorem d4_4 : decode prog_31_method_1_code 4 = .ok (.aload_n 0, 1) := by decide +kernel
theorem d4_5 : decode prog_31_method_1_code 5 = .ok (.iconst (-1), 1) := by decide +kernel
theorem d4_6 : decode prog_31_method_1_code 6 = .ok (.putfield 9, 3) := by decide +kernel
theorem d4_9 : decode prog_31_method_1_code 9 = .ok (.aload_n 0, 1) := by decide +kernel
theorem d4_10 : decode prog_31_method_1_code 10 = .ok (.lload_n 1, 1) := by decide +kernel
theorem d4_11 : decode prog_31_method_1_code 11 = .ok (.putfield 15, 3) := by decide +kernel
theorem d4_14 : decode prog_31_method_1_code 14 = .ok (.return_, 1) := by decide +kernel
theorem pn_4_rmtt : plainFor (⟨"com/example/gull/gull/TimerWheel$Timer", "<init>", "(J)V"⟩ : MethodName) = true := plainFor_of_name (by first | (simp [plainName, overriddenIn]; done) | decide +kernel)
theorem ef_rmtt {t : Addr} {p1 : Int64} (m : MethodId) : entryFrame m #[.ref t, .long p1] 3 = mkF m 0 #[.val (.ref t), .val (.long p1), .second] [] := by first | (simp [entryFrame, mkF, argsToLocals, Value.category]; done) | rfl
set_option maxRecDepth 65536 in
set_option maxHeartbeats 40000000 in
theorem rmtt (l : Launch) (Z : State) (a0 : Array Value) (hw : ∀ d ∈ tables_1, d.before a0 Z = true) (t : Addr) (p1 : Int64) (h0 : Heap) (n0 : Nat) (Z0 : n0 ≤ h0.size) (E_t : Exa Z h0 t "com/example/gull/gull/TimerWheel$Timer") (F_place : Fld Z h0 t "com/example/gull/gull/TimerWheel$Timer" "place" "I" (.int (0 : Int32))) (F_deadline : Fld Z h0 t "com/example/gull/gull/TimerWheel$Timer" "deadline" "J" (.long (0 : Int64))) (F_next : Fld Z h0 t "com/example/gull/gull/TimerWheel$Timer" "next" "Lcom/example/gull/gull/TimerWheel$Timer;" .null) (F_previous : Fld Z h0 t "com/example/gull/gull/TimerWheel$Timer" "previous" "Lcom/example/gull/gull/TimerWheel$Timer;" .null) (g_t : n0 ≤ t) :
    Met l Z (⟨"com/example/gull/gull/TimerWheel$Timer", "<init>", "(J)V"⟩ : MethodName) prog_31_method_1_code 3 none ({ frames := 1, cells := 0, slots := 0, locals := 16 } : Room) n0 #[.ref t, .long p1] h0 (fun v h => v = none ∧ Keep h0 h [t] ∧ Tmr Z h t p1 (-1 : Int32) .null .null) := by
  have Kp0 := Keep.refl h0 [t]
  refine Met.of (Ls := #[.val (.ref t), .val (.long p1), .second]) pn_4_rmtt (fun m => ef_rmtt m) fun p e s m below meth c T0 P hP k0 => ?_
  refine s_aloadN k0 d4_0 rfl rfl (pc' := 1) rfl ?_
  obtain ⟨T1, X1, e1, q1⟩ := initO k0.1 k0.2.1 k0.2.2.1 k0.2.2.2.2.2.2.1 (hw _ (List.mem_of_getElem? (i := 32) rfl)) (hw _ (List.mem_of_getElem? (i := 12) rfl)) (hw _ (List.mem_of_getElem? (i := 13) rfl)) k0.2.2.2.1 (g := (mkF m 1 #[.val (.ref t), .val (.long p1), .second] [.ref t])) rfl k0.2.2.2.2.2.2.2.1.symm rfl (hb k0.2.2.2.2.2.1 d4_1) (by decide) (W := 0) (by show 2 * 0 + _ ≤ _; exact Nat.le_of_eq rfl) (by decide)
  refine Go.to q1 ?_
  have k1 := k_hp k0 X1 e1 k0.2.2.2.2.1
  show Go p e below P T1 (mkF m 4 #[.val (.ref t), .val (.long p1), .second] [])
  refine s_aloadN k1 d4_4 rfl rfl (pc' := 5) rfl ?_
  refine s_iconst k1 (z := -1) d4_5 (by decide) (pc' := 6) rfl ?_
  refine s_put k1 d4_6 (host := "") (Or.inl (hw _ (List.mem_of_getElem? (i := 33) rfl))) Via.refl F_place E_t (Or.inl (hw _ (List.mem_of_getElem? (i := 34) rfl))) (hw _ (List.mem_of_getElem? (i := 27) rfl)) (ty := .int) (by decide) rfl rfl g_t (pc' := 9) rfl fun T2 h2 L2 k2 W2 => ?_
  have F3_t_place := F_place.same W2
  have F4_t_deadline := F_deadline.other W2 (Or.inr (slot_ne (Or.inr (hw _ (List.mem_of_getElem? (i := 36) rfl))) (Or.inl (hw _ (List.mem_of_getElem? (i := 34) rfl))) (by decide) (t := .long) (t' := .int) (by decide) (by decide)))
  have F5_t_next := F_next.other W2 (Or.inr (slot_ne (Or.inl (hw _ (List.mem_of_getElem? (i := 54) rfl))) (Or.inl (hw _ (List.mem_of_getElem? (i := 34) rfl))) (by decide) (t := (.object "com/example/gull/gull/TimerWheel$Timer")) (t' := .int) (by decide) (by decide)))
  have F6_t_previous := F_previous.other W2 (Or.inr (slot_ne (Or.inl (hw _ (List.mem_of_getElem? (i := 62) rfl))) (Or.inl (hw _ (List.mem_of_getElem? (i := 34) rfl))) (by decide) (t := (.object "com/example/gull/gull/TimerWheel$Timer")) (t' := .int) (by decide) (by decide)))
  have E7_t := E_t.wr W2
  have Z8 := Nat.le_trans Z0 (Keep.of_wr W2).1
  have Kp9 := Kp0.wr W2 (Or.inl (List.mem_of_getElem? (i := 0) rfl))
  refine s_aloadN k2 d4_9 rfl rfl (pc' := 10) rfl ?_
  refine s_lloadN k2 d4_10 rfl (pc' := 11) rfl ?_
  refine s_put k2 d4_11 (host := "") (Or.inl (hw _ (List.mem_of_getElem? (i := 35) rfl))) Via.refl F4_t_deadline E7_t (Or.inr ⟨(hw _ (List.mem_of_getElem? (i := 36) rfl)), rfl, rfl⟩) (hw _ (List.mem_of_getElem? (i := 27) rfl)) (ty := .long) (by decide) rfl rfl g_t (pc' := 14) rfl fun T10 h10 L10 k10 W10 => ?_
  have F11_t_place := F3_t_place.other W10 (Or.inr (slot_ne (Or.inl (hw _ (List.mem_of_getElem? (i := 34) rfl))) (Or.inr (hw _ (List.mem_of_getElem? (i := 36) rfl))) (by decide) (t := .int) (t' := .long) (by decide) (by decide)))
  have F12_t_deadline := F4_t_deadline.same W10
  have F13_t_next := F5_t_next.other W10 (Or.inr (slot_ne (Or.inl (hw _ (List.mem_of_getElem? (i := 54) rfl))) (Or.inr (hw _ (List.mem_of_getElem? (i := 36) rfl))) (by decide) (t := (.object "com/example/gull/gull/TimerWheel$Timer")) (t' := .long) (by decide) (by decide)))
  have F14_t_previous := F6_t_previous.other W10 (Or.inr (slot_ne (Or.inl (hw _ (List.mem_of_getElem? (i := 62) rfl))) (Or.inr (hw _ (List.mem_of_getElem? (i := 36) rfl))) (by decide) (t := (.object "com/example/gull/gull/TimerWheel$Timer")) (t' := .long) (by decide) (by decide)))
  have E15_t := E7_t.wr W10
  have Z16 := Nat.le_trans Z8 (Keep.of_wr W10).1
  have Kp17 := Kp9.wr W10 (Or.inl (List.mem_of_getElem? (i := 0) rfl))
  exact s_ret k10 d4_14 rfl hP (by decide) (by decide) ⟨rfl, Kp17, ⟨E15_t, F12_t_deadline, F11_t_place, F13_t_next, F14_t_previous⟩⟩
theorem own_us (i : Int32) (y : Int32) (k : Nat) (hi : 0 ≤ i.toInt) (hk : ((y &&& 31).toUInt32).toNat = k) (h : k < 32) : (Jvm.Free.XT.ushr i y).toInt = i.toInt / 2 ^ k :=
  Jvm.Kit.i32_iushr (x := i) (Jvm.Kit.i32_nonneg.mpr hi) hk h
theorem own_leaf (c y : Int32) (n : Int) (hc : c.toInt = n) (h1 : 0 ≤ n) (h2 : n < 64) (hy : 0 ≤ y.toInt) (hy2 : y.toInt < 4) : (c - Jvm.Free.XT.ushr y (1 : Int32)).toInt = n - y.toInt / 2 := by
  have e : (Jvm.Free.XT.ushr y (1 : Int32)).toInt = y.toInt / 2 := own_us y (1 : Int32) 1 hy (by decide) (by decide)
  rw [Jvm.Kit.i32_sub (by rw [hc, e]; omega) (by rw [hc, e]; omega), hc, e]
theorem own_z31 (i : Int32) (h : 0 < i.toInt) : ∃ k : Nat, k ≤ 30 ∧ (fnz i).toInt = 31 - (k : Int) ∧ 2 ^ k ≤ i.toInt ∧ i.toInt < 2 ^ (k + 1) := by
  have hl := i.toInt_lt
  have d0 : (0 : Int32).toInt = 0 := by decide
  have d4 : (4 : Int32).toInt = 4 := by decide
  have d16 : (16 : Int32).toInt = 16 := by decide
  have d256 : (256 : Int32).toInt = 256 := by decide
  have dM : (65536 : Int32).toInt = 65536 := by decide
  have u16 := own_us i (16 : Int32) 16 (by omega) (by decide) (by decide)
  have u8 := own_us i (8 : Int32) 8 (by omega) (by decide) (by decide)
  have u4 := own_us i (4 : Int32) 4 (by omega) (by decide) (by decide)
  have u2 := own_us i (2 : Int32) 2 (by omega) (by decide) (by decide)
  have ua : ∀ y : Int32, 0 ≤ y.toInt → (Jvm.Free.XT.ushr y (8 : Int32)).toInt = y.toInt / 256 := fun y hy => own_us y (8 : Int32) 8 hy (by decide) (by decide)
  have ub : ∀ y : Int32, 0 ≤ y.toInt → (Jvm.Free.XT.ushr y (4 : Int32)).toInt = y.toInt / 16 := fun y hy => own_us y (4 : Int32) 4 hy (by decide) (by decide)
  have uc : ∀ y : Int32, 0 ≤ y.toInt → (Jvm.Free.XT.ushr y (2 : Int32)).toInt = y.toInt / 4 := fun y hy => own_us y (2 : Int32) 2 hy (by decide) (by decide)
  have fin : ∀ (c y : Int32) (n : Int) (a : Nat), c.toInt = n → n = 31 - (a : Int) → a ≤ 30 → 1 ≤ y.toInt → y.toInt < 4 → (y.toInt = 1 → 2 ^ a ≤ i.toInt ∧ i.toInt < 2 ^ (a + 1)) → (2 ≤ y.toInt → a + 1 ≤ 30 ∧ 2 ^ (a + 1) ≤ i.toInt ∧ i.toInt < 2 ^ (a + 2)) → ∃ k : Nat, k ≤ 30 ∧ (c - Jvm.Free.XT.ushr y (1 : Int32)).toInt = 31 - (k : Int) ∧ 2 ^ k ≤ i.toInt ∧ i.toInt < 2 ^ (k + 1) := by
    intro c y n a hc hn ha h1 h2 h3 h4
    have e := own_leaf c y n hc (by omega) (by omega) (by omega) h2
    by_cases q : y.toInt = 1
    · exact ⟨a, by omega, by rw [e]; omega, h3 q⟩
    · exact ⟨a + 1, (h4 (by omega)).1, by rw [e]; omega, (h4 (by omega)).2⟩
  rw [fnz_eq]
  have c0 : (0 : Int32) < i := by rw [Int32.lt_iff_toInt_lt, d0]; exact h
  rw [if_pos c0]
  by_cases c1 : i < (65536 : Int32)
  · rw [if_pos c1]
    rw [Int32.lt_iff_toInt_lt, dM] at c1
    by_cases c2 : i < (256 : Int32)
    · rw [if_pos c2]
      rw [Int32.lt_iff_toInt_lt, d256] at c2
      by_cases c3 : i < (16 : Int32)
      · rw [if_pos c3]
        rw [Int32.lt_iff_toInt_lt, d16] at c3
        by_cases c4 : i < (4 : Int32)
        · rw [if_pos c4]
          rw [Int32.lt_iff_toInt_lt, d4] at c4
          exact fin _ _ 31 0 (by decide) (by omega) (by omega) (by omega) (by omega) (by omega) (by omega)
        · rw [if_neg c4]
          rw [Int32.lt_iff_toInt_lt, d4] at c4
          exact fin _ _ 29 2 (by decide) (by omega) (by omega) (by omega) (by omega) (by omega) (by omega)
      · rw [if_neg c3]
        rw [Int32.lt_iff_toInt_lt, d16] at c3
        have v2 := uc (Jvm.Free.XT.ushr i (4 : Int32)) (by omega)
        by_cases c4 : (Jvm.Free.XT.ushr i (4 : Int32)) < (4 : Int32)
        · rw [if_pos c4]
          rw [Int32.lt_iff_toInt_lt, d4] at c4
          exact fin _ _ 27 4 (by decide) (by omega) (by omega) (by omega) (by omega) (by omega) (by omega)
        · rw [if_neg c4]
          rw [Int32.lt_iff_toInt_lt, d4] at c4
          exact fin _ _ 25 6 (by decide) (by omega) (by omega) (by omega) (by omega) (by omega) (by omega)
    · rw [if_neg c2]
      rw [Int32.lt_iff_toInt_lt, d256] at c2
      have v4 := ub (Jvm.Free.XT.ushr i (8 : Int32)) (by omega)
      by_cases c3 : (Jvm.Free.XT.ushr i (8 : Int32)) < (16 : Int32)
      · rw [if_pos c3]
        rw [Int32.lt_iff_toInt_lt, d16] at c3
        have v2 := uc (Jvm.Free.XT.ushr i (8 : Int32)) (by omega)
        by_cases c4 : (Jvm.Free.XT.ushr i (8 : Int32)) < (4 : Int32)
        · rw [if_pos c4]
          rw [Int32.lt_iff_toInt_lt, d4] at c4
          exact fin _ _ 23 8 (by decide) (by omega) (by omega) (by omega) (by omega) (by omega) (by omega)
        · rw [if_neg c4]
          rw [Int32.lt_iff_toInt_lt, d4] at c4
          exact fin _ _ 21 10 (by decide) (by omega) (by omega) (by omega) (by omega) (by omega) (by omega)
      · rw [if_neg c3]
        rw [Int32.lt_iff_toInt_lt, d16] at c3
        have v2 := uc (Jvm.Free.XT.ushr (Jvm.Free.XT.ushr i (8 : Int32)) (4 : Int32)) (by omega)
        by_cases c4 : (Jvm.Free.XT.ushr (Jvm.Free.XT.ushr i (8 : Int32)) (4 : Int32)) < (4 : Int32)
        · rw [if_pos c4]
          rw [Int32.lt_iff_toInt_lt, d4] at c4
          exact fin _ _ 19 12 (by decide) (by omega) (by omega) (by omega) (by omega) (by omega) (by omega)
        · rw [if_neg c4]
          rw [Int32.lt_iff_toInt_lt, d4] at c4
          exact fin _ _ 17 14 (by decide) (by omega) (by omega) (by omega) (by omega) (by omega) (by omega)
  · rw [if_neg c1]
    rw [Int32.lt_iff_toInt_lt, dM] at c1
    have v8 := ua (Jvm.Free.XT.ushr i (16 : Int32)) (by omega)
    by_cases c2 : (Jvm.Free.XT.ushr i (16 : Int32)) < (256 : Int32)
    · rw [if_pos c2]
      rw [Int32.lt_iff_toInt_lt, d256] at c2
      have v4 := ub (Jvm.Free.XT.ushr i (16 : Int32)) (by omega)
      by_cases c3 : (Jvm.Free.XT.ushr i (16 : Int32)) < (16 : Int32)
      · rw [if_pos c3]
        rw [Int32.lt_iff_toInt_lt, d16] at c3
        have v2 := uc (Jvm.Free.XT.ushr i (16 : Int32)) (by omega)
        by_cases c4 : (Jvm.Free.XT.ushr i (16 : Int32)) < (4 : Int32)
        · rw [if_pos c4]
          rw [Int32.lt_iff_toInt_lt, d4] at c4
          exact fin _ _ 15 16 (by decide) (by omega) (by omega) (by omega) (by omega) (by omega) (by omega)
        · rw [if_neg c4]
          rw [Int32.lt_iff_toInt_lt, d4] at c4
          exact fin _ _ 13 18 (by decide) (by omega) (by omega) (by omega) (by omega) (by omega) (by omega)
      · rw [if_neg c3]
        rw [Int32.lt_iff_toInt_lt, d16] at c3
        have v2 := uc (Jvm.Free.XT.ushr (Jvm.Free.XT.ushr i (16 : Int32)) (4 : Int32)) (by omega)
        by_cases c4 : (Jvm.Free.XT.ushr (Jvm.Free.XT.ushr i (16 : Int32)) (4 : Int32)) < (4 : Int32)
        · rw [if_pos c4]
          rw [Int32.lt_iff_toInt_lt, d4] at c4
          exact fin _ _ 11 20 (by decide) (by omega) (by omega) (by omega) (by omega) (by omega) (by omega)
        · rw [if_neg c4]
          rw [Int32.lt_iff_toInt_lt, d4] at c4
          exact fin _ _ 9 22 (by decide) (by omega) (by omega) (by omega) (by omega) (by omega) (by omega)
    · rw [if_neg c2]
      rw [Int32.lt_iff_toInt_lt, d256] at c2
      have v4 := ub (Jvm.Free.XT.ushr (Jvm.Free.XT.ushr i (16 : Int32)) (8 : Int32)) (by omega)
      by_cases c3 : (Jvm.Free.XT.ushr (Jvm.Free.XT.ushr i (16 : Int32)) (8 : Int32)) < (16 : Int32)
      · rw [if_pos c3]
        rw [Int32.lt_iff_toInt_lt, d16] at c3
        have v2 := uc (Jvm.Free.XT.ushr (Jvm.Free.XT.ushr i (16 : Int32)) (8 : Int32)) (by omega)
        by_cases c4 : (Jvm.Free.XT.ushr (Jvm.Free.XT.ushr i (16 : Int32)) (8 : Int32)) < (4 : Int32)
        · rw [if_pos c4]
          rw [Int32.lt_iff_toInt_lt, d4] at c4
          exact fin _ _ 7 24 (by decide) (by omega) (by omega) (by omega) (by omega) (by omega) (by omega)
        · rw [if_neg c4]
          rw [Int32.lt_iff_toInt_lt, d4] at c4
          exact fin _ _ 5 26 (by decide) (by omega) (by omega) (by omega) (by omega) (by omega) (by omega)
      · rw [if_neg c3]
        rw [Int32.lt_iff_toInt_lt, d16] at c3
        have v2 := uc (Jvm.Free.XT.ushr (Jvm.Free.XT.ushr (Jvm.Free.XT.ushr i (16 : Int32)) (8 : Int32)) (4 : Int32)) (by omega)
        by_cases c4 : (Jvm.Free.XT.ushr (Jvm.Free.XT.ushr (Jvm.Free.XT.ushr i (16 : Int32)) (8 : Int32)) (4 : Int32)) < (4 : Int32)
        · rw [if_pos c4]
          rw [Int32.lt_iff_toInt_lt, d4] at c4
          exact fin _ _ 3 28 (by decide) (by omega) (by omega) (by omega) (by omega) (by omega) (by omega)
        · rw [if_neg c4]
          rw [Int32.lt_iff_toInt_lt, d4] at c4
          exact fin _ _ 1 30 (by decide) (by omega) (by omega) (by omega) (by omega) (by omega) (by omega)
theorem own_zall (i : Int32) (h : i.toBitVec.toNat ≠ 0) : ∃ k : Nat, k ≤ 31 ∧ (fnz i).toInt = 31 - (k : Int) ∧ 2 ^ k ≤ i.toBitVec.toNat ∧ i.toBitVec.toNat < 2 ^ (k + 1) := by
  have hb := i.toBitVec.isLt
  have et : i.toInt = i.toBitVec.toInt := rfl
  rw [BitVec.toInt_eq_toNat_cond] at et
  by_cases c : 2 * i.toBitVec.toNat < 2 ^ 32
  · rw [if_pos c] at et
    obtain ⟨k, h1, h2, h3, h4⟩ := own_z31 i (by omega)
    refine ⟨k, by omega, h2, ?_, ?_⟩
    · rw [et] at h3; exact_mod_cast h3
    · rw [et] at h4; exact_mod_cast h4
  · rw [if_neg c] at et
    have c0 : ¬ (0 : Int32) < i := by
      rw [Int32.lt_iff_toInt_lt, show (0 : Int32).toInt = 0 from by decide]; omega
    have c1 : ¬ i = (0 : Int32) := by
      intro q; rw [q] at h; exact h (by decide)
    refine ⟨31, by omega, ?_, by omega, by omega⟩
    rw [fnz_eq, if_neg c0, if_neg c1]
    decide
theorem own_shn (x : Int64) (y : Int32) (k : Nat) (hk : (y.toInt64.toUInt64 &&& Int64.toUInt64 63).toNat = k) (h : k < 64) : (Jvm.Free.XT.ushrL x y).toBitVec.toNat = x.toBitVec.toNat / 2 ^ k := by
  show (x.toUInt64 >>> (y.toInt64.toUInt64 &&& Int64.toUInt64 63)).toNat = _
  rw [UInt64.toNat_shiftRight, hk, Nat.mod_eq_of_lt h, Nat.shiftRight_eq_div_pow]
  rfl
theorem own_nlz (x : Int64) (h : x.toBitVec.toNat ≠ 0) : ∃ k : Nat, k ≤ 63 ∧ (fnlz x).toInt = 63 - (k : Int) ∧ 2 ^ k ≤ x.toBitVec.toNat ∧ x.toBitVec.toNat < 2 ^ (k + 1) := by
  have hb := x.toBitVec.isLt
  have e := own_shn x (32 : Int32) 32 (by decide) (by decide)
  have ehi : (Jvm.Free.XT.ushrL x (32 : Int32)).toInt32.toBitVec.toNat = x.toBitVec.toNat / 2 ^ 32 := by
    show (BitVec.signExtend 32 (Jvm.Free.XT.ushrL x (32 : Int32)).toBitVec).toNat = _
    rw [BitVec.signExtend_eq_setWidth_of_le _ (by decide), BitVec.toNat_setWidth, e]
    omega
  have elo : x.toInt32.toBitVec.toNat = x.toBitVec.toNat % 2 ^ 32 := by
    show (BitVec.signExtend 32 x.toBitVec).toNat = _
    rw [BitVec.signExtend_eq_setWidth_of_le _ (by decide), BitVec.toNat_setWidth]
  have z32 : (32 : Int32).toInt = 32 := by decide
  rw [fnlz_eq]
  by_cases c : (Jvm.Free.XT.ushrL x (32 : Int32)).toInt32 = (0 : Int32)
  · rw [if_pos c]
    rw [c] at ehi
    have z0 : (0 : Int32).toBitVec.toNat = 0 := by decide
    rw [z0] at ehi
    have hx : x.toBitVec.toNat < 2 ^ 32 := by omega
    obtain ⟨k, h1, h2, h3, h4⟩ := own_zall x.toInt32 (by omega)
    refine ⟨k, by omega, ?_, by omega, by omega⟩
    rw [Jvm.Kit.i32_add (by rw [h2, z32]; omega) (by rw [h2, z32]; omega), h2, z32]
    omega
  · rw [if_neg c]
    have hn : (Jvm.Free.XT.ushrL x (32 : Int32)).toInt32.toBitVec.toNat ≠ 0 := by
      intro q
      apply c
      apply Int32.toBitVec_inj.mp
      apply BitVec.eq_of_toNat_eq
      rw [q]; rfl
    obtain ⟨k, h1, h2, h3, h4⟩ := own_zall _ hn
    rw [ehi] at h3 h4
    refine ⟨k + 32, by omega, by rw [h2]; omega, ?_, ?_⟩
    · rw [Nat.pow_add]; exact (Nat.le_div_iff_mul_le (by decide)).mp h3
    · rw [show k + 32 + 1 = (k + 1) + 32 from by omega, Nat.pow_add]; exact (Nat.div_lt_iff_lt_mul (by decide)).mp h4
def gLV (el d : Int64) : Int32 := (((63 : Int32) - (fnlz (el ^^^ d))) / (6 : Int32))
def gSV (el d : Int64) : Int32 := ((Jvm.Free.XT.ushrL d (gLV el d * (6 : Int32))).toInt32 &&& (63 : Int32))
def gPL (el d : Int64) : Int32 := ((gLV el d * (64 : Int32)) + gSV el d)
def gLI (el d : Int64) : Nat := (gLV el d).toNatClampNeg
def gPI (el d : Int64) : Nat := (gPL el d).toNatClampNeg
def gB (el d : Int64) : Int64 := ((1 : Int64) <<< ((gSV el d).toInt64 &&& 63))
theorem own_pw (k m X : Nat) (h1 : 2 ^ k ≤ X) (h2 : X < 2 ^ (k + 1)) : X < 2 ^ m ↔ k < m := by
  constructor
  · intro h
    exact Nat.lt_of_not_le fun q => absurd (Nat.pow_le_pow_right (by decide : 0 < 2) q) (by omega)
  · intro h
    exact Nat.lt_of_lt_of_le h2 (Nat.pow_le_pow_right (by decide) h)
theorem own_sh0 (x : Int64) (y : Int32) (k : Nat) (hk : (y.toInt64.toUInt64 &&& Int64.toUInt64 63).toNat = k) (h : k < 64) : Jvm.Free.XT.ushrL x y = (0 : Int64) ↔ x.toBitVec.toNat < 2 ^ k := by
  have e := own_shn x y k hk h
  constructor
  · intro q
    rw [q] at e
    have z : (0 : Int64).toBitVec.toNat = 0 := by decide
    rw [z] at e
    exact (Nat.div_eq_zero_iff_lt (Nat.pow_pos (by decide))).mp e.symm
  · intro q
    apply Int64.toBitVec_inj.mp
    apply BitVec.eq_of_toNat_eq
    rw [e, Nat.div_eq_of_lt q]; rfl
theorem own_xne (el d : Int64) (h : el < d) : (el ^^^ d).toBitVec.toNat ≠ 0 := by
  intro q
  have e : el.toBitVec ^^^ d.toBitVec = 0#64 := BitVec.eq_of_toNat_eq q
  have e2 : el.toBitVec = d.toBitVec := BitVec.xor_eq_zero_iff.mp e
  have e3 : el = d := Int64.toBitVec_inj.mp e2
  rw [e3] at h
  exact Int64.lt_irrefl h
/-- the number of the highest bit in which the two differ -/
theorem own_top (el d : Int64) (h : el < d) : ∃ k : Nat, k ≤ 63 ∧ (gLV el d).toInt = ((k / 6 : Nat) : Int) ∧ 2 ^ k ≤ (el ^^^ d).toBitVec.toNat ∧ (el ^^^ d).toBitVec.toNat < 2 ^ (k + 1) := by
  obtain ⟨k, h1, h2, h3, h4⟩ := own_nlz (el ^^^ d) (own_xne el d h)
  refine ⟨k, h1, ?_, h3, h4⟩
  have d63 : (63 : Int32).toInt = 63 := by decide
  have d6 : (6 : Int32).toInt = 6 := by decide
  have e1 : ((63 : Int32) - (fnlz (el ^^^ d))).toInt = k := by rw [Jvm.Kit.i32_sub (by rw [h2, d63]; omega) (by rw [h2, d63]; omega), h2, d63]; omega
  show ((((63 : Int32) - (fnlz (el ^^^ d))) / (6 : Int32))).toInt = _
  rw [Jvm.Kit.i32_div (by rw [d6]; omega), e1, d6, Int.tdiv_eq_ediv_of_nonneg (by omega)]
  omega
theorem own_lv (el d : Int64) (h : el < d) : flv el d = if gLV el d < (5 : Int32) then gLV el d else (5 : Int32) := by
  obtain ⟨k, h1, h2, h3, h4⟩ := own_top el d h
  have d5 : (5 : Int32).toInt = 5 := by decide
  have d4 : (4 : Int32).toInt = 4 := by decide
  have d3 : (3 : Int32).toInt = 3 := by decide
  have d2 : (2 : Int32).toInt = 2 := by decide
  have d1 : (1 : Int32).toInt = 1 := by decide
  have d0 : (0 : Int32).toInt = 0 := by decide
  apply Int32.toInt_inj.mp
  rw [flv_eq]
  simp only [own_sh0 (el ^^^ d) (6 : Int32) 6 (by decide) (by decide), own_sh0 (el ^^^ d) (12 : Int32) 12 (by decide) (by decide), own_sh0 (el ^^^ d) (18 : Int32) 18 (by decide) (by decide), own_sh0 (el ^^^ d) (24 : Int32) 24 (by decide) (by decide), own_sh0 (el ^^^ d) (30 : Int32) 30 (by decide) (by decide), own_pw k _ _ h3 h4, Int32.lt_iff_toInt_lt, h2, d5]
  repeat' split
  all_goals simp only [d0, d1, d2, d3, d4, d5, h2]
  all_goals omega
theorem own_ge (el d : Int64) (h : el < d) : 0 ≤ (gLV el d).toInt := by
  obtain ⟨k, h1, h2, h3, h4⟩ := own_top el d h
  omega
theorem own_sv (el d : Int64) : 0 ≤ (gSV el d).toInt ∧ (gSV el d).toInt < 64 := by
  have e : (gSV el d).toInt = (Jvm.Free.XT.ushrL d (gLV el d * (6 : Int32))).toInt32.toInt % 2 ^ 6 := Jvm.Kit.i32_mask _ 63 (k := 6) (by decide) (by decide)
  omega
theorem own_pl (el d : Int64) (h : el < d) (h5 : gLV el d < (5 : Int32)) : (gPL el d).toInt = (gLV el d).toInt * 64 + (gSV el d).toInt ∧ (gLV el d).toInt < 5 := by
  have a := own_ge el d h
  have b := own_sv el d
  have d5 : (5 : Int32).toInt = 5 := by decide
  have d64 : (64 : Int32).toInt = 64 := by decide
  rw [Int32.lt_iff_toInt_lt, d5] at h5
  have e1 : (gLV el d * (64 : Int32)).toInt = (gLV el d).toInt * 64 := by rw [Jvm.Kit.i32_mul (by rw [d64]; omega) (by rw [d64]; omega), d64]
  refine ⟨?_, h5⟩
  show ((gLV el d * (64 : Int32)) + gSV el d).toInt = _
  rw [Jvm.Kit.i32_add (by rw [e1]; omega) (by rw [e1]; omega), e1]
theorem own_clamp (z : Int32) : z.toNatClampNeg = z.toInt.toNat := rfl
/-- all that a slot's numbers owe -/
theorem own_slot (el d : Int64) (h : el < d) (h5 : gLV el d < (5 : Int32)) : ¬ gLV el d < 0 ∧ gLI el d < 5 ∧ ¬ gPL el d < 0 ∧ gPI el d < 320 ∧ gPL el d / (64 : Int32) = gLV el d ∧ gPL el d % (64 : Int32) = gSV el d ∧ ¬ gPL el d = (-1 : Int32) ∧ ¬ gPL el d = (-2 : Int32) := by
  obtain ⟨a, b⟩ := own_pl el d h h5
  have c := own_ge el d h
  have s := own_sv el d
  have d0 : (0 : Int32).toInt = 0 := by decide
  have d64 : (64 : Int32).toInt = 64 := by decide
  have m1 : (-1 : Int32).toInt = -1 := by decide
  have m2 : (-2 : Int32).toInt = -2 := by decide
  refine ⟨?_, ?_, ?_, ?_, ?_, ?_, ?_, ?_⟩
  · rw [Int32.lt_iff_toInt_lt, d0]; omega
  · unfold gLI; rw [own_clamp]; omega
  · rw [Int32.lt_iff_toInt_lt, d0]; omega
  · unfold gPI; rw [own_clamp]; omega
  · apply Int32.toInt_inj.mp
    rw [Jvm.Kit.i32_div (by rw [d64]; omega), d64, Int.tdiv_eq_ediv_of_nonneg (by omega)]; omega
  · apply Int32.toInt_inj.mp
    rw [Jvm.Kit.i32_rem_nonneg (by omega), d64]; omega
  · rw [← Int32.toInt_inj, m1]; omega
  · rw [← Int32.toInt_inj, m2]; omega
theorem own_same (el d1 d2 : Int64) (h1 : el < d1) (h2 : el < d2) (a1 : gLV el d1 < (5 : Int32)) (a2 : gLV el d2 < (5 : Int32)) (e : gPI el d1 = gPI el d2) : gLV el d1 = gLV el d2 ∧ gSV el d1 = gSV el d2 := by
  obtain ⟨p1, q1⟩ := own_pl el d1 h1 a1
  obtain ⟨p2, q2⟩ := own_pl el d2 h2 a2
  have c1 := own_ge el d1 h1
  have c2 := own_ge el d2 h2
  have s1 := own_sv el d1
  have s2 := own_sv el d2
  unfold gPI at e
  rw [own_clamp, own_clamp] at e
  constructor
  · apply Int32.toInt_inj.mp; omega
  · apply Int32.toInt_inj.mp; omega
theorem own_svn (el d : Int64) : ∃ n : Nat, n < 64 ∧ gSV el d = Int32.ofNat n := by
  have h := own_sv el d
  refine ⟨(gSV el d).toInt.toNat, by omega, ?_⟩
  apply Int32.toInt_inj.mp
  rw [Int32.toInt_ofNat_of_lt (by omega)]
  omega
theorem own_tz : ∀ n : Nat, n < 64 → fntz ((1 : Int64) <<< ((Int32.ofNat n).toInt64 &&& 63)) = Int32.ofNat n := by decide +kernel
theorem own_b0 : ∀ n : Nat, n < 64 → ¬ ((1 : Int64) <<< ((Int32.ofNat n).toInt64 &&& 63)) = 0 := by decide +kernel
theorem own_bn : ∀ n : Nat, n < 64 → ∀ m : Nat, m < 64 → n ≠ m → ((1 : Int64) <<< ((Int32.ofNat n).toInt64 &&& 63)) &&& (((1 : Int64) <<< ((Int32.ofNat m).toInt64 &&& 63)) ^^^ (-1 : Int64)) = ((1 : Int64) <<< ((Int32.ofNat n).toInt64 &&& 63)) := by decide +kernel
theorem own_ntz (el d : Int64) : fntz (gB el d) = gSV el d := by
  obtain ⟨n, hn, e⟩ := own_svn el d
  unfold gB; rw [e]; exact own_tz n hn
theorem own_bne (el d : Int64) : ¬ gB el d = 0 := by
  obtain ⟨n, hn, e⟩ := own_svn el d
  unfold gB; rw [e]; exact own_b0 n hn
theorem own_out (x : Int64) : x &&& (x ^^^ (-1 : Int64)) = 0 := by
  apply Int64.toBitVec_inj.mp
  apply BitVec.eq_of_getLsbD_eq
  intro i hi
  have m : ∀ i : Nat, i < 64 → ((-1 : Int64).toBitVec).getLsbD i = true := by decide
  simp only [Int64.toBitVec_and, Int64.toBitVec_xor, BitVec.getLsbD_and, BitVec.getLsbD_xor, m i hi]
  cases x.toBitVec.getLsbD i <;> simp
theorem own_or_out (x y : Int64) (h : y &&& (x ^^^ (-1 : Int64)) = y) : (x ||| y) &&& (x ^^^ (-1 : Int64)) = y ∧ (y ||| x) &&& (x ^^^ (-1 : Int64)) = y := by
  have e : ∀ a b c : Int64, (a ||| b) &&& c = (a &&& c) ||| (b &&& c) := by
    intro a b c
    apply Int64.toBitVec_inj.mp
    apply BitVec.eq_of_getLsbD_eq
    intro i hi
    simp only [Int64.toBitVec_and, Int64.toBitVec_or, BitVec.getLsbD_and, BitVec.getLsbD_or]
    cases a.toBitVec.getLsbD i <;> cases b.toBitVec.getLsbD i <;> cases c.toBitVec.getLsbD i <;> rfl
  rw [e, e, own_out, h]
  exact ⟨Int64.zero_or, Int64.or_zero⟩
theorem own_bb (el d1 d2 : Int64) (h : gSV el d1 ≠ gSV el d2) : gB el d1 &&& (gB el d2 ^^^ (-1 : Int64)) = gB el d1 := by
  obtain ⟨n, hn, e⟩ := own_svn el d1
  obtain ⟨m, hm, f⟩ := own_svn el d2
  unfold gB; rw [e, f]
  exact own_bn n hn m hm (fun q => h (by rw [e, f, q]))
theorem own_bits (e d m1 m0 : BitVec 64) (j : Nat) (hj : j + 6 ≤ 32) (hx : (e ^^^ d) >>> (j + 6) = 0#64) (h1 : ∀ i, i < 64 → m1.getLsbD i = decide (j + 6 ≤ i)) (h0 : ∀ i, i < 64 → m0.getLsbD i = decide (j ≤ i)) :
    (e &&& m1) ||| ((BitVec.signExtend 64 (BitVec.signExtend 32 (d >>> j) &&& 63#32)) <<< j) = d &&& m0 := by
  apply BitVec.eq_of_getLsbD_eq
  intro i hi
  have m63 : ∀ i : Nat, i < 32 → (63#32).getLsbD i = decide (i < 6) := by decide
  have hms : (BitVec.signExtend 32 (d >>> j) &&& 63#32).msb = false := by
    rw [BitVec.msb_and]
    have : (63#32).msb = false := by decide
    rw [this, Bool.and_false]
  have hag : j + 6 ≤ i → e.getLsbD i = d.getLsbD i := by
    intro q
    have z := congrArg (fun b => BitVec.getLsbD b (i - (j + 6))) hx
    simp only [BitVec.getLsbD_ushiftRight, BitVec.getLsbD_xor, BitVec.getLsbD_zero] at z
    rw [show j + 6 + (i - (j + 6)) = i from by omega] at z
    revert z
    cases e.getLsbD i <;> cases d.getLsbD i <;> simp
  have hse : ∀ n, n < 64 → (BitVec.signExtend 64 (BitVec.signExtend 32 (d >>> j) &&& 63#32)).getLsbD n = (d.getLsbD (j + n) && decide (n < 6)) := by
    intro n hn
    rw [BitVec.signExtend_eq_setWidth_of_msb_false hms, BitVec.getLsbD_setWidth, BitVec.getLsbD_and, BitVec.signExtend_eq_setWidth_of_le _ (by decide), BitVec.getLsbD_setWidth, BitVec.getLsbD_ushiftRight]
    by_cases q : n < 32
    · rw [m63 n q]; simp [hn, q]
    · have q6 : ¬ n < 6 := by omega
      rw [BitVec.getLsbD_of_ge (63#32) n (by omega)]; simp [q6]
  rw [BitVec.getLsbD_or, BitVec.getLsbD_and, BitVec.getLsbD_and, BitVec.getLsbD_shiftLeft, h1 i hi, h0 i hi]
  by_cases c1 : i < j
  · have a1 : ¬ j + 6 ≤ i := by omega
    have a2 : ¬ j ≤ i := by omega
    simp [c1, a1, a2]
  · rw [hse (i - j) (by omega), show j + (i - j) = i from by omega]
    have a2 : j ≤ i := by omega
    by_cases c2 : j + 6 ≤ i
    · have a3 : ¬ i - j < 6 := by omega
      rw [hag c2]
      simp [c1, c2, a2, a3]
    · have a3 : i - j < 6 := by omega
      simp [c1, c2, a2, a3, hi]
theorem own_mask : ∀ j : Nat, j < 33 → ∀ i : Nat, i < 64 → ((-((1 : Int64) <<< ((Int32.ofNat j).toInt64 &&& 63))).toBitVec).getLsbD i = decide (j ≤ i) := by decide +kernel
theorem own_hx (el d : Int64) (h : el < d) (L : Nat) (hL : (gLV el d).toInt = (L : Int)) : (el.toBitVec ^^^ d.toBitVec) >>> (6 * L + 6) = 0#64 := by
  obtain ⟨k, h1, h2, h3, h4⟩ := own_top el d h
  apply BitVec.eq_of_toNat_eq
  rw [BitVec.toNat_ushiftRight, Nat.shiftRight_eq_div_pow]
  exact Nat.div_eq_of_lt ((own_pw k _ _ h3 h4).mpr (by omega))
theorem own_event (el d : Int64) (h : el < d) (h5 : gLV el d < (5 : Int32)) : ((el &&& (-((1 : Int64) <<< (((gLV el d * (6 : Int32)) + (6 : Int32)).toInt64 &&& 63)))) ||| ((gSV el d).toInt64 <<< ((gLV el d * (6 : Int32)).toInt64 &&& 63))) = fev el d := by
  have hx := own_hx el d h
  have g0 := own_ge el d h
  have d5 : (5 : Int32).toInt = 5 := by decide
  have h5' := h5
  rw [Int32.lt_iff_toInt_lt, d5] at h5'
  have hc : gLV el d = (0 : Int32) ∨ gLV el d = (1 : Int32) ∨ gLV el d = (2 : Int32) ∨ gLV el d = (3 : Int32) ∨ gLV el d = (4 : Int32) := by
    have d4 : (4 : Int32).toInt = 4 := by decide
    have d3 : (3 : Int32).toInt = 3 := by decide
    have d2 : (2 : Int32).toInt = 2 := by decide
    have d1 : (1 : Int32).toInt = 1 := by decide
    have d0 : (0 : Int32).toInt = 0 := by decide
    simp only [← Int32.toInt_inj, d0, d1, d2, d3, d4]
    omega
  rw [fev_eq, own_lv el d h, if_pos h5]
  unfold gSV
  rcases hc with q | q | q | q | q
  all_goals rw [q] at hx ⊢
  all_goals apply Int64.toBitVec_inj.mp
  · exact own_bits el.toBitVec d.toBitVec _ _ 0 (by decide) (hx 0 (by decide)) (own_mask 6 (by decide)) (own_mask 0 (by decide))
  · exact own_bits el.toBitVec d.toBitVec _ _ 6 (by decide) (hx 1 (by decide)) (own_mask 12 (by decide)) (own_mask 6 (by decide))
  · exact own_bits el.toBitVec d.toBitVec _ _ 12 (by decide) (hx 2 (by decide)) (own_mask 18 (by decide)) (own_mask 12 (by decide))
  · exact own_bits el.toBitVec d.toBitVec _ _ 18 (by decide) (hx 3 (by decide)) (own_mask 24 (by decide)) (own_mask 18 (by decide))
  · exact own_bits el.toBitVec d.toBitVec _ _ 24 (by decide) (hx 4 (by decide)) (own_mask 30 (by decide)) (own_mask 24 (by decide))
theorem own_evO (el d : Int64) (h : el < d) (h5 : ¬ gLV el d < (5 : Int32)) : fev el d = d &&& (-1073741824 : Int64) := by
  rw [fev_eq, own_lv el d h, if_neg h5]
  have e : (-((1 : Int64) <<< (((6 : Int32) * (5 : Int32)).toInt64 &&& 63))) = (-1073741824 : Int64) := by decide
  rw [e]
theorem own_minM (y : Int64) : fmin (9223372036854775807 : Int64) y = y := by
  rw [fmin_eq]
  split
  · rfl
  · rename_i q
    have dm : (9223372036854775807 : Int64).toInt = 9223372036854775807 := by decide
    have := y.toInt_lt
    rw [Int64.lt_iff_toInt_lt, dm] at q
    apply Int64.toInt_inj.mp
    rw [dm]; omega
theorem own_minC (x y : Int64) : fmin x y = fmin y x := by
  rw [fmin_eq, fmin_eq]
  simp only [Int64.lt_iff_toInt_lt]
  split <;> split <;> first | rfl | (apply Int64.toInt_inj.mp; omega) | (exfalso; omega)
def nul : Nat → Value := fun _ => .null
def zer : Nat → Int64 := fun _ => 0
def gE (d : Int64) : Int64 := d &&& (-1073741824 : Int64)
def ga (el d : Int64) : Int32 := if el < d then 1 else 0
theorem ga_pos {el d : Int64} (h : el < d) : ga el d = 1 := if_pos h
theorem ga_neg {el d : Int64} (h : ¬ el < d) : ga el d = 0 := if_neg h
/-- the wheel holds the timer o alone, if any -/
def One (Z : State) (h : Heap) (w sa oa : Addr) (ka ko : ClassId) (el : Int64) (o : Addr) (d oe : Int64) : Prop :=
  (¬ el < d ∧ Whl Z h w sa oa ka ko nul zer .null (9223372036854775807 : Int64) el ∧ Tmr Z h o d (-1 : Int32) .null .null) ∨
  (el < d ∧ gLV el d < (5 : Int32) ∧ Whl Z h w sa oa ka ko (upd nul (gPI el d) (.ref o)) (updL zer (gLI el d) (gB el d)) .null (9223372036854775807 : Int64) el ∧ Tmr Z h o d (gPL el d) .null .null) ∨
  (el < d ∧ ¬ gLV el d < (5 : Int32) ∧ Whl Z h w sa oa ka ko nul zer (.ref o) oe el ∧ Tmr Z h o d (-2 : Int32) .null .null)
def oc2 (el d1 d2 : Int64) : Nat → Int64 := updL (updL zer (gLI el d1) (gB el d1)) (gLI el d2) ((updL zer (gLI el d1) (gB el d1) (gLI el d2)) ||| gB el d2)
def sl2 (el d1 d2 : Int64) (t1 t2 : Addr) : Nat → Value := upd (upd nul (gPI el d1) (.ref t1)) (gPI el d2) (.ref t2)
/-- t1 has been added, then t2 -/
def Two (Z : State) (h : Heap) (w sa oa : Addr) (ka ko : ClassId) (el : Int64) (t1 t2 : Addr) (d1 d2 : Int64) : Prop :=
  (¬ el < d1 ∧ Tmr Z h t1 d1 (-1 : Int32) .null .null ∧ One Z h w sa oa ka ko el t2 d2 (gE d2)) ∨
  (¬ el < d2 ∧ Tmr Z h t2 d2 (-1 : Int32) .null .null ∧ One Z h w sa oa ka ko el t1 d1 (gE d1)) ∨
  ((el < d1 ∧ gLV el d1 < (5 : Int32)) ∧ (el < d2 ∧ gLV el d2 < (5 : Int32)) ∧ gPI el d1 ≠ gPI el d2 ∧ Whl Z h w sa oa ka ko (sl2 el d1 d2 t1 t2) (oc2 el d1 d2) .null (9223372036854775807 : Int64) el ∧ Tmr Z h t1 d1 (gPL el d1) .null .null ∧ Tmr Z h t2 d2 (gPL el d2) .null .null) ∨
  ((el < d1 ∧ gLV el d1 < (5 : Int32)) ∧ (el < d2 ∧ gLV el d2 < (5 : Int32)) ∧ gPI el d1 = gPI el d2 ∧ Whl Z h w sa oa ka ko (sl2 el d1 d2 t1 t2) (oc2 el d1 d2) .null (9223372036854775807 : Int64) el ∧ Tmr Z h t1 d1 (gPL el d1) .null (.ref t2) ∧ Tmr Z h t2 d2 (gPL el d2) (.ref t1) .null) ∨
  ((el < d1 ∧ gLV el d1 < (5 : Int32)) ∧ (el < d2 ∧ ¬ gLV el d2 < (5 : Int32)) ∧ Whl Z h w sa oa ka ko (upd nul (gPI el d1) (.ref t1)) (updL zer (gLI el d1) (gB el d1)) (.ref t2) (gE d2) el ∧ Tmr Z h t1 d1 (gPL el d1) .null .null ∧ Tmr Z h t2 d2 (-2 : Int32) .null .null) ∨
  ((el < d1 ∧ ¬ gLV el d1 < (5 : Int32)) ∧ (el < d2 ∧ gLV el d2 < (5 : Int32)) ∧ Whl Z h w sa oa ka ko (upd nul (gPI el d2) (.ref t2)) (updL zer (gLI el d2) (gB el d2)) (.ref t1) (gE d1) el ∧ Tmr Z h t1 d1 (-2 : Int32) .null .null ∧ Tmr Z h t2 d2 (gPL el d2) .null .null) ∨
  ((el < d1 ∧ ¬ gLV el d1 < (5 : Int32)) ∧ (el < d2 ∧ ¬ gLV el d2 < (5 : Int32)) ∧ Whl Z h w sa oa ka ko nul zer (.ref t2) (fmin (gE d1) (gE d2)) el ∧ Tmr Z h t1 d1 (-2 : Int32) .null (.ref t2) ∧ Tmr Z h t2 d2 (-2 : Int32) (.ref t1) .null)
theorem Ctx.swap {n0 : Nat} {w sa oa t q : Addr} (C : Ctx n0 w sa oa t q) : Ctx n0 w sa oa q t := by
  obtain ⟨⟨a, b, c, d, e⟩, n1, n2, n3, n4, n5, n6, n7, n8, n9, n10⟩ := C
  exact ⟨⟨a, b, c, e, d⟩, n1, n2, n4, n3, n5, n7, n6, n9, n8, n10.symm⟩
theorem own_zor (el d : Int64) (i : Nat) : zer i ||| gB el d = gB el d := Int64.zero_or
theorem own_gB (el d : Int64) : ((1 : Int64) <<< ((gSV el d).toInt64 &&& 63)) = gB el d := rfl
section Abs
variable {l : Launch} {Z : State} {a0 : Array Value} {w sa oa t1 t2 : Addr} {ka ko : ClassId} {el d1 d2 : Int64} {h0 : Heap} {n0 : Nat}
/-- a timer of a slot is added where nothing lies -/
theorem abs_addS (hw : ∀ d ∈ tables_1, d.before a0 Z = true) (Z0 : n0 ≤ h0.size) {S : Nat → Value} {Oc : Nat → Int64} {oe dq : Int64} {pq : Int32} {nq vq ov : Value} {t q : Addr} {d : Int64} (Cx : Ctx n0 w sa oa t q) (O : Ovr Z ka "com/example/gull/gull/TimerWheel$Timer") (HW : Whl Z h0 w sa oa ka ko S Oc ov oe el) (HT : Tmr Z h0 t d (-1 : Int32) .null .null) (HQ : Tmr Z h0 q dq pq nq vq)
    (hd : el < d) (h5 : gLV el d < (5 : Int32)) (hS : S (gPI el d) = .null) :
    MAdd l Z n0 w t h0 (fun v h => v = some (.int 1) ∧ Whl Z h w sa oa ka ko (upd S (gPI el d) (.ref t)) (updL Oc (gLI el d) (Oc (gLI el d) ||| gB el d)) ov oe el ∧ Tmr Z h t d (gPL el d) .null .null ∧ Tmr Z h q dq pq nq vq) := by
  obtain ⟨f1, f2, f3, f4, f5, f6, f7, f8⟩ := own_slot el d hd h5
  exact addS l Z a0 hw w sa oa t q ka ko el S Oc oe d dq (-1 : Int32) pq nq vq ov (gLV el d) (gSV el d) (gPL el d) (gLI el d) (gPI el d) h0 n0 Z0 Cx O HW HT HQ hd rfl h5 rfl rfl f3 rfl f4 f1 rfl f2 hS
theorem abs_addSq (hw : ∀ d ∈ tables_1, d.before a0 Z = true) (Z0 : n0 ≤ h0.size) {S : Nat → Value} {Oc : Nat → Int64} {oe dq : Int64} {pq : Int32} {nq vq ov : Value} {t q : Addr} {d : Int64} (Cx : Ctx n0 w sa oa t q) (O : Ovr Z ka "com/example/gull/gull/TimerWheel$Timer") (HW : Whl Z h0 w sa oa ka ko S Oc ov oe el) (HT : Tmr Z h0 t d (-1 : Int32) .null .null) (HQ : Tmr Z h0 q dq pq nq vq)
    (hd : el < d) (h5 : gLV el d < (5 : Int32)) (hS : S (gPI el d) = .ref q) :
    MAdd l Z n0 w t h0 (fun v h => v = some (.int 1) ∧ Whl Z h w sa oa ka ko (upd S (gPI el d) (.ref t)) (updL Oc (gLI el d) (Oc (gLI el d) ||| gB el d)) ov oe el ∧ Tmr Z h t d (gPL el d) (.ref q) .null ∧ Tmr Z h q dq pq nq (.ref t)) := by
  obtain ⟨f1, f2, f3, f4, f5, f6, f7, f8⟩ := own_slot el d hd h5
  exact addSq l Z a0 hw w sa oa t q ka ko el S Oc oe d dq (-1 : Int32) pq nq vq ov (gLV el d) (gSV el d) (gPL el d) (gLI el d) (gPI el d) h0 n0 Z0 Cx O HW HT HQ hd rfl h5 rfl rfl f3 rfl f4 f1 rfl f2 hS
/-- the first timer is added -/
theorem abs_add1 (hw : ∀ d ∈ tables_1, d.before a0 Z = true) (Z0 : n0 ≤ h0.size) (Cx : Ctx n0 w sa oa t1 t2) (O : Ovr Z ka "com/example/gull/gull/TimerWheel$Timer") (HW : Whl Z h0 w sa oa ka ko nul zer .null (9223372036854775807 : Int64) el) (H1 : Tmr Z h0 t1 d1 (-1 : Int32) .null .null) (H2 : Tmr Z h0 t2 d2 (-1 : Int32) .null .null) :
    MAdd l Z n0 w t1 h0 (fun v h => v = some (.int (ga el d1)) ∧ One Z h w sa oa ka ko el t1 d1 (gE d1) ∧ Tmr Z h t2 d2 (-1 : Int32) .null .null) := by
  by_cases hd : el < d1
  · rw [ga_pos hd]
    by_cases h5 : gLV el d1 < (5 : Int32)
    · refine (abs_addS hw Z0 Cx O HW H1 H2 hd h5 rfl).mono fun v h ⟨q1, q2, q3, q4⟩ => ⟨q1, Or.inr (Or.inl ⟨hd, h5, ?_, q3⟩), q4⟩
      rw [own_zor] at q2; exact q2
    · refine (addO l Z a0 hw w sa oa t1 t2 ka ko el nul zer (9223372036854775807 : Int64) d1 d2 (-1 : Int32) (-1 : Int32) .null .null (gLV el d1) h0 n0 Z0 Cx O HW H1 H2 hd rfl h5).mono fun v h ⟨q1, q2, q3, q4⟩ => ⟨q1, Or.inr (Or.inr ⟨hd, h5, ?_, q3⟩), q4⟩
      rw [own_minM] at q2; exact q2
  · rw [ga_neg hd]
    exact (addN l Z a0 hw w sa oa t1 t2 ka ko el nul zer (9223372036854775807 : Int64) d1 d2 (-1 : Int32) (-1 : Int32) .null .null .null h0 n0 Z0 Cx O HW H1 H2 hd).mono fun v h ⟨q1, q2⟩ => ⟨q1, Or.inl ⟨hd, q2 ▸ HW, q2 ▸ H1⟩, q2 ▸ H2⟩
/-- the second -/
theorem abs_add2 (hw : ∀ d ∈ tables_1, d.before a0 Z = true) (Z0 : n0 ≤ h0.size) (Cx : Ctx n0 w sa oa t1 t2) (O : Ovr Z ka "com/example/gull/gull/TimerWheel$Timer") (H1 : One Z h0 w sa oa ka ko el t1 d1 (gE d1)) (H2 : Tmr Z h0 t2 d2 (-1 : Int32) .null .null) :
    MAdd l Z n0 w t2 h0 (fun v h => v = some (.int (ga el d2)) ∧ Two Z h w sa oa ka ko el t1 t2 d1 d2) := by
  have Cy := Cx.swap
  by_cases hd : el < d2
  · rw [ga_pos hd]
    by_cases h5 : gLV el d2 < (5 : Int32)
    · rcases H1 with ⟨a, HW, HT⟩ | ⟨a, b, HW, HT⟩ | ⟨a, b, HW, HT⟩
      · refine (abs_addS hw Z0 Cy O HW H2 HT hd h5 rfl).mono fun v h ⟨q1, q2, q3, q4⟩ => ⟨q1, Or.inl ⟨a, q4, Or.inr (Or.inl ⟨hd, h5, ?_, q3⟩)⟩⟩
        rw [own_zor] at q2; exact q2
      · by_cases c : gPI el d1 = gPI el d2
        · exact (abs_addSq hw Z0 Cy O HW H2 HT hd h5 (by rw [← c]; exact upd_same _ _ _)).mono fun v h ⟨q1, q2, q3, q4⟩ => ⟨q1, Or.inr (Or.inr (Or.inr (Or.inl ⟨⟨a, b⟩, ⟨hd, h5⟩, c, q2, q4, q3⟩)))⟩
        · exact (abs_addS hw Z0 Cy O HW H2 HT hd h5 (if_neg (Ne.symm c))).mono fun v h ⟨q1, q2, q3, q4⟩ => ⟨q1, Or.inr (Or.inr (Or.inl ⟨⟨a, b⟩, ⟨hd, h5⟩, c, q2, q4, q3⟩))⟩
      · refine (abs_addS hw Z0 Cy O HW H2 HT hd h5 rfl).mono fun v h ⟨q1, q2, q3, q4⟩ => ⟨q1, Or.inr (Or.inr (Or.inr (Or.inr (Or.inr (Or.inl ⟨⟨a, b⟩, ⟨hd, h5⟩, ?_, q4, q3⟩)))))⟩
        rw [own_zor] at q2; exact q2
    · rcases H1 with ⟨a, HW, HT⟩ | ⟨a, b, HW, HT⟩ | ⟨a, b, HW, HT⟩
      · refine (addO l Z a0 hw w sa oa t2 t1 ka ko el _ _ _ d2 d1 (-1 : Int32) (-1 : Int32) .null .null (gLV el d2) h0 n0 Z0 Cy O HW H2 HT hd rfl h5).mono fun v h ⟨q1, q2, q3, q4⟩ => ⟨q1, Or.inl ⟨a, q4, Or.inr (Or.inr ⟨hd, h5, ?_, q3⟩)⟩⟩
        rw [own_minM] at q2; exact q2
      · refine (addO l Z a0 hw w sa oa t2 t1 ka ko el _ _ _ d2 d1 (-1 : Int32) (gPL el d1) .null .null (gLV el d2) h0 n0 Z0 Cy O HW H2 HT hd rfl h5).mono fun v h ⟨q1, q2, q3, q4⟩ => ⟨q1, Or.inr (Or.inr (Or.inr (Or.inr (Or.inl ⟨⟨a, b⟩, ⟨hd, h5⟩, ?_, q4, q3⟩))))⟩
        rw [own_minM] at q2; exact q2
      · exact (addOq l Z a0 hw w sa oa t2 t1 ka ko el _ _ _ d2 d1 (-1 : Int32) (-2 : Int32) .null .null (gLV el d2) h0 n0 Z0 Cy O HW H2 HT hd rfl h5).mono fun v h ⟨q1, q2, q3, q4⟩ => ⟨q1, Or.inr (Or.inr (Or.inr (Or.inr (Or.inr (Or.inr ⟨⟨a, b⟩, ⟨hd, h5⟩, q2, q4, q3⟩)))))⟩
  · rw [ga_neg hd]
    rcases H1 with ⟨a, HW, HT⟩ | ⟨a, b, HW, HT⟩ | ⟨a, b, HW, HT⟩
    · exact (addN l Z a0 hw w sa oa t2 t1 ka ko el _ _ _ d2 d1 (-1 : Int32) (-1 : Int32) .null .null .null h0 n0 Z0 Cy O HW H2 HT hd).mono fun v h ⟨q1, q2⟩ => ⟨q1, Or.inr (Or.inl ⟨hd, q2 ▸ H2, Or.inl ⟨a, q2 ▸ HW, q2 ▸ HT⟩⟩)⟩
    · exact (addN l Z a0 hw w sa oa t2 t1 ka ko el _ _ _ d2 d1 (-1 : Int32) (gPL el d1) .null .null .null h0 n0 Z0 Cy O HW H2 HT hd).mono fun v h ⟨q1, q2⟩ => ⟨q1, Or.inr (Or.inl ⟨hd, q2 ▸ H2, Or.inr (Or.inl ⟨a, b, q2 ▸ HW, q2 ▸ HT⟩)⟩)⟩
    · exact (addN l Z a0 hw w sa oa t2 t1 ka ko el _ _ _ d2 d1 (-1 : Int32) (-2 : Int32) .null .null (.ref t1) h0 n0 Z0 Cy O HW H2 HT hd).mono fun v h ⟨q1, q2⟩ => ⟨q1, Or.inr (Or.inl ⟨hd, q2 ▸ H2, Or.inr (Or.inr ⟨a, b, q2 ▸ HW, q2 ▸ HT⟩)⟩)⟩
theorem fu_1 (i : Nat) (a : Value) : upd (upd nul i a) i .null = nul := by funext q; simp only [Jvm.OwnGo.upd, nul]; split <;> rfl
theorem fu_2 {i j : Nat} (a b : Value) (h : i ≠ j) : upd (upd (upd nul i a) j b) j .null = upd nul i a := by
  funext q; simp only [Jvm.OwnGo.upd, nul]; by_cases c : q = j
  · subst c; simp [Ne.symm h]
  · simp [c]
theorem fu_3 {i j : Nat} (a b : Value) (h : i ≠ j) : upd (upd (upd nul i a) j b) i .null = upd nul j b := by
  funext q; simp only [Jvm.OwnGo.upd, nul]; by_cases c : q = i
  · subst c; simp [h]
  · simp [c]
theorem fu_4 (i : Nat) (a b : Value) : upd (upd nul i a) i b = upd nul i b := by
  funext q; simp only [Jvm.OwnGo.upd, nul]; by_cases c : q = i <;> simp [c]
theorem fu_5 (i : Nat) (a b c : Value) : upd (upd (upd nul i a) i b) i c = upd nul i c := by
  funext q; simp only [Jvm.OwnGo.upd, nul]; by_cases c : q = i <;> simp [c]
theorem fo_1 (el d : Int64) : updL (updL zer (gLI el d) (gB el d)) (gLI el d) ((updL zer (gLI el d) (gB el d) (gLI el d)) &&& (gB el d ^^^ (-1 : Int64))) = zer := by
  have e : updL zer (gLI el d) (gB el d) (gLI el d) = gB el d := if_pos rfl
  rw [e, own_out]
  funext q; simp only [Jvm.OwnGo.updL, zer]; by_cases c : q = gLI el d <;> simp [c]
theorem own_diff (el d1 d2 : Int64) (h1 : el < d1 ∧ gLV el d1 < (5 : Int32)) (h2 : el < d2 ∧ gLV el d2 < (5 : Int32)) (hp : gPI el d1 ≠ gPI el d2) (hl : gLI el d1 = gLI el d2) : gSV el d1 ≠ gSV el d2 := by
  intro q
  apply hp
  obtain ⟨p1, q1⟩ := own_pl el d1 h1.1 h1.2
  obtain ⟨p2, q2⟩ := own_pl el d2 h2.1 h2.2
  have c1 := own_ge el d1 h1.1
  have c2 := own_ge el d2 h2.1
  unfold gLI at hl
  rw [own_clamp, own_clamp] at hl
  unfold gPI
  rw [own_clamp, own_clamp, p1, p2, q]
  omega
theorem fo_2 (el d1 d2 : Int64) (h1 : el < d1 ∧ gLV el d1 < (5 : Int32)) (h2 : el < d2 ∧ gLV el d2 < (5 : Int32)) (hp : gPI el d1 ≠ gPI el d2) : updL (oc2 el d1 d2) (gLI el d2) ((oc2 el d1 d2 (gLI el d2)) &&& (gB el d2 ^^^ (-1 : Int64))) = updL zer (gLI el d1) (gB el d1) := by
  have e : oc2 el d1 d2 (gLI el d2) = (updL zer (gLI el d1) (gB el d1) (gLI el d2)) ||| gB el d2 := if_pos rfl
  rw [e]
  by_cases c : gLI el d1 = gLI el d2
  · have e2 : updL zer (gLI el d1) (gB el d1) (gLI el d2) = gB el d1 := if_pos c.symm
    rw [e2, (own_or_out (gB el d2) (gB el d1) (own_bb el d1 d2 (own_diff el d1 d2 h1 h2 hp c))).2]
    funext q; simp only [Jvm.OwnGo.updL, zer, oc2]; by_cases z : q = gLI el d2
    · rw [if_pos z, if_pos (z.trans c.symm)]
    · rw [if_neg z, if_neg z]
  · have e2 : updL zer (gLI el d1) (gB el d1) (gLI el d2) = 0 := if_neg (Ne.symm c)
    rw [e2, show (0 : Int64) ||| gB el d2 = gB el d2 from Int64.zero_or, own_out]
    funext q; simp only [Jvm.OwnGo.updL, zer, oc2]; by_cases z : q = gLI el d2
    · rw [if_pos z, if_neg (fun y => c (y.symm.trans z))]
    · rw [if_neg z, if_neg z]
theorem fo_3 (el d1 d2 : Int64) (h1 : el < d1 ∧ gLV el d1 < (5 : Int32)) (h2 : el < d2 ∧ gLV el d2 < (5 : Int32)) (hp : gPI el d1 ≠ gPI el d2) : updL (oc2 el d1 d2) (gLI el d1) ((oc2 el d1 d2 (gLI el d1)) &&& (gB el d1 ^^^ (-1 : Int64))) = updL zer (gLI el d2) (gB el d2) := by
  by_cases c : gLI el d1 = gLI el d2
  · have e2 : updL zer (gLI el d1) (gB el d1) (gLI el d2) = gB el d1 := if_pos c.symm
    have e : oc2 el d1 d2 (gLI el d1) = gB el d1 ||| gB el d2 := by
      show (if gLI el d1 = gLI el d2 then _ else _) = _
      rw [if_pos c, e2]
    rw [e, (own_or_out (gB el d1) (gB el d2) (own_bb el d2 d1 (Ne.symm (own_diff el d1 d2 h1 h2 hp c)))).1]
    funext q; simp only [Jvm.OwnGo.updL, zer, oc2]; by_cases z : q = gLI el d1
    · rw [if_pos z, if_pos (z.trans c)]
    · rw [if_neg z, if_neg (fun y => z (y.trans c.symm)), if_neg z, if_neg (fun y => z (y.trans c.symm))]
  · have e2 : updL zer (gLI el d1) (gB el d1) (gLI el d2) = 0 := if_neg (Ne.symm c)
    have e : oc2 el d1 d2 (gLI el d1) = gB el d1 := by
      show (if gLI el d1 = gLI el d2 then _ else _) = _
      rw [if_neg c]; exact if_pos rfl
    rw [e, own_out]
    funext q; simp only [oc2, e2]; simp only [Jvm.OwnGo.updL, zer]; by_cases z : q = gLI el d1
    · rw [if_pos z, if_neg (fun y => c (z.symm.trans y))]
    · rw [if_neg z]; by_cases y : q = gLI el d2
      · rw [if_pos y, if_pos y]; exact Int64.zero_or
      · rw [if_neg y, if_neg y, if_neg z]
theorem fo_4 (el d1 d2 : Int64) (h1 : el < d1 ∧ gLV el d1 < (5 : Int32)) (h2 : el < d2 ∧ gLV el d2 < (5 : Int32)) (hp : gPI el d1 = gPI el d2) : oc2 el d1 d2 = updL zer (gLI el d1) (gB el d1) ∧ oc2 el d1 d2 = updL zer (gLI el d2) (gB el d2) := by
  obtain ⟨a, b⟩ := own_same el d1 d2 h1.1 h2.1 h1.2 h2.2 hp
  have c : gLI el d1 = gLI el d2 := by unfold gLI; rw [a]
  have e : gB el d1 = gB el d2 := by unfold gB; rw [b]
  have e2 : updL zer (gLI el d2) (gB el d2) (gLI el d2) = gB el d2 := if_pos rfl
  have r : oc2 el d1 d2 = updL zer (gLI el d2) (gB el d2) := by
    unfold oc2
    rw [c, e, e2, show gB el d2 ||| gB el d2 = gB el d2 from Int64.or_self]
    funext q; simp only [Jvm.OwnGo.updL, zer]; by_cases z : q = gLI el d2 <;> simp [z]
  refine ⟨?_, r⟩
  rw [r, c, e]
/-- the one timer is removed -/
theorem abs_remOne (hw : ∀ d ∈ tables_1, d.before a0 Z = true) (Z0 : n0 ≤ h0.size) {t q : Addr} {d oe dq : Int64} {pq : Int32} {nq vq : Value} (Cx : Ctx n0 w sa oa t q) (O : Ovr Z ka "com/example/gull/gull/TimerWheel$Timer") (H : One Z h0 w sa oa ka ko el t d oe) (HQ : Tmr Z h0 q dq pq nq vq) :
    MRem l Z n0 w t h0 (fun v h => v = none ∧ Whl Z h w sa oa ka ko nul zer .null (9223372036854775807 : Int64) el ∧ Tmr Z h t d (-1 : Int32) .null .null ∧ Tmr Z h q dq pq nq vq) := by
  rcases H with ⟨a, HW, HT⟩ | ⟨a, b, HW, HT⟩ | ⟨a, b, HW, HT⟩
  · exact (remN l Z a0 hw w sa oa t q ka ko el _ _ _ d dq pq nq vq .null h0 n0 Z0 Cx O HW HT HQ).mono fun v h ⟨q1, q2⟩ => ⟨q1, q2 ▸ HW, q2 ▸ HT, q2 ▸ HQ⟩
  · obtain ⟨f1, f2, f3, f4, f5, f6, f7, f8⟩ := own_slot el d a b
    refine (remS l Z a0 hw w sa oa t q ka ko el _ _ _ d dq pq nq vq (gLV el d) (gSV el d) (gPL el d) (gLI el d) (gPI el d) h0 n0 Z0 Cx O HW HT HQ f7 f8 f3 rfl f4 f5 f6 f1 rfl f2).mono fun v h ⟨q1, q2, q3, q4⟩ => ⟨q1, ?_, q3, q4⟩
    rw [fu_1, own_gB, fo_1] at q2; exact q2
  · exact remO l Z a0 hw w sa oa t q ka ko el _ _ _ d dq pq nq vq h0 n0 Z0 Cx O HW HT HQ
/-- the second timer is removed -/
theorem abs_rem2 (hw : ∀ d ∈ tables_1, d.before a0 Z = true) (Z0 : n0 ≤ h0.size) (Cx : Ctx n0 w sa oa t1 t2) (O : Ovr Z ka "com/example/gull/gull/TimerWheel$Timer") (H : Two Z h0 w sa oa ka ko el t1 t2 d1 d2) :
    MRem l Z n0 w t2 h0 (fun v h => v = none ∧ ∃ oe, One Z h w sa oa ka ko el t1 d1 oe ∧ Tmr Z h t2 d2 (-1 : Int32) .null .null ∧ (oe = gE d1 ∨ ((el < d1 ∧ ¬ gLV el d1 < (5 : Int32)) ∧ (el < d2 ∧ ¬ gLV el d2 < (5 : Int32)) ∧ oe = fmin (gE d1) (gE d2)))) := by
  have Cy := Cx.swap
  rcases H with ⟨a, HT, H⟩ | ⟨a, HT, H⟩ | ⟨a, b, c, HW, H1, H2⟩ | ⟨a, b, c, HW, H1, H2⟩ | ⟨a, b, HW, H1, H2⟩ | ⟨a, b, HW, H1, H2⟩ | ⟨a, b, HW, H1, H2⟩
  · exact (abs_remOne hw Z0 Cy O H HT).mono fun v h ⟨q1, q2, q3, q4⟩ => ⟨q1, gE d1, Or.inl ⟨a, q2, q4⟩, q3, Or.inl rfl⟩
  · rcases H with ⟨x, HW, H1⟩ | ⟨x, y, HW, H1⟩ | ⟨x, y, HW, H1⟩
    · exact (remN l Z a0 hw w sa oa t2 t1 ka ko el _ _ _ d2 d1 _ _ _ _ h0 n0 Z0 Cy O HW HT H1).mono fun v h ⟨q1, q2⟩ => ⟨q1, gE d1, Or.inl ⟨x, q2 ▸ HW, q2 ▸ H1⟩, q2 ▸ HT, Or.inl rfl⟩
    · exact (remN l Z a0 hw w sa oa t2 t1 ka ko el _ _ _ d2 d1 _ _ _ _ h0 n0 Z0 Cy O HW HT H1).mono fun v h ⟨q1, q2⟩ => ⟨q1, gE d1, Or.inr (Or.inl ⟨x, y, q2 ▸ HW, q2 ▸ H1⟩), q2 ▸ HT, Or.inl rfl⟩
    · exact (remN l Z a0 hw w sa oa t2 t1 ka ko el _ _ _ d2 d1 _ _ _ _ h0 n0 Z0 Cy O HW HT H1).mono fun v h ⟨q1, q2⟩ => ⟨q1, gE d1, Or.inr (Or.inr ⟨x, y, q2 ▸ HW, q2 ▸ H1⟩), q2 ▸ HT, Or.inl rfl⟩
  · obtain ⟨f1, f2, f3, f4, f5, f6, f7, f8⟩ := own_slot el d2 b.1 b.2
    refine (remS l Z a0 hw w sa oa t2 t1 ka ko el _ _ _ d2 d1 _ _ _ (gLV el d2) (gSV el d2) (gPL el d2) (gLI el d2) (gPI el d2) h0 n0 Z0 Cy O HW H2 H1 f7 f8 f3 rfl f4 f5 f6 f1 rfl f2).mono fun v h ⟨q1, q2, q3, q4⟩ => ⟨q1, gE d1, Or.inr (Or.inl ⟨a.1, a.2, ?_, q4⟩), q3, Or.inl rfl⟩
    rw [own_gB, fo_2 el d1 d2 a b c, show upd (sl2 el d1 d2 t1 t2) (gPI el d2) .null = _ from fu_2 _ _ c] at q2; exact q2
  · obtain ⟨f1, f2, f3, f4, f5, f6, f7, f8⟩ := own_slot el d2 b.1 b.2
    refine (remSh l Z a0 hw w sa oa t2 t1 ka ko el _ _ _ d2 d1 _ _ _ (gPL el d2) (gPI el d2) h0 n0 Z0 Cy O HW H2 H1 f7 f8 f3 rfl f4).mono fun v h ⟨q1, q2, q3, q4⟩ => ⟨q1, gE d1, Or.inr (Or.inl ⟨a.1, a.2, ?_, q4⟩), q3, Or.inl rfl⟩
    rw [(fo_4 el d1 d2 a b c).1, show upd (sl2 el d1 d2 t1 t2) (gPI el d2) (.ref t1) = upd nul (gPI el d1) (.ref t1) from by unfold sl2; rw [← c]; exact fu_5 _ _ _ _] at q2; exact q2
  · exact (remO l Z a0 hw w sa oa t2 t1 ka ko el _ _ _ d2 d1 _ _ _ h0 n0 Z0 Cy O HW H2 H1).mono fun v h ⟨q1, q2, q3, q4⟩ => ⟨q1, gE d1, Or.inr (Or.inl ⟨a.1, a.2, q2, q4⟩), q3, Or.inl rfl⟩
  · obtain ⟨f1, f2, f3, f4, f5, f6, f7, f8⟩ := own_slot el d2 b.1 b.2
    refine (remSo l Z a0 hw w sa oa t2 t1 ka ko el _ _ _ d2 d1 _ _ _ (gLV el d2) (gSV el d2) (gPL el d2) (gLI el d2) (gPI el d2) h0 n0 Z0 Cy O HW H2 H1 f7 f8 f3 rfl f4 f5 f6 f1 rfl f2).mono fun v h ⟨q1, q2, q3, q4⟩ => ⟨q1, gE d1, Or.inr (Or.inr ⟨a.1, a.2, ?_, q4⟩), q3, Or.inl rfl⟩
    rw [fu_1, own_gB, fo_1] at q2; exact q2
  · exact (remOh l Z a0 hw w sa oa t2 t1 ka ko el _ _ _ d2 d1 _ _ _ h0 n0 Z0 Cy O HW H2 H1).mono fun v h ⟨q1, q2, q3, q4⟩ => ⟨q1, fmin (gE d1) (gE d2), Or.inr (Or.inr ⟨a.1, a.2, q2, q4⟩), q3, Or.inr ⟨a, b, rfl⟩⟩
/-- the first timer is removed -/
theorem abs_rem1 (hw : ∀ d ∈ tables_1, d.before a0 Z = true) (Z0 : n0 ≤ h0.size) (Cx : Ctx n0 w sa oa t1 t2) (O : Ovr Z ka "com/example/gull/gull/TimerWheel$Timer") (H : Two Z h0 w sa oa ka ko el t1 t2 d1 d2) :
    MRem l Z n0 w t1 h0 (fun v h => v = none ∧ ∃ oe, One Z h w sa oa ka ko el t2 d2 oe ∧ Tmr Z h t1 d1 (-1 : Int32) .null .null ∧ (oe = gE d2 ∨ ((el < d2 ∧ ¬ gLV el d2 < (5 : Int32)) ∧ (el < d1 ∧ ¬ gLV el d1 < (5 : Int32)) ∧ oe = fmin (gE d2) (gE d1)))) := by
  rcases H with ⟨a, HT, H⟩ | ⟨a, HT, H⟩ | ⟨a, b, c, HW, H1, H2⟩ | ⟨a, b, c, HW, H1, H2⟩ | ⟨a, b, HW, H1, H2⟩ | ⟨a, b, HW, H1, H2⟩ | ⟨a, b, HW, H1, H2⟩
  · rcases H with ⟨x, HW, H1⟩ | ⟨x, y, HW, H1⟩ | ⟨x, y, HW, H1⟩
    · exact (remN l Z a0 hw w sa oa t1 t2 ka ko el _ _ _ d1 d2 _ _ _ _ h0 n0 Z0 Cx O HW HT H1).mono fun v h ⟨q1, q2⟩ => ⟨q1, gE d2, Or.inl ⟨x, q2 ▸ HW, q2 ▸ H1⟩, q2 ▸ HT, Or.inl rfl⟩
    · exact (remN l Z a0 hw w sa oa t1 t2 ka ko el _ _ _ d1 d2 _ _ _ _ h0 n0 Z0 Cx O HW HT H1).mono fun v h ⟨q1, q2⟩ => ⟨q1, gE d2, Or.inr (Or.inl ⟨x, y, q2 ▸ HW, q2 ▸ H1⟩), q2 ▸ HT, Or.inl rfl⟩
    · exact (remN l Z a0 hw w sa oa t1 t2 ka ko el _ _ _ d1 d2 _ _ _ _ h0 n0 Z0 Cx O HW HT H1).mono fun v h ⟨q1, q2⟩ => ⟨q1, gE d2, Or.inr (Or.inr ⟨x, y, q2 ▸ HW, q2 ▸ H1⟩), q2 ▸ HT, Or.inl rfl⟩
  · exact (abs_remOne hw Z0 Cx O H HT).mono fun v h ⟨q1, q2, q3, q4⟩ => ⟨q1, gE d2, Or.inl ⟨a, q2, q4⟩, q3, Or.inl rfl⟩
  · obtain ⟨f1, f2, f3, f4, f5, f6, f7, f8⟩ := own_slot el d1 a.1 a.2
    refine (remS l Z a0 hw w sa oa t1 t2 ka ko el _ _ _ d1 d2 _ _ _ (gLV el d1) (gSV el d1) (gPL el d1) (gLI el d1) (gPI el d1) h0 n0 Z0 Cx O HW H1 H2 f7 f8 f3 rfl f4 f5 f6 f1 rfl f2).mono fun v h ⟨q1, q2, q3, q4⟩ => ⟨q1, gE d2, Or.inr (Or.inl ⟨b.1, b.2, ?_, q4⟩), q3, Or.inl rfl⟩
    rw [own_gB, fo_3 el d1 d2 a b c, show upd (sl2 el d1 d2 t1 t2) (gPI el d1) .null = _ from fu_3 _ _ c] at q2; exact q2
  · obtain ⟨f1, f2, f3, f4, f5, f6, f7, f8⟩ := own_slot el d1 a.1 a.2
    refine (remSt l Z a0 hw w sa oa t1 t2 ka ko el _ _ _ d1 d2 _ _ _ (gPL el d1) (gPI el d1) h0 n0 Z0 Cx O HW H1 H2 f7 f8 f3 rfl f4 (by rw [c]; exact upd_same _ _ _)).mono fun v h ⟨q1, q2, q3, q4⟩ => ⟨q1, gE d2, Or.inr (Or.inl ⟨b.1, b.2, ?_, q4⟩), q3, Or.inl rfl⟩
    rw [(fo_4 el d1 d2 a b c).2, show sl2 el d1 d2 t1 t2 = upd nul (gPI el d2) (.ref t2) from by unfold sl2; rw [c]; exact fu_4 _ _ _] at q2; exact q2
  · obtain ⟨f1, f2, f3, f4, f5, f6, f7, f8⟩ := own_slot el d1 a.1 a.2
    refine (remSo l Z a0 hw w sa oa t1 t2 ka ko el _ _ _ d1 d2 _ _ _ (gLV el d1) (gSV el d1) (gPL el d1) (gLI el d1) (gPI el d1) h0 n0 Z0 Cx O HW H1 H2 f7 f8 f3 rfl f4 f5 f6 f1 rfl f2).mono fun v h ⟨q1, q2, q3, q4⟩ => ⟨q1, gE d2, Or.inr (Or.inr ⟨b.1, b.2, ?_, q4⟩), q3, Or.inl rfl⟩
    rw [fu_1, own_gB, fo_1] at q2; exact q2
  · exact (remO l Z a0 hw w sa oa t1 t2 ka ko el _ _ _ d1 d2 _ _ _ h0 n0 Z0 Cx O HW H1 H2).mono fun v h ⟨q1, q2, q3, q4⟩ => ⟨q1, gE d2, Or.inr (Or.inl ⟨b.1, b.2, q2, q4⟩), q3, Or.inl rfl⟩
  · exact (remOt l Z a0 hw w sa oa t1 t2 ka ko el _ _ _ d1 d2 _ _ _ h0 n0 Z0 Cx O HW H1 H2).mono fun v h ⟨q1, q2, q3, q4⟩ => ⟨q1, fmin (gE d1) (gE d2), Or.inr (Or.inr ⟨b.1, b.2, q2, q4⟩), q3, Or.inr ⟨b, a, own_minC _ _⟩⟩
/-- is it held -/
theorem abs_heldNo (hw : ∀ d ∈ tables_1, d.before a0 Z = true) (Z0 : n0 ≤ h0.size) {t : Addr} {d : Int64} {nx pv : Value} (H : Tmr Z h0 t d (-1 : Int32) nx pv) : MHeld l Z n0 t h0 (fun v h => v = some (.int 0) ∧ h0 = h) :=
  rmh0 l Z a0 hw t (-1 : Int32) h0 n0 Z0 H.2.2.1 rfl
theorem abs_held (hw : ∀ d ∈ tables_1, d.before a0 Z = true) (Z0 : n0 ≤ h0.size) {t : Addr} {d oe : Int64} (H : One Z h0 w sa oa ka ko el t d oe) : MHeld l Z n0 t h0 (fun v h => v = some (.int (ga el d)) ∧ h0 = h) := by
  rcases H with ⟨a, HW, HT⟩ | ⟨a, b, HW, HT⟩ | ⟨a, b, HW, HT⟩
  · rw [ga_neg a]; exact rmh0 l Z a0 hw t _ h0 n0 Z0 HT.2.2.1 rfl
  · obtain ⟨f1, f2, f3, f4, f5, f6, f7, f8⟩ := own_slot el d a b
    rw [ga_pos a]; exact rmh1 l Z a0 hw t _ h0 n0 Z0 HT.2.2.1 f7
  · rw [ga_pos a]; exact rmh1 l Z a0 hw t _ h0 n0 Z0 HT.2.2.1 (by decide)
/-- the next event -/
def gNx (el d oe : Int64) : Int64 := if el < d then (if gLV el d < (5 : Int32) then fev el d else oe) else (9223372036854775807 : Int64)
theorem abs_nxE (hw : ∀ d ∈ tables_1, d.before a0 Z = true) (Z0 : n0 ≤ h0.size) {t q : Addr} {oe d dq : Int64} {p0 pq : Int32} {nt vt nq vq : Value} (Cx : Ctx n0 w sa oa t q) (O : Ovr Z ka "com/example/gull/gull/TimerWheel$Timer") (HW : Whl Z h0 w sa oa ka ko nul zer .null oe el) (HT : Tmr Z h0 t d p0 nt vt) (HQ : Tmr Z h0 q dq pq nq vq) : MNext l Z n0 w h0 (fun v h => v = some (.long (9223372036854775807 : Int64)) ∧ h0 = h) :=
  nxt l Z a0 hw w (-1 : Int32) _ h0 n0 Z0 HW.1 (npN l Z a0 hw w sa oa t q ka ko el nul zer oe d dq p0 pq nt vt nq vq h0 n0 Z0 Cx O HW HT HQ rfl rfl rfl rfl rfl) (evN l Z a0 hw w sa oa t q ka ko el nul zer oe d dq p0 pq nt vt nq vq .null h0 n0 Z0 Cx O HW HT HQ)
theorem own_updn {f : Nat → Int64} {i j : Nat} {x : Int64} (h : j ≠ i) : updL f i x j = f j := if_neg h
theorem abs_np (hw : ∀ d ∈ tables_1, d.before a0 Z = true) (Z0 : n0 ≤ h0.size) {t q : Addr} {oe d dq : Int64} {p0 pq : Int32} {nt vt nq vq ov : Value} {S : Nat → Value} (Cx : Ctx n0 w sa oa t q) (O : Ovr Z ka "com/example/gull/gull/TimerWheel$Timer") (HW : Whl Z h0 w sa oa ka ko S (updL zer (gLI el d) (gB el d)) ov oe el) (HT : Tmr Z h0 t d p0 nt vt) (HQ : Tmr Z h0 q dq pq nq vq) (hd : el < d) (h5 : gLV el d < (5 : Int32)) :
    MPlace l Z n0 w h0 (fun v h => v = some (.int (gPL el d)) ∧ h0 = h) := by
  obtain ⟨f1, f2, f3, f4, f5, f6, f7, f8⟩ := own_slot el d hd h5
  have g0 := own_ge el d hd
  have hv : ∀ L : Nat, gLI el d = L → updL zer (gLI el d) (gB el d) L = gB el d := fun L q => if_pos q.symm
  have hz : ∀ L j : Nat, gLI el d = L → j ≠ L → updL zer (gLI el d) (gB el d) j = 0 := fun L j q r => if_neg (fun z => r (z.trans q))
  have hn : ∀ L : Nat, gLI el d = L → ¬ updL zer (gLI el d) (gB el d) L = 0 := fun L q => by rw [hv L q]; exact own_bne el d
  have hl : ∀ L : Nat, L < 5 → gLI el d = L → gLV el d = Int32.ofNat L := fun L r q => by
    apply Int32.toInt_inj.mp
    unfold gLI at q; rw [own_clamp] at q
    rw [Int32.toInt_ofNat_of_lt (by omega)]
    omega
  have hp : ∀ L : Nat, L < 5 → ∀ c : Int32, Int32.ofNat L * (64 : Int32) = c → gLI el d = L → (c + fntz (updL zer (gLI el d) (gB el d) L)) = gPL el d := fun L r c e q => by
    rw [hv L q, own_ntz, ← e, ← hl L r q]; rfl
  rcases (show gLI el d = 0 ∨ gLI el d = 1 ∨ gLI el d = 2 ∨ gLI el d = 3 ∨ gLI el d = 4 by omega) with e | e | e | e | e
  · exact (np0 l Z a0 hw w sa oa t q ka ko el S _ oe d dq p0 pq nt vt nq vq ov h0 n0 Z0 Cx O HW HT HQ (hn 0 e)).mono fun v h ⟨q1, q2⟩ => ⟨by rw [q1, hp 0 (by decide) _ (by decide) e], q2⟩
  · exact (np1 l Z a0 hw w sa oa t q ka ko el S _ oe d dq p0 pq nt vt nq vq ov h0 n0 Z0 Cx O HW HT HQ (hz 1 0 e (by decide)) (hn 1 e)).mono fun v h ⟨q1, q2⟩ => ⟨by rw [q1, hp 1 (by decide) _ (by decide) e], q2⟩
  · exact (np2 l Z a0 hw w sa oa t q ka ko el S _ oe d dq p0 pq nt vt nq vq ov h0 n0 Z0 Cx O HW HT HQ (hz 2 0 e (by decide)) (hz 2 1 e (by decide)) (hn 2 e)).mono fun v h ⟨q1, q2⟩ => ⟨by rw [q1, hp 2 (by decide) _ (by decide) e], q2⟩
  · exact (np3 l Z a0 hw w sa oa t q ka ko el S _ oe d dq p0 pq nt vt nq vq ov h0 n0 Z0 Cx O HW HT HQ (hz 3 0 e (by decide)) (hz 3 1 e (by decide)) (hz 3 2 e (by decide)) (hn 3 e)).mono fun v h ⟨q1, q2⟩ => ⟨by rw [q1, hp 3 (by decide) _ (by decide) e], q2⟩
  · exact (np4 l Z a0 hw w sa oa t q ka ko el S _ oe d dq p0 pq nt vt nq vq ov h0 n0 Z0 Cx O HW HT HQ (hz 4 0 e (by decide)) (hz 4 1 e (by decide)) (hz 4 2 e (by decide)) (hz 4 3 e (by decide)) (hn 4 e)).mono fun v h ⟨q1, q2⟩ => ⟨by rw [q1, hp 4 (by decide) _ (by decide) e], q2⟩
theorem abs_nx (hw : ∀ d ∈ tables_1, d.before a0 Z = true) (Z0 : n0 ≤ h0.size) {t q : Addr} {oe d dq : Int64} {pq : Int32} {nq vq : Value} (Cx : Ctx n0 w sa oa t q) (O : Ovr Z ka "com/example/gull/gull/TimerWheel$Timer") (H : One Z h0 w sa oa ka ko el t d oe) (HQ : Tmr Z h0 q dq pq nq vq) : MNext l Z n0 w h0 (fun v h => v = some (.long (gNx el d oe)) ∧ h0 = h) := by
  rcases H with ⟨a, HW, HT⟩ | ⟨a, b, HW, HT⟩ | ⟨a, b, HW, HT⟩
  · rw [show gNx el d oe = _ from if_neg a]; exact abs_nxE hw Z0 Cx O HW HT HQ
  · obtain ⟨f1, f2, f3, f4, f5, f6, f7, f8⟩ := own_slot el d a b
    rw [show gNx el d oe = fev el d from by unfold gNx; rw [if_pos a, if_pos b]]
    refine nxt l Z a0 hw w (gPL el d) _ h0 n0 Z0 HW.1 (abs_np hw Z0 Cx O HW HT HQ a b) ?_
    rw [← own_event el d a b]
    exact evS l Z a0 hw w sa oa t q ka ko el _ _ _ d dq _ pq _ _ nq vq .null (gLV el d) (gSV el d) (gPL el d) h0 n0 Z0 Cx O HW HT HQ f7 f8 f5 f6
  · rw [show gNx el d oe = oe from by unfold gNx; rw [if_pos a, if_neg b]]
    exact nxt l Z a0 hw w (-2 : Int32) _ h0 n0 Z0 HW.1 (npO l Z a0 hw w sa oa t q ka ko el nul zer oe d dq _ pq _ _ nq vq h0 n0 Z0 Cx O HW HT HQ rfl rfl rfl rfl rfl) (evO l Z a0 hw w sa oa t q ka ko el nul zer oe d dq _ pq _ _ nq vq _ h0 n0 Z0 Cx O HW HT HQ)

theorem One.ew {o : Addr} {d oe : Int64} (H : One Z h0 w sa oa ka ko el o d oe) : Exa Z h0 w "com/example/gull/gull/TimerWheel" := by
  rcases H with ⟨a, HW, HT⟩ | ⟨a, b, HW, HT⟩ | ⟨a, b, HW, HT⟩ <;> exact HW.1
theorem One.eo {o : Addr} {d oe : Int64} (H : One Z h0 w sa oa ka ko el o d oe) : Exa Z h0 o "com/example/gull/gull/TimerWheel$Timer" := by
  rcases H with ⟨a, HW, HT⟩ | ⟨a, b, HW, HT⟩ | ⟨a, b, HW, HT⟩ <;> exact HT.1
theorem Two.ew (H : Two Z h0 w sa oa ka ko el t1 t2 d1 d2) : Exa Z h0 w "com/example/gull/gull/TimerWheel" := by
  rcases H with ⟨a, HT, H⟩ | ⟨a, HT, H⟩ | ⟨a, b, c, HW, H1, H2⟩ | ⟨a, b, c, HW, H1, H2⟩ | ⟨a, b, HW, H1, H2⟩ | ⟨a, b, HW, H1, H2⟩ | ⟨a, b, HW, H1, H2⟩
  · exact H.ew
  · exact H.ew
  all_goals exact HW.1
theorem Two.e1 (H : Two Z h0 w sa oa ka ko el t1 t2 d1 d2) : Exa Z h0 t1 "com/example/gull/gull/TimerWheel$Timer" := by
  rcases H with ⟨a, HT, H⟩ | ⟨a, HT, H⟩ | ⟨a, b, c, HW, H1, H2⟩ | ⟨a, b, c, HW, H1, H2⟩ | ⟨a, b, HW, H1, H2⟩ | ⟨a, b, HW, H1, H2⟩ | ⟨a, b, HW, H1, H2⟩
  · exact HT.1
  · exact H.eo
  all_goals exact H1.1
theorem Two.e2 (H : Two Z h0 w sa oa ka ko el t1 t2 d1 d2) : Exa Z h0 t2 "com/example/gull/gull/TimerWheel$Timer" := by
  rcases H with ⟨a, HT, H⟩ | ⟨a, HT, H⟩ | ⟨a, b, c, HW, H1, H2⟩ | ⟨a, b, c, HW, H1, H2⟩ | ⟨a, b, HW, H1, H2⟩ | ⟨a, b, HW, H1, H2⟩ | ⟨a, b, HW, H1, H2⟩
  · exact H.eo
  · exact HT.1
  all_goals exact H2.1
/-- what the law then says of the next event -/
theorem own_fin {dO dR oe u : Int64} {z : Int32} (ho : oe = gE dO ∨ ((el < dO ∧ ¬ gLV el dO < (5 : Int32)) ∧ (el < dR ∧ ¬ gLV el dR < (5 : Int32)) ∧ oe = fmin (gE dO) (gE dR)))
    (eu : u = (if (ga el dO) = (0 : Int32) then (9223372036854775807 : Int64) else (fev el dO)))
    (ez : z = (if (ga el dR) = (0 : Int32) then (0 : Int32) else (if (ga el dO) = (0 : Int32) then (0 : Int32) else (if (flv el dR) = (5 : Int32) then (if (flv el dO) = (5 : Int32) then (1 : Int32) else (0 : Int32)) else (0 : Int32)))))
    (hn : ¬ (gNx el dO oe) = u) : ¬ z = (0 : Int32) ∧ (gNx el dO oe) = (fmin u (fev el dR)) := by
  have z1 : ¬ (1 : Int32) = 0 := by decide
  by_cases a : el < dO
  · rw [ga_pos a, if_neg z1] at eu
    rw [ga_pos a, if_neg z1] at ez
    by_cases b : gLV el dO < (5 : Int32)
    · exact absurd (by rw [eu]; unfold gNx; rw [if_pos a, if_pos b]) hn
    · have g : gNx el dO oe = oe := by unfold gNx; rw [if_pos a, if_neg b]
      have f : fev el dO = gE dO := own_evO el dO a b
      rcases ho with q | ⟨-, ⟨c, d⟩, q⟩
      · exact absurd (by rw [g, eu, f, q]) hn
      · have f2 : fev el dR = gE dR := own_evO el dR c d
        have v1 : flv el dO = 5 := by rw [own_lv el dO a, if_neg b]
        have v2 : flv el dR = 5 := by rw [own_lv el dR c, if_neg d]
        rw [ga_pos c, if_neg z1, v1, v2, if_pos rfl, if_pos rfl] at ez
        exact ⟨by rw [ez]; exact z1, by rw [g, eu, f, f2, q]⟩
  · rw [ga_neg a, if_pos rfl] at eu
    exact absurd (by rw [eu]; unfold gNx; rw [if_neg a]) hn
end Abs
theorem pd__28JJI_29J : parseMethodDescriptor "(JJI)J" = some ⟨[.long, .long, .int], some .long⟩ := by decide +kernel
theorem pd__28J_29V : parseMethodDescriptor "(J)V" = some ⟨[.long], none⟩ := by decide +kernel
theorem pd__28Lcom_2fexample_2fgull_2fgull_2fTimerWheel_24Timer_3b_29Z : parseMethodDescriptor "(Lcom/example/gull/gull/TimerWheel$Timer;)Z" = some ⟨[(.object "com/example/gull/gull/TimerWheel$Timer")], some .boolean⟩ := by decide +kernel
theorem pd__28Lcom_2fexample_2fgull_2fgull_2fTimerWheel_24Timer_3b_29V : parseMethodDescriptor "(Lcom/example/gull/gull/TimerWheel$Timer;)V" = some ⟨[(.object "com/example/gull/gull/TimerWheel$Timer")], none⟩ := by decide +kernel
theorem pd__28_29Z : parseMethodDescriptor "()Z" = some ⟨[], some .boolean⟩ := by decide +kernel
theorem pd__28_29J : parseMethodDescriptor "()J" = some ⟨[], some .long⟩ := by decide +kernel
theorem pn_0_rm0 : plainFor (⟨"com/example/gull/gull/TimerWheelRemovePinLaw", "law", "(JJJI)Z"⟩ : MethodName) = true := plainFor_of_name (by first | (simp [plainName, overriddenIn]; done) | decide +kernel)
theorem ef_rm0 {i0 : Int64} {i1 : Int64} {i2 : Int64} {i3 : Int32} (m : MethodId) : entryFrame m #[.long i0, .long i1, .long i2, .int i3] maxLocals = mkF m 0 #[.val (.long i0), .second, .val (.long i1), .second, .val (.long i2), .second, .val (.int i3), .unset, .unset, .unset, .unset, .unset, .unset, .unset, .unset, .unset, .unset, .unset, .unset, .unset, .unset, .unset, .unset, .unset, .unset, .unset, .unset, .unset, .unset, .unset, .unset, .unset] [] := by first | (simp [entryFrame, mkF, argsToLocals, Value.category, maxLocals]; done) | rfl
set_option maxRecDepth 65536 in
set_option maxHeartbeats 40000000 in
theorem rm0 (l : Launch) (Z : State) (a0 : Array Value) (hw : ∀ d ∈ tables_1, d.before a0 Z = true) (i0 i1 i2 : Int64) (i3 : Int32) (h0 : Heap) (n0 : Nat) (Z0 : n0 ≤ h0.size)  :
    Met l Z x code maxLocals ret room_1 n0 #[.long i0, .long i1, .long i2, .int i3] h0 (fun v h => v = some (.int 1)) := by
  refine Met.of (Ls := #[.val (.long i0), .second, .val (.long i1), .second, .val (.long i2), .second, .val (.int i3), .unset, .unset, .unset, .unset, .unset, .unset, .unset, .unset, .unset, .unset, .unset, .unset, .unset, .unset, .unset, .unset, .unset, .unset, .unset, .unset, .unset, .unset, .unset, .unset, .unset]) pn_0_rm0 (fun m => ef_rm0 m) fun p e s m below meth c T0 P hP k0 => ?_
  refine s_lloadN k0 at_0 rfl (pc' := 1) rfl ?_
  refine s_lloadN k0 at_1 rfl (pc' := 2) rfl ?_
  refine s_iload k0 at_2 rfl (pc' := 4) rfl ?_
  refine s_iconst k0 (z := 3) at_4 (by decide) (pc' := 5) rfl ?_
  refine s_iand k0 at_5 rfl (pc' := 6) rfl ?_
  refine s_callS k0 [.long i0, .long i1, .int (i3 &&& (3 : Int32))] 0 at_6 (hw _ (List.mem_of_getElem? (i := 0) rfl)) (hw _ (List.mem_of_getElem? (i := 1) rfl)) (hw _ (List.mem_of_getElem? (i := 2) rfl)) (hw _ (List.mem_of_getElem? (i := 3) rfl)) (by decide) (rmdl l Z a0 hw i0 i1 (i3 &&& (3 : Int32)) h0 n0 Z0 ) (by decide) (by decide) pd__28JJI_29J rfl (Nat.le_of_eq rfl) rfl (by decide) (by decide) rfl (pc' := 9) rfl fun v1 T1 h1 L1 k1 Qv1 => ?_
  obtain ⟨rfl, rfl⟩ := Qv1
  show Go p e below P T1 (mkF m 9 #[.val (.long i0), .second, .val (.long i1), .second, .val (.long i2), .second, .val (.int i3), .unset, .unset, .unset, .unset, .unset, .unset, .unset, .unset, .unset, .unset, .unset, .unset, .unset, .unset, .unset, .unset, .unset, .unset, .unset, .unset, .unset, .unset, .unset, .unset, .unset] [.long (fdl i0 i1 (i3 &&& (3 : Int32)))])
  generalize (fdl i0 i1 (i3 &&& (3 : Int32))) = d1
  show Go p e below P T1 (mkF m 9 #[.val (.long i0), .second, .val (.long i1), .second, .val (.long i2), .second, .val (.int i3), .unset, .unset, .unset, .unset, .unset, .unset, .unset, .unset, .unset, .unset, .unset, .unset, .unset, .unset, .unset, .unset, .unset, .unset, .unset, .unset, .unset, .unset, .unset, .unset, .unset] [.long d1])
  refine s_lstore k1 at_9 (l' := #[.val (.long i0), .second, .val (.long i1), .second, .val (.long i2), .second, .val (.int i3), .val (.long d1), .second, .unset, .unset, .unset, .unset, .unset, .unset, .unset, .unset, .unset, .unset, .unset, .unset, .unset, .unset, .unset, .unset, .unset, .unset, .unset, .unset, .unset, .unset, .unset]) rfl (pc' := 11) rfl ?_
  refine s_iload k1 at_11 rfl (pc' := 13) rfl ?_
  refine s_iconst k1 (z := 2) at_13 (by decide) (pc' := 14) rfl ?_
  refine s_iushr k1 at_14 rfl (pc' := 15) rfl ?_
  refine s_bipush k1 (z := 7) at_15 (by decide) (pc' := 17) rfl ?_
  refine s_iand k1 at_17 rfl (pc' := 18) rfl ?_
  refine s_iconst k1 (z := 5) at_18 (by decide) (pc' := 19) rfl ?_
  refine s_irem k1 at_19 (by decide) rfl (pc' := 20) rfl ?_
  refine s_istore k1 at_20 (l' := #[.val (.long i0), .second, .val (.long i1), .second, .val (.long i2), .second, .val (.int i3), .val (.long d1), .second, .val (.int (((Jvm.Free.XT.ushr i3 (2 : Int32)) &&& (7 : Int32)) % (5 : Int32))), .unset, .unset, .unset, .unset, .unset, .unset, .unset, .unset, .unset, .unset, .unset, .unset, .unset, .unset, .unset, .unset, .unset, .unset, .unset, .unset, .unset, .unset]) rfl (pc' := 22) rfl ?_
  refine s_iload k1 at_22 rfl (pc' := 24) rfl ?_
  refine s_iconst k1 (z := 4) at_24 (by decide) (pc' := 25) rfl ?_
  have J2 : ∀ (T2 : State) (L2 : List Loc) (k2 : K p l e room_1 s m #[.long i0, .long i1, .long i2, .int i3] below meth c code "com/example/gull/gull/TimerWheelRemovePinLaw" maxLocals ret "law" T2 L2 (0 + 0) (0 + 0) Z h0 n0) (d2 : Int64) (e_d2 : d2 = (if (((Jvm.Free.XT.ushr i3 (2 : Int32)) &&& (7 : Int32)) % (5 : Int32)) = (4 : Int32) then d1 else (fdl i0 i2 (((Jvm.Free.XT.ushr i3 (2 : Int32)) &&& (7 : Int32)) % (5 : Int32))))), Go p e below P T2 (mkF m 41 #[.val (.long i0), .second, .val (.long i1), .second, .val (.long i2), .second, .val (.int i3), .val (.long d1), .second, .val (.int (((Jvm.Free.XT.ushr i3 (2 : Int32)) &&& (7 : Int32)) % (5 : Int32))), .unset, .unset, .unset, .unset, .unset, .unset, .unset, .unset, .unset, .unset, .unset, .unset, .unset, .unset, .unset, .unset, .unset, .unset, .unset, .unset, .unset, .unset] [.long d2]) := by
    intro T2 L2 k2 d2 e_d2
    refine s_lstore k2 at_41 (l' := #[.val (.long i0), .second, .val (.long i1), .second, .val (.long i2), .second, .val (.int i3), .val (.long d1), .second, .val (.int (((Jvm.Free.XT.ushr i3 (2 : Int32)) &&& (7 : Int32)) % (5 : Int32))), .val (.long d2), .second, .unset, .unset, .unset, .unset, .unset, .unset, .unset, .unset, .unset, .unset, .unset, .unset, .unset, .unset, .unset, .unset, .unset, .unset, .unset, .unset]) rfl (pc' := 43) rfl ?_
    refine s_iload k2 at_43 rfl (pc' := 45) rfl ?_
    refine s_bipush k2 (z := 32) at_45 (by decide) (pc' := 47) rfl ?_
    refine s_iand k2 at_47 rfl (pc' := 48) rfl ?_
    have J3 : ∀ (w48 : Int32) (e_w48 : w48 = (if (i3 &&& (32 : Int32)) = (0 : Int32) then (0 : Int32) else (1 : Int32))), Go p e below P T2 (mkF m 56 #[.val (.long i0), .second, .val (.long i1), .second, .val (.long i2), .second, .val (.int i3), .val (.long d1), .second, .val (.int (((Jvm.Free.XT.ushr i3 (2 : Int32)) &&& (7 : Int32)) % (5 : Int32))), .val (.long d2), .second, .unset, .unset, .unset, .unset, .unset, .unset, .unset, .unset, .unset, .unset, .unset, .unset, .unset, .unset, .unset, .unset, .unset, .unset, .unset, .unset] [.int w48]) := by
      intro w48 e_w48
      refine s_istore k2 at_56 (l' := #[.val (.long i0), .second, .val (.long i1), .second, .val (.long i2), .second, .val (.int i3), .val (.long d1), .second, .val (.int (((Jvm.Free.XT.ushr i3 (2 : Int32)) &&& (7 : Int32)) % (5 : Int32))), .val (.long d2), .second, .val (.int w48), .unset, .unset, .unset, .unset, .unset, .unset, .unset, .unset, .unset, .unset, .unset, .unset, .unset, .unset, .unset, .unset, .unset, .unset, .unset]) rfl (pc' := 58) rfl ?_
      refine s_new k2 at_58 (hw _ (List.mem_of_getElem? (i := 5) rfl)) (hw _ (List.mem_of_getElem? (i := 6) rfl)) (hw _ (List.mem_of_getElem? (i := 7) rfl)) (by decide) (by decide) (pc' := 61) rfl fun T4 h4 b4 q4 k4 X4 E4 D4 => ?_
      have g_b4 : n0 ≤ b4 := Nat.le_trans Z0 (Nat.le_of_eq q4.symm)
      have Z5 := Nat.le_trans Z0 X4.1
      have F4_b4_slots : Fld Z h4 b4 "com/example/gull/gull/TimerWheel" "slots" "[Lcom/example/gull/gull/TimerWheel$Timer;" .null := D4 (Or.inr (hw _ (List.mem_of_getElem? (i := 17) rfl))) (ty := (.array (.object "com/example/gull/gull/TimerWheel$Timer"))) (by decide)
      have F4_b4_occupied : Fld Z h4 b4 "com/example/gull/gull/TimerWheel" "occupied" "[J" .null := D4 (Or.inr (hw _ (List.mem_of_getElem? (i := 20) rfl))) (ty := (.array .long)) (by decide)
      have F4_b4_overflowEvent : Fld Z h4 b4 "com/example/gull/gull/TimerWheel" "overflowEvent" "J" (.long (0 : Int64)) := D4 (Or.inl (hw _ (List.mem_of_getElem? (i := 23) rfl))) (ty := .long) (by decide)
      have F4_b4_elapsed : Fld Z h4 b4 "com/example/gull/gull/TimerWheel" "elapsed" "J" (.long (0 : Int64)) := D4 (Or.inl (hw _ (List.mem_of_getElem? (i := 25) rfl))) (ty := .long) (by decide)
      have F4_b4_overflow : Fld Z h4 b4 "com/example/gull/gull/TimerWheel" "overflow" "Lcom/example/gull/gull/TimerWheel$Timer;" .null := D4 (Or.inl (hw _ (List.mem_of_getElem? (i := 64) rfl))) (ty := (.object "com/example/gull/gull/TimerWheel$Timer")) (by decide)
      refine s_dup k4 at_61 rfl (pc' := 62) rfl ?_
      refine s_lloadN k4 at_62 rfl (pc' := 63) rfl ?_
      refine s_callI k4 [.long i0] 1 at_63 rfl (hw _ (List.mem_of_getElem? (i := 8) rfl)) (hw _ (List.mem_of_getElem? (i := 9) rfl)) (hw _ (List.mem_of_getElem? (i := 7) rfl)) (hw _ (List.mem_of_getElem? (i := 10) rfl)) (by decide) (rmtw l Z a0 hw b4 i0 h4 n0 Z5 E4 F4_b4_slots F4_b4_occupied F4_b4_overflow F4_b4_overflowEvent F4_b4_elapsed g_b4) (by decide) (by decide) pd__28J_29V rfl (Nat.le_of_eq rfl) rfl (by decide) (by decide) rfl (pc' := 66) rfl fun v6 T6 h6 L6 k6 Qv6 => ?_
      obtain ⟨rfl, sa6, oa6, ka6, ko6, Os6, ⟨Ew6, F6_sl, F6_oc, F6_ov, F6_oe, F6_el, B6_sa, B6_oa⟩, y6_sa, y6_oa, n6_1, n6_2, n6_3⟩ := Qv6
      have g_sa6 : n0 ≤ sa6 := Nat.le_trans Z5 y6_sa
      have g_oa6 : n0 ≤ oa6 := Nat.le_trans Z5 y6_oa
      have Z7 := Nat.le_trans g_b4 (Nat.le_of_lt Ew6.lt)
      show Go p e below P T6 (mkF m 66 #[.val (.long i0), .second, .val (.long i1), .second, .val (.long i2), .second, .val (.int i3), .val (.long d1), .second, .val (.int (((Jvm.Free.XT.ushr i3 (2 : Int32)) &&& (7 : Int32)) % (5 : Int32))), .val (.long d2), .second, .val (.int w48), .unset, .unset, .unset, .unset, .unset, .unset, .unset, .unset, .unset, .unset, .unset, .unset, .unset, .unset, .unset, .unset, .unset, .unset, .unset] [.ref b4])
      refine s_astore k6 at_66 rfl (l' := #[.val (.long i0), .second, .val (.long i1), .second, .val (.long i2), .second, .val (.int i3), .val (.long d1), .second, .val (.int (((Jvm.Free.XT.ushr i3 (2 : Int32)) &&& (7 : Int32)) % (5 : Int32))), .val (.long d2), .second, .val (.int w48), .val (.ref b4), .unset, .unset, .unset, .unset, .unset, .unset, .unset, .unset, .unset, .unset, .unset, .unset, .unset, .unset, .unset, .unset, .unset, .unset]) rfl (pc' := 68) rfl ?_
      refine s_new k6 at_68 (hw _ (List.mem_of_getElem? (i := 26) rfl)) (hw _ (List.mem_of_getElem? (i := 27) rfl)) (hw _ (List.mem_of_getElem? (i := 28) rfl)) (by decide) (by decide) (pc' := 71) rfl fun T8 h8 b8 q8 k8 X8 E8 D8 => ?_
      have ne_b4_b8 : b4 ≠ b8 := Nat.ne_of_lt (Nat.lt_of_lt_of_eq Ew6.lt q8.symm)
      have ne_sa6_b8 : sa6 ≠ b8 := Nat.ne_of_lt (Nat.lt_of_lt_of_eq B6_sa.lt q8.symm)
      have ne_oa6_b8 : oa6 ≠ b8 := Nat.ne_of_lt (Nat.lt_of_lt_of_eq B6_oa.lt q8.symm)
      have g_b8 : n0 ≤ b8 := Nat.le_trans Z7 (Nat.le_of_eq q8.symm)
      have F9_b4_slots := F6_sl.ext X8
      have F10_b4_occupied := F6_oc.ext X8
      have F11_b4_overflow := F6_ov.ext X8
      have F12_b4_overflowEvent := F6_oe.ext X8
      have F13_b4_elapsed := F6_el.ext X8
      have E14_b4 := Ew6.ext X8
      have B15_sa6 := B6_sa.ext X8
      have B16_oa6 := B6_oa.ext X8
      have Z17 := Nat.le_trans Z7 X8.1
      have F8_b8_place : Fld Z h8 b8 "com/example/gull/gull/TimerWheel$Timer" "place" "I" (.int (0 : Int32)) := D8 (Or.inl (hw _ (List.mem_of_getElem? (i := 34) rfl))) (ty := .int) (by decide)
      have F8_b8_deadline : Fld Z h8 b8 "com/example/gull/gull/TimerWheel$Timer" "deadline" "J" (.long (0 : Int64)) := D8 (Or.inr (hw _ (List.mem_of_getElem? (i := 36) rfl))) (ty := .long) (by decide)
      have F8_b8_next : Fld Z h8 b8 "com/example/gull/gull/TimerWheel$Timer" "next" "Lcom/example/gull/gull/TimerWheel$Timer;" .null := D8 (Or.inl (hw _ (List.mem_of_getElem? (i := 54) rfl))) (ty := (.object "com/example/gull/gull/TimerWheel$Timer")) (by decide)
      have F8_b8_previous : Fld Z h8 b8 "com/example/gull/gull/TimerWheel$Timer" "previous" "Lcom/example/gull/gull/TimerWheel$Timer;" .null := D8 (Or.inl (hw _ (List.mem_of_getElem? (i := 62) rfl))) (ty := (.object "com/example/gull/gull/TimerWheel$Timer")) (by decide)
      refine s_dup k8 at_71 rfl (pc' := 72) rfl ?_
      refine s_lload k8 at_72 rfl (pc' := 74) rfl ?_
      refine s_callI k8 [.long d1] 1 at_74 rfl (hw _ (List.mem_of_getElem? (i := 29) rfl)) (hw _ (List.mem_of_getElem? (i := 30) rfl)) (hw _ (List.mem_of_getElem? (i := 28) rfl)) (hw _ (List.mem_of_getElem? (i := 31) rfl)) (by decide) (rmtt l Z a0 hw b8 d1 h8 n0 Z17 E8 F8_b8_place F8_b8_deadline F8_b8_next F8_b8_previous g_b8) (by decide) (by decide) pd__28J_29V rfl (Nat.le_of_eq rfl) rfl (by decide) (by decide) rfl (pc' := 77) rfl fun v18 T18 h18 L18 k18 Qv18 => ?_
      obtain ⟨rfl, Kc18, ⟨Et18, F18_d, F18_p, F18_n, F18_v⟩⟩ := Qv18
      have F19_b4_slots := F9_b4_slots.keep Kc18 (ninS ne_b4_b8 nin0)
      have F20_b4_occupied := F10_b4_occupied.keep Kc18 (ninS ne_b4_b8 nin0)
      have F21_b4_overflow := F11_b4_overflow.keep Kc18 (ninS ne_b4_b8 nin0)
      have F22_b4_overflowEvent := F12_b4_overflowEvent.keep Kc18 (ninS ne_b4_b8 nin0)
      have F23_b4_elapsed := F13_b4_elapsed.keep Kc18 (ninS ne_b4_b8 nin0)
      have E24_b4 := E14_b4.keep Kc18
      have E25_b8 := E8.keep Kc18
      have B26_sa6 := B15_sa6.keep Kc18 (ninS ne_sa6_b8 nin0)
      have B27_oa6 := B16_oa6.keep Kc18 (ninS ne_oa6_b8 nin0)
      have Z28 := Nat.le_trans Z17 Kc18.1
      show Go p e below P T18 (mkF m 77 #[.val (.long i0), .second, .val (.long i1), .second, .val (.long i2), .second, .val (.int i3), .val (.long d1), .second, .val (.int (((Jvm.Free.XT.ushr i3 (2 : Int32)) &&& (7 : Int32)) % (5 : Int32))), .val (.long d2), .second, .val (.int w48), .val (.ref b4), .unset, .unset, .unset, .unset, .unset, .unset, .unset, .unset, .unset, .unset, .unset, .unset, .unset, .unset, .unset, .unset, .unset, .unset] [.ref b8])
      refine s_astore k18 at_77 rfl (l' := #[.val (.long i0), .second, .val (.long i1), .second, .val (.long i2), .second, .val (.int i3), .val (.long d1), .second, .val (.int (((Jvm.Free.XT.ushr i3 (2 : Int32)) &&& (7 : Int32)) % (5 : Int32))), .val (.long d2), .second, .val (.int w48), .val (.ref b4), .val (.ref b8), .unset, .unset, .unset, .unset, .unset, .unset, .unset, .unset, .unset, .unset, .unset, .unset, .unset, .unset, .unset, .unset, .unset]) rfl (pc' := 79) rfl ?_
      refine s_new k18 at_79 (hw _ (List.mem_of_getElem? (i := 26) rfl)) (hw _ (List.mem_of_getElem? (i := 27) rfl)) (hw _ (List.mem_of_getElem? (i := 28) rfl)) (by decide) (by decide) (pc' := 82) rfl fun T29 h29 b29 q29 k29 X29 E29 D29 => ?_
      have ne_b4_b29 : b4 ≠ b29 := Nat.ne_of_lt (Nat.lt_of_lt_of_eq E24_b4.lt q29.symm)
      have ne_b8_b29 : b8 ≠ b29 := Nat.ne_of_lt (Nat.lt_of_lt_of_eq E25_b8.lt q29.symm)
      have ne_sa6_b29 : sa6 ≠ b29 := Nat.ne_of_lt (Nat.lt_of_lt_of_eq B26_sa6.lt q29.symm)
      have ne_oa6_b29 : oa6 ≠ b29 := Nat.ne_of_lt (Nat.lt_of_lt_of_eq B27_oa6.lt q29.symm)
      have g_b29 : n0 ≤ b29 := Nat.le_trans Z28 (Nat.le_of_eq q29.symm)
      have F30_b4_slots := F19_b4_slots.ext X29
      have F31_b4_occupied := F20_b4_occupied.ext X29
      have F32_b4_overflow := F21_b4_overflow.ext X29
      have F33_b4_overflowEvent := F22_b4_overflowEvent.ext X29
      have F34_b4_elapsed := F23_b4_elapsed.ext X29
      have F35_b8_deadline := F18_d.ext X29
      have F36_b8_place := F18_p.ext X29
      have F37_b8_next := F18_n.ext X29
      have F38_b8_previous := F18_v.ext X29
      have E39_b4 := E24_b4.ext X29
      have E40_b8 := E25_b8.ext X29
      have B41_sa6 := B26_sa6.ext X29
      have B42_oa6 := B27_oa6.ext X29
      have Z43 := Nat.le_trans Z28 X29.1
      have F29_b29_place : Fld Z h29 b29 "com/example/gull/gull/TimerWheel$Timer" "place" "I" (.int (0 : Int32)) := D29 (Or.inl (hw _ (List.mem_of_getElem? (i := 34) rfl))) (ty := .int) (by decide)
      have F29_b29_deadline : Fld Z h29 b29 "com/example/gull/gull/TimerWheel$Timer" "deadline" "J" (.long (0 : Int64)) := D29 (Or.inr (hw _ (List.mem_of_getElem? (i := 36) rfl))) (ty := .long) (by decide)
      have F29_b29_next : Fld Z h29 b29 "com/example/gull/gull/TimerWheel$Timer" "next" "Lcom/example/gull/gull/TimerWheel$Timer;" .null := D29 (Or.inl (hw _ (List.mem_of_getElem? (i := 54) rfl))) (ty := (.object "com/example/gull/gull/TimerWheel$Timer")) (by decide)
      have F29_b29_previous : Fld Z h29 b29 "com/example/gull/gull/TimerWheel$Timer" "previous" "Lcom/example/gull/gull/TimerWheel$Timer;" .null := D29 (Or.inl (hw _ (List.mem_of_getElem? (i := 62) rfl))) (ty := (.object "com/example/gull/gull/TimerWheel$Timer")) (by decide)
      refine s_dup k29 at_82 rfl (pc' := 83) rfl ?_
      refine s_lload k29 at_83 rfl (pc' := 85) rfl ?_
      refine s_callI k29 [.long d2] 1 at_85 rfl (hw _ (List.mem_of_getElem? (i := 29) rfl)) (hw _ (List.mem_of_getElem? (i := 30) rfl)) (hw _ (List.mem_of_getElem? (i := 28) rfl)) (hw _ (List.mem_of_getElem? (i := 31) rfl)) (by decide) (rmtt l Z a0 hw b29 d2 h29 n0 Z43 E29 F29_b29_place F29_b29_deadline F29_b29_next F29_b29_previous g_b29) (by decide) (by decide) pd__28J_29V rfl (Nat.le_of_eq rfl) rfl (by decide) (by decide) rfl (pc' := 88) rfl fun v44 T44 h44 L44 k44 Qv44 => ?_
      obtain ⟨rfl, Kc44, ⟨Et44, F44_d, F44_p, F44_n, F44_v⟩⟩ := Qv44
      have F45_b4_slots := F30_b4_slots.keep Kc44 (ninS ne_b4_b29 nin0)
      have F46_b4_occupied := F31_b4_occupied.keep Kc44 (ninS ne_b4_b29 nin0)
      have F47_b4_overflow := F32_b4_overflow.keep Kc44 (ninS ne_b4_b29 nin0)
      have F48_b4_overflowEvent := F33_b4_overflowEvent.keep Kc44 (ninS ne_b4_b29 nin0)
      have F49_b4_elapsed := F34_b4_elapsed.keep Kc44 (ninS ne_b4_b29 nin0)
      have F50_b8_deadline := F35_b8_deadline.keep Kc44 (ninS ne_b8_b29 nin0)
      have F51_b8_place := F36_b8_place.keep Kc44 (ninS ne_b8_b29 nin0)
      have F52_b8_next := F37_b8_next.keep Kc44 (ninS ne_b8_b29 nin0)
      have F53_b8_previous := F38_b8_previous.keep Kc44 (ninS ne_b8_b29 nin0)
      have E54_b4 := E39_b4.keep Kc44
      have E55_b8 := E40_b8.keep Kc44
      have E56_b29 := E29.keep Kc44
      have B57_sa6 := B41_sa6.keep Kc44 (ninS ne_sa6_b29 nin0)
      have B58_oa6 := B42_oa6.keep Kc44 (ninS ne_oa6_b29 nin0)
      have Z59 := Nat.le_trans Z43 Kc44.1
      show Go p e below P T44 (mkF m 88 #[.val (.long i0), .second, .val (.long i1), .second, .val (.long i2), .second, .val (.int i3), .val (.long d1), .second, .val (.int (((Jvm.Free.XT.ushr i3 (2 : Int32)) &&& (7 : Int32)) % (5 : Int32))), .val (.long d2), .second, .val (.int w48), .val (.ref b4), .val (.ref b8), .unset, .unset, .unset, .unset, .unset, .unset, .unset, .unset, .unset, .unset, .unset, .unset, .unset, .unset, .unset, .unset, .unset] [.ref b29])
      refine s_astore k44 at_88 rfl (l' := #[.val (.long i0), .second, .val (.long i1), .second, .val (.long i2), .second, .val (.int i3), .val (.long d1), .second, .val (.int (((Jvm.Free.XT.ushr i3 (2 : Int32)) &&& (7 : Int32)) % (5 : Int32))), .val (.long d2), .second, .val (.int w48), .val (.ref b4), .val (.ref b8), .val (.ref b29), .unset, .unset, .unset, .unset, .unset, .unset, .unset, .unset, .unset, .unset, .unset, .unset, .unset, .unset, .unset, .unset]) rfl (pc' := 90) rfl ?_
      refine s_aload k44 at_90 rfl rfl (pc' := 92) rfl ?_
      refine s_aload k44 at_92 rfl rfl (pc' := 94) rfl ?_
      refine s_callV k44 [.ref b8] 0 at_94 (hw _ (List.mem_of_getElem? (i := 37) rfl)) (hw _ (List.mem_of_getElem? (i := 38) rfl)) (hw _ (List.mem_of_getElem? (i := 40) rfl)) (hw _ (List.mem_of_getElem? (i := 39) rfl)) (hw _ (List.mem_of_getElem? (i := 7) rfl)) (hw _ (List.mem_of_getElem? (i := 41) rfl)) (by decide) E54_b4 (abs_add1 hw Z59 ⟨⟨g_b4, g_sa6, g_oa6, g_b8, g_b29⟩, n6_1, n6_2, ne_b4_b8, ne_b4_b29, n6_3, ne_sa6_b8, ne_sa6_b29, ne_oa6_b8, ne_oa6_b29, ne_b8_b29⟩ Os6 ⟨E54_b4, F45_b4_slots, F46_b4_occupied, F47_b4_overflow, F48_b4_overflowEvent, F49_b4_elapsed, B57_sa6, B58_oa6⟩ ⟨E55_b8, F50_b8_deadline, F51_b8_place, F52_b8_next, F53_b8_previous⟩ ⟨E56_b29, F44_d, F44_p, F44_n, F44_v⟩) (by decide) (by decide) pd__28Lcom_2fexample_2fgull_2fgull_2fTimerWheel_24Timer_3b_29Z rfl (Nat.le_of_eq rfl) rfl (by decide) (by decide) rfl (pc' := 97) rfl fun v60 T60 h60 L60 k60 Qv60 => ?_
      obtain ⟨rfl, H60, G60⟩ := Qv60
      have Z61 := Nat.le_trans g_b4 (Nat.le_of_lt H60.ew.lt)
      show Go p e below P T60 (mkF m 97 #[.val (.long i0), .second, .val (.long i1), .second, .val (.long i2), .second, .val (.int i3), .val (.long d1), .second, .val (.int (((Jvm.Free.XT.ushr i3 (2 : Int32)) &&& (7 : Int32)) % (5 : Int32))), .val (.long d2), .second, .val (.int w48), .val (.ref b4), .val (.ref b8), .val (.ref b29), .unset, .unset, .unset, .unset, .unset, .unset, .unset, .unset, .unset, .unset, .unset, .unset, .unset, .unset, .unset, .unset] [.int (ga i0 d1)])
      refine s_istore k60 at_97 (l' := #[.val (.long i0), .second, .val (.long i1), .second, .val (.long i2), .second, .val (.int i3), .val (.long d1), .second, .val (.int (((Jvm.Free.XT.ushr i3 (2 : Int32)) &&& (7 : Int32)) % (5 : Int32))), .val (.long d2), .second, .val (.int w48), .val (.ref b4), .val (.ref b8), .val (.ref b29), .val (.int (ga i0 d1)), .unset, .unset, .unset, .unset, .unset, .unset, .unset, .unset, .unset, .unset, .unset, .unset, .unset, .unset, .unset]) rfl (pc' := 99) rfl ?_
      refine s_aload k60 at_99 rfl rfl (pc' := 101) rfl ?_
      refine s_aload k60 at_101 rfl rfl (pc' := 103) rfl ?_
      refine s_callV k60 [.ref b29] 0 at_103 (hw _ (List.mem_of_getElem? (i := 37) rfl)) (hw _ (List.mem_of_getElem? (i := 38) rfl)) (hw _ (List.mem_of_getElem? (i := 40) rfl)) (hw _ (List.mem_of_getElem? (i := 39) rfl)) (hw _ (List.mem_of_getElem? (i := 7) rfl)) (hw _ (List.mem_of_getElem? (i := 41) rfl)) (by decide) H60.ew (abs_add2 hw Z61 ⟨⟨g_b4, g_sa6, g_oa6, g_b8, g_b29⟩, n6_1, n6_2, ne_b4_b8, ne_b4_b29, n6_3, ne_sa6_b8, ne_sa6_b29, ne_oa6_b8, ne_oa6_b29, ne_b8_b29⟩ Os6 H60 G60) (by decide) (by decide) pd__28Lcom_2fexample_2fgull_2fgull_2fTimerWheel_24Timer_3b_29Z rfl (Nat.le_of_eq rfl) rfl (by decide) (by decide) rfl (pc' := 106) rfl fun v62 T62 h62 L62 k62 Qv62 => ?_
      obtain ⟨rfl, H62⟩ := Qv62
      have Z63 := Nat.le_trans g_b4 (Nat.le_of_lt H62.ew.lt)
      show Go p e below P T62 (mkF m 106 #[.val (.long i0), .second, .val (.long i1), .second, .val (.long i2), .second, .val (.int i3), .val (.long d1), .second, .val (.int (((Jvm.Free.XT.ushr i3 (2 : Int32)) &&& (7 : Int32)) % (5 : Int32))), .val (.long d2), .second, .val (.int w48), .val (.ref b4), .val (.ref b8), .val (.ref b29), .val (.int (ga i0 d1)), .unset, .unset, .unset, .unset, .unset, .unset, .unset, .unset, .unset, .unset, .unset, .unset, .unset, .unset, .unset] [.int (ga i0 d2)])
      refine s_istore k62 at_106 (l' := #[.val (.long i0), .second, .val (.long i1), .second, .val (.long i2), .second, .val (.int i3), .val (.long d1), .second, .val (.int (((Jvm.Free.XT.ushr i3 (2 : Int32)) &&& (7 : Int32)) % (5 : Int32))), .val (.long d2), .second, .val (.int w48), .val (.ref b4), .val (.ref b8), .val (.ref b29), .val (.int (ga i0 d1)), .val (.int (ga i0 d2)), .unset, .unset, .unset, .unset, .unset, .unset, .unset, .unset, .unset, .unset, .unset, .unset, .unset, .unset]) rfl (pc' := 108) rfl ?_
      refine s_iload k62 at_108 rfl (pc' := 110) rfl ?_
      refine s_if_eq k62 at_110 (by decide) (pc' := 118) (by decide) (pc3 := 113) rfl (fun hc110 => ?_) (fun hc110 => ?_)
      · refine s_aload k62 at_118 rfl rfl (pc' := 120) rfl ?_
        refine s_astore k62 at_120 rfl (l' := #[.val (.long i0), .second, .val (.long i1), .second, .val (.long i2), .second, .val (.int i3), .val (.long d1), .second, .val (.int (((Jvm.Free.XT.ushr i3 (2 : Int32)) &&& (7 : Int32)) % (5 : Int32))), .val (.long d2), .second, .val (.int w48), .val (.ref b4), .val (.ref b8), .val (.ref b29), .val (.int (ga i0 d1)), .val (.int (ga i0 d2)), .val (.ref b8), .unset, .unset, .unset, .unset, .unset, .unset, .unset, .unset, .unset, .unset, .unset, .unset, .unset]) rfl (pc' := 122) rfl ?_
        refine s_iload k62 at_122 rfl (pc' := 124) rfl ?_
        refine s_if_eq k62 at_124 (by decide) (pc' := 132) (by decide) (pc3 := 127) rfl (fun hc124 => ?_) (fun hc124 => absurd hc110 hc124)
        refine s_aload k62 at_132 rfl rfl (pc' := 134) rfl ?_
        refine s_astore k62 at_134 rfl (l' := #[.val (.long i0), .second, .val (.long i1), .second, .val (.long i2), .second, .val (.int i3), .val (.long d1), .second, .val (.int (((Jvm.Free.XT.ushr i3 (2 : Int32)) &&& (7 : Int32)) % (5 : Int32))), .val (.long d2), .second, .val (.int w48), .val (.ref b4), .val (.ref b8), .val (.ref b29), .val (.int (ga i0 d1)), .val (.int (ga i0 d2)), .val (.ref b8), .val (.ref b29), .unset, .unset, .unset, .unset, .unset, .unset, .unset, .unset, .unset, .unset, .unset, .unset]) rfl (pc' := 136) rfl ?_
        refine s_iload k62 at_136 rfl (pc' := 138) rfl ?_
        refine s_if_eq k62 at_138 (by decide) (pc' := 146) (by decide) (pc3 := 141) rfl (fun hc138 => ?_) (fun hc138 => absurd hc110 hc138)
        refine s_lload k62 at_146 rfl (pc' := 148) rfl ?_
        refine s_lstore k62 at_148 (l' := #[.val (.long i0), .second, .val (.long i1), .second, .val (.long i2), .second, .val (.int i3), .val (.long d1), .second, .val (.int (((Jvm.Free.XT.ushr i3 (2 : Int32)) &&& (7 : Int32)) % (5 : Int32))), .val (.long d2), .second, .val (.int w48), .val (.ref b4), .val (.ref b8), .val (.ref b29), .val (.int (ga i0 d1)), .val (.int (ga i0 d2)), .val (.ref b8), .val (.ref b29), .val (.long d1), .second, .unset, .unset, .unset, .unset, .unset, .unset, .unset, .unset, .unset, .unset]) rfl (pc' := 150) rfl ?_
        refine s_iload k62 at_150 rfl (pc' := 152) rfl ?_
        refine s_if_eq k62 at_152 (by decide) (pc' := 160) (by decide) (pc3 := 155) rfl (fun hc152 => ?_) (fun hc152 => absurd hc110 hc152)
        refine s_lload k62 at_160 rfl (pc' := 162) rfl ?_
        refine s_lstore k62 at_162 (l' := #[.val (.long i0), .second, .val (.long i1), .second, .val (.long i2), .second, .val (.int i3), .val (.long d1), .second, .val (.int (((Jvm.Free.XT.ushr i3 (2 : Int32)) &&& (7 : Int32)) % (5 : Int32))), .val (.long d2), .second, .val (.int w48), .val (.ref b4), .val (.ref b8), .val (.ref b29), .val (.int (ga i0 d1)), .val (.int (ga i0 d2)), .val (.ref b8), .val (.ref b29), .val (.long d1), .second, .val (.long d2), .second, .unset, .unset, .unset, .unset, .unset, .unset, .unset, .unset]) rfl (pc' := 164) rfl ?_
        refine s_iload k62 at_164 rfl (pc' := 166) rfl ?_
        refine s_if_eq k62 at_166 (by decide) (pc' := 174) (by decide) (pc3 := 169) rfl (fun hc166 => ?_) (fun hc166 => absurd hc110 hc166)
        refine s_iload k62 at_174 rfl (pc' := 176) rfl ?_
        refine s_istore k62 at_176 (l' := #[.val (.long i0), .second, .val (.long i1), .second, .val (.long i2), .second, .val (.int i3), .val (.long d1), .second, .val (.int (((Jvm.Free.XT.ushr i3 (2 : Int32)) &&& (7 : Int32)) % (5 : Int32))), .val (.long d2), .second, .val (.int w48), .val (.ref b4), .val (.ref b8), .val (.ref b29), .val (.int (ga i0 d1)), .val (.int (ga i0 d2)), .val (.ref b8), .val (.ref b29), .val (.long d1), .second, .val (.long d2), .second, .val (.int (ga i0 d1)), .unset, .unset, .unset, .unset, .unset, .unset, .unset]) rfl (pc' := 178) rfl ?_
        refine s_iload k62 at_178 rfl (pc' := 180) rfl ?_
        refine s_if_eq k62 at_180 (by decide) (pc' := 188) (by decide) (pc3 := 183) rfl (fun hc180 => ?_) (fun hc180 => absurd hc110 hc180)
        refine s_iload k62 at_188 rfl (pc' := 190) rfl ?_
        refine s_istore k62 at_190 (l' := #[.val (.long i0), .second, .val (.long i1), .second, .val (.long i2), .second, .val (.int i3), .val (.long d1), .second, .val (.int (((Jvm.Free.XT.ushr i3 (2 : Int32)) &&& (7 : Int32)) % (5 : Int32))), .val (.long d2), .second, .val (.int w48), .val (.ref b4), .val (.ref b8), .val (.ref b29), .val (.int (ga i0 d1)), .val (.int (ga i0 d2)), .val (.ref b8), .val (.ref b29), .val (.long d1), .second, .val (.long d2), .second, .val (.int (ga i0 d1)), .val (.int (ga i0 d2)), .unset, .unset, .unset, .unset, .unset, .unset]) rfl (pc' := 192) rfl ?_
        refine s_aload k62 at_192 rfl rfl (pc' := 194) rfl ?_
        refine s_aload k62 at_194 rfl rfl (pc' := 196) rfl ?_
        refine s_callV k62 [.ref b8] 0 at_196 (hw _ (List.mem_of_getElem? (i := 56) rfl)) (hw _ (List.mem_of_getElem? (i := 57) rfl)) (hw _ (List.mem_of_getElem? (i := 59) rfl)) (hw _ (List.mem_of_getElem? (i := 58) rfl)) (hw _ (List.mem_of_getElem? (i := 7) rfl)) (hw _ (List.mem_of_getElem? (i := 60) rfl)) (by decide) H62.ew (abs_rem1 hw Z63 ⟨⟨g_b4, g_sa6, g_oa6, g_b8, g_b29⟩, n6_1, n6_2, ne_b4_b8, ne_b4_b29, n6_3, ne_sa6_b8, ne_sa6_b29, ne_oa6_b8, ne_oa6_b29, ne_b8_b29⟩ Os6 H62) (by decide) (by decide) pd__28Lcom_2fexample_2fgull_2fgull_2fTimerWheel_24Timer_3b_29V rfl (Nat.le_of_eq rfl) rfl (by decide) (by decide) rfl (pc' := 199) rfl fun v64 T64 h64 L64 k64 Qv64 => ?_
        obtain ⟨rfl, oe64, H64, G64, ho64⟩ := Qv64
        have Z65 := Nat.le_trans g_b4 (Nat.le_of_lt H64.ew.lt)
        show Go p e below P T64 (mkF m 199 #[.val (.long i0), .second, .val (.long i1), .second, .val (.long i2), .second, .val (.int i3), .val (.long d1), .second, .val (.int (((Jvm.Free.XT.ushr i3 (2 : Int32)) &&& (7 : Int32)) % (5 : Int32))), .val (.long d2), .second, .val (.int w48), .val (.ref b4), .val (.ref b8), .val (.ref b29), .val (.int (ga i0 d1)), .val (.int (ga i0 d2)), .val (.ref b8), .val (.ref b29), .val (.long d1), .second, .val (.long d2), .second, .val (.int (ga i0 d1)), .val (.int (ga i0 d2)), .unset, .unset, .unset, .unset, .unset, .unset] [])
        refine s_aload k64 at_199 rfl rfl (pc' := 201) rfl ?_
        refine s_callV k64 [] 0 at_201 (hw _ (List.mem_of_getElem? (i := 66) rfl)) (hw _ (List.mem_of_getElem? (i := 67) rfl)) (hw _ (List.mem_of_getElem? (i := 69) rfl)) (hw _ (List.mem_of_getElem? (i := 68) rfl)) (hw _ (List.mem_of_getElem? (i := 28) rfl)) (hw _ (List.mem_of_getElem? (i := 70) rfl)) (by decide) G64.1 (abs_heldNo hw Z65 G64) (by decide) (by decide) pd__28_29Z rfl (Nat.le_of_eq rfl) rfl (by decide) (by decide) rfl (pc' := 204) rfl fun v66 T66 h66 L66 k66 Qv66 => ?_
        obtain ⟨rfl, rfl⟩ := Qv66
        show Go p e below P T66 (mkF m 204 #[.val (.long i0), .second, .val (.long i1), .second, .val (.long i2), .second, .val (.int i3), .val (.long d1), .second, .val (.int (((Jvm.Free.XT.ushr i3 (2 : Int32)) &&& (7 : Int32)) % (5 : Int32))), .val (.long d2), .second, .val (.int w48), .val (.ref b4), .val (.ref b8), .val (.ref b29), .val (.int (ga i0 d1)), .val (.int (ga i0 d2)), .val (.ref b8), .val (.ref b29), .val (.long d1), .second, .val (.long d2), .second, .val (.int (ga i0 d1)), .val (.int (ga i0 d2)), .unset, .unset, .unset, .unset, .unset, .unset] [.int (0 : Int32)])
        refine s_if_ne k66 at_204 (by decide) (pc' := 221) (by decide) (pc3 := 207) rfl (fun hc204 => ?_) (fun hc204 => absurd (by decide) hc204)
        refine s_aload k66 at_207 rfl rfl (pc' := 209) rfl ?_
        refine s_callV k66 [] 0 at_209 (hw _ (List.mem_of_getElem? (i := 66) rfl)) (hw _ (List.mem_of_getElem? (i := 67) rfl)) (hw _ (List.mem_of_getElem? (i := 69) rfl)) (hw _ (List.mem_of_getElem? (i := 68) rfl)) (hw _ (List.mem_of_getElem? (i := 28) rfl)) (hw _ (List.mem_of_getElem? (i := 70) rfl)) (by decide) H64.eo (abs_held hw Z65 H64) (by decide) (by decide) pd__28_29Z rfl (Nat.le_of_eq rfl) rfl (by decide) (by decide) rfl (pc' := 212) rfl fun v67 T67 h67 L67 k67 Qv67 => ?_
        obtain ⟨rfl, rfl⟩ := Qv67
        show Go p e below P T67 (mkF m 212 #[.val (.long i0), .second, .val (.long i1), .second, .val (.long i2), .second, .val (.int i3), .val (.long d1), .second, .val (.int (((Jvm.Free.XT.ushr i3 (2 : Int32)) &&& (7 : Int32)) % (5 : Int32))), .val (.long d2), .second, .val (.int w48), .val (.ref b4), .val (.ref b8), .val (.ref b29), .val (.int (ga i0 d1)), .val (.int (ga i0 d2)), .val (.ref b8), .val (.ref b29), .val (.long d1), .second, .val (.long d2), .second, .val (.int (ga i0 d1)), .val (.int (ga i0 d2)), .unset, .unset, .unset, .unset, .unset, .unset] [.int (ga i0 d2)])
        refine s_iload k67 at_212 rfl (pc' := 214) rfl ?_
        refine s_icmp_ne k67 at_214 (by decide) (pc' := 221) (by decide) (pc3 := 217) rfl (fun hc214 => ?_) (fun hc214 => absurd rfl hc214)
        refine s_iconst k67 (z := 1) at_217 (by decide) (pc' := 218) rfl ?_
        refine s_goto k67 at_218 (by decide) (pc' := 222) (by decide) ?_
        refine s_istore k67 at_222 (l' := #[.val (.long i0), .second, .val (.long i1), .second, .val (.long i2), .second, .val (.int i3), .val (.long d1), .second, .val (.int (((Jvm.Free.XT.ushr i3 (2 : Int32)) &&& (7 : Int32)) % (5 : Int32))), .val (.long d2), .second, .val (.int w48), .val (.ref b4), .val (.ref b8), .val (.ref b29), .val (.int (ga i0 d1)), .val (.int (ga i0 d2)), .val (.ref b8), .val (.ref b29), .val (.long d1), .second, .val (.long d2), .second, .val (.int (ga i0 d1)), .val (.int (ga i0 d2)), .val (.int (1 : Int32)), .unset, .unset, .unset, .unset, .unset]) rfl (pc' := 224) rfl ?_
        refine s_aload k67 at_224 rfl rfl (pc' := 226) rfl ?_
        refine s_callV k67 [] 0 at_226 (hw _ (List.mem_of_getElem? (i := 71) rfl)) (hw _ (List.mem_of_getElem? (i := 72) rfl)) (hw _ (List.mem_of_getElem? (i := 74) rfl)) (hw _ (List.mem_of_getElem? (i := 73) rfl)) (hw _ (List.mem_of_getElem? (i := 7) rfl)) (hw _ (List.mem_of_getElem? (i := 75) rfl)) (by decide) H64.ew (abs_nx hw Z65 ⟨⟨g_b4, g_sa6, g_oa6, g_b29, g_b8⟩, n6_1, n6_2, ne_b4_b29, ne_b4_b8, n6_3, ne_sa6_b29, ne_sa6_b8, ne_oa6_b29, ne_oa6_b8, (Ne.symm ne_b8_b29)⟩ Os6 H64 G64) (by decide) (by decide) pd__28_29J rfl (Nat.le_of_eq rfl) rfl (by decide) (by decide) rfl (pc' := 229) rfl fun v68 T68 h68 L68 k68 Qv68 => ?_
        obtain ⟨rfl, rfl⟩ := Qv68
        show Go p e below P T68 (mkF m 229 #[.val (.long i0), .second, .val (.long i1), .second, .val (.long i2), .second, .val (.int i3), .val (.long d1), .second, .val (.int (((Jvm.Free.XT.ushr i3 (2 : Int32)) &&& (7 : Int32)) % (5 : Int32))), .val (.long d2), .second, .val (.int w48), .val (.ref b4), .val (.ref b8), .val (.ref b29), .val (.int (ga i0 d1)), .val (.int (ga i0 d2)), .val (.ref b8), .val (.ref b29), .val (.long d1), .second, .val (.long d2), .second, .val (.int (ga i0 d1)), .val (.int (ga i0 d2)), .val (.int (1 : Int32)), .unset, .unset, .unset, .unset, .unset] [.long (gNx i0 d2 oe64)])
        refine s_lstore k68 at_229 (l' := #[.val (.long i0), .second, .val (.long i1), .second, .val (.long i2), .second, .val (.int i3), .val (.long d1), .second, .val (.int (((Jvm.Free.XT.ushr i3 (2 : Int32)) &&& (7 : Int32)) % (5 : Int32))), .val (.long d2), .second, .val (.int w48), .val (.ref b4), .val (.ref b8), .val (.ref b29), .val (.int (ga i0 d1)), .val (.int (ga i0 d2)), .val (.ref b8), .val (.ref b29), .val (.long d1), .second, .val (.long d2), .second, .val (.int (ga i0 d1)), .val (.int (ga i0 d2)), .val (.int (1 : Int32)), .val (.long (gNx i0 d2 oe64)), .second, .unset, .unset, .unset]) rfl (pc' := 231) rfl ?_
        refine s_iload k68 at_231 rfl (pc' := 233) rfl ?_
        have J69 : ∀ (T69 : State) (L69 : List Loc) (k69 : K p l e room_1 s m #[.long i0, .long i1, .long i2, .int i3] below meth c code "com/example/gull/gull/TimerWheelRemovePinLaw" maxLocals ret "law" T69 L69 (((((((((((((0 + 0) + 1) + 2) + 1) + 0) + 1) + 0) + 0) + 0) + 0) + 0) + 0) + 0) (((((((((((((0 + 0) + 5) + 325) + 5) + 0) + 5) + 0) + 0) + 0) + 0) + 0) + 0) + 0) Z h64 n0) (w233 : Int64) (e_w233 : w233 = (if (ga i0 d2) = (0 : Int32) then (9223372036854775807 : Int64) else (fev i0 d2))), Go p e below P T69 (mkF m 248 #[.val (.long i0), .second, .val (.long i1), .second, .val (.long i2), .second, .val (.int i3), .val (.long d1), .second, .val (.int (((Jvm.Free.XT.ushr i3 (2 : Int32)) &&& (7 : Int32)) % (5 : Int32))), .val (.long d2), .second, .val (.int w48), .val (.ref b4), .val (.ref b8), .val (.ref b29), .val (.int (ga i0 d1)), .val (.int (ga i0 d2)), .val (.ref b8), .val (.ref b29), .val (.long d1), .second, .val (.long d2), .second, .val (.int (ga i0 d1)), .val (.int (ga i0 d2)), .val (.int (1 : Int32)), .val (.long (gNx i0 d2 oe64)), .second, .unset, .unset, .unset] [.long w233]) := by
          intro T69 L69 k69 w233 e_w233
          refine s_lstore k69 at_248 (l' := #[.val (.long i0), .second, .val (.long i1), .second, .val (.long i2), .second, .val (.int i3), .val (.long d1), .second, .val (.int (((Jvm.Free.XT.ushr i3 (2 : Int32)) &&& (7 : Int32)) % (5 : Int32))), .val (.long d2), .second, .val (.int w48), .val (.ref b4), .val (.ref b8), .val (.ref b29), .val (.int (ga i0 d1)), .val (.int (ga i0 d2)), .val (.ref b8), .val (.ref b29), .val (.long d1), .second, .val (.long d2), .second, .val (.int (ga i0 d1)), .val (.int (ga i0 d2)), .val (.int (1 : Int32)), .val (.long (gNx i0 d2 oe64)), .second, .val (.long w233), .second, .unset]) rfl (pc' := 250) rfl ?_
          refine s_iload k69 at_250 rfl (pc' := 252) rfl ?_
          have J70 : ∀ (T70 : State) (L70 : List Loc) (k70 : K p l e room_1 s m #[.long i0, .long i1, .long i2, .int i3] below meth c code "com/example/gull/gull/TimerWheelRemovePinLaw" maxLocals ret "law" T70 L70 (((((((((((((0 + 0) + 1) + 2) + 1) + 0) + 1) + 0) + 0) + 0) + 0) + 0) + 0) + 0) (((((((((((((0 + 0) + 5) + 325) + 5) + 0) + 5) + 0) + 0) + 0) + 0) + 0) + 0) + 0) Z h64 n0) (w252 : Int32) (e_w252 : w252 = (if (ga i0 d1) = (0 : Int32) then (0 : Int32) else (if (ga i0 d2) = (0 : Int32) then (0 : Int32) else (if (flv i0 d1) = (5 : Int32) then (if (flv i0 d2) = (5 : Int32) then (1 : Int32) else (0 : Int32)) else (0 : Int32))))), Go p e below P T70 (mkF m 285 #[.val (.long i0), .second, .val (.long i1), .second, .val (.long i2), .second, .val (.int i3), .val (.long d1), .second, .val (.int (((Jvm.Free.XT.ushr i3 (2 : Int32)) &&& (7 : Int32)) % (5 : Int32))), .val (.long d2), .second, .val (.int w48), .val (.ref b4), .val (.ref b8), .val (.ref b29), .val (.int (ga i0 d1)), .val (.int (ga i0 d2)), .val (.ref b8), .val (.ref b29), .val (.long d1), .second, .val (.long d2), .second, .val (.int (ga i0 d1)), .val (.int (ga i0 d2)), .val (.int (1 : Int32)), .val (.long (gNx i0 d2 oe64)), .second, .val (.long w233), .second, .unset] [.int w252]) := by
            intro T70 L70 k70 w252 e_w252
            refine s_istore k70 at_285 (l' := #[.val (.long i0), .second, .val (.long i1), .second, .val (.long i2), .second, .val (.int i3), .val (.long d1), .second, .val (.int (((Jvm.Free.XT.ushr i3 (2 : Int32)) &&& (7 : Int32)) % (5 : Int32))), .val (.long d2), .second, .val (.int w48), .val (.ref b4), .val (.ref b8), .val (.ref b29), .val (.int (ga i0 d1)), .val (.int (ga i0 d2)), .val (.ref b8), .val (.ref b29), .val (.long d1), .second, .val (.long d2), .second, .val (.int (ga i0 d1)), .val (.int (ga i0 d2)), .val (.int (1 : Int32)), .val (.long (gNx i0 d2 oe64)), .second, .val (.long w233), .second, .val (.int w252)]) rfl (pc' := 287) rfl ?_
            refine s_iload k70 at_287 rfl (pc' := 289) rfl ?_
            refine s_if_eq k70 at_289 (by decide) (pc' := 326) (by decide) (pc3 := 292) rfl (fun hc289 => absurd hc289 (by decide)) (fun hc289 => ?_)
            refine s_lload k70 at_292 rfl (pc' := 294) rfl ?_
            refine s_lload k70 at_294 rfl (pc' := 296) rfl ?_
            have J71 : ∀ (T71 : State) (L71 : List Loc) (k71 : K p l e room_1 s m #[.long i0, .long i1, .long i2, .int i3] below meth c code "com/example/gull/gull/TimerWheelRemovePinLaw" maxLocals ret "law" T71 L71 (((((((((((((0 + 0) + 1) + 2) + 1) + 0) + 1) + 0) + 0) + 0) + 0) + 0) + 0) + 0) (((((((((((((0 + 0) + 5) + 325) + 5) + 0) + 5) + 0) + 0) + 0) + 0) + 0) + 0) + 0) Z h64 n0)  , Go p e below P T71 (mkF m 322 #[.val (.long i0), .second, .val (.long i1), .second, .val (.long i2), .second, .val (.int i3), .val (.long d1), .second, .val (.int (((Jvm.Free.XT.ushr i3 (2 : Int32)) &&& (7 : Int32)) % (5 : Int32))), .val (.long d2), .second, .val (.int w48), .val (.ref b4), .val (.ref b8), .val (.ref b29), .val (.int (ga i0 d1)), .val (.int (ga i0 d2)), .val (.ref b8), .val (.ref b29), .val (.long d1), .second, .val (.long d2), .second, .val (.int (ga i0 d1)), .val (.int (ga i0 d2)), .val (.int (1 : Int32)), .val (.long (gNx i0 d2 oe64)), .second, .val (.long w233), .second, .val (.int w252)] []) := by
              intro T71 L71 k71  
              refine s_iconst k71 (z := 1) at_322 (by decide) (pc' := 323) rfl ?_
              refine s_goto k71 at_323 (by decide) (pc' := 327) (by decide) ?_
              refine s_istore k71 at_327 (l' := #[.val (.long i0), .second, .val (.long i1), .second, .val (.long i2), .second, .val (.int i3), .val (.long d1), .second, .val (.int (((Jvm.Free.XT.ushr i3 (2 : Int32)) &&& (7 : Int32)) % (5 : Int32))), .val (.long d2), .second, .val (.int w48), .val (.ref b4), .val (.ref b8), .val (.ref b29), .val (.int (ga i0 d1)), .val (.int (ga i0 d2)), .val (.ref b8), .val (.ref b29), .val (.long d1), .second, .val (.long d2), .second, .val (.int (ga i0 d1)), .val (.int (ga i0 d2)), .val (.int (1 : Int32)), .val (.long (gNx i0 d2 oe64)), .second, .val (.long w233), .second, .val (.int w252)]) rfl (pc' := 329) rfl ?_
              refine s_aload k71 at_329 rfl rfl (pc' := 331) rfl ?_
              refine s_aload k71 at_331 rfl rfl (pc' := 333) rfl ?_
              refine s_callV k71 [.ref b29] 0 at_333 (hw _ (List.mem_of_getElem? (i := 56) rfl)) (hw _ (List.mem_of_getElem? (i := 57) rfl)) (hw _ (List.mem_of_getElem? (i := 59) rfl)) (hw _ (List.mem_of_getElem? (i := 58) rfl)) (hw _ (List.mem_of_getElem? (i := 7) rfl)) (hw _ (List.mem_of_getElem? (i := 60) rfl)) (by decide) H64.ew (abs_remOne hw Z65 ⟨⟨g_b4, g_sa6, g_oa6, g_b29, g_b8⟩, n6_1, n6_2, ne_b4_b29, ne_b4_b8, n6_3, ne_sa6_b29, ne_sa6_b8, ne_oa6_b29, ne_oa6_b8, (Ne.symm ne_b8_b29)⟩ Os6 H64 G64) (by decide) (by decide) pd__28Lcom_2fexample_2fgull_2fgull_2fTimerWheel_24Timer_3b_29V rfl (Nat.le_of_eq rfl) rfl (by decide) (by decide) rfl (pc' := 336) rfl fun v72 T72 h72 L72 k72 Qv72 => ?_
              obtain ⟨rfl, H72, G72, I72⟩ := Qv72
              have Z73 := Nat.le_trans g_b4 (Nat.le_of_lt H72.1.lt)
              show Go p e below P T72 (mkF m 336 #[.val (.long i0), .second, .val (.long i1), .second, .val (.long i2), .second, .val (.int i3), .val (.long d1), .second, .val (.int (((Jvm.Free.XT.ushr i3 (2 : Int32)) &&& (7 : Int32)) % (5 : Int32))), .val (.long d2), .second, .val (.int w48), .val (.ref b4), .val (.ref b8), .val (.ref b29), .val (.int (ga i0 d1)), .val (.int (ga i0 d2)), .val (.ref b8), .val (.ref b29), .val (.long d1), .second, .val (.long d2), .second, .val (.int (ga i0 d1)), .val (.int (ga i0 d2)), .val (.int (1 : Int32)), .val (.long (gNx i0 d2 oe64)), .second, .val (.long w233), .second, .val (.int w252)] [])
              refine s_iload k72 at_336 rfl (pc' := 338) rfl ?_
              refine s_if_eq k72 at_338 (by decide) (pc' := 357) (by decide) (pc3 := 341) rfl (fun hc338 => absurd hc338 (by decide)) (fun hc338 => ?_)
              refine s_aload k72 at_341 rfl rfl (pc' := 343) rfl ?_
              refine s_callV k72 [] 0 at_343 (hw _ (List.mem_of_getElem? (i := 71) rfl)) (hw _ (List.mem_of_getElem? (i := 72) rfl)) (hw _ (List.mem_of_getElem? (i := 74) rfl)) (hw _ (List.mem_of_getElem? (i := 73) rfl)) (hw _ (List.mem_of_getElem? (i := 7) rfl)) (hw _ (List.mem_of_getElem? (i := 75) rfl)) (by decide) H72.1 (abs_nxE hw Z73 ⟨⟨g_b4, g_sa6, g_oa6, g_b29, g_b8⟩, n6_1, n6_2, ne_b4_b29, ne_b4_b8, n6_3, ne_sa6_b29, ne_sa6_b8, ne_oa6_b29, ne_oa6_b8, (Ne.symm ne_b8_b29)⟩ Os6 H72 G72 I72) (by decide) (by decide) pd__28_29J rfl (Nat.le_of_eq rfl) rfl (by decide) (by decide) rfl (pc' := 346) rfl fun v74 T74 h74 L74 k74 Qv74 => ?_
              obtain ⟨rfl, rfl⟩ := Qv74
              show Go p e below P T74 (mkF m 346 #[.val (.long i0), .second, .val (.long i1), .second, .val (.long i2), .second, .val (.int i3), .val (.long d1), .second, .val (.int (((Jvm.Free.XT.ushr i3 (2 : Int32)) &&& (7 : Int32)) % (5 : Int32))), .val (.long d2), .second, .val (.int w48), .val (.ref b4), .val (.ref b8), .val (.ref b29), .val (.int (ga i0 d1)), .val (.int (ga i0 d2)), .val (.ref b8), .val (.ref b29), .val (.long d1), .second, .val (.long d2), .second, .val (.int (ga i0 d1)), .val (.int (ga i0 d2)), .val (.int (1 : Int32)), .val (.long (gNx i0 d2 oe64)), .second, .val (.long w233), .second, .val (.int w252)] [.long (9223372036854775807 : Int64)])
              refine s_ldcL k74 at_346 (hw _ (List.mem_of_getElem? (i := 84) rfl)) (pc' := 349) rfl ?_
              refine s_lcmp_ne k74 at_349 rfl at_350 (by decide) (pc' := 357) (by decide) (pc3 := 353) rfl (fun hc349 => ?_) (fun hc349 => absurd (by decide) hc349)
              refine s_iconst k74 (z := 1) at_353 (by decide) (pc' := 354) rfl ?_
              refine s_goto k74 at_354 (by decide) (pc' := 358) (by decide) ?_
              exact s_retZ k74 at_358 rfl (by decide) hP (by decide) (by decide) rfl
            refine s_lcmp_eq k70 at_296 rfl at_297 (by decide) (pc' := 322) (by decide) (pc3 := 300) rfl (fun hc296 => ?_) (fun hc296 => ?_)
            · exact J71 _ _ k70  
            · refine s_iload k70 at_300 rfl (pc' := 302) rfl ?_
              refine s_if_eq k70 at_302 (by decide) (pc' := 326) (by decide) (pc3 := 305) rfl (fun hc302 => absurd hc302 (own_fin ho64 e_w233 e_w252 hc296).1) (fun hc302 => ?_)
              refine s_lload k70 at_305 rfl (pc' := 307) rfl ?_
              refine s_lload k70 at_307 rfl (pc' := 309) rfl ?_
              refine s_lloadN k70 at_309 rfl (pc' := 310) rfl ?_
              refine s_lload k70 at_310 rfl (pc' := 312) rfl ?_
              refine s_callS k70 [.long i0, .long d1] 4 at_312 (hw _ (List.mem_of_getElem? (i := 96) rfl)) (hw _ (List.mem_of_getElem? (i := 97) rfl)) (hw _ (List.mem_of_getElem? (i := 2) rfl)) (hw _ (List.mem_of_getElem? (i := 98) rfl)) (by decide) (rmev l Z a0 hw i0 d1 h64 n0 Z65 ) (by decide) (by decide) pd__28JJ_29J rfl (Nat.le_of_eq rfl) rfl (by decide) (by decide) rfl (pc' := 315) rfl fun v75 T75 h75 L75 k75 Qv75 => ?_
              obtain ⟨rfl, rfl⟩ := Qv75
              show Go p e below P T75 (mkF m 315 #[.val (.long i0), .second, .val (.long i1), .second, .val (.long i2), .second, .val (.int i3), .val (.long d1), .second, .val (.int (((Jvm.Free.XT.ushr i3 (2 : Int32)) &&& (7 : Int32)) % (5 : Int32))), .val (.long d2), .second, .val (.int w48), .val (.ref b4), .val (.ref b8), .val (.ref b29), .val (.int (ga i0 d1)), .val (.int (ga i0 d2)), .val (.ref b8), .val (.ref b29), .val (.long d1), .second, .val (.long d2), .second, .val (.int (ga i0 d1)), .val (.int (ga i0 d2)), .val (.int (1 : Int32)), .val (.long (gNx i0 d2 oe64)), .second, .val (.long w233), .second, .val (.int w252)] [.long (fev i0 d1), .long w233, .long (gNx i0 d2 oe64)])
              refine s_callS k75 [.long w233, .long (fev i0 d1)] 2 at_315 (hw _ (List.mem_of_getElem? (i := 104) rfl)) (hw _ (List.mem_of_getElem? (i := 87) rfl)) (hw _ (List.mem_of_getElem? (i := 88) rfl)) (hw _ (List.mem_of_getElem? (i := 89) rfl)) (by decide) (rmmin l Z a0 hw w233 (fev i0 d1) h64 n0 Z65 ) (by decide) (by decide) pd__28JJ_29J rfl (Nat.le_of_eq rfl) rfl (by decide) (by decide) rfl (pc' := 318) rfl fun v76 T76 h76 L76 k76 Qv76 => ?_
              obtain ⟨rfl, rfl⟩ := Qv76
              show Go p e below P T76 (mkF m 318 #[.val (.long i0), .second, .val (.long i1), .second, .val (.long i2), .second, .val (.int i3), .val (.long d1), .second, .val (.int (((Jvm.Free.XT.ushr i3 (2 : Int32)) &&& (7 : Int32)) % (5 : Int32))), .val (.long d2), .second, .val (.int w48), .val (.ref b4), .val (.ref b8), .val (.ref b29), .val (.int (ga i0 d1)), .val (.int (ga i0 d2)), .val (.ref b8), .val (.ref b29), .val (.long d1), .second, .val (.long d2), .second, .val (.int (ga i0 d1)), .val (.int (ga i0 d2)), .val (.int (1 : Int32)), .val (.long (gNx i0 d2 oe64)), .second, .val (.long w233), .second, .val (.int w252)] [.long (fmin w233 (fev i0 d1)), .long (gNx i0 d2 oe64)])
              refine s_lcmp_ne k76 at_318 rfl at_319 (by decide) (pc' := 326) (by decide) (pc3 := 322) rfl (fun hc318 => ?_) (fun hc318 => absurd (own_fin ho64 e_w233 e_w252 hc296).2 hc318)
              exact J71 _ _ k76  
          refine s_if_eq k69 at_252 (by decide) (pc' := 284) (by decide) (pc3 := 255) rfl (fun hc252 => ?_) (fun hc252 => ?_)
          · refine s_iconst k69 (z := 0) at_284 (by decide) (pc' := 285) rfl ?_
            exact J70 _ _ k69 _ (by rw [if_pos hc252])
          · refine s_iload k69 at_255 rfl (pc' := 257) rfl ?_
            refine s_if_eq k69 at_257 (by decide) (pc' := 284) (by decide) (pc3 := 260) rfl (fun hc257 => ?_) (fun hc257 => ?_)
            · refine s_iconst k69 (z := 0) at_284 (by decide) (pc' := 285) rfl ?_
              exact J70 _ _ k69 _ (by rw [if_neg hc252, if_pos hc257])
            · refine s_lloadN k69 at_260 rfl (pc' := 261) rfl ?_
              refine s_lload k69 at_261 rfl (pc' := 263) rfl ?_
              refine s_callS k69 [.long i0, .long d1] 0 at_263 (hw _ (List.mem_of_getElem? (i := 99) rfl)) (hw _ (List.mem_of_getElem? (i := 100) rfl)) (hw _ (List.mem_of_getElem? (i := 2) rfl)) (hw _ (List.mem_of_getElem? (i := 101) rfl)) (by decide) (rmlv l Z a0 hw i0 d1 h64 n0 Z65 ) (by decide) (by decide) pd__28JJ_29I rfl (Nat.le_of_eq rfl) rfl (by decide) (by decide) rfl (pc' := 266) rfl fun v77 T77 h77 L77 k77 Qv77 => ?_
              obtain ⟨rfl, rfl⟩ := Qv77
              show Go p e below P T77 (mkF m 266 #[.val (.long i0), .second, .val (.long i1), .second, .val (.long i2), .second, .val (.int i3), .val (.long d1), .second, .val (.int (((Jvm.Free.XT.ushr i3 (2 : Int32)) &&& (7 : Int32)) % (5 : Int32))), .val (.long d2), .second, .val (.int w48), .val (.ref b4), .val (.ref b8), .val (.ref b29), .val (.int (ga i0 d1)), .val (.int (ga i0 d2)), .val (.ref b8), .val (.ref b29), .val (.long d1), .second, .val (.long d2), .second, .val (.int (ga i0 d1)), .val (.int (ga i0 d2)), .val (.int (1 : Int32)), .val (.long (gNx i0 d2 oe64)), .second, .val (.long w233), .second, .unset] [.int (flv i0 d1)])
              refine s_iconst k77 (z := 5) at_266 (by decide) (pc' := 267) rfl ?_
              refine s_icmp_ne k77 at_267 (by decide) (pc' := 284) (by decide) (pc3 := 270) rfl (fun hc267 => ?_) (fun hc267 => ?_)
              · refine s_lloadN k77 at_270 rfl (pc' := 271) rfl ?_
                refine s_lload k77 at_271 rfl (pc' := 273) rfl ?_
                refine s_callS k77 [.long i0, .long d2] 0 at_273 (hw _ (List.mem_of_getElem? (i := 99) rfl)) (hw _ (List.mem_of_getElem? (i := 100) rfl)) (hw _ (List.mem_of_getElem? (i := 2) rfl)) (hw _ (List.mem_of_getElem? (i := 101) rfl)) (by decide) (rmlv l Z a0 hw i0 d2 h64 n0 Z65 ) (by decide) (by decide) pd__28JJ_29I rfl (Nat.le_of_eq rfl) rfl (by decide) (by decide) rfl (pc' := 276) rfl fun v78 T78 h78 L78 k78 Qv78 => ?_
                obtain ⟨rfl, rfl⟩ := Qv78
                show Go p e below P T78 (mkF m 276 #[.val (.long i0), .second, .val (.long i1), .second, .val (.long i2), .second, .val (.int i3), .val (.long d1), .second, .val (.int (((Jvm.Free.XT.ushr i3 (2 : Int32)) &&& (7 : Int32)) % (5 : Int32))), .val (.long d2), .second, .val (.int w48), .val (.ref b4), .val (.ref b8), .val (.ref b29), .val (.int (ga i0 d1)), .val (.int (ga i0 d2)), .val (.ref b8), .val (.ref b29), .val (.long d1), .second, .val (.long d2), .second, .val (.int (ga i0 d1)), .val (.int (ga i0 d2)), .val (.int (1 : Int32)), .val (.long (gNx i0 d2 oe64)), .second, .val (.long w233), .second, .unset] [.int (flv i0 d2)])
                refine s_iconst k78 (z := 5) at_276 (by decide) (pc' := 277) rfl ?_
                refine s_icmp_ne k78 at_277 (by decide) (pc' := 284) (by decide) (pc3 := 280) rfl (fun hc277 => ?_) (fun hc277 => ?_)
                · refine s_iconst k78 (z := 1) at_280 (by decide) (pc' := 281) rfl ?_
                  refine s_goto k78 at_281 (by decide) (pc' := 285) (by decide) ?_
                  exact J70 _ _ k78 _ (by rw [if_neg hc252, if_neg hc257, if_pos hc267, if_pos hc277])
                · refine s_iconst k78 (z := 0) at_284 (by decide) (pc' := 285) rfl ?_
                  exact J70 _ _ k78 _ (by rw [if_neg hc252, if_neg hc257, if_pos hc267, if_neg hc277])
              · refine s_iconst k77 (z := 0) at_284 (by decide) (pc' := 285) rfl ?_
                exact J70 _ _ k77 _ (by rw [if_neg hc252, if_neg hc257, if_neg hc267])
        refine s_if_eq k68 at_233 (by decide) (pc' := 245) (by decide) (pc3 := 236) rfl (fun hc233 => ?_) (fun hc233 => ?_)
        · refine s_ldcL k68 at_245 (hw _ (List.mem_of_getElem? (i := 84) rfl)) (pc' := 248) rfl ?_
          exact J69 _ _ k68 _ (by rw [if_pos hc233])
        · refine s_lloadN k68 at_236 rfl (pc' := 237) rfl ?_
          refine s_lload k68 at_237 rfl (pc' := 239) rfl ?_
          refine s_callS k68 [.long i0, .long d2] 0 at_239 (hw _ (List.mem_of_getElem? (i := 96) rfl)) (hw _ (List.mem_of_getElem? (i := 97) rfl)) (hw _ (List.mem_of_getElem? (i := 2) rfl)) (hw _ (List.mem_of_getElem? (i := 98) rfl)) (by decide) (rmev l Z a0 hw i0 d2 h64 n0 Z65 ) (by decide) (by decide) pd__28JJ_29J rfl (Nat.le_of_eq rfl) rfl (by decide) (by decide) rfl (pc' := 242) rfl fun v79 T79 h79 L79 k79 Qv79 => ?_
          obtain ⟨rfl, rfl⟩ := Qv79
          show Go p e below P T79 (mkF m 242 #[.val (.long i0), .second, .val (.long i1), .second, .val (.long i2), .second, .val (.int i3), .val (.long d1), .second, .val (.int (((Jvm.Free.XT.ushr i3 (2 : Int32)) &&& (7 : Int32)) % (5 : Int32))), .val (.long d2), .second, .val (.int w48), .val (.ref b4), .val (.ref b8), .val (.ref b29), .val (.int (ga i0 d1)), .val (.int (ga i0 d2)), .val (.ref b8), .val (.ref b29), .val (.long d1), .second, .val (.long d2), .second, .val (.int (ga i0 d1)), .val (.int (ga i0 d2)), .val (.int (1 : Int32)), .val (.long (gNx i0 d2 oe64)), .second, .unset, .unset, .unset] [.long (fev i0 d2)])
          refine s_goto k79 at_242 (by decide) (pc' := 248) (by decide) ?_
          exact J69 _ _ k79 _ (by rw [if_neg hc233])
      · refine s_aload k62 at_113 rfl rfl (pc' := 115) rfl ?_
        refine s_goto k62 at_115 (by decide) (pc' := 120) (by decide) ?_
        refine s_astore k62 at_120 rfl (l' := #[.val (.long i0), .second, .val (.long i1), .second, .val (.long i2), .second, .val (.int i3), .val (.long d1), .second, .val (.int (((Jvm.Free.XT.ushr i3 (2 : Int32)) &&& (7 : Int32)) % (5 : Int32))), .val (.long d2), .second, .val (.int w48), .val (.ref b4), .val (.ref b8), .val (.ref b29), .val (.int (ga i0 d1)), .val (.int (ga i0 d2)), .val (.ref b29), .unset, .unset, .unset, .unset, .unset, .unset, .unset, .unset, .unset, .unset, .unset, .unset, .unset]) rfl (pc' := 122) rfl ?_
        refine s_iload k62 at_122 rfl (pc' := 124) rfl ?_
        refine s_if_eq k62 at_124 (by decide) (pc' := 132) (by decide) (pc3 := 127) rfl (fun hc124 => absurd hc124 hc110) (fun hc124 => ?_)
        refine s_aload k62 at_127 rfl rfl (pc' := 129) rfl ?_
        refine s_goto k62 at_129 (by decide) (pc' := 134) (by decide) ?_
        refine s_astore k62 at_134 rfl (l' := #[.val (.long i0), .second, .val (.long i1), .second, .val (.long i2), .second, .val (.int i3), .val (.long d1), .second, .val (.int (((Jvm.Free.XT.ushr i3 (2 : Int32)) &&& (7 : Int32)) % (5 : Int32))), .val (.long d2), .second, .val (.int w48), .val (.ref b4), .val (.ref b8), .val (.ref b29), .val (.int (ga i0 d1)), .val (.int (ga i0 d2)), .val (.ref b29), .val (.ref b8), .unset, .unset, .unset, .unset, .unset, .unset, .unset, .unset, .unset, .unset, .unset, .unset]) rfl (pc' := 136) rfl ?_
        refine s_iload k62 at_136 rfl (pc' := 138) rfl ?_
        refine s_if_eq k62 at_138 (by decide) (pc' := 146) (by decide) (pc3 := 141) rfl (fun hc138 => absurd hc138 hc110) (fun hc138 => ?_)
        refine s_lload k62 at_141 rfl (pc' := 143) rfl ?_
        refine s_goto k62 at_143 (by decide) (pc' := 148) (by decide) ?_
        refine s_lstore k62 at_148 (l' := #[.val (.long i0), .second, .val (.long i1), .second, .val (.long i2), .second, .val (.int i3), .val (.long d1), .second, .val (.int (((Jvm.Free.XT.ushr i3 (2 : Int32)) &&& (7 : Int32)) % (5 : Int32))), .val (.long d2), .second, .val (.int w48), .val (.ref b4), .val (.ref b8), .val (.ref b29), .val (.int (ga i0 d1)), .val (.int (ga i0 d2)), .val (.ref b29), .val (.ref b8), .val (.long d2), .second, .unset, .unset, .unset, .unset, .unset, .unset, .unset, .unset, .unset, .unset]) rfl (pc' := 150) rfl ?_
        refine s_iload k62 at_150 rfl (pc' := 152) rfl ?_
        refine s_if_eq k62 at_152 (by decide) (pc' := 160) (by decide) (pc3 := 155) rfl (fun hc152 => absurd hc152 hc110) (fun hc152 => ?_)
        refine s_lload k62 at_155 rfl (pc' := 157) rfl ?_
        refine s_goto k62 at_157 (by decide) (pc' := 162) (by decide) ?_
        refine s_lstore k62 at_162 (l' := #[.val (.long i0), .second, .val (.long i1), .second, .val (.long i2), .second, .val (.int i3), .val (.long d1), .second, .val (.int (((Jvm.Free.XT.ushr i3 (2 : Int32)) &&& (7 : Int32)) % (5 : Int32))), .val (.long d2), .second, .val (.int w48), .val (.ref b4), .val (.ref b8), .val (.ref b29), .val (.int (ga i0 d1)), .val (.int (ga i0 d2)), .val (.ref b29), .val (.ref b8), .val (.long d2), .second, .val (.long d1), .second, .unset, .unset, .unset, .unset, .unset, .unset, .unset, .unset]) rfl (pc' := 164) rfl ?_
        refine s_iload k62 at_164 rfl (pc' := 166) rfl ?_
        refine s_if_eq k62 at_166 (by decide) (pc' := 174) (by decide) (pc3 := 169) rfl (fun hc166 => absurd hc166 hc110) (fun hc166 => ?_)
        refine s_iload k62 at_169 rfl (pc' := 171) rfl ?_
        refine s_goto k62 at_171 (by decide) (pc' := 176) (by decide) ?_
        refine s_istore k62 at_176 (l' := #[.val (.long i0), .second, .val (.long i1), .second, .val (.long i2), .second, .val (.int i3), .val (.long d1), .second, .val (.int (((Jvm.Free.XT.ushr i3 (2 : Int32)) &&& (7 : Int32)) % (5 : Int32))), .val (.long d2), .second, .val (.int w48), .val (.ref b4), .val (.ref b8), .val (.ref b29), .val (.int (ga i0 d1)), .val (.int (ga i0 d2)), .val (.ref b29), .val (.ref b8), .val (.long d2), .second, .val (.long d1), .second, .val (.int (ga i0 d2)), .unset, .unset, .unset, .unset, .unset, .unset, .unset]) rfl (pc' := 178) rfl ?_
        refine s_iload k62 at_178 rfl (pc' := 180) rfl ?_
        refine s_if_eq k62 at_180 (by decide) (pc' := 188) (by decide) (pc3 := 183) rfl (fun hc180 => absurd hc180 hc110) (fun hc180 => ?_)
        refine s_iload k62 at_183 rfl (pc' := 185) rfl ?_
        refine s_goto k62 at_185 (by decide) (pc' := 190) (by decide) ?_
        refine s_istore k62 at_190 (l' := #[.val (.long i0), .second, .val (.long i1), .second, .val (.long i2), .second, .val (.int i3), .val (.long d1), .second, .val (.int (((Jvm.Free.XT.ushr i3 (2 : Int32)) &&& (7 : Int32)) % (5 : Int32))), .val (.long d2), .second, .val (.int w48), .val (.ref b4), .val (.ref b8), .val (.ref b29), .val (.int (ga i0 d1)), .val (.int (ga i0 d2)), .val (.ref b29), .val (.ref b8), .val (.long d2), .second, .val (.long d1), .second, .val (.int (ga i0 d2)), .val (.int (ga i0 d1)), .unset, .unset, .unset, .unset, .unset, .unset]) rfl (pc' := 192) rfl ?_
        refine s_aload k62 at_192 rfl rfl (pc' := 194) rfl ?_
        refine s_aload k62 at_194 rfl rfl (pc' := 196) rfl ?_
        refine s_callV k62 [.ref b29] 0 at_196 (hw _ (List.mem_of_getElem? (i := 56) rfl)) (hw _ (List.mem_of_getElem? (i := 57) rfl)) (hw _ (List.mem_of_getElem? (i := 59) rfl)) (hw _ (List.mem_of_getElem? (i := 58) rfl)) (hw _ (List.mem_of_getElem? (i := 7) rfl)) (hw _ (List.mem_of_getElem? (i := 60) rfl)) (by decide) H62.ew (abs_rem2 hw Z63 ⟨⟨g_b4, g_sa6, g_oa6, g_b8, g_b29⟩, n6_1, n6_2, ne_b4_b8, ne_b4_b29, n6_3, ne_sa6_b8, ne_sa6_b29, ne_oa6_b8, ne_oa6_b29, ne_b8_b29⟩ Os6 H62) (by decide) (by decide) pd__28Lcom_2fexample_2fgull_2fgull_2fTimerWheel_24Timer_3b_29V rfl (Nat.le_of_eq rfl) rfl (by decide) (by decide) rfl (pc' := 199) rfl fun v80 T80 h80 L80 k80 Qv80 => ?_
        obtain ⟨rfl, oe80, H80, G80, ho80⟩ := Qv80
        have Z81 := Nat.le_trans g_b4 (Nat.le_of_lt H80.ew.lt)
        show Go p e below P T80 (mkF m 199 #[.val (.long i0), .second, .val (.long i1), .second, .val (.long i2), .second, .val (.int i3), .val (.long d1), .second, .val (.int (((Jvm.Free.XT.ushr i3 (2 : Int32)) &&& (7 : Int32)) % (5 : Int32))), .val (.long d2), .second, .val (.int w48), .val (.ref b4), .val (.ref b8), .val (.ref b29), .val (.int (ga i0 d1)), .val (.int (ga i0 d2)), .val (.ref b29), .val (.ref b8), .val (.long d2), .second, .val (.long d1), .second, .val (.int (ga i0 d2)), .val (.int (ga i0 d1)), .unset, .unset, .unset, .unset, .unset, .unset] [])
        refine s_aload k80 at_199 rfl rfl (pc' := 201) rfl ?_
        refine s_callV k80 [] 0 at_201 (hw _ (List.mem_of_getElem? (i := 66) rfl)) (hw _ (List.mem_of_getElem? (i := 67) rfl)) (hw _ (List.mem_of_getElem? (i := 69) rfl)) (hw _ (List.mem_of_getElem? (i := 68) rfl)) (hw _ (List.mem_of_getElem? (i := 28) rfl)) (hw _ (List.mem_of_getElem? (i := 70) rfl)) (by decide) G80.1 (abs_heldNo hw Z81 G80) (by decide) (by decide) pd__28_29Z rfl (Nat.le_of_eq rfl) rfl (by decide) (by decide) rfl (pc' := 204) rfl fun v82 T82 h82 L82 k82 Qv82 => ?_
        obtain ⟨rfl, rfl⟩ := Qv82
        show Go p e below P T82 (mkF m 204 #[.val (.long i0), .second, .val (.long i1), .second, .val (.long i2), .second, .val (.int i3), .val (.long d1), .second, .val (.int (((Jvm.Free.XT.ushr i3 (2 : Int32)) &&& (7 : Int32)) % (5 : Int32))), .val (.long d2), .second, .val (.int w48), .val (.ref b4), .val (.ref b8), .val (.ref b29), .val (.int (ga i0 d1)), .val (.int (ga i0 d2)), .val (.ref b29), .val (.ref b8), .val (.long d2), .second, .val (.long d1), .second, .val (.int (ga i0 d2)), .val (.int (ga i0 d1)), .unset, .unset, .unset, .unset, .unset, .unset] [.int (0 : Int32)])
        refine s_if_ne k82 at_204 (by decide) (pc' := 221) (by decide) (pc3 := 207) rfl (fun hc204 => ?_) (fun hc204 => absurd (by decide) hc204)
        refine s_aload k82 at_207 rfl rfl (pc' := 209) rfl ?_
        refine s_callV k82 [] 0 at_209 (hw _ (List.mem_of_getElem? (i := 66) rfl)) (hw _ (List.mem_of_getElem? (i := 67) rfl)) (hw _ (List.mem_of_getElem? (i := 69) rfl)) (hw _ (List.mem_of_getElem? (i := 68) rfl)) (hw _ (List.mem_of_getElem? (i := 28) rfl)) (hw _ (List.mem_of_getElem? (i := 70) rfl)) (by decide) H80.eo (abs_held hw Z81 H80) (by decide) (by decide) pd__28_29Z rfl (Nat.le_of_eq rfl) rfl (by decide) (by decide) rfl (pc' := 212) rfl fun v83 T83 h83 L83 k83 Qv83 => ?_
        obtain ⟨rfl, rfl⟩ := Qv83
        show Go p e below P T83 (mkF m 212 #[.val (.long i0), .second, .val (.long i1), .second, .val (.long i2), .second, .val (.int i3), .val (.long d1), .second, .val (.int (((Jvm.Free.XT.ushr i3 (2 : Int32)) &&& (7 : Int32)) % (5 : Int32))), .val (.long d2), .second, .val (.int w48), .val (.ref b4), .val (.ref b8), .val (.ref b29), .val (.int (ga i0 d1)), .val (.int (ga i0 d2)), .val (.ref b29), .val (.ref b8), .val (.long d2), .second, .val (.long d1), .second, .val (.int (ga i0 d2)), .val (.int (ga i0 d1)), .unset, .unset, .unset, .unset, .unset, .unset] [.int (ga i0 d1)])
        refine s_iload k83 at_212 rfl (pc' := 214) rfl ?_
        refine s_icmp_ne k83 at_214 (by decide) (pc' := 221) (by decide) (pc3 := 217) rfl (fun hc214 => ?_) (fun hc214 => absurd rfl hc214)
        refine s_iconst k83 (z := 1) at_217 (by decide) (pc' := 218) rfl ?_
        refine s_goto k83 at_218 (by decide) (pc' := 222) (by decide) ?_
        refine s_istore k83 at_222 (l' := #[.val (.long i0), .second, .val (.long i1), .second, .val (.long i2), .second, .val (.int i3), .val (.long d1), .second, .val (.int (((Jvm.Free.XT.ushr i3 (2 : Int32)) &&& (7 : Int32)) % (5 : Int32))), .val (.long d2), .second, .val (.int w48), .val (.ref b4), .val (.ref b8), .val (.ref b29), .val (.int (ga i0 d1)), .val (.int (ga i0 d2)), .val (.ref b29), .val (.ref b8), .val (.long d2), .second, .val (.long d1), .second, .val (.int (ga i0 d2)), .val (.int (ga i0 d1)), .val (.int (1 : Int32)), .unset, .unset, .unset, .unset, .unset]) rfl (pc' := 224) rfl ?_
        refine s_aload k83 at_224 rfl rfl (pc' := 226) rfl ?_
        refine s_callV k83 [] 0 at_226 (hw _ (List.mem_of_getElem? (i := 71) rfl)) (hw _ (List.mem_of_getElem? (i := 72) rfl)) (hw _ (List.mem_of_getElem? (i := 74) rfl)) (hw _ (List.mem_of_getElem? (i := 73) rfl)) (hw _ (List.mem_of_getElem? (i := 7) rfl)) (hw _ (List.mem_of_getElem? (i := 75) rfl)) (by decide) H80.ew (abs_nx hw Z81 ⟨⟨g_b4, g_sa6, g_oa6, g_b8, g_b29⟩, n6_1, n6_2, ne_b4_b8, ne_b4_b29, n6_3, ne_sa6_b8, ne_sa6_b29, ne_oa6_b8, ne_oa6_b29, ne_b8_b29⟩ Os6 H80 G80) (by decide) (by decide) pd__28_29J rfl (Nat.le_of_eq rfl) rfl (by decide) (by decide) rfl (pc' := 229) rfl fun v84 T84 h84 L84 k84 Qv84 => ?_
        obtain ⟨rfl, rfl⟩ := Qv84
        show Go p e below P T84 (mkF m 229 #[.val (.long i0), .second, .val (.long i1), .second, .val (.long i2), .second, .val (.int i3), .val (.long d1), .second, .val (.int (((Jvm.Free.XT.ushr i3 (2 : Int32)) &&& (7 : Int32)) % (5 : Int32))), .val (.long d2), .second, .val (.int w48), .val (.ref b4), .val (.ref b8), .val (.ref b29), .val (.int (ga i0 d1)), .val (.int (ga i0 d2)), .val (.ref b29), .val (.ref b8), .val (.long d2), .second, .val (.long d1), .second, .val (.int (ga i0 d2)), .val (.int (ga i0 d1)), .val (.int (1 : Int32)), .unset, .unset, .unset, .unset, .unset] [.long (gNx i0 d1 oe80)])
        refine s_lstore k84 at_229 (l' := #[.val (.long i0), .second, .val (.long i1), .second, .val (.long i2), .second, .val (.int i3), .val (.long d1), .second, .val (.int (((Jvm.Free.XT.ushr i3 (2 : Int32)) &&& (7 : Int32)) % (5 : Int32))), .val (.long d2), .second, .val (.int w48), .val (.ref b4), .val (.ref b8), .val (.ref b29), .val (.int (ga i0 d1)), .val (.int (ga i0 d2)), .val (.ref b29), .val (.ref b8), .val (.long d2), .second, .val (.long d1), .second, .val (.int (ga i0 d2)), .val (.int (ga i0 d1)), .val (.int (1 : Int32)), .val (.long (gNx i0 d1 oe80)), .second, .unset, .unset, .unset]) rfl (pc' := 231) rfl ?_
        refine s_iload k84 at_231 rfl (pc' := 233) rfl ?_
        have J85 : ∀ (T85 : State) (L85 : List Loc) (k85 : K p l e room_1 s m #[.long i0, .long i1, .long i2, .int i3] below meth c code "com/example/gull/gull/TimerWheelRemovePinLaw" maxLocals ret "law" T85 L85 (((((((((((((0 + 0) + 1) + 2) + 1) + 0) + 1) + 0) + 0) + 0) + 0) + 0) + 0) + 0) (((((((((((((0 + 0) + 5) + 325) + 5) + 0) + 5) + 0) + 0) + 0) + 0) + 0) + 0) + 0) Z h80 n0) (w233 : Int64) (e_w233 : w233 = (if (ga i0 d1) = (0 : Int32) then (9223372036854775807 : Int64) else (fev i0 d1))), Go p e below P T85 (mkF m 248 #[.val (.long i0), .second, .val (.long i1), .second, .val (.long i2), .second, .val (.int i3), .val (.long d1), .second, .val (.int (((Jvm.Free.XT.ushr i3 (2 : Int32)) &&& (7 : Int32)) % (5 : Int32))), .val (.long d2), .second, .val (.int w48), .val (.ref b4), .val (.ref b8), .val (.ref b29), .val (.int (ga i0 d1)), .val (.int (ga i0 d2)), .val (.ref b29), .val (.ref b8), .val (.long d2), .second, .val (.long d1), .second, .val (.int (ga i0 d2)), .val (.int (ga i0 d1)), .val (.int (1 : Int32)), .val (.long (gNx i0 d1 oe80)), .second, .unset, .unset, .unset] [.long w233]) := by
          intro T85 L85 k85 w233 e_w233
          refine s_lstore k85 at_248 (l' := #[.val (.long i0), .second, .val (.long i1), .second, .val (.long i2), .second, .val (.int i3), .val (.long d1), .second, .val (.int (((Jvm.Free.XT.ushr i3 (2 : Int32)) &&& (7 : Int32)) % (5 : Int32))), .val (.long d2), .second, .val (.int w48), .val (.ref b4), .val (.ref b8), .val (.ref b29), .val (.int (ga i0 d1)), .val (.int (ga i0 d2)), .val (.ref b29), .val (.ref b8), .val (.long d2), .second, .val (.long d1), .second, .val (.int (ga i0 d2)), .val (.int (ga i0 d1)), .val (.int (1 : Int32)), .val (.long (gNx i0 d1 oe80)), .second, .val (.long w233), .second, .unset]) rfl (pc' := 250) rfl ?_
          refine s_iload k85 at_250 rfl (pc' := 252) rfl ?_
          have J86 : ∀ (T86 : State) (L86 : List Loc) (k86 : K p l e room_1 s m #[.long i0, .long i1, .long i2, .int i3] below meth c code "com/example/gull/gull/TimerWheelRemovePinLaw" maxLocals ret "law" T86 L86 (((((((((((((0 + 0) + 1) + 2) + 1) + 0) + 1) + 0) + 0) + 0) + 0) + 0) + 0) + 0) (((((((((((((0 + 0) + 5) + 325) + 5) + 0) + 5) + 0) + 0) + 0) + 0) + 0) + 0) + 0) Z h80 n0) (w252 : Int32) (e_w252 : w252 = (if (ga i0 d2) = (0 : Int32) then (0 : Int32) else (if (ga i0 d1) = (0 : Int32) then (0 : Int32) else (if (flv i0 d2) = (5 : Int32) then (if (flv i0 d1) = (5 : Int32) then (1 : Int32) else (0 : Int32)) else (0 : Int32))))), Go p e below P T86 (mkF m 285 #[.val (.long i0), .second, .val (.long i1), .second, .val (.long i2), .second, .val (.int i3), .val (.long d1), .second, .val (.int (((Jvm.Free.XT.ushr i3 (2 : Int32)) &&& (7 : Int32)) % (5 : Int32))), .val (.long d2), .second, .val (.int w48), .val (.ref b4), .val (.ref b8), .val (.ref b29), .val (.int (ga i0 d1)), .val (.int (ga i0 d2)), .val (.ref b29), .val (.ref b8), .val (.long d2), .second, .val (.long d1), .second, .val (.int (ga i0 d2)), .val (.int (ga i0 d1)), .val (.int (1 : Int32)), .val (.long (gNx i0 d1 oe80)), .second, .val (.long w233), .second, .unset] [.int w252]) := by
            intro T86 L86 k86 w252 e_w252
            refine s_istore k86 at_285 (l' := #[.val (.long i0), .second, .val (.long i1), .second, .val (.long i2), .second, .val (.int i3), .val (.long d1), .second, .val (.int (((Jvm.Free.XT.ushr i3 (2 : Int32)) &&& (7 : Int32)) % (5 : Int32))), .val (.long d2), .second, .val (.int w48), .val (.ref b4), .val (.ref b8), .val (.ref b29), .val (.int (ga i0 d1)), .val (.int (ga i0 d2)), .val (.ref b29), .val (.ref b8), .val (.long d2), .second, .val (.long d1), .second, .val (.int (ga i0 d2)), .val (.int (ga i0 d1)), .val (.int (1 : Int32)), .val (.long (gNx i0 d1 oe80)), .second, .val (.long w233), .second, .val (.int w252)]) rfl (pc' := 287) rfl ?_
            refine s_iload k86 at_287 rfl (pc' := 289) rfl ?_
            refine s_if_eq k86 at_289 (by decide) (pc' := 326) (by decide) (pc3 := 292) rfl (fun hc289 => absurd hc289 (by decide)) (fun hc289 => ?_)
            refine s_lload k86 at_292 rfl (pc' := 294) rfl ?_
            refine s_lload k86 at_294 rfl (pc' := 296) rfl ?_
            have J87 : ∀ (T87 : State) (L87 : List Loc) (k87 : K p l e room_1 s m #[.long i0, .long i1, .long i2, .int i3] below meth c code "com/example/gull/gull/TimerWheelRemovePinLaw" maxLocals ret "law" T87 L87 (((((((((((((0 + 0) + 1) + 2) + 1) + 0) + 1) + 0) + 0) + 0) + 0) + 0) + 0) + 0) (((((((((((((0 + 0) + 5) + 325) + 5) + 0) + 5) + 0) + 0) + 0) + 0) + 0) + 0) + 0) Z h80 n0)  , Go p e below P T87 (mkF m 322 #[.val (.long i0), .second, .val (.long i1), .second, .val (.long i2), .second, .val (.int i3), .val (.long d1), .second, .val (.int (((Jvm.Free.XT.ushr i3 (2 : Int32)) &&& (7 : Int32)) % (5 : Int32))), .val (.long d2), .second, .val (.int w48), .val (.ref b4), .val (.ref b8), .val (.ref b29), .val (.int (ga i0 d1)), .val (.int (ga i0 d2)), .val (.ref b29), .val (.ref b8), .val (.long d2), .second, .val (.long d1), .second, .val (.int (ga i0 d2)), .val (.int (ga i0 d1)), .val (.int (1 : Int32)), .val (.long (gNx i0 d1 oe80)), .second, .val (.long w233), .second, .val (.int w252)] []) := by
              intro T87 L87 k87  
              refine s_iconst k87 (z := 1) at_322 (by decide) (pc' := 323) rfl ?_
              refine s_goto k87 at_323 (by decide) (pc' := 327) (by decide) ?_
              refine s_istore k87 at_327 (l' := #[.val (.long i0), .second, .val (.long i1), .second, .val (.long i2), .second, .val (.int i3), .val (.long d1), .second, .val (.int (((Jvm.Free.XT.ushr i3 (2 : Int32)) &&& (7 : Int32)) % (5 : Int32))), .val (.long d2), .second, .val (.int w48), .val (.ref b4), .val (.ref b8), .val (.ref b29), .val (.int (ga i0 d1)), .val (.int (ga i0 d2)), .val (.ref b29), .val (.ref b8), .val (.long d2), .second, .val (.long d1), .second, .val (.int (ga i0 d2)), .val (.int (ga i0 d1)), .val (.int (1 : Int32)), .val (.long (gNx i0 d1 oe80)), .second, .val (.long w233), .second, .val (.int w252)]) rfl (pc' := 329) rfl ?_
              refine s_aload k87 at_329 rfl rfl (pc' := 331) rfl ?_
              refine s_aload k87 at_331 rfl rfl (pc' := 333) rfl ?_
              refine s_callV k87 [.ref b8] 0 at_333 (hw _ (List.mem_of_getElem? (i := 56) rfl)) (hw _ (List.mem_of_getElem? (i := 57) rfl)) (hw _ (List.mem_of_getElem? (i := 59) rfl)) (hw _ (List.mem_of_getElem? (i := 58) rfl)) (hw _ (List.mem_of_getElem? (i := 7) rfl)) (hw _ (List.mem_of_getElem? (i := 60) rfl)) (by decide) H80.ew (abs_remOne hw Z81 ⟨⟨g_b4, g_sa6, g_oa6, g_b8, g_b29⟩, n6_1, n6_2, ne_b4_b8, ne_b4_b29, n6_3, ne_sa6_b8, ne_sa6_b29, ne_oa6_b8, ne_oa6_b29, ne_b8_b29⟩ Os6 H80 G80) (by decide) (by decide) pd__28Lcom_2fexample_2fgull_2fgull_2fTimerWheel_24Timer_3b_29V rfl (Nat.le_of_eq rfl) rfl (by decide) (by decide) rfl (pc' := 336) rfl fun v88 T88 h88 L88 k88 Qv88 => ?_
              obtain ⟨rfl, H88, G88, I88⟩ := Qv88
              have Z89 := Nat.le_trans g_b4 (Nat.le_of_lt H88.1.lt)
              show Go p e below P T88 (mkF m 336 #[.val (.long i0), .second, .val (.long i1), .second, .val (.long i2), .second, .val (.int i3), .val (.long d1), .second, .val (.int (((Jvm.Free.XT.ushr i3 (2 : Int32)) &&& (7 : Int32)) % (5 : Int32))), .val (.long d2), .second, .val (.int w48), .val (.ref b4), .val (.ref b8), .val (.ref b29), .val (.int (ga i0 d1)), .val (.int (ga i0 d2)), .val (.ref b29), .val (.ref b8), .val (.long d2), .second, .val (.long d1), .second, .val (.int (ga i0 d2)), .val (.int (ga i0 d1)), .val (.int (1 : Int32)), .val (.long (gNx i0 d1 oe80)), .second, .val (.long w233), .second, .val (.int w252)] [])
              refine s_iload k88 at_336 rfl (pc' := 338) rfl ?_
              refine s_if_eq k88 at_338 (by decide) (pc' := 357) (by decide) (pc3 := 341) rfl (fun hc338 => absurd hc338 (by decide)) (fun hc338 => ?_)
              refine s_aload k88 at_341 rfl rfl (pc' := 343) rfl ?_
              refine s_callV k88 [] 0 at_343 (hw _ (List.mem_of_getElem? (i := 71) rfl)) (hw _ (List.mem_of_getElem? (i := 72) rfl)) (hw _ (List.mem_of_getElem? (i := 74) rfl)) (hw _ (List.mem_of_getElem? (i := 73) rfl)) (hw _ (List.mem_of_getElem? (i := 7) rfl)) (hw _ (List.mem_of_getElem? (i := 75) rfl)) (by decide) H88.1 (abs_nxE hw Z89 ⟨⟨g_b4, g_sa6, g_oa6, g_b8, g_b29⟩, n6_1, n6_2, ne_b4_b8, ne_b4_b29, n6_3, ne_sa6_b8, ne_sa6_b29, ne_oa6_b8, ne_oa6_b29, ne_b8_b29⟩ Os6 H88 G88 I88) (by decide) (by decide) pd__28_29J rfl (Nat.le_of_eq rfl) rfl (by decide) (by decide) rfl (pc' := 346) rfl fun v90 T90 h90 L90 k90 Qv90 => ?_
              obtain ⟨rfl, rfl⟩ := Qv90
              show Go p e below P T90 (mkF m 346 #[.val (.long i0), .second, .val (.long i1), .second, .val (.long i2), .second, .val (.int i3), .val (.long d1), .second, .val (.int (((Jvm.Free.XT.ushr i3 (2 : Int32)) &&& (7 : Int32)) % (5 : Int32))), .val (.long d2), .second, .val (.int w48), .val (.ref b4), .val (.ref b8), .val (.ref b29), .val (.int (ga i0 d1)), .val (.int (ga i0 d2)), .val (.ref b29), .val (.ref b8), .val (.long d2), .second, .val (.long d1), .second, .val (.int (ga i0 d2)), .val (.int (ga i0 d1)), .val (.int (1 : Int32)), .val (.long (gNx i0 d1 oe80)), .second, .val (.long w233), .second, .val (.int w252)] [.long (9223372036854775807 : Int64)])
              refine s_ldcL k90 at_346 (hw _ (List.mem_of_getElem? (i := 84) rfl)) (pc' := 349) rfl ?_
              refine s_lcmp_ne k90 at_349 rfl at_350 (by decide) (pc' := 357) (by decide) (pc3 := 353) rfl (fun hc349 => ?_) (fun hc349 => absurd (by decide) hc349)
              refine s_iconst k90 (z := 1) at_353 (by decide) (pc' := 354) rfl ?_
              refine s_goto k90 at_354 (by decide) (pc' := 358) (by decide) ?_
              exact s_retZ k90 at_358 rfl (by decide) hP (by decide) (by decide) rfl
            refine s_lcmp_eq k86 at_296 rfl at_297 (by decide) (pc' := 322) (by decide) (pc3 := 300) rfl (fun hc296 => ?_) (fun hc296 => ?_)
            · exact J87 _ _ k86  
            · refine s_iload k86 at_300 rfl (pc' := 302) rfl ?_
              refine s_if_eq k86 at_302 (by decide) (pc' := 326) (by decide) (pc3 := 305) rfl (fun hc302 => absurd hc302 (own_fin ho80 e_w233 e_w252 hc296).1) (fun hc302 => ?_)
              refine s_lload k86 at_305 rfl (pc' := 307) rfl ?_
              refine s_lload k86 at_307 rfl (pc' := 309) rfl ?_
              refine s_lloadN k86 at_309 rfl (pc' := 310) rfl ?_
              refine s_lload k86 at_310 rfl (pc' := 312) rfl ?_
              refine s_callS k86 [.long i0, .long d2] 4 at_312 (hw _ (List.mem_of_getElem? (i := 96) rfl)) (hw _ (List.mem_of_getElem? (i := 97) rfl)) (hw _ (List.mem_of_getElem? (i := 2) rfl)) (hw _ (List.mem_of_getElem? (i := 98) rfl)) (by decide) (rmev l Z a0 hw i0 d2 h80 n0 Z81 ) (by decide) (by decide) pd__28JJ_29J rfl (Nat.le_of_eq rfl) rfl (by decide) (by decide) rfl (pc' := 315) rfl fun v91 T91 h91 L91 k91 Qv91 => ?_
              obtain ⟨rfl, rfl⟩ := Qv91
              show Go p e below P T91 (mkF m 315 #[.val (.long i0), .second, .val (.long i1), .second, .val (.long i2), .second, .val (.int i3), .val (.long d1), .second, .val (.int (((Jvm.Free.XT.ushr i3 (2 : Int32)) &&& (7 : Int32)) % (5 : Int32))), .val (.long d2), .second, .val (.int w48), .val (.ref b4), .val (.ref b8), .val (.ref b29), .val (.int (ga i0 d1)), .val (.int (ga i0 d2)), .val (.ref b29), .val (.ref b8), .val (.long d2), .second, .val (.long d1), .second, .val (.int (ga i0 d2)), .val (.int (ga i0 d1)), .val (.int (1 : Int32)), .val (.long (gNx i0 d1 oe80)), .second, .val (.long w233), .second, .val (.int w252)] [.long (fev i0 d2), .long w233, .long (gNx i0 d1 oe80)])
              refine s_callS k91 [.long w233, .long (fev i0 d2)] 2 at_315 (hw _ (List.mem_of_getElem? (i := 104) rfl)) (hw _ (List.mem_of_getElem? (i := 87) rfl)) (hw _ (List.mem_of_getElem? (i := 88) rfl)) (hw _ (List.mem_of_getElem? (i := 89) rfl)) (by decide) (rmmin l Z a0 hw w233 (fev i0 d2) h80 n0 Z81 ) (by decide) (by decide) pd__28JJ_29J rfl (Nat.le_of_eq rfl) rfl (by decide) (by decide) rfl (pc' := 318) rfl fun v92 T92 h92 L92 k92 Qv92 => ?_
              obtain ⟨rfl, rfl⟩ := Qv92
              show Go p e below P T92 (mkF m 318 #[.val (.long i0), .second, .val (.long i1), .second, .val (.long i2), .second, .val (.int i3), .val (.long d1), .second, .val (.int (((Jvm.Free.XT.ushr i3 (2 : Int32)) &&& (7 : Int32)) % (5 : Int32))), .val (.long d2), .second, .val (.int w48), .val (.ref b4), .val (.ref b8), .val (.ref b29), .val (.int (ga i0 d1)), .val (.int (ga i0 d2)), .val (.ref b29), .val (.ref b8), .val (.long d2), .second, .val (.long d1), .second, .val (.int (ga i0 d2)), .val (.int (ga i0 d1)), .val (.int (1 : Int32)), .val (.long (gNx i0 d1 oe80)), .second, .val (.long w233), .second, .val (.int w252)] [.long (fmin w233 (fev i0 d2)), .long (gNx i0 d1 oe80)])
              refine s_lcmp_ne k92 at_318 rfl at_319 (by decide) (pc' := 326) (by decide) (pc3 := 322) rfl (fun hc318 => ?_) (fun hc318 => absurd (own_fin ho80 e_w233 e_w252 hc296).2 hc318)
              exact J87 _ _ k92  
          refine s_if_eq k85 at_252 (by decide) (pc' := 284) (by decide) (pc3 := 255) rfl (fun hc252 => ?_) (fun hc252 => ?_)
          · refine s_iconst k85 (z := 0) at_284 (by decide) (pc' := 285) rfl ?_
            exact J86 _ _ k85 _ (by rw [if_pos hc252])
          · refine s_iload k85 at_255 rfl (pc' := 257) rfl ?_
            refine s_if_eq k85 at_257 (by decide) (pc' := 284) (by decide) (pc3 := 260) rfl (fun hc257 => ?_) (fun hc257 => ?_)
            · refine s_iconst k85 (z := 0) at_284 (by decide) (pc' := 285) rfl ?_
              exact J86 _ _ k85 _ (by rw [if_neg hc252, if_pos hc257])
            · refine s_lloadN k85 at_260 rfl (pc' := 261) rfl ?_
              refine s_lload k85 at_261 rfl (pc' := 263) rfl ?_
              refine s_callS k85 [.long i0, .long d2] 0 at_263 (hw _ (List.mem_of_getElem? (i := 99) rfl)) (hw _ (List.mem_of_getElem? (i := 100) rfl)) (hw _ (List.mem_of_getElem? (i := 2) rfl)) (hw _ (List.mem_of_getElem? (i := 101) rfl)) (by decide) (rmlv l Z a0 hw i0 d2 h80 n0 Z81 ) (by decide) (by decide) pd__28JJ_29I rfl (Nat.le_of_eq rfl) rfl (by decide) (by decide) rfl (pc' := 266) rfl fun v93 T93 h93 L93 k93 Qv93 => ?_
              obtain ⟨rfl, rfl⟩ := Qv93
              show Go p e below P T93 (mkF m 266 #[.val (.long i0), .second, .val (.long i1), .second, .val (.long i2), .second, .val (.int i3), .val (.long d1), .second, .val (.int (((Jvm.Free.XT.ushr i3 (2 : Int32)) &&& (7 : Int32)) % (5 : Int32))), .val (.long d2), .second, .val (.int w48), .val (.ref b4), .val (.ref b8), .val (.ref b29), .val (.int (ga i0 d1)), .val (.int (ga i0 d2)), .val (.ref b29), .val (.ref b8), .val (.long d2), .second, .val (.long d1), .second, .val (.int (ga i0 d2)), .val (.int (ga i0 d1)), .val (.int (1 : Int32)), .val (.long (gNx i0 d1 oe80)), .second, .val (.long w233), .second, .unset] [.int (flv i0 d2)])
              refine s_iconst k93 (z := 5) at_266 (by decide) (pc' := 267) rfl ?_
              refine s_icmp_ne k93 at_267 (by decide) (pc' := 284) (by decide) (pc3 := 270) rfl (fun hc267 => ?_) (fun hc267 => ?_)
              · refine s_lloadN k93 at_270 rfl (pc' := 271) rfl ?_
                refine s_lload k93 at_271 rfl (pc' := 273) rfl ?_
                refine s_callS k93 [.long i0, .long d1] 0 at_273 (hw _ (List.mem_of_getElem? (i := 99) rfl)) (hw _ (List.mem_of_getElem? (i := 100) rfl)) (hw _ (List.mem_of_getElem? (i := 2) rfl)) (hw _ (List.mem_of_getElem? (i := 101) rfl)) (by decide) (rmlv l Z a0 hw i0 d1 h80 n0 Z81 ) (by decide) (by decide) pd__28JJ_29I rfl (Nat.le_of_eq rfl) rfl (by decide) (by decide) rfl (pc' := 276) rfl fun v94 T94 h94 L94 k94 Qv94 => ?_
                obtain ⟨rfl, rfl⟩ := Qv94
                show Go p e below P T94 (mkF m 276 #[.val (.long i0), .second, .val (.long i1), .second, .val (.long i2), .second, .val (.int i3), .val (.long d1), .second, .val (.int (((Jvm.Free.XT.ushr i3 (2 : Int32)) &&& (7 : Int32)) % (5 : Int32))), .val (.long d2), .second, .val (.int w48), .val (.ref b4), .val (.ref b8), .val (.ref b29), .val (.int (ga i0 d1)), .val (.int (ga i0 d2)), .val (.ref b29), .val (.ref b8), .val (.long d2), .second, .val (.long d1), .second, .val (.int (ga i0 d2)), .val (.int (ga i0 d1)), .val (.int (1 : Int32)), .val (.long (gNx i0 d1 oe80)), .second, .val (.long w233), .second, .unset] [.int (flv i0 d1)])
                refine s_iconst k94 (z := 5) at_276 (by decide) (pc' := 277) rfl ?_
                refine s_icmp_ne k94 at_277 (by decide) (pc' := 284) (by decide) (pc3 := 280) rfl (fun hc277 => ?_) (fun hc277 => ?_)
                · refine s_iconst k94 (z := 1) at_280 (by decide) (pc' := 281) rfl ?_
                  refine s_goto k94 at_281 (by decide) (pc' := 285) (by decide) ?_
                  exact J86 _ _ k94 _ (by rw [if_neg hc252, if_neg hc257, if_pos hc267, if_pos hc277])
                · refine s_iconst k94 (z := 0) at_284 (by decide) (pc' := 285) rfl ?_
                  exact J86 _ _ k94 _ (by rw [if_neg hc252, if_neg hc257, if_pos hc267, if_neg hc277])
              · refine s_iconst k93 (z := 0) at_284 (by decide) (pc' := 285) rfl ?_
                exact J86 _ _ k93 _ (by rw [if_neg hc252, if_neg hc257, if_neg hc267])
        refine s_if_eq k84 at_233 (by decide) (pc' := 245) (by decide) (pc3 := 236) rfl (fun hc233 => ?_) (fun hc233 => ?_)
        · refine s_ldcL k84 at_245 (hw _ (List.mem_of_getElem? (i := 84) rfl)) (pc' := 248) rfl ?_
          exact J85 _ _ k84 _ (by rw [if_pos hc233])
        · refine s_lloadN k84 at_236 rfl (pc' := 237) rfl ?_
          refine s_lload k84 at_237 rfl (pc' := 239) rfl ?_
          refine s_callS k84 [.long i0, .long d1] 0 at_239 (hw _ (List.mem_of_getElem? (i := 96) rfl)) (hw _ (List.mem_of_getElem? (i := 97) rfl)) (hw _ (List.mem_of_getElem? (i := 2) rfl)) (hw _ (List.mem_of_getElem? (i := 98) rfl)) (by decide) (rmev l Z a0 hw i0 d1 h80 n0 Z81 ) (by decide) (by decide) pd__28JJ_29J rfl (Nat.le_of_eq rfl) rfl (by decide) (by decide) rfl (pc' := 242) rfl fun v95 T95 h95 L95 k95 Qv95 => ?_
          obtain ⟨rfl, rfl⟩ := Qv95
          show Go p e below P T95 (mkF m 242 #[.val (.long i0), .second, .val (.long i1), .second, .val (.long i2), .second, .val (.int i3), .val (.long d1), .second, .val (.int (((Jvm.Free.XT.ushr i3 (2 : Int32)) &&& (7 : Int32)) % (5 : Int32))), .val (.long d2), .second, .val (.int w48), .val (.ref b4), .val (.ref b8), .val (.ref b29), .val (.int (ga i0 d1)), .val (.int (ga i0 d2)), .val (.ref b29), .val (.ref b8), .val (.long d2), .second, .val (.long d1), .second, .val (.int (ga i0 d2)), .val (.int (ga i0 d1)), .val (.int (1 : Int32)), .val (.long (gNx i0 d1 oe80)), .second, .unset, .unset, .unset] [.long (fev i0 d1)])
          refine s_goto k95 at_242 (by decide) (pc' := 248) (by decide) ?_
          exact J85 _ _ k95 _ (by rw [if_neg hc233])
    refine s_if_eq k2 at_48 (by decide) (pc' := 55) (by decide) (pc3 := 51) rfl (fun hc48 => ?_) (fun hc48 => ?_)
    · refine s_iconst k2 (z := 0) at_55 (by decide) (pc' := 56) rfl ?_
      exact J3 _ (by rw [if_pos hc48])
    · refine s_iconst k2 (z := 1) at_51 (by decide) (pc' := 52) rfl ?_
      refine s_goto k2 at_52 (by decide) (pc' := 56) (by decide) ?_
      exact J3 _ (by rw [if_neg hc48])
  refine s_icmp_ne k1 at_25 (by decide) (pc' := 33) (by decide) (pc3 := 28) rfl (fun hc25 => ?_) (fun hc25 => ?_)
  · refine s_lload k1 at_28 rfl (pc' := 30) rfl ?_
    refine s_goto k1 at_30 (by decide) (pc' := 41) (by decide) ?_
    exact J2 _ _ k1 _ (by rw [if_pos hc25])
  · refine s_lloadN k1 at_33 rfl (pc' := 34) rfl ?_
    refine s_lload k1 at_34 rfl (pc' := 36) rfl ?_
    refine s_iload k1 at_36 rfl (pc' := 38) rfl ?_
    refine s_callS k1 [.long i0, .long i2, .int (((Jvm.Free.XT.ushr i3 (2 : Int32)) &&& (7 : Int32)) % (5 : Int32))] 0 at_38 (hw _ (List.mem_of_getElem? (i := 0) rfl)) (hw _ (List.mem_of_getElem? (i := 1) rfl)) (hw _ (List.mem_of_getElem? (i := 2) rfl)) (hw _ (List.mem_of_getElem? (i := 3) rfl)) (by decide) (rmdl l Z a0 hw i0 i2 (((Jvm.Free.XT.ushr i3 (2 : Int32)) &&& (7 : Int32)) % (5 : Int32)) h0 n0 Z0 ) (by decide) (by decide) pd__28JJI_29J rfl (Nat.le_of_eq rfl) rfl (by decide) (by decide) rfl (pc' := 41) rfl fun v96 T96 h96 L96 k96 Qv96 => ?_
    obtain ⟨rfl, rfl⟩ := Qv96
    show Go p e below P T96 (mkF m 41 #[.val (.long i0), .second, .val (.long i1), .second, .val (.long i2), .second, .val (.int i3), .val (.long d1), .second, .val (.int (((Jvm.Free.XT.ushr i3 (2 : Int32)) &&& (7 : Int32)) % (5 : Int32))), .unset, .unset, .unset, .unset, .unset, .unset, .unset, .unset, .unset, .unset, .unset, .unset, .unset, .unset, .unset, .unset, .unset, .unset, .unset, .unset, .unset, .unset] [.long (fdl i0 i2 (((Jvm.Free.XT.ushr i3 (2 : Int32)) &&& (7 : Int32)) % (5 : Int32)))])
    exact J2 _ _ k96 _ (by rw [if_neg hc25])
set_option maxRecDepth 65536 in
set_option maxHeartbeats 40000000 in
theorem comes_1 {Post : Tables → Env → Array Value → State → Outcome → State → Prop} (hpost : ∀ tb e args s v u, (limb_1_1.after args s (.returned v) u = true ∧ limb_1_2.after args s (.returned v) u = true ∧ True) → FrameEnd s (.returned v) u (Jvm.fieldLocs frame_1_writes args s ++ Jvm.arrayLocs frame_1_arrays args s ++ Jvm.staticLocs frame_1_statics s) 24 768 → Post tb e args s (.returned v) u) :
    ArmFor flags0 classFile x code maxLocals ret World_1 tables_1 room_1 Calls_1 rest_1 Pre_1 Post := by
  intro l hfl _ _ p e ha hc hk s m args below hf hA hF happ hP
  obtain ⟨hcalls, hrest, hpre⟩ := hP
  obtain ⟨-, -, -, hnamed, -, -, -, hat⟩ := (Spec.applies_iff hf).mp happ
  obtain ⟨hg, hn⟩ := and_e (Cond.before_iff.mp (show (Jvm.Cond.and given_1 narrow_1).before args s = true from hpre))
  obtain ⟨gc, gr0⟩ := and_e hg
  obtain ⟨w0, w1, w2, w3, rfl⟩ : ∃ w0 w1 w2 w3 : Value, args = #[w0, w1, w2, w3] := by
    have hs : args.size = 4 := by simpa [Cond.value, given_1] using gc
    obtain ⟨L⟩ := args
    match L, hs with
    | [w0, w1, w2, w3], _ => exact ⟨w0, w1, w2, w3, rfl⟩
  have hw := fun d (hd : d ∈ tables_1) => atoms_spec (ws := Jvm.Cond.code x code maxLocals ret :: tables_1) hat d (List.mem_cons_of_mem _ hd)
  obtain ⟨ga0, gr1⟩ := and_e gr0
  obtain ⟨i0, ei0⟩ := isL_v ga0
  obtain rfl : w0 = (.long i0) := Option.some.inj ei0
  obtain ⟨ga1, gr2⟩ := and_e gr1
  obtain ⟨i1, ei1⟩ := isL_v ga1
  obtain rfl : w1 = (.long i1) := Option.some.inj ei1
  obtain ⟨ga2, gr3⟩ := and_e gr2
  obtain ⟨i2, ei2⟩ := isL_v ga2
  obtain rfl : w2 = (.long i2) := Option.some.inj ei2
  have ga3 := gr3
  obtain ⟨i3, ei3⟩ := is_v ga3
  obtain rfl : w3 = (.int i3) := Option.some.inj ei3
  obtain ⟨n, o, h1, h2, h3, _, L, rfl, ⟨rfl, N⟩, hq⟩ := rm0 l s _ hw i0 i1 i2 i3 s.heap s.heap.size (Nat.le_refl _)  tables_1 p e ha hc hk s m _ below hf ((Spec.applies_iff_loose hf).mp happ).1 ⟨rfl, State.Warmed39.refl s, rfl⟩ trivial
  refine ⟨n, _, h1, h2, h3, hpost _ _ _ _ _ _ ⟨Cond.after_iff.mpr rfl, Cond.after_iff.mpr (eq_i res_at (Term.int_eval (1)) rfl), trivial⟩ ⟨hq.1, hq.2.1, (hq.2.2.sift fun y hy => Or.inr (N y hy)).mono (by decide) (by decide)⟩⟩
theorem main_1_1 : Claimed_1_1 := comes_1 fun _ _ _ _ _ _ h hF => ⟨h.1, hF⟩
theorem main_1_2 : Claimed_1_2 := comes_1 fun _ _ _ _ _ _ h hF => ⟨h.2.1, hF⟩
end Jvm.Pilot.@@N@@
namespace Jvm.Pilot.@@N@@
open Jvm Jvm.ClassFile Sem Op Lib Jvm.Free Jvm.Stand Jvm.Pilot.@@N@@.Jvm.D
/-! MADE BY PROGRAM (witnessworld.py) out of the Statement's table words and the real class files: 20 classes; the members and pool entries that the words name. The judged class is class 1, her method 1. -/
namespace start1
open Jvm.ClassFile
def u (s : String) : CpInfo := .utf8 (stringToUtf16 s)
/-- a pool by its gaps: so many unusable entries, then the entry; so many at the end -/
def gap : Nat → List CpInfo → List CpInfo
  | 0, r => r
  | n + 1, r => .unusable :: gap n r
def poolList (es : List (Nat × CpInfo)) (last : Nat) : List CpInfo := es.foldr (fun e r => gap e.1 (e.2 :: r)) (gap last [])
def pool (es : List (Nat × CpInfo)) (last : Nat) : Array CpInfo := ⟨poolList es last⟩
def fileOf (pool : Array CpInfo) (this : Nat) (attrs : Array Attribute := #[]) (ms : Array MethodInfo := #[]) (fl : Nat := 33) (sup : Nat := 0) (ifs : Array Nat := #[]) (fds : Array FieldInfo := #[]) : ClassFile where
  minorVersion := 0
  majorVersion := 65
  constantPool := pool
  accessFlags := fl
  thisClass := this
  superClass := sup
  interfaces := ifs
  fields := fds
  methods := ms
  attributes := attrs
def plain (name : String) (sup : Option ClassId) : Class where
  name := name
  kind := .ordinary
  loader := none
  accessFlags := 33
  super := sup
  interfaces := #[]
  cf := none
  fields := #[]
  methods := #[]
  instanceTypes := #[]
  staticTypes := #[]
  resolved := #[]
  callSites := []
  init := .initialized
  statics := none
  mirror := none

def pool0 : Array CpInfo := pool [(5, u "<init>"), (0, u "()V"), (1, .class_ 10), (1, u "java/lang/Object")] 113

def k0c0 : Code := { maxStack := 0, maxLocals := 1, code := object_method_1_code, exceptionTable := #[], attributes := #[] }
def k0m0 : Method := { name := "<init>", desc := "()V", sig := { parameters := [], returnType := none }, accessFlags := 1, code := some k0c0 }
/-- java/lang/Object -/
def k0 : Class := { plain "java/lang/Object" none with
  accessFlags := 33
  interfaces := #[]
  cf := some (fileOf pool0 8 #[] #[{ accessFlags := 1, nameIndex := 5, descriptorIndex := 6, attributes := #[] }] 33 0 #[] #[])
  fields := #[]
  methods := #[k0m0]
  instanceTypes := #[]
  staticTypes := #[]
  resolved := Array.replicate 124 none
  statics := none }

def pool1 : Array CpInfo := pool [(2, .class_ 4), (1, u "java/lang/Object"), (0, u "<init>"), (0, u "()V"), (0, .methodref 8 9), (0, .class_ 10), (0, .nameAndType 11 12), (0, u "com/example/gull/gull/TimerWheelRemovePinLaw"), (0, u "deadline"), (0, u "(JJI)J"), (0, .class_ 14), (0, u "com/example/gull/gull/TimerWheel"), (0, .methodref 13 16), (0, .nameAndType 5 17), (0, u "(J)V"), (0, .class_ 19), (0, u "com/example/gull/gull/TimerWheel$Timer"), (0, .methodref 18 16), (0, .methodref 13 22), (0, .nameAndType 23 24), (0, u "add"), (0, u "(Lcom/example/gull/gull/TimerWheel$Timer;)Z"), (0, .methodref 13 26), (0, .nameAndType 27 28), (0, u "remove"), (0, u "(Lcom/example/gull/gull/TimerWheel$Timer;)V"), (0, .methodref 18 30), (0, .nameAndType 31 32), (0, u "isHeld"), (0, u "()Z"), (0, .methodref 13 34), (0, .nameAndType 35 36), (0, u "nextEvent"), (0, u "()J"), (0, .methodref 8 38), (0, .nameAndType 39 40), (0, u "eventOf"), (0, u "(JJ)J"), (0, .long 9223372036854775807), (1, .methodref 8 44), (0, .nameAndType 45 46), (0, u "level"), (0, u "(JJ)I"), (0, .methodref 48 49), (0, .class_ 50), (0, .nameAndType 51 40), (0, u "java/lang/Math"), (0, u "min"), (0, .long 127), (1, .long 16777215), (1, .long 68719476735), (3, u "law"), (0, u "(JJJI)Z")] 5

def k1m0 : Method := { name := "<init>", desc := "()V", sig := { parameters := [], returnType := none }, accessFlags := 1, code := none }
def k1c1 : Code := { maxStack := 8, maxLocals := 32, code := code, exceptionTable := #[], attributes := #[] }
def k1m1 : Method := { name := "law", desc := "(JJJI)Z", sig := { parameters := [.long, .long, .long, .int], returnType := some .boolean }, accessFlags := 9, code := some k1c1 }
def k1c2 : Code := { maxStack := 6, maxLocals := 5, code := method_3_code, exceptionTable := #[], attributes := #[] }
def k1m2 : Method := { name := "deadline", desc := "(JJI)J", sig := { parameters := [.long, .long, .int], returnType := some .long }, accessFlags := 10, code := some k1c2 }
def k1c3 : Code := { maxStack := 4, maxLocals := 6, code := method_4_code, exceptionTable := #[], attributes := #[] }
def k1m3 : Method := { name := "level", desc := "(JJ)I", sig := { parameters := [.long, .long], returnType := some .int }, accessFlags := 10, code := some k1c3 }
def k1c4 : Code := { maxStack := 9, maxLocals := 4, code := method_5_code, exceptionTable := #[], attributes := #[] }
def k1m4 : Method := { name := "eventOf", desc := "(JJ)J", sig := { parameters := [.long, .long], returnType := some .long }, accessFlags := 10, code := some k1c4 }
/-- com/example/gull/gull/TimerWheelRemovePinLaw -/
def k1 : Class := { plain "com/example/gull/gull/TimerWheelRemovePinLaw" (some 0) with
  accessFlags := 49
  interfaces := #[]
  cf := some (fileOf pool1 8 #[] #[{ accessFlags := 1, nameIndex := 5, descriptorIndex := 6, attributes := #[] }, { accessFlags := 9, nameIndex := 60, descriptorIndex := 61, attributes := #[] }, { accessFlags := 10, nameIndex := 11, descriptorIndex := 12, attributes := #[] }, { accessFlags := 10, nameIndex := 45, descriptorIndex := 46, attributes := #[] }, { accessFlags := 10, nameIndex := 39, descriptorIndex := 40, attributes := #[] }] 49 2 #[] #[])
  fields := #[]
  methods := #[k1m0, k1m1, k1m2, k1m3, k1m4]
  instanceTypes := #[]
  staticTypes := #[]
  resolved := Array.replicate 67 none
  statics := none }

def pool2 : Array CpInfo := pool [(1, .class_ 2), (0, u "java/lang/Long"), (0, .class_ 4), (0, u "com/example/gull/gull/TimerWheel"), (0, .methodref 6 7), (0, .class_ 8), (0, .nameAndType 9 10), (0, u "java/lang/Object"), (0, u "<init>"), (0, u "()V"), (0, .class_ 12), (0, u "com/example/gull/gull/TimerWheel$Timer"), (0, .fieldref 3 14), (0, .nameAndType 15 16), (0, u "slots"), (0, u "[Lcom/example/gull/gull/TimerWheel$Timer;"), (0, .fieldref 3 18), (0, .nameAndType 19 20), (0, u "occupied"), (0, u "[J"), (0, .long 9223372036854775807), (1, .fieldref 3 24), (0, .nameAndType 25 26), (0, u "overflowEvent"), (0, u "J"), (0, .fieldref 3 28), (0, .nameAndType 29 26), (0, u "elapsed"), (0, .fieldref 11 31), (0, .nameAndType 32 26), (0, u "deadline"), (0, .methodref 1 34), (0, .nameAndType 35 36), (0, u "numberOfLeadingZeros"), (0, u "(J)I"), (0, .fieldref 11 38), (0, .nameAndType 39 40), (0, u "place"), (0, u "I"), (0, .fieldref 11 42), (0, .nameAndType 43 44), (0, u "next"), (0, u "Lcom/example/gull/gull/TimerWheel$Timer;"), (0, .fieldref 3 46), (0, .nameAndType 47 44), (0, u "overflow"), (0, .long 18446744072635809792), (1, .methodref 51 52), (0, .class_ 53), (0, .nameAndType 54 55), (0, u "java/lang/Math"), (0, u "min"), (0, u "(JJ)J"), (0, .fieldref 11 57), (0, .nameAndType 58 44), (0, u "previous"), (0, .long 18446744073709551615), (1, .methodref 3 62), (0, .nameAndType 63 64), (0, u "nextPlace"), (0, u "()I"), (0, .methodref 3 66), (0, .nameAndType 67 68), (0, u "eventAt"), (0, u "(I)J"), (4, u "add"), (3, u "(Lcom/example/gull/gull/TimerWheel$Timer;)Z"), (3, .methodref 1 82), (0, .nameAndType 83 36), (0, u "numberOfTrailingZeros"), (0, u "NO_EVENT"), (1, u "LEVELS"), (1, u "SLOT_BITS"), (1, u "SLOTS"), (1, u "REACH"), (2, u "NOWHERE"), (1, u "OVERFLOW"), (1, u "(J)V"), (3, u "remove"), (0, u "(Lcom/example/gull/gull/TimerWheel$Timer;)V"), (0, u "nextEvent"), (0, u "()J")] 9

def k2c0 : Code := { maxStack := 3, maxLocals := 3, code := prog_30_method_1_code, exceptionTable := #[], attributes := #[] }
def k2m0 : Method := { name := "<init>", desc := "(J)V", sig := { parameters := [.long], returnType := none }, accessFlags := 0, code := some k2c0 }
def k2c1 : Code := { maxStack := 7, maxLocals := 6, code := prog_30_method_2_code, exceptionTable := #[], attributes := #[] }
def k2m1 : Method := { name := "add", desc := "(Lcom/example/gull/gull/TimerWheel$Timer;)Z", sig := { parameters := [(.object "com/example/gull/gull/TimerWheel$Timer")], returnType := some .boolean }, accessFlags := 0, code := some k2c1 }
def k2c2 : Code := { maxStack := 8, maxLocals := 2, code := prog_30_method_3_code, exceptionTable := #[], attributes := #[] }
def k2m2 : Method := { name := "remove", desc := "(Lcom/example/gull/gull/TimerWheel$Timer;)V", sig := { parameters := [(.object "com/example/gull/gull/TimerWheel$Timer")], returnType := none }, accessFlags := 0, code := some k2c2 }
def k2c3 : Code := { maxStack := 2, maxLocals := 1, code := prog_30_method_4_code, exceptionTable := #[], attributes := #[] }
def k2m3 : Method := { name := "nextEvent", desc := "()J", sig := { parameters := [], returnType := some .long }, accessFlags := 0, code := some k2c3 }
def k2c4 : Code := { maxStack := 4, maxLocals := 3, code := prog_30_method_6_code, exceptionTable := #[], attributes := #[] }
def k2m4 : Method := { name := "nextPlace", desc := "()I", sig := { parameters := [], returnType := some .int }, accessFlags := 2, code := some k2c4 }
def k2c5 : Code := { maxStack := 6, maxLocals := 7, code := prog_30_method_7_code, exceptionTable := #[], attributes := #[] }
def k2m5 : Method := { name := "eventAt", desc := "(I)J", sig := { parameters := [.int], returnType := some .long }, accessFlags := 2, code := some k2c5 }
/-- com/example/gull/gull/TimerWheel -/
def k2 : Class := { plain "com/example/gull/gull/TimerWheel" (some 0) with
  accessFlags := 48
  interfaces := #[]
  cf := some (fileOf pool2 3 #[.nestMembers #[11]] #[{ accessFlags := 0, nameIndex := 9, descriptorIndex := 99, attributes := #[] }, { accessFlags := 0, nameIndex := 73, descriptorIndex := 77, attributes := #[] }, { accessFlags := 0, nameIndex := 103, descriptorIndex := 104, attributes := #[] }, { accessFlags := 0, nameIndex := 105, descriptorIndex := 106, attributes := #[] }, { accessFlags := 2, nameIndex := 63, descriptorIndex := 64, attributes := #[] }, { accessFlags := 2, nameIndex := 67, descriptorIndex := 68, attributes := #[] }] 48 6 #[] #[{ accessFlags := 24, nameIndex := 84, descriptorIndex := 26, attributes := #[] }, { accessFlags := 26, nameIndex := 86, descriptorIndex := 40, attributes := #[] }, { accessFlags := 26, nameIndex := 88, descriptorIndex := 40, attributes := #[] }, { accessFlags := 26, nameIndex := 90, descriptorIndex := 40, attributes := #[] }, { accessFlags := 26, nameIndex := 92, descriptorIndex := 26, attributes := #[] }, { accessFlags := 26, nameIndex := 95, descriptorIndex := 40, attributes := #[] }, { accessFlags := 26, nameIndex := 97, descriptorIndex := 40, attributes := #[] }, { accessFlags := 18, nameIndex := 15, descriptorIndex := 16, attributes := #[] }, { accessFlags := 18, nameIndex := 19, descriptorIndex := 20, attributes := #[] }, { accessFlags := 2, nameIndex := 47, descriptorIndex := 44, attributes := #[] }, { accessFlags := 2, nameIndex := 25, descriptorIndex := 26, attributes := #[] }, { accessFlags := 2, nameIndex := 29, descriptorIndex := 26, attributes := #[] }])
  fields := #[{ name := "NO_EVENT", type := .long, accessFlags := 24, slot := 0, constantValue := 0 }, { name := "LEVELS", type := .int, accessFlags := 26, slot := 1, constantValue := 0 }, { name := "SLOT_BITS", type := .int, accessFlags := 26, slot := 2, constantValue := 0 }, { name := "SLOTS", type := .int, accessFlags := 26, slot := 3, constantValue := 0 }, { name := "REACH", type := .long, accessFlags := 26, slot := 4, constantValue := 0 }, { name := "NOWHERE", type := .int, accessFlags := 26, slot := 5, constantValue := 0 }, { name := "OVERFLOW", type := .int, accessFlags := 26, slot := 6, constantValue := 0 }, { name := "slots", type := (.array (.object "com/example/gull/gull/TimerWheel$Timer")), accessFlags := 18, slot := 0, constantValue := 0 }, { name := "occupied", type := (.array .long), accessFlags := 18, slot := 1, constantValue := 0 }, { name := "overflow", type := (.object "com/example/gull/gull/TimerWheel$Timer"), accessFlags := 2, slot := 2, constantValue := 0 }, { name := "overflowEvent", type := .long, accessFlags := 2, slot := 3, constantValue := 0 }, { name := "elapsed", type := .long, accessFlags := 2, slot := 4, constantValue := 0 }]
  methods := #[k2m0, k2m1, k2m2, k2m3, k2m4, k2m5]
  instanceTypes := #[(.array (.object "com/example/gull/gull/TimerWheel$Timer")), (.array .long), (.object "com/example/gull/gull/TimerWheel$Timer"), .long, .long]
  staticTypes := #[.long, .int, .int, .int, .long, .int, .int]
  resolved := ((((Array.replicate 116 none).setIfInBounds 30 (some (.field 3 1))).setIfInBounds 37 (some (.field 3 2))).setIfInBounds 41 (some (.field 3 4))).setIfInBounds 56 (some (.field 3 3))
  statics := none }

def pool3 : Array CpInfo := pool [(1, .class_ 2), (0, u "com/example/gull/gull/TimerWheel"), (0, .methodref 4 5), (0, .class_ 6), (0, .nameAndType 7 8), (0, u "java/lang/Object"), (0, u "<init>"), (0, u "()V"), (0, .fieldref 10 11), (0, .class_ 12), (0, .nameAndType 13 14), (0, u "com/example/gull/gull/TimerWheel$Timer"), (0, u "place"), (0, u "I"), (0, .fieldref 10 16), (0, .nameAndType 17 18), (0, u "deadline"), (0, u "J"), (0, u "waker"), (0, u "Lcom/example/gull/gull/Waker;"), (0, u "previous"), (0, u "Lcom/example/gull/gull/TimerWheel$Timer;"), (0, u "next"), (0, u "(J)V"), (2, u "isHeld"), (0, u "()Z")] 6

def k3c0 : Code := { maxStack := 3, maxLocals := 3, code := prog_31_method_1_code, exceptionTable := #[], attributes := #[] }
def k3m0 : Method := { name := "<init>", desc := "(J)V", sig := { parameters := [.long], returnType := none }, accessFlags := 0, code := some k3c0 }
def k3c1 : Code := { maxStack := 2, maxLocals := 1, code := prog_31_method_2_code, exceptionTable := #[], attributes := #[] }
def k3m1 : Method := { name := "isHeld", desc := "()Z", sig := { parameters := [], returnType := some .boolean }, accessFlags := 0, code := some k3c1 }
/-- com/example/gull/gull/TimerWheel$Timer -/
def k3 : Class := { plain "com/example/gull/gull/TimerWheel$Timer" (some 0) with
  accessFlags := 48
  interfaces := #[]
  cf := some (fileOf pool3 10 #[.nestHost 1] #[{ accessFlags := 0, nameIndex := 7, descriptorIndex := 24, attributes := #[] }, { accessFlags := 0, nameIndex := 27, descriptorIndex := 28, attributes := #[] }] 48 4 #[] #[{ accessFlags := 0, nameIndex := 19, descriptorIndex := 20, attributes := #[] }, { accessFlags := 18, nameIndex := 17, descriptorIndex := 18, attributes := #[] }, { accessFlags := 2, nameIndex := 13, descriptorIndex := 14, attributes := #[] }, { accessFlags := 2, nameIndex := 21, descriptorIndex := 22, attributes := #[] }, { accessFlags := 2, nameIndex := 23, descriptorIndex := 22, attributes := #[] }])
  fields := #[{ name := "waker", type := (.object "com/example/gull/gull/Waker"), accessFlags := 0, slot := 0, constantValue := 0 }, { name := "deadline", type := .long, accessFlags := 18, slot := 1, constantValue := 0 }, { name := "place", type := .int, accessFlags := 2, slot := 2, constantValue := 0 }, { name := "previous", type := (.object "com/example/gull/gull/TimerWheel$Timer"), accessFlags := 2, slot := 3, constantValue := 0 }, { name := "next", type := (.object "com/example/gull/gull/TimerWheel$Timer"), accessFlags := 2, slot := 4, constantValue := 0 }]
  methods := #[k3m0, k3m1]
  instanceTypes := #[(.object "com/example/gull/gull/Waker"), .long, .int, (.object "com/example/gull/gull/TimerWheel$Timer"), (.object "com/example/gull/gull/TimerWheel$Timer")]
  staticTypes := #[]
  resolved := Array.replicate 35 none
  statics := none }

def pool4 : Array CpInfo := pool [(1, .class_ 2), (0, u "java/io/Serializable"), (0, .class_ 4), (0, u "java/lang/Object")] 2

/-- java/io/Serializable -/
def k4 : Class := { plain "java/io/Serializable" (some 0) with
  accessFlags := 1537
  interfaces := #[]
  cf := some (fileOf pool4 1 #[] #[] 1537 3 #[] #[])
  fields := #[]
  methods := #[]
  instanceTypes := #[]
  staticTypes := #[]
  resolved := Array.replicate 7 none
  statics := none }

def pool5 : Array CpInfo := pool [(2, .class_ 4), (1, u "java/lang/Object"), (0, u "<init>"), (0, u "()V"), (1, .class_ 10), (1, u "java/lang/Number"), (2, .class_ 14), (0, u "java/io/Serializable"), (0, u "serialVersionUID"), (0, u "J")] 20

def k5m0 : Method := { name := "<init>", desc := "()V", sig := { parameters := [], returnType := none }, accessFlags := 1, code := none }
/-- java/lang/Number -/
def k5 : Class := { plain "java/lang/Number" (some 0) with
  accessFlags := 1057
  interfaces := #[4]
  cf := some (fileOf pool5 8 #[] #[{ accessFlags := 1, nameIndex := 5, descriptorIndex := 6, attributes := #[] }] 1057 2 #[13] #[{ accessFlags := 26, nameIndex := 15, descriptorIndex := 16, attributes := #[] }])
  fields := #[{ name := "serialVersionUID", type := .long, accessFlags := 26, slot := 0, constantValue := 0 }]
  methods := #[k5m0]
  instanceTypes := #[]
  staticTypes := #[.long]
  resolved := Array.replicate 37 none
  statics := none }

def pool6 : Array CpInfo := pool [(1, .class_ 2), (0, u "java/lang/Comparable"), (0, .class_ 4), (0, u "java/lang/Object")] 7

/-- java/lang/Comparable -/
def k6 : Class := { plain "java/lang/Comparable" (some 0) with
  accessFlags := 1537
  interfaces := #[]
  cf := some (fileOf pool6 1 #[] #[] 1537 3 #[] #[])
  fields := #[]
  methods := #[]
  instanceTypes := #[]
  staticTypes := #[]
  resolved := Array.replicate 12 none
  statics := none }

def pool7 : Array CpInfo := pool [(1, .class_ 2), (0, u "java/lang/constant/Constable"), (0, .class_ 4), (0, u "java/lang/Object")] 6

/-- java/lang/constant/Constable -/
def k7 : Class := { plain "java/lang/constant/Constable" (some 0) with
  accessFlags := 1537
  interfaces := #[]
  cf := some (fileOf pool7 1 #[] #[] 1537 3 #[] #[])
  fields := #[]
  methods := #[]
  instanceTypes := #[]
  staticTypes := #[]
  resolved := Array.replicate 11 none
  statics := none }

def pool8 : Array CpInfo := pool [(1, .class_ 2), (0, u "java/lang/constant/ConstantDesc"), (0, .class_ 4), (0, u "java/lang/Object")] 32

/-- java/lang/constant/ConstantDesc -/
def k8 : Class := { plain "java/lang/constant/ConstantDesc" (some 0) with
  accessFlags := 1537
  interfaces := #[]
  cf := some (fileOf pool8 1 #[] #[] 1537 3 #[] #[])
  fields := #[]
  methods := #[]
  instanceTypes := #[]
  staticTypes := #[]
  resolved := Array.replicate 37 none
  statics := none }

def pool9 : Array CpInfo := pool [(1, .class_ 2), (0, u "java/lang/Long"), (15, .class_ 20), (1, u "java/lang/Integer"), (79, u "numberOfLeadingZeros"), (0, u "(J)I"), (133, .class_ 237), (1, u "java/lang/Long$LongCache"), (33, .class_ 272), (0, u "java/lang/Number"), (2, u "value"), (0, u "J"), (31, .methodref 18 309), (0, .nameAndType 100 310), (0, u "(I)I"), (0, .methodref 18 312), (0, .nameAndType 313 310), (0, u "numberOfTrailingZeros"), (47, u "TYPE"), (0, u "Ljava/lang/Class;"), (0, .class_ 364), (0, u "java/lang/Comparable"), (0, .class_ 366), (0, u "java/lang/constant/Constable"), (0, .class_ 368), (0, u "java/lang/constant/ConstantDesc"), (0, u "MIN_VALUE"), (1, u "MAX_VALUE"), (4, u "SIZE"), (0, u "I"), (1, u "BYTES"), (1, u "serialVersionUID")] 142

def k9c0 : Code := { maxStack := 3, maxLocals := 3, code := jdk_35_method_48_code, exceptionTable := #[], attributes := #[] }
def k9m0 : Method := { name := "numberOfLeadingZeros", desc := "(J)I", sig := { parameters := [.long], returnType := some .int }, accessFlags := 9, code := some k9c0 }
def k9c1 : Code := { maxStack := 4, maxLocals := 3, code := jdk_35_method_49_code, exceptionTable := #[], attributes := #[] }
def k9m1 : Method := { name := "numberOfTrailingZeros", desc := "(J)I", sig := { parameters := [.long], returnType := some .int }, accessFlags := 9, code := some k9c1 }
/-- java/lang/Long -/
def k9 : Class := { plain "java/lang/Long" (some 5) with
  accessFlags := 49
  interfaces := #[6, 7, 8]
  cf := some (fileOf pool9 1 #[.nestMembers #[235]] #[{ accessFlags := 9, nameIndex := 100, descriptorIndex := 101, attributes := #[] }, { accessFlags := 9, nameIndex := 313, descriptorIndex := 101, attributes := #[] }] 49 271 #[363, 365, 367] #[{ accessFlags := 25, nameIndex := 369, descriptorIndex := 276, attributes := #[] }, { accessFlags := 25, nameIndex := 371, descriptorIndex := 276, attributes := #[] }, { accessFlags := 25, nameIndex := 361, descriptorIndex := 362, attributes := #[] }, { accessFlags := 18, nameIndex := 275, descriptorIndex := 276, attributes := #[] }, { accessFlags := 25, nameIndex := 376, descriptorIndex := 377, attributes := #[] }, { accessFlags := 25, nameIndex := 379, descriptorIndex := 377, attributes := #[] }, { accessFlags := 26, nameIndex := 381, descriptorIndex := 276, attributes := #[] }])
  fields := #[{ name := "MIN_VALUE", type := .long, accessFlags := 25, slot := 0, constantValue := 0 }, { name := "MAX_VALUE", type := .long, accessFlags := 25, slot := 1, constantValue := 0 }, { name := "TYPE", type := (.object "java/lang/Class"), accessFlags := 25, slot := 2, constantValue := 0 }, { name := "value", type := .long, accessFlags := 18, slot := 0, constantValue := 0 }, { name := "SIZE", type := .int, accessFlags := 25, slot := 3, constantValue := 0 }, { name := "BYTES", type := .int, accessFlags := 25, slot := 4, constantValue := 0 }, { name := "serialVersionUID", type := .long, accessFlags := 26, slot := 5, constantValue := 0 }]
  methods := #[k9m0, k9m1]
  instanceTypes := #[.long]
  staticTypes := #[.long, .long, (.object "java/lang/Class"), .int, .int, .long]
  resolved := Array.replicate 524 none
  statics := none }

def pool10 : Array CpInfo := pool [(1, .class_ 2), (0, u "java/lang/Integer"), (16, u "digits"), (0, u "[C"), (32, u "numberOfLeadingZeros"), (0, u "(I)I"), (30, u "DigitOnes"), (0, u "[B"), (2, u "DigitTens"), (99, .class_ 190), (0, u "java/lang/Integer$IntegerCache"), (3, u "I"), (8, .class_ 204), (0, u "java/lang/Number"), (2, u "value"), (56, .integer 65536), (37, u "TYPE"), (0, u "Ljava/lang/Class;"), (0, .class_ 305), (0, u "java/lang/Comparable"), (0, .class_ 307), (0, u "java/lang/constant/Constable"), (0, .class_ 309), (0, u "java/lang/constant/ConstantDesc"), (0, u "MIN_VALUE"), (1, u "MAX_VALUE"), (3, u "SIZE"), (1, u "BYTES"), (1, u "serialVersionUID"), (0, u "J"), (84, u "numberOfTrailingZeros")] 46

def k10c0 : Code := { maxStack := 3, maxLocals := 2, code := jdk_33_method_47_code, exceptionTable := #[], attributes := #[] }
def k10m0 : Method := { name := "numberOfLeadingZeros", desc := "(I)I", sig := { parameters := [.int], returnType := some .int }, accessFlags := 9, code := some k10c0 }
def k10c1 : Code := { maxStack := 3, maxLocals := 2, code := jdk_33_method_48_code, exceptionTable := #[], attributes := #[] }
def k10m1 : Method := { name := "numberOfTrailingZeros", desc := "(I)I", sig := { parameters := [.int], returnType := some .int }, accessFlags := 9, code := some k10c1 }
/-- java/lang/Integer -/
def k10 : Class := { plain "java/lang/Integer" (some 5) with
  accessFlags := 49
  interfaces := #[6, 7, 8]
  cf := some (fileOf pool10 1 #[.nestMembers #[189]] #[{ accessFlags := 9, nameIndex := 53, descriptorIndex := 54, attributes := #[] }, { accessFlags := 9, nameIndex := 406, descriptorIndex := 54, attributes := #[] }] 49 203 #[304, 306, 308] #[{ accessFlags := 25, nameIndex := 310, descriptorIndex := 194, attributes := #[] }, { accessFlags := 25, nameIndex := 312, descriptorIndex := 194, attributes := #[] }, { accessFlags := 25, nameIndex := 302, descriptorIndex := 303, attributes := #[] }, { accessFlags := 24, nameIndex := 19, descriptorIndex := 20, attributes := #[] }, { accessFlags := 24, nameIndex := 89, descriptorIndex := 86, attributes := #[] }, { accessFlags := 24, nameIndex := 85, descriptorIndex := 86, attributes := #[] }, { accessFlags := 18, nameIndex := 207, descriptorIndex := 194, attributes := #[] }, { accessFlags := 25, nameIndex := 316, descriptorIndex := 194, attributes := #[] }, { accessFlags := 25, nameIndex := 318, descriptorIndex := 194, attributes := #[] }, { accessFlags := 26, nameIndex := 320, descriptorIndex := 321, attributes := #[] }])
  fields := #[{ name := "MIN_VALUE", type := .int, accessFlags := 25, slot := 0, constantValue := 0 }, { name := "MAX_VALUE", type := .int, accessFlags := 25, slot := 1, constantValue := 0 }, { name := "TYPE", type := (.object "java/lang/Class"), accessFlags := 25, slot := 2, constantValue := 0 }, { name := "digits", type := (.array .char), accessFlags := 24, slot := 3, constantValue := 0 }, { name := "DigitTens", type := (.array .byte), accessFlags := 24, slot := 4, constantValue := 0 }, { name := "DigitOnes", type := (.array .byte), accessFlags := 24, slot := 5, constantValue := 0 }, { name := "value", type := .int, accessFlags := 18, slot := 0, constantValue := 0 }, { name := "SIZE", type := .int, accessFlags := 25, slot := 6, constantValue := 0 }, { name := "BYTES", type := .int, accessFlags := 25, slot := 7, constantValue := 0 }, { name := "serialVersionUID", type := .long, accessFlags := 26, slot := 8, constantValue := 0 }]
  methods := #[k10m0, k10m1]
  instanceTypes := #[.int]
  staticTypes := #[.int, .int, (.object "java/lang/Class"), (.array .char), (.array .byte), (.array .byte), .int, .int, .long]
  resolved := Array.replicate 453 none
  statics := none }

def pool11 : Array CpInfo := pool [(1, .class_ 2), (0, u "java/lang/Math"), (1, .class_ 6), (1, u "java/lang/Object"), (0, u "<init>"), (0, u "()V"), (89, .class_ 100), (1, u "java/lang/Math$RandomNumberGeneratorHolder"), (20, u "(JJ)J"), (50, u "negativeZeroFloatBits"), (0, u "J"), (2, u "negativeZeroDoubleBits"), (24, u "min"), (43, u "$assertionsDisabled"), (0, u "Z"), (91, u "twoToTheDoubleScaleDown"), (0, u "D"), (4, u "twoToTheDoubleScaleUp"), (9, u "E"), (3, u "PI"), (2, u "TAU"), (2, u "DEGREES_TO_RADIANS"), (0, u "RADIANS_TO_DEGREES")] 94

def k11m0 : Method := { name := "<init>", desc := "()V", sig := { parameters := [], returnType := none }, accessFlags := 2, code := none }
def k11c1 : Code := { maxStack := 4, maxLocals := 4, code := jdk_29_method_70_code, exceptionTable := #[], attributes := #[] }
def k11m1 : Method := { name := "min", desc := "(JJ)J", sig := { parameters := [.long, .long], returnType := some .long }, accessFlags := 9, code := some k11c1 }
/-- java/lang/Math -/
def k11 : Class := { plain "java/lang/Math" (some 0) with
  accessFlags := 49
  interfaces := #[]
  cf := some (fileOf pool11 1 #[.nestMembers #[98]] #[{ accessFlags := 2, nameIndex := 7, descriptorIndex := 8, attributes := #[] }, { accessFlags := 9, nameIndex := 201, descriptorIndex := 121, attributes := #[] }] 49 4 #[] #[{ accessFlags := 25, nameIndex := 354, descriptorIndex := 339, attributes := #[] }, { accessFlags := 25, nameIndex := 358, descriptorIndex := 339, attributes := #[] }, { accessFlags := 25, nameIndex := 361, descriptorIndex := 339, attributes := #[] }, { accessFlags := 26, nameIndex := 364, descriptorIndex := 339, attributes := #[] }, { accessFlags := 26, nameIndex := 365, descriptorIndex := 339, attributes := #[] }, { accessFlags := 26, nameIndex := 172, descriptorIndex := 173, attributes := #[] }, { accessFlags := 26, nameIndex := 176, descriptorIndex := 173, attributes := #[] }, { accessFlags := 8, nameIndex := 344, descriptorIndex := 339, attributes := #[] }, { accessFlags := 8, nameIndex := 338, descriptorIndex := 339, attributes := #[] }, { accessFlags := 4120, nameIndex := 245, descriptorIndex := 246, attributes := #[] }])
  fields := #[{ name := "E", type := .double, accessFlags := 25, slot := 0, constantValue := 0 }, { name := "PI", type := .double, accessFlags := 25, slot := 1, constantValue := 0 }, { name := "TAU", type := .double, accessFlags := 25, slot := 2, constantValue := 0 }, { name := "DEGREES_TO_RADIANS", type := .double, accessFlags := 26, slot := 3, constantValue := 0 }, { name := "RADIANS_TO_DEGREES", type := .double, accessFlags := 26, slot := 4, constantValue := 0 }, { name := "negativeZeroFloatBits", type := .long, accessFlags := 26, slot := 5, constantValue := 0 }, { name := "negativeZeroDoubleBits", type := .long, accessFlags := 26, slot := 6, constantValue := 0 }, { name := "twoToTheDoubleScaleUp", type := .double, accessFlags := 8, slot := 7, constantValue := 0 }, { name := "twoToTheDoubleScaleDown", type := .double, accessFlags := 8, slot := 8, constantValue := 0 }, { name := "$assertionsDisabled", type := .boolean, accessFlags := 4120, slot := 9, constantValue := 0 }]
  methods := #[k11m0, k11m1]
  instanceTypes := #[]
  staticTypes := #[.double, .double, .double, .double, .double, .long, .long, .double, .double, .boolean]
  resolved := Array.replicate 460 none
  statics := none }

def pool12 : Array CpInfo := pool [(1, u "java/lang/Cloneable"), (0, .class_ 1), (0, u "java/lang/Object"), (0, .class_ 3)] 3

/-- java/lang/Cloneable -/
def k12 : Class := { plain "java/lang/Cloneable" (some 0) with
  accessFlags := 1537
  interfaces := #[]
  cf := some (fileOf pool12 2 #[] #[] 1537 4 #[] #[])
  fields := #[]
  methods := #[]
  instanceTypes := #[]
  staticTypes := #[]
  resolved := Array.replicate 8 none
  statics := none }

/-- the primitive byte -/
def k13 : Class := { plain "byte" none with kind := .primitive 'B', accessFlags := 0x411 }
/-- [B -/
def k14 : Class := { plain "[B" (some 0) with kind := .array 13 .byte, interfaces := #[12, 4], accessFlags := 1041 }

/-- the primitive int -/
def k15 : Class := { plain "int" none with kind := .primitive 'I', accessFlags := 0x411 }
/-- [I -/
def k16 : Class := { plain "[I" (some 0) with kind := .array 15 .int, interfaces := #[12, 4], accessFlags := 1041 }

/-- the primitive long -/
def k17 : Class := { plain "long" none with kind := .primitive 'J', accessFlags := 0x411 }
/-- [J -/
def k18 : Class := { plain "[J" (some 0) with kind := .array 17 .long, interfaces := #[12, 4], accessFlags := 1041 }

/-- [Lcom/example/gull/gull/TimerWheel$Timer; -/
def k19 : Class := { plain "[Lcom/example/gull/gull/TimerWheel$Timer;" (some 0) with kind := .array 3 (.object "com/example/gull/gull/TimerWheel$Timer"), interfaces := #[12, 4], accessFlags := 1041 }

def heap : Heap := #[]
def classes : Array Class := #[k0, k1, k2, k3, k4, k5, k6, k7, k8, k9, k10, k11, k12, k13, k14, k15, k16, k17, k18, k19]
def interned : List (Array UInt16 × Addr) := []
def slotsUsed : Nat := 0
def theMethod : MethodId := ⟨1, 1⟩
def args0 : Array Value := #[.long 5, .long 6, .long 7, .int 8]
def aboutOver (below : List Frame) : State where
  vm := { classes := classes, interned := interned.toArray }
  heap := heap
  slotsUsed := slotsUsed
  threads := #[{ frames := .invoking theMethod args0 :: below }]
def below0 : List Frame := [.native { method := ⟨0, 0⟩, args := #[] }]
def about1 : State := aboutOver below0
def p0 : Program := .bare "" "" ""
def e0 : Env := launch0.env 0 0 0
theorem w_frames : about1.frames = Frame.invoking theMethod args0 :: below0 := rfl
set_option maxRecDepth 65536 in
theorem w_args : argsFit about1.vm theMethod args0 = true := by decide +kernel
set_option maxRecDepth 65536 in
theorem w_heap : heapFits about1 = true := by decide +kernel
set_option maxRecDepth 65536 in
theorem w_runnable : about1.curStatus? = some .runnable := by decide +kernel
set_option maxRecDepth 65536 in
theorem w_alone : about1.alone = true := by decide +kernel
set_option maxRecDepth 65536 in
theorem w_named : about1.methodNamed? x = some theMethod := by decide +kernel
set_option maxRecDepth 65536 in
theorem w_hears : about1.hears theMethod below0 = true := by decide +kernel
set_option maxRecDepth 65536 in
theorem w_ripe : about1.ripe theMethod args0 below0 = true := by decide +kernel
theorem w_running : about1.status = .running := rfl
set_option maxRecDepth 65536 in
theorem w_room : about1.hasRoom e0.platform room_1 = true :=
  launch0.hasRoom_least _ room_1 (by decide +kernel) (by decide +kernel) (by decide +kernel) (by decide +kernel) (by decide +kernel) (by decide +kernel)
theorem allAtoms_all (ts : List Jvm.Cond) (a : Array Jvm.Value) (st : Jvm.State) : (allAtoms ts).before a st = ts.all (fun c => c.before a st) := by
  induction ts with
  | nil => rfl
  | cons c t ih =>
    show (Jvm.Cond.and c (allAtoms t)).before a st = _
    rw [Jvm.Cond.before_and, ih, List.all_cons]
def words1 : List Jvm.Cond := Jvm.Cond.code x code maxLocals ret :: tables_1
/-- a 'code' word, met by the world's own term for the bytes: nothing is compared byte by byte -/
theorem code_word {y : MethodName} {bytes : ByteArray} {mx : Nat} {rt : Option FieldType} {a : Array Value} {s : State} {m : MethodId} {meth : Method} {c : Code} (h1 : s.methodNamed? y = some m) (h2 : s.vm.method? m = some meth) (h3 : meth.code = some c) (h4 : c.code = bytes)
    (h5 : (c.maxLocals == mx && c.exceptionTable.isEmpty && decide (c.maxStack ≤ mostOperands) && decide (meth.sig.returnType = rt) && !meth.locks && decide (parseMethodDescriptor y.desc = some meth.sig)) = true) : (Jvm.Cond.code y bytes mx rt).before a s = true := by
  simp only [Bool.and_eq_true, beq_iff_eq, Bool.not_eq_true', decide_eq_true_eq] at h5
  obtain ⟨⟨⟨⟨⟨g1, g2⟩, g3⟩, g4⟩, g5⟩, g6⟩ := h5
  simp [Cond.before, Cond.holds, Cond.value, h1, h2, h3, h4, g1, g2, g3, g4, g5, g6]
def isCode : Jvm.Cond → Bool
  | .code _ _ _ _ => true
  | _ => false
theorem all_split {L : List Jvm.Cond} {P : Jvm.Cond → Bool} (h1 : L.all (fun c => isCode c || P c) = true) (h2 : ∀ c ∈ L.filter isCode, P c = true) : L.all P = true := by
  refine List.all_eq_true.mpr fun c hc => ?_
  have h := List.all_eq_true.mp h1 c hc
  rcases Bool.eq_false_or_eq_true (isCode c) with hi | hi
  · exact h2 c (List.mem_filter.mpr ⟨hc, hi⟩)
  · simpa [hi] using h
set_option maxRecDepth 65536 in
theorem w_c0 : (Jvm.Cond.code x code maxLocals ret).before args0 about1 = true := code_word (m := ⟨1, 1⟩) (meth := k1m1) (c := k1c1) (by decide +kernel) rfl rfl rfl (by decide +kernel)
set_option maxRecDepth 65536 in
theorem w_c1 : (Jvm.Cond.code ({ cls := "com/example/gull/gull/TimerWheelRemovePinLaw", name := "deadline", desc := "(JJI)J" } : Jvm.MethodName) method_3_code (5 : Nat) (Option.some Jvm.ClassFile.FieldType.long)).before args0 about1 = true := code_word (m := ⟨1, 2⟩) (meth := k1m2) (c := k1c2) (by decide +kernel) rfl rfl rfl (by decide +kernel)
set_option maxRecDepth 65536 in
theorem w_c2 : (Jvm.Cond.code ({ cls := "com/example/gull/gull/TimerWheel", name := "<init>", desc := "(J)V" } : Jvm.MethodName) prog_30_method_1_code (3 : Nat) (Option.none : Option Jvm.ClassFile.FieldType)).before args0 about1 = true := code_word (m := ⟨2, 0⟩) (meth := k2m0) (c := k2c0) (by decide +kernel) rfl rfl rfl (by decide +kernel)
set_option maxRecDepth 65536 in
theorem w_c3 : (Jvm.Cond.code ({ cls := "java/lang/Object", name := "<init>", desc := "()V" } : Jvm.MethodName) object_method_1_code (1 : Nat) (Option.none : Option Jvm.ClassFile.FieldType)).before args0 about1 = true := code_word (m := ⟨0, 0⟩) (meth := k0m0) (c := k0c0) (by decide +kernel) rfl rfl rfl (by decide +kernel)
set_option maxRecDepth 65536 in
theorem w_c4 : (Jvm.Cond.code ({ cls := "com/example/gull/gull/TimerWheel$Timer", name := "<init>", desc := "(J)V" } : Jvm.MethodName) prog_31_method_1_code (3 : Nat) (Option.none : Option Jvm.ClassFile.FieldType)).before args0 about1 = true := code_word (m := ⟨3, 0⟩) (meth := k3m0) (c := k3c0) (by decide +kernel) rfl rfl rfl (by decide +kernel)
set_option maxRecDepth 65536 in
theorem w_c5 : (Jvm.Cond.code ({ cls := "com/example/gull/gull/TimerWheel", name := "add", desc := "(Lcom/example/gull/gull/TimerWheel$Timer;)Z" } : Jvm.MethodName) prog_30_method_2_code (6 : Nat) (Option.some Jvm.ClassFile.FieldType.boolean)).before args0 about1 = true := code_word (m := ⟨2, 1⟩) (meth := k2m1) (c := k2c1) (by decide +kernel) rfl rfl rfl (by decide +kernel)
set_option maxRecDepth 65536 in
theorem w_c6 : (Jvm.Cond.code ({ cls := "java/lang/Long", name := "numberOfLeadingZeros", desc := "(J)I" } : Jvm.MethodName) jdk_35_method_48_code (3 : Nat) (Option.some Jvm.ClassFile.FieldType.int)).before args0 about1 = true := code_word (m := ⟨9, 0⟩) (meth := k9m0) (c := k9c0) (by decide +kernel) rfl rfl rfl (by decide +kernel)
set_option maxRecDepth 65536 in
theorem w_c7 : (Jvm.Cond.code ({ cls := "java/lang/Integer", name := "numberOfLeadingZeros", desc := "(I)I" } : Jvm.MethodName) jdk_33_method_47_code (2 : Nat) (Option.some Jvm.ClassFile.FieldType.int)).before args0 about1 = true := code_word (m := ⟨10, 0⟩) (meth := k10m0) (c := k10c0) (by decide +kernel) rfl rfl rfl (by decide +kernel)
set_option maxRecDepth 65536 in
theorem w_c8 : (Jvm.Cond.code ({ cls := "com/example/gull/gull/TimerWheel", name := "remove", desc := "(Lcom/example/gull/gull/TimerWheel$Timer;)V" } : Jvm.MethodName) prog_30_method_3_code (2 : Nat) (Option.none : Option Jvm.ClassFile.FieldType)).before args0 about1 = true := code_word (m := ⟨2, 2⟩) (meth := k2m2) (c := k2c2) (by decide +kernel) rfl rfl rfl (by decide +kernel)
set_option maxRecDepth 65536 in
theorem w_c9 : (Jvm.Cond.code ({ cls := "com/example/gull/gull/TimerWheel$Timer", name := "isHeld", desc := "()Z" } : Jvm.MethodName) prog_31_method_2_code (1 : Nat) (Option.some Jvm.ClassFile.FieldType.boolean)).before args0 about1 = true := code_word (m := ⟨3, 1⟩) (meth := k3m1) (c := k3c1) (by decide +kernel) rfl rfl rfl (by decide +kernel)
set_option maxRecDepth 65536 in
theorem w_c10 : (Jvm.Cond.code ({ cls := "com/example/gull/gull/TimerWheel", name := "nextEvent", desc := "()J" } : Jvm.MethodName) prog_30_method_4_code (1 : Nat) (Option.some Jvm.ClassFile.FieldType.long)).before args0 about1 = true := code_word (m := ⟨2, 3⟩) (meth := k2m3) (c := k2c3) (by decide +kernel) rfl rfl rfl (by decide +kernel)
set_option maxRecDepth 65536 in
theorem w_c11 : (Jvm.Cond.code ({ cls := "com/example/gull/gull/TimerWheel", name := "nextPlace", desc := "()I" } : Jvm.MethodName) prog_30_method_6_code (3 : Nat) (Option.some Jvm.ClassFile.FieldType.int)).before args0 about1 = true := code_word (m := ⟨2, 4⟩) (meth := k2m4) (c := k2c4) (by decide +kernel) rfl rfl rfl (by decide +kernel)
set_option maxRecDepth 65536 in
theorem w_c12 : (Jvm.Cond.code ({ cls := "com/example/gull/gull/TimerWheel", name := "eventAt", desc := "(I)J" } : Jvm.MethodName) prog_30_method_7_code (7 : Nat) (Option.some Jvm.ClassFile.FieldType.long)).before args0 about1 = true := code_word (m := ⟨2, 5⟩) (meth := k2m5) (c := k2c5) (by decide +kernel) rfl rfl rfl (by decide +kernel)
set_option maxRecDepth 65536 in
theorem w_c13 : (Jvm.Cond.code ({ cls := "java/lang/Math", name := "min", desc := "(JJ)J" } : Jvm.MethodName) jdk_29_method_70_code (4 : Nat) (Option.some Jvm.ClassFile.FieldType.long)).before args0 about1 = true := code_word (m := ⟨11, 1⟩) (meth := k11m1) (c := k11c1) (by decide +kernel) rfl rfl rfl (by decide +kernel)
set_option maxRecDepth 65536 in
theorem w_c14 : (Jvm.Cond.code ({ cls := "java/lang/Long", name := "numberOfTrailingZeros", desc := "(J)I" } : Jvm.MethodName) jdk_35_method_49_code (3 : Nat) (Option.some Jvm.ClassFile.FieldType.int)).before args0 about1 = true := code_word (m := ⟨9, 1⟩) (meth := k9m1) (c := k9c1) (by decide +kernel) rfl rfl rfl (by decide +kernel)
set_option maxRecDepth 65536 in
theorem w_c15 : (Jvm.Cond.code ({ cls := "java/lang/Integer", name := "numberOfTrailingZeros", desc := "(I)I" } : Jvm.MethodName) jdk_33_method_48_code (2 : Nat) (Option.some Jvm.ClassFile.FieldType.int)).before args0 about1 = true := code_word (m := ⟨10, 1⟩) (meth := k10m1) (c := k10c1) (by decide +kernel) rfl rfl rfl (by decide +kernel)
set_option maxRecDepth 65536 in
theorem w_c16 : (Jvm.Cond.code ({ cls := "com/example/gull/gull/TimerWheelRemovePinLaw", name := "eventOf", desc := "(JJ)J" } : Jvm.MethodName) method_5_code (4 : Nat) (Option.some Jvm.ClassFile.FieldType.long)).before args0 about1 = true := code_word (m := ⟨1, 4⟩) (meth := k1m4) (c := k1c4) (by decide +kernel) rfl rfl rfl (by decide +kernel)
set_option maxRecDepth 65536 in
theorem w_c17 : (Jvm.Cond.code ({ cls := "com/example/gull/gull/TimerWheelRemovePinLaw", name := "level", desc := "(JJ)I" } : Jvm.MethodName) method_4_code (6 : Nat) (Option.some Jvm.ClassFile.FieldType.int)).before args0 about1 = true := code_word (m := ⟨1, 3⟩) (meth := k1m3) (c := k1c3) (by decide +kernel) rfl rfl rfl (by decide +kernel)
def codes1 : List Jvm.Cond := [Jvm.Cond.code x code maxLocals ret, Jvm.Cond.code ({ cls := "com/example/gull/gull/TimerWheelRemovePinLaw", name := "deadline", desc := "(JJI)J" } : Jvm.MethodName) method_3_code (5 : Nat) (Option.some Jvm.ClassFile.FieldType.long), Jvm.Cond.code ({ cls := "com/example/gull/gull/TimerWheel", name := "<init>", desc := "(J)V" } : Jvm.MethodName) prog_30_method_1_code (3 : Nat) (Option.none : Option Jvm.ClassFile.FieldType), Jvm.Cond.code ({ cls := "java/lang/Object", name := "<init>", desc := "()V" } : Jvm.MethodName) object_method_1_code (1 : Nat) (Option.none : Option Jvm.ClassFile.FieldType), Jvm.Cond.code ({ cls := "com/example/gull/gull/TimerWheel$Timer", name := "<init>", desc := "(J)V" } : Jvm.MethodName) prog_31_method_1_code (3 : Nat) (Option.none : Option Jvm.ClassFile.FieldType), Jvm.Cond.code ({ cls := "com/example/gull/gull/TimerWheel", name := "add", desc := "(Lcom/example/gull/gull/TimerWheel$Timer;)Z" } : Jvm.MethodName) prog_30_method_2_code (6 : Nat) (Option.some Jvm.ClassFile.FieldType.boolean), Jvm.Cond.code ({ cls := "java/lang/Long", name := "numberOfLeadingZeros", desc := "(J)I" } : Jvm.MethodName) jdk_35_method_48_code (3 : Nat) (Option.some Jvm.ClassFile.FieldType.int), Jvm.Cond.code ({ cls := "java/lang/Integer", name := "numberOfLeadingZeros", desc := "(I)I" } : Jvm.MethodName) jdk_33_method_47_code (2 : Nat) (Option.some Jvm.ClassFile.FieldType.int), Jvm.Cond.code ({ cls := "com/example/gull/gull/TimerWheel", name := "remove", desc := "(Lcom/example/gull/gull/TimerWheel$Timer;)V" } : Jvm.MethodName) prog_30_method_3_code (2 : Nat) (Option.none : Option Jvm.ClassFile.FieldType), Jvm.Cond.code ({ cls := "com/example/gull/gull/TimerWheel$Timer", name := "isHeld", desc := "()Z" } : Jvm.MethodName) prog_31_method_2_code (1 : Nat) (Option.some Jvm.ClassFile.FieldType.boolean), Jvm.Cond.code ({ cls := "com/example/gull/gull/TimerWheel", name := "nextEvent", desc := "()J" } : Jvm.MethodName) prog_30_method_4_code (1 : Nat) (Option.some Jvm.ClassFile.FieldType.long), Jvm.Cond.code ({ cls := "com/example/gull/gull/TimerWheel", name := "nextPlace", desc := "()I" } : Jvm.MethodName) prog_30_method_6_code (3 : Nat) (Option.some Jvm.ClassFile.FieldType.int), Jvm.Cond.code ({ cls := "com/example/gull/gull/TimerWheel", name := "eventAt", desc := "(I)J" } : Jvm.MethodName) prog_30_method_7_code (7 : Nat) (Option.some Jvm.ClassFile.FieldType.long), Jvm.Cond.code ({ cls := "java/lang/Math", name := "min", desc := "(JJ)J" } : Jvm.MethodName) jdk_29_method_70_code (4 : Nat) (Option.some Jvm.ClassFile.FieldType.long), Jvm.Cond.code ({ cls := "java/lang/Long", name := "numberOfTrailingZeros", desc := "(J)I" } : Jvm.MethodName) jdk_35_method_49_code (3 : Nat) (Option.some Jvm.ClassFile.FieldType.int), Jvm.Cond.code ({ cls := "java/lang/Integer", name := "numberOfTrailingZeros", desc := "(I)I" } : Jvm.MethodName) jdk_33_method_48_code (2 : Nat) (Option.some Jvm.ClassFile.FieldType.int), Jvm.Cond.code ({ cls := "com/example/gull/gull/TimerWheelRemovePinLaw", name := "eventOf", desc := "(JJ)J" } : Jvm.MethodName) method_5_code (4 : Nat) (Option.some Jvm.ClassFile.FieldType.long), Jvm.Cond.code ({ cls := "com/example/gull/gull/TimerWheelRemovePinLaw", name := "level", desc := "(JJ)I" } : Jvm.MethodName) method_4_code (6 : Nat) (Option.some Jvm.ClassFile.FieldType.int)]
set_option maxRecDepth 65536 in
theorem codes_eq : words1.filter isCode = codes1 := rfl
theorem w_codes : ∀ c ∈ words1.filter isCode, c.before args0 about1 = true := by
  rw [codes_eq]
  intro c hc
  simp only [codes1, List.mem_cons, List.not_mem_nil, or_false] at hc
  rcases hc with rfl | rfl | rfl | rfl | rfl | rfl | rfl | rfl | rfl | rfl | rfl | rfl | rfl | rfl | rfl | rfl | rfl | rfl
  · exact w_c0
  · exact w_c1
  · exact w_c2
  · exact w_c3
  · exact w_c4
  · exact w_c5
  · exact w_c6
  · exact w_c7
  · exact w_c8
  · exact w_c9
  · exact w_c10
  · exact w_c11
  · exact w_c12
  · exact w_c13
  · exact w_c14
  · exact w_c15
  · exact w_c16
  · exact w_c17
set_option maxRecDepth 65536 in
theorem w_t1 : (words1.take 24).all (fun c => isCode c || c.before args0 about1) = true := by decide +kernel
set_option maxRecDepth 65536 in
theorem w_t2 : ((words1.drop 24).take 24).all (fun c => isCode c || c.before args0 about1) = true := by decide +kernel
set_option maxRecDepth 65536 in
theorem w_t3 : (((words1.drop 24).drop 24).take 24).all (fun c => isCode c || c.before args0 about1) = true := by decide +kernel
set_option maxRecDepth 65536 in
theorem w_t4 : ((((words1.drop 24).drop 24).drop 24).take 24).all (fun c => isCode c || c.before args0 about1) = true := by decide +kernel
set_option maxRecDepth 65536 in
theorem w_t5 : ((((words1.drop 24).drop 24).drop 24).drop 24).all (fun c => isCode c || c.before args0 about1) = true := by decide +kernel
theorem w_tables : (allAtoms (Jvm.Cond.code x code maxLocals ret :: tables_1)).before args0 about1 = true := by
  rw [allAtoms_all]
  show words1.all (fun c => c.before args0 about1) = true
  refine all_split ?_ w_codes
  rw [← List.take_append_drop 24 words1, List.all_append, w_t1, ← List.take_append_drop 24 (words1.drop 24), List.all_append, w_t2, ← List.take_append_drop 24 ((words1.drop 24).drop 24), List.all_append, w_t3, ← List.take_append_drop 24 (((words1.drop 24).drop 24).drop 24), List.all_append, w_t4, w_t5]
  rfl
set_option maxRecDepth 65536 in
theorem w_case : (Jvm.Cond.and given_1 narrow_1).before args0 about1 = true := by decide +kernel
theorem w_applies : (headSpec (Jvm.Cond.code x code maxLocals ret :: tables_1) room_1).applies x e0.platform about1 = true :=
  (Spec.applies_iff w_frames).mpr ⟨w_running, w_runnable, w_alone, w_named, w_hears, w_ripe, w_room, w_tables⟩
theorem atStart : AtStart classFile x code maxLocals ret World_1 tables_1 room_1 Calls_1 rest_1 Pre_1 launch0 p0 e0 about1 theMethod args0 below0 :=
  ⟨lists_1, trivial, launch0.admits_env _ _ _, launch0.least_env, fairChoices_fair.cas, fairChoices_fair.clock, w_frames, w_args, w_heap, w_applies, trivial, trivial, w_case⟩
end start1
theorem witness_1 : WitnessClaimed_1 := ⟨start1.p0, start1.e0, start1.about1, start1.theMethod, start1.args0, start1.below0, start1.atStart⟩
end Jvm.Pilot.@@N@@
