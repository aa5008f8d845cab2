import JvmDerived
import JvmDerived.Pilot.@@N@@Statement
import JvmDerived.Pilot.@@N@@Code
set_option linter.unusedVariables false
set_option linter.unusedSimpArgs false
@@BLOCK:NumsL.lean.txt@@
namespace Jvm.OwnGo
open Sem ClassFile Op Lib Jvm.Stand Jvm.Free Jvm.LawKit Jvm.RoadKit
/-- where a walk stands -/
def K (p : Program) (l : Launch) (e : Env) (R : Room) (s : State) (m : MethodId) (args : Array Value) (below : List Frame) (meth : Method) (c : Code) (bytes : ByteArray) (own : String) (maxL : Nat) (ret : Option FieldType) (nm : String) (T : State) (locs : List Loc) (cells slots : Nat) (Z : State) (h : Heap) (n0 : Nat) : Prop :=
  Stand p l e R s m args below meth c T locs cells slots ∧ p.tables.exec = Jvm.exec ∧ Z.Warmed39 s.vm ∧ T.heap = h ∧ Fr n0 locs ∧ c.code = bytes ∧ s.vm.findClass own = some m.cls ∧ c.maxLocals = maxL ∧ meth.sig.returnType = ret ∧ meth.name = nm ∧ meth.locks = false
/-- from here the run comes to an end that meets P -/
def Go (p : Program) (e : Env) (below : List Frame) (P : State → Outcome → Prop) (T : State) (g : JFrame) : Prop :=
  ∃ s₂ o, Steps p.tables e below (T.setTop g) s₂ ∧ s₂.status = .running ∧ Ended s₂ below o ∧ P s₂ o
/-- what a return pays -/
def Pay (s : State) (Q : Option Value → Heap → Prop) (n0 cc ss : Nat) (P : State → Outcome → Prop) : Prop :=
  ∀ v h L s₂, Q v h → s₂.heap = h → Fr n0 L → FrameEnd s (.returned v) s₂ L cc ss → P s₂ (.returned v)
section Own
variable {p : Program} {l : Launch} {e : Env} {R : Room} {s : State} {m : MethodId} {args : Array Value} {below : List Frame} {meth : Method} {c : Code} {bytes : ByteArray} {own : String} {maxL : Nat} {ret : Option FieldType} {nm : String} {T : State} {locs : List Loc} {cells slots : Nat} {Z : State} {h : Heap} {n0 : Nat} {Q : Option Value → Heap → Prop} {P : State → Outcome → Prop} {cc ss : Nat} {a0 : Array Value} {Ls : Array Slot} {st rest : List Value} {pc pc' pc3 : Nat}
theorem Go.to {T' : State} {g g' : JFrame} (h1 : ∀ target, Steps p.tables e below (T'.setTop g') target → Steps p.tables e below (T.setTop g) target) (k : Go p e below P T' g') : Go p e below P T g := by
  obtain ⟨s₂, o, h2, h3⟩ := k; exact ⟨s₂, o, h1 _ h2, h3⟩
theorem Go.tr {T' : State} {g g' : JFrame} (h1 : Steps p.tables e below (T.setTop g) (T'.setTop g')) (k : Go p e below P T' g') : Go p e below P T g := by
  obtain ⟨s₂, o, h2, h3⟩ := k; exact ⟨s₂, o, h1.trans h2, h3⟩
theorem Go.weak {P' : State → Outcome → Prop} {g : JFrame} (k : Go p e below P T g) (h1 : ∀ s o, P s o → P' s o) : Go p e below P' T g := by
  obtain ⟨s₂, o, h2, h3, h4, h5⟩ := k; exact ⟨s₂, o, h2, h3, h4, h1 _ _ h5⟩
theorem nar_ref {C : String} {v : Value} (h : v.isRef = true) : narrow (.object C) v = v := by cases v <;> first | rfl | (simp [Value.isRef] at h)
theorem fit_ref {C : String} {v : Value} (h : v.isRef = true) : fits (.object C) v = true := by cases v <;> first | rfl | (simp [Value.isRef] at h)
theorem k_hp (k : K p l e R s m args below meth c bytes own maxL ret nm T locs cells slots Z h n0) {T' : State} {h' : Heap} {locs' : List Loc} {cells' slots' : Nat} (X : Stand p l e R s m args below meth c T' locs' cells' slots') (eT : T'.heap = h') (N : Fr n0 locs') : K p l e R s m args below meth c bytes own maxL ret nm T' locs' cells' slots' Z h' n0 :=
  ⟨X, k.2.1, k.2.2.1, eT, N, k.2.2.2.2.2⟩
theorem k_more (k : K p l e R s m args below meth c bytes own maxL ret nm T locs cells slots Z h n0) {cells' slots' : Nat} (h1 : cells ≤ cells') (h2 : slots ≤ slots') : K p l e R s m args below meth c bytes own maxL ret nm T locs cells' slots' Z h n0 :=
  ⟨k.1.more h1 h2, k.2⟩

theorem s_iloadN (k : K p l e R s m args below meth c bytes own maxL ret nm T locs cells slots Z h n0) {i : Fin 4} {v : Int32} (hd : decode bytes pc = .ok (.iload_n i, 1)) (hl : Ls[i.val]? = some (.val (.int v))) (hp : pc + 1 = pc') (g : Go p e below P T (mkF m pc' Ls (.int v :: st))) : Go p e below P T (mkF m pc Ls st) := by
  subst hp
  exact Go.to (fun _ q => XS.iloadN k.1.here k.2.1 rfl (hb k.2.2.2.2.2.1 hd) hl q) g
theorem s_istoreN (k : K p l e R s m args below meth c bytes own maxL ret nm T locs cells slots Z h n0) {i : Fin 4} {x : Int32} {l' : Array Slot} (hd : decode bytes pc = .ok (.istore_n i, 1)) (hl : storeLocals Ls i.val (.int x) = some l') (hp : pc + 1 = pc') (g : Go p e below P T (mkF m pc' l' st)) : Go p e below P T (mkF m pc Ls (.int x :: st)) := by
  subst hp
  exact Go.to (fun _ q => XS.istoreN k.1.here k.2.1 rfl (hb k.2.2.2.2.2.1 hd) rfl hl q) g
theorem s_iload (k : K p l e R s m args below meth c bytes own maxL ret nm T locs cells slots Z h n0) {i : Nat} {v : Int32} (hd : decode bytes pc = .ok (.iload i, 2)) (hl : Ls[i]? = some (.val (.int v))) (hp : pc + 2 = pc') (g : Go p e below P T (mkF m pc' Ls (.int v :: st))) : Go p e below P T (mkF m pc Ls st) := by
  subst hp
  exact Go.to (fun _ q => XS.iload k.1.here k.2.1 rfl (hb k.2.2.2.2.2.1 hd) hl q) g
theorem s_istore (k : K p l e R s m args below meth c bytes own maxL ret nm T locs cells slots Z h n0) {i : Nat} {x : Int32} {l' : Array Slot} (hd : decode bytes pc = .ok (.istore i, 2)) (hl : storeLocals Ls i (.int x) = some l') (hp : pc + 2 = pc') (g : Go p e below P T (mkF m pc' l' st)) : Go p e below P T (mkF m pc Ls (.int x :: st)) := by
  subst hp
  exact Go.to (fun _ q => XS.istore k.1.here k.2.1 rfl (hb k.2.2.2.2.2.1 hd) rfl hl q) g
theorem s_lloadN (k : K p l e R s m args below meth c bytes own maxL ret nm T locs cells slots Z h n0) {i : Fin 4} {v : Int64} (hd : decode bytes pc = .ok (.lload_n i, 1)) (hl : Ls[i.val]? = some (.val (.long v))) (hp : pc + 1 = pc') (g : Go p e below P T (mkF m pc' Ls (.long v :: st))) : Go p e below P T (mkF m pc Ls st) := by
  subst hp
  exact Go.to (fun _ q => XT.lloadN k.1.here k.2.1 rfl (hb k.2.2.2.2.2.1 hd) hl q) g
theorem s_lstoreN (k : K p l e R s m args below meth c bytes own maxL ret nm T locs cells slots Z h n0) {i : Fin 4} {x : Int64} {l' : Array Slot} (hd : decode bytes pc = .ok (.lstore_n i, 1)) (hl : storeLocals Ls i.val (.long x) = some l') (hp : pc + 1 = pc') (g : Go p e below P T (mkF m pc' l' st)) : Go p e below P T (mkF m pc Ls (.long x :: st)) := by
  subst hp
  exact Go.to (fun _ q => XT.lstoreN k.1.here k.2.1 rfl (hb k.2.2.2.2.2.1 hd) rfl hl q) g
theorem s_lload (k : K p l e R s m args below meth c bytes own maxL ret nm T locs cells slots Z h n0) {i : Nat} {v : Int64} (hd : decode bytes pc = .ok (.lload i, 2)) (hl : Ls[i]? = some (.val (.long v))) (hp : pc + 2 = pc') (g : Go p e below P T (mkF m pc' Ls (.long v :: st))) : Go p e below P T (mkF m pc Ls st) := by
  subst hp
  exact Go.to (fun _ q => XT.lload k.1.here k.2.1 rfl (hb k.2.2.2.2.2.1 hd) hl q) g
theorem s_lstore (k : K p l e R s m args below meth c bytes own maxL ret nm T locs cells slots Z h n0) {i : Nat} {x : Int64} {l' : Array Slot} (hd : decode bytes pc = .ok (.lstore i, 2)) (hl : storeLocals Ls i (.long x) = some l') (hp : pc + 2 = pc') (g : Go p e below P T (mkF m pc' l' st)) : Go p e below P T (mkF m pc Ls (.long x :: st)) := by
  subst hp
  exact Go.to (fun _ q => XT.lstore k.1.here k.2.1 rfl (hb k.2.2.2.2.2.1 hd) rfl hl q) g
theorem s_aloadN (k : K p l e R s m args below meth c bytes own maxL ret nm T locs cells slots Z h n0) {i : Fin 4} {v : Value} (hd : decode bytes pc = .ok (.aload_n i, 1)) (hl : Ls[i.val]? = some (.val v)) (hv : v.isRef = true) (hp : pc + 1 = pc') (g : Go p e below P T (mkF m pc' Ls (v :: st))) : Go p e below P T (mkF m pc Ls st) := by
  subst hp
  exact Go.to (fun _ q => XS.aloadN k.1.here k.2.1 rfl (hb k.2.2.2.2.2.1 hd) hl hv q) g
theorem s_astoreN (k : K p l e R s m args below meth c bytes own maxL ret nm T locs cells slots Z h n0) {i : Fin 4} {x : Value} {l' : Array Slot} (hd : decode bytes pc = .ok (.astore_n i, 1)) (hv : x.isRef = true) (hl : storeLocals Ls i.val x = some l') (hp : pc + 1 = pc') (g : Go p e below P T (mkF m pc' l' st)) : Go p e below P T (mkF m pc Ls (x :: st)) := by
  subst hp
  exact Go.to (fun _ q => XS.astoreN k.1.here k.2.1 rfl (hb k.2.2.2.2.2.1 hd) rfl hv hl q) g
theorem s_aload (k : K p l e R s m args below meth c bytes own maxL ret nm T locs cells slots Z h n0) {i : Nat} {v : Value} (hd : decode bytes pc = .ok (.aload i, 2)) (hl : Ls[i]? = some (.val v)) (hv : v.isRef = true) (hp : pc + 2 = pc') (g : Go p e below P T (mkF m pc' Ls (v :: st))) : Go p e below P T (mkF m pc Ls st) := by
  subst hp
  exact Go.to (fun _ q => XS.aload k.1.here k.2.1 rfl (hb k.2.2.2.2.2.1 hd) hl hv q) g
theorem s_astore (k : K p l e R s m args below meth c bytes own maxL ret nm T locs cells slots Z h n0) {i : Nat} {x : Value} {l' : Array Slot} (hd : decode bytes pc = .ok (.astore i, 2)) (hv : x.isRef = true) (hl : storeLocals Ls i x = some l') (hp : pc + 2 = pc') (g : Go p e below P T (mkF m pc' l' st)) : Go p e below P T (mkF m pc Ls (x :: st)) := by
  subst hp
  exact Go.to (fun _ q => XS.astore k.1.here k.2.1 rfl (hb k.2.2.2.2.2.1 hd) rfl hv hl q) g
theorem s_iconst (k : K p l e R s m args below meth c bytes own maxL ret nm T locs cells slots Z h n0) {i : Int} {z : Int32} (hd : decode bytes pc = .ok (.iconst i, 1)) (hz : Int32.ofInt i = z) (hp : pc + 1 = pc') (g : Go p e below P T (mkF m pc' Ls (.int z :: st))) : Go p e below P T (mkF m pc Ls st) := by
  subst hp hz
  exact Go.to (fun _ q => XS.iconst k.1.here k.2.1 rfl (hb k.2.2.2.2.2.1 hd) q) g
theorem s_bipush (k : K p l e R s m args below meth c bytes own maxL ret nm T locs cells slots Z h n0) {i : Int} {z : Int32} (hd : decode bytes pc = .ok (.bipush i, 2)) (hz : (Int8.ofInt i).toInt32 = z) (hp : pc + 2 = pc') (g : Go p e below P T (mkF m pc' Ls (.int z :: st))) : Go p e below P T (mkF m pc Ls st) := by
  subst hp hz
  exact Go.to (fun _ q => XS.bipush k.1.here k.2.1 rfl (hb k.2.2.2.2.2.1 hd) q) g
theorem s_sipush (k : K p l e R s m args below meth c bytes own maxL ret nm T locs cells slots Z h n0) {i : Int} {z : Int32} (hd : decode bytes pc = .ok (.sipush i, 3)) (hz : (Int16.ofInt i).toInt32 = z) (hp : pc + 3 = pc') (g : Go p e below P T (mkF m pc' Ls (.int z :: st))) : Go p e below P T (mkF m pc Ls st) := by
  subst hp hz
  exact Go.to (fun _ q => XS.sipush k.1.here k.2.1 rfl (hb k.2.2.2.2.2.1 hd) q) g
theorem s_lconst (k : K p l e R s m args below meth c bytes own maxL ret nm T locs cells slots Z h n0) {i : Fin 2} {z : Int64} (hd : decode bytes pc = .ok (.lconst i, 1)) (hz : Int64.ofNat i = z) (hp : pc + 1 = pc') (g : Go p e below P T (mkF m pc' Ls (.long z :: st))) : Go p e below P T (mkF m pc Ls st) := by
  subst hp hz
  exact Go.to (fun _ q => XT.lconst k.1.here k.2.1 rfl (hb k.2.2.2.2.2.1 hd) q) g
theorem s_null (k : K p l e R s m args below meth c bytes own maxL ret nm T locs cells slots Z h n0)  (hd : decode bytes pc = .ok (.aconst_null, 1))  (hp : pc + 1 = pc') (g : Go p e below P T (mkF m pc' Ls (.null :: st))) : Go p e below P T (mkF m pc Ls st) := by
  subst hp
  exact Go.to (fun _ q => XS.aconstNull k.1.here k.2.1 rfl (hb k.2.2.2.2.2.1 hd)  q) g
theorem s_iadd (k : K p l e R s m args below meth c bytes own maxL ret nm T locs cells slots Z h n0) {x y : Int32} {z : Int32} (hd : decode bytes pc = .ok (.iadd, 1))  (hz : x + y = z) (hp : pc + 1 = pc') (g : Go p e below P T (mkF m pc' Ls (.int z :: st))) : Go p e below P T (mkF m pc Ls (.int y :: .int x :: st)) := by
  subst hp hz
  exact Go.to (fun _ q => XS.iadd k.1.here k.2.1 rfl (hb k.2.2.2.2.2.1 hd) rfl q) g
theorem s_ladd (k : K p l e R s m args below meth c bytes own maxL ret nm T locs cells slots Z h n0) {x y : Int64} {z : Int64} (hd : decode bytes pc = .ok (.ladd, 1))  (hz : x + y = z) (hp : pc + 1 = pc') (g : Go p e below P T (mkF m pc' Ls (.long z :: st))) : Go p e below P T (mkF m pc Ls (.long y :: .long x :: st)) := by
  subst hp hz
  exact Go.to (fun _ q => XT.ladd k.1.here k.2.1 rfl (hb k.2.2.2.2.2.1 hd) rfl q) g
theorem s_isub (k : K p l e R s m args below meth c bytes own maxL ret nm T locs cells slots Z h n0) {x y : Int32} {z : Int32} (hd : decode bytes pc = .ok (.isub, 1))  (hz : x - y = z) (hp : pc + 1 = pc') (g : Go p e below P T (mkF m pc' Ls (.int z :: st))) : Go p e below P T (mkF m pc Ls (.int y :: .int x :: st)) := by
  subst hp hz
  exact Go.to (fun _ q => XS.isub k.1.here k.2.1 rfl (hb k.2.2.2.2.2.1 hd) rfl q) g
theorem s_lsub (k : K p l e R s m args below meth c bytes own maxL ret nm T locs cells slots Z h n0) {x y : Int64} {z : Int64} (hd : decode bytes pc = .ok (.lsub, 1))  (hz : x - y = z) (hp : pc + 1 = pc') (g : Go p e below P T (mkF m pc' Ls (.long z :: st))) : Go p e below P T (mkF m pc Ls (.long y :: .long x :: st)) := by
  subst hp hz
  exact Go.to (fun _ q => XT.lsub k.1.here k.2.1 rfl (hb k.2.2.2.2.2.1 hd) rfl q) g
theorem s_imul (k : K p l e R s m args below meth c bytes own maxL ret nm T locs cells slots Z h n0) {x y : Int32} {z : Int32} (hd : decode bytes pc = .ok (.imul, 1))  (hz : x * y = z) (hp : pc + 1 = pc') (g : Go p e below P T (mkF m pc' Ls (.int z :: st))) : Go p e below P T (mkF m pc Ls (.int y :: .int x :: st)) := by
  subst hp hz
  exact Go.to (fun _ q => XS.imul k.1.here k.2.1 rfl (hb k.2.2.2.2.2.1 hd) rfl q) g
theorem s_lmul (k : K p l e R s m args below meth c bytes own maxL ret nm T locs cells slots Z h n0) {x y : Int64} {z : Int64} (hd : decode bytes pc = .ok (.lmul, 1))  (hz : x * y = z) (hp : pc + 1 = pc') (g : Go p e below P T (mkF m pc' Ls (.long z :: st))) : Go p e below P T (mkF m pc Ls (.long y :: .long x :: st)) := by
  subst hp hz
  exact Go.to (fun _ q => XT.lmul k.1.here k.2.1 rfl (hb k.2.2.2.2.2.1 hd) rfl q) g
theorem s_iand (k : K p l e R s m args below meth c bytes own maxL ret nm T locs cells slots Z h n0) {x y : Int32} {z : Int32} (hd : decode bytes pc = .ok (.iand, 1))  (hz : x &&& y = z) (hp : pc + 1 = pc') (g : Go p e below P T (mkF m pc' Ls (.int z :: st))) : Go p e below P T (mkF m pc Ls (.int y :: .int x :: st)) := by
  subst hp hz
  exact Go.to (fun _ q => XS.iand k.1.here k.2.1 rfl (hb k.2.2.2.2.2.1 hd) rfl q) g
theorem s_land (k : K p l e R s m args below meth c bytes own maxL ret nm T locs cells slots Z h n0) {x y : Int64} {z : Int64} (hd : decode bytes pc = .ok (.land, 1))  (hz : x &&& y = z) (hp : pc + 1 = pc') (g : Go p e below P T (mkF m pc' Ls (.long z :: st))) : Go p e below P T (mkF m pc Ls (.long y :: .long x :: st)) := by
  subst hp hz
  exact Go.to (fun _ q => XT.land k.1.here k.2.1 rfl (hb k.2.2.2.2.2.1 hd) rfl q) g
theorem s_ior (k : K p l e R s m args below meth c bytes own maxL ret nm T locs cells slots Z h n0) {x y : Int32} {z : Int32} (hd : decode bytes pc = .ok (.ior, 1))  (hz : x ||| y = z) (hp : pc + 1 = pc') (g : Go p e below P T (mkF m pc' Ls (.int z :: st))) : Go p e below P T (mkF m pc Ls (.int y :: .int x :: st)) := by
  subst hp hz
  exact Go.to (fun _ q => XT.ior k.1.here k.2.1 rfl (hb k.2.2.2.2.2.1 hd) rfl q) g
theorem s_lor (k : K p l e R s m args below meth c bytes own maxL ret nm T locs cells slots Z h n0) {x y : Int64} {z : Int64} (hd : decode bytes pc = .ok (.lor, 1))  (hz : x ||| y = z) (hp : pc + 1 = pc') (g : Go p e below P T (mkF m pc' Ls (.long z :: st))) : Go p e below P T (mkF m pc Ls (.long y :: .long x :: st)) := by
  subst hp hz
  exact Go.to (fun _ q => XT.lor k.1.here k.2.1 rfl (hb k.2.2.2.2.2.1 hd) rfl q) g
theorem s_ixor (k : K p l e R s m args below meth c bytes own maxL ret nm T locs cells slots Z h n0) {x y : Int32} {z : Int32} (hd : decode bytes pc = .ok (.ixor, 1))  (hz : x ^^^ y = z) (hp : pc + 1 = pc') (g : Go p e below P T (mkF m pc' Ls (.int z :: st))) : Go p e below P T (mkF m pc Ls (.int y :: .int x :: st)) := by
  subst hp hz
  exact Go.to (fun _ q => XT.ixor k.1.here k.2.1 rfl (hb k.2.2.2.2.2.1 hd) rfl q) g
theorem s_lxor (k : K p l e R s m args below meth c bytes own maxL ret nm T locs cells slots Z h n0) {x y : Int64} {z : Int64} (hd : decode bytes pc = .ok (.lxor, 1))  (hz : x ^^^ y = z) (hp : pc + 1 = pc') (g : Go p e below P T (mkF m pc' Ls (.long z :: st))) : Go p e below P T (mkF m pc Ls (.long y :: .long x :: st)) := by
  subst hp hz
  exact Go.to (fun _ q => XT.lxor k.1.here k.2.1 rfl (hb k.2.2.2.2.2.1 hd) rfl q) g
theorem s_iushr (k : K p l e R s m args below meth c bytes own maxL ret nm T locs cells slots Z h n0) {x y : Int32} {z : Int32} (hd : decode bytes pc = .ok (.iushr, 1))  (hz : XT.ushr x y = z) (hp : pc + 1 = pc') (g : Go p e below P T (mkF m pc' Ls (.int z :: st))) : Go p e below P T (mkF m pc Ls (.int y :: .int x :: st)) := by
  subst hp hz
  exact Go.to (fun _ q => XT.iushr k.1.here k.2.1 rfl (hb k.2.2.2.2.2.1 hd) rfl q) g
theorem s_ishr (k : K p l e R s m args below meth c bytes own maxL ret nm T locs cells slots Z h n0) {x y : Int32} {z : Int32} (hd : decode bytes pc = .ok (.ishr, 1))  (hz : x >>> (y &&& 31) = z) (hp : pc + 1 = pc') (g : Go p e below P T (mkF m pc' Ls (.int z :: st))) : Go p e below P T (mkF m pc Ls (.int y :: .int x :: st)) := by
  subst hp hz
  exact Go.to (fun _ q => XT.ishr k.1.here k.2.1 rfl (hb k.2.2.2.2.2.1 hd) rfl q) g
theorem s_ishl (k : K p l e R s m args below meth c bytes own maxL ret nm T locs cells slots Z h n0) {x y : Int32} {z : Int32} (hd : decode bytes pc = .ok (.ishl, 1))  (hz : x <<< (y &&& 31) = z) (hp : pc + 1 = pc') (g : Go p e below P T (mkF m pc' Ls (.int z :: st))) : Go p e below P T (mkF m pc Ls (.int y :: .int x :: st)) := by
  subst hp hz
  exact Go.to (fun _ q => XT.ishl k.1.here k.2.1 rfl (hb k.2.2.2.2.2.1 hd) rfl q) g
theorem s_lushr (k : K p l e R s m args below meth c bytes own maxL ret nm T locs cells slots Z h n0) {x : Int64} {y : Int32} {z : Int64} (hd : decode bytes pc = .ok (.lushr, 1))  (hz : XT.ushrL x y = z) (hp : pc + 1 = pc') (g : Go p e below P T (mkF m pc' Ls (.long z :: st))) : Go p e below P T (mkF m pc Ls (.int y :: .long x :: st)) := by
  subst hp hz
  exact Go.to (fun _ q => XT.lushr k.1.here k.2.1 rfl (hb k.2.2.2.2.2.1 hd) rfl q) g
theorem s_lshl (k : K p l e R s m args below meth c bytes own maxL ret nm T locs cells slots Z h n0) {x : Int64} {y : Int32} {z : Int64} (hd : decode bytes pc = .ok (.lshl, 1))  (hz : x <<< (y.toInt64 &&& 63) = z) (hp : pc + 1 = pc') (g : Go p e below P T (mkF m pc' Ls (.long z :: st))) : Go p e below P T (mkF m pc Ls (.int y :: .long x :: st)) := by
  subst hp hz
  exact Go.to (fun _ q => XT.lshl k.1.here k.2.1 rfl (hb k.2.2.2.2.2.1 hd) rfl q) g
theorem s_lshr (k : K p l e R s m args below meth c bytes own maxL ret nm T locs cells slots Z h n0) {x : Int64} {y : Int32} {z : Int64} (hd : decode bytes pc = .ok (.lshr, 1))  (hz : x >>> (y.toInt64 &&& 63) = z) (hp : pc + 1 = pc') (g : Go p e below P T (mkF m pc' Ls (.long z :: st))) : Go p e below P T (mkF m pc Ls (.int y :: .long x :: st)) := by
  subst hp hz
  exact Go.to (fun _ q => XT.lshr k.1.here k.2.1 rfl (hb k.2.2.2.2.2.1 hd) rfl q) g
theorem s_idiv (k : K p l e R s m args below meth c bytes own maxL ret nm T locs cells slots Z h n0) {x y : Int32} {z : Int32} (hd : decode bytes pc = .ok (.idiv, 1)) (hy : y ≠ 0) (hz : x / y = z) (hp : pc + 1 = pc') (g : Go p e below P T (mkF m pc' Ls (.int z :: st))) : Go p e below P T (mkF m pc Ls (.int y :: .int x :: st)) := by
  subst hp hz
  exact Go.to (fun _ q => XS.idiv k.1.here k.2.1 rfl (hb k.2.2.2.2.2.1 hd) rfl hy q) g
theorem s_ldiv (k : K p l e R s m args below meth c bytes own maxL ret nm T locs cells slots Z h n0) {x y : Int64} {z : Int64} (hd : decode bytes pc = .ok (.ldiv, 1)) (hy : y ≠ 0) (hz : x / y = z) (hp : pc + 1 = pc') (g : Go p e below P T (mkF m pc' Ls (.long z :: st))) : Go p e below P T (mkF m pc Ls (.long y :: .long x :: st)) := by
  subst hp hz
  exact Go.to (fun _ q => XT.ldiv k.1.here k.2.1 rfl (hb k.2.2.2.2.2.1 hd) rfl hy q) g
theorem s_irem (k : K p l e R s m args below meth c bytes own maxL ret nm T locs cells slots Z h n0) {x y : Int32} {z : Int32} (hd : decode bytes pc = .ok (.irem, 1)) (hy : y ≠ 0) (hz : x % y = z) (hp : pc + 1 = pc') (g : Go p e below P T (mkF m pc' Ls (.int z :: st))) : Go p e below P T (mkF m pc Ls (.int y :: .int x :: st)) := by
  subst hp hz
  exact Go.to (fun _ q => iremM k.1 k.2.1 rfl (hb k.2.2.2.2.2.1 hd) rfl hy q) g
theorem s_lrem (k : K p l e R s m args below meth c bytes own maxL ret nm T locs cells slots Z h n0) {x y : Int64} {z : Int64} (hd : decode bytes pc = .ok (.lrem, 1)) (hy : y ≠ 0) (hz : x - x / y * y = z) (hp : pc + 1 = pc') (g : Go p e below P T (mkF m pc' Ls (.long z :: st))) : Go p e below P T (mkF m pc Ls (.long y :: .long x :: st)) := by
  subst hp hz
  exact Go.to (fun _ q => XT.lrem k.1.here k.2.1 rfl (hb k.2.2.2.2.2.1 hd) rfl hy q) g
theorem s_lneg (k : K p l e R s m args below meth c bytes own maxL ret nm T locs cells slots Z h n0) {x : Int64} {z : Int64} (hd : decode bytes pc = .ok (.lneg, 1))  (hz : -x = z) (hp : pc + 1 = pc') (g : Go p e below P T (mkF m pc' Ls (.long z :: st))) : Go p e below P T (mkF m pc Ls (.long x :: st)) := by
  subst hp hz
  exact Go.to (fun _ q => XT.lneg k.1.here k.2.1 rfl (hb k.2.2.2.2.2.1 hd) rfl q) g
theorem s_ineg (k : K p l e R s m args below meth c bytes own maxL ret nm T locs cells slots Z h n0) {x : Int32} {z : Int32} (hd : decode bytes pc = .ok (.ineg, 1))  (hz : -x = z) (hp : pc + 1 = pc') (g : Go p e below P T (mkF m pc' Ls (.int z :: st))) : Go p e below P T (mkF m pc Ls (.int x :: st)) := by
  subst hp hz
  exact Go.to (fun _ q => XS.ineg k.1.here k.2.1 rfl (hb k.2.2.2.2.2.1 hd) rfl q) g
theorem s_i2l (k : K p l e R s m args below meth c bytes own maxL ret nm T locs cells slots Z h n0) {x : Int32} {z : Int64} (hd : decode bytes pc = .ok (.i2l, 1))  (hz : x.toInt64 = z) (hp : pc + 1 = pc') (g : Go p e below P T (mkF m pc' Ls (.long z :: st))) : Go p e below P T (mkF m pc Ls (.int x :: st)) := by
  subst hp hz
  exact Go.to (fun _ q => XT.i2l k.1.here k.2.1 rfl (hb k.2.2.2.2.2.1 hd) rfl q) g
theorem s_l2i (k : K p l e R s m args below meth c bytes own maxL ret nm T locs cells slots Z h n0) {x : Int64} {z : Int32} (hd : decode bytes pc = .ok (.l2i, 1))  (hz : x.toInt32 = z) (hp : pc + 1 = pc') (g : Go p e below P T (mkF m pc' Ls (.int z :: st))) : Go p e below P T (mkF m pc Ls (.long x :: st)) := by
  subst hp hz
  exact Go.to (fun _ q => XT.l2i k.1.here k.2.1 rfl (hb k.2.2.2.2.2.1 hd) rfl q) g
theorem s_i2b (k : K p l e R s m args below meth c bytes own maxL ret nm T locs cells slots Z h n0) {x : Int32} {z : Int32} (hd : decode bytes pc = .ok (.i2b, 1))  (hz : x.toInt8.toInt32 = z) (hp : pc + 1 = pc') (g : Go p e below P T (mkF m pc' Ls (.int z :: st))) : Go p e below P T (mkF m pc Ls (.int x :: st)) := by
  subst hp hz
  exact Go.to (fun _ q => XT.i2b k.1.here k.2.1 rfl (hb k.2.2.2.2.2.1 hd) rfl q) g
theorem s_i2c (k : K p l e R s m args below meth c bytes own maxL ret nm T locs cells slots Z h n0) {x : Int32} {z : Int32} (hd : decode bytes pc = .ok (.i2c, 1))  (hz : x.toUInt32.toUInt16.toUInt32.toInt32 = z) (hp : pc + 1 = pc') (g : Go p e below P T (mkF m pc' Ls (.int z :: st))) : Go p e below P T (mkF m pc Ls (.int x :: st)) := by
  subst hp hz
  exact Go.to (fun _ q => XT.i2c k.1.here k.2.1 rfl (hb k.2.2.2.2.2.1 hd) rfl q) g
theorem s_dup (k : K p l e R s m args below meth c bytes own maxL ret nm T locs cells slots Z h n0) {x : Value} (hd : decode bytes pc = .ok (.dup, 1)) (hc : x.category = 1) (hp : pc + 1 = pc') (g : Go p e below P T (mkF m pc' Ls (x :: x :: st))) : Go p e below P T (mkF m pc Ls (x :: st)) := by
  subst hp
  exact Go.to (fun _ q => XS.dup k.1.here k.2.1 rfl (hb k.2.2.2.2.2.1 hd) rfl hc q) g
theorem s_pop (k : K p l e R s m args below meth c bytes own maxL ret nm T locs cells slots Z h n0) {x : Value} (hd : decode bytes pc = .ok (.pop, 1)) (hc : x.category = 1) (hp : pc + 1 = pc') (g : Go p e below P T (mkF m pc' Ls st)) : Go p e below P T (mkF m pc Ls (x :: st)) := by
  subst hp
  exact Go.to (fun _ q => XT.pop k.1.here k.2.1 rfl (hb k.2.2.2.2.2.1 hd) rfl hc q) g
theorem s_dupx1 (k : K p l e R s m args below meth c bytes own maxL ret nm T locs cells slots Z h n0) {x y : Value} (hd : decode bytes pc = .ok (.dup_x1, 1)) (hc : x.category = 1) (hc' : y.category = 1) (hp : pc + 1 = pc') (g : Go p e below P T (mkF m pc' Ls (x :: y :: x :: st))) : Go p e below P T (mkF m pc Ls (x :: y :: st)) := by
  subst hp
  exact Go.to (fun _ q => XT.dupX1 k.1.here k.2.1 rfl (hb k.2.2.2.2.2.1 hd) rfl hc hc' q) g
theorem s_dup2 (k : K p l e R s m args below meth c bytes own maxL ret nm T locs cells slots Z h n0) {x y : Value} (hd : decode bytes pc = .ok (.dup2, 1)) (hc : x.category = 1) (hc' : y.category = 1) (hp : pc + 1 = pc') (g : Go p e below P T (mkF m pc' Ls (x :: y :: x :: y :: st))) : Go p e below P T (mkF m pc Ls (x :: y :: st)) := by
  subst hp
  exact Go.to (fun _ q => XT.dup2 k.1.here k.2.1 rfl (hb k.2.2.2.2.2.1 hd) rfl hc hc' q) g
theorem s_iinc (k : K p l e R s m args below meth c bytes own maxL ret nm T locs cells slots Z h n0) {i : Nat} {d : Int} {x z : Int32} {l' : Array Slot} (hd : decode bytes pc = .ok (.iinc i d, 3)) (hl : Ls[i]? = some (.val (.int x))) (hz : x + Int32.ofInt d = z) (hl' : storeLocals Ls i (.int z) = some l') (hp : pc + 3 = pc') (g : Go p e below P T (mkF m pc' l' st)) : Go p e below P T (mkF m pc Ls st) := by
  subst hp
  exact Go.to (fun _ q => XS.iinc k.1.here k.2.1 rfl (hb k.2.2.2.2.2.1 hd) hl (hz ▸ hl') q) g
theorem s_goto (k : K p l e R s m args below meth c bytes own maxL ret nm T locs cells slots Z h n0) {o : Int} (hd : decode bytes pc = .ok (.goto o, 3)) (ho : 0 ≤ (pc : Int) + o) (hp : ((pc : Int) + o).toNat = pc') (g : Go p e below P T (mkF m pc' Ls st)) : Go p e below P T (mkF m pc Ls st) :=
  Go.to (fun _ q => XS.goto k.1.here k.2.1 rfl rfl (hb k.2.2.2.2.2.1 hd) ho hp q) g
theorem s_icmp_eq (k : K p l e R s m args below meth c bytes own maxL ret nm T locs cells slots Z h n0) {x y : Int32} {o : Int} (hd : decode bytes pc = .ok (.if_icmp .eq o, 3)) (ho : 0 ≤ (pc : Int) + o) (hp : ((pc : Int) + o).toNat = pc') (h3 : pc + 3 = pc3) (gt : x = y → Go p e below P T (mkF m pc' Ls st)) (gf : ¬ (x = y) → Go p e below P T (mkF m pc3 Ls st)) : Go p e below P T (mkF m pc Ls (.int y :: .int x :: st)) := by
  subst h3
  by_cases hc : x = y
  · exact Go.to (fun _ q => XS.icmpYes k.1.here k.2.1 rfl rfl (hb k.2.2.2.2.2.1 hd) rfl (teq hc).1 ho hp q) (gt hc)
  · exact Go.to (fun _ q => XS.icmpNo k.1.here k.2.1 rfl (hb k.2.2.2.2.2.1 hd) rfl (feq hc).1 q) (gf hc)
theorem s_if_eq (k : K p l e R s m args below meth c bytes own maxL ret nm T locs cells slots Z h n0) {x : Int32} {o : Int} (hd : decode bytes pc = .ok (.ifCond .eq o, 3)) (ho : 0 ≤ (pc : Int) + o) (hp : ((pc : Int) + o).toNat = pc') (h3 : pc + 3 = pc3) (gt : x = 0 → Go p e below P T (mkF m pc' Ls st)) (gf : ¬ (x = 0) → Go p e below P T (mkF m pc3 Ls st)) : Go p e below P T (mkF m pc Ls (.int x :: st)) := by
  subst h3
  by_cases hc : x = 0
  · exact Go.to (fun _ q => XS.ifYes k.1.here k.2.1 rfl rfl (hb k.2.2.2.2.2.1 hd) rfl ((if0 _ _).trans (teq hc).1) ho hp q) (gt hc)
  · exact Go.to (fun _ q => XS.ifNo k.1.here k.2.1 rfl (hb k.2.2.2.2.2.1 hd) rfl ((if0 _ _).trans (feq hc).1) q) (gf hc)
theorem s_icmp_ne (k : K p l e R s m args below meth c bytes own maxL ret nm T locs cells slots Z h n0) {x y : Int32} {o : Int} (hd : decode bytes pc = .ok (.if_icmp .ne o, 3)) (ho : 0 ≤ (pc : Int) + o) (hp : ((pc : Int) + o).toNat = pc') (h3 : pc + 3 = pc3) (gt : x = y → Go p e below P T (mkF m pc3 Ls st)) (gf : ¬ (x = y) → Go p e below P T (mkF m pc' Ls st)) : Go p e below P T (mkF m pc Ls (.int y :: .int x :: st)) := by
  subst h3
  by_cases hc : x = y
  · exact Go.to (fun _ q => XS.icmpNo k.1.here k.2.1 rfl (hb k.2.2.2.2.2.1 hd) rfl (teq hc).2 q) (gt hc)
  · exact Go.to (fun _ q => XS.icmpYes k.1.here k.2.1 rfl rfl (hb k.2.2.2.2.2.1 hd) rfl (feq hc).2 ho hp q) (gf hc)
theorem s_if_ne (k : K p l e R s m args below meth c bytes own maxL ret nm T locs cells slots Z h n0) {x : Int32} {o : Int} (hd : decode bytes pc = .ok (.ifCond .ne o, 3)) (ho : 0 ≤ (pc : Int) + o) (hp : ((pc : Int) + o).toNat = pc') (h3 : pc + 3 = pc3) (gt : x = 0 → Go p e below P T (mkF m pc3 Ls st)) (gf : ¬ (x = 0) → Go p e below P T (mkF m pc' Ls st)) : Go p e below P T (mkF m pc Ls (.int x :: st)) := by
  subst h3
  by_cases hc : x = 0
  · exact Go.to (fun _ q => XS.ifNo k.1.here k.2.1 rfl (hb k.2.2.2.2.2.1 hd) rfl ((if0 _ _).trans (teq hc).2) q) (gt hc)
  · exact Go.to (fun _ q => XS.ifYes k.1.here k.2.1 rfl rfl (hb k.2.2.2.2.2.1 hd) rfl ((if0 _ _).trans (feq hc).2) ho hp q) (gf hc)
theorem s_icmp_lt (k : K p l e R s m args below meth c bytes own maxL ret nm T locs cells slots Z h n0) {x y : Int32} {o : Int} (hd : decode bytes pc = .ok (.if_icmp .lt o, 3)) (ho : 0 ≤ (pc : Int) + o) (hp : ((pc : Int) + o).toNat = pc') (h3 : pc + 3 = pc3) (gt : x < y → Go p e below P T (mkF m pc' Ls st)) (gf : ¬ (x < y) → Go p e below P T (mkF m pc3 Ls st)) : Go p e below P T (mkF m pc Ls (.int y :: .int x :: st)) := by
  subst h3
  by_cases hc : x < y
  · exact Go.to (fun _ q => XS.icmpYes k.1.here k.2.1 rfl rfl (hb k.2.2.2.2.2.1 hd) rfl (tlt hc).1 ho hp q) (gt hc)
  · exact Go.to (fun _ q => XS.icmpNo k.1.here k.2.1 rfl (hb k.2.2.2.2.2.1 hd) rfl (flt hc).1 q) (gf hc)
theorem s_if_lt (k : K p l e R s m args below meth c bytes own maxL ret nm T locs cells slots Z h n0) {x : Int32} {o : Int} (hd : decode bytes pc = .ok (.ifCond .lt o, 3)) (ho : 0 ≤ (pc : Int) + o) (hp : ((pc : Int) + o).toNat = pc') (h3 : pc + 3 = pc3) (gt : x < 0 → Go p e below P T (mkF m pc' Ls st)) (gf : ¬ (x < 0) → Go p e below P T (mkF m pc3 Ls st)) : Go p e below P T (mkF m pc Ls (.int x :: st)) := by
  subst h3
  by_cases hc : x < 0
  · exact Go.to (fun _ q => XS.ifYes k.1.here k.2.1 rfl rfl (hb k.2.2.2.2.2.1 hd) rfl ((if0 _ _).trans (tlt hc).1) ho hp q) (gt hc)
  · exact Go.to (fun _ q => XS.ifNo k.1.here k.2.1 rfl (hb k.2.2.2.2.2.1 hd) rfl ((if0 _ _).trans (flt hc).1) q) (gf hc)
theorem s_icmp_ge (k : K p l e R s m args below meth c bytes own maxL ret nm T locs cells slots Z h n0) {x y : Int32} {o : Int} (hd : decode bytes pc = .ok (.if_icmp .ge o, 3)) (ho : 0 ≤ (pc : Int) + o) (hp : ((pc : Int) + o).toNat = pc') (h3 : pc + 3 = pc3) (gt : x < y → Go p e below P T (mkF m pc3 Ls st)) (gf : ¬ (x < y) → Go p e below P T (mkF m pc' Ls st)) : Go p e below P T (mkF m pc Ls (.int y :: .int x :: st)) := by
  subst h3
  by_cases hc : x < y
  · exact Go.to (fun _ q => XS.icmpNo k.1.here k.2.1 rfl (hb k.2.2.2.2.2.1 hd) rfl (tlt hc).2.1 q) (gt hc)
  · exact Go.to (fun _ q => XS.icmpYes k.1.here k.2.1 rfl rfl (hb k.2.2.2.2.2.1 hd) rfl (flt hc).2.1 ho hp q) (gf hc)
theorem s_if_ge (k : K p l e R s m args below meth c bytes own maxL ret nm T locs cells slots Z h n0) {x : Int32} {o : Int} (hd : decode bytes pc = .ok (.ifCond .ge o, 3)) (ho : 0 ≤ (pc : Int) + o) (hp : ((pc : Int) + o).toNat = pc') (h3 : pc + 3 = pc3) (gt : x < 0 → Go p e below P T (mkF m pc3 Ls st)) (gf : ¬ (x < 0) → Go p e below P T (mkF m pc' Ls st)) : Go p e below P T (mkF m pc Ls (.int x :: st)) := by
  subst h3
  by_cases hc : x < 0
  · exact Go.to (fun _ q => XS.ifNo k.1.here k.2.1 rfl (hb k.2.2.2.2.2.1 hd) rfl ((if0 _ _).trans (tlt hc).2.1) q) (gt hc)
  · exact Go.to (fun _ q => XS.ifYes k.1.here k.2.1 rfl rfl (hb k.2.2.2.2.2.1 hd) rfl ((if0 _ _).trans (flt hc).2.1) ho hp q) (gf hc)
theorem s_icmp_gt (k : K p l e R s m args below meth c bytes own maxL ret nm T locs cells slots Z h n0) {x y : Int32} {o : Int} (hd : decode bytes pc = .ok (.if_icmp .gt o, 3)) (ho : 0 ≤ (pc : Int) + o) (hp : ((pc : Int) + o).toNat = pc') (h3 : pc + 3 = pc3) (gt : y < x → Go p e below P T (mkF m pc' Ls st)) (gf : ¬ (y < x) → Go p e below P T (mkF m pc3 Ls st)) : Go p e below P T (mkF m pc Ls (.int y :: .int x :: st)) := by
  subst h3
  by_cases hc : y < x
  · exact Go.to (fun _ q => XS.icmpYes k.1.here k.2.1 rfl rfl (hb k.2.2.2.2.2.1 hd) rfl (tlt hc).2.2.1 ho hp q) (gt hc)
  · exact Go.to (fun _ q => XS.icmpNo k.1.here k.2.1 rfl (hb k.2.2.2.2.2.1 hd) rfl (flt hc).2.2.1 q) (gf hc)
theorem s_if_gt (k : K p l e R s m args below meth c bytes own maxL ret nm T locs cells slots Z h n0) {x : Int32} {o : Int} (hd : decode bytes pc = .ok (.ifCond .gt o, 3)) (ho : 0 ≤ (pc : Int) + o) (hp : ((pc : Int) + o).toNat = pc') (h3 : pc + 3 = pc3) (gt : 0 < x → Go p e below P T (mkF m pc' Ls st)) (gf : ¬ (0 < x) → Go p e below P T (mkF m pc3 Ls st)) : Go p e below P T (mkF m pc Ls (.int x :: st)) := by
  subst h3
  by_cases hc : 0 < x
  · exact Go.to (fun _ q => XS.ifYes k.1.here k.2.1 rfl rfl (hb k.2.2.2.2.2.1 hd) rfl ((if0 _ _).trans (tlt hc).2.2.1) ho hp q) (gt hc)
  · exact Go.to (fun _ q => XS.ifNo k.1.here k.2.1 rfl (hb k.2.2.2.2.2.1 hd) rfl ((if0 _ _).trans (flt hc).2.2.1) q) (gf hc)
theorem s_icmp_le (k : K p l e R s m args below meth c bytes own maxL ret nm T locs cells slots Z h n0) {x y : Int32} {o : Int} (hd : decode bytes pc = .ok (.if_icmp .le o, 3)) (ho : 0 ≤ (pc : Int) + o) (hp : ((pc : Int) + o).toNat = pc') (h3 : pc + 3 = pc3) (gt : y < x → Go p e below P T (mkF m pc3 Ls st)) (gf : ¬ (y < x) → Go p e below P T (mkF m pc' Ls st)) : Go p e below P T (mkF m pc Ls (.int y :: .int x :: st)) := by
  subst h3
  by_cases hc : y < x
  · exact Go.to (fun _ q => XS.icmpNo k.1.here k.2.1 rfl (hb k.2.2.2.2.2.1 hd) rfl (tlt hc).2.2.2 q) (gt hc)
  · exact Go.to (fun _ q => XS.icmpYes k.1.here k.2.1 rfl rfl (hb k.2.2.2.2.2.1 hd) rfl (flt hc).2.2.2 ho hp q) (gf hc)
theorem s_if_le (k : K p l e R s m args below meth c bytes own maxL ret nm T locs cells slots Z h n0) {x : Int32} {o : Int} (hd : decode bytes pc = .ok (.ifCond .le o, 3)) (ho : 0 ≤ (pc : Int) + o) (hp : ((pc : Int) + o).toNat = pc') (h3 : pc + 3 = pc3) (gt : 0 < x → Go p e below P T (mkF m pc3 Ls st)) (gf : ¬ (0 < x) → Go p e below P T (mkF m pc' Ls st)) : Go p e below P T (mkF m pc Ls (.int x :: st)) := by
  subst h3
  by_cases hc : 0 < x
  · exact Go.to (fun _ q => XS.ifNo k.1.here k.2.1 rfl (hb k.2.2.2.2.2.1 hd) rfl ((if0 _ _).trans (tlt hc).2.2.2) q) (gt hc)
  · exact Go.to (fun _ q => XS.ifYes k.1.here k.2.1 rfl rfl (hb k.2.2.2.2.2.1 hd) rfl ((if0 _ _).trans (flt hc).2.2.2) ho hp q) (gf hc)
theorem cmpL_lt (x y : Int64) : XT.cmpL x y < 0 ↔ x < y := by unfold XT.cmpL; split <;> (try split) <;> simp_all [Int64.lt_iff_toInt_lt, ← Int64.toInt_inj] <;> omega
theorem cmpL_gt (x y : Int64) : 0 < XT.cmpL x y ↔ y < x := by unfold XT.cmpL; split <;> (try split) <;> simp_all [Int64.lt_iff_toInt_lt, ← Int64.toInt_inj] <;> omega
theorem cmpL_eq (x y : Int64) : XT.cmpL x y = 0 ↔ x = y := by unfold XT.cmpL; split <;> (try split) <;> simp_all [Int64.lt_iff_toInt_lt, ← Int64.toInt_inj] <;> omega
theorem s_lcmp_eq (k : K p l e R s m args below meth c bytes own maxL ret nm T locs cells slots Z h n0) {x y : Int64} {o : Int} {pc1 : Nat} (hd1 : decode bytes pc = .ok (.lcmp, 1)) (h1 : pc + 1 = pc1) (hd : decode bytes pc1 = .ok (.ifCond .eq o, 3)) (ho : 0 ≤ (pc1 : Int) + o) (hp : ((pc1 : Int) + o).toNat = pc') (h3 : pc1 + 3 = pc3) (gt : x = y → Go p e below P T (mkF m pc' Ls st)) (gf : ¬ (x = y) → Go p e below P T (mkF m pc3 Ls st)) : Go p e below P T (mkF m pc Ls (.long y :: .long x :: st)) := by
  subst h1
  refine Go.to (fun _ q => XT.lcmp k.1.here k.2.1 rfl (hb k.2.2.2.2.2.1 hd1) rfl q) ?_
  exact s_if_eq k hd ho hp h3 (fun q => gt ((cmpL_eq x y).mp q)) (fun q => gf fun z => q ((cmpL_eq x y).mpr z))
theorem s_lcmp_ne (k : K p l e R s m args below meth c bytes own maxL ret nm T locs cells slots Z h n0) {x y : Int64} {o : Int} {pc1 : Nat} (hd1 : decode bytes pc = .ok (.lcmp, 1)) (h1 : pc + 1 = pc1) (hd : decode bytes pc1 = .ok (.ifCond .ne o, 3)) (ho : 0 ≤ (pc1 : Int) + o) (hp : ((pc1 : Int) + o).toNat = pc') (h3 : pc1 + 3 = pc3) (gt : x = y → Go p e below P T (mkF m pc3 Ls st)) (gf : ¬ (x = y) → Go p e below P T (mkF m pc' Ls st)) : Go p e below P T (mkF m pc Ls (.long y :: .long x :: st)) := by
  subst h1
  refine Go.to (fun _ q => XT.lcmp k.1.here k.2.1 rfl (hb k.2.2.2.2.2.1 hd1) rfl q) ?_
  exact s_if_ne k hd ho hp h3 (fun q => gt ((cmpL_eq x y).mp q)) (fun q => gf fun z => q ((cmpL_eq x y).mpr z))
theorem s_lcmp_lt (k : K p l e R s m args below meth c bytes own maxL ret nm T locs cells slots Z h n0) {x y : Int64} {o : Int} {pc1 : Nat} (hd1 : decode bytes pc = .ok (.lcmp, 1)) (h1 : pc + 1 = pc1) (hd : decode bytes pc1 = .ok (.ifCond .lt o, 3)) (ho : 0 ≤ (pc1 : Int) + o) (hp : ((pc1 : Int) + o).toNat = pc') (h3 : pc1 + 3 = pc3) (gt : x < y → Go p e below P T (mkF m pc' Ls st)) (gf : ¬ (x < y) → Go p e below P T (mkF m pc3 Ls st)) : Go p e below P T (mkF m pc Ls (.long y :: .long x :: st)) := by
  subst h1
  refine Go.to (fun _ q => XT.lcmp k.1.here k.2.1 rfl (hb k.2.2.2.2.2.1 hd1) rfl q) ?_
  exact s_if_lt k hd ho hp h3 (fun q => gt ((cmpL_lt x y).mp q)) (fun q => gf fun z => q ((cmpL_lt x y).mpr z))
theorem s_lcmp_ge (k : K p l e R s m args below meth c bytes own maxL ret nm T locs cells slots Z h n0) {x y : Int64} {o : Int} {pc1 : Nat} (hd1 : decode bytes pc = .ok (.lcmp, 1)) (h1 : pc + 1 = pc1) (hd : decode bytes pc1 = .ok (.ifCond .ge o, 3)) (ho : 0 ≤ (pc1 : Int) + o) (hp : ((pc1 : Int) + o).toNat = pc') (h3 : pc1 + 3 = pc3) (gt : x < y → Go p e below P T (mkF m pc3 Ls st)) (gf : ¬ (x < y) → Go p e below P T (mkF m pc' Ls st)) : Go p e below P T (mkF m pc Ls (.long y :: .long x :: st)) := by
  subst h1
  refine Go.to (fun _ q => XT.lcmp k.1.here k.2.1 rfl (hb k.2.2.2.2.2.1 hd1) rfl q) ?_
  exact s_if_ge k hd ho hp h3 (fun q => gt ((cmpL_lt x y).mp q)) (fun q => gf fun z => q ((cmpL_lt x y).mpr z))
theorem s_lcmp_gt (k : K p l e R s m args below meth c bytes own maxL ret nm T locs cells slots Z h n0) {x y : Int64} {o : Int} {pc1 : Nat} (hd1 : decode bytes pc = .ok (.lcmp, 1)) (h1 : pc + 1 = pc1) (hd : decode bytes pc1 = .ok (.ifCond .gt o, 3)) (ho : 0 ≤ (pc1 : Int) + o) (hp : ((pc1 : Int) + o).toNat = pc') (h3 : pc1 + 3 = pc3) (gt : y < x → Go p e below P T (mkF m pc' Ls st)) (gf : ¬ (y < x) → Go p e below P T (mkF m pc3 Ls st)) : Go p e below P T (mkF m pc Ls (.long y :: .long x :: st)) := by
  subst h1
  refine Go.to (fun _ q => XT.lcmp k.1.here k.2.1 rfl (hb k.2.2.2.2.2.1 hd1) rfl q) ?_
  exact s_if_gt k hd ho hp h3 (fun q => gt ((cmpL_gt x y).mp q)) (fun q => gf fun z => q ((cmpL_gt x y).mpr z))
theorem s_lcmp_le (k : K p l e R s m args below meth c bytes own maxL ret nm T locs cells slots Z h n0) {x y : Int64} {o : Int} {pc1 : Nat} (hd1 : decode bytes pc = .ok (.lcmp, 1)) (h1 : pc + 1 = pc1) (hd : decode bytes pc1 = .ok (.ifCond .le o, 3)) (ho : 0 ≤ (pc1 : Int) + o) (hp : ((pc1 : Int) + o).toNat = pc') (h3 : pc1 + 3 = pc3) (gt : y < x → Go p e below P T (mkF m pc3 Ls st)) (gf : ¬ (y < x) → Go p e below P T (mkF m pc' Ls st)) : Go p e below P T (mkF m pc Ls (.long y :: .long x :: st)) := by
  subst h1
  refine Go.to (fun _ q => XT.lcmp k.1.here k.2.1 rfl (hb k.2.2.2.2.2.1 hd1) rfl q) ?_
  exact s_if_le k hd ho hp h3 (fun q => gt ((cmpL_gt x y).mp q)) (fun q => gf fun z => q ((cmpL_gt x y).mpr z))
theorem s_ldcI (k : K p l e R s m args below meth c bytes own maxL ret nm T locs cells slots Z h n0) {index : Nat} {v : Int32} (hd : decode bytes pc = .ok (.ldc index, 2)) (w : (Cond.constant own index v).before a0 Z = true) (hp : pc + 2 = pc') (g : Go p e below P T (mkF m pc' Ls (.int v :: st))) : Go p e below P T (mkF m pc Ls st) := by
  subst hp
  exact Go.to (k.1.ldcInt k.2.1 k.2.2.2.2.2.2.1 (mvT k.2.2.1 w) (g := mkF m pc Ls st) rfl (hb k.2.2.2.2.2.1 hd)) g
theorem s_ldcwI (k : K p l e R s m args below meth c bytes own maxL ret nm T locs cells slots Z h n0) {index : Nat} {v : Int32} (hd : decode bytes pc = .ok (.ldc_w index, 3)) (w : (Cond.constant own index v).before a0 Z = true) (hp : pc + 3 = pc') (g : Go p e below P T (mkF m pc' Ls (.int v :: st))) : Go p e below P T (mkF m pc Ls st) := by
  subst hp
  exact Go.to (k.1.ldcwInt k.2.1 k.2.2.2.2.2.2.1 (mvT k.2.2.1 w) (g := mkF m pc Ls st) rfl (hb k.2.2.2.2.2.1 hd)) g
theorem s_ldcL (k : K p l e R s m args below meth c bytes own maxL ret nm T locs cells slots Z h n0) {index : Nat} {v : Int64} (hd : decode bytes pc = .ok (.ldc2_w index, 3)) (w : (Cond.constantLong own index v).before a0 Z = true) (hp : pc + 3 = pc') (g : Go p e below P T (mkF m pc' Ls (.long v :: st))) : Go p e below P T (mkF m pc Ls st) := by
  subst hp
  exact Go.to (k.1.ldc2Long k.2.1 k.2.2.2.2.2.2.1 (mvT k.2.2.1 w) (g := mkF m pc Ls st) rfl (hb k.2.2.2.2.2.1 hd)) g
/-- a null test -/
theorem s_nullY (k : K p l e R s m args below meth c bytes own maxL ret nm T locs cells slots Z h n0) {o : Int} (hd : decode bytes pc = .ok (.ifnull o, 3)) (ho : 0 ≤ (pc : Int) + o) (hp : ((pc : Int) + o).toNat = pc') (g : Go p e below P T (mkF m pc' Ls st)) : Go p e below P T (mkF m pc Ls (.null :: st)) :=
  Go.to (fun _ q => XS.ifnullYes k.1.here k.2.1 rfl rfl (hb k.2.2.2.2.2.1 hd) rfl ho hp q) g
theorem s_nullN (k : K p l e R s m args below meth c bytes own maxL ret nm T locs cells slots Z h n0) {o : Int} {b : Addr} (hd : decode bytes pc = .ok (.ifnull o, 3)) (hp : pc + 3 = pc') (g : Go p e below P T (mkF m pc' Ls st)) : Go p e below P T (mkF m pc Ls (.ref b :: st)) := by
  subst hp
  exact Go.to (fun _ q => XS.ifnullNo k.1.here k.2.1 rfl (hb k.2.2.2.2.2.1 hd) rfl q) g
theorem s_nonnullY (k : K p l e R s m args below meth c bytes own maxL ret nm T locs cells slots Z h n0) {o : Int} {b : Addr} (hd : decode bytes pc = .ok (.ifnonnull o, 3)) (ho : 0 ≤ (pc : Int) + o) (hp : ((pc : Int) + o).toNat = pc') (g : Go p e below P T (mkF m pc' Ls st)) : Go p e below P T (mkF m pc Ls (.ref b :: st)) :=
  Go.to (fun _ q => XT.ifnonnullYes k.1.here k.2.1 rfl rfl (hb k.2.2.2.2.2.1 hd) rfl ho hp q) g
theorem s_nonnullN (k : K p l e R s m args below meth c bytes own maxL ret nm T locs cells slots Z h n0) {o : Int} (hd : decode bytes pc = .ok (.ifnonnull o, 3)) (hp : pc + 3 = pc') (g : Go p e below P T (mkF m pc' Ls st)) : Go p e below P T (mkF m pc Ls (.null :: st)) := by
  subst hp
  exact Go.to (fun _ q => XT.ifnonnullNo k.1.here k.2.1 rfl (hb k.2.2.2.2.2.1 hd) rfl q) g
theorem s_acmp_ne (k : K p l e R s m args below meth c bytes own maxL ret nm T locs cells slots Z h n0) {x y : Value} {o : Int} (hd : decode bytes pc = .ok (.if_acmp .ne o, 3)) (hx : x.isRef = true) (hy : y.isRef = true) (ho : 0 ≤ (pc : Int) + o) (hp : ((pc : Int) + o).toNat = pc') (h3 : pc + 3 = pc3) (gt : x = y → Go p e below P T (mkF m pc3 Ls st)) (gf : ¬ (x = y) → Go p e below P T (mkF m pc' Ls st)) : Go p e below P T (mkF m pc Ls (y :: x :: st)) := by
  by_cases hc : x = y
  · exact Go.to (fun _ q => Jvm.RoadKit.acmp (g := mkF m pc Ls (y :: x :: st)) k.1 k.2.1 rfl hx hy (pc' := pc3) (same := true) rfl (hb k.2.2.2.2.2.1 hd) rfl (decide_eq_true hc) ho h3.symm q) (gt hc)
  · exact Go.to (fun _ q => Jvm.RoadKit.acmp (g := mkF m pc Ls (y :: x :: st)) k.1 k.2.1 rfl hx hy (pc' := pc') (same := false) rfl (hb k.2.2.2.2.2.1 hd) rfl (decide_eq_false hc) ho hp.symm q) (gf hc)
/-- getfield -/
theorem s_get (k : K p l e R s m args below meth c bytes own maxL ret nm T locs cells slots Z h n0) {R0 O n d host : String} {index : Nat} {a : Addr} {v : Value} (hd : decode bytes pc = .ok (.getfield index, 3)) (w : (Cond.fieldLink own index R0 n d).before a0 Z = true ∨ (Cond.fieldLinkNest own index R0 n d host).before a0 Z = true) (via : Via Z R0 O n d) (F : Fld Z h a O n d v) (hp : pc + 3 = pc')
    (g : ∀ T', K p l e R s m args below meth c bytes own maxL ret nm T' locs cells slots Z h n0 → Go p e below P T' (mkF m pc' Ls (v :: st))) : Go p e below P T (mkF m pc Ls (.ref a :: st)) := by
  subst hp
  obtain ⟨T', X', e', q⟩ := getF k.1 k.2.1 k.2.2.1 k.2.2.2.2.2.2.1 w via k.2.2.2.1 F (g := mkF m pc Ls (.ref a :: st)) rfl rfl (hb k.2.2.2.2.2.1 hd)
  exact Go.to q (g T' (k_hp k X' e' k.2.2.2.2.1))
/-- putfield -/
theorem s_put (k : K p l e R s m args below meth c bytes own maxL ret nm T locs cells slots Z h n0) {R0 O n d host C : String} {index kk : Nat} {ty : FieldType} {a : Addr} {v old : Value} (hd : decode bytes pc = .ok (.putfield index, 3)) (w : (Cond.fieldLink own index R0 n d).before a0 Z = true ∨ (Cond.fieldLinkNest own index R0 n d host).before a0 Z = true) (via : Via Z R0 O n d) (F : Fld Z h a O n d old) (E : Exa Z h a C) (L : (Cond.lays C O n d).before a0 Z = true ∨ ((Cond.laysFinal C O n d).before a0 Z = true ∧ own = O ∧ nm = "<init>")) (wi : (Cond.instantiable C kk).before a0 Z = true)
    (hty : parseFieldDescriptor d = some ty) (hn : narrow ty v = v) (hf : fits ty v = true) (ha : n0 ≤ a) (hp : pc + 3 = pc')
    (g : ∀ T' h' L', K p l e R s m args below meth c bytes own maxL ret nm T' L' cells slots Z h' n0 → Wr h h' a (Jvm.RoadKit.slotOf Z O n d) v → Go p e below P T' (mkF m pc' Ls st)) : Go p e below P T (mkF m pc Ls (v :: .ref a :: st)) := by
  subst hp
  obtain ⟨T', h', X', e', W, q⟩ := putF k.1 k.2.1 k.2.2.1 k.2.2.2.2.2.2.1 w via k.2.2.2.1 F E (L.imp id fun z => ⟨z.1, z.2.1, k.2.2.2.2.2.2.2.2.2.1.trans z.2.2⟩) wi hty hn hf (g := mkF m pc Ls (v :: .ref a :: st)) rfl rfl (hb k.2.2.2.2.2.1 hd)
  exact Go.to q (g T' h' _ (k_hp k X' e' (Fr.snoc X' k.2.2.2.2.1 ha)) W)
/-- getfield by an entry that is resolved -/
theorem ready_of (k : K p l e R s m args below meth c bytes own maxL ret nm T locs cells slots Z h n0) {R0 O n d : String} {index : Nat} (w : (Cond.fieldRef own index R0 n d).before a0 Z = true) (via : Via Z R0 O n d) {cf i : Nat} {kk : Class} {f : Field} (h2 : Z.fieldFound? O n d = some (cf, kk, i, f)) : T.vm.fieldReady m.cls index cf f := by
  have hU : Z.Warmed39 T.vm := wtrans k.2.2.1 k.1.warmed
  have hw := Cond.fieldRef_warmed39 hU w
  have hcur : (Z.setVm T.vm).vm.findClass own = some m.cls := by
    show T.vm.findClass own = _
    rw [k.1.warmed.alike.findClass]; exact k.2.2.2.2.2.2.1
  obtain ⟨c1, k1, i1, f1, hi1, hr1⟩ := Cond.fieldRef_spec hcur hw
  obtain ⟨k', hi', -⟩ := State.fieldFound?_setVm (s := Z) hU.alike (via _ h2)
  cases hi1.symm.trans hi'
  exact hr1
theorem s_getR (k : K p l e R s m args below meth c bytes own maxL ret nm T locs cells slots Z h n0) {R0 O n d : String} {index : Nat} {a : Addr} {v : Value} (hd : decode bytes pc = .ok (.getfield index, 3)) (w : (Cond.fieldRef own index R0 n d).before a0 Z = true) (via : Via Z R0 O n d) (F : Fld Z h a O n d v) (hp : pc + 3 = pc') (g : Go p e below P T (mkF m pc' Ls (v :: st))) : Go p e below P T (mkF m pc Ls (.ref a :: st)) := by
  subst hp
  obtain ⟨cell, cf, kk, i, f, h1, h2, h3, h4, -, -, h7⟩ := F
  have hr1 := ready_of k w via h2
  have hcell : T.heap[a]? = some cell := by rw [k.2.2.2.1]; exact h1
  refine Go.to (fun target q => ?_) g
  jvm_step k.1.here [k.2.1, hb k.2.2.2.2.2.1 hd, getfield.wp_ready (e := e) (s := T) (f := mkF m pc Ls (.ref a :: st)) k.1.here.top hr1 h3 rfl hcell h4 h7]
  exact q
/-- putfield by an entry that is resolved -/
theorem s_putR (k : K p l e R s m args below meth c bytes own maxL ret nm T locs cells slots Z h n0) {R0 O n d C : String} {index kk : Nat} {ty : FieldType} {a : Addr} {v old : Value} (hd : decode bytes pc = .ok (.putfield index, 3)) (w : (Cond.fieldRef own index R0 n d).before a0 Z = true) (via : Via Z R0 O n d) (F : Fld Z h a O n d old) (E : Exa Z h a C) (L : (Cond.lays C O n d).before a0 Z = true) (wi : (Cond.instantiable C kk).before a0 Z = true)
    (hty : parseFieldDescriptor d = some ty) (hn : narrow ty v = v) (hf : fits ty v = true) (ha : n0 ≤ a) (hp : pc + 3 = pc')
    (g : ∀ T' h' L', K p l e R s m args below meth c bytes own maxL ret nm T' L' cells slots Z h' n0 → Wr h h' a (Jvm.RoadKit.slotOf Z O n d) v → Go p e below P T' (mkF m pc' Ls st)) : Go p e below P T (mkF m pc Ls (v :: .ref a :: st)) := by
  subst hp
  obtain ⟨cell, cf, kf, i, f, h1, h2, h3, h4, h5, -, h7⟩ := F
  obtain ⟨cell', kc, e1, e2, e3, -⟩ := E
  cases h1.symm.trans e1
  obtain ⟨c1, k1, cf1, kf1, i1, f1, a1, a2, a3, -, -, a6, -⟩ := Laid.spec (Or.inl L)
  cases h2.symm.trans a3
  cases e2.symm.trans a1
  obtain ⟨c2, k2, i1, i2, i3, -⟩ := Cond.instantiable_spec wi
  cases e2.symm.trans i1
  cases a2.symm.trans i2
  have ht := (State.fieldFound?_type h2 hty).2
  have hfit : Z.fitsSlot cell.cls cell.vm f.slot v = true := by
    have q : Z.slotType? cell.cls cell.vm f.slot = some ty := by
      simp only [State.slotType?, a2, Option.bind_eq_bind, Option.bind_some, i3]
      cases hq : cell.vm <;> first | (rw [hq] at h5; exact Bool.noConfusion h5) | (rw [a6, ht])
    simp [State.fitsSlot, q, hf]
  have hU : Z.Warmed39 T.vm := wtrans k.2.2.1 k.1.warmed
  have hfit' : T.fitsSlot cell.cls cell.vm f.slot v = true := by rw [← State.fitsSlot_setVm hU.alike] at hfit; exact hfit
  have hfin : hasFlag f.accessFlags Acc.final = false := by
    obtain ⟨_, _, _, _, _, _, -, -, b3, -, b5, -⟩ := Cond.lays_spec L
    cases h2.symm.trans b3
    exact b5
  have hr1 := ready_of k w via h2
  have hlt := (Array.getElem?_eq_some_iff.mp h7).1
  have es : Jvm.RoadKit.slotOf Z O n d = f.slot := by simp [Jvm.RoadKit.slotOf, h2]
  have hcell : T.heap[a]? = some cell := by rw [k.2.2.2.1]; exact h1
  obtain ⟨X', q⟩ := k.1.putfieldReady k.2.1 hr1 h3 (Or.inl hfin) hcell h4 hlt (by rw [ht]; exact hn) hfit' (g := mkF m pc Ls (v :: .ref a :: st)) rfl rfl (hb k.2.2.2.2.2.1 hd)
  refine Go.to q (g _ _ _ (k_hp k X' rfl (Fr.snoc X' k.2.2.2.2.1 ha)) ?_)
  rw [es]
  exact ⟨cell, h1, h5, hlt, by rw [← k.2.2.2.1]; rfl⟩
/-- new -/
theorem s_new (k : K p l e R s m args below meth c bytes own maxL ret nm T locs cells slots Z h n0) {C : String} {index n : Nat} (hd : decode bytes pc = .ok (.new index, 3)) (w : (Cond.classLink own index C).before a0 Z = true) (wi : (Cond.instantiable C n).before a0 Z = true) (wz : (Cond.initialized C).before a0 Z = true) (hc : cells + 1 ≤ R.cells) (hl : slots + n ≤ R.slots) (hp : pc + 3 = pc')
    (g : ∀ T' h' b, b = h.size → K p l e R s m args below meth c bytes own maxL ret nm T' locs (cells + 1) (slots + n) Z h' n0 → Ext h h' → Exa Z h' b C → (∀ {O nm d : String} {ty : FieldType}, Laid Z a0 C O nm d → parseFieldDescriptor d = some ty → Fld Z h' b O nm d (defaultValue ty)) → Go p e below P T' (mkF m pc' Ls (.ref b :: st))) : Go p e below P T (mkF m pc Ls st) := by
  subst hp
  obtain ⟨T', h', X', e', E, A, D, -, q⟩ := newO k.1 k.2.1 k.2.2.1 k.2.2.2.2.2.2.1 w wi wz k.2.2.2.1 (g := mkF m pc Ls st) rfl (hb k.2.2.2.2.2.1 hd) hc hl
  exact Go.to q (g T' h' _ rfl (k_hp k X' e' k.2.2.2.2.1) E A D)
/-- newarray of a primitive kind -/
theorem s_newP (k : K p l e R s m args below meth c bytes own maxL ret nm T locs cells slots Z h n0) {aty : ArrayType} {n : Int32} {cap : Nat} (hd : decode bytes pc = .ok (.newarray aty, 2)) (w : (Cond.arrayClass (newarray.typeOf aty)).before a0 Z = true) (hn : ¬ n < 0) (hcap : n.toNatClampNeg ≤ cap) (hb' : cap * 8 ≤ 536870912) (hc : cells + 1 ≤ R.cells) (hl : slots + cap ≤ R.slots) (hp : pc + 2 = pc')
    (g : ∀ T' h' b cA, b = h.size → K p l e R s m args below meth c bytes own maxL ret nm T' locs (cells + 1) (slots + cap) Z h' n0 → Ext h h' → Arv Z h' b cA (newarray.typeOf aty) n [] (defaultValue (newarray.typeOf aty)) → Go p e below P T' (mkF m pc' Ls (.ref b :: st))) : Go p e below P T (mkF m pc Ls (.int n :: st)) := by
  subst hp
  obtain ⟨T', h', cA, X', e', E, A, q⟩ := newP k.1 k.2.1 k.2.2.1 w k.2.2.2.1 (g := mkF m pc Ls (.int n :: st)) rfl (hb k.2.2.2.2.2.1 hd) rfl hn hcap hb' hc hl
  exact Go.to q (g T' h' _ cA rfl (k_hp k X' e' k.2.2.2.2.1) E (Arv.new A hn))
/-- anewarray -/
theorem s_newR (k : K p l e R s m args below meth c bytes own maxL ret nm T locs cells slots Z h n0) {C : String} {index : Nat} {n : Int32} {cap : Nat} (hd : decode bytes pc = .ok (.anewarray index, 3)) (w1 : (Cond.classLink own index C).before a0 Z = true) (w2 : (Cond.arrayOver (.object C)).before a0 Z = true) (hn : ¬ n < 0) (hcap : n.toNatClampNeg ≤ cap) (hb' : cap * 8 ≤ 536870912) (hc : cells + 1 ≤ R.cells) (hl : slots + cap ≤ R.slots) (hp : pc + 3 = pc')
    (g : ∀ T' h' b cA, b = h.size → K p l e R s m args below meth c bytes own maxL ret nm T' locs (cells + 1) (slots + cap) Z h' n0 → Ext h h' → Arv Z h' b cA (.object C) n [] .null → Ovr Z cA C → Go p e below P T' (mkF m pc' Ls (.ref b :: st))) : Go p e below P T (mkF m pc Ls (.int n :: st)) := by
  subst hp
  obtain ⟨T', h', cA, X', e', E, A, O, q⟩ := newR k.1 k.2.1 k.2.2.1 k.2.2.2.2.2.2.1 w1 w2 k.2.2.2.1 (g := mkF m pc Ls (.int n :: st)) rfl (hb k.2.2.2.2.2.1 hd) rfl hn hcap hb' hc hl
  exact Go.to q (g T' h' _ cA rfl (k_hp k X' e' k.2.2.2.2.1) E (Arv.new A hn) O)
/-- arraylength -/
theorem s_len (k : K p l e R s m args below meth c bytes own maxL ret nm T locs cells slots Z h n0) {a : Addr} {kc : ClassId} {ty : FieldType} {z : Int32} {vs : List Value} {dv : Value} (hd : decode bytes pc = .ok (.arraylength, 1)) (A : Arv Z h a kc ty z vs dv) (hp : pc + 1 = pc') (g : Go p e below P T (mkF m pc' Ls (.int z :: st))) : Go p e below P T (mkF m pc Ls (.ref a :: st)) := by
  subst hp
  obtain ⟨cl, A1, -, S, N, -⟩ := A
  rw [← len_of S N] at g
  exact Go.to (fun _ q => k.1.arraylength k.2.1 (by rw [k.2.2.2.1]; exact A1.1) (State.isArrayOf_alike k.2.2.1.alike A1.2.1) (g := mkF m pc Ls (.ref a :: st)) rfl rfl (hb k.2.2.2.2.2.1 hd) _ q) g

theorem s_laload (k : K p l e R s m args below meth c bytes own maxL ret nm T locs cells slots Z h n0) {a : Addr} {kc : ClassId} {z j : Int32} {vs : List Value} {dv v : Value} (hd : decode bytes pc = .ok (.laload, 1)) (A : Arv Z h a kc .long z vs dv) (hj : ¬ j < 0 ∧ j < z) (hv : vs.getD j.toNatClampNeg dv = v) (hp : pc + 1 = pc') (g : Go p e below P T (mkF m pc' Ls (v :: st))) : Go p e below P T (mkF m pc Ls (.int j :: .ref a :: st)) := by
  subst hp
  obtain ⟨cl, A1, -, S, N, H, -⟩ := A
  exact Go.to (fun _ q => k.1.laload k.2.1 (by rw [k.2.2.2.1]; exact A1.1) (State.isArrayOf_alike k.2.2.1.alike A1.2.1) A1.2.2 (inb_of S hj) (H.at (inb_of S hj) hv) (g := mkF m pc Ls (.int j :: .ref a :: st)) rfl rfl (hb k.2.2.2.2.2.1 hd) _ q) g
theorem s_baload (k : K p l e R s m args below meth c bytes own maxL ret nm T locs cells slots Z h n0) {a : Addr} {kc : ClassId} {z j : Int32} {vs : List Value} {dv v : Value} (hd : decode bytes pc = .ok (.baload, 1)) (A : Arv Z h a kc .byte z vs dv) (hj : ¬ j < 0 ∧ j < z) (hv : vs.getD j.toNatClampNeg dv = v) (hp : pc + 1 = pc') (g : Go p e below P T (mkF m pc' Ls (v :: st))) : Go p e below P T (mkF m pc Ls (.int j :: .ref a :: st)) := by
  subst hp
  obtain ⟨cl, A1, -, S, N, H, -⟩ := A
  exact Go.to (fun _ q => k.1.baloadBytes k.2.1 (by rw [k.2.2.2.1]; exact A1.1) (State.isArrayOf_alike k.2.2.1.alike A1.2.1) A1.2.2 (inb_of S hj) (H.at (inb_of S hj) hv) (g := mkF m pc Ls (.int j :: .ref a :: st)) rfl rfl (hb k.2.2.2.2.2.1 hd) _ q) g
theorem s_iaload (k : K p l e R s m args below meth c bytes own maxL ret nm T locs cells slots Z h n0) {a : Addr} {kc : ClassId} {z j : Int32} {vs : List Value} {dv v : Value} (hd : decode bytes pc = .ok (.iaload, 1)) (A : Arv Z h a kc .int z vs dv) (hj : ¬ j < 0 ∧ j < z) (hv : vs.getD j.toNatClampNeg dv = v) (hp : pc + 1 = pc') (g : Go p e below P T (mkF m pc' Ls (v :: st))) : Go p e below P T (mkF m pc Ls (.int j :: .ref a :: st)) := by
  subst hp
  obtain ⟨cl, A1, -, S, N, H, -⟩ := A
  exact Go.to (fun _ q => k.1.iaload k.2.1 (by rw [k.2.2.2.1]; exact A1.1) (State.isArrayOf_alike k.2.2.1.alike A1.2.1) A1.2.2 (inb_of S hj) (H.at (inb_of S hj) hv) (g := mkF m pc Ls (.int j :: .ref a :: st)) rfl rfl (hb k.2.2.2.2.2.1 hd) _ q) g
theorem s_aaload (k : K p l e R s m args below meth c bytes own maxL ret nm T locs cells slots Z h n0) {a : Addr} {kc : ClassId} {ty : FieldType} {z j : Int32} {vs : List Value} {dv v : Value} (hd : decode bytes pc = .ok (.aaload, 1)) (A : Arv Z h a kc ty z vs dv) (hty : ty.isReference = true) (hj : ¬ j < 0 ∧ j < z) (hv : vs.getD j.toNatClampNeg dv = v) (hp : pc + 1 = pc') (g : Go p e below P T (mkF m pc' Ls (v :: st))) : Go p e below P T (mkF m pc Ls (.int j :: .ref a :: st)) := by
  subst hp
  obtain ⟨cl, A1, -, S, N, H, -⟩ := A
  exact Go.to (fun _ q => k.1.aaload k.2.1 (by rw [k.2.2.2.1]; exact A1.1) (State.isArrayOf_alike k.2.2.1.alike A1.2.1) hty A1.2.2 (inb_of S hj) (H.at (inb_of S hj) hv) (g := mkF m pc Ls (.int j :: .ref a :: st)) rfl rfl (hb k.2.2.2.2.2.1 hd) _ q) g
theorem s_lastore (k : K p l e R s m args below meth c bytes own maxL ret nm T locs cells slots Z h n0) {a : Addr} {kc : ClassId} {z j : Int32} {vs : List Value} {dv : Value} {x : Int64} {i : Nat} (hd : decode bytes pc = .ok (.lastore, 1)) (A : Arv Z h a kc .long z vs dv) (hj : ¬ j < 0 ∧ j < z) (hi : j.toNatClampNeg = i) (hl : i < vs.length) (ha : n0 ≤ a) (hp : pc + 1 = pc')
    (g : ∀ T' h' L', K p l e R s m args below meth c bytes own maxL ret nm T' L' cells slots Z h' n0 → Wr h h' a i (.long x) → Arv Z h' a kc .long z (vs.set i (.long x)) dv → Go p e below P T' (mkF m pc' Ls st)) : Go p e below P T (mkF m pc Ls (.long x :: .int j :: .ref a :: st)) := by
  subst hp hi
  obtain ⟨cl, A1, q1, S, N, H, Gf⟩ := A
  obtain ⟨T', h', X', e', W, q⟩ := stJ k.1 k.2.1 k.2.2.1 k.2.2.2.1 A1 (inb_of S hj) (g := mkF m pc Ls (.long x :: .int j :: .ref a :: st)) rfl rfl (hb k.2.2.2.2.2.1 hd)
  exact Go.to q (g T' h' _ (k_hp k X' e' (Fr.snoc X' k.2.2.2.2.1 ha)) W (Arv.set A1 q1 S N H Gf rfl W _ rfl hl))
theorem s_iastore (k : K p l e R s m args below meth c bytes own maxL ret nm T locs cells slots Z h n0) {a : Addr} {kc : ClassId} {z j : Int32} {vs : List Value} {dv : Value} {x : Int32} {i : Nat} (hd : decode bytes pc = .ok (.iastore, 1)) (A : Arv Z h a kc .int z vs dv) (hj : ¬ j < 0 ∧ j < z) (hi : j.toNatClampNeg = i) (hl : i < vs.length) (ha : n0 ≤ a) (hp : pc + 1 = pc')
    (g : ∀ T' h' L', K p l e R s m args below meth c bytes own maxL ret nm T' L' cells slots Z h' n0 → Wr h h' a i (.int x) → Arv Z h' a kc .int z (vs.set i (.int x)) dv → Go p e below P T' (mkF m pc' Ls st)) : Go p e below P T (mkF m pc Ls (.int x :: .int j :: .ref a :: st)) := by
  subst hp hi
  obtain ⟨cl, A1, q1, S, N, H, Gf⟩ := A
  obtain ⟨T', h', X', e', W, q⟩ := stI k.1 k.2.1 k.2.2.1 k.2.2.2.1 A1 (inb_of S hj) (g := mkF m pc Ls (.int x :: .int j :: .ref a :: st)) rfl rfl (hb k.2.2.2.2.2.1 hd)
  exact Go.to q (g T' h' _ (k_hp k X' e' (Fr.snoc X' k.2.2.2.2.1 ha)) W (Arv.set A1 q1 S N H Gf rfl W _ rfl hl))
theorem s_bastore0 (k : K p l e R s m args below meth c bytes own maxL ret nm T locs cells slots Z h n0) {a : Addr} {kc : ClassId} {z j : Int32} {vs : List Value} {dv : Value} {x : Int32} {i : Nat} (hd : decode bytes pc = .ok (.bastore, 1)) (A : Arv Z h a kc .byte z vs dv) (hj : ¬ j < 0 ∧ j < z) (hi : j.toNatClampNeg = i) (hl : i < vs.length) (ha : n0 ≤ a) (hp : pc + 1 = pc')
    (g : ∀ T' h' L', K p l e R s m args below meth c bytes own maxL ret nm T' L' cells slots Z h' n0 → Wr h h' a i (.int x.toInt8.toInt32) → Arv Z h' a kc .byte z (vs.set i (.int x.toInt8.toInt32)) dv → Go p e below P T' (mkF m pc' Ls st)) : Go p e below P T (mkF m pc Ls (.int x :: .int j :: .ref a :: st)) := by
  subst hp hi
  obtain ⟨cl, A1, q1, S, N, H, Gf⟩ := A
  obtain ⟨T', h', X', e', W, q⟩ := stB k.1 k.2.1 k.2.2.1 k.2.2.2.1 A1 (inb_of S hj) (g := mkF m pc Ls (.int x :: .int j :: .ref a :: st)) rfl rfl (hb k.2.2.2.2.2.1 hd)
  exact Go.to q (g T' h' _ (k_hp k X' e' (Fr.snoc X' k.2.2.2.2.1 ha)) W (Arv.set A1 q1 S N H Gf (fits_nar_byte x) W _ rfl hl))
theorem s_bastore (k : K p l e R s m args below meth c bytes own maxL ret nm T locs cells slots Z h n0) {a : Addr} {kc : ClassId} {z j : Int32} {vs : List Value} {dv : Value} {x y : Int32} {i : Nat} (hd : decode bytes pc = .ok (.bastore, 1)) (A : Arv Z h a kc .byte z vs dv) (hj : ¬ j < 0 ∧ j < z) (hi : j.toNatClampNeg = i) (hl : i < vs.length) (hy : x.toInt8.toInt32 = y) (ha : n0 ≤ a) (hp : pc + 1 = pc')
    (g : ∀ T' h' L', K p l e R s m args below meth c bytes own maxL ret nm T' L' cells slots Z h' n0 → Wr h h' a i (.int y) → Arv Z h' a kc .byte z (vs.set i (.int y)) dv → Go p e below P T' (mkF m pc' Ls st)) : Go p e below P T (mkF m pc Ls (.int x :: .int j :: .ref a :: st)) := by
  subst hy
  exact s_bastore0 k hd A hj hi hl ha hp g
theorem s_aastore (k : K p l e R s m args below meth c bytes own maxL ret nm T locs cells slots Z h n0) {a : Addr} {kc : ClassId} {C : String} {z j : Int32} {vs : List Value} {dv v : Value} {i : Nat} (hd : decode bytes pc = .ok (.aastore, 1)) (A : Arv Z h a kc (.object C) z vs dv) (hj : ¬ j < 0 ∧ j < z) (hi : j.toNatClampNeg = i) (hl : i < vs.length) (O : Ovr Z kc C) (I : v = .null ∨ ∃ y, v = .ref y ∧ Ins Z h y C true) (ha : n0 ≤ a) (hp : pc + 1 = pc')
    (g : ∀ T' h' L', K p l e R s m args below meth c bytes own maxL ret nm T' L' cells slots Z h' n0 → Wr h h' a i v → Arv Z h' a kc (.object C) z (vs.set i v) dv → Go p e below P T' (mkF m pc' Ls st)) : Go p e below P T (mkF m pc Ls (v :: .int j :: .ref a :: st)) := by
  subst hp hi
  obtain ⟨cl, A1, q1, S, N, H, Gf⟩ := A
  have hs : Sto Z h a v := by
    rcases I with rfl | ⟨y, rfl, I⟩
    · exact Or.inl rfl
    · exact Sto.ofV A1 q1 O I
  have hfv : fits (.object C) v = true := by
    rcases I with rfl | ⟨y, rfl, I⟩ <;> rfl
  obtain ⟨T', h', X', e', W, q⟩ := stR k.1 k.2.1 k.2.2.1 k.2.2.2.1 A1 (inb_of S hj) rfl hs (g := mkF m pc Ls (v :: .int j :: .ref a :: st)) rfl rfl (hb k.2.2.2.2.2.1 hd)
  exact Go.to q (g T' h' _ (k_hp k X' e' (Fr.snoc X' k.2.2.2.2.1 ha)) W (Arv.set A1 q1 S N H Gf hfv W _ rfl hl))
theorem s_cast (k : K p l e R s m args below meth c bytes own maxL ret nm T locs cells slots Z h n0) {C : String} {index : Nat} {a : Addr} (hd : decode bytes pc = .ok (.checkcast index, 3)) (w : (Cond.classLink own index C).before a0 Z = true) (I : Ins Z h a C true) (hp : pc + 3 = pc')
    (g : ∀ T', K p l e R s m args below meth c bytes own maxL ret nm T' locs cells slots Z h n0 → Go p e below P T' (mkF m pc' Ls (.ref a :: st))) : Go p e below P T (mkF m pc Ls (.ref a :: st)) := by
  subst hp
  obtain ⟨T', X', e', q⟩ := castY k.1 k.2.1 k.2.2.1 k.2.2.2.2.2.2.1 w k.2.2.2.1 I (g := mkF m pc Ls (.ref a :: st)) rfl rfl (hb k.2.2.2.2.2.1 hd)
  exact Go.to q (g T' (k_hp k X' e' k.2.2.2.2.1))
theorem s_castNull (k : K p l e R s m args below meth c bytes own maxL ret nm T locs cells slots Z h n0) {index : Nat} (hd : decode bytes pc = .ok (.checkcast index, 3)) (hp : pc + 3 = pc') (g : Go p e below P T (mkF m pc' Ls (.null :: st))) : Go p e below P T (mkF m pc Ls (.null :: st)) := by
  subst hp
  exact Go.to (k.1.checkcastNull k.2.1 (g := mkF m pc Ls (.null :: st)) rfl rfl (hb k.2.2.2.2.2.1 hd)) g
theorem s_instY (k : K p l e R s m args below meth c bytes own maxL ret nm T locs cells slots Z h n0) {C : String} {index : Nat} {a : Addr} (hd : decode bytes pc = .ok (.instanceof index, 3)) (w : (Cond.classLink own index C).before a0 Z = true) (I : Ins Z h a C true) (hp : pc + 3 = pc')
    (g : ∀ T', K p l e R s m args below meth c bytes own maxL ret nm T' locs cells slots Z h n0 → Go p e below P T' (mkF m pc' Ls (.int 1 :: st))) : Go p e below P T (mkF m pc Ls (.ref a :: st)) := by
  subst hp
  obtain ⟨T', X', e', q⟩ := instY k.1 k.2.1 k.2.2.1 k.2.2.2.2.2.2.1 w k.2.2.2.1 I (g := mkF m pc Ls (.ref a :: st)) rfl rfl (hb k.2.2.2.2.2.1 hd)
  exact Go.to q (g T' (k_hp k X' e' k.2.2.2.2.1))
/-- the returns -/
theorem s_retV (k : K p l e R s m args below meth c bytes own maxL ret nm T locs cells slots Z h n0) {w : Value} {t : FieldType} {i : Instr} (hd : decode bytes pc = .ok (i, 1)) (hr : ret = some t) (hn : narrow t w = w)
    (hi : (i = .ireturn ∧ (t = .int ∨ t = .boolean ∨ t = .byte ∨ t = .char ∨ t = .short) ∧ ∃ z, w = .int z) ∨ (i = .lreturn ∧ t = .long ∧ ∃ z, w = .long z) ∨ (i = .dreturn ∧ t = .double ∧ ∃ z, w = .double z) ∨ (i = .freturn ∧ t = .float ∧ ∃ z, w = .float z) ∨ (i = .areturn ∧ t.isReference = true ∧ w.isRef = true))
    (hP : Pay s Q n0 cc ss P) (hc : cells ≤ cc) (hs : slots ≤ ss) (q : Q (some w) h) : Go p e below P T (mkF m pc Ls (w :: st)) := by
  obtain ⟨fs, hr', hrun, hended, hW, hsame⟩ := k.1.leave (v := some w) (fun z => by rw [k.2.2.2.2.2.2.2.2.1, hr] at z; cases z) k.2.2.2.2.2.2.2.2.2.2
  exact ⟨_, _, retOut k.1 k.2.1 (k.2.2.2.2.2.2.2.2.1.trans hr) hn hi (hb k.2.2.2.2.2.1 hd) hr', hrun, hended, hP _ _ _ _ q (show T.heap = h from k.2.2.2.1) k.2.2.2.2.1 ⟨⟨_, rfl⟩, hW, hsame.mono hc hs⟩⟩
theorem s_retI (k : K p l e R s m args below meth c bytes own maxL ret nm T locs cells slots Z h n0) {z : Int32} (hd : decode bytes pc = .ok (.ireturn, 1)) (hr : ret = some .int) (hP : Pay s Q n0 cc ss P) (hc : cells ≤ cc) (hs : slots ≤ ss) (q : Q (some (.int z)) h) : Go p e below P T (mkF m pc Ls (.int z :: st)) :=
  s_retV k hd hr rfl (Or.inl ⟨rfl, Or.inl rfl, z, rfl⟩) hP hc hs q
theorem s_retL (k : K p l e R s m args below meth c bytes own maxL ret nm T locs cells slots Z h n0) {z : Int64} (hd : decode bytes pc = .ok (.lreturn, 1)) (hr : ret = some .long) (hP : Pay s Q n0 cc ss P) (hc : cells ≤ cc) (hs : slots ≤ ss) (q : Q (some (.long z)) h) : Go p e below P T (mkF m pc Ls (.long z :: st)) :=
  s_retV k hd hr rfl (Or.inr (Or.inl ⟨rfl, rfl, z, rfl⟩)) hP hc hs q
theorem s_retA (k : K p l e R s m args below meth c bytes own maxL ret nm T locs cells slots Z h n0) {w : Value} {t : FieldType} (hd : decode bytes pc = .ok (.areturn, 1)) (hr : ret = some t) (ht : t.isReference = true) (hw : w.isRef = true) (hP : Pay s Q n0 cc ss P) (hc : cells ≤ cc) (hs : slots ≤ ss) (q : Q (some w) h) : Go p e below P T (mkF m pc Ls (w :: st)) :=
  s_retV k hd hr (by cases t <;> simp [FieldType.isReference] at ht <;> rfl) (Or.inr (Or.inr (Or.inr (Or.inr ⟨rfl, ht, hw⟩)))) hP hc hs q
theorem s_retZ (k : K p l e R s m args below meth c bytes own maxL ret nm T locs cells slots Z h n0) {z : Int32} (hd : decode bytes pc = .ok (.ireturn, 1)) (hr : ret = some .boolean) (hz : z &&& 1 = z) (hP : Pay s Q n0 cc ss P) (hc : cells ≤ cc) (hs : slots ≤ ss) (q : Q (some (.int z)) h) : Go p e below P T (mkF m pc Ls (.int z :: st)) :=
  s_retV k hd hr (show Value.int (z &&& 1) = .int z by rw [hz]) (Or.inl ⟨rfl, Or.inr (Or.inl rfl), z, rfl⟩) hP hc hs q
theorem s_ret (k : K p l e R s m args below meth c bytes own maxL ret nm T locs cells slots Z h n0) (hd : decode bytes pc = .ok (.return_, 1)) (hr : ret = none) (hP : Pay s Q n0 cc ss P) (hc : cells ≤ cc) (hs : slots ≤ ss) (q : Q none h) : Go p e below P T (mkF m pc Ls []) := by
  obtain ⟨fs, hr', hrun, hended, hW, hsame⟩ := k.1.leave (v := none) (fun _ => rfl) k.2.2.2.2.2.2.2.2.2.2
  exact ⟨_, _, k.1.returnOut k.2.1 (k.2.2.2.2.2.2.2.2.1.trans hr) (hb k.2.2.2.2.2.1 hd) hr', hrun, hended, hP _ _ _ _ q (show T.heap = h from k.2.2.2.1) k.2.2.2.2.1 ⟨⟨_, rfl⟩, hW, hsame.mono hc hs⟩⟩
end Own

/-- a method's contract at one array of arguments and one heap -/
def Met (l : Launch) (Z : State) (y : MethodName) (bytes : ByteArray) (maxL : Nat) (ret : Option FieldType) (rm : Room) (n0 : Nat) (as' : Array Value) (h : Heap) (Q : Option Value → Heap → Prop) : Prop :=
  ∀ ws : List Jvm.Cond, MetFree l y (head1 (Jvm.Cond.code y bytes maxL ret :: ws) rm) (fun a U => a = as' ∧ Z.Warmed39 U.vm ∧ U.heap = h) (fun _ _ _ _ _ => True) (fun _ U o U' => ∃ v L, o = .returned v ∧ (Q v U'.heap ∧ Fr n0 L) ∧ FrameEnd U o U' L rm.cells rm.slots)
theorem Met.of {l : Launch} {Z : State} {y : MethodName} {bytes : ByteArray} {maxL : Nat} {ret : Option FieldType} {rm : Room} {n0 : Nat} {as' : Array Value} {h : Heap} {Q : Option Value → Heap → Prop} {Ls : Array Slot} (hpl : plainFor y = true) (hef : ∀ m, entryFrame m as' maxL = mkF m 0 Ls [])
    (body : ∀ p e s m below meth c T P, Pay s Q n0 rm.cells rm.slots P → K p l e rm s m as' below meth c bytes y.cls maxL ret y.name T [] 0 0 Z h n0 → Go p e below P T (mkF m 0 Ls [])) : Met l Z y bytes maxL ret rm n0 as' h Q := by
  intro ws
  refine MetFree.of_bodySF hpl hisR ?_
  intro p e s m args below meth c s₁ Bd hml0 hP hK
  obtain ⟨rfl, hZ, hh⟩ := hP
  have X0 : Stand p l e rm s m args below meth c s₁ [] 0 0 := Stand.of_body Bd
  rw [hef m]
  exact body p e s m below meth c s₁ _ (fun v h L s₂ q1 q2 q3 q4 => ⟨v, L, rfl, ⟨q2.symm ▸ q1, q3⟩, q4⟩) ⟨X0, Bd.exec, hZ, by rw [← hh, Bd.state]; rfl, Fr.nil n0, Bd.bytes, findClass_of_methodNamed Bd.named, hml0, Bd.returns, (name_of_methodNamed Bd.named Bd.method).1, BodyLoose.notSynchronized Bd⟩
/-- the model's own selection picks a private method itself (lines of the worked claim gauge-weight, turned) -/
theorem sel_priv {y : MethodName} {s : State} {args : Array Value} {n : Nat} (hy : y.cls ≠ "java/lang/invoke/MethodHandle" ∧ y.cls ≠ "java/lang/invoke/VarHandle") (hins : (Cond.instantiable y.cls n).before args s = true) (hpriv : (Cond.privateMethod y).before args s = true) (hinst : (Cond.instanceMethod y).before args s = true) : (Cond.selects y.cls y y).before args s = true := by
  obtain ⟨c, k, hc, hk, -, hniab, -, -⟩ := Cond.instantiable_spec hins
  have hni : k.isInterface = false := (Bool.or_eq_false_iff.mp hniab).1
  obtain ⟨mk, methM, hnamed, hmethM, -, -⟩ := Cond.instanceMethod_spec hinst
  have hfound : s.methodFound? y.cls y.name y.desc = some mk := State.methodFound?_of_named hnamed hy
  have hcls : mk.cls = c := Option.some.inj ((findClass_of_methodNamed hnamed).symm.trans hc)
  have hsel : selectMethod {} s.vm c mk = .method mk := selectMethod_private hmethM (Cond.privateMethod_at hpriv mk methM hnamed hmethM)
  simp only [Cond.before, Cond.holds, Cond.value, hc, hfound, hnamed, hsel, hcls, hk]
  simp; exact hni
section Calls
variable {p : Program} {l : Launch} {e : Env} {R : Room} {s : State} {m : MethodId} {args : Array Value} {below : List Frame} {meth : Method} {c : Code} {bytes : ByteArray} {own : String} {maxL : Nat} {ret : Option FieldType} {nm : String} {T : State} {locs : List Loc} {cells slots : Nat} {Z : State} {h : Heap} {n0 : Nat} {Q : Option Value → Heap → Prop} {P : State → Outcome → Prop} {cc ss : Nat} {a0 : Array Value} {Ls : Array Slot} {st rest : List Value} {pc pc' : Nat}
theorem wsum (W : Nat) (st : List Value) (hW : (st.map fun v => v.category).sum ≤ W) : 2 * 0 + (st.map fun v => v.category).sum ≤ W := by omega
/-- a static call -/
theorem s_callS (k : K p l e R s m args below meth c bytes own maxL ret nm T locs cells slots Z h n0) {index : Nat} {y : MethodName} {yb : ByteArray} {ym : Nat} {yr : Option FieldType} {rm : Room} {Qy : Option Value → Heap → Prop} {ps : List FieldType} (argsL : List Value) (W : Nat) (hd : decode bytes pc = .ok (.invokestatic index, 3)) (w1 : (Cond.methodLink own index y).before a0 Z = true) (w2 : (Cond.static y).before a0 Z = true) (w3 : (Cond.initialized y.cls).before a0 Z = true) (w4 : (Cond.code y yb ym yr).before a0 Z = true)
    (hy : y.cls ≠ "java/lang/invoke/MethodHandle" ∧ y.cls ≠ "java/lang/invoke/VarHandle") (M : Met l Z y yb ym yr rm n0 argsL.toArray h Qy) (hf : rm.frames + 1 ≤ R.frames) (hl : W + (ym + 11) + rm.locals ≤ R.locals) (hpd : parseMethodDescriptor y.desc = some ⟨ps, yr⟩) (hlen : argsL.length = ps.length) (hW : (st.map fun v => v.category).sum ≤ W) (hsz : Ls.size = maxL) (hc : cells + rm.cells ≤ R.cells) (hs : slots + rm.slots ≤ R.slots) (hst : rest = argsL.reverse ++ st) (hp : pc + 3 = pc')
    (g : ∀ v T' h' L', K p l e R s m args below meth c bytes own maxL ret nm T' L' (cells + rm.cells) (slots + rm.slots) Z h' n0 → Qy v h' → Go p e below P T' (mkF m pc' Ls (v.toList ++ st))) : Go p e below P T (mkF m pc Ls rest) := by
  subst hp hst
  obtain ⟨v, vm1, ⟨T', L', k', n'⟩, -, X', ⟨L, hQ, l1, l2, l3⟩, q⟩ := Jvm.LawKit.callS k.1 k.2.1 k.2.2.2.2.2.2.1 (mvT k.2.2.1 w1) (mvT k.2.2.1 w2) (mvT k.2.2.1 w3) (mvT k.2.2.1 w4) hy (backOf (W := W) (Q := fun v h L => Qy v h ∧ Fr n0 L) (M []) k.2.2.1 w4 w3 hf hl) (g := mkF m pc Ls (argsL.reverse ++ st)) rfl (hsz.trans k.2.2.2.2.2.2.2.1.symm) (argsL := argsL) (rest := st) (lenOf hpd hlen) rfl (wsum W st hW) (hb k.2.2.2.2.2.1 hd) (fun _ _ => ⟨rfl, k.2.2.2.1, hc, hs⟩)
  dsimp only [Pt.U, Pt.locs, Pt.cells, Pt.slots] at X' l1 l2 l3 q hQ
  subst l1 l2 l3
  exact Go.to q (g v T' _ _ (k_hp k X' rfl (Fr.app k.2.2.2.2.1 hQ.2)) hQ.1)
/-- a constructor -/
theorem s_callI (k : K p l e R s m args below meth c bytes own maxL ret nm T locs cells slots Z h n0) {index : Nat} {y : MethodName} {yb : ByteArray} {ym : Nat} {rm : Room} {Qy : Option Value → Heap → Prop} {ps : List FieldType} {a : Addr} (argsL : List Value) (W : Nat) (hd : decode bytes pc = .ok (.invokespecial index, 3)) (hy1 : y.name = "<init>") (w1 : (Cond.methodLink own index y).before a0 Z = true) (w2 : (Cond.instanceMethod y).before a0 Z = true) (w3 : (Cond.initialized y.cls).before a0 Z = true) (w4 : (Cond.code y yb ym none).before a0 Z = true)
    (hy : y.cls ≠ "java/lang/invoke/MethodHandle" ∧ y.cls ≠ "java/lang/invoke/VarHandle") (M : Met l Z y yb ym none rm n0 (.ref a :: argsL).toArray h Qy) (hf : rm.frames + 1 ≤ R.frames) (hl : W + (ym + 11) + rm.locals ≤ R.locals) (hpd : parseMethodDescriptor y.desc = some ⟨ps, none⟩) (hlen : argsL.length = ps.length) (hW : (st.map fun v => v.category).sum ≤ W) (hsz : Ls.size = maxL) (hc : cells + rm.cells ≤ R.cells) (hs : slots + rm.slots ≤ R.slots) (hst : rest = argsL.reverse ++ .ref a :: st) (hp : pc + 3 = pc')
    (g : ∀ v T' h' L', K p l e R s m args below meth c bytes own maxL ret nm T' L' (cells + rm.cells) (slots + rm.slots) Z h' n0 → Qy v h' → Go p e below P T' (mkF m pc' Ls (v.toList ++ st))) : Go p e below P T (mkF m pc Ls rest) := by
  subst hp hst
  obtain ⟨v, vm1, ⟨T', L', k', n'⟩, -, X', ⟨L, hQ, l1, l2, l3⟩, q⟩ := k.1.specialBack k.2.1 hy1 k.2.2.2.2.2.2.1 (mvT k.2.2.1 w1) (mvT k.2.2.1 w2) (mvT k.2.2.1 w4) hy (backOf (W := W) (Q := fun v h L => Qy v h ∧ Fr n0 L) (M []) k.2.2.1 w4 w3 hf hl) (g := mkF m pc Ls (argsL.reverse ++ .ref a :: st)) rfl (hsz.trans k.2.2.2.2.2.2.2.1.symm) (Steps.refl _) (a := a) (argsL := argsL) (rest := st) (lenOf hpd hlen) rfl (wsum W st hW) (hb k.2.2.2.2.2.1 hd) (fun _ _ => ⟨rfl, k.2.2.2.1, hc, hs⟩)
  dsimp only [Pt.U, Pt.locs, Pt.cells, Pt.slots] at X' l1 l2 l3 q hQ
  subst l1 l2 l3
  exact Go.tr q (g v T' _ _ (k_hp k X' rfl (Fr.app k.2.2.2.2.1 hQ.2)) hQ.1)
/-- an instance method -/
theorem s_callV (k : K p l e R s m args below meth c bytes own maxL ret nm T locs cells slots Z h n0) {index : Nat} {C : String} {y : MethodName} {yb : ByteArray} {ym : Nat} {yr : Option FieldType} {rm : Room} {Qy : Option Value → Heap → Prop} {ps : List FieldType} {a : Addr} (argsL : List Value) (W : Nat) (hd : decode bytes pc = .ok (.invokevirtual index, 3)) (w1 : (Cond.methodLink own index y).before a0 Z = true) (w2 : (Cond.declares y).before a0 Z = true) (w5 : (Cond.selects C y y).before a0 Z = true) (w6 : (Cond.instanceMethod y).before a0 Z = true) (w3 : (Cond.initialized y.cls).before a0 Z = true) (w4 : (Cond.code y yb ym yr).before a0 Z = true)
    (hy : y.cls ≠ "java/lang/invoke/MethodHandle" ∧ y.cls ≠ "java/lang/invoke/VarHandle") (E : Exa Z h a C) (M : Met l Z y yb ym yr rm n0 (.ref a :: argsL).toArray h Qy) (hf : rm.frames + 1 ≤ R.frames) (hl : W + (ym + 11) + rm.locals ≤ R.locals) (hpd : parseMethodDescriptor y.desc = some ⟨ps, yr⟩) (hlen : argsL.length = ps.length) (hW : (st.map fun v => v.category).sum ≤ W) (hsz : Ls.size = maxL) (hc : cells + rm.cells ≤ R.cells) (hs : slots + rm.slots ≤ R.slots) (hst : rest = argsL.reverse ++ .ref a :: st) (hp : pc + 3 = pc')
    (g : ∀ v T' h' L', K p l e R s m args below meth c bytes own maxL ret nm T' L' (cells + rm.cells) (slots + rm.slots) Z h' n0 → Qy v h' → Go p e below P T' (mkF m pc' Ls (v.toList ++ st))) : Go p e below P T (mkF m pc Ls rest) := by
  subst hp hst
  obtain ⟨cq, kq, qa, qb, qc⟩ := isOf k.2.2.1 k.2.2.2.1 E
  obtain ⟨v, vm1, ⟨T', L', k', n'⟩, -, X', ⟨L, hQ, l1, l2, l3⟩, q⟩ := k.1.virtualBack k.2.1 (y := y) (z := y) k.2.2.2.2.2.2.1 (mvT k.2.2.1 w1) (mvT k.2.2.1 w2) (notFace_of_selects (args := #[]) (mvT k.2.2.1 w5)) (mvT k.2.2.1 w5) (mvT k.2.2.1 w6) hy (backOf (W := W) (Q := fun v h L => Qy v h ∧ Fr n0 L) (M []) k.2.2.1 w4 w3 hf hl) qa qc (g := mkF m pc Ls (argsL.reverse ++ .ref a :: st)) rfl (hsz.trans k.2.2.2.2.2.2.2.1.symm) (Steps.refl _) (argsL := argsL) (rest := st) (lenOf hpd hlen) rfl (wsum W st hW) (hb k.2.2.2.2.2.1 hd) (fun _ _ => ⟨rfl, k.2.2.2.1, hc, hs⟩)
  dsimp only [Pt.U, Pt.locs, Pt.cells, Pt.slots] at X' l1 l2 l3 q hQ
  subst l1 l2 l3
  exact Go.tr q (g v T' _ _ (k_hp k X' rfl (Fr.app k.2.2.2.2.1 hQ.2)) hQ.1)
/-- a private method, called by invokevirtual -/
theorem s_callP (k : K p l e R s m args below meth c bytes own maxL ret nm T locs cells slots Z h n0) {index : Nat} {y : MethodName} {yb : ByteArray} {ym : Nat} {yr : Option FieldType} {rm : Room} {Qy : Option Value → Heap → Prop} {ps : List FieldType} {a : Addr} (argsL : List Value) (W : Nat) (hd : decode bytes pc = .ok (.invokevirtual index, 3)) (w1 : (Cond.methodLink own index y).before a0 Z = true) (w5 : (Cond.selects y.cls y y).before a0 Z = true) (w6 : (Cond.instanceMethod y).before a0 Z = true) (w7 : (Cond.privateMethod y).before a0 Z = true) (w3 : (Cond.initialized y.cls).before a0 Z = true) (w4 : (Cond.code y yb ym yr).before a0 Z = true)
    (hy : y.cls ≠ "java/lang/invoke/MethodHandle" ∧ y.cls ≠ "java/lang/invoke/VarHandle") (E : Exa Z h a y.cls) (M : Met l Z y yb ym yr rm n0 (.ref a :: argsL).toArray h Qy) (hf : rm.frames + 1 ≤ R.frames) (hl : W + (ym + 11) + rm.locals ≤ R.locals) (hpd : parseMethodDescriptor y.desc = some ⟨ps, yr⟩) (hlen : argsL.length = ps.length) (hW : (st.map fun v => v.category).sum ≤ W) (hsz : Ls.size = maxL) (hc : cells + rm.cells ≤ R.cells) (hs : slots + rm.slots ≤ R.slots) (hst : rest = argsL.reverse ++ .ref a :: st) (hp : pc + 3 = pc')
    (g : ∀ v T' h' L', K p l e R s m args below meth c bytes own maxL ret nm T' L' (cells + rm.cells) (slots + rm.slots) Z h' n0 → Qy v h' → Go p e below P T' (mkF m pc' Ls (v.toList ++ st))) : Go p e below P T (mkF m pc Ls rest) := by
  subst hp hst
  obtain ⟨cq, qa, qb⟩ := E.cell
  obtain ⟨v, vm1, ⟨T', L', k', n'⟩, -, X', ⟨L, hQ, l1, l2, l3⟩, q⟩ := k.1.privateBack k.2.1 (y := y) k.2.2.2.2.2.2.1 (mvT k.2.2.1 w1) (mvT k.2.2.1 w6) (mvT k.2.2.1 w5) (Cond.privateMethod_at (mvP k.2.2.1 w7 (args := #[]))) (mvT k.2.2.1 w4) hy (backOf (W := W) (Q := fun v h L => Qy v h ∧ Fr n0 L) (M []) k.2.2.1 w4 w3 hf hl) (g := mkF m pc Ls (argsL.reverse ++ .ref a :: st)) rfl (hsz.trans k.2.2.2.2.2.2.2.1.symm) (Steps.refl _) (a := a) (by rw [k.2.2.2.1]; exact qa) qb (argsL := argsL) (rest := st) (lenOf hpd hlen) rfl (wsum W st hW) (hb k.2.2.2.2.2.1 hd) (fun _ _ => ⟨rfl, k.2.2.2.1, hc, hs⟩)
  dsimp only [Pt.U, Pt.locs, Pt.cells, Pt.slots] at X' l1 l2 l3 q hQ
  subst l1 l2 l3
  exact Go.tr q (g v T' _ _ (k_hp k X' rfl (Fr.app k.2.2.2.2.1 hQ.2)) hQ.1)
end Calls
end Jvm.OwnGo
namespace Jvm.Pilot.@@N@@
open Jvm Jvm.ClassFile Sem Op Lib Jvm.Free Jvm.Stand Jvm.LawKit Jvm.RoadKit Bundle Jvm.OwnGo Jvm.Pilot.@@N@@.Jvm.D
theorem d2_0 : decode prog_34_method_1_code 0 = .ok (.aload_n 0, 1) := by decide +kernel
theorem d2_1 : decode prog_34_method_1_code 1 = .ok (.invokespecial 1, 3) := by decide +kernel
theorem d2_4 : decode prog_34_method_1_code 4 = .ok (.return_, 1) := by decide +kernel
theorem pn_2_rmw : plainFor (⟨"com/example/gull/gull/WaitList$Waiter", "<init>", "()V"⟩ : MethodName) = true := plainFor_of_name (by first | (simp [plainName, overriddenIn]; done) | decide +kernel)
theorem ef_rmw {a : Addr} (m : MethodId) : entryFrame m #[.ref a] 1 = mkF m 0 #[.val (.ref a)] [] := by first | (simp [entryFrame, mkF, argsToLocals, Value.category]; done) | rfl
set_option maxRecDepth 65536 in
set_option maxHeartbeats 40000000 in
theorem rmw (l : Launch) (Z : State) (a0 : Array Value) (hw : ∀ d ∈ tables_1, d.before a0 Z = true) (a : Addr) (h0 : Heap) (n0 : Nat) (Z0 : n0 ≤ h0.size)  :
    Met l Z (⟨"com/example/gull/gull/WaitList$Waiter", "<init>", "()V"⟩ : MethodName) prog_34_method_1_code 1 none ({ frames := 1, cells := 0, slots := 0, locals := 16 } : Room) n0 #[.ref a] h0 (fun v h => v = none ∧ h0 = h) := by
  refine Met.of (Ls := #[.val (.ref a)]) pn_2_rmw (fun m => ef_rmw m) fun p e s m below meth c T0 P hP k0 => ?_
  refine s_aloadN k0 d2_0 rfl rfl (pc' := 1) rfl ?_
  obtain ⟨T1, X1, e1, q1⟩ := initO k0.1 k0.2.1 k0.2.2.1 k0.2.2.2.2.2.2.1 (hw _ (List.mem_of_getElem? (i := 13) rfl)) (hw _ (List.mem_of_getElem? (i := 14) rfl)) (hw _ (List.mem_of_getElem? (i := 15) rfl)) k0.2.2.2.1 (g := (mkF m 1 #[.val (.ref a)] [.ref a])) rfl k0.2.2.2.2.2.2.2.1.symm rfl (hb k0.2.2.2.2.2.1 d2_1) (by decide) (W := 0) (by show 2 * 0 + _ ≤ _; exact Nat.le_of_eq rfl) (by decide)
  refine Go.to q1 ?_
  have k1 := k_hp k0 X1 e1 k0.2.2.2.2.1
  show Go p e below P T1 (mkF m 4 #[.val (.ref a)] [])
  exact s_ret k1 d2_4 rfl hP (by decide) (by decide) ⟨rfl, rfl⟩
theorem d1_0 : decode method_1_code 0 = .ok (.aload_n 0, 1) := by decide +kernel
theorem d1_1 : decode method_1_code 1 = .ok (.invokespecial 1, 3) := by decide +kernel
theorem d1_4 : decode method_1_code 4 = .ok (.return_, 1) := by decide +kernel
theorem pd__28_29V : parseMethodDescriptor "()V" = some ⟨[], none⟩ := by decide +kernel
theorem pn_1_rmp : plainFor (⟨"com/example/gull/gull/WaitListRemovePinLaw", "<init>", "()V"⟩ : MethodName) = true := plainFor_of_name (by first | (simp [plainName, overriddenIn]; done) | decide +kernel)
theorem ef_rmp {a : Addr} (m : MethodId) : entryFrame m #[.ref a] 1 = mkF m 0 #[.val (.ref a)] [] := by first | (simp [entryFrame, mkF, argsToLocals, Value.category]; done) | rfl
set_option maxRecDepth 65536 in
set_option maxHeartbeats 40000000 in
theorem rmp (l : Launch) (Z : State) (a0 : Array Value) (hw : ∀ d ∈ tables_1, d.before a0 Z = true) (a : Addr) (h0 : Heap) (n0 : Nat) (Z0 : n0 ≤ h0.size)  :
    Met l Z (⟨"com/example/gull/gull/WaitListRemovePinLaw", "<init>", "()V"⟩ : MethodName) method_1_code 1 none ({ frames := 2, cells := 0, slots := 0, locals := 32 } : Room) n0 #[.ref a] h0 (fun v h => v = none ∧ h0 = h) := by
  refine Met.of (Ls := #[.val (.ref a)]) pn_1_rmp (fun m => ef_rmp m) fun p e s m below meth c T0 P hP k0 => ?_
  refine s_aloadN k0 d1_0 rfl rfl (pc' := 1) rfl ?_
  refine s_callI k0 [] 0 d1_1 rfl (hw _ (List.mem_of_getElem? (i := 8) rfl)) (hw _ (List.mem_of_getElem? (i := 9) rfl)) (hw _ (List.mem_of_getElem? (i := 11) rfl)) (hw _ (List.mem_of_getElem? (i := 12) rfl)) (by decide) (rmw l Z a0 hw a h0 n0 Z0 ) (by decide) (by decide) pd__28_29V rfl (Nat.le_of_eq rfl) rfl (by decide) (by decide) rfl (pc' := 4) rfl fun v1 T1 h1 L1 k1 Qv1 => ?_
  obtain ⟨rfl, rfl⟩ := Qv1
  show Go p e below P T1 (mkF m 4 #[.val (.ref a)] [])
  exact s_ret k1 d1_4 rfl hP (by decide) (by decide) ⟨rfl, rfl⟩
theorem d4_0 : decode prog_33_method_1_code 0 = .ok (.aload_n 0, 1) := by decide +kernel
theorem d4_1 : decode prog_33_method_1_code 1 = .ok (.invokespecial 1, 3) := by decide +kernel
theorem d4_4 : decode prog_33_method_1_code 4 = .ok (.return_, 1) := by decide +kernel
theorem pn_4_rml : plainFor (⟨"com/example/gull/gull/WaitList", "<init>", "()V"⟩ : MethodName) = true := plainFor_of_name (by first | (simp [plainName, overriddenIn]; done) | decide +kernel)
theorem ef_rml {a : Addr} (m : MethodId) : entryFrame m #[.ref a] 1 = mkF m 0 #[.val (.ref a)] [] := by first | (simp [entryFrame, mkF, argsToLocals, Value.category]; done) | rfl
set_option maxRecDepth 65536 in
set_option maxHeartbeats 40000000 in
theorem rml (l : Launch) (Z : State) (a0 : Array Value) (hw : ∀ d ∈ tables_1, d.before a0 Z = true) (a : Addr) (h0 : Heap) (n0 : Nat) (Z0 : n0 ≤ h0.size)  :
    Met l Z (⟨"com/example/gull/gull/WaitList", "<init>", "()V"⟩ : MethodName) prog_33_method_1_code 1 none ({ frames := 1, cells := 0, slots := 0, locals := 16 } : Room) n0 #[.ref a] h0 (fun v h => v = none ∧ h0 = h) := by
  refine Met.of (Ls := #[.val (.ref a)]) pn_4_rml (fun m => ef_rml m) fun p e s m below meth c T0 P hP k0 => ?_
  refine s_aloadN k0 d4_0 rfl rfl (pc' := 1) rfl ?_
  obtain ⟨T1, X1, e1, q1⟩ := initO k0.1 k0.2.1 k0.2.2.1 k0.2.2.2.2.2.2.1 (hw _ (List.mem_of_getElem? (i := 29) rfl)) (hw _ (List.mem_of_getElem? (i := 14) rfl)) (hw _ (List.mem_of_getElem? (i := 15) rfl)) k0.2.2.2.1 (g := (mkF m 1 #[.val (.ref a)] [.ref a])) rfl k0.2.2.2.2.2.2.2.1.symm rfl (hb k0.2.2.2.2.2.1 d4_1) (by decide) (W := 0) (by show 2 * 0 + _ ≤ _; exact Nat.le_of_eq rfl) (by decide)
  refine Go.to q1 ?_
  have k1 := k_hp k0 X1 e1 k0.2.2.2.2.1
  show Go p e below P T1 (mkF m 4 #[.val (.ref a)] [])
  exact s_ret k1 d4_4 rfl hP (by decide) (by decide) ⟨rfl, rfl⟩
theorem d5_0 : decode prog_33_method_4_code 0 = .ok (.aload_n 1, 1) := by decide +kernel
theorem d5_1 : decode prog_33_method_4_code 1 = .ok (.astore_n 2, 1) := by decide +kernel
theorem d5_2 : decode prog_33_method_4_code 2 = .ok (.aload_n 2, 1) := by decide +kernel
theorem d5_3 : decode prog_33_method_4_code 3 = .ok (.aload_n 0, 1) := by decide +kernel
theorem d5_4 : decode prog_33_method_4_code 4 = .ok (.getfield 13, 3) := by decide +kernel
theorem d5_7 : decode prog_33_method_4_code 7 = .ok (.putfield 16, 3) := by decide +kernel
theorem d5_10 : decode prog_33_method_4_code 10 = .ok (.aload_n 0, 1) := by decide +kernel
theorem d5_11 : decode prog_33_method_4_code 11 = .ok (.getfield 13, 3) := by decide +kernel
theorem d5_14 : decode prog_33_method_4_code 14 = .ok (.ifnonnull 11, 3) := by decide +kernel
theorem d5_17 : decode prog_33_method_4_code 17 = .ok (.aload_n 0, 1) := by decide +kernel
theorem d5_18 : decode prog_33_method_4_code 18 = .ok (.aload_n 2, 1) := by decide +kernel
theorem d5_19 : decode prog_33_method_4_code 19 = .ok (.putfield 7, 3) := by decide +kernel
theorem d5_22 : decode prog_33_method_4_code 22 = .ok (.goto 11, 3) := by decide +kernel
theorem d5_33 : decode prog_33_method_4_code 33 = .ok (.aload_n 0, 1) := by decide +kernel
theorem d5_34 : decode prog_33_method_4_code 34 = .ok (.aload_n 2, 1) := by decide +kernel
theorem d5_35 : decode prog_33_method_4_code 35 = .ok (.putfield 13, 3) := by decide +kernel
theorem d5_38 : decode prog_33_method_4_code 38 = .ok (.return_, 1) := by decide +kernel
theorem pn_5_rmaA : plainFor (⟨"com/example/gull/gull/WaitList", "add", "(Lcom/example/gull/gull/WaitList$Waiter;)V"⟩ : MethodName) = true := plainFor_of_name (by first | (simp [plainName, overriddenIn]; done) | decide +kernel)
theorem ef_rmaA {L : Addr} {x : Addr} (m : MethodId) : entryFrame m #[.ref L, .ref x] 3 = mkF m 0 #[.val (.ref L), .val (.ref x), .unset] [] := by first | (simp [entryFrame, mkF, argsToLocals, Value.category]; done) | rfl
set_option maxRecDepth 65536 in
set_option maxHeartbeats 40000000 in
theorem rmaA (l : Launch) (Z : State) (a0 : Array Value) (hw : ∀ d ∈ tables_1, d.before a0 Z = true) (L : Addr) (x : Addr)  (o1 : Value) (o2 : Value) (o3 : Value) (o4 : Value)  (h0 : Heap) (n0 : Nat) (Z0 : n0 ≤ h0.size) (E_L : Exa Z h0 L "com/example/gull/gull/WaitList") (E_x : Exa Z h0 x "com/example/gull/gull/WaitListRemovePinLaw") (F_L_first : Fld Z h0 L "com/example/gull/gull/WaitList" "first" "Lcom/example/gull/gull/WaitList$Waiter;" o1) (F_L_last : Fld Z h0 L "com/example/gull/gull/WaitList" "last" "Lcom/example/gull/gull/WaitList$Waiter;" .null) (F_x_previous : Fld Z h0 x "com/example/gull/gull/WaitList$Waiter" "previous" "Lcom/example/gull/gull/WaitList$Waiter;" o2) (F_x_next : Fld Z h0 x "com/example/gull/gull/WaitList$Waiter" "next" "Lcom/example/gull/gull/WaitList$Waiter;" o3) (F_x_waker : Fld Z h0 x "com/example/gull/gull/WaitList$Waiter" "waker" "Lcom/example/gull/gull/Waker;" o4)     (g_L : n0 ≤ L) (g_x : n0 ≤ x) (ne_L_x : L ≠ x)   :
    Met l Z (⟨"com/example/gull/gull/WaitList", "add", "(Lcom/example/gull/gull/WaitList$Waiter;)V"⟩ : MethodName) prog_33_method_4_code 3 none ({ frames := 0, cells := 0, slots := 0, locals := 0 } : Room) n0 #[.ref L, .ref x] h0 (fun v h => v = none ∧ Keep h0 h [L, x] ∧ Fld Z h L "com/example/gull/gull/WaitList" "first" "Lcom/example/gull/gull/WaitList$Waiter;" (.ref x) ∧ Fld Z h L "com/example/gull/gull/WaitList" "last" "Lcom/example/gull/gull/WaitList$Waiter;" (.ref x) ∧ Fld Z h x "com/example/gull/gull/WaitList$Waiter" "previous" "Lcom/example/gull/gull/WaitList$Waiter;" .null ∧ Fld Z h x "com/example/gull/gull/WaitList$Waiter" "next" "Lcom/example/gull/gull/WaitList$Waiter;" o3 ∧ Fld Z h x "com/example/gull/gull/WaitList$Waiter" "waker" "Lcom/example/gull/gull/Waker;" o4) := by
  have Kp0 := Keep.refl h0 [L, x]
  refine Met.of (Ls := #[.val (.ref L), .val (.ref x), .unset]) pn_5_rmaA (fun m => ef_rmaA m) fun p e s m below meth c T0 P hP k0 => ?_
  refine s_aloadN k0 d5_0 rfl rfl (pc' := 1) rfl ?_
  refine s_astoreN k0 d5_1 rfl (l' := #[.val (.ref L), .val (.ref x), .val (.ref x)]) rfl (pc' := 2) rfl ?_
  refine s_aloadN k0 d5_2 rfl rfl (pc' := 3) rfl ?_
  refine s_aloadN k0 d5_3 rfl rfl (pc' := 4) rfl ?_
  refine s_get k0 d5_4 (host := "") (Or.inl (hw _ (List.mem_of_getElem? (i := 35) rfl))) Via.refl F_L_last (pc' := 7) rfl fun T1 k1 => ?_
  refine s_putR k1 d5_7 (hw _ (List.mem_of_getElem? (i := 37) rfl)) Via.refl F_x_previous E_x (hw _ (List.mem_of_getElem? (i := 38) rfl)) (hw _ (List.mem_of_getElem? (i := 3) rfl)) (ty := (.object "com/example/gull/gull/WaitList$Waiter")) (by decide) rfl rfl g_x (pc' := 10) rfl fun T2 h2 L2 k2 W2 => ?_
  have F3_L_first := F_L_first.other W2 (Or.inl ne_L_x)
  have F4_L_last := F_L_last.other W2 (Or.inl ne_L_x)
  have F5_x_previous := F_x_previous.same W2
  have F6_x_next := F_x_next.other W2 (Or.inr (slot_ne (Or.inl (hw _ (List.mem_of_getElem? (i := 48) rfl))) (Or.inl (hw _ (List.mem_of_getElem? (i := 38) rfl))) (by decide) (t := (.object "com/example/gull/gull/WaitList$Waiter")) (t' := (.object "com/example/gull/gull/WaitList$Waiter")) (by decide) (by decide)))
  have F7_x_waker := F_x_waker.other W2 (Or.inr (slot_ne (Or.inl (hw _ (List.mem_of_getElem? (i := 22) rfl))) (Or.inl (hw _ (List.mem_of_getElem? (i := 38) rfl))) (by decide) (t := (.object "com/example/gull/gull/Waker")) (t' := (.object "com/example/gull/gull/WaitList$Waiter")) (by decide) (by decide)))
  have E8_L := E_L.wr W2
  have E9_x := E_x.wr W2
  have Z10 := Nat.le_trans Z0 (Keep.of_wr W2).1
  have Kp11 := Kp0.wr W2 (Or.inl (List.mem_of_getElem? (i := 1) rfl))
  refine s_aloadN k2 d5_10 rfl rfl (pc' := 11) rfl ?_
  refine s_get k2 d5_11 (host := "") (Or.inl (hw _ (List.mem_of_getElem? (i := 35) rfl))) Via.refl F4_L_last (pc' := 14) rfl fun T12 k12 => ?_
  refine s_nonnullN k12 d5_14 (pc' := 17) rfl ?_
  refine s_aloadN k12 d5_17 rfl rfl (pc' := 18) rfl ?_
  refine s_aloadN k12 d5_18 rfl rfl (pc' := 19) rfl ?_
  refine s_put k12 d5_19 (host := "") (Or.inl (hw _ (List.mem_of_getElem? (i := 39) rfl))) Via.refl F3_L_first E8_L (Or.inl (hw _ (List.mem_of_getElem? (i := 40) rfl))) (hw _ (List.mem_of_getElem? (i := 24) rfl)) (ty := (.object "com/example/gull/gull/WaitList$Waiter")) (by decide) rfl rfl g_L (pc' := 22) rfl fun T13 h13 L13 k13 W13 => ?_
  have F14_L_first := F3_L_first.same W13
  have F15_L_last := F4_L_last.other W13 (Or.inr (slot_ne (Or.inl (hw _ (List.mem_of_getElem? (i := 36) rfl))) (Or.inl (hw _ (List.mem_of_getElem? (i := 40) rfl))) (by decide) (t := (.object "com/example/gull/gull/WaitList$Waiter")) (t' := (.object "com/example/gull/gull/WaitList$Waiter")) (by decide) (by decide)))
  have F16_x_previous := F5_x_previous.other W13 (Or.inl (Ne.symm ne_L_x))
  have F17_x_next := F6_x_next.other W13 (Or.inl (Ne.symm ne_L_x))
  have F18_x_waker := F7_x_waker.other W13 (Or.inl (Ne.symm ne_L_x))
  have E19_L := E8_L.wr W13
  have E20_x := E9_x.wr W13
  have Z21 := Nat.le_trans Z10 (Keep.of_wr W13).1
  have Kp22 := Kp11.wr W13 (Or.inl (List.mem_of_getElem? (i := 0) rfl))
  refine s_goto k13 d5_22 (by decide) (pc' := 33) (by decide) ?_
  refine s_aloadN k13 d5_33 rfl rfl (pc' := 34) rfl ?_
  refine s_aloadN k13 d5_34 rfl rfl (pc' := 35) rfl ?_
  refine s_put k13 d5_35 (host := "") (Or.inl (hw _ (List.mem_of_getElem? (i := 35) rfl))) Via.refl F15_L_last E19_L (Or.inl (hw _ (List.mem_of_getElem? (i := 36) rfl))) (hw _ (List.mem_of_getElem? (i := 24) rfl)) (ty := (.object "com/example/gull/gull/WaitList$Waiter")) (by decide) rfl rfl g_L (pc' := 38) rfl fun T23 h23 L23 k23 W23 => ?_
  have F24_L_first := F14_L_first.other W23 (Or.inr (slot_ne (Or.inl (hw _ (List.mem_of_getElem? (i := 40) rfl))) (Or.inl (hw _ (List.mem_of_getElem? (i := 36) rfl))) (by decide) (t := (.object "com/example/gull/gull/WaitList$Waiter")) (t' := (.object "com/example/gull/gull/WaitList$Waiter")) (by decide) (by decide)))
  have F25_L_last := F15_L_last.same W23
  have F26_x_previous := F16_x_previous.other W23 (Or.inl (Ne.symm ne_L_x))
  have F27_x_next := F17_x_next.other W23 (Or.inl (Ne.symm ne_L_x))
  have F28_x_waker := F18_x_waker.other W23 (Or.inl (Ne.symm ne_L_x))
  have E29_L := E19_L.wr W23
  have E30_x := E20_x.wr W23
  have Z31 := Nat.le_trans Z21 (Keep.of_wr W23).1
  have Kp32 := Kp22.wr W23 (Or.inl (List.mem_of_getElem? (i := 0) rfl))
  exact s_ret k23 d5_38 rfl hP (by decide) (by decide) ⟨rfl, Kp32, F24_L_first, F25_L_last, F26_x_previous, F27_x_next, F28_x_waker⟩
theorem d5_25 : decode prog_33_method_4_code 25 = .ok (.aload_n 0, 1) := by decide +kernel
theorem d5_26 : decode prog_33_method_4_code 26 = .ok (.getfield 13, 3) := by decide +kernel
theorem d5_29 : decode prog_33_method_4_code 29 = .ok (.aload_n 2, 1) := by decide +kernel
theorem d5_30 : decode prog_33_method_4_code 30 = .ok (.putfield 21, 3) := by decide +kernel
theorem pn_5_rmaB : plainFor (⟨"com/example/gull/gull/WaitList", "add", "(Lcom/example/gull/gull/WaitList$Waiter;)V"⟩ : MethodName) = true := plainFor_of_name (by first | (simp [plainName, overriddenIn]; done) | decide +kernel)
theorem ef_rmaB {L : Addr} {x : Addr} (m : MethodId) : entryFrame m #[.ref L, .ref x] 3 = mkF m 0 #[.val (.ref L), .val (.ref x), .unset] [] := by first | (simp [entryFrame, mkF, argsToLocals, Value.category]; done) | rfl
set_option maxRecDepth 65536 in
set_option maxHeartbeats 40000000 in
theorem rmaB (l : Launch) (Z : State) (a0 : Array Value) (hw : ∀ d ∈ tables_1, d.before a0 Z = true) (L : Addr) (x : Addr) (t : Addr)  (o1 : Value) (o2 : Value) (o3 : Value) (o4 : Value) (o5 : Value) (o6 : Value) (o7 : Value)  (h0 : Heap) (n0 : Nat) (Z0 : n0 ≤ h0.size) (E_L : Exa Z h0 L "com/example/gull/gull/WaitList") (E_x : Exa Z h0 x "com/example/gull/gull/WaitListRemovePinLaw") (E_t : Exa Z h0 t "com/example/gull/gull/WaitListRemovePinLaw") (F_L_first : Fld Z h0 L "com/example/gull/gull/WaitList" "first" "Lcom/example/gull/gull/WaitList$Waiter;" o1) (F_L_last : Fld Z h0 L "com/example/gull/gull/WaitList" "last" "Lcom/example/gull/gull/WaitList$Waiter;" (.ref t)) (F_x_previous : Fld Z h0 x "com/example/gull/gull/WaitList$Waiter" "previous" "Lcom/example/gull/gull/WaitList$Waiter;" o2) (F_x_next : Fld Z h0 x "com/example/gull/gull/WaitList$Waiter" "next" "Lcom/example/gull/gull/WaitList$Waiter;" o3) (F_x_waker : Fld Z h0 x "com/example/gull/gull/WaitList$Waiter" "waker" "Lcom/example/gull/gull/Waker;" o4) (F_t_previous : Fld Z h0 t "com/example/gull/gull/WaitList$Waiter" "previous" "Lcom/example/gull/gull/WaitList$Waiter;" o5) (F_t_next : Fld Z h0 t "com/example/gull/gull/WaitList$Waiter" "next" "Lcom/example/gull/gull/WaitList$Waiter;" o6) (F_t_waker : Fld Z h0 t "com/example/gull/gull/WaitList$Waiter" "waker" "Lcom/example/gull/gull/Waker;" o7)     (g_L : n0 ≤ L) (g_x : n0 ≤ x) (g_t : n0 ≤ t) (ne_L_x : L ≠ x) (ne_L_t : L ≠ t) (ne_x_t : x ≠ t)   :
    Met l Z (⟨"com/example/gull/gull/WaitList", "add", "(Lcom/example/gull/gull/WaitList$Waiter;)V"⟩ : MethodName) prog_33_method_4_code 3 none ({ frames := 0, cells := 0, slots := 0, locals := 0 } : Room) n0 #[.ref L, .ref x] h0 (fun v h => v = none ∧ Keep h0 h [L, x, t] ∧ Fld Z h L "com/example/gull/gull/WaitList" "first" "Lcom/example/gull/gull/WaitList$Waiter;" o1 ∧ Fld Z h L "com/example/gull/gull/WaitList" "last" "Lcom/example/gull/gull/WaitList$Waiter;" (.ref x) ∧ Fld Z h x "com/example/gull/gull/WaitList$Waiter" "previous" "Lcom/example/gull/gull/WaitList$Waiter;" (.ref t) ∧ Fld Z h x "com/example/gull/gull/WaitList$Waiter" "next" "Lcom/example/gull/gull/WaitList$Waiter;" o3 ∧ Fld Z h x "com/example/gull/gull/WaitList$Waiter" "waker" "Lcom/example/gull/gull/Waker;" o4 ∧ Fld Z h t "com/example/gull/gull/WaitList$Waiter" "previous" "Lcom/example/gull/gull/WaitList$Waiter;" o5 ∧ Fld Z h t "com/example/gull/gull/WaitList$Waiter" "next" "Lcom/example/gull/gull/WaitList$Waiter;" (.ref x) ∧ Fld Z h t "com/example/gull/gull/WaitList$Waiter" "waker" "Lcom/example/gull/gull/Waker;" o7) := by
  have Kp0 := Keep.refl h0 [L, x, t]
  refine Met.of (Ls := #[.val (.ref L), .val (.ref x), .unset]) pn_5_rmaB (fun m => ef_rmaB m) fun p e s m below meth c T0 P hP k0 => ?_
  refine s_aloadN k0 d5_0 rfl rfl (pc' := 1) rfl ?_
  refine s_astoreN k0 d5_1 rfl (l' := #[.val (.ref L), .val (.ref x), .val (.ref x)]) rfl (pc' := 2) rfl ?_
  refine s_aloadN k0 d5_2 rfl rfl (pc' := 3) rfl ?_
  refine s_aloadN k0 d5_3 rfl rfl (pc' := 4) rfl ?_
  refine s_get k0 d5_4 (host := "") (Or.inl (hw _ (List.mem_of_getElem? (i := 35) rfl))) Via.refl F_L_last (pc' := 7) rfl fun T1 k1 => ?_
  refine s_putR k1 d5_7 (hw _ (List.mem_of_getElem? (i := 37) rfl)) Via.refl F_x_previous E_x (hw _ (List.mem_of_getElem? (i := 38) rfl)) (hw _ (List.mem_of_getElem? (i := 3) rfl)) (ty := (.object "com/example/gull/gull/WaitList$Waiter")) (by decide) rfl rfl g_x (pc' := 10) rfl fun T2 h2 L2 k2 W2 => ?_
  have F3_L_first := F_L_first.other W2 (Or.inl ne_L_x)
  have F4_L_last := F_L_last.other W2 (Or.inl ne_L_x)
  have F5_x_previous := F_x_previous.same W2
  have F6_x_next := F_x_next.other W2 (Or.inr (slot_ne (Or.inl (hw _ (List.mem_of_getElem? (i := 48) rfl))) (Or.inl (hw _ (List.mem_of_getElem? (i := 38) rfl))) (by decide) (t := (.object "com/example/gull/gull/WaitList$Waiter")) (t' := (.object "com/example/gull/gull/WaitList$Waiter")) (by decide) (by decide)))
  have F7_x_waker := F_x_waker.other W2 (Or.inr (slot_ne (Or.inl (hw _ (List.mem_of_getElem? (i := 22) rfl))) (Or.inl (hw _ (List.mem_of_getElem? (i := 38) rfl))) (by decide) (t := (.object "com/example/gull/gull/Waker")) (t' := (.object "com/example/gull/gull/WaitList$Waiter")) (by decide) (by decide)))
  have F8_t_previous := F_t_previous.other W2 (Or.inl (Ne.symm ne_x_t))
  have F9_t_next := F_t_next.other W2 (Or.inl (Ne.symm ne_x_t))
  have F10_t_waker := F_t_waker.other W2 (Or.inl (Ne.symm ne_x_t))
  have E11_L := E_L.wr W2
  have E12_x := E_x.wr W2
  have E13_t := E_t.wr W2
  have Z14 := Nat.le_trans Z0 (Keep.of_wr W2).1
  have Kp15 := Kp0.wr W2 (Or.inl (List.mem_of_getElem? (i := 1) rfl))
  refine s_aloadN k2 d5_10 rfl rfl (pc' := 11) rfl ?_
  refine s_get k2 d5_11 (host := "") (Or.inl (hw _ (List.mem_of_getElem? (i := 35) rfl))) Via.refl F4_L_last (pc' := 14) rfl fun T16 k16 => ?_
  refine s_nonnullY k16 d5_14 (by decide) (pc' := 25) (by decide) ?_
  refine s_aloadN k16 d5_25 rfl rfl (pc' := 26) rfl ?_
  refine s_get k16 d5_26 (host := "") (Or.inl (hw _ (List.mem_of_getElem? (i := 35) rfl))) Via.refl F4_L_last (pc' := 29) rfl fun T17 k17 => ?_
  refine s_aloadN k17 d5_29 rfl rfl (pc' := 30) rfl ?_
  refine s_putR k17 d5_30 (hw _ (List.mem_of_getElem? (i := 47) rfl)) Via.refl F9_t_next E13_t (hw _ (List.mem_of_getElem? (i := 48) rfl)) (hw _ (List.mem_of_getElem? (i := 3) rfl)) (ty := (.object "com/example/gull/gull/WaitList$Waiter")) (by decide) rfl rfl g_t (pc' := 33) rfl fun T18 h18 L18 k18 W18 => ?_
  have F19_L_first := F3_L_first.other W18 (Or.inl ne_L_t)
  have F20_L_last := F4_L_last.other W18 (Or.inl ne_L_t)
  have F21_x_previous := F5_x_previous.other W18 (Or.inl ne_x_t)
  have F22_x_next := F6_x_next.other W18 (Or.inl ne_x_t)
  have F23_x_waker := F7_x_waker.other W18 (Or.inl ne_x_t)
  have F24_t_previous := F8_t_previous.other W18 (Or.inr (slot_ne (Or.inl (hw _ (List.mem_of_getElem? (i := 38) rfl))) (Or.inl (hw _ (List.mem_of_getElem? (i := 48) rfl))) (by decide) (t := (.object "com/example/gull/gull/WaitList$Waiter")) (t' := (.object "com/example/gull/gull/WaitList$Waiter")) (by decide) (by decide)))
  have F25_t_next := F9_t_next.same W18
  have F26_t_waker := F10_t_waker.other W18 (Or.inr (slot_ne (Or.inl (hw _ (List.mem_of_getElem? (i := 22) rfl))) (Or.inl (hw _ (List.mem_of_getElem? (i := 48) rfl))) (by decide) (t := (.object "com/example/gull/gull/Waker")) (t' := (.object "com/example/gull/gull/WaitList$Waiter")) (by decide) (by decide)))
  have E27_L := E11_L.wr W18
  have E28_x := E12_x.wr W18
  have E29_t := E13_t.wr W18
  have Z30 := Nat.le_trans Z14 (Keep.of_wr W18).1
  have Kp31 := Kp15.wr W18 (Or.inl (List.mem_of_getElem? (i := 2) rfl))
  refine s_aloadN k18 d5_33 rfl rfl (pc' := 34) rfl ?_
  refine s_aloadN k18 d5_34 rfl rfl (pc' := 35) rfl ?_
  refine s_put k18 d5_35 (host := "") (Or.inl (hw _ (List.mem_of_getElem? (i := 35) rfl))) Via.refl F20_L_last E27_L (Or.inl (hw _ (List.mem_of_getElem? (i := 36) rfl))) (hw _ (List.mem_of_getElem? (i := 24) rfl)) (ty := (.object "com/example/gull/gull/WaitList$Waiter")) (by decide) rfl rfl g_L (pc' := 38) rfl fun T32 h32 L32 k32 W32 => ?_
  have F33_L_first := F19_L_first.other W32 (Or.inr (slot_ne (Or.inl (hw _ (List.mem_of_getElem? (i := 40) rfl))) (Or.inl (hw _ (List.mem_of_getElem? (i := 36) rfl))) (by decide) (t := (.object "com/example/gull/gull/WaitList$Waiter")) (t' := (.object "com/example/gull/gull/WaitList$Waiter")) (by decide) (by decide)))
  have F34_L_last := F20_L_last.same W32
  have F35_x_previous := F21_x_previous.other W32 (Or.inl (Ne.symm ne_L_x))
  have F36_x_next := F22_x_next.other W32 (Or.inl (Ne.symm ne_L_x))
  have F37_x_waker := F23_x_waker.other W32 (Or.inl (Ne.symm ne_L_x))
  have F38_t_previous := F24_t_previous.other W32 (Or.inl (Ne.symm ne_L_t))
  have F39_t_next := F25_t_next.other W32 (Or.inl (Ne.symm ne_L_t))
  have F40_t_waker := F26_t_waker.other W32 (Or.inl (Ne.symm ne_L_t))
  have E41_L := E27_L.wr W32
  have E42_x := E28_x.wr W32
  have E43_t := E29_t.wr W32
  have Z44 := Nat.le_trans Z30 (Keep.of_wr W32).1
  have Kp45 := Kp31.wr W32 (Or.inl (List.mem_of_getElem? (i := 0) rfl))
  exact s_ret k32 d5_38 rfl hP (by decide) (by decide) ⟨rfl, Kp45, F33_L_first, F34_L_last, F35_x_previous, F36_x_next, F37_x_waker, F38_t_previous, F39_t_next, F40_t_waker⟩
theorem d6_0 : decode prog_33_method_5_code 0 = .ok (.aload_n 1, 1) := by decide +kernel
theorem d6_1 : decode prog_33_method_5_code 1 = .ok (.astore_n 2, 1) := by decide +kernel
theorem d6_2 : decode prog_33_method_5_code 2 = .ok (.aload_n 2, 1) := by decide +kernel
theorem d6_3 : decode prog_33_method_5_code 3 = .ok (.getfield 24, 3) := by decide +kernel
theorem d6_6 : decode prog_33_method_5_code 6 = .ok (.astore_n 3, 1) := by decide +kernel
theorem d6_7 : decode prog_33_method_5_code 7 = .ok (.aload_n 2, 1) := by decide +kernel
theorem d6_8 : decode prog_33_method_5_code 8 = .ok (.getfield 16, 3) := by decide +kernel
theorem d6_11 : decode prog_33_method_5_code 11 = .ok (.ifnonnull 14, 3) := by decide +kernel
theorem d6_14 : decode prog_33_method_5_code 14 = .ok (.aload_n 0, 1) := by decide +kernel
theorem d6_15 : decode prog_33_method_5_code 15 = .ok (.aload_n 2, 1) := by decide +kernel
theorem d6_16 : decode prog_33_method_5_code 16 = .ok (.getfield 21, 3) := by decide +kernel
theorem d6_19 : decode prog_33_method_5_code 19 = .ok (.putfield 7, 3) := by decide +kernel
theorem d6_22 : decode prog_33_method_5_code 22 = .ok (.goto 14, 3) := by decide +kernel
theorem d6_36 : decode prog_33_method_5_code 36 = .ok (.aload_n 2, 1) := by decide +kernel
theorem d6_37 : decode prog_33_method_5_code 37 = .ok (.getfield 21, 3) := by decide +kernel
theorem d6_40 : decode prog_33_method_5_code 40 = .ok (.ifnonnull 14, 3) := by decide +kernel
theorem d6_43 : decode prog_33_method_5_code 43 = .ok (.aload_n 0, 1) := by decide +kernel
theorem d6_44 : decode prog_33_method_5_code 44 = .ok (.aload_n 2, 1) := by decide +kernel
theorem d6_45 : decode prog_33_method_5_code 45 = .ok (.getfield 16, 3) := by decide +kernel
theorem d6_48 : decode prog_33_method_5_code 48 = .ok (.putfield 13, 3) := by decide +kernel
theorem d6_51 : decode prog_33_method_5_code 51 = .ok (.goto 14, 3) := by decide +kernel
theorem d6_65 : decode prog_33_method_5_code 65 = .ok (.aload_n 2, 1) := by decide +kernel
theorem d6_66 : decode prog_33_method_5_code 66 = .ok (.aconst_null, 1) := by decide +kernel
theorem d6_67 : decode prog_33_method_5_code 67 = .ok (.putfield 16, 3) := by decide +kernel
theorem d6_70 : decode prog_33_method_5_code 70 = .ok (.aload_n 2, 1) := by decide +kernel
theorem d6_71 : decode prog_33_method_5_code 71 = .ok (.aconst_null, 1) := by decide +kernel
theorem d6_72 : decode prog_33_method_5_code 72 = .ok (.putfield 21, 3) := by decide +kernel
theorem d6_75 : decode prog_33_method_5_code 75 = .ok (.aload_n 2, 1) := by decide +kernel
theorem d6_76 : decode prog_33_method_5_code 76 = .ok (.aconst_null, 1) := by decide +kernel
theorem d6_77 : decode prog_33_method_5_code 77 = .ok (.putfield 24, 3) := by decide +kernel
theorem d6_80 : decode prog_33_method_5_code 80 = .ok (.aload_n 3, 1) := by decide +kernel
theorem d6_81 : decode prog_33_method_5_code 81 = .ok (.areturn, 1) := by decide +kernel
theorem pn_6_rmr00 : plainFor (⟨"com/example/gull/gull/WaitList", "remove", "(Lcom/example/gull/gull/WaitList$Waiter;)Lcom/example/gull/gull/Waker;"⟩ : MethodName) = true := plainFor_of_name (by first | (simp [plainName, overriddenIn]; done) | decide +kernel)
theorem ef_rmr00 {L : Addr} {x : Addr} (m : MethodId) : entryFrame m #[.ref L, .ref x] 4 = mkF m 0 #[.val (.ref L), .val (.ref x), .unset, .unset] [] := by first | (simp [entryFrame, mkF, argsToLocals, Value.category]; done) | rfl
set_option maxRecDepth 65536 in
set_option maxHeartbeats 40000000 in
theorem rmr00 (l : Launch) (Z : State) (a0 : Array Value) (hw : ∀ d ∈ tables_1, d.before a0 Z = true) (L : Addr) (x : Addr)  (o1 : Value) (o2 : Value) (u : Value)  (h0 : Heap) (n0 : Nat) (Z0 : n0 ≤ h0.size) (E_L : Exa Z h0 L "com/example/gull/gull/WaitList") (E_x : Exa Z h0 x "com/example/gull/gull/WaitListRemovePinLaw") (F_L_first : Fld Z h0 L "com/example/gull/gull/WaitList" "first" "Lcom/example/gull/gull/WaitList$Waiter;" o1) (F_L_last : Fld Z h0 L "com/example/gull/gull/WaitList" "last" "Lcom/example/gull/gull/WaitList$Waiter;" o2) (F_x_previous : Fld Z h0 x "com/example/gull/gull/WaitList$Waiter" "previous" "Lcom/example/gull/gull/WaitList$Waiter;" .null) (F_x_next : Fld Z h0 x "com/example/gull/gull/WaitList$Waiter" "next" "Lcom/example/gull/gull/WaitList$Waiter;" .null) (F_x_waker : Fld Z h0 x "com/example/gull/gull/WaitList$Waiter" "waker" "Lcom/example/gull/gull/Waker;" u)     (g_L : n0 ≤ L) (g_x : n0 ≤ x) (ne_L_x : L ≠ x) (r_u : u.isRef = true)  :
    Met l Z (⟨"com/example/gull/gull/WaitList", "remove", "(Lcom/example/gull/gull/WaitList$Waiter;)Lcom/example/gull/gull/Waker;"⟩ : MethodName) prog_33_method_5_code 4 (some (.object "com/example/gull/gull/Waker")) ({ frames := 0, cells := 0, slots := 0, locals := 0 } : Room) n0 #[.ref L, .ref x] h0 (fun v h => v = some u ∧ Keep h0 h [L, x] ∧ Fld Z h L "com/example/gull/gull/WaitList" "first" "Lcom/example/gull/gull/WaitList$Waiter;" .null ∧ Fld Z h L "com/example/gull/gull/WaitList" "last" "Lcom/example/gull/gull/WaitList$Waiter;" .null ∧ Fld Z h x "com/example/gull/gull/WaitList$Waiter" "previous" "Lcom/example/gull/gull/WaitList$Waiter;" .null ∧ Fld Z h x "com/example/gull/gull/WaitList$Waiter" "next" "Lcom/example/gull/gull/WaitList$Waiter;" .null ∧ Fld Z h x "com/example/gull/gull/WaitList$Waiter" "waker" "Lcom/example/gull/gull/Waker;" .null) := by
  have Kp0 := Keep.refl h0 [L, x]
  refine Met.of (Ls := #[.val (.ref L), .val (.ref x), .unset, .unset]) pn_6_rmr00 (fun m => ef_rmr00 m) fun p e s m below meth c T0 P hP k0 => ?_
  refine s_aloadN k0 d6_0 rfl rfl (pc' := 1) rfl ?_
  refine s_astoreN k0 d6_1 rfl (l' := #[.val (.ref L), .val (.ref x), .val (.ref x), .unset]) rfl (pc' := 2) rfl ?_
  refine s_aloadN k0 d6_2 rfl rfl (pc' := 3) rfl ?_
  refine s_get k0 d6_3 (host := "") (Or.inl (hw _ (List.mem_of_getElem? (i := 46) rfl))) Via.refl F_x_waker (pc' := 6) rfl fun T1 k1 => ?_
  refine s_astoreN k1 d6_6 r_u (l' := #[.val (.ref L), .val (.ref x), .val (.ref x), .val u]) (by rcases ref_cases r_u with rfl | ⟨_, rfl⟩ <;> rfl) (pc' := 7) rfl ?_
  refine s_aloadN k1 d6_7 rfl rfl (pc' := 8) rfl ?_
  refine s_getR k1 d6_8 (hw _ (List.mem_of_getElem? (i := 37) rfl)) Via.refl F_x_previous (pc' := 11) rfl ?_
  refine s_nonnullN k1 d6_11 (pc' := 14) rfl ?_
  refine s_aloadN k1 d6_14 rfl rfl (pc' := 15) rfl ?_
  refine s_aloadN k1 d6_15 rfl rfl (pc' := 16) rfl ?_
  refine s_getR k1 d6_16 (hw _ (List.mem_of_getElem? (i := 47) rfl)) Via.refl F_x_next (pc' := 19) rfl ?_
  refine s_put k1 d6_19 (host := "") (Or.inl (hw _ (List.mem_of_getElem? (i := 39) rfl))) Via.refl F_L_first E_L (Or.inl (hw _ (List.mem_of_getElem? (i := 40) rfl))) (hw _ (List.mem_of_getElem? (i := 24) rfl)) (ty := (.object "com/example/gull/gull/WaitList$Waiter")) (by decide) rfl rfl g_L (pc' := 22) rfl fun T2 h2 L2 k2 W2 => ?_
  have F3_L_first := F_L_first.same W2
  have F4_L_last := F_L_last.other W2 (Or.inr (slot_ne (Or.inl (hw _ (List.mem_of_getElem? (i := 36) rfl))) (Or.inl (hw _ (List.mem_of_getElem? (i := 40) rfl))) (by decide) (t := (.object "com/example/gull/gull/WaitList$Waiter")) (t' := (.object "com/example/gull/gull/WaitList$Waiter")) (by decide) (by decide)))
  have F5_x_previous := F_x_previous.other W2 (Or.inl (Ne.symm ne_L_x))
  have F6_x_next := F_x_next.other W2 (Or.inl (Ne.symm ne_L_x))
  have F7_x_waker := F_x_waker.other W2 (Or.inl (Ne.symm ne_L_x))
  have E8_L := E_L.wr W2
  have E9_x := E_x.wr W2
  have Z10 := Nat.le_trans Z0 (Keep.of_wr W2).1
  have Kp11 := Kp0.wr W2 (Or.inl (List.mem_of_getElem? (i := 0) rfl))
  refine s_goto k2 d6_22 (by decide) (pc' := 36) (by decide) ?_
  refine s_aloadN k2 d6_36 rfl rfl (pc' := 37) rfl ?_
  refine s_getR k2 d6_37 (hw _ (List.mem_of_getElem? (i := 47) rfl)) Via.refl F6_x_next (pc' := 40) rfl ?_
  refine s_nonnullN k2 d6_40 (pc' := 43) rfl ?_
  refine s_aloadN k2 d6_43 rfl rfl (pc' := 44) rfl ?_
  refine s_aloadN k2 d6_44 rfl rfl (pc' := 45) rfl ?_
  refine s_getR k2 d6_45 (hw _ (List.mem_of_getElem? (i := 37) rfl)) Via.refl F5_x_previous (pc' := 48) rfl ?_
  refine s_put k2 d6_48 (host := "") (Or.inl (hw _ (List.mem_of_getElem? (i := 35) rfl))) Via.refl F4_L_last E8_L (Or.inl (hw _ (List.mem_of_getElem? (i := 36) rfl))) (hw _ (List.mem_of_getElem? (i := 24) rfl)) (ty := (.object "com/example/gull/gull/WaitList$Waiter")) (by decide) rfl rfl g_L (pc' := 51) rfl fun T12 h12 L12 k12 W12 => ?_
  have F13_L_first := F3_L_first.other W12 (Or.inr (slot_ne (Or.inl (hw _ (List.mem_of_getElem? (i := 40) rfl))) (Or.inl (hw _ (List.mem_of_getElem? (i := 36) rfl))) (by decide) (t := (.object "com/example/gull/gull/WaitList$Waiter")) (t' := (.object "com/example/gull/gull/WaitList$Waiter")) (by decide) (by decide)))
  have F14_L_last := F4_L_last.same W12
  have F15_x_previous := F5_x_previous.other W12 (Or.inl (Ne.symm ne_L_x))
  have F16_x_next := F6_x_next.other W12 (Or.inl (Ne.symm ne_L_x))
  have F17_x_waker := F7_x_waker.other W12 (Or.inl (Ne.symm ne_L_x))
  have E18_L := E8_L.wr W12
  have E19_x := E9_x.wr W12
  have Z20 := Nat.le_trans Z10 (Keep.of_wr W12).1
  have Kp21 := Kp11.wr W12 (Or.inl (List.mem_of_getElem? (i := 0) rfl))
  refine s_goto k12 d6_51 (by decide) (pc' := 65) (by decide) ?_
  refine s_aloadN k12 d6_65 rfl rfl (pc' := 66) rfl ?_
  refine s_null k12 d6_66 (pc' := 67) rfl ?_
  refine s_putR k12 d6_67 (hw _ (List.mem_of_getElem? (i := 37) rfl)) Via.refl F15_x_previous E19_x (hw _ (List.mem_of_getElem? (i := 38) rfl)) (hw _ (List.mem_of_getElem? (i := 3) rfl)) (ty := (.object "com/example/gull/gull/WaitList$Waiter")) (by decide) rfl rfl g_x (pc' := 70) rfl fun T22 h22 L22 k22 W22 => ?_
  have F23_L_first := F13_L_first.other W22 (Or.inl ne_L_x)
  have F24_L_last := F14_L_last.other W22 (Or.inl ne_L_x)
  have F25_x_previous := F15_x_previous.same W22
  have F26_x_next := F16_x_next.other W22 (Or.inr (slot_ne (Or.inl (hw _ (List.mem_of_getElem? (i := 48) rfl))) (Or.inl (hw _ (List.mem_of_getElem? (i := 38) rfl))) (by decide) (t := (.object "com/example/gull/gull/WaitList$Waiter")) (t' := (.object "com/example/gull/gull/WaitList$Waiter")) (by decide) (by decide)))
  have F27_x_waker := F17_x_waker.other W22 (Or.inr (slot_ne (Or.inl (hw _ (List.mem_of_getElem? (i := 22) rfl))) (Or.inl (hw _ (List.mem_of_getElem? (i := 38) rfl))) (by decide) (t := (.object "com/example/gull/gull/Waker")) (t' := (.object "com/example/gull/gull/WaitList$Waiter")) (by decide) (by decide)))
  have E28_L := E18_L.wr W22
  have E29_x := E19_x.wr W22
  have Z30 := Nat.le_trans Z20 (Keep.of_wr W22).1
  have Kp31 := Kp21.wr W22 (Or.inl (List.mem_of_getElem? (i := 1) rfl))
  refine s_aloadN k22 d6_70 rfl rfl (pc' := 71) rfl ?_
  refine s_null k22 d6_71 (pc' := 72) rfl ?_
  refine s_putR k22 d6_72 (hw _ (List.mem_of_getElem? (i := 47) rfl)) Via.refl F26_x_next E29_x (hw _ (List.mem_of_getElem? (i := 48) rfl)) (hw _ (List.mem_of_getElem? (i := 3) rfl)) (ty := (.object "com/example/gull/gull/WaitList$Waiter")) (by decide) rfl rfl g_x (pc' := 75) rfl fun T32 h32 L32 k32 W32 => ?_
  have F33_L_first := F23_L_first.other W32 (Or.inl ne_L_x)
  have F34_L_last := F24_L_last.other W32 (Or.inl ne_L_x)
  have F35_x_previous := F25_x_previous.other W32 (Or.inr (slot_ne (Or.inl (hw _ (List.mem_of_getElem? (i := 38) rfl))) (Or.inl (hw _ (List.mem_of_getElem? (i := 48) rfl))) (by decide) (t := (.object "com/example/gull/gull/WaitList$Waiter")) (t' := (.object "com/example/gull/gull/WaitList$Waiter")) (by decide) (by decide)))
  have F36_x_next := F26_x_next.same W32
  have F37_x_waker := F27_x_waker.other W32 (Or.inr (slot_ne (Or.inl (hw _ (List.mem_of_getElem? (i := 22) rfl))) (Or.inl (hw _ (List.mem_of_getElem? (i := 48) rfl))) (by decide) (t := (.object "com/example/gull/gull/Waker")) (t' := (.object "com/example/gull/gull/WaitList$Waiter")) (by decide) (by decide)))
  have E38_L := E28_L.wr W32
  have E39_x := E29_x.wr W32
  have Z40 := Nat.le_trans Z30 (Keep.of_wr W32).1
  have Kp41 := Kp31.wr W32 (Or.inl (List.mem_of_getElem? (i := 1) rfl))
  refine s_aloadN k32 d6_75 rfl rfl (pc' := 76) rfl ?_
  refine s_null k32 d6_76 (pc' := 77) rfl ?_
  refine s_put k32 d6_77 (host := "") (Or.inl (hw _ (List.mem_of_getElem? (i := 46) rfl))) Via.refl F37_x_waker E39_x (Or.inl (hw _ (List.mem_of_getElem? (i := 22) rfl))) (hw _ (List.mem_of_getElem? (i := 3) rfl)) (ty := (.object "com/example/gull/gull/Waker")) (by decide) rfl rfl g_x (pc' := 80) rfl fun T42 h42 L42 k42 W42 => ?_
  have F43_L_first := F33_L_first.other W42 (Or.inl ne_L_x)
  have F44_L_last := F34_L_last.other W42 (Or.inl ne_L_x)
  have F45_x_previous := F35_x_previous.other W42 (Or.inr (slot_ne (Or.inl (hw _ (List.mem_of_getElem? (i := 38) rfl))) (Or.inl (hw _ (List.mem_of_getElem? (i := 22) rfl))) (by decide) (t := (.object "com/example/gull/gull/WaitList$Waiter")) (t' := (.object "com/example/gull/gull/Waker")) (by decide) (by decide)))
  have F46_x_next := F36_x_next.other W42 (Or.inr (slot_ne (Or.inl (hw _ (List.mem_of_getElem? (i := 48) rfl))) (Or.inl (hw _ (List.mem_of_getElem? (i := 22) rfl))) (by decide) (t := (.object "com/example/gull/gull/WaitList$Waiter")) (t' := (.object "com/example/gull/gull/Waker")) (by decide) (by decide)))
  have F47_x_waker := F37_x_waker.same W42
  have E48_L := E38_L.wr W42
  have E49_x := E39_x.wr W42
  have Z50 := Nat.le_trans Z40 (Keep.of_wr W42).1
  have Kp51 := Kp41.wr W42 (Or.inl (List.mem_of_getElem? (i := 1) rfl))
  refine s_aloadN k42 d6_80 rfl r_u (pc' := 81) rfl ?_
  exact s_retA k42 d6_81 rfl rfl r_u hP (by decide) (by decide) ⟨rfl, Kp51, F43_L_first, F44_L_last, F45_x_previous, F46_x_next, F47_x_waker⟩
theorem d6_54 : decode prog_33_method_5_code 54 = .ok (.aload_n 2, 1) := by decide +kernel
theorem d6_55 : decode prog_33_method_5_code 55 = .ok (.getfield 21, 3) := by decide +kernel
theorem d6_58 : decode prog_33_method_5_code 58 = .ok (.aload_n 2, 1) := by decide +kernel
theorem d6_59 : decode prog_33_method_5_code 59 = .ok (.getfield 16, 3) := by decide +kernel
theorem d6_62 : decode prog_33_method_5_code 62 = .ok (.putfield 16, 3) := by decide +kernel
theorem pn_6_rmr01 : plainFor (⟨"com/example/gull/gull/WaitList", "remove", "(Lcom/example/gull/gull/WaitList$Waiter;)Lcom/example/gull/gull/Waker;"⟩ : MethodName) = true := plainFor_of_name (by first | (simp [plainName, overriddenIn]; done) | decide +kernel)
theorem ef_rmr01 {L : Addr} {x : Addr} (m : MethodId) : entryFrame m #[.ref L, .ref x] 4 = mkF m 0 #[.val (.ref L), .val (.ref x), .unset, .unset] [] := by first | (simp [entryFrame, mkF, argsToLocals, Value.category]; done) | rfl
set_option maxRecDepth 65536 in
set_option maxHeartbeats 40000000 in
theorem rmr01 (l : Launch) (Z : State) (a0 : Array Value) (hw : ∀ d ∈ tables_1, d.before a0 Z = true) (L : Addr) (x : Addr) (n : Addr)  (o1 : Value) (o2 : Value) (u : Value) (o3 : Value) (o4 : Value) (o5 : Value)  (h0 : Heap) (n0 : Nat) (Z0 : n0 ≤ h0.size) (E_L : Exa Z h0 L "com/example/gull/gull/WaitList") (E_x : Exa Z h0 x "com/example/gull/gull/WaitListRemovePinLaw") (E_n : Exa Z h0 n "com/example/gull/gull/WaitListRemovePinLaw") (F_L_first : Fld Z h0 L "com/example/gull/gull/WaitList" "first" "Lcom/example/gull/gull/WaitList$Waiter;" o1) (F_L_last : Fld Z h0 L "com/example/gull/gull/WaitList" "last" "Lcom/example/gull/gull/WaitList$Waiter;" o2) (F_x_previous : Fld Z h0 x "com/example/gull/gull/WaitList$Waiter" "previous" "Lcom/example/gull/gull/WaitList$Waiter;" .null) (F_x_next : Fld Z h0 x "com/example/gull/gull/WaitList$Waiter" "next" "Lcom/example/gull/gull/WaitList$Waiter;" (.ref n)) (F_x_waker : Fld Z h0 x "com/example/gull/gull/WaitList$Waiter" "waker" "Lcom/example/gull/gull/Waker;" u) (F_n_previous : Fld Z h0 n "com/example/gull/gull/WaitList$Waiter" "previous" "Lcom/example/gull/gull/WaitList$Waiter;" o3) (F_n_next : Fld Z h0 n "com/example/gull/gull/WaitList$Waiter" "next" "Lcom/example/gull/gull/WaitList$Waiter;" o4) (F_n_waker : Fld Z h0 n "com/example/gull/gull/WaitList$Waiter" "waker" "Lcom/example/gull/gull/Waker;" o5)     (g_L : n0 ≤ L) (g_x : n0 ≤ x) (g_n : n0 ≤ n) (ne_L_x : L ≠ x) (ne_L_n : L ≠ n) (ne_x_n : x ≠ n) (r_u : u.isRef = true)  :
    Met l Z (⟨"com/example/gull/gull/WaitList", "remove", "(Lcom/example/gull/gull/WaitList$Waiter;)Lcom/example/gull/gull/Waker;"⟩ : MethodName) prog_33_method_5_code 4 (some (.object "com/example/gull/gull/Waker")) ({ frames := 0, cells := 0, slots := 0, locals := 0 } : Room) n0 #[.ref L, .ref x] h0 (fun v h => v = some u ∧ Keep h0 h [L, x, n] ∧ Fld Z h L "com/example/gull/gull/WaitList" "first" "Lcom/example/gull/gull/WaitList$Waiter;" (.ref n) ∧ Fld Z h L "com/example/gull/gull/WaitList" "last" "Lcom/example/gull/gull/WaitList$Waiter;" o2 ∧ Fld Z h x "com/example/gull/gull/WaitList$Waiter" "previous" "Lcom/example/gull/gull/WaitList$Waiter;" .null ∧ Fld Z h x "com/example/gull/gull/WaitList$Waiter" "next" "Lcom/example/gull/gull/WaitList$Waiter;" .null ∧ Fld Z h x "com/example/gull/gull/WaitList$Waiter" "waker" "Lcom/example/gull/gull/Waker;" .null ∧ Fld Z h n "com/example/gull/gull/WaitList$Waiter" "previous" "Lcom/example/gull/gull/WaitList$Waiter;" .null ∧ Fld Z h n "com/example/gull/gull/WaitList$Waiter" "next" "Lcom/example/gull/gull/WaitList$Waiter;" o4 ∧ Fld Z h n "com/example/gull/gull/WaitList$Waiter" "waker" "Lcom/example/gull/gull/Waker;" o5) := by
  have Kp0 := Keep.refl h0 [L, x, n]
  refine Met.of (Ls := #[.val (.ref L), .val (.ref x), .unset, .unset]) pn_6_rmr01 (fun m => ef_rmr01 m) fun p e s m below meth c T0 P hP k0 => ?_
  refine s_aloadN k0 d6_0 rfl rfl (pc' := 1) rfl ?_
  refine s_astoreN k0 d6_1 rfl (l' := #[.val (.ref L), .val (.ref x), .val (.ref x), .unset]) rfl (pc' := 2) rfl ?_
  refine s_aloadN k0 d6_2 rfl rfl (pc' := 3) rfl ?_
  refine s_get k0 d6_3 (host := "") (Or.inl (hw _ (List.mem_of_getElem? (i := 46) rfl))) Via.refl F_x_waker (pc' := 6) rfl fun T1 k1 => ?_
  refine s_astoreN k1 d6_6 r_u (l' := #[.val (.ref L), .val (.ref x), .val (.ref x), .val u]) (by rcases ref_cases r_u with rfl | ⟨_, rfl⟩ <;> rfl) (pc' := 7) rfl ?_
  refine s_aloadN k1 d6_7 rfl rfl (pc' := 8) rfl ?_
  refine s_getR k1 d6_8 (hw _ (List.mem_of_getElem? (i := 37) rfl)) Via.refl F_x_previous (pc' := 11) rfl ?_
  refine s_nonnullN k1 d6_11 (pc' := 14) rfl ?_
  refine s_aloadN k1 d6_14 rfl rfl (pc' := 15) rfl ?_
  refine s_aloadN k1 d6_15 rfl rfl (pc' := 16) rfl ?_
  refine s_getR k1 d6_16 (hw _ (List.mem_of_getElem? (i := 47) rfl)) Via.refl F_x_next (pc' := 19) rfl ?_
  refine s_put k1 d6_19 (host := "") (Or.inl (hw _ (List.mem_of_getElem? (i := 39) rfl))) Via.refl F_L_first E_L (Or.inl (hw _ (List.mem_of_getElem? (i := 40) rfl))) (hw _ (List.mem_of_getElem? (i := 24) rfl)) (ty := (.object "com/example/gull/gull/WaitList$Waiter")) (by decide) rfl rfl g_L (pc' := 22) rfl fun T2 h2 L2 k2 W2 => ?_
  have F3_L_first := F_L_first.same W2
  have F4_L_last := F_L_last.other W2 (Or.inr (slot_ne (Or.inl (hw _ (List.mem_of_getElem? (i := 36) rfl))) (Or.inl (hw _ (List.mem_of_getElem? (i := 40) rfl))) (by decide) (t := (.object "com/example/gull/gull/WaitList$Waiter")) (t' := (.object "com/example/gull/gull/WaitList$Waiter")) (by decide) (by decide)))
  have F5_x_previous := F_x_previous.other W2 (Or.inl (Ne.symm ne_L_x))
  have F6_x_next := F_x_next.other W2 (Or.inl (Ne.symm ne_L_x))
  have F7_x_waker := F_x_waker.other W2 (Or.inl (Ne.symm ne_L_x))
  have F8_n_previous := F_n_previous.other W2 (Or.inl (Ne.symm ne_L_n))
  have F9_n_next := F_n_next.other W2 (Or.inl (Ne.symm ne_L_n))
  have F10_n_waker := F_n_waker.other W2 (Or.inl (Ne.symm ne_L_n))
  have E11_L := E_L.wr W2
  have E12_x := E_x.wr W2
  have E13_n := E_n.wr W2
  have Z14 := Nat.le_trans Z0 (Keep.of_wr W2).1
  have Kp15 := Kp0.wr W2 (Or.inl (List.mem_of_getElem? (i := 0) rfl))
  refine s_goto k2 d6_22 (by decide) (pc' := 36) (by decide) ?_
  refine s_aloadN k2 d6_36 rfl rfl (pc' := 37) rfl ?_
  refine s_getR k2 d6_37 (hw _ (List.mem_of_getElem? (i := 47) rfl)) Via.refl F6_x_next (pc' := 40) rfl ?_
  refine s_nonnullY k2 d6_40 (by decide) (pc' := 54) (by decide) ?_
  refine s_aloadN k2 d6_54 rfl rfl (pc' := 55) rfl ?_
  refine s_getR k2 d6_55 (hw _ (List.mem_of_getElem? (i := 47) rfl)) Via.refl F6_x_next (pc' := 58) rfl ?_
  refine s_aloadN k2 d6_58 rfl rfl (pc' := 59) rfl ?_
  refine s_getR k2 d6_59 (hw _ (List.mem_of_getElem? (i := 37) rfl)) Via.refl F5_x_previous (pc' := 62) rfl ?_
  refine s_putR k2 d6_62 (hw _ (List.mem_of_getElem? (i := 37) rfl)) Via.refl F8_n_previous E13_n (hw _ (List.mem_of_getElem? (i := 38) rfl)) (hw _ (List.mem_of_getElem? (i := 3) rfl)) (ty := (.object "com/example/gull/gull/WaitList$Waiter")) (by decide) rfl rfl g_n (pc' := 65) rfl fun T16 h16 L16 k16 W16 => ?_
  have F17_L_first := F3_L_first.other W16 (Or.inl ne_L_n)
  have F18_L_last := F4_L_last.other W16 (Or.inl ne_L_n)
  have F19_x_previous := F5_x_previous.other W16 (Or.inl ne_x_n)
  have F20_x_next := F6_x_next.other W16 (Or.inl ne_x_n)
  have F21_x_waker := F7_x_waker.other W16 (Or.inl ne_x_n)
  have F22_n_previous := F8_n_previous.same W16
  have F23_n_next := F9_n_next.other W16 (Or.inr (slot_ne (Or.inl (hw _ (List.mem_of_getElem? (i := 48) rfl))) (Or.inl (hw _ (List.mem_of_getElem? (i := 38) rfl))) (by decide) (t := (.object "com/example/gull/gull/WaitList$Waiter")) (t' := (.object "com/example/gull/gull/WaitList$Waiter")) (by decide) (by decide)))
  have F24_n_waker := F10_n_waker.other W16 (Or.inr (slot_ne (Or.inl (hw _ (List.mem_of_getElem? (i := 22) rfl))) (Or.inl (hw _ (List.mem_of_getElem? (i := 38) rfl))) (by decide) (t := (.object "com/example/gull/gull/Waker")) (t' := (.object "com/example/gull/gull/WaitList$Waiter")) (by decide) (by decide)))
  have E25_L := E11_L.wr W16
  have E26_x := E12_x.wr W16
  have E27_n := E13_n.wr W16
  have Z28 := Nat.le_trans Z14 (Keep.of_wr W16).1
  have Kp29 := Kp15.wr W16 (Or.inl (List.mem_of_getElem? (i := 2) rfl))
  refine s_aloadN k16 d6_65 rfl rfl (pc' := 66) rfl ?_
  refine s_null k16 d6_66 (pc' := 67) rfl ?_
  refine s_putR k16 d6_67 (hw _ (List.mem_of_getElem? (i := 37) rfl)) Via.refl F19_x_previous E26_x (hw _ (List.mem_of_getElem? (i := 38) rfl)) (hw _ (List.mem_of_getElem? (i := 3) rfl)) (ty := (.object "com/example/gull/gull/WaitList$Waiter")) (by decide) rfl rfl g_x (pc' := 70) rfl fun T30 h30 L30 k30 W30 => ?_
  have F31_L_first := F17_L_first.other W30 (Or.inl ne_L_x)
  have F32_L_last := F18_L_last.other W30 (Or.inl ne_L_x)
  have F33_x_previous := F19_x_previous.same W30
  have F34_x_next := F20_x_next.other W30 (Or.inr (slot_ne (Or.inl (hw _ (List.mem_of_getElem? (i := 48) rfl))) (Or.inl (hw _ (List.mem_of_getElem? (i := 38) rfl))) (by decide) (t := (.object "com/example/gull/gull/WaitList$Waiter")) (t' := (.object "com/example/gull/gull/WaitList$Waiter")) (by decide) (by decide)))
  have F35_x_waker := F21_x_waker.other W30 (Or.inr (slot_ne (Or.inl (hw _ (List.mem_of_getElem? (i := 22) rfl))) (Or.inl (hw _ (List.mem_of_getElem? (i := 38) rfl))) (by decide) (t := (.object "com/example/gull/gull/Waker")) (t' := (.object "com/example/gull/gull/WaitList$Waiter")) (by decide) (by decide)))
  have F36_n_previous := F22_n_previous.other W30 (Or.inl (Ne.symm ne_x_n))
  have F37_n_next := F23_n_next.other W30 (Or.inl (Ne.symm ne_x_n))
  have F38_n_waker := F24_n_waker.other W30 (Or.inl (Ne.symm ne_x_n))
  have E39_L := E25_L.wr W30
  have E40_x := E26_x.wr W30
  have E41_n := E27_n.wr W30
  have Z42 := Nat.le_trans Z28 (Keep.of_wr W30).1
  have Kp43 := Kp29.wr W30 (Or.inl (List.mem_of_getElem? (i := 1) rfl))
  refine s_aloadN k30 d6_70 rfl rfl (pc' := 71) rfl ?_
  refine s_null k30 d6_71 (pc' := 72) rfl ?_
  refine s_putR k30 d6_72 (hw _ (List.mem_of_getElem? (i := 47) rfl)) Via.refl F34_x_next E40_x (hw _ (List.mem_of_getElem? (i := 48) rfl)) (hw _ (List.mem_of_getElem? (i := 3) rfl)) (ty := (.object "com/example/gull/gull/WaitList$Waiter")) (by decide) rfl rfl g_x (pc' := 75) rfl fun T44 h44 L44 k44 W44 => ?_
  have F45_L_first := F31_L_first.other W44 (Or.inl ne_L_x)
  have F46_L_last := F32_L_last.other W44 (Or.inl ne_L_x)
  have F47_x_previous := F33_x_previous.other W44 (Or.inr (slot_ne (Or.inl (hw _ (List.mem_of_getElem? (i := 38) rfl))) (Or.inl (hw _ (List.mem_of_getElem? (i := 48) rfl))) (by decide) (t := (.object "com/example/gull/gull/WaitList$Waiter")) (t' := (.object "com/example/gull/gull/WaitList$Waiter")) (by decide) (by decide)))
  have F48_x_next := F34_x_next.same W44
  have F49_x_waker := F35_x_waker.other W44 (Or.inr (slot_ne (Or.inl (hw _ (List.mem_of_getElem? (i := 22) rfl))) (Or.inl (hw _ (List.mem_of_getElem? (i := 48) rfl))) (by decide) (t := (.object "com/example/gull/gull/Waker")) (t' := (.object "com/example/gull/gull/WaitList$Waiter")) (by decide) (by decide)))
  have F50_n_previous := F36_n_previous.other W44 (Or.inl (Ne.symm ne_x_n))
  have F51_n_next := F37_n_next.other W44 (Or.inl (Ne.symm ne_x_n))
  have F52_n_waker := F38_n_waker.other W44 (Or.inl (Ne.symm ne_x_n))
  have E53_L := E39_L.wr W44
  have E54_x := E40_x.wr W44
  have E55_n := E41_n.wr W44
  have Z56 := Nat.le_trans Z42 (Keep.of_wr W44).1
  have Kp57 := Kp43.wr W44 (Or.inl (List.mem_of_getElem? (i := 1) rfl))
  refine s_aloadN k44 d6_75 rfl rfl (pc' := 76) rfl ?_
  refine s_null k44 d6_76 (pc' := 77) rfl ?_
  refine s_put k44 d6_77 (host := "") (Or.inl (hw _ (List.mem_of_getElem? (i := 46) rfl))) Via.refl F49_x_waker E54_x (Or.inl (hw _ (List.mem_of_getElem? (i := 22) rfl))) (hw _ (List.mem_of_getElem? (i := 3) rfl)) (ty := (.object "com/example/gull/gull/Waker")) (by decide) rfl rfl g_x (pc' := 80) rfl fun T58 h58 L58 k58 W58 => ?_
  have F59_L_first := F45_L_first.other W58 (Or.inl ne_L_x)
  have F60_L_last := F46_L_last.other W58 (Or.inl ne_L_x)
  have F61_x_previous := F47_x_previous.other W58 (Or.inr (slot_ne (Or.inl (hw _ (List.mem_of_getElem? (i := 38) rfl))) (Or.inl (hw _ (List.mem_of_getElem? (i := 22) rfl))) (by decide) (t := (.object "com/example/gull/gull/WaitList$Waiter")) (t' := (.object "com/example/gull/gull/Waker")) (by decide) (by decide)))
  have F62_x_next := F48_x_next.other W58 (Or.inr (slot_ne (Or.inl (hw _ (List.mem_of_getElem? (i := 48) rfl))) (Or.inl (hw _ (List.mem_of_getElem? (i := 22) rfl))) (by decide) (t := (.object "com/example/gull/gull/WaitList$Waiter")) (t' := (.object "com/example/gull/gull/Waker")) (by decide) (by decide)))
  have F63_x_waker := F49_x_waker.same W58
  have F64_n_previous := F50_n_previous.other W58 (Or.inl (Ne.symm ne_x_n))
  have F65_n_next := F51_n_next.other W58 (Or.inl (Ne.symm ne_x_n))
  have F66_n_waker := F52_n_waker.other W58 (Or.inl (Ne.symm ne_x_n))
  have E67_L := E53_L.wr W58
  have E68_x := E54_x.wr W58
  have E69_n := E55_n.wr W58
  have Z70 := Nat.le_trans Z56 (Keep.of_wr W58).1
  have Kp71 := Kp57.wr W58 (Or.inl (List.mem_of_getElem? (i := 1) rfl))
  refine s_aloadN k58 d6_80 rfl r_u (pc' := 81) rfl ?_
  exact s_retA k58 d6_81 rfl rfl r_u hP (by decide) (by decide) ⟨rfl, Kp71, F59_L_first, F60_L_last, F61_x_previous, F62_x_next, F63_x_waker, F64_n_previous, F65_n_next, F66_n_waker⟩
theorem d6_25 : decode prog_33_method_5_code 25 = .ok (.aload_n 2, 1) := by decide +kernel
theorem d6_26 : decode prog_33_method_5_code 26 = .ok (.getfield 16, 3) := by decide +kernel
theorem d6_29 : decode prog_33_method_5_code 29 = .ok (.aload_n 2, 1) := by decide +kernel
theorem d6_30 : decode prog_33_method_5_code 30 = .ok (.getfield 21, 3) := by decide +kernel
theorem d6_33 : decode prog_33_method_5_code 33 = .ok (.putfield 21, 3) := by decide +kernel
theorem pn_6_rmr10 : plainFor (⟨"com/example/gull/gull/WaitList", "remove", "(Lcom/example/gull/gull/WaitList$Waiter;)Lcom/example/gull/gull/Waker;"⟩ : MethodName) = true := plainFor_of_name (by first | (simp [plainName, overriddenIn]; done) | decide +kernel)
theorem ef_rmr10 {L : Addr} {x : Addr} (m : MethodId) : entryFrame m #[.ref L, .ref x] 4 = mkF m 0 #[.val (.ref L), .val (.ref x), .unset, .unset] [] := by first | (simp [entryFrame, mkF, argsToLocals, Value.category]; done) | rfl
set_option maxRecDepth 65536 in
set_option maxHeartbeats 40000000 in
theorem rmr10 (l : Launch) (Z : State) (a0 : Array Value) (hw : ∀ d ∈ tables_1, d.before a0 Z = true) (L : Addr) (x : Addr) (q : Addr)  (o1 : Value) (o2 : Value) (u : Value) (o3 : Value) (o4 : Value) (o5 : Value)  (h0 : Heap) (n0 : Nat) (Z0 : n0 ≤ h0.size) (E_L : Exa Z h0 L "com/example/gull/gull/WaitList") (E_x : Exa Z h0 x "com/example/gull/gull/WaitListRemovePinLaw") (E_q : Exa Z h0 q "com/example/gull/gull/WaitListRemovePinLaw") (F_L_first : Fld Z h0 L "com/example/gull/gull/WaitList" "first" "Lcom/example/gull/gull/WaitList$Waiter;" o1) (F_L_last : Fld Z h0 L "com/example/gull/gull/WaitList" "last" "Lcom/example/gull/gull/WaitList$Waiter;" o2) (F_x_previous : Fld Z h0 x "com/example/gull/gull/WaitList$Waiter" "previous" "Lcom/example/gull/gull/WaitList$Waiter;" (.ref q)) (F_x_next : Fld Z h0 x "com/example/gull/gull/WaitList$Waiter" "next" "Lcom/example/gull/gull/WaitList$Waiter;" .null) (F_x_waker : Fld Z h0 x "com/example/gull/gull/WaitList$Waiter" "waker" "Lcom/example/gull/gull/Waker;" u) (F_q_previous : Fld Z h0 q "com/example/gull/gull/WaitList$Waiter" "previous" "Lcom/example/gull/gull/WaitList$Waiter;" o3) (F_q_next : Fld Z h0 q "com/example/gull/gull/WaitList$Waiter" "next" "Lcom/example/gull/gull/WaitList$Waiter;" o4) (F_q_waker : Fld Z h0 q "com/example/gull/gull/WaitList$Waiter" "waker" "Lcom/example/gull/gull/Waker;" o5)     (g_L : n0 ≤ L) (g_x : n0 ≤ x) (g_q : n0 ≤ q) (ne_L_x : L ≠ x) (ne_L_q : L ≠ q) (ne_x_q : x ≠ q) (r_u : u.isRef = true)  :
    Met l Z (⟨"com/example/gull/gull/WaitList", "remove", "(Lcom/example/gull/gull/WaitList$Waiter;)Lcom/example/gull/gull/Waker;"⟩ : MethodName) prog_33_method_5_code 4 (some (.object "com/example/gull/gull/Waker")) ({ frames := 0, cells := 0, slots := 0, locals := 0 } : Room) n0 #[.ref L, .ref x] h0 (fun v h => v = some u ∧ Keep h0 h [L, x, q] ∧ Fld Z h L "com/example/gull/gull/WaitList" "first" "Lcom/example/gull/gull/WaitList$Waiter;" o1 ∧ Fld Z h L "com/example/gull/gull/WaitList" "last" "Lcom/example/gull/gull/WaitList$Waiter;" (.ref q) ∧ Fld Z h x "com/example/gull/gull/WaitList$Waiter" "previous" "Lcom/example/gull/gull/WaitList$Waiter;" .null ∧ Fld Z h x "com/example/gull/gull/WaitList$Waiter" "next" "Lcom/example/gull/gull/WaitList$Waiter;" .null ∧ Fld Z h x "com/example/gull/gull/WaitList$Waiter" "waker" "Lcom/example/gull/gull/Waker;" .null ∧ Fld Z h q "com/example/gull/gull/WaitList$Waiter" "previous" "Lcom/example/gull/gull/WaitList$Waiter;" o3 ∧ Fld Z h q "com/example/gull/gull/WaitList$Waiter" "next" "Lcom/example/gull/gull/WaitList$Waiter;" .null ∧ Fld Z h q "com/example/gull/gull/WaitList$Waiter" "waker" "Lcom/example/gull/gull/Waker;" o5) := by
  have Kp0 := Keep.refl h0 [L, x, q]
  refine Met.of (Ls := #[.val (.ref L), .val (.ref x), .unset, .unset]) pn_6_rmr10 (fun m => ef_rmr10 m) fun p e s m below meth c T0 P hP k0 => ?_
  refine s_aloadN k0 d6_0 rfl rfl (pc' := 1) rfl ?_
  refine s_astoreN k0 d6_1 rfl (l' := #[.val (.ref L), .val (.ref x), .val (.ref x), .unset]) rfl (pc' := 2) rfl ?_
  refine s_aloadN k0 d6_2 rfl rfl (pc' := 3) rfl ?_
  refine s_get k0 d6_3 (host := "") (Or.inl (hw _ (List.mem_of_getElem? (i := 46) rfl))) Via.refl F_x_waker (pc' := 6) rfl fun T1 k1 => ?_
  refine s_astoreN k1 d6_6 r_u (l' := #[.val (.ref L), .val (.ref x), .val (.ref x), .val u]) (by rcases ref_cases r_u with rfl | ⟨_, rfl⟩ <;> rfl) (pc' := 7) rfl ?_
  refine s_aloadN k1 d6_7 rfl rfl (pc' := 8) rfl ?_
  refine s_getR k1 d6_8 (hw _ (List.mem_of_getElem? (i := 37) rfl)) Via.refl F_x_previous (pc' := 11) rfl ?_
  refine s_nonnullY k1 d6_11 (by decide) (pc' := 25) (by decide) ?_
  refine s_aloadN k1 d6_25 rfl rfl (pc' := 26) rfl ?_
  refine s_getR k1 d6_26 (hw _ (List.mem_of_getElem? (i := 37) rfl)) Via.refl F_x_previous (pc' := 29) rfl ?_
  refine s_aloadN k1 d6_29 rfl rfl (pc' := 30) rfl ?_
  refine s_getR k1 d6_30 (hw _ (List.mem_of_getElem? (i := 47) rfl)) Via.refl F_x_next (pc' := 33) rfl ?_
  refine s_putR k1 d6_33 (hw _ (List.mem_of_getElem? (i := 47) rfl)) Via.refl F_q_next E_q (hw _ (List.mem_of_getElem? (i := 48) rfl)) (hw _ (List.mem_of_getElem? (i := 3) rfl)) (ty := (.object "com/example/gull/gull/WaitList$Waiter")) (by decide) rfl rfl g_q (pc' := 36) rfl fun T2 h2 L2 k2 W2 => ?_
  have F3_L_first := F_L_first.other W2 (Or.inl ne_L_q)
  have F4_L_last := F_L_last.other W2 (Or.inl ne_L_q)
  have F5_x_previous := F_x_previous.other W2 (Or.inl ne_x_q)
  have F6_x_next := F_x_next.other W2 (Or.inl ne_x_q)
  have F7_x_waker := F_x_waker.other W2 (Or.inl ne_x_q)
  have F8_q_previous := F_q_previous.other W2 (Or.inr (slot_ne (Or.inl (hw _ (List.mem_of_getElem? (i := 38) rfl))) (Or.inl (hw _ (List.mem_of_getElem? (i := 48) rfl))) (by decide) (t := (.object "com/example/gull/gull/WaitList$Waiter")) (t' := (.object "com/example/gull/gull/WaitList$Waiter")) (by decide) (by decide)))
  have F9_q_next := F_q_next.same W2
  have F10_q_waker := F_q_waker.other W2 (Or.inr (slot_ne (Or.inl (hw _ (List.mem_of_getElem? (i := 22) rfl))) (Or.inl (hw _ (List.mem_of_getElem? (i := 48) rfl))) (by decide) (t := (.object "com/example/gull/gull/Waker")) (t' := (.object "com/example/gull/gull/WaitList$Waiter")) (by decide) (by decide)))
  have E11_L := E_L.wr W2
  have E12_x := E_x.wr W2
  have E13_q := E_q.wr W2
  have Z14 := Nat.le_trans Z0 (Keep.of_wr W2).1
  have Kp15 := Kp0.wr W2 (Or.inl (List.mem_of_getElem? (i := 2) rfl))
  refine s_aloadN k2 d6_36 rfl rfl (pc' := 37) rfl ?_
  refine s_getR k2 d6_37 (hw _ (List.mem_of_getElem? (i := 47) rfl)) Via.refl F6_x_next (pc' := 40) rfl ?_
  refine s_nonnullN k2 d6_40 (pc' := 43) rfl ?_
  refine s_aloadN k2 d6_43 rfl rfl (pc' := 44) rfl ?_
  refine s_aloadN k2 d6_44 rfl rfl (pc' := 45) rfl ?_
  refine s_getR k2 d6_45 (hw _ (List.mem_of_getElem? (i := 37) rfl)) Via.refl F5_x_previous (pc' := 48) rfl ?_
  refine s_put k2 d6_48 (host := "") (Or.inl (hw _ (List.mem_of_getElem? (i := 35) rfl))) Via.refl F4_L_last E11_L (Or.inl (hw _ (List.mem_of_getElem? (i := 36) rfl))) (hw _ (List.mem_of_getElem? (i := 24) rfl)) (ty := (.object "com/example/gull/gull/WaitList$Waiter")) (by decide) rfl rfl g_L (pc' := 51) rfl fun T16 h16 L16 k16 W16 => ?_
  have F17_L_first := F3_L_first.other W16 (Or.inr (slot_ne (Or.inl (hw _ (List.mem_of_getElem? (i := 40) rfl))) (Or.inl (hw _ (List.mem_of_getElem? (i := 36) rfl))) (by decide) (t := (.object "com/example/gull/gull/WaitList$Waiter")) (t' := (.object "com/example/gull/gull/WaitList$Waiter")) (by decide) (by decide)))
  have F18_L_last := F4_L_last.same W16
  have F19_x_previous := F5_x_previous.other W16 (Or.inl (Ne.symm ne_L_x))
  have F20_x_next := F6_x_next.other W16 (Or.inl (Ne.symm ne_L_x))
  have F21_x_waker := F7_x_waker.other W16 (Or.inl (Ne.symm ne_L_x))
  have F22_q_previous := F8_q_previous.other W16 (Or.inl (Ne.symm ne_L_q))
  have F23_q_next := F9_q_next.other W16 (Or.inl (Ne.symm ne_L_q))
  have F24_q_waker := F10_q_waker.other W16 (Or.inl (Ne.symm ne_L_q))
  have E25_L := E11_L.wr W16
  have E26_x := E12_x.wr W16
  have E27_q := E13_q.wr W16
  have Z28 := Nat.le_trans Z14 (Keep.of_wr W16).1
  have Kp29 := Kp15.wr W16 (Or.inl (List.mem_of_getElem? (i := 0) rfl))
  refine s_goto k16 d6_51 (by decide) (pc' := 65) (by decide) ?_
  refine s_aloadN k16 d6_65 rfl rfl (pc' := 66) rfl ?_
  refine s_null k16 d6_66 (pc' := 67) rfl ?_
  refine s_putR k16 d6_67 (hw _ (List.mem_of_getElem? (i := 37) rfl)) Via.refl F19_x_previous E26_x (hw _ (List.mem_of_getElem? (i := 38) rfl)) (hw _ (List.mem_of_getElem? (i := 3) rfl)) (ty := (.object "com/example/gull/gull/WaitList$Waiter")) (by decide) rfl rfl g_x (pc' := 70) rfl fun T30 h30 L30 k30 W30 => ?_
  have F31_L_first := F17_L_first.other W30 (Or.inl ne_L_x)
  have F32_L_last := F18_L_last.other W30 (Or.inl ne_L_x)
  have F33_x_previous := F19_x_previous.same W30
  have F34_x_next := F20_x_next.other W30 (Or.inr (slot_ne (Or.inl (hw _ (List.mem_of_getElem? (i := 48) rfl))) (Or.inl (hw _ (List.mem_of_getElem? (i := 38) rfl))) (by decide) (t := (.object "com/example/gull/gull/WaitList$Waiter")) (t' := (.object "com/example/gull/gull/WaitList$Waiter")) (by decide) (by decide)))
  have F35_x_waker := F21_x_waker.other W30 (Or.inr (slot_ne (Or.inl (hw _ (List.mem_of_getElem? (i := 22) rfl))) (Or.inl (hw _ (List.mem_of_getElem? (i := 38) rfl))) (by decide) (t := (.object "com/example/gull/gull/Waker")) (t' := (.object "com/example/gull/gull/WaitList$Waiter")) (by decide) (by decide)))
  have F36_q_previous := F22_q_previous.other W30 (Or.inl (Ne.symm ne_x_q))
  have F37_q_next := F23_q_next.other W30 (Or.inl (Ne.symm ne_x_q))
  have F38_q_waker := F24_q_waker.other W30 (Or.inl (Ne.symm ne_x_q))
  have E39_L := E25_L.wr W30
  have E40_x := E26_x.wr W30
  have E41_q := E27_q.wr W30
  have Z42 := Nat.le_trans Z28 (Keep.of_wr W30).1
  have Kp43 := Kp29.wr W30 (Or.inl (List.mem_of_getElem? (i := 1) rfl))
  refine s_aloadN k30 d6_70 rfl rfl (pc' := 71) rfl ?_
  refine s_null k30 d6_71 (pc' := 72) rfl ?_
  refine s_putR k30 d6_72 (hw _ (List.mem_of_getElem? (i := 47) rfl)) Via.refl F34_x_next E40_x (hw _ (List.mem_of_getElem? (i := 48) rfl)) (hw _ (List.mem_of_getElem? (i := 3) rfl)) (ty := (.object "com/example/gull/gull/WaitList$Waiter")) (by decide) rfl rfl g_x (pc' := 75) rfl fun T44 h44 L44 k44 W44 => ?_
  have F45_L_first := F31_L_first.other W44 (Or.inl ne_L_x)
  have F46_L_last := F32_L_last.other W44 (Or.inl ne_L_x)
  have F47_x_previous := F33_x_previous.other W44 (Or.inr (slot_ne (Or.inl (hw _ (List.mem_of_getElem? (i := 38) rfl))) (Or.inl (hw _ (List.mem_of_getElem? (i := 48) rfl))) (by decide) (t := (.object "com/example/gull/gull/WaitList$Waiter")) (t' := (.object "com/example/gull/gull/WaitList$Waiter")) (by decide) (by decide)))
  have F48_x_next := F34_x_next.same W44
  have F49_x_waker := F35_x_waker.other W44 (Or.inr (slot_ne (Or.inl (hw _ (List.mem_of_getElem? (i := 22) rfl))) (Or.inl (hw _ (List.mem_of_getElem? (i := 48) rfl))) (by decide) (t := (.object "com/example/gull/gull/Waker")) (t' := (.object "com/example/gull/gull/WaitList$Waiter")) (by decide) (by decide)))
  have F50_q_previous := F36_q_previous.other W44 (Or.inl (Ne.symm ne_x_q))
  have F51_q_next := F37_q_next.other W44 (Or.inl (Ne.symm ne_x_q))
  have F52_q_waker := F38_q_waker.other W44 (Or.inl (Ne.symm ne_x_q))
  have E53_L := E39_L.wr W44
  have E54_x := E40_x.wr W44
  have E55_q := E41_q.wr W44
  have Z56 := Nat.le_trans Z42 (Keep.of_wr W44).1
  have Kp57 := Kp43.wr W44 (Or.inl (List.mem_of_getElem? (i := 1) rfl))
  refine s_aloadN k44 d6_75 rfl rfl (pc' := 76) rfl ?_
  refine s_null k44 d6_76 (pc' := 77) rfl ?_
  refine s_put k44 d6_77 (host := "") (Or.inl (hw _ (List.mem_of_getElem? (i := 46) rfl))) Via.refl F49_x_waker E54_x (Or.inl (hw _ (List.mem_of_getElem? (i := 22) rfl))) (hw _ (List.mem_of_getElem? (i := 3) rfl)) (ty := (.object "com/example/gull/gull/Waker")) (by decide) rfl rfl g_x (pc' := 80) rfl fun T58 h58 L58 k58 W58 => ?_
  have F59_L_first := F45_L_first.other W58 (Or.inl ne_L_x)
  have F60_L_last := F46_L_last.other W58 (Or.inl ne_L_x)
  have F61_x_previous := F47_x_previous.other W58 (Or.inr (slot_ne (Or.inl (hw _ (List.mem_of_getElem? (i := 38) rfl))) (Or.inl (hw _ (List.mem_of_getElem? (i := 22) rfl))) (by decide) (t := (.object "com/example/gull/gull/WaitList$Waiter")) (t' := (.object "com/example/gull/gull/Waker")) (by decide) (by decide)))
  have F62_x_next := F48_x_next.other W58 (Or.inr (slot_ne (Or.inl (hw _ (List.mem_of_getElem? (i := 48) rfl))) (Or.inl (hw _ (List.mem_of_getElem? (i := 22) rfl))) (by decide) (t := (.object "com/example/gull/gull/WaitList$Waiter")) (t' := (.object "com/example/gull/gull/Waker")) (by decide) (by decide)))
  have F63_x_waker := F49_x_waker.same W58
  have F64_q_previous := F50_q_previous.other W58 (Or.inl (Ne.symm ne_x_q))
  have F65_q_next := F51_q_next.other W58 (Or.inl (Ne.symm ne_x_q))
  have F66_q_waker := F52_q_waker.other W58 (Or.inl (Ne.symm ne_x_q))
  have E67_L := E53_L.wr W58
  have E68_x := E54_x.wr W58
  have E69_q := E55_q.wr W58
  have Z70 := Nat.le_trans Z56 (Keep.of_wr W58).1
  have Kp71 := Kp57.wr W58 (Or.inl (List.mem_of_getElem? (i := 1) rfl))
  refine s_aloadN k58 d6_80 rfl r_u (pc' := 81) rfl ?_
  exact s_retA k58 d6_81 rfl rfl r_u hP (by decide) (by decide) ⟨rfl, Kp71, F59_L_first, F60_L_last, F61_x_previous, F62_x_next, F63_x_waker, F64_q_previous, F65_q_next, F66_q_waker⟩
theorem pn_6_rmr11 : plainFor (⟨"com/example/gull/gull/WaitList", "remove", "(Lcom/example/gull/gull/WaitList$Waiter;)Lcom/example/gull/gull/Waker;"⟩ : MethodName) = true := plainFor_of_name (by first | (simp [plainName, overriddenIn]; done) | decide +kernel)
theorem ef_rmr11 {L : Addr} {x : Addr} (m : MethodId) : entryFrame m #[.ref L, .ref x] 4 = mkF m 0 #[.val (.ref L), .val (.ref x), .unset, .unset] [] := by first | (simp [entryFrame, mkF, argsToLocals, Value.category]; done) | rfl
set_option maxRecDepth 65536 in
set_option maxHeartbeats 40000000 in
theorem rmr11 (l : Launch) (Z : State) (a0 : Array Value) (hw : ∀ d ∈ tables_1, d.before a0 Z = true) (L : Addr) (x : Addr) (q : Addr) (n : Addr)  (o1 : Value) (o2 : Value) (u : Value) (o3 : Value) (o4 : Value) (o5 : Value) (o6 : Value) (o7 : Value) (o8 : Value)  (h0 : Heap) (n0 : Nat) (Z0 : n0 ≤ h0.size) (E_L : Exa Z h0 L "com/example/gull/gull/WaitList") (E_x : Exa Z h0 x "com/example/gull/gull/WaitListRemovePinLaw") (E_q : Exa Z h0 q "com/example/gull/gull/WaitListRemovePinLaw") (E_n : Exa Z h0 n "com/example/gull/gull/WaitListRemovePinLaw") (F_L_first : Fld Z h0 L "com/example/gull/gull/WaitList" "first" "Lcom/example/gull/gull/WaitList$Waiter;" o1) (F_L_last : Fld Z h0 L "com/example/gull/gull/WaitList" "last" "Lcom/example/gull/gull/WaitList$Waiter;" o2) (F_x_previous : Fld Z h0 x "com/example/gull/gull/WaitList$Waiter" "previous" "Lcom/example/gull/gull/WaitList$Waiter;" (.ref q)) (F_x_next : Fld Z h0 x "com/example/gull/gull/WaitList$Waiter" "next" "Lcom/example/gull/gull/WaitList$Waiter;" (.ref n)) (F_x_waker : Fld Z h0 x "com/example/gull/gull/WaitList$Waiter" "waker" "Lcom/example/gull/gull/Waker;" u) (F_q_previous : Fld Z h0 q "com/example/gull/gull/WaitList$Waiter" "previous" "Lcom/example/gull/gull/WaitList$Waiter;" o3) (F_q_next : Fld Z h0 q "com/example/gull/gull/WaitList$Waiter" "next" "Lcom/example/gull/gull/WaitList$Waiter;" o4) (F_q_waker : Fld Z h0 q "com/example/gull/gull/WaitList$Waiter" "waker" "Lcom/example/gull/gull/Waker;" o5) (F_n_previous : Fld Z h0 n "com/example/gull/gull/WaitList$Waiter" "previous" "Lcom/example/gull/gull/WaitList$Waiter;" o6) (F_n_next : Fld Z h0 n "com/example/gull/gull/WaitList$Waiter" "next" "Lcom/example/gull/gull/WaitList$Waiter;" o7) (F_n_waker : Fld Z h0 n "com/example/gull/gull/WaitList$Waiter" "waker" "Lcom/example/gull/gull/Waker;" o8)     (g_x : n0 ≤ x) (g_q : n0 ≤ q) (g_n : n0 ≤ n) (ne_L_x : L ≠ x) (ne_L_q : L ≠ q) (ne_L_n : L ≠ n) (ne_x_q : x ≠ q) (ne_x_n : x ≠ n) (ne_q_n : q ≠ n) (r_u : u.isRef = true)  :
    Met l Z (⟨"com/example/gull/gull/WaitList", "remove", "(Lcom/example/gull/gull/WaitList$Waiter;)Lcom/example/gull/gull/Waker;"⟩ : MethodName) prog_33_method_5_code 4 (some (.object "com/example/gull/gull/Waker")) ({ frames := 0, cells := 0, slots := 0, locals := 0 } : Room) n0 #[.ref L, .ref x] h0 (fun v h => v = some u ∧ Keep h0 h [x, q, n] ∧ Fld Z h x "com/example/gull/gull/WaitList$Waiter" "previous" "Lcom/example/gull/gull/WaitList$Waiter;" .null ∧ Fld Z h x "com/example/gull/gull/WaitList$Waiter" "next" "Lcom/example/gull/gull/WaitList$Waiter;" .null ∧ Fld Z h x "com/example/gull/gull/WaitList$Waiter" "waker" "Lcom/example/gull/gull/Waker;" .null ∧ Fld Z h q "com/example/gull/gull/WaitList$Waiter" "previous" "Lcom/example/gull/gull/WaitList$Waiter;" o3 ∧ Fld Z h q "com/example/gull/gull/WaitList$Waiter" "next" "Lcom/example/gull/gull/WaitList$Waiter;" (.ref n) ∧ Fld Z h q "com/example/gull/gull/WaitList$Waiter" "waker" "Lcom/example/gull/gull/Waker;" o5 ∧ Fld Z h n "com/example/gull/gull/WaitList$Waiter" "previous" "Lcom/example/gull/gull/WaitList$Waiter;" (.ref q) ∧ Fld Z h n "com/example/gull/gull/WaitList$Waiter" "next" "Lcom/example/gull/gull/WaitList$Waiter;" o7 ∧ Fld Z h n "com/example/gull/gull/WaitList$Waiter" "waker" "Lcom/example/gull/gull/Waker;" o8) := by
  have Kp0 := Keep.refl h0 [x, q, n]
  refine Met.of (Ls := #[.val (.ref L), .val (.ref x), .unset, .unset]) pn_6_rmr11 (fun m => ef_rmr11 m) fun p e s m below meth c T0 P hP k0 => ?_
  refine s_aloadN k0 d6_0 rfl rfl (pc' := 1) rfl ?_
  refine s_astoreN k0 d6_1 rfl (l' := #[.val (.ref L), .val (.ref x), .val (.ref x), .unset]) rfl (pc' := 2) rfl ?_
  refine s_aloadN k0 d6_2 rfl rfl (pc' := 3) rfl ?_
  refine s_get k0 d6_3 (host := "") (Or.inl (hw _ (List.mem_of_getElem? (i := 46) rfl))) Via.refl F_x_waker (pc' := 6) rfl fun T1 k1 => ?_
  refine s_astoreN k1 d6_6 r_u (l' := #[.val (.ref L), .val (.ref x), .val (.ref x), .val u]) (by rcases ref_cases r_u with rfl | ⟨_, rfl⟩ <;> rfl) (pc' := 7) rfl ?_
  refine s_aloadN k1 d6_7 rfl rfl (pc' := 8) rfl ?_
  refine s_getR k1 d6_8 (hw _ (List.mem_of_getElem? (i := 37) rfl)) Via.refl F_x_previous (pc' := 11) rfl ?_
  refine s_nonnullY k1 d6_11 (by decide) (pc' := 25) (by decide) ?_
  refine s_aloadN k1 d6_25 rfl rfl (pc' := 26) rfl ?_
  refine s_getR k1 d6_26 (hw _ (List.mem_of_getElem? (i := 37) rfl)) Via.refl F_x_previous (pc' := 29) rfl ?_
  refine s_aloadN k1 d6_29 rfl rfl (pc' := 30) rfl ?_
  refine s_getR k1 d6_30 (hw _ (List.mem_of_getElem? (i := 47) rfl)) Via.refl F_x_next (pc' := 33) rfl ?_
  refine s_putR k1 d6_33 (hw _ (List.mem_of_getElem? (i := 47) rfl)) Via.refl F_q_next E_q (hw _ (List.mem_of_getElem? (i := 48) rfl)) (hw _ (List.mem_of_getElem? (i := 3) rfl)) (ty := (.object "com/example/gull/gull/WaitList$Waiter")) (by decide) rfl rfl g_q (pc' := 36) rfl fun T2 h2 L2 k2 W2 => ?_
  have F3_L_first := F_L_first.other W2 (Or.inl ne_L_q)
  have F4_L_last := F_L_last.other W2 (Or.inl ne_L_q)
  have F5_x_previous := F_x_previous.other W2 (Or.inl ne_x_q)
  have F6_x_next := F_x_next.other W2 (Or.inl ne_x_q)
  have F7_x_waker := F_x_waker.other W2 (Or.inl ne_x_q)
  have F8_q_previous := F_q_previous.other W2 (Or.inr (slot_ne (Or.inl (hw _ (List.mem_of_getElem? (i := 38) rfl))) (Or.inl (hw _ (List.mem_of_getElem? (i := 48) rfl))) (by decide) (t := (.object "com/example/gull/gull/WaitList$Waiter")) (t' := (.object "com/example/gull/gull/WaitList$Waiter")) (by decide) (by decide)))
  have F9_q_next := F_q_next.same W2
  have F10_q_waker := F_q_waker.other W2 (Or.inr (slot_ne (Or.inl (hw _ (List.mem_of_getElem? (i := 22) rfl))) (Or.inl (hw _ (List.mem_of_getElem? (i := 48) rfl))) (by decide) (t := (.object "com/example/gull/gull/Waker")) (t' := (.object "com/example/gull/gull/WaitList$Waiter")) (by decide) (by decide)))
  have F11_n_previous := F_n_previous.other W2 (Or.inl (Ne.symm ne_q_n))
  have F12_n_next := F_n_next.other W2 (Or.inl (Ne.symm ne_q_n))
  have F13_n_waker := F_n_waker.other W2 (Or.inl (Ne.symm ne_q_n))
  have E14_L := E_L.wr W2
  have E15_x := E_x.wr W2
  have E16_q := E_q.wr W2
  have E17_n := E_n.wr W2
  have Z18 := Nat.le_trans Z0 (Keep.of_wr W2).1
  have Kp19 := Kp0.wr W2 (Or.inl (List.mem_of_getElem? (i := 1) rfl))
  refine s_aloadN k2 d6_36 rfl rfl (pc' := 37) rfl ?_
  refine s_getR k2 d6_37 (hw _ (List.mem_of_getElem? (i := 47) rfl)) Via.refl F6_x_next (pc' := 40) rfl ?_
  refine s_nonnullY k2 d6_40 (by decide) (pc' := 54) (by decide) ?_
  refine s_aloadN k2 d6_54 rfl rfl (pc' := 55) rfl ?_
  refine s_getR k2 d6_55 (hw _ (List.mem_of_getElem? (i := 47) rfl)) Via.refl F6_x_next (pc' := 58) rfl ?_
  refine s_aloadN k2 d6_58 rfl rfl (pc' := 59) rfl ?_
  refine s_getR k2 d6_59 (hw _ (List.mem_of_getElem? (i := 37) rfl)) Via.refl F5_x_previous (pc' := 62) rfl ?_
  refine s_putR k2 d6_62 (hw _ (List.mem_of_getElem? (i := 37) rfl)) Via.refl F11_n_previous E17_n (hw _ (List.mem_of_getElem? (i := 38) rfl)) (hw _ (List.mem_of_getElem? (i := 3) rfl)) (ty := (.object "com/example/gull/gull/WaitList$Waiter")) (by decide) rfl rfl g_n (pc' := 65) rfl fun T20 h20 L20 k20 W20 => ?_
  have F21_L_first := F3_L_first.other W20 (Or.inl ne_L_n)
  have F22_L_last := F4_L_last.other W20 (Or.inl ne_L_n)
  have F23_x_previous := F5_x_previous.other W20 (Or.inl ne_x_n)
  have F24_x_next := F6_x_next.other W20 (Or.inl ne_x_n)
  have F25_x_waker := F7_x_waker.other W20 (Or.inl ne_x_n)
  have F26_q_previous := F8_q_previous.other W20 (Or.inl ne_q_n)
  have F27_q_next := F9_q_next.other W20 (Or.inl ne_q_n)
  have F28_q_waker := F10_q_waker.other W20 (Or.inl ne_q_n)
  have F29_n_previous := F11_n_previous.same W20
  have F30_n_next := F12_n_next.other W20 (Or.inr (slot_ne (Or.inl (hw _ (List.mem_of_getElem? (i := 48) rfl))) (Or.inl (hw _ (List.mem_of_getElem? (i := 38) rfl))) (by decide) (t := (.object "com/example/gull/gull/WaitList$Waiter")) (t' := (.object "com/example/gull/gull/WaitList$Waiter")) (by decide) (by decide)))
  have F31_n_waker := F13_n_waker.other W20 (Or.inr (slot_ne (Or.inl (hw _ (List.mem_of_getElem? (i := 22) rfl))) (Or.inl (hw _ (List.mem_of_getElem? (i := 38) rfl))) (by decide) (t := (.object "com/example/gull/gull/Waker")) (t' := (.object "com/example/gull/gull/WaitList$Waiter")) (by decide) (by decide)))
  have E32_L := E14_L.wr W20
  have E33_x := E15_x.wr W20
  have E34_q := E16_q.wr W20
  have E35_n := E17_n.wr W20
  have Z36 := Nat.le_trans Z18 (Keep.of_wr W20).1
  have Kp37 := Kp19.wr W20 (Or.inl (List.mem_of_getElem? (i := 2) rfl))
  refine s_aloadN k20 d6_65 rfl rfl (pc' := 66) rfl ?_
  refine s_null k20 d6_66 (pc' := 67) rfl ?_
  refine s_putR k20 d6_67 (hw _ (List.mem_of_getElem? (i := 37) rfl)) Via.refl F23_x_previous E33_x (hw _ (List.mem_of_getElem? (i := 38) rfl)) (hw _ (List.mem_of_getElem? (i := 3) rfl)) (ty := (.object "com/example/gull/gull/WaitList$Waiter")) (by decide) rfl rfl g_x (pc' := 70) rfl fun T38 h38 L38 k38 W38 => ?_
  have F39_L_first := F21_L_first.other W38 (Or.inl ne_L_x)
  have F40_L_last := F22_L_last.other W38 (Or.inl ne_L_x)
  have F41_x_previous := F23_x_previous.same W38
  have F42_x_next := F24_x_next.other W38 (Or.inr (slot_ne (Or.inl (hw _ (List.mem_of_getElem? (i := 48) rfl))) (Or.inl (hw _ (List.mem_of_getElem? (i := 38) rfl))) (by decide) (t := (.object "com/example/gull/gull/WaitList$Waiter")) (t' := (.object "com/example/gull/gull/WaitList$Waiter")) (by decide) (by decide)))
  have F43_x_waker := F25_x_waker.other W38 (Or.inr (slot_ne (Or.inl (hw _ (List.mem_of_getElem? (i := 22) rfl))) (Or.inl (hw _ (List.mem_of_getElem? (i := 38) rfl))) (by decide) (t := (.object "com/example/gull/gull/Waker")) (t' := (.object "com/example/gull/gull/WaitList$Waiter")) (by decide) (by decide)))
  have F44_q_previous := F26_q_previous.other W38 (Or.inl (Ne.symm ne_x_q))
  have F45_q_next := F27_q_next.other W38 (Or.inl (Ne.symm ne_x_q))
  have F46_q_waker := F28_q_waker.other W38 (Or.inl (Ne.symm ne_x_q))
  have F47_n_previous := F29_n_previous.other W38 (Or.inl (Ne.symm ne_x_n))
  have F48_n_next := F30_n_next.other W38 (Or.inl (Ne.symm ne_x_n))
  have F49_n_waker := F31_n_waker.other W38 (Or.inl (Ne.symm ne_x_n))
  have E50_L := E32_L.wr W38
  have E51_x := E33_x.wr W38
  have E52_q := E34_q.wr W38
  have E53_n := E35_n.wr W38
  have Z54 := Nat.le_trans Z36 (Keep.of_wr W38).1
  have Kp55 := Kp37.wr W38 (Or.inl (List.mem_of_getElem? (i := 0) rfl))
  refine s_aloadN k38 d6_70 rfl rfl (pc' := 71) rfl ?_
  refine s_null k38 d6_71 (pc' := 72) rfl ?_
  refine s_putR k38 d6_72 (hw _ (List.mem_of_getElem? (i := 47) rfl)) Via.refl F42_x_next E51_x (hw _ (List.mem_of_getElem? (i := 48) rfl)) (hw _ (List.mem_of_getElem? (i := 3) rfl)) (ty := (.object "com/example/gull/gull/WaitList$Waiter")) (by decide) rfl rfl g_x (pc' := 75) rfl fun T56 h56 L56 k56 W56 => ?_
  have F57_L_first := F39_L_first.other W56 (Or.inl ne_L_x)
  have F58_L_last := F40_L_last.other W56 (Or.inl ne_L_x)
  have F59_x_previous := F41_x_previous.other W56 (Or.inr (slot_ne (Or.inl (hw _ (List.mem_of_getElem? (i := 38) rfl))) (Or.inl (hw _ (List.mem_of_getElem? (i := 48) rfl))) (by decide) (t := (.object "com/example/gull/gull/WaitList$Waiter")) (t' := (.object "com/example/gull/gull/WaitList$Waiter")) (by decide) (by decide)))
  have F60_x_next := F42_x_next.same W56
  have F61_x_waker := F43_x_waker.other W56 (Or.inr (slot_ne (Or.inl (hw _ (List.mem_of_getElem? (i := 22) rfl))) (Or.inl (hw _ (List.mem_of_getElem? (i := 48) rfl))) (by decide) (t := (.object "com/example/gull/gull/Waker")) (t' := (.object "com/example/gull/gull/WaitList$Waiter")) (by decide) (by decide)))
  have F62_q_previous := F44_q_previous.other W56 (Or.inl (Ne.symm ne_x_q))
  have F63_q_next := F45_q_next.other W56 (Or.inl (Ne.symm ne_x_q))
  have F64_q_waker := F46_q_waker.other W56 (Or.inl (Ne.symm ne_x_q))
  have F65_n_previous := F47_n_previous.other W56 (Or.inl (Ne.symm ne_x_n))
  have F66_n_next := F48_n_next.other W56 (Or.inl (Ne.symm ne_x_n))
  have F67_n_waker := F49_n_waker.other W56 (Or.inl (Ne.symm ne_x_n))
  have E68_L := E50_L.wr W56
  have E69_x := E51_x.wr W56
  have E70_q := E52_q.wr W56
  have E71_n := E53_n.wr W56
  have Z72 := Nat.le_trans Z54 (Keep.of_wr W56).1
  have Kp73 := Kp55.wr W56 (Or.inl (List.mem_of_getElem? (i := 0) rfl))
  refine s_aloadN k56 d6_75 rfl rfl (pc' := 76) rfl ?_
  refine s_null k56 d6_76 (pc' := 77) rfl ?_
  refine s_put k56 d6_77 (host := "") (Or.inl (hw _ (List.mem_of_getElem? (i := 46) rfl))) Via.refl F61_x_waker E69_x (Or.inl (hw _ (List.mem_of_getElem? (i := 22) rfl))) (hw _ (List.mem_of_getElem? (i := 3) rfl)) (ty := (.object "com/example/gull/gull/Waker")) (by decide) rfl rfl g_x (pc' := 80) rfl fun T74 h74 L74 k74 W74 => ?_
  have F75_L_first := F57_L_first.other W74 (Or.inl ne_L_x)
  have F76_L_last := F58_L_last.other W74 (Or.inl ne_L_x)
  have F77_x_previous := F59_x_previous.other W74 (Or.inr (slot_ne (Or.inl (hw _ (List.mem_of_getElem? (i := 38) rfl))) (Or.inl (hw _ (List.mem_of_getElem? (i := 22) rfl))) (by decide) (t := (.object "com/example/gull/gull/WaitList$Waiter")) (t' := (.object "com/example/gull/gull/Waker")) (by decide) (by decide)))
  have F78_x_next := F60_x_next.other W74 (Or.inr (slot_ne (Or.inl (hw _ (List.mem_of_getElem? (i := 48) rfl))) (Or.inl (hw _ (List.mem_of_getElem? (i := 22) rfl))) (by decide) (t := (.object "com/example/gull/gull/WaitList$Waiter")) (t' := (.object "com/example/gull/gull/Waker")) (by decide) (by decide)))
  have F79_x_waker := F61_x_waker.same W74
  have F80_q_previous := F62_q_previous.other W74 (Or.inl (Ne.symm ne_x_q))
  have F81_q_next := F63_q_next.other W74 (Or.inl (Ne.symm ne_x_q))
  have F82_q_waker := F64_q_waker.other W74 (Or.inl (Ne.symm ne_x_q))
  have F83_n_previous := F65_n_previous.other W74 (Or.inl (Ne.symm ne_x_n))
  have F84_n_next := F66_n_next.other W74 (Or.inl (Ne.symm ne_x_n))
  have F85_n_waker := F67_n_waker.other W74 (Or.inl (Ne.symm ne_x_n))
  have E86_L := E68_L.wr W74
  have E87_x := E69_x.wr W74
  have E88_q := E70_q.wr W74
  have E89_n := E71_n.wr W74
  have Z90 := Nat.le_trans Z72 (Keep.of_wr W74).1
  have Kp91 := Kp73.wr W74 (Or.inl (List.mem_of_getElem? (i := 0) rfl))
  refine s_aloadN k74 d6_80 rfl r_u (pc' := 81) rfl ?_
  exact s_retA k74 d6_81 rfl rfl r_u hP (by decide) (by decide) ⟨rfl, Kp91, F77_x_previous, F78_x_next, F79_x_waker, F80_q_previous, F81_q_next, F82_q_waker, F83_n_previous, F84_n_next, F85_n_waker⟩
theorem d8_0 : decode prog_33_method_3_code 0 = .ok (.aload_n 0, 1) := by decide +kernel
theorem d8_1 : decode prog_33_method_3_code 1 = .ok (.getfield 7, 3) := by decide +kernel
theorem d8_4 : decode prog_33_method_3_code 4 = .ok (.areturn, 1) := by decide +kernel
theorem pn_8_rmf : plainFor (⟨"com/example/gull/gull/WaitList", "first", "()Lcom/example/gull/gull/WaitList$Waiter;"⟩ : MethodName) = true := plainFor_of_name (by first | (simp [plainName, overriddenIn]; done) | decide +kernel)
theorem ef_rmf {L : Addr} (m : MethodId) : entryFrame m #[.ref L] 1 = mkF m 0 #[.val (.ref L)] [] := by first | (simp [entryFrame, mkF, argsToLocals, Value.category]; done) | rfl
set_option maxRecDepth 65536 in
set_option maxHeartbeats 40000000 in
theorem rmf (l : Launch) (Z : State) (a0 : Array Value) (hw : ∀ d ∈ tables_1, d.before a0 Z = true) (L : Addr)  (o1 : Value)  (h0 : Heap) (n0 : Nat) (Z0 : n0 ≤ h0.size)  (F_L_first : Fld Z h0 L "com/example/gull/gull/WaitList" "first" "Lcom/example/gull/gull/WaitList$Waiter;" o1)       (r_o1 : o1.isRef = true)  :
    Met l Z (⟨"com/example/gull/gull/WaitList", "first", "()Lcom/example/gull/gull/WaitList$Waiter;"⟩ : MethodName) prog_33_method_3_code 1 (some (.object "com/example/gull/gull/WaitList$Waiter")) ({ frames := 0, cells := 0, slots := 0, locals := 0 } : Room) n0 #[.ref L] h0 (fun v h => v = some o1 ∧ h0 = h) := by
  refine Met.of (Ls := #[.val (.ref L)]) pn_8_rmf (fun m => ef_rmf m) fun p e s m below meth c T0 P hP k0 => ?_
  refine s_aloadN k0 d8_0 rfl rfl (pc' := 1) rfl ?_
  refine s_get k0 d8_1 (host := "") (Or.inl (hw _ (List.mem_of_getElem? (i := 39) rfl))) Via.refl F_L_first (pc' := 4) rfl fun T1 k1 => ?_
  exact s_retA k1 d8_4 rfl rfl r_o1 hP (by decide) (by decide) ⟨rfl, rfl⟩
theorem d9_0 : decode prog_33_method_2_code 0 = .ok (.aload_n 0, 1) := by decide +kernel
theorem d9_1 : decode prog_33_method_2_code 1 = .ok (.getfield 7, 3) := by decide +kernel
theorem d9_4 : decode prog_33_method_2_code 4 = .ok (.ifnonnull 7, 3) := by decide +kernel
theorem d9_7 : decode prog_33_method_2_code 7 = .ok (.iconst 1, 1) := by decide +kernel
theorem d9_8 : decode prog_33_method_2_code 8 = .ok (.goto 4, 3) := by decide +kernel
theorem d9_12 : decode prog_33_method_2_code 12 = .ok (.ireturn, 1) := by decide +kernel
theorem pn_9_rme : plainFor (⟨"com/example/gull/gull/WaitList", "isEmpty", "()Z"⟩ : MethodName) = true := plainFor_of_name (by first | (simp [plainName, overriddenIn]; done) | decide +kernel)
theorem ef_rme {L : Addr} (m : MethodId) : entryFrame m #[.ref L] 1 = mkF m 0 #[.val (.ref L)] [] := by first | (simp [entryFrame, mkF, argsToLocals, Value.category]; done) | rfl
set_option maxRecDepth 65536 in
set_option maxHeartbeats 40000000 in
theorem rme (l : Launch) (Z : State) (a0 : Array Value) (hw : ∀ d ∈ tables_1, d.before a0 Z = true) (L : Addr)    (h0 : Heap) (n0 : Nat) (Z0 : n0 ≤ h0.size)  (F_L_first : Fld Z h0 L "com/example/gull/gull/WaitList" "first" "Lcom/example/gull/gull/WaitList$Waiter;" .null)         :
    Met l Z (⟨"com/example/gull/gull/WaitList", "isEmpty", "()Z"⟩ : MethodName) prog_33_method_2_code 1 (some .boolean) ({ frames := 0, cells := 0, slots := 0, locals := 0 } : Room) n0 #[.ref L] h0 (fun v h => v = some (.int (1 : Int32)) ∧ h0 = h) := by
  refine Met.of (Ls := #[.val (.ref L)]) pn_9_rme (fun m => ef_rme m) fun p e s m below meth c T0 P hP k0 => ?_
  refine s_aloadN k0 d9_0 rfl rfl (pc' := 1) rfl ?_
  refine s_get k0 d9_1 (host := "") (Or.inl (hw _ (List.mem_of_getElem? (i := 39) rfl))) Via.refl F_L_first (pc' := 4) rfl fun T1 k1 => ?_
  refine s_nonnullN k1 d9_4 (pc' := 7) rfl ?_
  refine s_iconst k1 (z := 1) d9_7 (by decide) (pc' := 8) rfl ?_
  refine s_goto k1 d9_8 (by decide) (pc' := 12) (by decide) ?_
  exact s_retZ k1 d9_12 rfl (by decide) hP (by decide) (by decide) ⟨rfl, rfl⟩
theorem d7_0 : decode method_4_code 0 = .ok (.aload_n 0, 1) := by decide +kernel
theorem d7_1 : decode method_4_code 1 = .ok (.invokevirtual 36, 3) := by decide +kernel
theorem d7_4 : decode method_4_code 4 = .ok (.checkcast 8, 3) := by decide +kernel
theorem d7_7 : decode method_4_code 7 = .ok (.astore_n 3, 1) := by decide +kernel
theorem d7_8 : decode method_4_code 8 = .ok (.aload_n 3, 1) := by decide +kernel
theorem d7_9 : decode method_4_code 9 = .ok (.aload_n 1, 1) := by decide +kernel
theorem d7_10 : decode method_4_code 10 = .ok (.if_acmp .ne 16, 3) := by decide +kernel
theorem d7_13 : decode method_4_code 13 = .ok (.aload_n 0, 1) := by decide +kernel
theorem d7_14 : decode method_4_code 14 = .ok (.aload_n 3, 1) := by decide +kernel
theorem d7_15 : decode method_4_code 15 = .ok (.invokevirtual 24, 3) := by decide +kernel
theorem d7_18 : decode method_4_code 18 = .ok (.aload_n 2, 1) := by decide +kernel
theorem d7_19 : decode method_4_code 19 = .ok (.if_acmp .ne 7, 3) := by decide +kernel
theorem d7_22 : decode method_4_code 22 = .ok (.iconst 1, 1) := by decide +kernel
theorem d7_23 : decode method_4_code 23 = .ok (.goto 4, 3) := by decide +kernel
theorem d7_27 : decode method_4_code 27 = .ok (.ireturn, 1) := by decide +kernel
theorem pd__28_29Lcom_2fexample_2fgull_2fgull_2fWaitList_24Waiter_3b : parseMethodDescriptor "()Lcom/example/gull/gull/WaitList$Waiter;" = some ⟨[], some (.object "com/example/gull/gull/WaitList$Waiter")⟩ := by decide +kernel
theorem pd__28Lcom_2fexample_2fgull_2fgull_2fWaitList_24Waiter_3b_29Lcom_2fexample_2fgull_2fgull_2fWaker_3b : parseMethodDescriptor "(Lcom/example/gull/gull/WaitList$Waiter;)Lcom/example/gull/gull/Waker;" = some ⟨[(.object "com/example/gull/gull/WaitList$Waiter")], some (.object "com/example/gull/gull/Waker")⟩ := by decide +kernel
theorem pn_7_rms0 : plainFor (⟨"com/example/gull/gull/WaitListRemovePinLaw", "step", "(Lcom/example/gull/gull/WaitList;Lcom/example/gull/gull/WaitListRemovePinLaw;Lcom/example/gull/gull/Waker;)Z"⟩ : MethodName) = true := plainFor_of_name (by first | (simp [plainName, overriddenIn]; done) | decide +kernel)
theorem ef_rms0 {L : Addr} {x : Addr} {u : Value} (r_u : u.isRef = true) (m : MethodId) : entryFrame m #[.ref L, .ref x, u] 4 = mkF m 0 #[.val (.ref L), .val (.ref x), .val u, .unset] [] := by rcases ref_cases r_u with rfl | ⟨_, rfl⟩ <;> first | (simp [entryFrame, mkF, argsToLocals, Value.category]; done) | rfl
set_option maxRecDepth 65536 in
set_option maxHeartbeats 40000000 in
theorem rms0 (l : Launch) (Z : State) (a0 : Array Value) (hw : ∀ d ∈ tables_1, d.before a0 Z = true) (L : Addr) (x : Addr)  (u : Value) (o2 : Value)  (h0 : Heap) (n0 : Nat) (Z0 : n0 ≤ h0.size) (E_L : Exa Z h0 L "com/example/gull/gull/WaitList") (E_x : Exa Z h0 x "com/example/gull/gull/WaitListRemovePinLaw") (F_L_first : Fld Z h0 L "com/example/gull/gull/WaitList" "first" "Lcom/example/gull/gull/WaitList$Waiter;" (.ref x)) (F_L_last : Fld Z h0 L "com/example/gull/gull/WaitList" "last" "Lcom/example/gull/gull/WaitList$Waiter;" o2) (F_x_previous : Fld Z h0 x "com/example/gull/gull/WaitList$Waiter" "previous" "Lcom/example/gull/gull/WaitList$Waiter;" .null) (F_x_next : Fld Z h0 x "com/example/gull/gull/WaitList$Waiter" "next" "Lcom/example/gull/gull/WaitList$Waiter;" .null) (F_x_waker : Fld Z h0 x "com/example/gull/gull/WaitList$Waiter" "waker" "Lcom/example/gull/gull/Waker;" u)     (g_L : n0 ≤ L) (g_x : n0 ≤ x) (ne_L_x : L ≠ x) (r_u : u.isRef = true)  :
    Met l Z (⟨"com/example/gull/gull/WaitListRemovePinLaw", "step", "(Lcom/example/gull/gull/WaitList;Lcom/example/gull/gull/WaitListRemovePinLaw;Lcom/example/gull/gull/Waker;)Z"⟩ : MethodName) method_4_code 4 (some .boolean) ({ frames := 1, cells := 0, slots := 0, locals := 16 } : Room) n0 #[.ref L, .ref x, u] h0 (fun v h => v = some (.int (1 : Int32)) ∧ Keep h0 h [L, x] ∧ Fld Z h L "com/example/gull/gull/WaitList" "first" "Lcom/example/gull/gull/WaitList$Waiter;" .null ∧ Fld Z h L "com/example/gull/gull/WaitList" "last" "Lcom/example/gull/gull/WaitList$Waiter;" .null ∧ Fld Z h x "com/example/gull/gull/WaitList$Waiter" "previous" "Lcom/example/gull/gull/WaitList$Waiter;" .null ∧ Fld Z h x "com/example/gull/gull/WaitList$Waiter" "next" "Lcom/example/gull/gull/WaitList$Waiter;" .null ∧ Fld Z h x "com/example/gull/gull/WaitList$Waiter" "waker" "Lcom/example/gull/gull/Waker;" .null) := by
  have Kp0 := Keep.refl h0 [L, x]
  refine Met.of (Ls := #[.val (.ref L), .val (.ref x), .val u, .unset]) pn_7_rms0 (fun m => ef_rms0 r_u m) fun p e s m below meth c T0 P hP k0 => ?_
  refine s_aloadN k0 d7_0 rfl rfl (pc' := 1) rfl ?_
  refine s_callV k0 [] 0 d7_1 (hw _ (List.mem_of_getElem? (i := 52) rfl)) (hw _ (List.mem_of_getElem? (i := 53) rfl)) (hw _ (List.mem_of_getElem? (i := 55) rfl)) (hw _ (List.mem_of_getElem? (i := 54) rfl)) (hw _ (List.mem_of_getElem? (i := 25) rfl)) (hw _ (List.mem_of_getElem? (i := 56) rfl)) (by decide) E_L (rmf l Z a0 hw L (.ref x) h0 n0 Z0 F_L_first rfl) (by decide) (by decide) pd__28_29Lcom_2fexample_2fgull_2fgull_2fWaitList_24Waiter_3b rfl (Nat.le_of_eq rfl) rfl (by decide) (by decide) rfl (pc' := 4) rfl fun v1 T1 h1 L1 k1 Qv1 => ?_
  obtain ⟨rfl, rfl⟩ := Qv1
  show Go p e below P T1 (mkF m 4 #[.val (.ref L), .val (.ref x), .val u, .unset] [.ref x])
  refine s_cast k1 d7_4 (hw _ (List.mem_of_getElem? (i := 1) rfl)) (Ins.self E_x) (pc' := 7) rfl fun T2 k2 => ?_
  refine s_astoreN k2 d7_7 rfl (l' := #[.val (.ref L), .val (.ref x), .val u, .val (.ref x)]) rfl (pc' := 8) rfl ?_
  refine s_aloadN k2 d7_8 rfl rfl (pc' := 9) rfl ?_
  refine s_aloadN k2 d7_9 rfl rfl (pc' := 10) rfl ?_
  refine s_acmp_ne k2 d7_10 rfl rfl (by decide) (pc' := 26) (by decide) (pc3 := 13) rfl (fun hc10 => ?_) (fun hc10 => absurd rfl hc10)
  refine s_aloadN k2 d7_13 rfl rfl (pc' := 14) rfl ?_
  refine s_aloadN k2 d7_14 rfl rfl (pc' := 15) rfl ?_
  refine s_callV k2 [.ref x] 0 d7_15 (hw _ (List.mem_of_getElem? (i := 41) rfl)) (hw _ (List.mem_of_getElem? (i := 42) rfl)) (hw _ (List.mem_of_getElem? (i := 44) rfl)) (hw _ (List.mem_of_getElem? (i := 43) rfl)) (hw _ (List.mem_of_getElem? (i := 25) rfl)) (hw _ (List.mem_of_getElem? (i := 45) rfl)) (by decide) E_L (rmr00 l Z a0 hw L x (.ref x) o2 u h0 n0 Z0 E_L E_x F_L_first F_L_last F_x_previous F_x_next F_x_waker g_L g_x ne_L_x r_u) (by decide) (by decide) pd__28Lcom_2fexample_2fgull_2fgull_2fWaitList_24Waiter_3b_29Lcom_2fexample_2fgull_2fgull_2fWaker_3b rfl (Nat.le_of_eq rfl) rfl (by decide) (by decide) rfl (pc' := 18) rfl fun v3 T3 h3 L3 k3 Qv3 => ?_
  obtain ⟨rfl, Kc3, G3_0, G3_1, G3_2, G3_3, G3_4⟩ := Qv3
  have E4_L := E_L.keep Kc3
  have E5_x := E_x.keep Kc3
  have Z6 := Nat.le_trans Z0 Kc3.1
  have Kp7 := Kp0.trans Kc3 (allS (Or.inl (List.mem_of_getElem? (i := 0) rfl)) (allS (Or.inl (List.mem_of_getElem? (i := 1) rfl)) all0))
  show Go p e below P T3 (mkF m 18 #[.val (.ref L), .val (.ref x), .val u, .val (.ref x)] [u])
  refine s_aloadN k3 d7_18 rfl r_u (pc' := 19) rfl ?_
  refine s_acmp_ne k3 d7_19 r_u r_u (by decide) (pc' := 26) (by decide) (pc3 := 22) rfl (fun hc19 => ?_) (fun hc19 => absurd rfl hc19)
  refine s_iconst k3 (z := 1) d7_22 (by decide) (pc' := 23) rfl ?_
  refine s_goto k3 d7_23 (by decide) (pc' := 27) (by decide) ?_
  exact s_retZ k3 d7_27 rfl (by decide) hP (by decide) (by decide) ⟨rfl, Kp7, G3_0, G3_1, G3_2, G3_3, G3_4⟩
theorem pn_7_rms1 : plainFor (⟨"com/example/gull/gull/WaitListRemovePinLaw", "step", "(Lcom/example/gull/gull/WaitList;Lcom/example/gull/gull/WaitListRemovePinLaw;Lcom/example/gull/gull/Waker;)Z"⟩ : MethodName) = true := plainFor_of_name (by first | (simp [plainName, overriddenIn]; done) | decide +kernel)
theorem ef_rms1 {L : Addr} {x : Addr} {u : Value} (r_u : u.isRef = true) (m : MethodId) : entryFrame m #[.ref L, .ref x, u] 4 = mkF m 0 #[.val (.ref L), .val (.ref x), .val u, .unset] [] := by rcases ref_cases r_u with rfl | ⟨_, rfl⟩ <;> first | (simp [entryFrame, mkF, argsToLocals, Value.category]; done) | rfl
set_option maxRecDepth 65536 in
set_option maxHeartbeats 40000000 in
theorem rms1 (l : Launch) (Z : State) (a0 : Array Value) (hw : ∀ d ∈ tables_1, d.before a0 Z = true) (L : Addr) (x : Addr) (n : Addr)  (u : Value) (o2 : Value) (o3 : Value) (o4 : Value) (o5 : Value)  (h0 : Heap) (n0 : Nat) (Z0 : n0 ≤ h0.size) (E_L : Exa Z h0 L "com/example/gull/gull/WaitList") (E_x : Exa Z h0 x "com/example/gull/gull/WaitListRemovePinLaw") (E_n : Exa Z h0 n "com/example/gull/gull/WaitListRemovePinLaw") (F_L_first : Fld Z h0 L "com/example/gull/gull/WaitList" "first" "Lcom/example/gull/gull/WaitList$Waiter;" (.ref x)) (F_L_last : Fld Z h0 L "com/example/gull/gull/WaitList" "last" "Lcom/example/gull/gull/WaitList$Waiter;" o2) (F_x_previous : Fld Z h0 x "com/example/gull/gull/WaitList$Waiter" "previous" "Lcom/example/gull/gull/WaitList$Waiter;" .null) (F_x_next : Fld Z h0 x "com/example/gull/gull/WaitList$Waiter" "next" "Lcom/example/gull/gull/WaitList$Waiter;" (.ref n)) (F_x_waker : Fld Z h0 x "com/example/gull/gull/WaitList$Waiter" "waker" "Lcom/example/gull/gull/Waker;" u) (F_n_previous : Fld Z h0 n "com/example/gull/gull/WaitList$Waiter" "previous" "Lcom/example/gull/gull/WaitList$Waiter;" o3) (F_n_next : Fld Z h0 n "com/example/gull/gull/WaitList$Waiter" "next" "Lcom/example/gull/gull/WaitList$Waiter;" o4) (F_n_waker : Fld Z h0 n "com/example/gull/gull/WaitList$Waiter" "waker" "Lcom/example/gull/gull/Waker;" o5)     (g_L : n0 ≤ L) (g_x : n0 ≤ x) (g_n : n0 ≤ n) (ne_L_x : L ≠ x) (ne_L_n : L ≠ n) (ne_x_n : x ≠ n) (r_u : u.isRef = true)  :
    Met l Z (⟨"com/example/gull/gull/WaitListRemovePinLaw", "step", "(Lcom/example/gull/gull/WaitList;Lcom/example/gull/gull/WaitListRemovePinLaw;Lcom/example/gull/gull/Waker;)Z"⟩ : MethodName) method_4_code 4 (some .boolean) ({ frames := 1, cells := 0, slots := 0, locals := 16 } : Room) n0 #[.ref L, .ref x, u] h0 (fun v h => v = some (.int (1 : Int32)) ∧ Keep h0 h [L, x, n] ∧ Fld Z h L "com/example/gull/gull/WaitList" "first" "Lcom/example/gull/gull/WaitList$Waiter;" (.ref n) ∧ Fld Z h L "com/example/gull/gull/WaitList" "last" "Lcom/example/gull/gull/WaitList$Waiter;" o2 ∧ Fld Z h x "com/example/gull/gull/WaitList$Waiter" "previous" "Lcom/example/gull/gull/WaitList$Waiter;" .null ∧ Fld Z h x "com/example/gull/gull/WaitList$Waiter" "next" "Lcom/example/gull/gull/WaitList$Waiter;" .null ∧ Fld Z h x "com/example/gull/gull/WaitList$Waiter" "waker" "Lcom/example/gull/gull/Waker;" .null ∧ Fld Z h n "com/example/gull/gull/WaitList$Waiter" "previous" "Lcom/example/gull/gull/WaitList$Waiter;" .null ∧ Fld Z h n "com/example/gull/gull/WaitList$Waiter" "next" "Lcom/example/gull/gull/WaitList$Waiter;" o4 ∧ Fld Z h n "com/example/gull/gull/WaitList$Waiter" "waker" "Lcom/example/gull/gull/Waker;" o5) := by
  have Kp0 := Keep.refl h0 [L, x, n]
  refine Met.of (Ls := #[.val (.ref L), .val (.ref x), .val u, .unset]) pn_7_rms1 (fun m => ef_rms1 r_u m) fun p e s m below meth c T0 P hP k0 => ?_
  refine s_aloadN k0 d7_0 rfl rfl (pc' := 1) rfl ?_
  refine s_callV k0 [] 0 d7_1 (hw _ (List.mem_of_getElem? (i := 52) rfl)) (hw _ (List.mem_of_getElem? (i := 53) rfl)) (hw _ (List.mem_of_getElem? (i := 55) rfl)) (hw _ (List.mem_of_getElem? (i := 54) rfl)) (hw _ (List.mem_of_getElem? (i := 25) rfl)) (hw _ (List.mem_of_getElem? (i := 56) rfl)) (by decide) E_L (rmf l Z a0 hw L (.ref x) h0 n0 Z0 F_L_first rfl) (by decide) (by decide) pd__28_29Lcom_2fexample_2fgull_2fgull_2fWaitList_24Waiter_3b rfl (Nat.le_of_eq rfl) rfl (by decide) (by decide) rfl (pc' := 4) rfl fun v1 T1 h1 L1 k1 Qv1 => ?_
  obtain ⟨rfl, rfl⟩ := Qv1
  show Go p e below P T1 (mkF m 4 #[.val (.ref L), .val (.ref x), .val u, .unset] [.ref x])
  refine s_cast k1 d7_4 (hw _ (List.mem_of_getElem? (i := 1) rfl)) (Ins.self E_x) (pc' := 7) rfl fun T2 k2 => ?_
  refine s_astoreN k2 d7_7 rfl (l' := #[.val (.ref L), .val (.ref x), .val u, .val (.ref x)]) rfl (pc' := 8) rfl ?_
  refine s_aloadN k2 d7_8 rfl rfl (pc' := 9) rfl ?_
  refine s_aloadN k2 d7_9 rfl rfl (pc' := 10) rfl ?_
  refine s_acmp_ne k2 d7_10 rfl rfl (by decide) (pc' := 26) (by decide) (pc3 := 13) rfl (fun hc10 => ?_) (fun hc10 => absurd rfl hc10)
  refine s_aloadN k2 d7_13 rfl rfl (pc' := 14) rfl ?_
  refine s_aloadN k2 d7_14 rfl rfl (pc' := 15) rfl ?_
  refine s_callV k2 [.ref x] 0 d7_15 (hw _ (List.mem_of_getElem? (i := 41) rfl)) (hw _ (List.mem_of_getElem? (i := 42) rfl)) (hw _ (List.mem_of_getElem? (i := 44) rfl)) (hw _ (List.mem_of_getElem? (i := 43) rfl)) (hw _ (List.mem_of_getElem? (i := 25) rfl)) (hw _ (List.mem_of_getElem? (i := 45) rfl)) (by decide) E_L (rmr01 l Z a0 hw L x n (.ref x) o2 u o3 o4 o5 h0 n0 Z0 E_L E_x E_n F_L_first F_L_last F_x_previous F_x_next F_x_waker F_n_previous F_n_next F_n_waker g_L g_x g_n ne_L_x ne_L_n ne_x_n r_u) (by decide) (by decide) pd__28Lcom_2fexample_2fgull_2fgull_2fWaitList_24Waiter_3b_29Lcom_2fexample_2fgull_2fgull_2fWaker_3b rfl (Nat.le_of_eq rfl) rfl (by decide) (by decide) rfl (pc' := 18) rfl fun v3 T3 h3 L3 k3 Qv3 => ?_
  obtain ⟨rfl, Kc3, G3_0, G3_1, G3_2, G3_3, G3_4, G3_5, G3_6, G3_7⟩ := Qv3
  have E4_L := E_L.keep Kc3
  have E5_x := E_x.keep Kc3
  have E6_n := E_n.keep Kc3
  have Z7 := Nat.le_trans Z0 Kc3.1
  have Kp8 := Kp0.trans Kc3 (allS (Or.inl (List.mem_of_getElem? (i := 0) rfl)) (allS (Or.inl (List.mem_of_getElem? (i := 1) rfl)) (allS (Or.inl (List.mem_of_getElem? (i := 2) rfl)) all0)))
  show Go p e below P T3 (mkF m 18 #[.val (.ref L), .val (.ref x), .val u, .val (.ref x)] [u])
  refine s_aloadN k3 d7_18 rfl r_u (pc' := 19) rfl ?_
  refine s_acmp_ne k3 d7_19 r_u r_u (by decide) (pc' := 26) (by decide) (pc3 := 22) rfl (fun hc19 => ?_) (fun hc19 => absurd rfl hc19)
  refine s_iconst k3 (z := 1) d7_22 (by decide) (pc' := 23) rfl ?_
  refine s_goto k3 d7_23 (by decide) (pc' := 27) (by decide) ?_
  exact s_retZ k3 d7_27 rfl (by decide) hP (by decide) (by decide) ⟨rfl, Kp8, G3_0, G3_1, G3_2, G3_3, G3_4, G3_5, G3_6, G3_7⟩
theorem own_r (x : Int32) : (x &&& (2147483647 : Int32)).toInt = x.toInt % 2 ^ 31 := Jvm.Kit.i32_mask x 2147483647 (k := 31) (by decide) (by decide)
theorem own_n (i0 : Int32) : ((1 : Int32) + ((i0 &&& (2147483647 : Int32)) % (3 : Int32))) = (1 : Int32) ∨ ((1 : Int32) + ((i0 &&& (2147483647 : Int32)) % (3 : Int32))) = (2 : Int32) ∨ ((1 : Int32) + ((i0 &&& (2147483647 : Int32)) % (3 : Int32))) = (3 : Int32) := by
  have d1 : (1 : Int32).toInt = 1 := by decide
  have d2 : (2 : Int32).toInt = 2 := by decide
  have d3 : (3 : Int32).toInt = 3 := by decide
  have e := own_r i0
  have m := Jvm.Kit.i32_rem_nonneg (x := i0 &&& (2147483647 : Int32)) (y := (3 : Int32)) (by rw [e]; omega)
  rw [e, d3] at m
  have s : ((1 : Int32) + ((i0 &&& (2147483647 : Int32)) % (3 : Int32))).toInt = 1 + i0.toInt % 2 ^ 31 % 3 := by rw [Jvm.Kit.i32_add (by rw [d1, m]; omega) (by rw [d1, m]; omega), d1, m]
  simp only [← Int32.toInt_inj, s, d1, d2, d3]
  omega
theorem own_nz (i0 : Int32) : ((1 : Int32) + ((i0 &&& (2147483647 : Int32)) % (3 : Int32))) ≠ 0 := by rcases own_n i0 with h | h | h <;> rw [h] <;> decide
theorem own_k1 (i1 : Int32) : ((i1 &&& (2147483647 : Int32)) % (1 : Int32)) = (0 : Int32) := by
  have d1 : (1 : Int32).toInt = 1 := by decide
  have d0 : (0 : Int32).toInt = 0 := by decide
  have m := Jvm.Kit.i32_rem_nonneg (x := i1 &&& (2147483647 : Int32)) (y := (1 : Int32)) (by rw [own_r i1]; omega)
  rw [own_r i1, d1] at m
  simp only [← Int32.toInt_inj, m, d0]
  omega
theorem own_k2 (i1 : Int32) : ((i1 &&& (2147483647 : Int32)) % (2 : Int32)) = (0 : Int32) ∨ ((i1 &&& (2147483647 : Int32)) % (2 : Int32)) = (1 : Int32) := by
  have d1 : (1 : Int32).toInt = 1 := by decide
  have d0 : (0 : Int32).toInt = 0 := by decide
  have d2 : (2 : Int32).toInt = 2 := by decide
  have m := Jvm.Kit.i32_rem_nonneg (x := i1 &&& (2147483647 : Int32)) (y := (2 : Int32)) (by rw [own_r i1]; omega)
  rw [own_r i1, d2] at m
  simp only [← Int32.toInt_inj, m, d0, d1]
  omega
theorem own_k3 (i1 : Int32) : ((i1 &&& (2147483647 : Int32)) % (3 : Int32)) = (0 : Int32) ∨ ((i1 &&& (2147483647 : Int32)) % (3 : Int32)) = (1 : Int32) ∨ ((i1 &&& (2147483647 : Int32)) % (3 : Int32)) = (2 : Int32) := by
  have d1 : (1 : Int32).toInt = 1 := by decide
  have d0 : (0 : Int32).toInt = 0 := by decide
  have d2 : (2 : Int32).toInt = 2 := by decide
  have d3 : (3 : Int32).toInt = 3 := by decide
  have m := Jvm.Kit.i32_rem_nonneg (x := i1 &&& (2147483647 : Int32)) (y := (3 : Int32)) (by rw [own_r i1]; omega)
  rw [own_r i1, d3] at m
  simp only [← Int32.toInt_inj, m, d0, d1, d2]
  omega
theorem pd__28Lcom_2fexample_2fgull_2fgull_2fWaitList_24Waiter_3b_29V : parseMethodDescriptor "(Lcom/example/gull/gull/WaitList$Waiter;)V" = some ⟨[(.object "com/example/gull/gull/WaitList$Waiter")], none⟩ := by decide +kernel
theorem pd__28Lcom_2fexample_2fgull_2fgull_2fWaitList_3bLcom_2fexample_2fgull_2fgull_2fWaitListRemovePinLaw_3bLcom_2fexample_2fgull_2fgull_2fWaker_3b_29Z : parseMethodDescriptor "(Lcom/example/gull/gull/WaitList;Lcom/example/gull/gull/WaitListRemovePinLaw;Lcom/example/gull/gull/Waker;)Z" = some ⟨[(.object "com/example/gull/gull/WaitList"), (.object "com/example/gull/gull/WaitListRemovePinLaw"), (.object "com/example/gull/gull/Waker")], some .boolean⟩ := by decide +kernel
theorem pd__28_29Z : parseMethodDescriptor "()Z" = some ⟨[], some .boolean⟩ := by decide +kernel
theorem pn_0_rm0 : plainFor (⟨"com/example/gull/gull/WaitListRemovePinLaw", "law", "(III)Z"⟩ : MethodName) = true := plainFor_of_name (by first | (simp [plainName, overriddenIn]; done) | decide +kernel)
theorem ef_rm0 {i0 : Int32} {i1 : Int32} {i2 : Int32} (m : MethodId) : entryFrame m #[.int i0, .int i1, .int i2] maxLocals = mkF m 0 #[.val (.int i0), .val (.int i1), .val (.int i2), .unset, .unset, .unset, .unset, .unset, .unset, .unset] [] := by first | (simp [entryFrame, mkF, argsToLocals, Value.category, maxLocals]; done) | rfl
set_option maxRecDepth 65536 in
set_option maxHeartbeats 40000000 in
theorem rm0 (l : Launch) (Z : State) (a0 : Array Value) (hw : ∀ d ∈ tables_1, d.before a0 Z = true) (i0 i1 i2 : Int32) (h0 : Heap) (n0 : Nat) (Z0 : n0 ≤ h0.size)  :
    Met l Z x code maxLocals ret room_1 n0 #[.int i0, .int i1, .int i2] h0 (fun v h => v = some (.int 1)) := by
  refine Met.of (Ls := #[.val (.int i0), .val (.int i1), .val (.int i2), .unset, .unset, .unset, .unset, .unset, .unset, .unset]) pn_0_rm0 (fun m => ef_rm0 m) fun p e s m below meth c T0 P hP k0 => ?_
  refine s_iconst k0 (z := 1) at_0 (by decide) (pc' := 1) rfl ?_
  refine s_iloadN k0 at_1 rfl (pc' := 2) rfl ?_
  refine s_ldcI k0 at_2 (hw _ (List.mem_of_getElem? (i := 0) rfl)) (pc' := 4) rfl ?_
  refine s_iand k0 at_4 rfl (pc' := 5) rfl ?_
  refine s_iconst k0 (z := 3) at_5 (by decide) (pc' := 6) rfl ?_
  refine s_irem k0 at_6 (by decide) rfl (pc' := 7) rfl ?_
  refine s_iadd k0 at_7 rfl (pc' := 8) rfl ?_
  refine s_istoreN k0 at_8 (l' := #[.val (.int i0), .val (.int i1), .val (.int i2), .val (.int ((1 : Int32) + ((i0 &&& (2147483647 : Int32)) % (3 : Int32)))), .unset, .unset, .unset, .unset, .unset, .unset]) rfl (pc' := 9) rfl ?_
  refine s_iloadN k0 at_9 rfl (pc' := 10) rfl ?_
  refine s_ldcI k0 at_10 (hw _ (List.mem_of_getElem? (i := 0) rfl)) (pc' := 12) rfl ?_
  refine s_iand k0 at_12 rfl (pc' := 13) rfl ?_
  refine s_iloadN k0 at_13 rfl (pc' := 14) rfl ?_
  refine s_irem k0 at_14 (own_nz i0) rfl (pc' := 15) rfl ?_
  refine s_istore k0 at_15 (l' := #[.val (.int i0), .val (.int i1), .val (.int i2), .val (.int ((1 : Int32) + ((i0 &&& (2147483647 : Int32)) % (3 : Int32)))), .val (.int ((i1 &&& (2147483647 : Int32)) % ((1 : Int32) + ((i0 &&& (2147483647 : Int32)) % (3 : Int32))))), .unset, .unset, .unset, .unset, .unset]) rfl (pc' := 17) rfl ?_
  refine s_iconst k0 (z := 3) at_17 (by decide) (pc' := 18) rfl ?_
  refine s_newR k0 (cap := 3) at_18 (hw _ (List.mem_of_getElem? (i := 1) rfl)) (hw _ (List.mem_of_getElem? (i := 2) rfl)) (by decide) (by decide) (by decide) (by decide) (by decide) (pc' := 21) rfl fun T1 h1 b1 c1 q1 k1 X1 A1 O1 => ?_
  have g_b1 : n0 ≤ b1 := Nat.le_trans Z0 (Nat.le_of_eq q1.symm)
  have Z2 := Nat.le_trans Z0 X1.1
  have A1p : Arv Z h1 b1 c1 (.object "com/example/gull/gull/WaitListRemovePinLaw") (3 : Int32) [.null, .null, .null] .null := A1.pad (pad_rep [] .null 3)
  refine s_astore k1 at_21 rfl (l' := #[.val (.int i0), .val (.int i1), .val (.int i2), .val (.int ((1 : Int32) + ((i0 &&& (2147483647 : Int32)) % (3 : Int32)))), .val (.int ((i1 &&& (2147483647 : Int32)) % ((1 : Int32) + ((i0 &&& (2147483647 : Int32)) % (3 : Int32))))), .val (.ref b1), .unset, .unset, .unset, .unset]) rfl (pc' := 23) rfl ?_
  refine s_aload k1 at_23 rfl rfl (pc' := 25) rfl ?_
  refine s_iconst k1 (z := 0) at_25 (by decide) (pc' := 26) rfl ?_
  refine s_new k1 at_26 (hw _ (List.mem_of_getElem? (i := 1) rfl)) (hw _ (List.mem_of_getElem? (i := 3) rfl)) (hw _ (List.mem_of_getElem? (i := 4) rfl)) (by decide) (by decide) (pc' := 29) rfl fun T3 h3 b3 q3 k3 X3 E3 D3 => ?_
  have ne_b1_b3 : b1 ≠ b3 := Nat.ne_of_lt (Nat.lt_of_lt_of_eq A1p.lt q3.symm)
  have g_b3 : n0 ≤ b3 := Nat.le_trans Z2 (Nat.le_of_eq q3.symm)
  have A4_b1 := A1p.ext X3
  have Z5 := Nat.le_trans Z2 X3.1
  have F3_b3_waker : Fld Z h3 b3 "com/example/gull/gull/WaitList$Waiter" "waker" "Lcom/example/gull/gull/Waker;" .null := D3 (Or.inl (hw _ (List.mem_of_getElem? (i := 22) rfl))) (ty := (.object "com/example/gull/gull/Waker")) (by decide)
  have F3_b3_previous : Fld Z h3 b3 "com/example/gull/gull/WaitList$Waiter" "previous" "Lcom/example/gull/gull/WaitList$Waiter;" .null := D3 (Or.inl (hw _ (List.mem_of_getElem? (i := 38) rfl))) (ty := (.object "com/example/gull/gull/WaitList$Waiter")) (by decide)
  have F3_b3_next : Fld Z h3 b3 "com/example/gull/gull/WaitList$Waiter" "next" "Lcom/example/gull/gull/WaitList$Waiter;" .null := D3 (Or.inl (hw _ (List.mem_of_getElem? (i := 48) rfl))) (ty := (.object "com/example/gull/gull/WaitList$Waiter")) (by decide)
  refine s_dup k3 at_29 rfl (pc' := 30) rfl ?_
  refine s_callI k3 [] 3 at_30 rfl (hw _ (List.mem_of_getElem? (i := 5) rfl)) (hw _ (List.mem_of_getElem? (i := 6) rfl)) (hw _ (List.mem_of_getElem? (i := 4) rfl)) (hw _ (List.mem_of_getElem? (i := 7) rfl)) (by decide) (rmp l Z a0 hw b3 h3 n0 Z5 ) (by decide) (by decide) pd__28_29V rfl (Nat.le_of_eq rfl) rfl (by decide) (by decide) rfl (pc' := 33) rfl fun v6 T6 h6 L6 k6 Qv6 => ?_
  obtain ⟨rfl, rfl⟩ := Qv6
  show Go p e below P T6 (mkF m 33 #[.val (.int i0), .val (.int i1), .val (.int i2), .val (.int ((1 : Int32) + ((i0 &&& (2147483647 : Int32)) % (3 : Int32)))), .val (.int ((i1 &&& (2147483647 : Int32)) % ((1 : Int32) + ((i0 &&& (2147483647 : Int32)) % (3 : Int32))))), .val (.ref b1), .unset, .unset, .unset, .unset] [.ref b3, .int (0 : Int32), .ref b1])
  refine s_aastore k6 at_33 A4_b1 ⟨by decide, by decide⟩ (i := 0) rfl (Nat.le_of_ble_eq_true rfl) O1 (Or.inr ⟨_, rfl, (Ins.self E3)⟩) g_b1 (pc' := 34) rfl fun T7 h7 L7 k7 W7 A7 => ?_
  have F8_b3_waker := F3_b3_waker.other W7 (Or.inl (Ne.symm ne_b1_b3))
  have F9_b3_previous := F3_b3_previous.other W7 (Or.inl (Ne.symm ne_b1_b3))
  have F10_b3_next := F3_b3_next.other W7 (Or.inl (Ne.symm ne_b1_b3))
  have E11_b3 := E3.wr W7
  have Z12 := Nat.le_trans Z5 (Keep.of_wr W7).1
  refine s_aload k7 at_34 rfl rfl (pc' := 36) rfl ?_
  refine s_iconst k7 (z := 1) at_36 (by decide) (pc' := 37) rfl ?_
  refine s_new k7 at_37 (hw _ (List.mem_of_getElem? (i := 1) rfl)) (hw _ (List.mem_of_getElem? (i := 3) rfl)) (hw _ (List.mem_of_getElem? (i := 4) rfl)) (by decide) (by decide) (pc' := 40) rfl fun T13 h13 b13 q13 k13 X13 E13 D13 => ?_
  have ne_b3_b13 : b3 ≠ b13 := Nat.ne_of_lt (Nat.lt_of_lt_of_eq E11_b3.lt q13.symm)
  have ne_b1_b13 : b1 ≠ b13 := Nat.ne_of_lt (Nat.lt_of_lt_of_eq A7.lt q13.symm)
  have g_b13 : n0 ≤ b13 := Nat.le_trans Z12 (Nat.le_of_eq q13.symm)
  have F14_b3_waker := F8_b3_waker.ext X13
  have F15_b3_previous := F9_b3_previous.ext X13
  have F16_b3_next := F10_b3_next.ext X13
  have E17_b3 := E11_b3.ext X13
  have A18_b1 := A7.ext X13
  have Z19 := Nat.le_trans Z12 X13.1
  have F13_b13_waker : Fld Z h13 b13 "com/example/gull/gull/WaitList$Waiter" "waker" "Lcom/example/gull/gull/Waker;" .null := D13 (Or.inl (hw _ (List.mem_of_getElem? (i := 22) rfl))) (ty := (.object "com/example/gull/gull/Waker")) (by decide)
  have F13_b13_previous : Fld Z h13 b13 "com/example/gull/gull/WaitList$Waiter" "previous" "Lcom/example/gull/gull/WaitList$Waiter;" .null := D13 (Or.inl (hw _ (List.mem_of_getElem? (i := 38) rfl))) (ty := (.object "com/example/gull/gull/WaitList$Waiter")) (by decide)
  have F13_b13_next : Fld Z h13 b13 "com/example/gull/gull/WaitList$Waiter" "next" "Lcom/example/gull/gull/WaitList$Waiter;" .null := D13 (Or.inl (hw _ (List.mem_of_getElem? (i := 48) rfl))) (ty := (.object "com/example/gull/gull/WaitList$Waiter")) (by decide)
  refine s_dup k13 at_40 rfl (pc' := 41) rfl ?_
  refine s_callI k13 [] 3 at_41 rfl (hw _ (List.mem_of_getElem? (i := 5) rfl)) (hw _ (List.mem_of_getElem? (i := 6) rfl)) (hw _ (List.mem_of_getElem? (i := 4) rfl)) (hw _ (List.mem_of_getElem? (i := 7) rfl)) (by decide) (rmp l Z a0 hw b13 h13 n0 Z19 ) (by decide) (by decide) pd__28_29V rfl (Nat.le_of_eq rfl) rfl (by decide) (by decide) rfl (pc' := 44) rfl fun v20 T20 h20 L20 k20 Qv20 => ?_
  obtain ⟨rfl, rfl⟩ := Qv20
  show Go p e below P T20 (mkF m 44 #[.val (.int i0), .val (.int i1), .val (.int i2), .val (.int ((1 : Int32) + ((i0 &&& (2147483647 : Int32)) % (3 : Int32)))), .val (.int ((i1 &&& (2147483647 : Int32)) % ((1 : Int32) + ((i0 &&& (2147483647 : Int32)) % (3 : Int32))))), .val (.ref b1), .unset, .unset, .unset, .unset] [.ref b13, .int (1 : Int32), .ref b1])
  refine s_aastore k20 at_44 A18_b1 ⟨by decide, by decide⟩ (i := 1) rfl (Nat.le_of_ble_eq_true rfl) O1 (Or.inr ⟨_, rfl, (Ins.self E13)⟩) g_b1 (pc' := 45) rfl fun T21 h21 L21 k21 W21 A21 => ?_
  have F22_b3_waker := F14_b3_waker.other W21 (Or.inl (Ne.symm ne_b1_b3))
  have F23_b3_previous := F15_b3_previous.other W21 (Or.inl (Ne.symm ne_b1_b3))
  have F24_b3_next := F16_b3_next.other W21 (Or.inl (Ne.symm ne_b1_b3))
  have F25_b13_waker := F13_b13_waker.other W21 (Or.inl (Ne.symm ne_b1_b13))
  have F26_b13_previous := F13_b13_previous.other W21 (Or.inl (Ne.symm ne_b1_b13))
  have F27_b13_next := F13_b13_next.other W21 (Or.inl (Ne.symm ne_b1_b13))
  have E28_b3 := E17_b3.wr W21
  have E29_b13 := E13.wr W21
  have Z30 := Nat.le_trans Z19 (Keep.of_wr W21).1
  refine s_aload k21 at_45 rfl rfl (pc' := 47) rfl ?_
  refine s_iconst k21 (z := 2) at_47 (by decide) (pc' := 48) rfl ?_
  refine s_new k21 at_48 (hw _ (List.mem_of_getElem? (i := 1) rfl)) (hw _ (List.mem_of_getElem? (i := 3) rfl)) (hw _ (List.mem_of_getElem? (i := 4) rfl)) (by decide) (by decide) (pc' := 51) rfl fun T31 h31 b31 q31 k31 X31 E31 D31 => ?_
  have ne_b3_b31 : b3 ≠ b31 := Nat.ne_of_lt (Nat.lt_of_lt_of_eq E28_b3.lt q31.symm)
  have ne_b13_b31 : b13 ≠ b31 := Nat.ne_of_lt (Nat.lt_of_lt_of_eq E29_b13.lt q31.symm)
  have ne_b1_b31 : b1 ≠ b31 := Nat.ne_of_lt (Nat.lt_of_lt_of_eq A21.lt q31.symm)
  have g_b31 : n0 ≤ b31 := Nat.le_trans Z30 (Nat.le_of_eq q31.symm)
  have F32_b3_waker := F22_b3_waker.ext X31
  have F33_b3_previous := F23_b3_previous.ext X31
  have F34_b3_next := F24_b3_next.ext X31
  have F35_b13_waker := F25_b13_waker.ext X31
  have F36_b13_previous := F26_b13_previous.ext X31
  have F37_b13_next := F27_b13_next.ext X31
  have E38_b3 := E28_b3.ext X31
  have E39_b13 := E29_b13.ext X31
  have A40_b1 := A21.ext X31
  have Z41 := Nat.le_trans Z30 X31.1
  have F31_b31_waker : Fld Z h31 b31 "com/example/gull/gull/WaitList$Waiter" "waker" "Lcom/example/gull/gull/Waker;" .null := D31 (Or.inl (hw _ (List.mem_of_getElem? (i := 22) rfl))) (ty := (.object "com/example/gull/gull/Waker")) (by decide)
  have F31_b31_previous : Fld Z h31 b31 "com/example/gull/gull/WaitList$Waiter" "previous" "Lcom/example/gull/gull/WaitList$Waiter;" .null := D31 (Or.inl (hw _ (List.mem_of_getElem? (i := 38) rfl))) (ty := (.object "com/example/gull/gull/WaitList$Waiter")) (by decide)
  have F31_b31_next : Fld Z h31 b31 "com/example/gull/gull/WaitList$Waiter" "next" "Lcom/example/gull/gull/WaitList$Waiter;" .null := D31 (Or.inl (hw _ (List.mem_of_getElem? (i := 48) rfl))) (ty := (.object "com/example/gull/gull/WaitList$Waiter")) (by decide)
  refine s_dup k31 at_51 rfl (pc' := 52) rfl ?_
  refine s_callI k31 [] 3 at_52 rfl (hw _ (List.mem_of_getElem? (i := 5) rfl)) (hw _ (List.mem_of_getElem? (i := 6) rfl)) (hw _ (List.mem_of_getElem? (i := 4) rfl)) (hw _ (List.mem_of_getElem? (i := 7) rfl)) (by decide) (rmp l Z a0 hw b31 h31 n0 Z41 ) (by decide) (by decide) pd__28_29V rfl (Nat.le_of_eq rfl) rfl (by decide) (by decide) rfl (pc' := 55) rfl fun v42 T42 h42 L42 k42 Qv42 => ?_
  obtain ⟨rfl, rfl⟩ := Qv42
  show Go p e below P T42 (mkF m 55 #[.val (.int i0), .val (.int i1), .val (.int i2), .val (.int ((1 : Int32) + ((i0 &&& (2147483647 : Int32)) % (3 : Int32)))), .val (.int ((i1 &&& (2147483647 : Int32)) % ((1 : Int32) + ((i0 &&& (2147483647 : Int32)) % (3 : Int32))))), .val (.ref b1), .unset, .unset, .unset, .unset] [.ref b31, .int (2 : Int32), .ref b1])
  refine s_aastore k42 at_55 A40_b1 ⟨by decide, by decide⟩ (i := 2) rfl (Nat.le_of_ble_eq_true rfl) O1 (Or.inr ⟨_, rfl, (Ins.self E31)⟩) g_b1 (pc' := 56) rfl fun T43 h43 L43 k43 W43 A43 => ?_
  have F44_b3_waker := F32_b3_waker.other W43 (Or.inl (Ne.symm ne_b1_b3))
  have F45_b3_previous := F33_b3_previous.other W43 (Or.inl (Ne.symm ne_b1_b3))
  have F46_b3_next := F34_b3_next.other W43 (Or.inl (Ne.symm ne_b1_b3))
  have F47_b13_waker := F35_b13_waker.other W43 (Or.inl (Ne.symm ne_b1_b13))
  have F48_b13_previous := F36_b13_previous.other W43 (Or.inl (Ne.symm ne_b1_b13))
  have F49_b13_next := F37_b13_next.other W43 (Or.inl (Ne.symm ne_b1_b13))
  have F50_b31_waker := F31_b31_waker.other W43 (Or.inl (Ne.symm ne_b1_b31))
  have F51_b31_previous := F31_b31_previous.other W43 (Or.inl (Ne.symm ne_b1_b31))
  have F52_b31_next := F31_b31_next.other W43 (Or.inl (Ne.symm ne_b1_b31))
  have E53_b3 := E38_b3.wr W43
  have E54_b13 := E39_b13.wr W43
  have E55_b31 := E31.wr W43
  have Z56 := Nat.le_trans Z41 (Keep.of_wr W43).1
  refine s_iconst k43 (z := 4) at_56 (by decide) (pc' := 57) rfl ?_
  refine s_newR k43 (cap := 4) at_57 (hw _ (List.mem_of_getElem? (i := 17) rfl)) (hw _ (List.mem_of_getElem? (i := 18) rfl)) (by decide) (by decide) (by decide) (by decide) (by decide) (pc' := 60) rfl fun T57 h57 b57 c57 q57 k57 X57 A57 O57 => ?_
  have ne_b3_b57 : b3 ≠ b57 := Nat.ne_of_lt (Nat.lt_of_lt_of_eq E53_b3.lt q57.symm)
  have ne_b13_b57 : b13 ≠ b57 := Nat.ne_of_lt (Nat.lt_of_lt_of_eq E54_b13.lt q57.symm)
  have ne_b31_b57 : b31 ≠ b57 := Nat.ne_of_lt (Nat.lt_of_lt_of_eq E55_b31.lt q57.symm)
  have ne_b1_b57 : b1 ≠ b57 := Nat.ne_of_lt (Nat.lt_of_lt_of_eq A43.lt q57.symm)
  have g_b57 : n0 ≤ b57 := Nat.le_trans Z56 (Nat.le_of_eq q57.symm)
  have F58_b3_waker := F44_b3_waker.ext X57
  have F59_b3_previous := F45_b3_previous.ext X57
  have F60_b3_next := F46_b3_next.ext X57
  have F61_b13_waker := F47_b13_waker.ext X57
  have F62_b13_previous := F48_b13_previous.ext X57
  have F63_b13_next := F49_b13_next.ext X57
  have F64_b31_waker := F50_b31_waker.ext X57
  have F65_b31_previous := F51_b31_previous.ext X57
  have F66_b31_next := F52_b31_next.ext X57
  have E67_b3 := E53_b3.ext X57
  have E68_b13 := E54_b13.ext X57
  have E69_b31 := E55_b31.ext X57
  have A70_b1 := A43.ext X57
  have Z71 := Nat.le_trans Z56 X57.1
  have A57p : Arv Z h57 b57 c57 (.object "com/example/gull/gull/Waker") (4 : Int32) [.null, .null, .null, .null] .null := A57.pad (pad_rep [] .null 4)
  refine s_astore k57 at_60 rfl (l' := #[.val (.int i0), .val (.int i1), .val (.int i2), .val (.int ((1 : Int32) + ((i0 &&& (2147483647 : Int32)) % (3 : Int32)))), .val (.int ((i1 &&& (2147483647 : Int32)) % ((1 : Int32) + ((i0 &&& (2147483647 : Int32)) % (3 : Int32))))), .val (.ref b1), .val (.ref b57), .unset, .unset, .unset]) rfl (pc' := 62) rfl ?_
  refine s_aload k57 at_62 rfl rfl (pc' := 64) rfl ?_
  refine s_iconst k57 (z := 0) at_64 (by decide) (pc' := 65) rfl ?_
  refine s_iloadN k57 at_65 rfl (pc' := 66) rfl ?_
  refine s_iconst k57 (z := 1) at_66 (by decide) (pc' := 67) rfl ?_
  refine s_iand k57 at_67 rfl (pc' := 68) rfl ?_
  have J72 : ∀ (T72 : State) (h72 : Heap) (L72 : List Loc) (u0 : Value), K p l e room_1 s m #[.int i0, .int i1, .int i2] below meth c code "com/example/gull/gull/WaitListRemovePinLaw" maxLocals ret "law" T72 L72 (((((((((0 + 1) + 1) + 0) + 1) + 0) + 1) + 0) + 1) + 1) (((((((((0 + 3) + 3) + 0) + 3) + 0) + 3) + 0) + 4) + 3) Z h72 n0 → Keep h57 h72 [] → (u0 = .null ∨ ∃ y, u0 = .ref y ∧ Exa Z h72 y "com/example/gull/gull/WaitListRemovePinLaw") → Go p e below P T72 (mkF m 82 #[.val (.int i0), .val (.int i1), .val (.int i2), .val (.int ((1 : Int32) + ((i0 &&& (2147483647 : Int32)) % (3 : Int32)))), .val (.int ((i1 &&& (2147483647 : Int32)) % ((1 : Int32) + ((i0 &&& (2147483647 : Int32)) % (3 : Int32))))), .val (.ref b1), .val (.ref b57), .unset, .unset, .unset] [u0, .int (0 : Int32), .ref b57]) := by
    intro T72 h72 L72 u0 k72 Kc72 hu72
    have F73_b3_waker := F58_b3_waker.keep Kc72 nin0
    have F74_b3_previous := F59_b3_previous.keep Kc72 nin0
    have F75_b3_next := F60_b3_next.keep Kc72 nin0
    have F76_b13_waker := F61_b13_waker.keep Kc72 nin0
    have F77_b13_previous := F62_b13_previous.keep Kc72 nin0
    have F78_b13_next := F63_b13_next.keep Kc72 nin0
    have F79_b31_waker := F64_b31_waker.keep Kc72 nin0
    have F80_b31_previous := F65_b31_previous.keep Kc72 nin0
    have F81_b31_next := F66_b31_next.keep Kc72 nin0
    have E82_b3 := E67_b3.keep Kc72
    have E83_b13 := E68_b13.keep Kc72
    have E84_b31 := E69_b31.keep Kc72
    have A85_b1 := A70_b1.keep Kc72 nin0
    have A86_b57 := A57p.keep Kc72 nin0
    have Z87 := Nat.le_trans Z71 Kc72.1
    have r_u0 : u0.isRef = true := by rcases hu72 with rfl | ⟨y, rfl, -⟩ <;> rfl
    have v_u0 : u0 = .null ∨ ∃ y, u0 = .ref y ∧ Ins Z h72 y "com/example/gull/gull/Waker" true := hu72.imp id fun ⟨y, q1, q2⟩ => ⟨y, q1, Ins.of_exa q2 (hw _ (List.mem_of_getElem? (i := 19) rfl))⟩
    refine s_aastore k72 at_82 A86_b57 ⟨by decide, by decide⟩ (i := 0) rfl (Nat.le_of_ble_eq_true rfl) O57 v_u0 g_b57 (pc' := 83) rfl fun T88 h88 L88 k88 W88 A88 => ?_
    have F89_b3_waker := F73_b3_waker.other W88 (Or.inl ne_b3_b57)
    have F90_b3_previous := F74_b3_previous.other W88 (Or.inl ne_b3_b57)
    have F91_b3_next := F75_b3_next.other W88 (Or.inl ne_b3_b57)
    have F92_b13_waker := F76_b13_waker.other W88 (Or.inl ne_b13_b57)
    have F93_b13_previous := F77_b13_previous.other W88 (Or.inl ne_b13_b57)
    have F94_b13_next := F78_b13_next.other W88 (Or.inl ne_b13_b57)
    have F95_b31_waker := F79_b31_waker.other W88 (Or.inl ne_b31_b57)
    have F96_b31_previous := F80_b31_previous.other W88 (Or.inl ne_b31_b57)
    have F97_b31_next := F81_b31_next.other W88 (Or.inl ne_b31_b57)
    have E98_b3 := E82_b3.wr W88
    have E99_b13 := E83_b13.wr W88
    have E100_b31 := E84_b31.wr W88
    have A101_b1 := A85_b1.other W88 ne_b1_b57
    have Z102 := Nat.le_trans Z87 (Keep.of_wr W88).1
    refine s_aload k88 at_83 rfl rfl (pc' := 85) rfl ?_
    refine s_iconst k88 (z := 1) at_85 (by decide) (pc' := 86) rfl ?_
    refine s_iloadN k88 at_86 rfl (pc' := 87) rfl ?_
    refine s_iconst k88 (z := 2) at_87 (by decide) (pc' := 88) rfl ?_
    refine s_iand k88 at_88 rfl (pc' := 89) rfl ?_
    have J103 : ∀ (T103 : State) (h103 : Heap) (L103 : List Loc) (u1 : Value), K p l e room_1 s m #[.int i0, .int i1, .int i2] below meth c code "com/example/gull/gull/WaitListRemovePinLaw" maxLocals ret "law" T103 L103 ((((((((((0 + 1) + 1) + 0) + 1) + 0) + 1) + 0) + 1) + 1) + 1) ((((((((((0 + 3) + 3) + 0) + 3) + 0) + 3) + 0) + 4) + 3) + 3) Z h103 n0 → Keep h88 h103 [] → (u1 = .null ∨ ∃ y, u1 = .ref y ∧ Exa Z h103 y "com/example/gull/gull/WaitListRemovePinLaw") → Go p e below P T103 (mkF m 103 #[.val (.int i0), .val (.int i1), .val (.int i2), .val (.int ((1 : Int32) + ((i0 &&& (2147483647 : Int32)) % (3 : Int32)))), .val (.int ((i1 &&& (2147483647 : Int32)) % ((1 : Int32) + ((i0 &&& (2147483647 : Int32)) % (3 : Int32))))), .val (.ref b1), .val (.ref b57), .unset, .unset, .unset] [u1, .int (1 : Int32), .ref b57]) := by
      intro T103 h103 L103 u1 k103 Kc103 hu103
      have F104_b3_waker := F89_b3_waker.keep Kc103 nin0
      have F105_b3_previous := F90_b3_previous.keep Kc103 nin0
      have F106_b3_next := F91_b3_next.keep Kc103 nin0
      have F107_b13_waker := F92_b13_waker.keep Kc103 nin0
      have F108_b13_previous := F93_b13_previous.keep Kc103 nin0
      have F109_b13_next := F94_b13_next.keep Kc103 nin0
      have F110_b31_waker := F95_b31_waker.keep Kc103 nin0
      have F111_b31_previous := F96_b31_previous.keep Kc103 nin0
      have F112_b31_next := F97_b31_next.keep Kc103 nin0
      have E113_b3 := E98_b3.keep Kc103
      have E114_b13 := E99_b13.keep Kc103
      have E115_b31 := E100_b31.keep Kc103
      have A116_b1 := A101_b1.keep Kc103 nin0
      have A117_b57 := A88.keep Kc103 nin0
      have Z118 := Nat.le_trans Z102 Kc103.1
      have r_u1 : u1.isRef = true := by rcases hu103 with rfl | ⟨y, rfl, -⟩ <;> rfl
      have v_u1 : u1 = .null ∨ ∃ y, u1 = .ref y ∧ Ins Z h103 y "com/example/gull/gull/Waker" true := hu103.imp id fun ⟨y, q1, q2⟩ => ⟨y, q1, Ins.of_exa q2 (hw _ (List.mem_of_getElem? (i := 19) rfl))⟩
      refine s_aastore k103 at_103 A117_b57 ⟨by decide, by decide⟩ (i := 1) rfl (Nat.le_of_ble_eq_true rfl) O57 v_u1 g_b57 (pc' := 104) rfl fun T119 h119 L119 k119 W119 A119 => ?_
      have F120_b3_waker := F104_b3_waker.other W119 (Or.inl ne_b3_b57)
      have F121_b3_previous := F105_b3_previous.other W119 (Or.inl ne_b3_b57)
      have F122_b3_next := F106_b3_next.other W119 (Or.inl ne_b3_b57)
      have F123_b13_waker := F107_b13_waker.other W119 (Or.inl ne_b13_b57)
      have F124_b13_previous := F108_b13_previous.other W119 (Or.inl ne_b13_b57)
      have F125_b13_next := F109_b13_next.other W119 (Or.inl ne_b13_b57)
      have F126_b31_waker := F110_b31_waker.other W119 (Or.inl ne_b31_b57)
      have F127_b31_previous := F111_b31_previous.other W119 (Or.inl ne_b31_b57)
      have F128_b31_next := F112_b31_next.other W119 (Or.inl ne_b31_b57)
      have E129_b3 := E113_b3.wr W119
      have E130_b13 := E114_b13.wr W119
      have E131_b31 := E115_b31.wr W119
      have A132_b1 := A116_b1.other W119 ne_b1_b57
      have Z133 := Nat.le_trans Z118 (Keep.of_wr W119).1
      refine s_aload k119 at_104 rfl rfl (pc' := 106) rfl ?_
      refine s_iconst k119 (z := 2) at_106 (by decide) (pc' := 107) rfl ?_
      refine s_iloadN k119 at_107 rfl (pc' := 108) rfl ?_
      refine s_iconst k119 (z := 4) at_108 (by decide) (pc' := 109) rfl ?_
      refine s_iand k119 at_109 rfl (pc' := 110) rfl ?_
      have J134 : ∀ (T134 : State) (h134 : Heap) (L134 : List Loc) (u2 : Value), K p l e room_1 s m #[.int i0, .int i1, .int i2] below meth c code "com/example/gull/gull/WaitListRemovePinLaw" maxLocals ret "law" T134 L134 (((((((((((0 + 1) + 1) + 0) + 1) + 0) + 1) + 0) + 1) + 1) + 1) + 1) (((((((((((0 + 3) + 3) + 0) + 3) + 0) + 3) + 0) + 4) + 3) + 3) + 3) Z h134 n0 → Keep h119 h134 [] → (u2 = .null ∨ ∃ y, u2 = .ref y ∧ Exa Z h134 y "com/example/gull/gull/WaitListRemovePinLaw") → Go p e below P T134 (mkF m 124 #[.val (.int i0), .val (.int i1), .val (.int i2), .val (.int ((1 : Int32) + ((i0 &&& (2147483647 : Int32)) % (3 : Int32)))), .val (.int ((i1 &&& (2147483647 : Int32)) % ((1 : Int32) + ((i0 &&& (2147483647 : Int32)) % (3 : Int32))))), .val (.ref b1), .val (.ref b57), .unset, .unset, .unset] [u2, .int (2 : Int32), .ref b57]) := by
        intro T134 h134 L134 u2 k134 Kc134 hu134
        have F135_b3_waker := F120_b3_waker.keep Kc134 nin0
        have F136_b3_previous := F121_b3_previous.keep Kc134 nin0
        have F137_b3_next := F122_b3_next.keep Kc134 nin0
        have F138_b13_waker := F123_b13_waker.keep Kc134 nin0
        have F139_b13_previous := F124_b13_previous.keep Kc134 nin0
        have F140_b13_next := F125_b13_next.keep Kc134 nin0
        have F141_b31_waker := F126_b31_waker.keep Kc134 nin0
        have F142_b31_previous := F127_b31_previous.keep Kc134 nin0
        have F143_b31_next := F128_b31_next.keep Kc134 nin0
        have E144_b3 := E129_b3.keep Kc134
        have E145_b13 := E130_b13.keep Kc134
        have E146_b31 := E131_b31.keep Kc134
        have A147_b1 := A132_b1.keep Kc134 nin0
        have A148_b57 := A119.keep Kc134 nin0
        have Z149 := Nat.le_trans Z133 Kc134.1
        have r_u2 : u2.isRef = true := by rcases hu134 with rfl | ⟨y, rfl, -⟩ <;> rfl
        have v_u2 : u2 = .null ∨ ∃ y, u2 = .ref y ∧ Ins Z h134 y "com/example/gull/gull/Waker" true := hu134.imp id fun ⟨y, q1, q2⟩ => ⟨y, q1, Ins.of_exa q2 (hw _ (List.mem_of_getElem? (i := 19) rfl))⟩
        refine s_aastore k134 at_124 A148_b57 ⟨by decide, by decide⟩ (i := 2) rfl (Nat.le_of_ble_eq_true rfl) O57 v_u2 g_b57 (pc' := 125) rfl fun T150 h150 L150 k150 W150 A150 => ?_
        have F151_b3_waker := F135_b3_waker.other W150 (Or.inl ne_b3_b57)
        have F152_b3_previous := F136_b3_previous.other W150 (Or.inl ne_b3_b57)
        have F153_b3_next := F137_b3_next.other W150 (Or.inl ne_b3_b57)
        have F154_b13_waker := F138_b13_waker.other W150 (Or.inl ne_b13_b57)
        have F155_b13_previous := F139_b13_previous.other W150 (Or.inl ne_b13_b57)
        have F156_b13_next := F140_b13_next.other W150 (Or.inl ne_b13_b57)
        have F157_b31_waker := F141_b31_waker.other W150 (Or.inl ne_b31_b57)
        have F158_b31_previous := F142_b31_previous.other W150 (Or.inl ne_b31_b57)
        have F159_b31_next := F143_b31_next.other W150 (Or.inl ne_b31_b57)
        have E160_b3 := E144_b3.wr W150
        have E161_b13 := E145_b13.wr W150
        have E162_b31 := E146_b31.wr W150
        have A163_b1 := A147_b1.other W150 ne_b1_b57
        have Z164 := Nat.le_trans Z149 (Keep.of_wr W150).1
        refine s_aload k150 at_125 rfl rfl (pc' := 127) rfl ?_
        refine s_iconst k150 (z := 3) at_127 (by decide) (pc' := 128) rfl ?_
        refine s_iloadN k150 at_128 rfl (pc' := 129) rfl ?_
        refine s_bipush k150 (z := 8) at_129 (by decide) (pc' := 131) rfl ?_
        refine s_iand k150 at_131 rfl (pc' := 132) rfl ?_
        have J165 : ∀ (T165 : State) (h165 : Heap) (L165 : List Loc) (u3 : Value), K p l e room_1 s m #[.int i0, .int i1, .int i2] below meth c code "com/example/gull/gull/WaitListRemovePinLaw" maxLocals ret "law" T165 L165 ((((((((((((0 + 1) + 1) + 0) + 1) + 0) + 1) + 0) + 1) + 1) + 1) + 1) + 1) ((((((((((((0 + 3) + 3) + 0) + 3) + 0) + 3) + 0) + 4) + 3) + 3) + 3) + 3) Z h165 n0 → Keep h150 h165 [] → (u3 = .null ∨ ∃ y, u3 = .ref y ∧ Exa Z h165 y "com/example/gull/gull/WaitListRemovePinLaw") → Go p e below P T165 (mkF m 146 #[.val (.int i0), .val (.int i1), .val (.int i2), .val (.int ((1 : Int32) + ((i0 &&& (2147483647 : Int32)) % (3 : Int32)))), .val (.int ((i1 &&& (2147483647 : Int32)) % ((1 : Int32) + ((i0 &&& (2147483647 : Int32)) % (3 : Int32))))), .val (.ref b1), .val (.ref b57), .unset, .unset, .unset] [u3, .int (3 : Int32), .ref b57]) := by
          intro T165 h165 L165 u3 k165 Kc165 hu165
          have F166_b3_waker := F151_b3_waker.keep Kc165 nin0
          have F167_b3_previous := F152_b3_previous.keep Kc165 nin0
          have F168_b3_next := F153_b3_next.keep Kc165 nin0
          have F169_b13_waker := F154_b13_waker.keep Kc165 nin0
          have F170_b13_previous := F155_b13_previous.keep Kc165 nin0
          have F171_b13_next := F156_b13_next.keep Kc165 nin0
          have F172_b31_waker := F157_b31_waker.keep Kc165 nin0
          have F173_b31_previous := F158_b31_previous.keep Kc165 nin0
          have F174_b31_next := F159_b31_next.keep Kc165 nin0
          have E175_b3 := E160_b3.keep Kc165
          have E176_b13 := E161_b13.keep Kc165
          have E177_b31 := E162_b31.keep Kc165
          have A178_b1 := A163_b1.keep Kc165 nin0
          have A179_b57 := A150.keep Kc165 nin0
          have Z180 := Nat.le_trans Z164 Kc165.1
          have r_u3 : u3.isRef = true := by rcases hu165 with rfl | ⟨y, rfl, -⟩ <;> rfl
          have v_u3 : u3 = .null ∨ ∃ y, u3 = .ref y ∧ Ins Z h165 y "com/example/gull/gull/Waker" true := hu165.imp id fun ⟨y, q1, q2⟩ => ⟨y, q1, Ins.of_exa q2 (hw _ (List.mem_of_getElem? (i := 19) rfl))⟩
          refine s_aastore k165 at_146 A179_b57 ⟨by decide, by decide⟩ (i := 3) rfl (Nat.le_of_ble_eq_true rfl) O57 v_u3 g_b57 (pc' := 147) rfl fun T181 h181 L181 k181 W181 A181 => ?_
          have F182_b3_waker := F166_b3_waker.other W181 (Or.inl ne_b3_b57)
          have F183_b3_previous := F167_b3_previous.other W181 (Or.inl ne_b3_b57)
          have F184_b3_next := F168_b3_next.other W181 (Or.inl ne_b3_b57)
          have F185_b13_waker := F169_b13_waker.other W181 (Or.inl ne_b13_b57)
          have F186_b13_previous := F170_b13_previous.other W181 (Or.inl ne_b13_b57)
          have F187_b13_next := F171_b13_next.other W181 (Or.inl ne_b13_b57)
          have F188_b31_waker := F172_b31_waker.other W181 (Or.inl ne_b31_b57)
          have F189_b31_previous := F173_b31_previous.other W181 (Or.inl ne_b31_b57)
          have F190_b31_next := F174_b31_next.other W181 (Or.inl ne_b31_b57)
          have E191_b3 := E175_b3.wr W181
          have E192_b13 := E176_b13.wr W181
          have E193_b31 := E177_b31.wr W181
          have A194_b1 := A178_b1.other W181 ne_b1_b57
          have Z195 := Nat.le_trans Z180 (Keep.of_wr W181).1
          refine s_aload k181 at_147 rfl rfl (pc' := 149) rfl ?_
          refine s_iconst k181 (z := 0) at_149 (by decide) (pc' := 150) rfl ?_
          refine s_aaload k181 (v := .ref b3) at_150 A194_b1 rfl ⟨by decide, by decide⟩ rfl (pc' := 151) rfl ?_
          refine s_aload k181 at_151 rfl rfl (pc' := 153) rfl ?_
          refine s_iconst k181 (z := 0) at_153 (by decide) (pc' := 154) rfl ?_
          refine s_aaload k181 (v := u0) at_154 A181 rfl ⟨by decide, by decide⟩ rfl (pc' := 155) rfl ?_
          refine s_put k181 at_155 (host := "") (Or.inl (hw _ (List.mem_of_getElem? (i := 20) rfl))) (Via.of (hw _ (List.mem_of_getElem? (i := 21) rfl))) F182_b3_waker E191_b3 (Or.inl (hw _ (List.mem_of_getElem? (i := 22) rfl))) (hw _ (List.mem_of_getElem? (i := 3) rfl)) (ty := (.object "com/example/gull/gull/Waker")) (by decide) (nar_ref r_u0) (fit_ref r_u0) g_b3 (pc' := 158) rfl fun T196 h196 L196 k196 W196 => ?_
          have F197_b3_waker := F182_b3_waker.same W196
          have F198_b3_previous := F183_b3_previous.other W196 (Or.inr (slot_ne (Or.inl (hw _ (List.mem_of_getElem? (i := 38) rfl))) (Or.inl (hw _ (List.mem_of_getElem? (i := 22) rfl))) (by decide) (t := (.object "com/example/gull/gull/WaitList$Waiter")) (t' := (.object "com/example/gull/gull/Waker")) (by decide) (by decide)))
          have F199_b3_next := F184_b3_next.other W196 (Or.inr (slot_ne (Or.inl (hw _ (List.mem_of_getElem? (i := 48) rfl))) (Or.inl (hw _ (List.mem_of_getElem? (i := 22) rfl))) (by decide) (t := (.object "com/example/gull/gull/WaitList$Waiter")) (t' := (.object "com/example/gull/gull/Waker")) (by decide) (by decide)))
          have F200_b13_waker := F185_b13_waker.other W196 (Or.inl (Ne.symm ne_b3_b13))
          have F201_b13_previous := F186_b13_previous.other W196 (Or.inl (Ne.symm ne_b3_b13))
          have F202_b13_next := F187_b13_next.other W196 (Or.inl (Ne.symm ne_b3_b13))
          have F203_b31_waker := F188_b31_waker.other W196 (Or.inl (Ne.symm ne_b3_b31))
          have F204_b31_previous := F189_b31_previous.other W196 (Or.inl (Ne.symm ne_b3_b31))
          have F205_b31_next := F190_b31_next.other W196 (Or.inl (Ne.symm ne_b3_b31))
          have E206_b3 := E191_b3.wr W196
          have E207_b13 := E192_b13.wr W196
          have E208_b31 := E193_b31.wr W196
          have A209_b1 := A194_b1.other W196 ne_b1_b3
          have A210_b57 := A181.other W196 (Ne.symm ne_b3_b57)
          have Z211 := Nat.le_trans Z195 (Keep.of_wr W196).1
          refine s_aload k196 at_158 rfl rfl (pc' := 160) rfl ?_
          refine s_iconst k196 (z := 1) at_160 (by decide) (pc' := 161) rfl ?_
          refine s_aaload k196 (v := .ref b13) at_161 A209_b1 rfl ⟨by decide, by decide⟩ rfl (pc' := 162) rfl ?_
          refine s_aload k196 at_162 rfl rfl (pc' := 164) rfl ?_
          refine s_iconst k196 (z := 1) at_164 (by decide) (pc' := 165) rfl ?_
          refine s_aaload k196 (v := u1) at_165 A210_b57 rfl ⟨by decide, by decide⟩ rfl (pc' := 166) rfl ?_
          refine s_put k196 at_166 (host := "") (Or.inl (hw _ (List.mem_of_getElem? (i := 20) rfl))) (Via.of (hw _ (List.mem_of_getElem? (i := 21) rfl))) F200_b13_waker E207_b13 (Or.inl (hw _ (List.mem_of_getElem? (i := 22) rfl))) (hw _ (List.mem_of_getElem? (i := 3) rfl)) (ty := (.object "com/example/gull/gull/Waker")) (by decide) (nar_ref r_u1) (fit_ref r_u1) g_b13 (pc' := 169) rfl fun T212 h212 L212 k212 W212 => ?_
          have F213_b3_waker := F197_b3_waker.other W212 (Or.inl ne_b3_b13)
          have F214_b3_previous := F198_b3_previous.other W212 (Or.inl ne_b3_b13)
          have F215_b3_next := F199_b3_next.other W212 (Or.inl ne_b3_b13)
          have F216_b13_waker := F200_b13_waker.same W212
          have F217_b13_previous := F201_b13_previous.other W212 (Or.inr (slot_ne (Or.inl (hw _ (List.mem_of_getElem? (i := 38) rfl))) (Or.inl (hw _ (List.mem_of_getElem? (i := 22) rfl))) (by decide) (t := (.object "com/example/gull/gull/WaitList$Waiter")) (t' := (.object "com/example/gull/gull/Waker")) (by decide) (by decide)))
          have F218_b13_next := F202_b13_next.other W212 (Or.inr (slot_ne (Or.inl (hw _ (List.mem_of_getElem? (i := 48) rfl))) (Or.inl (hw _ (List.mem_of_getElem? (i := 22) rfl))) (by decide) (t := (.object "com/example/gull/gull/WaitList$Waiter")) (t' := (.object "com/example/gull/gull/Waker")) (by decide) (by decide)))
          have F219_b31_waker := F203_b31_waker.other W212 (Or.inl (Ne.symm ne_b13_b31))
          have F220_b31_previous := F204_b31_previous.other W212 (Or.inl (Ne.symm ne_b13_b31))
          have F221_b31_next := F205_b31_next.other W212 (Or.inl (Ne.symm ne_b13_b31))
          have E222_b3 := E206_b3.wr W212
          have E223_b13 := E207_b13.wr W212
          have E224_b31 := E208_b31.wr W212
          have A225_b1 := A209_b1.other W212 ne_b1_b13
          have A226_b57 := A210_b57.other W212 (Ne.symm ne_b13_b57)
          have Z227 := Nat.le_trans Z211 (Keep.of_wr W212).1
          refine s_aload k212 at_169 rfl rfl (pc' := 171) rfl ?_
          refine s_iconst k212 (z := 2) at_171 (by decide) (pc' := 172) rfl ?_
          refine s_aaload k212 (v := .ref b31) at_172 A225_b1 rfl ⟨by decide, by decide⟩ rfl (pc' := 173) rfl ?_
          refine s_aload k212 at_173 rfl rfl (pc' := 175) rfl ?_
          refine s_iconst k212 (z := 2) at_175 (by decide) (pc' := 176) rfl ?_
          refine s_aaload k212 (v := u2) at_176 A226_b57 rfl ⟨by decide, by decide⟩ rfl (pc' := 177) rfl ?_
          refine s_put k212 at_177 (host := "") (Or.inl (hw _ (List.mem_of_getElem? (i := 20) rfl))) (Via.of (hw _ (List.mem_of_getElem? (i := 21) rfl))) F219_b31_waker E224_b31 (Or.inl (hw _ (List.mem_of_getElem? (i := 22) rfl))) (hw _ (List.mem_of_getElem? (i := 3) rfl)) (ty := (.object "com/example/gull/gull/Waker")) (by decide) (nar_ref r_u2) (fit_ref r_u2) g_b31 (pc' := 180) rfl fun T228 h228 L228 k228 W228 => ?_
          have F229_b3_waker := F213_b3_waker.other W228 (Or.inl ne_b3_b31)
          have F230_b3_previous := F214_b3_previous.other W228 (Or.inl ne_b3_b31)
          have F231_b3_next := F215_b3_next.other W228 (Or.inl ne_b3_b31)
          have F232_b13_waker := F216_b13_waker.other W228 (Or.inl ne_b13_b31)
          have F233_b13_previous := F217_b13_previous.other W228 (Or.inl ne_b13_b31)
          have F234_b13_next := F218_b13_next.other W228 (Or.inl ne_b13_b31)
          have F235_b31_waker := F219_b31_waker.same W228
          have F236_b31_previous := F220_b31_previous.other W228 (Or.inr (slot_ne (Or.inl (hw _ (List.mem_of_getElem? (i := 38) rfl))) (Or.inl (hw _ (List.mem_of_getElem? (i := 22) rfl))) (by decide) (t := (.object "com/example/gull/gull/WaitList$Waiter")) (t' := (.object "com/example/gull/gull/Waker")) (by decide) (by decide)))
          have F237_b31_next := F221_b31_next.other W228 (Or.inr (slot_ne (Or.inl (hw _ (List.mem_of_getElem? (i := 48) rfl))) (Or.inl (hw _ (List.mem_of_getElem? (i := 22) rfl))) (by decide) (t := (.object "com/example/gull/gull/WaitList$Waiter")) (t' := (.object "com/example/gull/gull/Waker")) (by decide) (by decide)))
          have E238_b3 := E222_b3.wr W228
          have E239_b13 := E223_b13.wr W228
          have E240_b31 := E224_b31.wr W228
          have A241_b1 := A225_b1.other W228 ne_b1_b31
          have A242_b57 := A226_b57.other W228 (Ne.symm ne_b31_b57)
          have Z243 := Nat.le_trans Z227 (Keep.of_wr W228).1
          refine s_new k228 at_180 (hw _ (List.mem_of_getElem? (i := 23) rfl)) (hw _ (List.mem_of_getElem? (i := 24) rfl)) (hw _ (List.mem_of_getElem? (i := 25) rfl)) (by decide) (by decide) (pc' := 183) rfl fun T244 h244 b244 q244 k244 X244 E244 D244 => ?_
          have ne_b3_b244 : b3 ≠ b244 := Nat.ne_of_lt (Nat.lt_of_lt_of_eq E238_b3.lt q244.symm)
          have ne_b13_b244 : b13 ≠ b244 := Nat.ne_of_lt (Nat.lt_of_lt_of_eq E239_b13.lt q244.symm)
          have ne_b31_b244 : b31 ≠ b244 := Nat.ne_of_lt (Nat.lt_of_lt_of_eq E240_b31.lt q244.symm)
          have ne_b1_b244 : b1 ≠ b244 := Nat.ne_of_lt (Nat.lt_of_lt_of_eq A241_b1.lt q244.symm)
          have ne_b57_b244 : b57 ≠ b244 := Nat.ne_of_lt (Nat.lt_of_lt_of_eq A242_b57.lt q244.symm)
          have g_b244 : n0 ≤ b244 := Nat.le_trans Z243 (Nat.le_of_eq q244.symm)
          have F245_b3_waker := F229_b3_waker.ext X244
          have F246_b3_previous := F230_b3_previous.ext X244
          have F247_b3_next := F231_b3_next.ext X244
          have F248_b13_waker := F232_b13_waker.ext X244
          have F249_b13_previous := F233_b13_previous.ext X244
          have F250_b13_next := F234_b13_next.ext X244
          have F251_b31_waker := F235_b31_waker.ext X244
          have F252_b31_previous := F236_b31_previous.ext X244
          have F253_b31_next := F237_b31_next.ext X244
          have E254_b3 := E238_b3.ext X244
          have E255_b13 := E239_b13.ext X244
          have E256_b31 := E240_b31.ext X244
          have A257_b1 := A241_b1.ext X244
          have A258_b57 := A242_b57.ext X244
          have Z259 := Nat.le_trans Z243 X244.1
          have F244_b244_last : Fld Z h244 b244 "com/example/gull/gull/WaitList" "last" "Lcom/example/gull/gull/WaitList$Waiter;" .null := D244 (Or.inl (hw _ (List.mem_of_getElem? (i := 36) rfl))) (ty := (.object "com/example/gull/gull/WaitList$Waiter")) (by decide)
          have F244_b244_first : Fld Z h244 b244 "com/example/gull/gull/WaitList" "first" "Lcom/example/gull/gull/WaitList$Waiter;" .null := D244 (Or.inl (hw _ (List.mem_of_getElem? (i := 40) rfl))) (ty := (.object "com/example/gull/gull/WaitList$Waiter")) (by decide)
          refine s_dup k244 at_183 rfl (pc' := 184) rfl ?_
          refine s_callI k244 [] 1 at_184 rfl (hw _ (List.mem_of_getElem? (i := 26) rfl)) (hw _ (List.mem_of_getElem? (i := 27) rfl)) (hw _ (List.mem_of_getElem? (i := 25) rfl)) (hw _ (List.mem_of_getElem? (i := 28) rfl)) (by decide) (rml l Z a0 hw b244 h244 n0 Z259 ) (by decide) (by decide) pd__28_29V rfl (Nat.le_of_eq rfl) rfl (by decide) (by decide) rfl (pc' := 187) rfl fun v260 T260 h260 L260 k260 Qv260 => ?_
          obtain ⟨rfl, rfl⟩ := Qv260
          show Go p e below P T260 (mkF m 187 #[.val (.int i0), .val (.int i1), .val (.int i2), .val (.int ((1 : Int32) + ((i0 &&& (2147483647 : Int32)) % (3 : Int32)))), .val (.int ((i1 &&& (2147483647 : Int32)) % ((1 : Int32) + ((i0 &&& (2147483647 : Int32)) % (3 : Int32))))), .val (.ref b1), .val (.ref b57), .unset, .unset, .unset] [.ref b244])
          refine s_astore k260 at_187 rfl (l' := #[.val (.int i0), .val (.int i1), .val (.int i2), .val (.int ((1 : Int32) + ((i0 &&& (2147483647 : Int32)) % (3 : Int32)))), .val (.int ((i1 &&& (2147483647 : Int32)) % ((1 : Int32) + ((i0 &&& (2147483647 : Int32)) % (3 : Int32))))), .val (.ref b1), .val (.ref b57), .val (.ref b244), .unset, .unset]) rfl (pc' := 189) rfl ?_
          refine s_aload k260 at_189 rfl rfl (pc' := 191) rfl ?_
          refine s_aload k260 at_191 rfl rfl (pc' := 193) rfl ?_
          refine s_iconst k260 (z := 0) at_193 (by decide) (pc' := 194) rfl ?_
          refine s_aaload k260 (v := .ref b3) at_194 A257_b1 rfl ⟨by decide, by decide⟩ rfl (pc' := 195) rfl ?_
          refine s_callV k260 [.ref b3] 0 at_195 (hw _ (List.mem_of_getElem? (i := 30) rfl)) (hw _ (List.mem_of_getElem? (i := 31) rfl)) (hw _ (List.mem_of_getElem? (i := 33) rfl)) (hw _ (List.mem_of_getElem? (i := 32) rfl)) (hw _ (List.mem_of_getElem? (i := 25) rfl)) (hw _ (List.mem_of_getElem? (i := 34) rfl)) (by decide) E244 (rmaA l Z a0 hw b244 b3 .null .null .null u0 h244 n0 Z259 E244 E254_b3 F244_b244_first F244_b244_last F246_b3_previous F247_b3_next F245_b3_waker g_b244 g_b3 (Ne.symm ne_b3_b244)) (by decide) (by decide) pd__28Lcom_2fexample_2fgull_2fgull_2fWaitList_24Waiter_3b_29V rfl (Nat.le_of_eq rfl) rfl (by decide) (by decide) rfl (pc' := 198) rfl fun v261 T261 h261 L261 k261 Qv261 => ?_
          obtain ⟨rfl, Kc261, G261_0, G261_1, G261_2, G261_3, G261_4⟩ := Qv261
          have F262_b13_waker := F248_b13_waker.keep Kc261 (ninS ne_b13_b244 (ninS (Ne.symm ne_b3_b13) nin0))
          have F263_b13_previous := F249_b13_previous.keep Kc261 (ninS ne_b13_b244 (ninS (Ne.symm ne_b3_b13) nin0))
          have F264_b13_next := F250_b13_next.keep Kc261 (ninS ne_b13_b244 (ninS (Ne.symm ne_b3_b13) nin0))
          have F265_b31_waker := F251_b31_waker.keep Kc261 (ninS ne_b31_b244 (ninS (Ne.symm ne_b3_b31) nin0))
          have F266_b31_previous := F252_b31_previous.keep Kc261 (ninS ne_b31_b244 (ninS (Ne.symm ne_b3_b31) nin0))
          have F267_b31_next := F253_b31_next.keep Kc261 (ninS ne_b31_b244 (ninS (Ne.symm ne_b3_b31) nin0))
          have E268_b3 := E254_b3.keep Kc261
          have E269_b13 := E255_b13.keep Kc261
          have E270_b31 := E256_b31.keep Kc261
          have E271_b244 := E244.keep Kc261
          have A272_b1 := A257_b1.keep Kc261 (ninS ne_b1_b244 (ninS ne_b1_b3 nin0))
          have A273_b57 := A258_b57.keep Kc261 (ninS ne_b57_b244 (ninS (Ne.symm ne_b3_b57) nin0))
          have Z274 := Nat.le_trans Z259 Kc261.1
          show Go p e below P T261 (mkF m 198 #[.val (.int i0), .val (.int i1), .val (.int i2), .val (.int ((1 : Int32) + ((i0 &&& (2147483647 : Int32)) % (3 : Int32)))), .val (.int ((i1 &&& (2147483647 : Int32)) % ((1 : Int32) + ((i0 &&& (2147483647 : Int32)) % (3 : Int32))))), .val (.ref b1), .val (.ref b57), .val (.ref b244), .unset, .unset] [])
          rcases own_n i0 with hk275 | hk275 | hk275
          · rw [hk275]
            show Go p e below P T261 (mkF m 198 #[.val (.int i0), .val (.int i1), .val (.int i2), .val (.int (1 : Int32)), .val (.int ((i1 &&& (2147483647 : Int32)) % (1 : Int32))), .val (.ref b1), .val (.ref b57), .val (.ref b244), .unset, .unset] [])
            rcases own_k1 i1 with hk276
            · rw [hk276]
              show Go p e below P T261 (mkF m 198 #[.val (.int i0), .val (.int i1), .val (.int i2), .val (.int (1 : Int32)), .val (.int (0 : Int32)), .val (.ref b1), .val (.ref b57), .val (.ref b244), .unset, .unset] [])
              refine s_iloadN k261 at_198 rfl (pc' := 199) rfl ?_
              refine s_iconst k261 (z := 2) at_199 (by decide) (pc' := 200) rfl ?_
              refine s_icmp_lt k261 at_200 (by decide) (pc' := 212) (by decide) (pc3 := 203) rfl (fun hc200 => ?_) (fun hc200 => absurd (by decide) hc200)
              refine s_iloadN k261 at_212 rfl (pc' := 213) rfl ?_
              refine s_iconst k261 (z := 3) at_213 (by decide) (pc' := 214) rfl ?_
              refine s_icmp_lt k261 at_214 (by decide) (pc' := 226) (by decide) (pc3 := 217) rfl (fun hc214 => ?_) (fun hc214 => absurd (by decide) hc214)
              refine s_aload k261 at_226 rfl rfl (pc' := 228) rfl ?_
              refine s_aload k261 at_228 rfl rfl (pc' := 230) rfl ?_
              refine s_iload k261 at_230 rfl (pc' := 232) rfl ?_
              refine s_aaload k261 (v := .ref b3) at_232 A272_b1 rfl ⟨by decide, by decide⟩ rfl (pc' := 233) rfl ?_
              refine s_callV k261 [.ref b3] 0 at_233 (hw _ (List.mem_of_getElem? (i := 41) rfl)) (hw _ (List.mem_of_getElem? (i := 42) rfl)) (hw _ (List.mem_of_getElem? (i := 44) rfl)) (hw _ (List.mem_of_getElem? (i := 43) rfl)) (hw _ (List.mem_of_getElem? (i := 25) rfl)) (hw _ (List.mem_of_getElem? (i := 45) rfl)) (by decide) E271_b244 (rmr00 l Z a0 hw b244 b3 (.ref b3) (.ref b3) u0 h261 n0 Z274 E271_b244 E268_b3 G261_0 G261_1 G261_2 G261_3 G261_4 g_b244 g_b3 (Ne.symm ne_b3_b244) r_u0) (by decide) (by decide) pd__28Lcom_2fexample_2fgull_2fgull_2fWaitList_24Waiter_3b_29Lcom_2fexample_2fgull_2fgull_2fWaker_3b rfl (Nat.le_of_eq rfl) rfl (by decide) (by decide) rfl (pc' := 236) rfl fun v277 T277 h277 L277 k277 Qv277 => ?_
              obtain ⟨rfl, Kc277, G277_0, G277_1, G277_2, G277_3, G277_4⟩ := Qv277
              have F278_b13_waker := F262_b13_waker.keep Kc277 (ninS ne_b13_b244 (ninS (Ne.symm ne_b3_b13) nin0))
              have F279_b13_previous := F263_b13_previous.keep Kc277 (ninS ne_b13_b244 (ninS (Ne.symm ne_b3_b13) nin0))
              have F280_b13_next := F264_b13_next.keep Kc277 (ninS ne_b13_b244 (ninS (Ne.symm ne_b3_b13) nin0))
              have F281_b31_waker := F265_b31_waker.keep Kc277 (ninS ne_b31_b244 (ninS (Ne.symm ne_b3_b31) nin0))
              have F282_b31_previous := F266_b31_previous.keep Kc277 (ninS ne_b31_b244 (ninS (Ne.symm ne_b3_b31) nin0))
              have F283_b31_next := F267_b31_next.keep Kc277 (ninS ne_b31_b244 (ninS (Ne.symm ne_b3_b31) nin0))
              have E284_b3 := E268_b3.keep Kc277
              have E285_b13 := E269_b13.keep Kc277
              have E286_b31 := E270_b31.keep Kc277
              have E287_b244 := E271_b244.keep Kc277
              have A288_b1 := A272_b1.keep Kc277 (ninS ne_b1_b244 (ninS ne_b1_b3 nin0))
              have A289_b57 := A273_b57.keep Kc277 (ninS ne_b57_b244 (ninS (Ne.symm ne_b3_b57) nin0))
              have Z290 := Nat.le_trans Z274 Kc277.1
              show Go p e below P T277 (mkF m 236 #[.val (.int i0), .val (.int i1), .val (.int i2), .val (.int (1 : Int32)), .val (.int (0 : Int32)), .val (.ref b1), .val (.ref b57), .val (.ref b244), .unset, .unset] [u0])
              refine s_astore k277 at_236 r_u0 (l' := #[.val (.int i0), .val (.int i1), .val (.int i2), .val (.int (1 : Int32)), .val (.int (0 : Int32)), .val (.ref b1), .val (.ref b57), .val (.ref b244), .val u0, .unset]) (by rcases ref_cases r_u0 with rfl | ⟨_, rfl⟩ <;> rfl) (pc' := 238) rfl ?_
              refine s_aload k277 at_238 rfl r_u0 (pc' := 240) rfl ?_
              refine s_aload k277 at_240 rfl rfl (pc' := 242) rfl ?_
              refine s_iload k277 at_242 rfl (pc' := 244) rfl ?_
              refine s_aaload k277 (v := u0) at_244 A289_b57 rfl ⟨by decide, by decide⟩ rfl (pc' := 245) rfl ?_
              refine s_acmp_ne k277 at_245 r_u0 r_u0 (by decide) (pc' := 259) (by decide) (pc3 := 248) rfl (fun hc245 => ?_) (fun hc245 => absurd rfl hc245)
              refine s_aload k277 at_248 rfl rfl (pc' := 250) rfl ?_
              refine s_iload k277 at_250 rfl (pc' := 252) rfl ?_
              refine s_aaload k277 (v := .ref b3) at_252 A288_b1 rfl ⟨by decide, by decide⟩ rfl (pc' := 253) rfl ?_
              refine s_get k277 at_253 (host := "") (Or.inl (hw _ (List.mem_of_getElem? (i := 20) rfl))) (Via.of (hw _ (List.mem_of_getElem? (i := 21) rfl))) G277_4 (pc' := 256) rfl fun T291 k291 => ?_
              refine s_nullY k291 at_256 (by decide) (pc' := 261) (by decide) ?_
              refine s_aload k291 at_261 rfl rfl (pc' := 263) rfl ?_
              refine s_iload k291 at_263 rfl (pc' := 265) rfl ?_
              refine s_aaload k291 (v := .ref b3) at_265 A288_b1 rfl ⟨by decide, by decide⟩ rfl (pc' := 266) rfl ?_
              refine s_aload k291 at_266 rfl rfl (pc' := 268) rfl ?_
              refine s_iconst k291 (z := 3) at_268 (by decide) (pc' := 269) rfl ?_
              refine s_aaload k291 (v := u3) at_269 A289_b57 rfl ⟨by decide, by decide⟩ rfl (pc' := 270) rfl ?_
              refine s_put k291 at_270 (host := "") (Or.inl (hw _ (List.mem_of_getElem? (i := 20) rfl))) (Via.of (hw _ (List.mem_of_getElem? (i := 21) rfl))) G277_4 E284_b3 (Or.inl (hw _ (List.mem_of_getElem? (i := 22) rfl))) (hw _ (List.mem_of_getElem? (i := 3) rfl)) (ty := (.object "com/example/gull/gull/Waker")) (by decide) (nar_ref r_u3) (fit_ref r_u3) g_b3 (pc' := 273) rfl fun T292 h292 L292 k292 W292 => ?_
              have F293_b13_waker := F278_b13_waker.other W292 (Or.inl (Ne.symm ne_b3_b13))
              have F294_b13_previous := F279_b13_previous.other W292 (Or.inl (Ne.symm ne_b3_b13))
              have F295_b13_next := F280_b13_next.other W292 (Or.inl (Ne.symm ne_b3_b13))
              have F296_b31_waker := F281_b31_waker.other W292 (Or.inl (Ne.symm ne_b3_b31))
              have F297_b31_previous := F282_b31_previous.other W292 (Or.inl (Ne.symm ne_b3_b31))
              have F298_b31_next := F283_b31_next.other W292 (Or.inl (Ne.symm ne_b3_b31))
              have F299_b244_first := G277_0.other W292 (Or.inl (Ne.symm ne_b3_b244))
              have F300_b244_last := G277_1.other W292 (Or.inl (Ne.symm ne_b3_b244))
              have F301_b3_previous := G277_2.other W292 (Or.inr (slot_ne (Or.inl (hw _ (List.mem_of_getElem? (i := 38) rfl))) (Or.inl (hw _ (List.mem_of_getElem? (i := 22) rfl))) (by decide) (t := (.object "com/example/gull/gull/WaitList$Waiter")) (t' := (.object "com/example/gull/gull/Waker")) (by decide) (by decide)))
              have F302_b3_next := G277_3.other W292 (Or.inr (slot_ne (Or.inl (hw _ (List.mem_of_getElem? (i := 48) rfl))) (Or.inl (hw _ (List.mem_of_getElem? (i := 22) rfl))) (by decide) (t := (.object "com/example/gull/gull/WaitList$Waiter")) (t' := (.object "com/example/gull/gull/Waker")) (by decide) (by decide)))
              have F303_b3_waker := G277_4.same W292
              have E304_b3 := E284_b3.wr W292
              have E305_b13 := E285_b13.wr W292
              have E306_b31 := E286_b31.wr W292
              have E307_b244 := E287_b244.wr W292
              have A308_b1 := A288_b1.other W292 ne_b1_b3
              have A309_b57 := A289_b57.other W292 (Ne.symm ne_b3_b57)
              have Z310 := Nat.le_trans Z290 (Keep.of_wr W292).1
              refine s_aload k292 at_273 rfl rfl (pc' := 275) rfl ?_
              refine s_aload k292 at_275 rfl rfl (pc' := 277) rfl ?_
              refine s_iload k292 at_277 rfl (pc' := 279) rfl ?_
              refine s_aaload k292 (v := .ref b3) at_279 A308_b1 rfl ⟨by decide, by decide⟩ rfl (pc' := 280) rfl ?_
              refine s_callV k292 [.ref b3] 0 at_280 (hw _ (List.mem_of_getElem? (i := 30) rfl)) (hw _ (List.mem_of_getElem? (i := 31) rfl)) (hw _ (List.mem_of_getElem? (i := 33) rfl)) (hw _ (List.mem_of_getElem? (i := 32) rfl)) (hw _ (List.mem_of_getElem? (i := 25) rfl)) (hw _ (List.mem_of_getElem? (i := 34) rfl)) (by decide) E307_b244 (rmaA l Z a0 hw b244 b3 .null .null .null u3 h292 n0 Z310 E307_b244 E304_b3 F299_b244_first F300_b244_last F301_b3_previous F302_b3_next F303_b3_waker g_b244 g_b3 (Ne.symm ne_b3_b244)) (by decide) (by decide) pd__28Lcom_2fexample_2fgull_2fgull_2fWaitList_24Waiter_3b_29V rfl (Nat.le_of_eq rfl) rfl (by decide) (by decide) rfl (pc' := 283) rfl fun v311 T311 h311 L311 k311 Qv311 => ?_
              obtain ⟨rfl, Kc311, G311_0, G311_1, G311_2, G311_3, G311_4⟩ := Qv311
              have F312_b13_waker := F293_b13_waker.keep Kc311 (ninS ne_b13_b244 (ninS (Ne.symm ne_b3_b13) nin0))
              have F313_b13_previous := F294_b13_previous.keep Kc311 (ninS ne_b13_b244 (ninS (Ne.symm ne_b3_b13) nin0))
              have F314_b13_next := F295_b13_next.keep Kc311 (ninS ne_b13_b244 (ninS (Ne.symm ne_b3_b13) nin0))
              have F315_b31_waker := F296_b31_waker.keep Kc311 (ninS ne_b31_b244 (ninS (Ne.symm ne_b3_b31) nin0))
              have F316_b31_previous := F297_b31_previous.keep Kc311 (ninS ne_b31_b244 (ninS (Ne.symm ne_b3_b31) nin0))
              have F317_b31_next := F298_b31_next.keep Kc311 (ninS ne_b31_b244 (ninS (Ne.symm ne_b3_b31) nin0))
              have E318_b3 := E304_b3.keep Kc311
              have E319_b13 := E305_b13.keep Kc311
              have E320_b31 := E306_b31.keep Kc311
              have E321_b244 := E307_b244.keep Kc311
              have A322_b1 := A308_b1.keep Kc311 (ninS ne_b1_b244 (ninS ne_b1_b3 nin0))
              have A323_b57 := A309_b57.keep Kc311 (ninS ne_b57_b244 (ninS (Ne.symm ne_b3_b57) nin0))
              have Z324 := Nat.le_trans Z310 Kc311.1
              show Go p e below P T311 (mkF m 283 #[.val (.int i0), .val (.int i1), .val (.int i2), .val (.int (1 : Int32)), .val (.int (0 : Int32)), .val (.ref b1), .val (.ref b57), .val (.ref b244), .val u0, .unset] [])
              refine s_iloadN k311 at_283 rfl (pc' := 284) rfl ?_
              refine s_iconst k311 (z := 2) at_284 (by decide) (pc' := 285) rfl ?_
              refine s_icmp_lt k311 at_285 (by decide) (pc' := 320) (by decide) (pc3 := 288) rfl (fun hc285 => ?_) (fun hc285 => absurd (by decide) hc285)
              refine s_iloadN k311 at_320 rfl (pc' := 321) rfl ?_
              refine s_iconst k311 (z := 3) at_321 (by decide) (pc' := 322) rfl ?_
              refine s_icmp_lt k311 at_322 (by decide) (pc' := 358) (by decide) (pc3 := 325) rfl (fun hc322 => ?_) (fun hc322 => absurd (by decide) hc322)
              refine s_aload k311 at_358 rfl rfl (pc' := 360) rfl ?_
              refine s_aload k311 at_360 rfl rfl (pc' := 362) rfl ?_
              refine s_iload k311 at_362 rfl (pc' := 364) rfl ?_
              refine s_aaload k311 (v := .ref b3) at_364 A322_b1 rfl ⟨by decide, by decide⟩ rfl (pc' := 365) rfl ?_
              refine s_aload k311 at_365 rfl rfl (pc' := 367) rfl ?_
              refine s_iconst k311 (z := 3) at_367 (by decide) (pc' := 368) rfl ?_
              refine s_aaload k311 (v := u3) at_368 A323_b57 rfl ⟨by decide, by decide⟩ rfl (pc' := 369) rfl ?_
              refine s_callS k311 [.ref b244, .ref b3, u3] 0 at_369 (hw _ (List.mem_of_getElem? (i := 49) rfl)) (hw _ (List.mem_of_getElem? (i := 50) rfl)) (hw _ (List.mem_of_getElem? (i := 4) rfl)) (hw _ (List.mem_of_getElem? (i := 51) rfl)) (by decide) (rms0 l Z a0 hw b244 b3 u3 (.ref b3) h311 n0 Z324 E321_b244 E318_b3 G311_0 G311_1 G311_2 G311_3 G311_4 g_b244 g_b3 (Ne.symm ne_b3_b244) r_u3) (by decide) (by decide) pd__28Lcom_2fexample_2fgull_2fgull_2fWaitList_3bLcom_2fexample_2fgull_2fgull_2fWaitListRemovePinLaw_3bLcom_2fexample_2fgull_2fgull_2fWaker_3b_29Z rfl (Nat.le_of_eq rfl) rfl (by decide) (by decide) rfl (pc' := 372) rfl fun v325 T325 h325 L325 k325 Qv325 => ?_
              obtain ⟨rfl, Kc325, G325_0, G325_1, G325_2, G325_3, G325_4⟩ := Qv325
              have F326_b13_waker := F312_b13_waker.keep Kc325 (ninS ne_b13_b244 (ninS (Ne.symm ne_b3_b13) nin0))
              have F327_b13_previous := F313_b13_previous.keep Kc325 (ninS ne_b13_b244 (ninS (Ne.symm ne_b3_b13) nin0))
              have F328_b13_next := F314_b13_next.keep Kc325 (ninS ne_b13_b244 (ninS (Ne.symm ne_b3_b13) nin0))
              have F329_b31_waker := F315_b31_waker.keep Kc325 (ninS ne_b31_b244 (ninS (Ne.symm ne_b3_b31) nin0))
              have F330_b31_previous := F316_b31_previous.keep Kc325 (ninS ne_b31_b244 (ninS (Ne.symm ne_b3_b31) nin0))
              have F331_b31_next := F317_b31_next.keep Kc325 (ninS ne_b31_b244 (ninS (Ne.symm ne_b3_b31) nin0))
              have E332_b3 := E318_b3.keep Kc325
              have E333_b13 := E319_b13.keep Kc325
              have E334_b31 := E320_b31.keep Kc325
              have E335_b244 := E321_b244.keep Kc325
              have A336_b1 := A322_b1.keep Kc325 (ninS ne_b1_b244 (ninS ne_b1_b3 nin0))
              have A337_b57 := A323_b57.keep Kc325 (ninS ne_b57_b244 (ninS (Ne.symm ne_b3_b57) nin0))
              have Z338 := Nat.le_trans Z324 Kc325.1
              show Go p e below P T325 (mkF m 372 #[.val (.int i0), .val (.int i1), .val (.int i2), .val (.int (1 : Int32)), .val (.int (0 : Int32)), .val (.ref b1), .val (.ref b57), .val (.ref b244), .val u0, .unset] [.int (1 : Int32)])
              refine s_if_ne k325 at_372 (by decide) (pc' := 377) (by decide) (pc3 := 375) rfl (fun hc372 => absurd hc372 (by decide)) (fun hc372 => ?_)
              refine s_aload k325 at_377 rfl rfl (pc' := 379) rfl ?_
              refine s_callV k325 [] 0 at_379 (hw _ (List.mem_of_getElem? (i := 57) rfl)) (hw _ (List.mem_of_getElem? (i := 58) rfl)) (hw _ (List.mem_of_getElem? (i := 60) rfl)) (hw _ (List.mem_of_getElem? (i := 59) rfl)) (hw _ (List.mem_of_getElem? (i := 25) rfl)) (hw _ (List.mem_of_getElem? (i := 61) rfl)) (by decide) E335_b244 (rme l Z a0 hw b244 h325 n0 Z338 G325_0) (by decide) (by decide) pd__28_29Z rfl (Nat.le_of_eq rfl) rfl (by decide) (by decide) rfl (pc' := 382) rfl fun v339 T339 h339 L339 k339 Qv339 => ?_
              obtain ⟨rfl, rfl⟩ := Qv339
              show Go p e below P T339 (mkF m 382 #[.val (.int i0), .val (.int i1), .val (.int i2), .val (.int (1 : Int32)), .val (.int (0 : Int32)), .val (.ref b1), .val (.ref b57), .val (.ref b244), .val u0, .unset] [.int (1 : Int32)])
              refine s_if_eq k339 at_382 (by decide) (pc' := 397) (by decide) (pc3 := 385) rfl (fun hc382 => absurd hc382 (by decide)) (fun hc382 => ?_)
              refine s_aload k339 at_385 rfl rfl (pc' := 387) rfl ?_
              refine s_callV k339 [] 0 at_387 (hw _ (List.mem_of_getElem? (i := 52) rfl)) (hw _ (List.mem_of_getElem? (i := 53) rfl)) (hw _ (List.mem_of_getElem? (i := 55) rfl)) (hw _ (List.mem_of_getElem? (i := 54) rfl)) (hw _ (List.mem_of_getElem? (i := 25) rfl)) (hw _ (List.mem_of_getElem? (i := 56) rfl)) (by decide) E335_b244 (rmf l Z a0 hw b244 .null h325 n0 Z338 G325_0 rfl) (by decide) (by decide) pd__28_29Lcom_2fexample_2fgull_2fgull_2fWaitList_24Waiter_3b rfl (Nat.le_of_eq rfl) rfl (by decide) (by decide) rfl (pc' := 390) rfl fun v340 T340 h340 L340 k340 Qv340 => ?_
              obtain ⟨rfl, rfl⟩ := Qv340
              show Go p e below P T340 (mkF m 390 #[.val (.int i0), .val (.int i1), .val (.int i2), .val (.int (1 : Int32)), .val (.int (0 : Int32)), .val (.ref b1), .val (.ref b57), .val (.ref b244), .val u0, .unset] [.null])
              refine s_nonnullN k340 at_390 (pc' := 393) rfl ?_
              refine s_iconst k340 (z := 1) at_393 (by decide) (pc' := 394) rfl ?_
              refine s_goto k340 at_394 (by decide) (pc' := 398) (by decide) ?_
              exact s_retZ k340 at_398 rfl (by decide) hP (by decide) (by decide) rfl
          · rw [hk275]
            show Go p e below P T261 (mkF m 198 #[.val (.int i0), .val (.int i1), .val (.int i2), .val (.int (2 : Int32)), .val (.int ((i1 &&& (2147483647 : Int32)) % (2 : Int32))), .val (.ref b1), .val (.ref b57), .val (.ref b244), .unset, .unset] [])
            rcases own_k2 i1 with hk341 | hk341
            · rw [hk341]
              show Go p e below P T261 (mkF m 198 #[.val (.int i0), .val (.int i1), .val (.int i2), .val (.int (2 : Int32)), .val (.int (0 : Int32)), .val (.ref b1), .val (.ref b57), .val (.ref b244), .unset, .unset] [])
              refine s_iloadN k261 at_198 rfl (pc' := 199) rfl ?_
              refine s_iconst k261 (z := 2) at_199 (by decide) (pc' := 200) rfl ?_
              refine s_icmp_lt k261 at_200 (by decide) (pc' := 212) (by decide) (pc3 := 203) rfl (fun hc200 => absurd hc200 (by decide)) (fun hc200 => ?_)
              refine s_aload k261 at_203 rfl rfl (pc' := 205) rfl ?_
              refine s_aload k261 at_205 rfl rfl (pc' := 207) rfl ?_
              refine s_iconst k261 (z := 1) at_207 (by decide) (pc' := 208) rfl ?_
              refine s_aaload k261 (v := .ref b13) at_208 A272_b1 rfl ⟨by decide, by decide⟩ rfl (pc' := 209) rfl ?_
              refine s_callV k261 [.ref b13] 0 at_209 (hw _ (List.mem_of_getElem? (i := 30) rfl)) (hw _ (List.mem_of_getElem? (i := 31) rfl)) (hw _ (List.mem_of_getElem? (i := 33) rfl)) (hw _ (List.mem_of_getElem? (i := 32) rfl)) (hw _ (List.mem_of_getElem? (i := 25) rfl)) (hw _ (List.mem_of_getElem? (i := 34) rfl)) (by decide) E271_b244 (rmaB l Z a0 hw b244 b13 b3 (.ref b3) .null .null u1 .null .null u0 h261 n0 Z274 E271_b244 E269_b13 E268_b3 G261_0 G261_1 F263_b13_previous F264_b13_next F262_b13_waker G261_2 G261_3 G261_4 g_b244 g_b13 g_b3 (Ne.symm ne_b13_b244) (Ne.symm ne_b3_b244) (Ne.symm ne_b3_b13)) (by decide) (by decide) pd__28Lcom_2fexample_2fgull_2fgull_2fWaitList_24Waiter_3b_29V rfl (Nat.le_of_eq rfl) rfl (by decide) (by decide) rfl (pc' := 212) rfl fun v342 T342 h342 L342 k342 Qv342 => ?_
              obtain ⟨rfl, Kc342, G342_0, G342_1, G342_2, G342_3, G342_4, G342_5, G342_6, G342_7⟩ := Qv342
              have F343_b31_waker := F265_b31_waker.keep Kc342 (ninS ne_b31_b244 (ninS (Ne.symm ne_b13_b31) (ninS (Ne.symm ne_b3_b31) nin0)))
              have F344_b31_previous := F266_b31_previous.keep Kc342 (ninS ne_b31_b244 (ninS (Ne.symm ne_b13_b31) (ninS (Ne.symm ne_b3_b31) nin0)))
              have F345_b31_next := F267_b31_next.keep Kc342 (ninS ne_b31_b244 (ninS (Ne.symm ne_b13_b31) (ninS (Ne.symm ne_b3_b31) nin0)))
              have E346_b3 := E268_b3.keep Kc342
              have E347_b13 := E269_b13.keep Kc342
              have E348_b31 := E270_b31.keep Kc342
              have E349_b244 := E271_b244.keep Kc342
              have A350_b1 := A272_b1.keep Kc342 (ninS ne_b1_b244 (ninS ne_b1_b13 (ninS ne_b1_b3 nin0)))
              have A351_b57 := A273_b57.keep Kc342 (ninS ne_b57_b244 (ninS (Ne.symm ne_b13_b57) (ninS (Ne.symm ne_b3_b57) nin0)))
              have Z352 := Nat.le_trans Z274 Kc342.1
              show Go p e below P T342 (mkF m 212 #[.val (.int i0), .val (.int i1), .val (.int i2), .val (.int (2 : Int32)), .val (.int (0 : Int32)), .val (.ref b1), .val (.ref b57), .val (.ref b244), .unset, .unset] [])
              refine s_iloadN k342 at_212 rfl (pc' := 213) rfl ?_
              refine s_iconst k342 (z := 3) at_213 (by decide) (pc' := 214) rfl ?_
              refine s_icmp_lt k342 at_214 (by decide) (pc' := 226) (by decide) (pc3 := 217) rfl (fun hc214 => ?_) (fun hc214 => absurd (by decide) hc214)
              refine s_aload k342 at_226 rfl rfl (pc' := 228) rfl ?_
              refine s_aload k342 at_228 rfl rfl (pc' := 230) rfl ?_
              refine s_iload k342 at_230 rfl (pc' := 232) rfl ?_
              refine s_aaload k342 (v := .ref b3) at_232 A350_b1 rfl ⟨by decide, by decide⟩ rfl (pc' := 233) rfl ?_
              refine s_callV k342 [.ref b3] 0 at_233 (hw _ (List.mem_of_getElem? (i := 41) rfl)) (hw _ (List.mem_of_getElem? (i := 42) rfl)) (hw _ (List.mem_of_getElem? (i := 44) rfl)) (hw _ (List.mem_of_getElem? (i := 43) rfl)) (hw _ (List.mem_of_getElem? (i := 25) rfl)) (hw _ (List.mem_of_getElem? (i := 45) rfl)) (by decide) E349_b244 (rmr01 l Z a0 hw b244 b3 b13 (.ref b3) (.ref b13) u0 (.ref b3) .null u1 h342 n0 Z352 E349_b244 E346_b3 E347_b13 G342_0 G342_1 G342_5 G342_6 G342_7 G342_2 G342_3 G342_4 g_b244 g_b3 g_b13 (Ne.symm ne_b3_b244) (Ne.symm ne_b13_b244) ne_b3_b13 r_u0) (by decide) (by decide) pd__28Lcom_2fexample_2fgull_2fgull_2fWaitList_24Waiter_3b_29Lcom_2fexample_2fgull_2fgull_2fWaker_3b rfl (Nat.le_of_eq rfl) rfl (by decide) (by decide) rfl (pc' := 236) rfl fun v353 T353 h353 L353 k353 Qv353 => ?_
              obtain ⟨rfl, Kc353, G353_0, G353_1, G353_2, G353_3, G353_4, G353_5, G353_6, G353_7⟩ := Qv353
              have F354_b31_waker := F343_b31_waker.keep Kc353 (ninS ne_b31_b244 (ninS (Ne.symm ne_b3_b31) (ninS (Ne.symm ne_b13_b31) nin0)))
              have F355_b31_previous := F344_b31_previous.keep Kc353 (ninS ne_b31_b244 (ninS (Ne.symm ne_b3_b31) (ninS (Ne.symm ne_b13_b31) nin0)))
              have F356_b31_next := F345_b31_next.keep Kc353 (ninS ne_b31_b244 (ninS (Ne.symm ne_b3_b31) (ninS (Ne.symm ne_b13_b31) nin0)))
              have E357_b3 := E346_b3.keep Kc353
              have E358_b13 := E347_b13.keep Kc353
              have E359_b31 := E348_b31.keep Kc353
              have E360_b244 := E349_b244.keep Kc353
              have A361_b1 := A350_b1.keep Kc353 (ninS ne_b1_b244 (ninS ne_b1_b3 (ninS ne_b1_b13 nin0)))
              have A362_b57 := A351_b57.keep Kc353 (ninS ne_b57_b244 (ninS (Ne.symm ne_b3_b57) (ninS (Ne.symm ne_b13_b57) nin0)))
              have Z363 := Nat.le_trans Z352 Kc353.1
              show Go p e below P T353 (mkF m 236 #[.val (.int i0), .val (.int i1), .val (.int i2), .val (.int (2 : Int32)), .val (.int (0 : Int32)), .val (.ref b1), .val (.ref b57), .val (.ref b244), .unset, .unset] [u0])
              refine s_astore k353 at_236 r_u0 (l' := #[.val (.int i0), .val (.int i1), .val (.int i2), .val (.int (2 : Int32)), .val (.int (0 : Int32)), .val (.ref b1), .val (.ref b57), .val (.ref b244), .val u0, .unset]) (by rcases ref_cases r_u0 with rfl | ⟨_, rfl⟩ <;> rfl) (pc' := 238) rfl ?_
              refine s_aload k353 at_238 rfl r_u0 (pc' := 240) rfl ?_
              refine s_aload k353 at_240 rfl rfl (pc' := 242) rfl ?_
              refine s_iload k353 at_242 rfl (pc' := 244) rfl ?_
              refine s_aaload k353 (v := u0) at_244 A362_b57 rfl ⟨by decide, by decide⟩ rfl (pc' := 245) rfl ?_
              refine s_acmp_ne k353 at_245 r_u0 r_u0 (by decide) (pc' := 259) (by decide) (pc3 := 248) rfl (fun hc245 => ?_) (fun hc245 => absurd rfl hc245)
              refine s_aload k353 at_248 rfl rfl (pc' := 250) rfl ?_
              refine s_iload k353 at_250 rfl (pc' := 252) rfl ?_
              refine s_aaload k353 (v := .ref b3) at_252 A361_b1 rfl ⟨by decide, by decide⟩ rfl (pc' := 253) rfl ?_
              refine s_get k353 at_253 (host := "") (Or.inl (hw _ (List.mem_of_getElem? (i := 20) rfl))) (Via.of (hw _ (List.mem_of_getElem? (i := 21) rfl))) G353_4 (pc' := 256) rfl fun T364 k364 => ?_
              refine s_nullY k364 at_256 (by decide) (pc' := 261) (by decide) ?_
              refine s_aload k364 at_261 rfl rfl (pc' := 263) rfl ?_
              refine s_iload k364 at_263 rfl (pc' := 265) rfl ?_
              refine s_aaload k364 (v := .ref b3) at_265 A361_b1 rfl ⟨by decide, by decide⟩ rfl (pc' := 266) rfl ?_
              refine s_aload k364 at_266 rfl rfl (pc' := 268) rfl ?_
              refine s_iconst k364 (z := 3) at_268 (by decide) (pc' := 269) rfl ?_
              refine s_aaload k364 (v := u3) at_269 A362_b57 rfl ⟨by decide, by decide⟩ rfl (pc' := 270) rfl ?_
              refine s_put k364 at_270 (host := "") (Or.inl (hw _ (List.mem_of_getElem? (i := 20) rfl))) (Via.of (hw _ (List.mem_of_getElem? (i := 21) rfl))) G353_4 E357_b3 (Or.inl (hw _ (List.mem_of_getElem? (i := 22) rfl))) (hw _ (List.mem_of_getElem? (i := 3) rfl)) (ty := (.object "com/example/gull/gull/Waker")) (by decide) (nar_ref r_u3) (fit_ref r_u3) g_b3 (pc' := 273) rfl fun T365 h365 L365 k365 W365 => ?_
              have F366_b31_waker := F354_b31_waker.other W365 (Or.inl (Ne.symm ne_b3_b31))
              have F367_b31_previous := F355_b31_previous.other W365 (Or.inl (Ne.symm ne_b3_b31))
              have F368_b31_next := F356_b31_next.other W365 (Or.inl (Ne.symm ne_b3_b31))
              have F369_b244_first := G353_0.other W365 (Or.inl (Ne.symm ne_b3_b244))
              have F370_b244_last := G353_1.other W365 (Or.inl (Ne.symm ne_b3_b244))
              have F371_b3_previous := G353_2.other W365 (Or.inr (slot_ne (Or.inl (hw _ (List.mem_of_getElem? (i := 38) rfl))) (Or.inl (hw _ (List.mem_of_getElem? (i := 22) rfl))) (by decide) (t := (.object "com/example/gull/gull/WaitList$Waiter")) (t' := (.object "com/example/gull/gull/Waker")) (by decide) (by decide)))
              have F372_b3_next := G353_3.other W365 (Or.inr (slot_ne (Or.inl (hw _ (List.mem_of_getElem? (i := 48) rfl))) (Or.inl (hw _ (List.mem_of_getElem? (i := 22) rfl))) (by decide) (t := (.object "com/example/gull/gull/WaitList$Waiter")) (t' := (.object "com/example/gull/gull/Waker")) (by decide) (by decide)))
              have F373_b3_waker := G353_4.same W365
              have F374_b13_previous := G353_5.other W365 (Or.inl (Ne.symm ne_b3_b13))
              have F375_b13_next := G353_6.other W365 (Or.inl (Ne.symm ne_b3_b13))
              have F376_b13_waker := G353_7.other W365 (Or.inl (Ne.symm ne_b3_b13))
              have E377_b3 := E357_b3.wr W365
              have E378_b13 := E358_b13.wr W365
              have E379_b31 := E359_b31.wr W365
              have E380_b244 := E360_b244.wr W365
              have A381_b1 := A361_b1.other W365 ne_b1_b3
              have A382_b57 := A362_b57.other W365 (Ne.symm ne_b3_b57)
              have Z383 := Nat.le_trans Z363 (Keep.of_wr W365).1
              refine s_aload k365 at_273 rfl rfl (pc' := 275) rfl ?_
              refine s_aload k365 at_275 rfl rfl (pc' := 277) rfl ?_
              refine s_iload k365 at_277 rfl (pc' := 279) rfl ?_
              refine s_aaload k365 (v := .ref b3) at_279 A381_b1 rfl ⟨by decide, by decide⟩ rfl (pc' := 280) rfl ?_
              refine s_callV k365 [.ref b3] 0 at_280 (hw _ (List.mem_of_getElem? (i := 30) rfl)) (hw _ (List.mem_of_getElem? (i := 31) rfl)) (hw _ (List.mem_of_getElem? (i := 33) rfl)) (hw _ (List.mem_of_getElem? (i := 32) rfl)) (hw _ (List.mem_of_getElem? (i := 25) rfl)) (hw _ (List.mem_of_getElem? (i := 34) rfl)) (by decide) E380_b244 (rmaB l Z a0 hw b244 b3 b13 (.ref b13) .null .null u3 .null .null u1 h365 n0 Z383 E380_b244 E377_b3 E378_b13 F369_b244_first F370_b244_last F371_b3_previous F372_b3_next F373_b3_waker F374_b13_previous F375_b13_next F376_b13_waker g_b244 g_b3 g_b13 (Ne.symm ne_b3_b244) (Ne.symm ne_b13_b244) ne_b3_b13) (by decide) (by decide) pd__28Lcom_2fexample_2fgull_2fgull_2fWaitList_24Waiter_3b_29V rfl (Nat.le_of_eq rfl) rfl (by decide) (by decide) rfl (pc' := 283) rfl fun v384 T384 h384 L384 k384 Qv384 => ?_
              obtain ⟨rfl, Kc384, G384_0, G384_1, G384_2, G384_3, G384_4, G384_5, G384_6, G384_7⟩ := Qv384
              have F385_b31_waker := F366_b31_waker.keep Kc384 (ninS ne_b31_b244 (ninS (Ne.symm ne_b3_b31) (ninS (Ne.symm ne_b13_b31) nin0)))
              have F386_b31_previous := F367_b31_previous.keep Kc384 (ninS ne_b31_b244 (ninS (Ne.symm ne_b3_b31) (ninS (Ne.symm ne_b13_b31) nin0)))
              have F387_b31_next := F368_b31_next.keep Kc384 (ninS ne_b31_b244 (ninS (Ne.symm ne_b3_b31) (ninS (Ne.symm ne_b13_b31) nin0)))
              have E388_b3 := E377_b3.keep Kc384
              have E389_b13 := E378_b13.keep Kc384
              have E390_b31 := E379_b31.keep Kc384
              have E391_b244 := E380_b244.keep Kc384
              have A392_b1 := A381_b1.keep Kc384 (ninS ne_b1_b244 (ninS ne_b1_b3 (ninS ne_b1_b13 nin0)))
              have A393_b57 := A382_b57.keep Kc384 (ninS ne_b57_b244 (ninS (Ne.symm ne_b3_b57) (ninS (Ne.symm ne_b13_b57) nin0)))
              have Z394 := Nat.le_trans Z383 Kc384.1
              show Go p e below P T384 (mkF m 283 #[.val (.int i0), .val (.int i1), .val (.int i2), .val (.int (2 : Int32)), .val (.int (0 : Int32)), .val (.ref b1), .val (.ref b57), .val (.ref b244), .val u0, .unset] [])
              refine s_iloadN k384 at_283 rfl (pc' := 284) rfl ?_
              refine s_iconst k384 (z := 2) at_284 (by decide) (pc' := 285) rfl ?_
              refine s_icmp_lt k384 at_285 (by decide) (pc' := 320) (by decide) (pc3 := 288) rfl (fun hc285 => absurd hc285 (by decide)) (fun hc285 => ?_)
              refine s_iload k384 at_288 rfl (pc' := 290) rfl ?_
              refine s_if_ne k384 at_290 (by decide) (pc' := 297) (by decide) (pc3 := 293) rfl (fun hc290 => ?_) (fun hc290 => absurd (by decide) hc290)
              refine s_iconst k384 (z := 1) at_293 (by decide) (pc' := 294) rfl ?_
              refine s_goto k384 at_294 (by decide) (pc' := 298) (by decide) ?_
              refine s_istore k384 at_298 (l' := #[.val (.int i0), .val (.int i1), .val (.int i2), .val (.int (2 : Int32)), .val (.int (0 : Int32)), .val (.ref b1), .val (.ref b57), .val (.ref b244), .val u0, .val (.int (1 : Int32))]) rfl (pc' := 300) rfl ?_
              refine s_aload k384 at_300 rfl rfl (pc' := 302) rfl ?_
              refine s_aload k384 at_302 rfl rfl (pc' := 304) rfl ?_
              refine s_iload k384 at_304 rfl (pc' := 306) rfl ?_
              refine s_aaload k384 (v := .ref b13) at_306 A392_b1 rfl ⟨by decide, by decide⟩ rfl (pc' := 307) rfl ?_
              refine s_aload k384 at_307 rfl rfl (pc' := 309) rfl ?_
              refine s_iload k384 at_309 rfl (pc' := 311) rfl ?_
              refine s_aaload k384 (v := u1) at_311 A393_b57 rfl ⟨by decide, by decide⟩ rfl (pc' := 312) rfl ?_
              refine s_callS k384 [.ref b244, .ref b13, u1] 0 at_312 (hw _ (List.mem_of_getElem? (i := 49) rfl)) (hw _ (List.mem_of_getElem? (i := 50) rfl)) (hw _ (List.mem_of_getElem? (i := 4) rfl)) (hw _ (List.mem_of_getElem? (i := 51) rfl)) (by decide) (rms1 l Z a0 hw b244 b13 b3 u1 (.ref b3) (.ref b13) .null u3 h384 n0 Z394 E391_b244 E389_b13 E388_b3 G384_0 G384_1 G384_5 G384_6 G384_7 G384_2 G384_3 G384_4 g_b244 g_b13 g_b3 (Ne.symm ne_b13_b244) (Ne.symm ne_b3_b244) (Ne.symm ne_b3_b13) r_u1) (by decide) (by decide) pd__28Lcom_2fexample_2fgull_2fgull_2fWaitList_3bLcom_2fexample_2fgull_2fgull_2fWaitListRemovePinLaw_3bLcom_2fexample_2fgull_2fgull_2fWaker_3b_29Z rfl (Nat.le_of_eq rfl) rfl (by decide) (by decide) rfl (pc' := 315) rfl fun v395 T395 h395 L395 k395 Qv395 => ?_
              obtain ⟨rfl, Kc395, G395_0, G395_1, G395_2, G395_3, G395_4, G395_5, G395_6, G395_7⟩ := Qv395
              have F396_b31_waker := F385_b31_waker.keep Kc395 (ninS ne_b31_b244 (ninS (Ne.symm ne_b13_b31) (ninS (Ne.symm ne_b3_b31) nin0)))
              have F397_b31_previous := F386_b31_previous.keep Kc395 (ninS ne_b31_b244 (ninS (Ne.symm ne_b13_b31) (ninS (Ne.symm ne_b3_b31) nin0)))
              have F398_b31_next := F387_b31_next.keep Kc395 (ninS ne_b31_b244 (ninS (Ne.symm ne_b13_b31) (ninS (Ne.symm ne_b3_b31) nin0)))
              have E399_b3 := E388_b3.keep Kc395
              have E400_b13 := E389_b13.keep Kc395
              have E401_b31 := E390_b31.keep Kc395
              have E402_b244 := E391_b244.keep Kc395
              have A403_b1 := A392_b1.keep Kc395 (ninS ne_b1_b244 (ninS ne_b1_b13 (ninS ne_b1_b3 nin0)))
              have A404_b57 := A393_b57.keep Kc395 (ninS ne_b57_b244 (ninS (Ne.symm ne_b13_b57) (ninS (Ne.symm ne_b3_b57) nin0)))
              have Z405 := Nat.le_trans Z394 Kc395.1
              show Go p e below P T395 (mkF m 315 #[.val (.int i0), .val (.int i1), .val (.int i2), .val (.int (2 : Int32)), .val (.int (0 : Int32)), .val (.ref b1), .val (.ref b57), .val (.ref b244), .val u0, .val (.int (1 : Int32))] [.int (1 : Int32)])
              refine s_if_ne k395 at_315 (by decide) (pc' := 320) (by decide) (pc3 := 318) rfl (fun hc315 => absurd hc315 (by decide)) (fun hc315 => ?_)
              refine s_iloadN k395 at_320 rfl (pc' := 321) rfl ?_
              refine s_iconst k395 (z := 3) at_321 (by decide) (pc' := 322) rfl ?_
              refine s_icmp_lt k395 at_322 (by decide) (pc' := 358) (by decide) (pc3 := 325) rfl (fun hc322 => ?_) (fun hc322 => absurd (by decide) hc322)
              refine s_aload k395 at_358 rfl rfl (pc' := 360) rfl ?_
              refine s_aload k395 at_360 rfl rfl (pc' := 362) rfl ?_
              refine s_iload k395 at_362 rfl (pc' := 364) rfl ?_
              refine s_aaload k395 (v := .ref b3) at_364 A403_b1 rfl ⟨by decide, by decide⟩ rfl (pc' := 365) rfl ?_
              refine s_aload k395 at_365 rfl rfl (pc' := 367) rfl ?_
              refine s_iconst k395 (z := 3) at_367 (by decide) (pc' := 368) rfl ?_
              refine s_aaload k395 (v := u3) at_368 A404_b57 rfl ⟨by decide, by decide⟩ rfl (pc' := 369) rfl ?_
              refine s_callS k395 [.ref b244, .ref b3, u3] 0 at_369 (hw _ (List.mem_of_getElem? (i := 49) rfl)) (hw _ (List.mem_of_getElem? (i := 50) rfl)) (hw _ (List.mem_of_getElem? (i := 4) rfl)) (hw _ (List.mem_of_getElem? (i := 51) rfl)) (by decide) (rms0 l Z a0 hw b244 b3 u3 (.ref b3) h395 n0 Z405 E402_b244 E399_b3 G395_0 G395_1 G395_5 G395_6 G395_7 g_b244 g_b3 (Ne.symm ne_b3_b244) r_u3) (by decide) (by decide) pd__28Lcom_2fexample_2fgull_2fgull_2fWaitList_3bLcom_2fexample_2fgull_2fgull_2fWaitListRemovePinLaw_3bLcom_2fexample_2fgull_2fgull_2fWaker_3b_29Z rfl (Nat.le_of_eq rfl) rfl (by decide) (by decide) rfl (pc' := 372) rfl fun v406 T406 h406 L406 k406 Qv406 => ?_
              obtain ⟨rfl, Kc406, G406_0, G406_1, G406_2, G406_3, G406_4⟩ := Qv406
              have F407_b31_waker := F396_b31_waker.keep Kc406 (ninS ne_b31_b244 (ninS (Ne.symm ne_b3_b31) nin0))
              have F408_b31_previous := F397_b31_previous.keep Kc406 (ninS ne_b31_b244 (ninS (Ne.symm ne_b3_b31) nin0))
              have F409_b31_next := F398_b31_next.keep Kc406 (ninS ne_b31_b244 (ninS (Ne.symm ne_b3_b31) nin0))
              have F410_b13_previous := G395_2.keep Kc406 (ninS ne_b13_b244 (ninS (Ne.symm ne_b3_b13) nin0))
              have F411_b13_next := G395_3.keep Kc406 (ninS ne_b13_b244 (ninS (Ne.symm ne_b3_b13) nin0))
              have F412_b13_waker := G395_4.keep Kc406 (ninS ne_b13_b244 (ninS (Ne.symm ne_b3_b13) nin0))
              have E413_b3 := E399_b3.keep Kc406
              have E414_b13 := E400_b13.keep Kc406
              have E415_b31 := E401_b31.keep Kc406
              have E416_b244 := E402_b244.keep Kc406
              have A417_b1 := A403_b1.keep Kc406 (ninS ne_b1_b244 (ninS ne_b1_b3 nin0))
              have A418_b57 := A404_b57.keep Kc406 (ninS ne_b57_b244 (ninS (Ne.symm ne_b3_b57) nin0))
              have Z419 := Nat.le_trans Z405 Kc406.1
              show Go p e below P T406 (mkF m 372 #[.val (.int i0), .val (.int i1), .val (.int i2), .val (.int (2 : Int32)), .val (.int (0 : Int32)), .val (.ref b1), .val (.ref b57), .val (.ref b244), .val u0, .val (.int (1 : Int32))] [.int (1 : Int32)])
              refine s_if_ne k406 at_372 (by decide) (pc' := 377) (by decide) (pc3 := 375) rfl (fun hc372 => absurd hc372 (by decide)) (fun hc372 => ?_)
              refine s_aload k406 at_377 rfl rfl (pc' := 379) rfl ?_
              refine s_callV k406 [] 0 at_379 (hw _ (List.mem_of_getElem? (i := 57) rfl)) (hw _ (List.mem_of_getElem? (i := 58) rfl)) (hw _ (List.mem_of_getElem? (i := 60) rfl)) (hw _ (List.mem_of_getElem? (i := 59) rfl)) (hw _ (List.mem_of_getElem? (i := 25) rfl)) (hw _ (List.mem_of_getElem? (i := 61) rfl)) (by decide) E416_b244 (rme l Z a0 hw b244 h406 n0 Z419 G406_0) (by decide) (by decide) pd__28_29Z rfl (Nat.le_of_eq rfl) rfl (by decide) (by decide) rfl (pc' := 382) rfl fun v420 T420 h420 L420 k420 Qv420 => ?_
              obtain ⟨rfl, rfl⟩ := Qv420
              show Go p e below P T420 (mkF m 382 #[.val (.int i0), .val (.int i1), .val (.int i2), .val (.int (2 : Int32)), .val (.int (0 : Int32)), .val (.ref b1), .val (.ref b57), .val (.ref b244), .val u0, .val (.int (1 : Int32))] [.int (1 : Int32)])
              refine s_if_eq k420 at_382 (by decide) (pc' := 397) (by decide) (pc3 := 385) rfl (fun hc382 => absurd hc382 (by decide)) (fun hc382 => ?_)
              refine s_aload k420 at_385 rfl rfl (pc' := 387) rfl ?_
              refine s_callV k420 [] 0 at_387 (hw _ (List.mem_of_getElem? (i := 52) rfl)) (hw _ (List.mem_of_getElem? (i := 53) rfl)) (hw _ (List.mem_of_getElem? (i := 55) rfl)) (hw _ (List.mem_of_getElem? (i := 54) rfl)) (hw _ (List.mem_of_getElem? (i := 25) rfl)) (hw _ (List.mem_of_getElem? (i := 56) rfl)) (by decide) E416_b244 (rmf l Z a0 hw b244 .null h406 n0 Z419 G406_0 rfl) (by decide) (by decide) pd__28_29Lcom_2fexample_2fgull_2fgull_2fWaitList_24Waiter_3b rfl (Nat.le_of_eq rfl) rfl (by decide) (by decide) rfl (pc' := 390) rfl fun v421 T421 h421 L421 k421 Qv421 => ?_
              obtain ⟨rfl, rfl⟩ := Qv421
              show Go p e below P T421 (mkF m 390 #[.val (.int i0), .val (.int i1), .val (.int i2), .val (.int (2 : Int32)), .val (.int (0 : Int32)), .val (.ref b1), .val (.ref b57), .val (.ref b244), .val u0, .val (.int (1 : Int32))] [.null])
              refine s_nonnullN k421 at_390 (pc' := 393) rfl ?_
              refine s_iconst k421 (z := 1) at_393 (by decide) (pc' := 394) rfl ?_
              refine s_goto k421 at_394 (by decide) (pc' := 398) (by decide) ?_
              exact s_retZ k421 at_398 rfl (by decide) hP (by decide) (by decide) rfl
            · rw [hk341]
              show Go p e below P T261 (mkF m 198 #[.val (.int i0), .val (.int i1), .val (.int i2), .val (.int (2 : Int32)), .val (.int (1 : Int32)), .val (.ref b1), .val (.ref b57), .val (.ref b244), .unset, .unset] [])
              refine s_iloadN k261 at_198 rfl (pc' := 199) rfl ?_
              refine s_iconst k261 (z := 2) at_199 (by decide) (pc' := 200) rfl ?_
              refine s_icmp_lt k261 at_200 (by decide) (pc' := 212) (by decide) (pc3 := 203) rfl (fun hc200 => absurd hc200 (by decide)) (fun hc200 => ?_)
              refine s_aload k261 at_203 rfl rfl (pc' := 205) rfl ?_
              refine s_aload k261 at_205 rfl rfl (pc' := 207) rfl ?_
              refine s_iconst k261 (z := 1) at_207 (by decide) (pc' := 208) rfl ?_
              refine s_aaload k261 (v := .ref b13) at_208 A272_b1 rfl ⟨by decide, by decide⟩ rfl (pc' := 209) rfl ?_
              refine s_callV k261 [.ref b13] 0 at_209 (hw _ (List.mem_of_getElem? (i := 30) rfl)) (hw _ (List.mem_of_getElem? (i := 31) rfl)) (hw _ (List.mem_of_getElem? (i := 33) rfl)) (hw _ (List.mem_of_getElem? (i := 32) rfl)) (hw _ (List.mem_of_getElem? (i := 25) rfl)) (hw _ (List.mem_of_getElem? (i := 34) rfl)) (by decide) E271_b244 (rmaB l Z a0 hw b244 b13 b3 (.ref b3) .null .null u1 .null .null u0 h261 n0 Z274 E271_b244 E269_b13 E268_b3 G261_0 G261_1 F263_b13_previous F264_b13_next F262_b13_waker G261_2 G261_3 G261_4 g_b244 g_b13 g_b3 (Ne.symm ne_b13_b244) (Ne.symm ne_b3_b244) (Ne.symm ne_b3_b13)) (by decide) (by decide) pd__28Lcom_2fexample_2fgull_2fgull_2fWaitList_24Waiter_3b_29V rfl (Nat.le_of_eq rfl) rfl (by decide) (by decide) rfl (pc' := 212) rfl fun v422 T422 h422 L422 k422 Qv422 => ?_
              obtain ⟨rfl, Kc422, G422_0, G422_1, G422_2, G422_3, G422_4, G422_5, G422_6, G422_7⟩ := Qv422
              have F423_b31_waker := F265_b31_waker.keep Kc422 (ninS ne_b31_b244 (ninS (Ne.symm ne_b13_b31) (ninS (Ne.symm ne_b3_b31) nin0)))
              have F424_b31_previous := F266_b31_previous.keep Kc422 (ninS ne_b31_b244 (ninS (Ne.symm ne_b13_b31) (ninS (Ne.symm ne_b3_b31) nin0)))
              have F425_b31_next := F267_b31_next.keep Kc422 (ninS ne_b31_b244 (ninS (Ne.symm ne_b13_b31) (ninS (Ne.symm ne_b3_b31) nin0)))
              have E426_b3 := E268_b3.keep Kc422
              have E427_b13 := E269_b13.keep Kc422
              have E428_b31 := E270_b31.keep Kc422
              have E429_b244 := E271_b244.keep Kc422
              have A430_b1 := A272_b1.keep Kc422 (ninS ne_b1_b244 (ninS ne_b1_b13 (ninS ne_b1_b3 nin0)))
              have A431_b57 := A273_b57.keep Kc422 (ninS ne_b57_b244 (ninS (Ne.symm ne_b13_b57) (ninS (Ne.symm ne_b3_b57) nin0)))
              have Z432 := Nat.le_trans Z274 Kc422.1
              show Go p e below P T422 (mkF m 212 #[.val (.int i0), .val (.int i1), .val (.int i2), .val (.int (2 : Int32)), .val (.int (1 : Int32)), .val (.ref b1), .val (.ref b57), .val (.ref b244), .unset, .unset] [])
              refine s_iloadN k422 at_212 rfl (pc' := 213) rfl ?_
              refine s_iconst k422 (z := 3) at_213 (by decide) (pc' := 214) rfl ?_
              refine s_icmp_lt k422 at_214 (by decide) (pc' := 226) (by decide) (pc3 := 217) rfl (fun hc214 => ?_) (fun hc214 => absurd (by decide) hc214)
              refine s_aload k422 at_226 rfl rfl (pc' := 228) rfl ?_
              refine s_aload k422 at_228 rfl rfl (pc' := 230) rfl ?_
              refine s_iload k422 at_230 rfl (pc' := 232) rfl ?_
              refine s_aaload k422 (v := .ref b13) at_232 A430_b1 rfl ⟨by decide, by decide⟩ rfl (pc' := 233) rfl ?_
              refine s_callV k422 [.ref b13] 0 at_233 (hw _ (List.mem_of_getElem? (i := 41) rfl)) (hw _ (List.mem_of_getElem? (i := 42) rfl)) (hw _ (List.mem_of_getElem? (i := 44) rfl)) (hw _ (List.mem_of_getElem? (i := 43) rfl)) (hw _ (List.mem_of_getElem? (i := 25) rfl)) (hw _ (List.mem_of_getElem? (i := 45) rfl)) (by decide) E429_b244 (rmr10 l Z a0 hw b244 b13 b3 (.ref b3) (.ref b13) u1 .null (.ref b13) u0 h422 n0 Z432 E429_b244 E427_b13 E426_b3 G422_0 G422_1 G422_2 G422_3 G422_4 G422_5 G422_6 G422_7 g_b244 g_b13 g_b3 (Ne.symm ne_b13_b244) (Ne.symm ne_b3_b244) (Ne.symm ne_b3_b13) r_u1) (by decide) (by decide) pd__28Lcom_2fexample_2fgull_2fgull_2fWaitList_24Waiter_3b_29Lcom_2fexample_2fgull_2fgull_2fWaker_3b rfl (Nat.le_of_eq rfl) rfl (by decide) (by decide) rfl (pc' := 236) rfl fun v433 T433 h433 L433 k433 Qv433 => ?_
              obtain ⟨rfl, Kc433, G433_0, G433_1, G433_2, G433_3, G433_4, G433_5, G433_6, G433_7⟩ := Qv433
              have F434_b31_waker := F423_b31_waker.keep Kc433 (ninS ne_b31_b244 (ninS (Ne.symm ne_b13_b31) (ninS (Ne.symm ne_b3_b31) nin0)))
              have F435_b31_previous := F424_b31_previous.keep Kc433 (ninS ne_b31_b244 (ninS (Ne.symm ne_b13_b31) (ninS (Ne.symm ne_b3_b31) nin0)))
              have F436_b31_next := F425_b31_next.keep Kc433 (ninS ne_b31_b244 (ninS (Ne.symm ne_b13_b31) (ninS (Ne.symm ne_b3_b31) nin0)))
              have E437_b3 := E426_b3.keep Kc433
              have E438_b13 := E427_b13.keep Kc433
              have E439_b31 := E428_b31.keep Kc433
              have E440_b244 := E429_b244.keep Kc433
              have A441_b1 := A430_b1.keep Kc433 (ninS ne_b1_b244 (ninS ne_b1_b13 (ninS ne_b1_b3 nin0)))
              have A442_b57 := A431_b57.keep Kc433 (ninS ne_b57_b244 (ninS (Ne.symm ne_b13_b57) (ninS (Ne.symm ne_b3_b57) nin0)))
              have Z443 := Nat.le_trans Z432 Kc433.1
              show Go p e below P T433 (mkF m 236 #[.val (.int i0), .val (.int i1), .val (.int i2), .val (.int (2 : Int32)), .val (.int (1 : Int32)), .val (.ref b1), .val (.ref b57), .val (.ref b244), .unset, .unset] [u1])
              refine s_astore k433 at_236 r_u1 (l' := #[.val (.int i0), .val (.int i1), .val (.int i2), .val (.int (2 : Int32)), .val (.int (1 : Int32)), .val (.ref b1), .val (.ref b57), .val (.ref b244), .val u1, .unset]) (by rcases ref_cases r_u1 with rfl | ⟨_, rfl⟩ <;> rfl) (pc' := 238) rfl ?_
              refine s_aload k433 at_238 rfl r_u1 (pc' := 240) rfl ?_
              refine s_aload k433 at_240 rfl rfl (pc' := 242) rfl ?_
              refine s_iload k433 at_242 rfl (pc' := 244) rfl ?_
              refine s_aaload k433 (v := u1) at_244 A442_b57 rfl ⟨by decide, by decide⟩ rfl (pc' := 245) rfl ?_
              refine s_acmp_ne k433 at_245 r_u1 r_u1 (by decide) (pc' := 259) (by decide) (pc3 := 248) rfl (fun hc245 => ?_) (fun hc245 => absurd rfl hc245)
              refine s_aload k433 at_248 rfl rfl (pc' := 250) rfl ?_
              refine s_iload k433 at_250 rfl (pc' := 252) rfl ?_
              refine s_aaload k433 (v := .ref b13) at_252 A441_b1 rfl ⟨by decide, by decide⟩ rfl (pc' := 253) rfl ?_
              refine s_get k433 at_253 (host := "") (Or.inl (hw _ (List.mem_of_getElem? (i := 20) rfl))) (Via.of (hw _ (List.mem_of_getElem? (i := 21) rfl))) G433_4 (pc' := 256) rfl fun T444 k444 => ?_
              refine s_nullY k444 at_256 (by decide) (pc' := 261) (by decide) ?_
              refine s_aload k444 at_261 rfl rfl (pc' := 263) rfl ?_
              refine s_iload k444 at_263 rfl (pc' := 265) rfl ?_
              refine s_aaload k444 (v := .ref b13) at_265 A441_b1 rfl ⟨by decide, by decide⟩ rfl (pc' := 266) rfl ?_
              refine s_aload k444 at_266 rfl rfl (pc' := 268) rfl ?_
              refine s_iconst k444 (z := 3) at_268 (by decide) (pc' := 269) rfl ?_
              refine s_aaload k444 (v := u3) at_269 A442_b57 rfl ⟨by decide, by decide⟩ rfl (pc' := 270) rfl ?_
              refine s_put k444 at_270 (host := "") (Or.inl (hw _ (List.mem_of_getElem? (i := 20) rfl))) (Via.of (hw _ (List.mem_of_getElem? (i := 21) rfl))) G433_4 E438_b13 (Or.inl (hw _ (List.mem_of_getElem? (i := 22) rfl))) (hw _ (List.mem_of_getElem? (i := 3) rfl)) (ty := (.object "com/example/gull/gull/Waker")) (by decide) (nar_ref r_u3) (fit_ref r_u3) g_b13 (pc' := 273) rfl fun T445 h445 L445 k445 W445 => ?_
              have F446_b31_waker := F434_b31_waker.other W445 (Or.inl (Ne.symm ne_b13_b31))
              have F447_b31_previous := F435_b31_previous.other W445 (Or.inl (Ne.symm ne_b13_b31))
              have F448_b31_next := F436_b31_next.other W445 (Or.inl (Ne.symm ne_b13_b31))
              have F449_b244_first := G433_0.other W445 (Or.inl (Ne.symm ne_b13_b244))
              have F450_b244_last := G433_1.other W445 (Or.inl (Ne.symm ne_b13_b244))
              have F451_b13_previous := G433_2.other W445 (Or.inr (slot_ne (Or.inl (hw _ (List.mem_of_getElem? (i := 38) rfl))) (Or.inl (hw _ (List.mem_of_getElem? (i := 22) rfl))) (by decide) (t := (.object "com/example/gull/gull/WaitList$Waiter")) (t' := (.object "com/example/gull/gull/Waker")) (by decide) (by decide)))
              have F452_b13_next := G433_3.other W445 (Or.inr (slot_ne (Or.inl (hw _ (List.mem_of_getElem? (i := 48) rfl))) (Or.inl (hw _ (List.mem_of_getElem? (i := 22) rfl))) (by decide) (t := (.object "com/example/gull/gull/WaitList$Waiter")) (t' := (.object "com/example/gull/gull/Waker")) (by decide) (by decide)))
              have F453_b13_waker := G433_4.same W445
              have F454_b3_previous := G433_5.other W445 (Or.inl ne_b3_b13)
              have F455_b3_next := G433_6.other W445 (Or.inl ne_b3_b13)
              have F456_b3_waker := G433_7.other W445 (Or.inl ne_b3_b13)
              have E457_b3 := E437_b3.wr W445
              have E458_b13 := E438_b13.wr W445
              have E459_b31 := E439_b31.wr W445
              have E460_b244 := E440_b244.wr W445
              have A461_b1 := A441_b1.other W445 ne_b1_b13
              have A462_b57 := A442_b57.other W445 (Ne.symm ne_b13_b57)
              have Z463 := Nat.le_trans Z443 (Keep.of_wr W445).1
              refine s_aload k445 at_273 rfl rfl (pc' := 275) rfl ?_
              refine s_aload k445 at_275 rfl rfl (pc' := 277) rfl ?_
              refine s_iload k445 at_277 rfl (pc' := 279) rfl ?_
              refine s_aaload k445 (v := .ref b13) at_279 A461_b1 rfl ⟨by decide, by decide⟩ rfl (pc' := 280) rfl ?_
              refine s_callV k445 [.ref b13] 0 at_280 (hw _ (List.mem_of_getElem? (i := 30) rfl)) (hw _ (List.mem_of_getElem? (i := 31) rfl)) (hw _ (List.mem_of_getElem? (i := 33) rfl)) (hw _ (List.mem_of_getElem? (i := 32) rfl)) (hw _ (List.mem_of_getElem? (i := 25) rfl)) (hw _ (List.mem_of_getElem? (i := 34) rfl)) (by decide) E460_b244 (rmaB l Z a0 hw b244 b13 b3 (.ref b3) .null .null u3 .null .null u0 h445 n0 Z463 E460_b244 E458_b13 E457_b3 F449_b244_first F450_b244_last F451_b13_previous F452_b13_next F453_b13_waker F454_b3_previous F455_b3_next F456_b3_waker g_b244 g_b13 g_b3 (Ne.symm ne_b13_b244) (Ne.symm ne_b3_b244) (Ne.symm ne_b3_b13)) (by decide) (by decide) pd__28Lcom_2fexample_2fgull_2fgull_2fWaitList_24Waiter_3b_29V rfl (Nat.le_of_eq rfl) rfl (by decide) (by decide) rfl (pc' := 283) rfl fun v464 T464 h464 L464 k464 Qv464 => ?_
              obtain ⟨rfl, Kc464, G464_0, G464_1, G464_2, G464_3, G464_4, G464_5, G464_6, G464_7⟩ := Qv464
              have F465_b31_waker := F446_b31_waker.keep Kc464 (ninS ne_b31_b244 (ninS (Ne.symm ne_b13_b31) (ninS (Ne.symm ne_b3_b31) nin0)))
              have F466_b31_previous := F447_b31_previous.keep Kc464 (ninS ne_b31_b244 (ninS (Ne.symm ne_b13_b31) (ninS (Ne.symm ne_b3_b31) nin0)))
              have F467_b31_next := F448_b31_next.keep Kc464 (ninS ne_b31_b244 (ninS (Ne.symm ne_b13_b31) (ninS (Ne.symm ne_b3_b31) nin0)))
              have E468_b3 := E457_b3.keep Kc464
              have E469_b13 := E458_b13.keep Kc464
              have E470_b31 := E459_b31.keep Kc464
              have E471_b244 := E460_b244.keep Kc464
              have A472_b1 := A461_b1.keep Kc464 (ninS ne_b1_b244 (ninS ne_b1_b13 (ninS ne_b1_b3 nin0)))
              have A473_b57 := A462_b57.keep Kc464 (ninS ne_b57_b244 (ninS (Ne.symm ne_b13_b57) (ninS (Ne.symm ne_b3_b57) nin0)))
              have Z474 := Nat.le_trans Z463 Kc464.1
              show Go p e below P T464 (mkF m 283 #[.val (.int i0), .val (.int i1), .val (.int i2), .val (.int (2 : Int32)), .val (.int (1 : Int32)), .val (.ref b1), .val (.ref b57), .val (.ref b244), .val u1, .unset] [])
              refine s_iloadN k464 at_283 rfl (pc' := 284) rfl ?_
              refine s_iconst k464 (z := 2) at_284 (by decide) (pc' := 285) rfl ?_
              refine s_icmp_lt k464 at_285 (by decide) (pc' := 320) (by decide) (pc3 := 288) rfl (fun hc285 => absurd hc285 (by decide)) (fun hc285 => ?_)
              refine s_iload k464 at_288 rfl (pc' := 290) rfl ?_
              refine s_if_ne k464 at_290 (by decide) (pc' := 297) (by decide) (pc3 := 293) rfl (fun hc290 => absurd hc290 (by decide)) (fun hc290 => ?_)
              refine s_iconst k464 (z := 0) at_297 (by decide) (pc' := 298) rfl ?_
              refine s_istore k464 at_298 (l' := #[.val (.int i0), .val (.int i1), .val (.int i2), .val (.int (2 : Int32)), .val (.int (1 : Int32)), .val (.ref b1), .val (.ref b57), .val (.ref b244), .val u1, .val (.int (0 : Int32))]) rfl (pc' := 300) rfl ?_
              refine s_aload k464 at_300 rfl rfl (pc' := 302) rfl ?_
              refine s_aload k464 at_302 rfl rfl (pc' := 304) rfl ?_
              refine s_iload k464 at_304 rfl (pc' := 306) rfl ?_
              refine s_aaload k464 (v := .ref b3) at_306 A472_b1 rfl ⟨by decide, by decide⟩ rfl (pc' := 307) rfl ?_
              refine s_aload k464 at_307 rfl rfl (pc' := 309) rfl ?_
              refine s_iload k464 at_309 rfl (pc' := 311) rfl ?_
              refine s_aaload k464 (v := u0) at_311 A473_b57 rfl ⟨by decide, by decide⟩ rfl (pc' := 312) rfl ?_
              refine s_callS k464 [.ref b244, .ref b3, u0] 0 at_312 (hw _ (List.mem_of_getElem? (i := 49) rfl)) (hw _ (List.mem_of_getElem? (i := 50) rfl)) (hw _ (List.mem_of_getElem? (i := 4) rfl)) (hw _ (List.mem_of_getElem? (i := 51) rfl)) (by decide) (rms1 l Z a0 hw b244 b3 b13 u0 (.ref b13) (.ref b3) .null u3 h464 n0 Z474 E471_b244 E468_b3 E469_b13 G464_0 G464_1 G464_5 G464_6 G464_7 G464_2 G464_3 G464_4 g_b244 g_b3 g_b13 (Ne.symm ne_b3_b244) (Ne.symm ne_b13_b244) ne_b3_b13 r_u0) (by decide) (by decide) pd__28Lcom_2fexample_2fgull_2fgull_2fWaitList_3bLcom_2fexample_2fgull_2fgull_2fWaitListRemovePinLaw_3bLcom_2fexample_2fgull_2fgull_2fWaker_3b_29Z rfl (Nat.le_of_eq rfl) rfl (by decide) (by decide) rfl (pc' := 315) rfl fun v475 T475 h475 L475 k475 Qv475 => ?_
              obtain ⟨rfl, Kc475, G475_0, G475_1, G475_2, G475_3, G475_4, G475_5, G475_6, G475_7⟩ := Qv475
              have F476_b31_waker := F465_b31_waker.keep Kc475 (ninS ne_b31_b244 (ninS (Ne.symm ne_b3_b31) (ninS (Ne.symm ne_b13_b31) nin0)))
              have F477_b31_previous := F466_b31_previous.keep Kc475 (ninS ne_b31_b244 (ninS (Ne.symm ne_b3_b31) (ninS (Ne.symm ne_b13_b31) nin0)))
              have F478_b31_next := F467_b31_next.keep Kc475 (ninS ne_b31_b244 (ninS (Ne.symm ne_b3_b31) (ninS (Ne.symm ne_b13_b31) nin0)))
              have E479_b3 := E468_b3.keep Kc475
              have E480_b13 := E469_b13.keep Kc475
              have E481_b31 := E470_b31.keep Kc475
              have E482_b244 := E471_b244.keep Kc475
              have A483_b1 := A472_b1.keep Kc475 (ninS ne_b1_b244 (ninS ne_b1_b3 (ninS ne_b1_b13 nin0)))
              have A484_b57 := A473_b57.keep Kc475 (ninS ne_b57_b244 (ninS (Ne.symm ne_b3_b57) (ninS (Ne.symm ne_b13_b57) nin0)))
              have Z485 := Nat.le_trans Z474 Kc475.1
              show Go p e below P T475 (mkF m 315 #[.val (.int i0), .val (.int i1), .val (.int i2), .val (.int (2 : Int32)), .val (.int (1 : Int32)), .val (.ref b1), .val (.ref b57), .val (.ref b244), .val u1, .val (.int (0 : Int32))] [.int (1 : Int32)])
              refine s_if_ne k475 at_315 (by decide) (pc' := 320) (by decide) (pc3 := 318) rfl (fun hc315 => absurd hc315 (by decide)) (fun hc315 => ?_)
              refine s_iloadN k475 at_320 rfl (pc' := 321) rfl ?_
              refine s_iconst k475 (z := 3) at_321 (by decide) (pc' := 322) rfl ?_
              refine s_icmp_lt k475 at_322 (by decide) (pc' := 358) (by decide) (pc3 := 325) rfl (fun hc322 => ?_) (fun hc322 => absurd (by decide) hc322)
              refine s_aload k475 at_358 rfl rfl (pc' := 360) rfl ?_
              refine s_aload k475 at_360 rfl rfl (pc' := 362) rfl ?_
              refine s_iload k475 at_362 rfl (pc' := 364) rfl ?_
              refine s_aaload k475 (v := .ref b13) at_364 A483_b1 rfl ⟨by decide, by decide⟩ rfl (pc' := 365) rfl ?_
              refine s_aload k475 at_365 rfl rfl (pc' := 367) rfl ?_
              refine s_iconst k475 (z := 3) at_367 (by decide) (pc' := 368) rfl ?_
              refine s_aaload k475 (v := u3) at_368 A484_b57 rfl ⟨by decide, by decide⟩ rfl (pc' := 369) rfl ?_
              refine s_callS k475 [.ref b244, .ref b13, u3] 0 at_369 (hw _ (List.mem_of_getElem? (i := 49) rfl)) (hw _ (List.mem_of_getElem? (i := 50) rfl)) (hw _ (List.mem_of_getElem? (i := 4) rfl)) (hw _ (List.mem_of_getElem? (i := 51) rfl)) (by decide) (rms0 l Z a0 hw b244 b13 u3 (.ref b13) h475 n0 Z485 E482_b244 E480_b13 G475_0 G475_1 G475_5 G475_6 G475_7 g_b244 g_b13 (Ne.symm ne_b13_b244) r_u3) (by decide) (by decide) pd__28Lcom_2fexample_2fgull_2fgull_2fWaitList_3bLcom_2fexample_2fgull_2fgull_2fWaitListRemovePinLaw_3bLcom_2fexample_2fgull_2fgull_2fWaker_3b_29Z rfl (Nat.le_of_eq rfl) rfl (by decide) (by decide) rfl (pc' := 372) rfl fun v486 T486 h486 L486 k486 Qv486 => ?_
              obtain ⟨rfl, Kc486, G486_0, G486_1, G486_2, G486_3, G486_4⟩ := Qv486
              have F487_b31_waker := F476_b31_waker.keep Kc486 (ninS ne_b31_b244 (ninS (Ne.symm ne_b13_b31) nin0))
              have F488_b31_previous := F477_b31_previous.keep Kc486 (ninS ne_b31_b244 (ninS (Ne.symm ne_b13_b31) nin0))
              have F489_b31_next := F478_b31_next.keep Kc486 (ninS ne_b31_b244 (ninS (Ne.symm ne_b13_b31) nin0))
              have F490_b3_previous := G475_2.keep Kc486 (ninS ne_b3_b244 (ninS ne_b3_b13 nin0))
              have F491_b3_next := G475_3.keep Kc486 (ninS ne_b3_b244 (ninS ne_b3_b13 nin0))
              have F492_b3_waker := G475_4.keep Kc486 (ninS ne_b3_b244 (ninS ne_b3_b13 nin0))
              have E493_b3 := E479_b3.keep Kc486
              have E494_b13 := E480_b13.keep Kc486
              have E495_b31 := E481_b31.keep Kc486
              have E496_b244 := E482_b244.keep Kc486
              have A497_b1 := A483_b1.keep Kc486 (ninS ne_b1_b244 (ninS ne_b1_b13 nin0))
              have A498_b57 := A484_b57.keep Kc486 (ninS ne_b57_b244 (ninS (Ne.symm ne_b13_b57) nin0))
              have Z499 := Nat.le_trans Z485 Kc486.1
              show Go p e below P T486 (mkF m 372 #[.val (.int i0), .val (.int i1), .val (.int i2), .val (.int (2 : Int32)), .val (.int (1 : Int32)), .val (.ref b1), .val (.ref b57), .val (.ref b244), .val u1, .val (.int (0 : Int32))] [.int (1 : Int32)])
              refine s_if_ne k486 at_372 (by decide) (pc' := 377) (by decide) (pc3 := 375) rfl (fun hc372 => absurd hc372 (by decide)) (fun hc372 => ?_)
              refine s_aload k486 at_377 rfl rfl (pc' := 379) rfl ?_
              refine s_callV k486 [] 0 at_379 (hw _ (List.mem_of_getElem? (i := 57) rfl)) (hw _ (List.mem_of_getElem? (i := 58) rfl)) (hw _ (List.mem_of_getElem? (i := 60) rfl)) (hw _ (List.mem_of_getElem? (i := 59) rfl)) (hw _ (List.mem_of_getElem? (i := 25) rfl)) (hw _ (List.mem_of_getElem? (i := 61) rfl)) (by decide) E496_b244 (rme l Z a0 hw b244 h486 n0 Z499 G486_0) (by decide) (by decide) pd__28_29Z rfl (Nat.le_of_eq rfl) rfl (by decide) (by decide) rfl (pc' := 382) rfl fun v500 T500 h500 L500 k500 Qv500 => ?_
              obtain ⟨rfl, rfl⟩ := Qv500
              show Go p e below P T500 (mkF m 382 #[.val (.int i0), .val (.int i1), .val (.int i2), .val (.int (2 : Int32)), .val (.int (1 : Int32)), .val (.ref b1), .val (.ref b57), .val (.ref b244), .val u1, .val (.int (0 : Int32))] [.int (1 : Int32)])
              refine s_if_eq k500 at_382 (by decide) (pc' := 397) (by decide) (pc3 := 385) rfl (fun hc382 => absurd hc382 (by decide)) (fun hc382 => ?_)
              refine s_aload k500 at_385 rfl rfl (pc' := 387) rfl ?_
              refine s_callV k500 [] 0 at_387 (hw _ (List.mem_of_getElem? (i := 52) rfl)) (hw _ (List.mem_of_getElem? (i := 53) rfl)) (hw _ (List.mem_of_getElem? (i := 55) rfl)) (hw _ (List.mem_of_getElem? (i := 54) rfl)) (hw _ (List.mem_of_getElem? (i := 25) rfl)) (hw _ (List.mem_of_getElem? (i := 56) rfl)) (by decide) E496_b244 (rmf l Z a0 hw b244 .null h486 n0 Z499 G486_0 rfl) (by decide) (by decide) pd__28_29Lcom_2fexample_2fgull_2fgull_2fWaitList_24Waiter_3b rfl (Nat.le_of_eq rfl) rfl (by decide) (by decide) rfl (pc' := 390) rfl fun v501 T501 h501 L501 k501 Qv501 => ?_
              obtain ⟨rfl, rfl⟩ := Qv501
              show Go p e below P T501 (mkF m 390 #[.val (.int i0), .val (.int i1), .val (.int i2), .val (.int (2 : Int32)), .val (.int (1 : Int32)), .val (.ref b1), .val (.ref b57), .val (.ref b244), .val u1, .val (.int (0 : Int32))] [.null])
              refine s_nonnullN k501 at_390 (pc' := 393) rfl ?_
              refine s_iconst k501 (z := 1) at_393 (by decide) (pc' := 394) rfl ?_
              refine s_goto k501 at_394 (by decide) (pc' := 398) (by decide) ?_
              exact s_retZ k501 at_398 rfl (by decide) hP (by decide) (by decide) rfl
          · rw [hk275]
            show Go p e below P T261 (mkF m 198 #[.val (.int i0), .val (.int i1), .val (.int i2), .val (.int (3 : Int32)), .val (.int ((i1 &&& (2147483647 : Int32)) % (3 : Int32))), .val (.ref b1), .val (.ref b57), .val (.ref b244), .unset, .unset] [])
            rcases own_k3 i1 with hk502 | hk502 | hk502
            · rw [hk502]
              show Go p e below P T261 (mkF m 198 #[.val (.int i0), .val (.int i1), .val (.int i2), .val (.int (3 : Int32)), .val (.int (0 : Int32)), .val (.ref b1), .val (.ref b57), .val (.ref b244), .unset, .unset] [])
              refine s_iloadN k261 at_198 rfl (pc' := 199) rfl ?_
              refine s_iconst k261 (z := 2) at_199 (by decide) (pc' := 200) rfl ?_
              refine s_icmp_lt k261 at_200 (by decide) (pc' := 212) (by decide) (pc3 := 203) rfl (fun hc200 => absurd hc200 (by decide)) (fun hc200 => ?_)
              refine s_aload k261 at_203 rfl rfl (pc' := 205) rfl ?_
              refine s_aload k261 at_205 rfl rfl (pc' := 207) rfl ?_
              refine s_iconst k261 (z := 1) at_207 (by decide) (pc' := 208) rfl ?_
              refine s_aaload k261 (v := .ref b13) at_208 A272_b1 rfl ⟨by decide, by decide⟩ rfl (pc' := 209) rfl ?_
              refine s_callV k261 [.ref b13] 0 at_209 (hw _ (List.mem_of_getElem? (i := 30) rfl)) (hw _ (List.mem_of_getElem? (i := 31) rfl)) (hw _ (List.mem_of_getElem? (i := 33) rfl)) (hw _ (List.mem_of_getElem? (i := 32) rfl)) (hw _ (List.mem_of_getElem? (i := 25) rfl)) (hw _ (List.mem_of_getElem? (i := 34) rfl)) (by decide) E271_b244 (rmaB l Z a0 hw b244 b13 b3 (.ref b3) .null .null u1 .null .null u0 h261 n0 Z274 E271_b244 E269_b13 E268_b3 G261_0 G261_1 F263_b13_previous F264_b13_next F262_b13_waker G261_2 G261_3 G261_4 g_b244 g_b13 g_b3 (Ne.symm ne_b13_b244) (Ne.symm ne_b3_b244) (Ne.symm ne_b3_b13)) (by decide) (by decide) pd__28Lcom_2fexample_2fgull_2fgull_2fWaitList_24Waiter_3b_29V rfl (Nat.le_of_eq rfl) rfl (by decide) (by decide) rfl (pc' := 212) rfl fun v503 T503 h503 L503 k503 Qv503 => ?_
              obtain ⟨rfl, Kc503, G503_0, G503_1, G503_2, G503_3, G503_4, G503_5, G503_6, G503_7⟩ := Qv503
              have F504_b31_waker := F265_b31_waker.keep Kc503 (ninS ne_b31_b244 (ninS (Ne.symm ne_b13_b31) (ninS (Ne.symm ne_b3_b31) nin0)))
              have F505_b31_previous := F266_b31_previous.keep Kc503 (ninS ne_b31_b244 (ninS (Ne.symm ne_b13_b31) (ninS (Ne.symm ne_b3_b31) nin0)))
              have F506_b31_next := F267_b31_next.keep Kc503 (ninS ne_b31_b244 (ninS (Ne.symm ne_b13_b31) (ninS (Ne.symm ne_b3_b31) nin0)))
              have E507_b3 := E268_b3.keep Kc503
              have E508_b13 := E269_b13.keep Kc503
              have E509_b31 := E270_b31.keep Kc503
              have E510_b244 := E271_b244.keep Kc503
              have A511_b1 := A272_b1.keep Kc503 (ninS ne_b1_b244 (ninS ne_b1_b13 (ninS ne_b1_b3 nin0)))
              have A512_b57 := A273_b57.keep Kc503 (ninS ne_b57_b244 (ninS (Ne.symm ne_b13_b57) (ninS (Ne.symm ne_b3_b57) nin0)))
              have Z513 := Nat.le_trans Z274 Kc503.1
              show Go p e below P T503 (mkF m 212 #[.val (.int i0), .val (.int i1), .val (.int i2), .val (.int (3 : Int32)), .val (.int (0 : Int32)), .val (.ref b1), .val (.ref b57), .val (.ref b244), .unset, .unset] [])
              refine s_iloadN k503 at_212 rfl (pc' := 213) rfl ?_
              refine s_iconst k503 (z := 3) at_213 (by decide) (pc' := 214) rfl ?_
              refine s_icmp_lt k503 at_214 (by decide) (pc' := 226) (by decide) (pc3 := 217) rfl (fun hc214 => absurd hc214 (by decide)) (fun hc214 => ?_)
              refine s_aload k503 at_217 rfl rfl (pc' := 219) rfl ?_
              refine s_aload k503 at_219 rfl rfl (pc' := 221) rfl ?_
              refine s_iconst k503 (z := 2) at_221 (by decide) (pc' := 222) rfl ?_
              refine s_aaload k503 (v := .ref b31) at_222 A511_b1 rfl ⟨by decide, by decide⟩ rfl (pc' := 223) rfl ?_
              refine s_callV k503 [.ref b31] 0 at_223 (hw _ (List.mem_of_getElem? (i := 30) rfl)) (hw _ (List.mem_of_getElem? (i := 31) rfl)) (hw _ (List.mem_of_getElem? (i := 33) rfl)) (hw _ (List.mem_of_getElem? (i := 32) rfl)) (hw _ (List.mem_of_getElem? (i := 25) rfl)) (hw _ (List.mem_of_getElem? (i := 34) rfl)) (by decide) E510_b244 (rmaB l Z a0 hw b244 b31 b13 (.ref b3) .null .null u2 (.ref b3) .null u1 h503 n0 Z513 E510_b244 E509_b31 E508_b13 G503_0 G503_1 F505_b31_previous F506_b31_next F504_b31_waker G503_2 G503_3 G503_4 g_b244 g_b31 g_b13 (Ne.symm ne_b31_b244) (Ne.symm ne_b13_b244) (Ne.symm ne_b13_b31)) (by decide) (by decide) pd__28Lcom_2fexample_2fgull_2fgull_2fWaitList_24Waiter_3b_29V rfl (Nat.le_of_eq rfl) rfl (by decide) (by decide) rfl (pc' := 226) rfl fun v514 T514 h514 L514 k514 Qv514 => ?_
              obtain ⟨rfl, Kc514, G514_0, G514_1, G514_2, G514_3, G514_4, G514_5, G514_6, G514_7⟩ := Qv514
              have F515_b3_previous := G503_5.keep Kc514 (ninS ne_b3_b244 (ninS ne_b3_b31 (ninS ne_b3_b13 nin0)))
              have F516_b3_next := G503_6.keep Kc514 (ninS ne_b3_b244 (ninS ne_b3_b31 (ninS ne_b3_b13 nin0)))
              have F517_b3_waker := G503_7.keep Kc514 (ninS ne_b3_b244 (ninS ne_b3_b31 (ninS ne_b3_b13 nin0)))
              have E518_b3 := E507_b3.keep Kc514
              have E519_b13 := E508_b13.keep Kc514
              have E520_b31 := E509_b31.keep Kc514
              have E521_b244 := E510_b244.keep Kc514
              have A522_b1 := A511_b1.keep Kc514 (ninS ne_b1_b244 (ninS ne_b1_b31 (ninS ne_b1_b13 nin0)))
              have A523_b57 := A512_b57.keep Kc514 (ninS ne_b57_b244 (ninS (Ne.symm ne_b31_b57) (ninS (Ne.symm ne_b13_b57) nin0)))
              have Z524 := Nat.le_trans Z513 Kc514.1
              show Go p e below P T514 (mkF m 226 #[.val (.int i0), .val (.int i1), .val (.int i2), .val (.int (3 : Int32)), .val (.int (0 : Int32)), .val (.ref b1), .val (.ref b57), .val (.ref b244), .unset, .unset] [])
              refine s_aload k514 at_226 rfl rfl (pc' := 228) rfl ?_
              refine s_aload k514 at_228 rfl rfl (pc' := 230) rfl ?_
              refine s_iload k514 at_230 rfl (pc' := 232) rfl ?_
              refine s_aaload k514 (v := .ref b3) at_232 A522_b1 rfl ⟨by decide, by decide⟩ rfl (pc' := 233) rfl ?_
              refine s_callV k514 [.ref b3] 0 at_233 (hw _ (List.mem_of_getElem? (i := 41) rfl)) (hw _ (List.mem_of_getElem? (i := 42) rfl)) (hw _ (List.mem_of_getElem? (i := 44) rfl)) (hw _ (List.mem_of_getElem? (i := 43) rfl)) (hw _ (List.mem_of_getElem? (i := 25) rfl)) (hw _ (List.mem_of_getElem? (i := 45) rfl)) (by decide) E521_b244 (rmr01 l Z a0 hw b244 b3 b13 (.ref b3) (.ref b31) u0 (.ref b3) (.ref b31) u1 h514 n0 Z524 E521_b244 E518_b3 E519_b13 G514_0 G514_1 F515_b3_previous F516_b3_next F517_b3_waker G514_5 G514_6 G514_7 g_b244 g_b3 g_b13 (Ne.symm ne_b3_b244) (Ne.symm ne_b13_b244) ne_b3_b13 r_u0) (by decide) (by decide) pd__28Lcom_2fexample_2fgull_2fgull_2fWaitList_24Waiter_3b_29Lcom_2fexample_2fgull_2fgull_2fWaker_3b rfl (Nat.le_of_eq rfl) rfl (by decide) (by decide) rfl (pc' := 236) rfl fun v525 T525 h525 L525 k525 Qv525 => ?_
              obtain ⟨rfl, Kc525, G525_0, G525_1, G525_2, G525_3, G525_4, G525_5, G525_6, G525_7⟩ := Qv525
              have F526_b31_previous := G514_2.keep Kc525 (ninS ne_b31_b244 (ninS (Ne.symm ne_b3_b31) (ninS (Ne.symm ne_b13_b31) nin0)))
              have F527_b31_next := G514_3.keep Kc525 (ninS ne_b31_b244 (ninS (Ne.symm ne_b3_b31) (ninS (Ne.symm ne_b13_b31) nin0)))
              have F528_b31_waker := G514_4.keep Kc525 (ninS ne_b31_b244 (ninS (Ne.symm ne_b3_b31) (ninS (Ne.symm ne_b13_b31) nin0)))
              have E529_b3 := E518_b3.keep Kc525
              have E530_b13 := E519_b13.keep Kc525
              have E531_b31 := E520_b31.keep Kc525
              have E532_b244 := E521_b244.keep Kc525
              have A533_b1 := A522_b1.keep Kc525 (ninS ne_b1_b244 (ninS ne_b1_b3 (ninS ne_b1_b13 nin0)))
              have A534_b57 := A523_b57.keep Kc525 (ninS ne_b57_b244 (ninS (Ne.symm ne_b3_b57) (ninS (Ne.symm ne_b13_b57) nin0)))
              have Z535 := Nat.le_trans Z524 Kc525.1
              show Go p e below P T525 (mkF m 236 #[.val (.int i0), .val (.int i1), .val (.int i2), .val (.int (3 : Int32)), .val (.int (0 : Int32)), .val (.ref b1), .val (.ref b57), .val (.ref b244), .unset, .unset] [u0])
              refine s_astore k525 at_236 r_u0 (l' := #[.val (.int i0), .val (.int i1), .val (.int i2), .val (.int (3 : Int32)), .val (.int (0 : Int32)), .val (.ref b1), .val (.ref b57), .val (.ref b244), .val u0, .unset]) (by rcases ref_cases r_u0 with rfl | ⟨_, rfl⟩ <;> rfl) (pc' := 238) rfl ?_
              refine s_aload k525 at_238 rfl r_u0 (pc' := 240) rfl ?_
              refine s_aload k525 at_240 rfl rfl (pc' := 242) rfl ?_
              refine s_iload k525 at_242 rfl (pc' := 244) rfl ?_
              refine s_aaload k525 (v := u0) at_244 A534_b57 rfl ⟨by decide, by decide⟩ rfl (pc' := 245) rfl ?_
              refine s_acmp_ne k525 at_245 r_u0 r_u0 (by decide) (pc' := 259) (by decide) (pc3 := 248) rfl (fun hc245 => ?_) (fun hc245 => absurd rfl hc245)
              refine s_aload k525 at_248 rfl rfl (pc' := 250) rfl ?_
              refine s_iload k525 at_250 rfl (pc' := 252) rfl ?_
              refine s_aaload k525 (v := .ref b3) at_252 A533_b1 rfl ⟨by decide, by decide⟩ rfl (pc' := 253) rfl ?_
              refine s_get k525 at_253 (host := "") (Or.inl (hw _ (List.mem_of_getElem? (i := 20) rfl))) (Via.of (hw _ (List.mem_of_getElem? (i := 21) rfl))) G525_4 (pc' := 256) rfl fun T536 k536 => ?_
              refine s_nullY k536 at_256 (by decide) (pc' := 261) (by decide) ?_
              refine s_aload k536 at_261 rfl rfl (pc' := 263) rfl ?_
              refine s_iload k536 at_263 rfl (pc' := 265) rfl ?_
              refine s_aaload k536 (v := .ref b3) at_265 A533_b1 rfl ⟨by decide, by decide⟩ rfl (pc' := 266) rfl ?_
              refine s_aload k536 at_266 rfl rfl (pc' := 268) rfl ?_
              refine s_iconst k536 (z := 3) at_268 (by decide) (pc' := 269) rfl ?_
              refine s_aaload k536 (v := u3) at_269 A534_b57 rfl ⟨by decide, by decide⟩ rfl (pc' := 270) rfl ?_
              refine s_put k536 at_270 (host := "") (Or.inl (hw _ (List.mem_of_getElem? (i := 20) rfl))) (Via.of (hw _ (List.mem_of_getElem? (i := 21) rfl))) G525_4 E529_b3 (Or.inl (hw _ (List.mem_of_getElem? (i := 22) rfl))) (hw _ (List.mem_of_getElem? (i := 3) rfl)) (ty := (.object "com/example/gull/gull/Waker")) (by decide) (nar_ref r_u3) (fit_ref r_u3) g_b3 (pc' := 273) rfl fun T537 h537 L537 k537 W537 => ?_
              have F538_b31_previous := F526_b31_previous.other W537 (Or.inl (Ne.symm ne_b3_b31))
              have F539_b31_next := F527_b31_next.other W537 (Or.inl (Ne.symm ne_b3_b31))
              have F540_b31_waker := F528_b31_waker.other W537 (Or.inl (Ne.symm ne_b3_b31))
              have F541_b244_first := G525_0.other W537 (Or.inl (Ne.symm ne_b3_b244))
              have F542_b244_last := G525_1.other W537 (Or.inl (Ne.symm ne_b3_b244))
              have F543_b3_previous := G525_2.other W537 (Or.inr (slot_ne (Or.inl (hw _ (List.mem_of_getElem? (i := 38) rfl))) (Or.inl (hw _ (List.mem_of_getElem? (i := 22) rfl))) (by decide) (t := (.object "com/example/gull/gull/WaitList$Waiter")) (t' := (.object "com/example/gull/gull/Waker")) (by decide) (by decide)))
              have F544_b3_next := G525_3.other W537 (Or.inr (slot_ne (Or.inl (hw _ (List.mem_of_getElem? (i := 48) rfl))) (Or.inl (hw _ (List.mem_of_getElem? (i := 22) rfl))) (by decide) (t := (.object "com/example/gull/gull/WaitList$Waiter")) (t' := (.object "com/example/gull/gull/Waker")) (by decide) (by decide)))
              have F545_b3_waker := G525_4.same W537
              have F546_b13_previous := G525_5.other W537 (Or.inl (Ne.symm ne_b3_b13))
              have F547_b13_next := G525_6.other W537 (Or.inl (Ne.symm ne_b3_b13))
              have F548_b13_waker := G525_7.other W537 (Or.inl (Ne.symm ne_b3_b13))
              have E549_b3 := E529_b3.wr W537
              have E550_b13 := E530_b13.wr W537
              have E551_b31 := E531_b31.wr W537
              have E552_b244 := E532_b244.wr W537
              have A553_b1 := A533_b1.other W537 ne_b1_b3
              have A554_b57 := A534_b57.other W537 (Ne.symm ne_b3_b57)
              have Z555 := Nat.le_trans Z535 (Keep.of_wr W537).1
              refine s_aload k537 at_273 rfl rfl (pc' := 275) rfl ?_
              refine s_aload k537 at_275 rfl rfl (pc' := 277) rfl ?_
              refine s_iload k537 at_277 rfl (pc' := 279) rfl ?_
              refine s_aaload k537 (v := .ref b3) at_279 A553_b1 rfl ⟨by decide, by decide⟩ rfl (pc' := 280) rfl ?_
              refine s_callV k537 [.ref b3] 0 at_280 (hw _ (List.mem_of_getElem? (i := 30) rfl)) (hw _ (List.mem_of_getElem? (i := 31) rfl)) (hw _ (List.mem_of_getElem? (i := 33) rfl)) (hw _ (List.mem_of_getElem? (i := 32) rfl)) (hw _ (List.mem_of_getElem? (i := 25) rfl)) (hw _ (List.mem_of_getElem? (i := 34) rfl)) (by decide) E552_b244 (rmaB l Z a0 hw b244 b3 b31 (.ref b13) .null .null u3 (.ref b13) .null u2 h537 n0 Z555 E552_b244 E549_b3 E551_b31 F541_b244_first F542_b244_last F543_b3_previous F544_b3_next F545_b3_waker F538_b31_previous F539_b31_next F540_b31_waker g_b244 g_b3 g_b31 (Ne.symm ne_b3_b244) (Ne.symm ne_b31_b244) ne_b3_b31) (by decide) (by decide) pd__28Lcom_2fexample_2fgull_2fgull_2fWaitList_24Waiter_3b_29V rfl (Nat.le_of_eq rfl) rfl (by decide) (by decide) rfl (pc' := 283) rfl fun v556 T556 h556 L556 k556 Qv556 => ?_
              obtain ⟨rfl, Kc556, G556_0, G556_1, G556_2, G556_3, G556_4, G556_5, G556_6, G556_7⟩ := Qv556
              have F557_b13_previous := F546_b13_previous.keep Kc556 (ninS ne_b13_b244 (ninS (Ne.symm ne_b3_b13) (ninS ne_b13_b31 nin0)))
              have F558_b13_next := F547_b13_next.keep Kc556 (ninS ne_b13_b244 (ninS (Ne.symm ne_b3_b13) (ninS ne_b13_b31 nin0)))
              have F559_b13_waker := F548_b13_waker.keep Kc556 (ninS ne_b13_b244 (ninS (Ne.symm ne_b3_b13) (ninS ne_b13_b31 nin0)))
              have E560_b3 := E549_b3.keep Kc556
              have E561_b13 := E550_b13.keep Kc556
              have E562_b31 := E551_b31.keep Kc556
              have E563_b244 := E552_b244.keep Kc556
              have A564_b1 := A553_b1.keep Kc556 (ninS ne_b1_b244 (ninS ne_b1_b3 (ninS ne_b1_b31 nin0)))
              have A565_b57 := A554_b57.keep Kc556 (ninS ne_b57_b244 (ninS (Ne.symm ne_b3_b57) (ninS (Ne.symm ne_b31_b57) nin0)))
              have Z566 := Nat.le_trans Z555 Kc556.1
              show Go p e below P T556 (mkF m 283 #[.val (.int i0), .val (.int i1), .val (.int i2), .val (.int (3 : Int32)), .val (.int (0 : Int32)), .val (.ref b1), .val (.ref b57), .val (.ref b244), .val u0, .unset] [])
              refine s_iloadN k556 at_283 rfl (pc' := 284) rfl ?_
              refine s_iconst k556 (z := 2) at_284 (by decide) (pc' := 285) rfl ?_
              refine s_icmp_lt k556 at_285 (by decide) (pc' := 320) (by decide) (pc3 := 288) rfl (fun hc285 => absurd hc285 (by decide)) (fun hc285 => ?_)
              refine s_iload k556 at_288 rfl (pc' := 290) rfl ?_
              refine s_if_ne k556 at_290 (by decide) (pc' := 297) (by decide) (pc3 := 293) rfl (fun hc290 => ?_) (fun hc290 => absurd (by decide) hc290)
              refine s_iconst k556 (z := 1) at_293 (by decide) (pc' := 294) rfl ?_
              refine s_goto k556 at_294 (by decide) (pc' := 298) (by decide) ?_
              refine s_istore k556 at_298 (l' := #[.val (.int i0), .val (.int i1), .val (.int i2), .val (.int (3 : Int32)), .val (.int (0 : Int32)), .val (.ref b1), .val (.ref b57), .val (.ref b244), .val u0, .val (.int (1 : Int32))]) rfl (pc' := 300) rfl ?_
              refine s_aload k556 at_300 rfl rfl (pc' := 302) rfl ?_
              refine s_aload k556 at_302 rfl rfl (pc' := 304) rfl ?_
              refine s_iload k556 at_304 rfl (pc' := 306) rfl ?_
              refine s_aaload k556 (v := .ref b13) at_306 A564_b1 rfl ⟨by decide, by decide⟩ rfl (pc' := 307) rfl ?_
              refine s_aload k556 at_307 rfl rfl (pc' := 309) rfl ?_
              refine s_iload k556 at_309 rfl (pc' := 311) rfl ?_
              refine s_aaload k556 (v := u1) at_311 A565_b57 rfl ⟨by decide, by decide⟩ rfl (pc' := 312) rfl ?_
              refine s_callS k556 [.ref b244, .ref b13, u1] 0 at_312 (hw _ (List.mem_of_getElem? (i := 49) rfl)) (hw _ (List.mem_of_getElem? (i := 50) rfl)) (hw _ (List.mem_of_getElem? (i := 4) rfl)) (hw _ (List.mem_of_getElem? (i := 51) rfl)) (by decide) (rms1 l Z a0 hw b244 b13 b31 u1 (.ref b3) (.ref b13) (.ref b3) u2 h556 n0 Z566 E563_b244 E561_b13 E562_b31 G556_0 G556_1 F557_b13_previous F558_b13_next F559_b13_waker G556_5 G556_6 G556_7 g_b244 g_b13 g_b31 (Ne.symm ne_b13_b244) (Ne.symm ne_b31_b244) ne_b13_b31 r_u1) (by decide) (by decide) pd__28Lcom_2fexample_2fgull_2fgull_2fWaitList_3bLcom_2fexample_2fgull_2fgull_2fWaitListRemovePinLaw_3bLcom_2fexample_2fgull_2fgull_2fWaker_3b_29Z rfl (Nat.le_of_eq rfl) rfl (by decide) (by decide) rfl (pc' := 315) rfl fun v567 T567 h567 L567 k567 Qv567 => ?_
              obtain ⟨rfl, Kc567, G567_0, G567_1, G567_2, G567_3, G567_4, G567_5, G567_6, G567_7⟩ := Qv567
              have F568_b3_previous := G556_2.keep Kc567 (ninS ne_b3_b244 (ninS ne_b3_b13 (ninS ne_b3_b31 nin0)))
              have F569_b3_next := G556_3.keep Kc567 (ninS ne_b3_b244 (ninS ne_b3_b13 (ninS ne_b3_b31 nin0)))
              have F570_b3_waker := G556_4.keep Kc567 (ninS ne_b3_b244 (ninS ne_b3_b13 (ninS ne_b3_b31 nin0)))
              have E571_b3 := E560_b3.keep Kc567
              have E572_b13 := E561_b13.keep Kc567
              have E573_b31 := E562_b31.keep Kc567
              have E574_b244 := E563_b244.keep Kc567
              have A575_b1 := A564_b1.keep Kc567 (ninS ne_b1_b244 (ninS ne_b1_b13 (ninS ne_b1_b31 nin0)))
              have A576_b57 := A565_b57.keep Kc567 (ninS ne_b57_b244 (ninS (Ne.symm ne_b13_b57) (ninS (Ne.symm ne_b31_b57) nin0)))
              have Z577 := Nat.le_trans Z566 Kc567.1
              show Go p e below P T567 (mkF m 315 #[.val (.int i0), .val (.int i1), .val (.int i2), .val (.int (3 : Int32)), .val (.int (0 : Int32)), .val (.ref b1), .val (.ref b57), .val (.ref b244), .val u0, .val (.int (1 : Int32))] [.int (1 : Int32)])
              refine s_if_ne k567 at_315 (by decide) (pc' := 320) (by decide) (pc3 := 318) rfl (fun hc315 => absurd hc315 (by decide)) (fun hc315 => ?_)
              refine s_iloadN k567 at_320 rfl (pc' := 321) rfl ?_
              refine s_iconst k567 (z := 3) at_321 (by decide) (pc' := 322) rfl ?_
              refine s_icmp_lt k567 at_322 (by decide) (pc' := 358) (by decide) (pc3 := 325) rfl (fun hc322 => absurd hc322 (by decide)) (fun hc322 => ?_)
              refine s_iload k567 at_325 rfl (pc' := 327) rfl ?_
              refine s_iconst k567 (z := 2) at_327 (by decide) (pc' := 328) rfl ?_
              refine s_icmp_ne k567 at_328 (by decide) (pc' := 335) (by decide) (pc3 := 331) rfl (fun hc328 => absurd hc328 (by decide)) (fun hc328 => ?_)
              refine s_iconst k567 (z := 2) at_335 (by decide) (pc' := 336) rfl ?_
              refine s_istore k567 at_336 (l' := #[.val (.int i0), .val (.int i1), .val (.int i2), .val (.int (3 : Int32)), .val (.int (0 : Int32)), .val (.ref b1), .val (.ref b57), .val (.ref b244), .val u0, .val (.int (2 : Int32))]) rfl (pc' := 338) rfl ?_
              refine s_aload k567 at_338 rfl rfl (pc' := 340) rfl ?_
              refine s_aload k567 at_340 rfl rfl (pc' := 342) rfl ?_
              refine s_iload k567 at_342 rfl (pc' := 344) rfl ?_
              refine s_aaload k567 (v := .ref b31) at_344 A575_b1 rfl ⟨by decide, by decide⟩ rfl (pc' := 345) rfl ?_
              refine s_aload k567 at_345 rfl rfl (pc' := 347) rfl ?_
              refine s_iload k567 at_347 rfl (pc' := 349) rfl ?_
              refine s_aaload k567 (v := u2) at_349 A576_b57 rfl ⟨by decide, by decide⟩ rfl (pc' := 350) rfl ?_
              refine s_callS k567 [.ref b244, .ref b31, u2] 0 at_350 (hw _ (List.mem_of_getElem? (i := 49) rfl)) (hw _ (List.mem_of_getElem? (i := 50) rfl)) (hw _ (List.mem_of_getElem? (i := 4) rfl)) (hw _ (List.mem_of_getElem? (i := 51) rfl)) (by decide) (rms1 l Z a0 hw b244 b31 b3 u2 (.ref b3) (.ref b31) .null u3 h567 n0 Z577 E574_b244 E573_b31 E571_b3 G567_0 G567_1 G567_5 G567_6 G567_7 F568_b3_previous F569_b3_next F570_b3_waker g_b244 g_b31 g_b3 (Ne.symm ne_b31_b244) (Ne.symm ne_b3_b244) (Ne.symm ne_b3_b31) r_u2) (by decide) (by decide) pd__28Lcom_2fexample_2fgull_2fgull_2fWaitList_3bLcom_2fexample_2fgull_2fgull_2fWaitListRemovePinLaw_3bLcom_2fexample_2fgull_2fgull_2fWaker_3b_29Z rfl (Nat.le_of_eq rfl) rfl (by decide) (by decide) rfl (pc' := 353) rfl fun v578 T578 h578 L578 k578 Qv578 => ?_
              obtain ⟨rfl, Kc578, G578_0, G578_1, G578_2, G578_3, G578_4, G578_5, G578_6, G578_7⟩ := Qv578
              have F579_b13_previous := G567_2.keep Kc578 (ninS ne_b13_b244 (ninS ne_b13_b31 (ninS (Ne.symm ne_b3_b13) nin0)))
              have F580_b13_next := G567_3.keep Kc578 (ninS ne_b13_b244 (ninS ne_b13_b31 (ninS (Ne.symm ne_b3_b13) nin0)))
              have F581_b13_waker := G567_4.keep Kc578 (ninS ne_b13_b244 (ninS ne_b13_b31 (ninS (Ne.symm ne_b3_b13) nin0)))
              have E582_b3 := E571_b3.keep Kc578
              have E583_b13 := E572_b13.keep Kc578
              have E584_b31 := E573_b31.keep Kc578
              have E585_b244 := E574_b244.keep Kc578
              have A586_b1 := A575_b1.keep Kc578 (ninS ne_b1_b244 (ninS ne_b1_b31 (ninS ne_b1_b3 nin0)))
              have A587_b57 := A576_b57.keep Kc578 (ninS ne_b57_b244 (ninS (Ne.symm ne_b31_b57) (ninS (Ne.symm ne_b3_b57) nin0)))
              have Z588 := Nat.le_trans Z577 Kc578.1
              show Go p e below P T578 (mkF m 353 #[.val (.int i0), .val (.int i1), .val (.int i2), .val (.int (3 : Int32)), .val (.int (0 : Int32)), .val (.ref b1), .val (.ref b57), .val (.ref b244), .val u0, .val (.int (2 : Int32))] [.int (1 : Int32)])
              refine s_if_ne k578 at_353 (by decide) (pc' := 358) (by decide) (pc3 := 356) rfl (fun hc353 => absurd hc353 (by decide)) (fun hc353 => ?_)
              refine s_aload k578 at_358 rfl rfl (pc' := 360) rfl ?_
              refine s_aload k578 at_360 rfl rfl (pc' := 362) rfl ?_
              refine s_iload k578 at_362 rfl (pc' := 364) rfl ?_
              refine s_aaload k578 (v := .ref b3) at_364 A586_b1 rfl ⟨by decide, by decide⟩ rfl (pc' := 365) rfl ?_
              refine s_aload k578 at_365 rfl rfl (pc' := 367) rfl ?_
              refine s_iconst k578 (z := 3) at_367 (by decide) (pc' := 368) rfl ?_
              refine s_aaload k578 (v := u3) at_368 A587_b57 rfl ⟨by decide, by decide⟩ rfl (pc' := 369) rfl ?_
              refine s_callS k578 [.ref b244, .ref b3, u3] 0 at_369 (hw _ (List.mem_of_getElem? (i := 49) rfl)) (hw _ (List.mem_of_getElem? (i := 50) rfl)) (hw _ (List.mem_of_getElem? (i := 4) rfl)) (hw _ (List.mem_of_getElem? (i := 51) rfl)) (by decide) (rms0 l Z a0 hw b244 b3 u3 (.ref b3) h578 n0 Z588 E585_b244 E582_b3 G578_0 G578_1 G578_5 G578_6 G578_7 g_b244 g_b3 (Ne.symm ne_b3_b244) r_u3) (by decide) (by decide) pd__28Lcom_2fexample_2fgull_2fgull_2fWaitList_3bLcom_2fexample_2fgull_2fgull_2fWaitListRemovePinLaw_3bLcom_2fexample_2fgull_2fgull_2fWaker_3b_29Z rfl (Nat.le_of_eq rfl) rfl (by decide) (by decide) rfl (pc' := 372) rfl fun v589 T589 h589 L589 k589 Qv589 => ?_
              obtain ⟨rfl, Kc589, G589_0, G589_1, G589_2, G589_3, G589_4⟩ := Qv589
              have F590_b13_previous := F579_b13_previous.keep Kc589 (ninS ne_b13_b244 (ninS (Ne.symm ne_b3_b13) nin0))
              have F591_b13_next := F580_b13_next.keep Kc589 (ninS ne_b13_b244 (ninS (Ne.symm ne_b3_b13) nin0))
              have F592_b13_waker := F581_b13_waker.keep Kc589 (ninS ne_b13_b244 (ninS (Ne.symm ne_b3_b13) nin0))
              have F593_b31_previous := G578_2.keep Kc589 (ninS ne_b31_b244 (ninS (Ne.symm ne_b3_b31) nin0))
              have F594_b31_next := G578_3.keep Kc589 (ninS ne_b31_b244 (ninS (Ne.symm ne_b3_b31) nin0))
              have F595_b31_waker := G578_4.keep Kc589 (ninS ne_b31_b244 (ninS (Ne.symm ne_b3_b31) nin0))
              have E596_b3 := E582_b3.keep Kc589
              have E597_b13 := E583_b13.keep Kc589
              have E598_b31 := E584_b31.keep Kc589
              have E599_b244 := E585_b244.keep Kc589
              have A600_b1 := A586_b1.keep Kc589 (ninS ne_b1_b244 (ninS ne_b1_b3 nin0))
              have A601_b57 := A587_b57.keep Kc589 (ninS ne_b57_b244 (ninS (Ne.symm ne_b3_b57) nin0))
              have Z602 := Nat.le_trans Z588 Kc589.1
              show Go p e below P T589 (mkF m 372 #[.val (.int i0), .val (.int i1), .val (.int i2), .val (.int (3 : Int32)), .val (.int (0 : Int32)), .val (.ref b1), .val (.ref b57), .val (.ref b244), .val u0, .val (.int (2 : Int32))] [.int (1 : Int32)])
              refine s_if_ne k589 at_372 (by decide) (pc' := 377) (by decide) (pc3 := 375) rfl (fun hc372 => absurd hc372 (by decide)) (fun hc372 => ?_)
              refine s_aload k589 at_377 rfl rfl (pc' := 379) rfl ?_
              refine s_callV k589 [] 0 at_379 (hw _ (List.mem_of_getElem? (i := 57) rfl)) (hw _ (List.mem_of_getElem? (i := 58) rfl)) (hw _ (List.mem_of_getElem? (i := 60) rfl)) (hw _ (List.mem_of_getElem? (i := 59) rfl)) (hw _ (List.mem_of_getElem? (i := 25) rfl)) (hw _ (List.mem_of_getElem? (i := 61) rfl)) (by decide) E599_b244 (rme l Z a0 hw b244 h589 n0 Z602 G589_0) (by decide) (by decide) pd__28_29Z rfl (Nat.le_of_eq rfl) rfl (by decide) (by decide) rfl (pc' := 382) rfl fun v603 T603 h603 L603 k603 Qv603 => ?_
              obtain ⟨rfl, rfl⟩ := Qv603
              show Go p e below P T603 (mkF m 382 #[.val (.int i0), .val (.int i1), .val (.int i2), .val (.int (3 : Int32)), .val (.int (0 : Int32)), .val (.ref b1), .val (.ref b57), .val (.ref b244), .val u0, .val (.int (2 : Int32))] [.int (1 : Int32)])
              refine s_if_eq k603 at_382 (by decide) (pc' := 397) (by decide) (pc3 := 385) rfl (fun hc382 => absurd hc382 (by decide)) (fun hc382 => ?_)
              refine s_aload k603 at_385 rfl rfl (pc' := 387) rfl ?_
              refine s_callV k603 [] 0 at_387 (hw _ (List.mem_of_getElem? (i := 52) rfl)) (hw _ (List.mem_of_getElem? (i := 53) rfl)) (hw _ (List.mem_of_getElem? (i := 55) rfl)) (hw _ (List.mem_of_getElem? (i := 54) rfl)) (hw _ (List.mem_of_getElem? (i := 25) rfl)) (hw _ (List.mem_of_getElem? (i := 56) rfl)) (by decide) E599_b244 (rmf l Z a0 hw b244 .null h589 n0 Z602 G589_0 rfl) (by decide) (by decide) pd__28_29Lcom_2fexample_2fgull_2fgull_2fWaitList_24Waiter_3b rfl (Nat.le_of_eq rfl) rfl (by decide) (by decide) rfl (pc' := 390) rfl fun v604 T604 h604 L604 k604 Qv604 => ?_
              obtain ⟨rfl, rfl⟩ := Qv604
              show Go p e below P T604 (mkF m 390 #[.val (.int i0), .val (.int i1), .val (.int i2), .val (.int (3 : Int32)), .val (.int (0 : Int32)), .val (.ref b1), .val (.ref b57), .val (.ref b244), .val u0, .val (.int (2 : Int32))] [.null])
              refine s_nonnullN k604 at_390 (pc' := 393) rfl ?_
              refine s_iconst k604 (z := 1) at_393 (by decide) (pc' := 394) rfl ?_
              refine s_goto k604 at_394 (by decide) (pc' := 398) (by decide) ?_
              exact s_retZ k604 at_398 rfl (by decide) hP (by decide) (by decide) rfl
            · rw [hk502]
              show Go p e below P T261 (mkF m 198 #[.val (.int i0), .val (.int i1), .val (.int i2), .val (.int (3 : Int32)), .val (.int (1 : Int32)), .val (.ref b1), .val (.ref b57), .val (.ref b244), .unset, .unset] [])
              refine s_iloadN k261 at_198 rfl (pc' := 199) rfl ?_
              refine s_iconst k261 (z := 2) at_199 (by decide) (pc' := 200) rfl ?_
              refine s_icmp_lt k261 at_200 (by decide) (pc' := 212) (by decide) (pc3 := 203) rfl (fun hc200 => absurd hc200 (by decide)) (fun hc200 => ?_)
              refine s_aload k261 at_203 rfl rfl (pc' := 205) rfl ?_
              refine s_aload k261 at_205 rfl rfl (pc' := 207) rfl ?_
              refine s_iconst k261 (z := 1) at_207 (by decide) (pc' := 208) rfl ?_
              refine s_aaload k261 (v := .ref b13) at_208 A272_b1 rfl ⟨by decide, by decide⟩ rfl (pc' := 209) rfl ?_
              refine s_callV k261 [.ref b13] 0 at_209 (hw _ (List.mem_of_getElem? (i := 30) rfl)) (hw _ (List.mem_of_getElem? (i := 31) rfl)) (hw _ (List.mem_of_getElem? (i := 33) rfl)) (hw _ (List.mem_of_getElem? (i := 32) rfl)) (hw _ (List.mem_of_getElem? (i := 25) rfl)) (hw _ (List.mem_of_getElem? (i := 34) rfl)) (by decide) E271_b244 (rmaB l Z a0 hw b244 b13 b3 (.ref b3) .null .null u1 .null .null u0 h261 n0 Z274 E271_b244 E269_b13 E268_b3 G261_0 G261_1 F263_b13_previous F264_b13_next F262_b13_waker G261_2 G261_3 G261_4 g_b244 g_b13 g_b3 (Ne.symm ne_b13_b244) (Ne.symm ne_b3_b244) (Ne.symm ne_b3_b13)) (by decide) (by decide) pd__28Lcom_2fexample_2fgull_2fgull_2fWaitList_24Waiter_3b_29V rfl (Nat.le_of_eq rfl) rfl (by decide) (by decide) rfl (pc' := 212) rfl fun v605 T605 h605 L605 k605 Qv605 => ?_
              obtain ⟨rfl, Kc605, G605_0, G605_1, G605_2, G605_3, G605_4, G605_5, G605_6, G605_7⟩ := Qv605
              have F606_b31_waker := F265_b31_waker.keep Kc605 (ninS ne_b31_b244 (ninS (Ne.symm ne_b13_b31) (ninS (Ne.symm ne_b3_b31) nin0)))
              have F607_b31_previous := F266_b31_previous.keep Kc605 (ninS ne_b31_b244 (ninS (Ne.symm ne_b13_b31) (ninS (Ne.symm ne_b3_b31) nin0)))
              have F608_b31_next := F267_b31_next.keep Kc605 (ninS ne_b31_b244 (ninS (Ne.symm ne_b13_b31) (ninS (Ne.symm ne_b3_b31) nin0)))
              have E609_b3 := E268_b3.keep Kc605
              have E610_b13 := E269_b13.keep Kc605
              have E611_b31 := E270_b31.keep Kc605
              have E612_b244 := E271_b244.keep Kc605
              have A613_b1 := A272_b1.keep Kc605 (ninS ne_b1_b244 (ninS ne_b1_b13 (ninS ne_b1_b3 nin0)))
              have A614_b57 := A273_b57.keep Kc605 (ninS ne_b57_b244 (ninS (Ne.symm ne_b13_b57) (ninS (Ne.symm ne_b3_b57) nin0)))
              have Z615 := Nat.le_trans Z274 Kc605.1
              show Go p e below P T605 (mkF m 212 #[.val (.int i0), .val (.int i1), .val (.int i2), .val (.int (3 : Int32)), .val (.int (1 : Int32)), .val (.ref b1), .val (.ref b57), .val (.ref b244), .unset, .unset] [])
              refine s_iloadN k605 at_212 rfl (pc' := 213) rfl ?_
              refine s_iconst k605 (z := 3) at_213 (by decide) (pc' := 214) rfl ?_
              refine s_icmp_lt k605 at_214 (by decide) (pc' := 226) (by decide) (pc3 := 217) rfl (fun hc214 => absurd hc214 (by decide)) (fun hc214 => ?_)
              refine s_aload k605 at_217 rfl rfl (pc' := 219) rfl ?_
              refine s_aload k605 at_219 rfl rfl (pc' := 221) rfl ?_
              refine s_iconst k605 (z := 2) at_221 (by decide) (pc' := 222) rfl ?_
              refine s_aaload k605 (v := .ref b31) at_222 A613_b1 rfl ⟨by decide, by decide⟩ rfl (pc' := 223) rfl ?_
              refine s_callV k605 [.ref b31] 0 at_223 (hw _ (List.mem_of_getElem? (i := 30) rfl)) (hw _ (List.mem_of_getElem? (i := 31) rfl)) (hw _ (List.mem_of_getElem? (i := 33) rfl)) (hw _ (List.mem_of_getElem? (i := 32) rfl)) (hw _ (List.mem_of_getElem? (i := 25) rfl)) (hw _ (List.mem_of_getElem? (i := 34) rfl)) (by decide) E612_b244 (rmaB l Z a0 hw b244 b31 b13 (.ref b3) .null .null u2 (.ref b3) .null u1 h605 n0 Z615 E612_b244 E611_b31 E610_b13 G605_0 G605_1 F607_b31_previous F608_b31_next F606_b31_waker G605_2 G605_3 G605_4 g_b244 g_b31 g_b13 (Ne.symm ne_b31_b244) (Ne.symm ne_b13_b244) (Ne.symm ne_b13_b31)) (by decide) (by decide) pd__28Lcom_2fexample_2fgull_2fgull_2fWaitList_24Waiter_3b_29V rfl (Nat.le_of_eq rfl) rfl (by decide) (by decide) rfl (pc' := 226) rfl fun v616 T616 h616 L616 k616 Qv616 => ?_
              obtain ⟨rfl, Kc616, G616_0, G616_1, G616_2, G616_3, G616_4, G616_5, G616_6, G616_7⟩ := Qv616
              have F617_b3_previous := G605_5.keep Kc616 (ninS ne_b3_b244 (ninS ne_b3_b31 (ninS ne_b3_b13 nin0)))
              have F618_b3_next := G605_6.keep Kc616 (ninS ne_b3_b244 (ninS ne_b3_b31 (ninS ne_b3_b13 nin0)))
              have F619_b3_waker := G605_7.keep Kc616 (ninS ne_b3_b244 (ninS ne_b3_b31 (ninS ne_b3_b13 nin0)))
              have E620_b3 := E609_b3.keep Kc616
              have E621_b13 := E610_b13.keep Kc616
              have E622_b31 := E611_b31.keep Kc616
              have E623_b244 := E612_b244.keep Kc616
              have A624_b1 := A613_b1.keep Kc616 (ninS ne_b1_b244 (ninS ne_b1_b31 (ninS ne_b1_b13 nin0)))
              have A625_b57 := A614_b57.keep Kc616 (ninS ne_b57_b244 (ninS (Ne.symm ne_b31_b57) (ninS (Ne.symm ne_b13_b57) nin0)))
              have Z626 := Nat.le_trans Z615 Kc616.1
              show Go p e below P T616 (mkF m 226 #[.val (.int i0), .val (.int i1), .val (.int i2), .val (.int (3 : Int32)), .val (.int (1 : Int32)), .val (.ref b1), .val (.ref b57), .val (.ref b244), .unset, .unset] [])
              refine s_aload k616 at_226 rfl rfl (pc' := 228) rfl ?_
              refine s_aload k616 at_228 rfl rfl (pc' := 230) rfl ?_
              refine s_iload k616 at_230 rfl (pc' := 232) rfl ?_
              refine s_aaload k616 (v := .ref b13) at_232 A624_b1 rfl ⟨by decide, by decide⟩ rfl (pc' := 233) rfl ?_
              refine s_callV k616 [.ref b13] 0 at_233 (hw _ (List.mem_of_getElem? (i := 41) rfl)) (hw _ (List.mem_of_getElem? (i := 42) rfl)) (hw _ (List.mem_of_getElem? (i := 44) rfl)) (hw _ (List.mem_of_getElem? (i := 43) rfl)) (hw _ (List.mem_of_getElem? (i := 25) rfl)) (hw _ (List.mem_of_getElem? (i := 45) rfl)) (by decide) E623_b244 (rmr11 l Z a0 hw b244 b13 b3 b31 (.ref b3) (.ref b31) u1 .null (.ref b13) u0 (.ref b13) .null u2 h616 n0 Z626 E623_b244 E621_b13 E620_b3 E622_b31 G616_0 G616_1 G616_5 G616_6 G616_7 F617_b3_previous F618_b3_next F619_b3_waker G616_2 G616_3 G616_4 g_b13 g_b3 g_b31 (Ne.symm ne_b13_b244) (Ne.symm ne_b3_b244) (Ne.symm ne_b31_b244) (Ne.symm ne_b3_b13) ne_b13_b31 ne_b3_b31 r_u1) (by decide) (by decide) pd__28Lcom_2fexample_2fgull_2fgull_2fWaitList_24Waiter_3b_29Lcom_2fexample_2fgull_2fgull_2fWaker_3b rfl (Nat.le_of_eq rfl) rfl (by decide) (by decide) rfl (pc' := 236) rfl fun v627 T627 h627 L627 k627 Qv627 => ?_
              obtain ⟨rfl, Kc627, G627_0, G627_1, G627_2, G627_3, G627_4, G627_5, G627_6, G627_7, G627_8⟩ := Qv627
              have F628_b244_first := G616_0.keep Kc627 (ninS (Ne.symm ne_b13_b244) (ninS (Ne.symm ne_b3_b244) (ninS (Ne.symm ne_b31_b244) nin0)))
              have F629_b244_last := G616_1.keep Kc627 (ninS (Ne.symm ne_b13_b244) (ninS (Ne.symm ne_b3_b244) (ninS (Ne.symm ne_b31_b244) nin0)))
              have E630_b3 := E620_b3.keep Kc627
              have E631_b13 := E621_b13.keep Kc627
              have E632_b31 := E622_b31.keep Kc627
              have E633_b244 := E623_b244.keep Kc627
              have A634_b1 := A624_b1.keep Kc627 (ninS ne_b1_b13 (ninS ne_b1_b3 (ninS ne_b1_b31 nin0)))
              have A635_b57 := A625_b57.keep Kc627 (ninS (Ne.symm ne_b13_b57) (ninS (Ne.symm ne_b3_b57) (ninS (Ne.symm ne_b31_b57) nin0)))
              have Z636 := Nat.le_trans Z626 Kc627.1
              show Go p e below P T627 (mkF m 236 #[.val (.int i0), .val (.int i1), .val (.int i2), .val (.int (3 : Int32)), .val (.int (1 : Int32)), .val (.ref b1), .val (.ref b57), .val (.ref b244), .unset, .unset] [u1])
              refine s_astore k627 at_236 r_u1 (l' := #[.val (.int i0), .val (.int i1), .val (.int i2), .val (.int (3 : Int32)), .val (.int (1 : Int32)), .val (.ref b1), .val (.ref b57), .val (.ref b244), .val u1, .unset]) (by rcases ref_cases r_u1 with rfl | ⟨_, rfl⟩ <;> rfl) (pc' := 238) rfl ?_
              refine s_aload k627 at_238 rfl r_u1 (pc' := 240) rfl ?_
              refine s_aload k627 at_240 rfl rfl (pc' := 242) rfl ?_
              refine s_iload k627 at_242 rfl (pc' := 244) rfl ?_
              refine s_aaload k627 (v := u1) at_244 A635_b57 rfl ⟨by decide, by decide⟩ rfl (pc' := 245) rfl ?_
              refine s_acmp_ne k627 at_245 r_u1 r_u1 (by decide) (pc' := 259) (by decide) (pc3 := 248) rfl (fun hc245 => ?_) (fun hc245 => absurd rfl hc245)
              refine s_aload k627 at_248 rfl rfl (pc' := 250) rfl ?_
              refine s_iload k627 at_250 rfl (pc' := 252) rfl ?_
              refine s_aaload k627 (v := .ref b13) at_252 A634_b1 rfl ⟨by decide, by decide⟩ rfl (pc' := 253) rfl ?_
              refine s_get k627 at_253 (host := "") (Or.inl (hw _ (List.mem_of_getElem? (i := 20) rfl))) (Via.of (hw _ (List.mem_of_getElem? (i := 21) rfl))) G627_2 (pc' := 256) rfl fun T637 k637 => ?_
              refine s_nullY k637 at_256 (by decide) (pc' := 261) (by decide) ?_
              refine s_aload k637 at_261 rfl rfl (pc' := 263) rfl ?_
              refine s_iload k637 at_263 rfl (pc' := 265) rfl ?_
              refine s_aaload k637 (v := .ref b13) at_265 A634_b1 rfl ⟨by decide, by decide⟩ rfl (pc' := 266) rfl ?_
              refine s_aload k637 at_266 rfl rfl (pc' := 268) rfl ?_
              refine s_iconst k637 (z := 3) at_268 (by decide) (pc' := 269) rfl ?_
              refine s_aaload k637 (v := u3) at_269 A635_b57 rfl ⟨by decide, by decide⟩ rfl (pc' := 270) rfl ?_
              refine s_put k637 at_270 (host := "") (Or.inl (hw _ (List.mem_of_getElem? (i := 20) rfl))) (Via.of (hw _ (List.mem_of_getElem? (i := 21) rfl))) G627_2 E631_b13 (Or.inl (hw _ (List.mem_of_getElem? (i := 22) rfl))) (hw _ (List.mem_of_getElem? (i := 3) rfl)) (ty := (.object "com/example/gull/gull/Waker")) (by decide) (nar_ref r_u3) (fit_ref r_u3) g_b13 (pc' := 273) rfl fun T638 h638 L638 k638 W638 => ?_
              have F639_b244_first := F628_b244_first.other W638 (Or.inl (Ne.symm ne_b13_b244))
              have F640_b244_last := F629_b244_last.other W638 (Or.inl (Ne.symm ne_b13_b244))
              have F641_b13_previous := G627_0.other W638 (Or.inr (slot_ne (Or.inl (hw _ (List.mem_of_getElem? (i := 38) rfl))) (Or.inl (hw _ (List.mem_of_getElem? (i := 22) rfl))) (by decide) (t := (.object "com/example/gull/gull/WaitList$Waiter")) (t' := (.object "com/example/gull/gull/Waker")) (by decide) (by decide)))
              have F642_b13_next := G627_1.other W638 (Or.inr (slot_ne (Or.inl (hw _ (List.mem_of_getElem? (i := 48) rfl))) (Or.inl (hw _ (List.mem_of_getElem? (i := 22) rfl))) (by decide) (t := (.object "com/example/gull/gull/WaitList$Waiter")) (t' := (.object "com/example/gull/gull/Waker")) (by decide) (by decide)))
              have F643_b13_waker := G627_2.same W638
              have F644_b3_previous := G627_3.other W638 (Or.inl ne_b3_b13)
              have F645_b3_next := G627_4.other W638 (Or.inl ne_b3_b13)
              have F646_b3_waker := G627_5.other W638 (Or.inl ne_b3_b13)
              have F647_b31_previous := G627_6.other W638 (Or.inl (Ne.symm ne_b13_b31))
              have F648_b31_next := G627_7.other W638 (Or.inl (Ne.symm ne_b13_b31))
              have F649_b31_waker := G627_8.other W638 (Or.inl (Ne.symm ne_b13_b31))
              have E650_b3 := E630_b3.wr W638
              have E651_b13 := E631_b13.wr W638
              have E652_b31 := E632_b31.wr W638
              have E653_b244 := E633_b244.wr W638
              have A654_b1 := A634_b1.other W638 ne_b1_b13
              have A655_b57 := A635_b57.other W638 (Ne.symm ne_b13_b57)
              have Z656 := Nat.le_trans Z636 (Keep.of_wr W638).1
              refine s_aload k638 at_273 rfl rfl (pc' := 275) rfl ?_
              refine s_aload k638 at_275 rfl rfl (pc' := 277) rfl ?_
              refine s_iload k638 at_277 rfl (pc' := 279) rfl ?_
              refine s_aaload k638 (v := .ref b13) at_279 A654_b1 rfl ⟨by decide, by decide⟩ rfl (pc' := 280) rfl ?_
              refine s_callV k638 [.ref b13] 0 at_280 (hw _ (List.mem_of_getElem? (i := 30) rfl)) (hw _ (List.mem_of_getElem? (i := 31) rfl)) (hw _ (List.mem_of_getElem? (i := 33) rfl)) (hw _ (List.mem_of_getElem? (i := 32) rfl)) (hw _ (List.mem_of_getElem? (i := 25) rfl)) (hw _ (List.mem_of_getElem? (i := 34) rfl)) (by decide) E653_b244 (rmaB l Z a0 hw b244 b13 b31 (.ref b3) .null .null u3 (.ref b3) .null u2 h638 n0 Z656 E653_b244 E651_b13 E652_b31 F639_b244_first F640_b244_last F641_b13_previous F642_b13_next F643_b13_waker F647_b31_previous F648_b31_next F649_b31_waker g_b244 g_b13 g_b31 (Ne.symm ne_b13_b244) (Ne.symm ne_b31_b244) ne_b13_b31) (by decide) (by decide) pd__28Lcom_2fexample_2fgull_2fgull_2fWaitList_24Waiter_3b_29V rfl (Nat.le_of_eq rfl) rfl (by decide) (by decide) rfl (pc' := 283) rfl fun v657 T657 h657 L657 k657 Qv657 => ?_
              obtain ⟨rfl, Kc657, G657_0, G657_1, G657_2, G657_3, G657_4, G657_5, G657_6, G657_7⟩ := Qv657
              have F658_b3_previous := F644_b3_previous.keep Kc657 (ninS ne_b3_b244 (ninS ne_b3_b13 (ninS ne_b3_b31 nin0)))
              have F659_b3_next := F645_b3_next.keep Kc657 (ninS ne_b3_b244 (ninS ne_b3_b13 (ninS ne_b3_b31 nin0)))
              have F660_b3_waker := F646_b3_waker.keep Kc657 (ninS ne_b3_b244 (ninS ne_b3_b13 (ninS ne_b3_b31 nin0)))
              have E661_b3 := E650_b3.keep Kc657
              have E662_b13 := E651_b13.keep Kc657
              have E663_b31 := E652_b31.keep Kc657
              have E664_b244 := E653_b244.keep Kc657
              have A665_b1 := A654_b1.keep Kc657 (ninS ne_b1_b244 (ninS ne_b1_b13 (ninS ne_b1_b31 nin0)))
              have A666_b57 := A655_b57.keep Kc657 (ninS ne_b57_b244 (ninS (Ne.symm ne_b13_b57) (ninS (Ne.symm ne_b31_b57) nin0)))
              have Z667 := Nat.le_trans Z656 Kc657.1
              show Go p e below P T657 (mkF m 283 #[.val (.int i0), .val (.int i1), .val (.int i2), .val (.int (3 : Int32)), .val (.int (1 : Int32)), .val (.ref b1), .val (.ref b57), .val (.ref b244), .val u1, .unset] [])
              refine s_iloadN k657 at_283 rfl (pc' := 284) rfl ?_
              refine s_iconst k657 (z := 2) at_284 (by decide) (pc' := 285) rfl ?_
              refine s_icmp_lt k657 at_285 (by decide) (pc' := 320) (by decide) (pc3 := 288) rfl (fun hc285 => absurd hc285 (by decide)) (fun hc285 => ?_)
              refine s_iload k657 at_288 rfl (pc' := 290) rfl ?_
              refine s_if_ne k657 at_290 (by decide) (pc' := 297) (by decide) (pc3 := 293) rfl (fun hc290 => absurd hc290 (by decide)) (fun hc290 => ?_)
              refine s_iconst k657 (z := 0) at_297 (by decide) (pc' := 298) rfl ?_
              refine s_istore k657 at_298 (l' := #[.val (.int i0), .val (.int i1), .val (.int i2), .val (.int (3 : Int32)), .val (.int (1 : Int32)), .val (.ref b1), .val (.ref b57), .val (.ref b244), .val u1, .val (.int (0 : Int32))]) rfl (pc' := 300) rfl ?_
              refine s_aload k657 at_300 rfl rfl (pc' := 302) rfl ?_
              refine s_aload k657 at_302 rfl rfl (pc' := 304) rfl ?_
              refine s_iload k657 at_304 rfl (pc' := 306) rfl ?_
              refine s_aaload k657 (v := .ref b3) at_306 A665_b1 rfl ⟨by decide, by decide⟩ rfl (pc' := 307) rfl ?_
              refine s_aload k657 at_307 rfl rfl (pc' := 309) rfl ?_
              refine s_iload k657 at_309 rfl (pc' := 311) rfl ?_
              refine s_aaload k657 (v := u0) at_311 A666_b57 rfl ⟨by decide, by decide⟩ rfl (pc' := 312) rfl ?_
              refine s_callS k657 [.ref b244, .ref b3, u0] 0 at_312 (hw _ (List.mem_of_getElem? (i := 49) rfl)) (hw _ (List.mem_of_getElem? (i := 50) rfl)) (hw _ (List.mem_of_getElem? (i := 4) rfl)) (hw _ (List.mem_of_getElem? (i := 51) rfl)) (by decide) (rms1 l Z a0 hw b244 b3 b31 u0 (.ref b13) (.ref b3) (.ref b13) u2 h657 n0 Z667 E664_b244 E661_b3 E663_b31 G657_0 G657_1 F658_b3_previous F659_b3_next F660_b3_waker G657_5 G657_6 G657_7 g_b244 g_b3 g_b31 (Ne.symm ne_b3_b244) (Ne.symm ne_b31_b244) ne_b3_b31 r_u0) (by decide) (by decide) pd__28Lcom_2fexample_2fgull_2fgull_2fWaitList_3bLcom_2fexample_2fgull_2fgull_2fWaitListRemovePinLaw_3bLcom_2fexample_2fgull_2fgull_2fWaker_3b_29Z rfl (Nat.le_of_eq rfl) rfl (by decide) (by decide) rfl (pc' := 315) rfl fun v668 T668 h668 L668 k668 Qv668 => ?_
              obtain ⟨rfl, Kc668, G668_0, G668_1, G668_2, G668_3, G668_4, G668_5, G668_6, G668_7⟩ := Qv668
              have F669_b13_previous := G657_2.keep Kc668 (ninS ne_b13_b244 (ninS (Ne.symm ne_b3_b13) (ninS ne_b13_b31 nin0)))
              have F670_b13_next := G657_3.keep Kc668 (ninS ne_b13_b244 (ninS (Ne.symm ne_b3_b13) (ninS ne_b13_b31 nin0)))
              have F671_b13_waker := G657_4.keep Kc668 (ninS ne_b13_b244 (ninS (Ne.symm ne_b3_b13) (ninS ne_b13_b31 nin0)))
              have E672_b3 := E661_b3.keep Kc668
              have E673_b13 := E662_b13.keep Kc668
              have E674_b31 := E663_b31.keep Kc668
              have E675_b244 := E664_b244.keep Kc668
              have A676_b1 := A665_b1.keep Kc668 (ninS ne_b1_b244 (ninS ne_b1_b3 (ninS ne_b1_b31 nin0)))
              have A677_b57 := A666_b57.keep Kc668 (ninS ne_b57_b244 (ninS (Ne.symm ne_b3_b57) (ninS (Ne.symm ne_b31_b57) nin0)))
              have Z678 := Nat.le_trans Z667 Kc668.1
              show Go p e below P T668 (mkF m 315 #[.val (.int i0), .val (.int i1), .val (.int i2), .val (.int (3 : Int32)), .val (.int (1 : Int32)), .val (.ref b1), .val (.ref b57), .val (.ref b244), .val u1, .val (.int (0 : Int32))] [.int (1 : Int32)])
              refine s_if_ne k668 at_315 (by decide) (pc' := 320) (by decide) (pc3 := 318) rfl (fun hc315 => absurd hc315 (by decide)) (fun hc315 => ?_)
              refine s_iloadN k668 at_320 rfl (pc' := 321) rfl ?_
              refine s_iconst k668 (z := 3) at_321 (by decide) (pc' := 322) rfl ?_
              refine s_icmp_lt k668 at_322 (by decide) (pc' := 358) (by decide) (pc3 := 325) rfl (fun hc322 => absurd hc322 (by decide)) (fun hc322 => ?_)
              refine s_iload k668 at_325 rfl (pc' := 327) rfl ?_
              refine s_iconst k668 (z := 2) at_327 (by decide) (pc' := 328) rfl ?_
              refine s_icmp_ne k668 at_328 (by decide) (pc' := 335) (by decide) (pc3 := 331) rfl (fun hc328 => absurd hc328 (by decide)) (fun hc328 => ?_)
              refine s_iconst k668 (z := 2) at_335 (by decide) (pc' := 336) rfl ?_
              refine s_istore k668 at_336 (l' := #[.val (.int i0), .val (.int i1), .val (.int i2), .val (.int (3 : Int32)), .val (.int (1 : Int32)), .val (.ref b1), .val (.ref b57), .val (.ref b244), .val u1, .val (.int (2 : Int32))]) rfl (pc' := 338) rfl ?_
              refine s_aload k668 at_338 rfl rfl (pc' := 340) rfl ?_
              refine s_aload k668 at_340 rfl rfl (pc' := 342) rfl ?_
              refine s_iload k668 at_342 rfl (pc' := 344) rfl ?_
              refine s_aaload k668 (v := .ref b31) at_344 A676_b1 rfl ⟨by decide, by decide⟩ rfl (pc' := 345) rfl ?_
              refine s_aload k668 at_345 rfl rfl (pc' := 347) rfl ?_
              refine s_iload k668 at_347 rfl (pc' := 349) rfl ?_
              refine s_aaload k668 (v := u2) at_349 A677_b57 rfl ⟨by decide, by decide⟩ rfl (pc' := 350) rfl ?_
              refine s_callS k668 [.ref b244, .ref b31, u2] 0 at_350 (hw _ (List.mem_of_getElem? (i := 49) rfl)) (hw _ (List.mem_of_getElem? (i := 50) rfl)) (hw _ (List.mem_of_getElem? (i := 4) rfl)) (hw _ (List.mem_of_getElem? (i := 51) rfl)) (by decide) (rms1 l Z a0 hw b244 b31 b13 u2 (.ref b13) (.ref b31) .null u3 h668 n0 Z678 E675_b244 E674_b31 E673_b13 G668_0 G668_1 G668_5 G668_6 G668_7 F669_b13_previous F670_b13_next F671_b13_waker g_b244 g_b31 g_b13 (Ne.symm ne_b31_b244) (Ne.symm ne_b13_b244) (Ne.symm ne_b13_b31) r_u2) (by decide) (by decide) pd__28Lcom_2fexample_2fgull_2fgull_2fWaitList_3bLcom_2fexample_2fgull_2fgull_2fWaitListRemovePinLaw_3bLcom_2fexample_2fgull_2fgull_2fWaker_3b_29Z rfl (Nat.le_of_eq rfl) rfl (by decide) (by decide) rfl (pc' := 353) rfl fun v679 T679 h679 L679 k679 Qv679 => ?_
              obtain ⟨rfl, Kc679, G679_0, G679_1, G679_2, G679_3, G679_4, G679_5, G679_6, G679_7⟩ := Qv679
              have F680_b3_previous := G668_2.keep Kc679 (ninS ne_b3_b244 (ninS ne_b3_b31 (ninS ne_b3_b13 nin0)))
              have F681_b3_next := G668_3.keep Kc679 (ninS ne_b3_b244 (ninS ne_b3_b31 (ninS ne_b3_b13 nin0)))
              have F682_b3_waker := G668_4.keep Kc679 (ninS ne_b3_b244 (ninS ne_b3_b31 (ninS ne_b3_b13 nin0)))
              have E683_b3 := E672_b3.keep Kc679
              have E684_b13 := E673_b13.keep Kc679
              have E685_b31 := E674_b31.keep Kc679
              have E686_b244 := E675_b244.keep Kc679
              have A687_b1 := A676_b1.keep Kc679 (ninS ne_b1_b244 (ninS ne_b1_b31 (ninS ne_b1_b13 nin0)))
              have A688_b57 := A677_b57.keep Kc679 (ninS ne_b57_b244 (ninS (Ne.symm ne_b31_b57) (ninS (Ne.symm ne_b13_b57) nin0)))
              have Z689 := Nat.le_trans Z678 Kc679.1
              show Go p e below P T679 (mkF m 353 #[.val (.int i0), .val (.int i1), .val (.int i2), .val (.int (3 : Int32)), .val (.int (1 : Int32)), .val (.ref b1), .val (.ref b57), .val (.ref b244), .val u1, .val (.int (2 : Int32))] [.int (1 : Int32)])
              refine s_if_ne k679 at_353 (by decide) (pc' := 358) (by decide) (pc3 := 356) rfl (fun hc353 => absurd hc353 (by decide)) (fun hc353 => ?_)
              refine s_aload k679 at_358 rfl rfl (pc' := 360) rfl ?_
              refine s_aload k679 at_360 rfl rfl (pc' := 362) rfl ?_
              refine s_iload k679 at_362 rfl (pc' := 364) rfl ?_
              refine s_aaload k679 (v := .ref b13) at_364 A687_b1 rfl ⟨by decide, by decide⟩ rfl (pc' := 365) rfl ?_
              refine s_aload k679 at_365 rfl rfl (pc' := 367) rfl ?_
              refine s_iconst k679 (z := 3) at_367 (by decide) (pc' := 368) rfl ?_
              refine s_aaload k679 (v := u3) at_368 A688_b57 rfl ⟨by decide, by decide⟩ rfl (pc' := 369) rfl ?_
              refine s_callS k679 [.ref b244, .ref b13, u3] 0 at_369 (hw _ (List.mem_of_getElem? (i := 49) rfl)) (hw _ (List.mem_of_getElem? (i := 50) rfl)) (hw _ (List.mem_of_getElem? (i := 4) rfl)) (hw _ (List.mem_of_getElem? (i := 51) rfl)) (by decide) (rms0 l Z a0 hw b244 b13 u3 (.ref b13) h679 n0 Z689 E686_b244 E684_b13 G679_0 G679_1 G679_5 G679_6 G679_7 g_b244 g_b13 (Ne.symm ne_b13_b244) r_u3) (by decide) (by decide) pd__28Lcom_2fexample_2fgull_2fgull_2fWaitList_3bLcom_2fexample_2fgull_2fgull_2fWaitListRemovePinLaw_3bLcom_2fexample_2fgull_2fgull_2fWaker_3b_29Z rfl (Nat.le_of_eq rfl) rfl (by decide) (by decide) rfl (pc' := 372) rfl fun v690 T690 h690 L690 k690 Qv690 => ?_
              obtain ⟨rfl, Kc690, G690_0, G690_1, G690_2, G690_3, G690_4⟩ := Qv690
              have F691_b3_previous := F680_b3_previous.keep Kc690 (ninS ne_b3_b244 (ninS ne_b3_b13 nin0))
              have F692_b3_next := F681_b3_next.keep Kc690 (ninS ne_b3_b244 (ninS ne_b3_b13 nin0))
              have F693_b3_waker := F682_b3_waker.keep Kc690 (ninS ne_b3_b244 (ninS ne_b3_b13 nin0))
              have F694_b31_previous := G679_2.keep Kc690 (ninS ne_b31_b244 (ninS (Ne.symm ne_b13_b31) nin0))
              have F695_b31_next := G679_3.keep Kc690 (ninS ne_b31_b244 (ninS (Ne.symm ne_b13_b31) nin0))
              have F696_b31_waker := G679_4.keep Kc690 (ninS ne_b31_b244 (ninS (Ne.symm ne_b13_b31) nin0))
              have E697_b3 := E683_b3.keep Kc690
              have E698_b13 := E684_b13.keep Kc690
              have E699_b31 := E685_b31.keep Kc690
              have E700_b244 := E686_b244.keep Kc690
              have A701_b1 := A687_b1.keep Kc690 (ninS ne_b1_b244 (ninS ne_b1_b13 nin0))
              have A702_b57 := A688_b57.keep Kc690 (ninS ne_b57_b244 (ninS (Ne.symm ne_b13_b57) nin0))
              have Z703 := Nat.le_trans Z689 Kc690.1
              show Go p e below P T690 (mkF m 372 #[.val (.int i0), .val (.int i1), .val (.int i2), .val (.int (3 : Int32)), .val (.int (1 : Int32)), .val (.ref b1), .val (.ref b57), .val (.ref b244), .val u1, .val (.int (2 : Int32))] [.int (1 : Int32)])
              refine s_if_ne k690 at_372 (by decide) (pc' := 377) (by decide) (pc3 := 375) rfl (fun hc372 => absurd hc372 (by decide)) (fun hc372 => ?_)
              refine s_aload k690 at_377 rfl rfl (pc' := 379) rfl ?_
              refine s_callV k690 [] 0 at_379 (hw _ (List.mem_of_getElem? (i := 57) rfl)) (hw _ (List.mem_of_getElem? (i := 58) rfl)) (hw _ (List.mem_of_getElem? (i := 60) rfl)) (hw _ (List.mem_of_getElem? (i := 59) rfl)) (hw _ (List.mem_of_getElem? (i := 25) rfl)) (hw _ (List.mem_of_getElem? (i := 61) rfl)) (by decide) E700_b244 (rme l Z a0 hw b244 h690 n0 Z703 G690_0) (by decide) (by decide) pd__28_29Z rfl (Nat.le_of_eq rfl) rfl (by decide) (by decide) rfl (pc' := 382) rfl fun v704 T704 h704 L704 k704 Qv704 => ?_
              obtain ⟨rfl, rfl⟩ := Qv704
              show Go p e below P T704 (mkF m 382 #[.val (.int i0), .val (.int i1), .val (.int i2), .val (.int (3 : Int32)), .val (.int (1 : Int32)), .val (.ref b1), .val (.ref b57), .val (.ref b244), .val u1, .val (.int (2 : Int32))] [.int (1 : Int32)])
              refine s_if_eq k704 at_382 (by decide) (pc' := 397) (by decide) (pc3 := 385) rfl (fun hc382 => absurd hc382 (by decide)) (fun hc382 => ?_)
              refine s_aload k704 at_385 rfl rfl (pc' := 387) rfl ?_
              refine s_callV k704 [] 0 at_387 (hw _ (List.mem_of_getElem? (i := 52) rfl)) (hw _ (List.mem_of_getElem? (i := 53) rfl)) (hw _ (List.mem_of_getElem? (i := 55) rfl)) (hw _ (List.mem_of_getElem? (i := 54) rfl)) (hw _ (List.mem_of_getElem? (i := 25) rfl)) (hw _ (List.mem_of_getElem? (i := 56) rfl)) (by decide) E700_b244 (rmf l Z a0 hw b244 .null h690 n0 Z703 G690_0 rfl) (by decide) (by decide) pd__28_29Lcom_2fexample_2fgull_2fgull_2fWaitList_24Waiter_3b rfl (Nat.le_of_eq rfl) rfl (by decide) (by decide) rfl (pc' := 390) rfl fun v705 T705 h705 L705 k705 Qv705 => ?_
              obtain ⟨rfl, rfl⟩ := Qv705
              show Go p e below P T705 (mkF m 390 #[.val (.int i0), .val (.int i1), .val (.int i2), .val (.int (3 : Int32)), .val (.int (1 : Int32)), .val (.ref b1), .val (.ref b57), .val (.ref b244), .val u1, .val (.int (2 : Int32))] [.null])
              refine s_nonnullN k705 at_390 (pc' := 393) rfl ?_
              refine s_iconst k705 (z := 1) at_393 (by decide) (pc' := 394) rfl ?_
              refine s_goto k705 at_394 (by decide) (pc' := 398) (by decide) ?_
              exact s_retZ k705 at_398 rfl (by decide) hP (by decide) (by decide) rfl
            · rw [hk502]
              show Go p e below P T261 (mkF m 198 #[.val (.int i0), .val (.int i1), .val (.int i2), .val (.int (3 : Int32)), .val (.int (2 : Int32)), .val (.ref b1), .val (.ref b57), .val (.ref b244), .unset, .unset] [])
              refine s_iloadN k261 at_198 rfl (pc' := 199) rfl ?_
              refine s_iconst k261 (z := 2) at_199 (by decide) (pc' := 200) rfl ?_
              refine s_icmp_lt k261 at_200 (by decide) (pc' := 212) (by decide) (pc3 := 203) rfl (fun hc200 => absurd hc200 (by decide)) (fun hc200 => ?_)
              refine s_aload k261 at_203 rfl rfl (pc' := 205) rfl ?_
              refine s_aload k261 at_205 rfl rfl (pc' := 207) rfl ?_
              refine s_iconst k261 (z := 1) at_207 (by decide) (pc' := 208) rfl ?_
              refine s_aaload k261 (v := .ref b13) at_208 A272_b1 rfl ⟨by decide, by decide⟩ rfl (pc' := 209) rfl ?_
              refine s_callV k261 [.ref b13] 0 at_209 (hw _ (List.mem_of_getElem? (i := 30) rfl)) (hw _ (List.mem_of_getElem? (i := 31) rfl)) (hw _ (List.mem_of_getElem? (i := 33) rfl)) (hw _ (List.mem_of_getElem? (i := 32) rfl)) (hw _ (List.mem_of_getElem? (i := 25) rfl)) (hw _ (List.mem_of_getElem? (i := 34) rfl)) (by decide) E271_b244 (rmaB l Z a0 hw b244 b13 b3 (.ref b3) .null .null u1 .null .null u0 h261 n0 Z274 E271_b244 E269_b13 E268_b3 G261_0 G261_1 F263_b13_previous F264_b13_next F262_b13_waker G261_2 G261_3 G261_4 g_b244 g_b13 g_b3 (Ne.symm ne_b13_b244) (Ne.symm ne_b3_b244) (Ne.symm ne_b3_b13)) (by decide) (by decide) pd__28Lcom_2fexample_2fgull_2fgull_2fWaitList_24Waiter_3b_29V rfl (Nat.le_of_eq rfl) rfl (by decide) (by decide) rfl (pc' := 212) rfl fun v706 T706 h706 L706 k706 Qv706 => ?_
              obtain ⟨rfl, Kc706, G706_0, G706_1, G706_2, G706_3, G706_4, G706_5, G706_6, G706_7⟩ := Qv706
              have F707_b31_waker := F265_b31_waker.keep Kc706 (ninS ne_b31_b244 (ninS (Ne.symm ne_b13_b31) (ninS (Ne.symm ne_b3_b31) nin0)))
              have F708_b31_previous := F266_b31_previous.keep Kc706 (ninS ne_b31_b244 (ninS (Ne.symm ne_b13_b31) (ninS (Ne.symm ne_b3_b31) nin0)))
              have F709_b31_next := F267_b31_next.keep Kc706 (ninS ne_b31_b244 (ninS (Ne.symm ne_b13_b31) (ninS (Ne.symm ne_b3_b31) nin0)))
              have E710_b3 := E268_b3.keep Kc706
              have E711_b13 := E269_b13.keep Kc706
              have E712_b31 := E270_b31.keep Kc706
              have E713_b244 := E271_b244.keep Kc706
              have A714_b1 := A272_b1.keep Kc706 (ninS ne_b1_b244 (ninS ne_b1_b13 (ninS ne_b1_b3 nin0)))
              have A715_b57 := A273_b57.keep Kc706 (ninS ne_b57_b244 (ninS (Ne.symm ne_b13_b57) (ninS (Ne.symm ne_b3_b57) nin0)))
              have Z716 := Nat.le_trans Z274 Kc706.1
              show Go p e below P T706 (mkF m 212 #[.val (.int i0), .val (.int i1), .val (.int i2), .val (.int (3 : Int32)), .val (.int (2 : Int32)), .val (.ref b1), .val (.ref b57), .val (.ref b244), .unset, .unset] [])
              refine s_iloadN k706 at_212 rfl (pc' := 213) rfl ?_
              refine s_iconst k706 (z := 3) at_213 (by decide) (pc' := 214) rfl ?_
              refine s_icmp_lt k706 at_214 (by decide) (pc' := 226) (by decide) (pc3 := 217) rfl (fun hc214 => absurd hc214 (by decide)) (fun hc214 => ?_)
              refine s_aload k706 at_217 rfl rfl (pc' := 219) rfl ?_
              refine s_aload k706 at_219 rfl rfl (pc' := 221) rfl ?_
              refine s_iconst k706 (z := 2) at_221 (by decide) (pc' := 222) rfl ?_
              refine s_aaload k706 (v := .ref b31) at_222 A714_b1 rfl ⟨by decide, by decide⟩ rfl (pc' := 223) rfl ?_
              refine s_callV k706 [.ref b31] 0 at_223 (hw _ (List.mem_of_getElem? (i := 30) rfl)) (hw _ (List.mem_of_getElem? (i := 31) rfl)) (hw _ (List.mem_of_getElem? (i := 33) rfl)) (hw _ (List.mem_of_getElem? (i := 32) rfl)) (hw _ (List.mem_of_getElem? (i := 25) rfl)) (hw _ (List.mem_of_getElem? (i := 34) rfl)) (by decide) E713_b244 (rmaB l Z a0 hw b244 b31 b13 (.ref b3) .null .null u2 (.ref b3) .null u1 h706 n0 Z716 E713_b244 E712_b31 E711_b13 G706_0 G706_1 F708_b31_previous F709_b31_next F707_b31_waker G706_2 G706_3 G706_4 g_b244 g_b31 g_b13 (Ne.symm ne_b31_b244) (Ne.symm ne_b13_b244) (Ne.symm ne_b13_b31)) (by decide) (by decide) pd__28Lcom_2fexample_2fgull_2fgull_2fWaitList_24Waiter_3b_29V rfl (Nat.le_of_eq rfl) rfl (by decide) (by decide) rfl (pc' := 226) rfl fun v717 T717 h717 L717 k717 Qv717 => ?_
              obtain ⟨rfl, Kc717, G717_0, G717_1, G717_2, G717_3, G717_4, G717_5, G717_6, G717_7⟩ := Qv717
              have F718_b3_previous := G706_5.keep Kc717 (ninS ne_b3_b244 (ninS ne_b3_b31 (ninS ne_b3_b13 nin0)))
              have F719_b3_next := G706_6.keep Kc717 (ninS ne_b3_b244 (ninS ne_b3_b31 (ninS ne_b3_b13 nin0)))
              have F720_b3_waker := G706_7.keep Kc717 (ninS ne_b3_b244 (ninS ne_b3_b31 (ninS ne_b3_b13 nin0)))
              have E721_b3 := E710_b3.keep Kc717
              have E722_b13 := E711_b13.keep Kc717
              have E723_b31 := E712_b31.keep Kc717
              have E724_b244 := E713_b244.keep Kc717
              have A725_b1 := A714_b1.keep Kc717 (ninS ne_b1_b244 (ninS ne_b1_b31 (ninS ne_b1_b13 nin0)))
              have A726_b57 := A715_b57.keep Kc717 (ninS ne_b57_b244 (ninS (Ne.symm ne_b31_b57) (ninS (Ne.symm ne_b13_b57) nin0)))
              have Z727 := Nat.le_trans Z716 Kc717.1
              show Go p e below P T717 (mkF m 226 #[.val (.int i0), .val (.int i1), .val (.int i2), .val (.int (3 : Int32)), .val (.int (2 : Int32)), .val (.ref b1), .val (.ref b57), .val (.ref b244), .unset, .unset] [])
              refine s_aload k717 at_226 rfl rfl (pc' := 228) rfl ?_
              refine s_aload k717 at_228 rfl rfl (pc' := 230) rfl ?_
              refine s_iload k717 at_230 rfl (pc' := 232) rfl ?_
              refine s_aaload k717 (v := .ref b31) at_232 A725_b1 rfl ⟨by decide, by decide⟩ rfl (pc' := 233) rfl ?_
              refine s_callV k717 [.ref b31] 0 at_233 (hw _ (List.mem_of_getElem? (i := 41) rfl)) (hw _ (List.mem_of_getElem? (i := 42) rfl)) (hw _ (List.mem_of_getElem? (i := 44) rfl)) (hw _ (List.mem_of_getElem? (i := 43) rfl)) (hw _ (List.mem_of_getElem? (i := 25) rfl)) (hw _ (List.mem_of_getElem? (i := 45) rfl)) (by decide) E724_b244 (rmr10 l Z a0 hw b244 b31 b13 (.ref b3) (.ref b31) u2 (.ref b3) (.ref b31) u1 h717 n0 Z727 E724_b244 E723_b31 E722_b13 G717_0 G717_1 G717_2 G717_3 G717_4 G717_5 G717_6 G717_7 g_b244 g_b31 g_b13 (Ne.symm ne_b31_b244) (Ne.symm ne_b13_b244) (Ne.symm ne_b13_b31) r_u2) (by decide) (by decide) pd__28Lcom_2fexample_2fgull_2fgull_2fWaitList_24Waiter_3b_29Lcom_2fexample_2fgull_2fgull_2fWaker_3b rfl (Nat.le_of_eq rfl) rfl (by decide) (by decide) rfl (pc' := 236) rfl fun v728 T728 h728 L728 k728 Qv728 => ?_
              obtain ⟨rfl, Kc728, G728_0, G728_1, G728_2, G728_3, G728_4, G728_5, G728_6, G728_7⟩ := Qv728
              have F729_b3_previous := F718_b3_previous.keep Kc728 (ninS ne_b3_b244 (ninS ne_b3_b31 (ninS ne_b3_b13 nin0)))
              have F730_b3_next := F719_b3_next.keep Kc728 (ninS ne_b3_b244 (ninS ne_b3_b31 (ninS ne_b3_b13 nin0)))
              have F731_b3_waker := F720_b3_waker.keep Kc728 (ninS ne_b3_b244 (ninS ne_b3_b31 (ninS ne_b3_b13 nin0)))
              have E732_b3 := E721_b3.keep Kc728
              have E733_b13 := E722_b13.keep Kc728
              have E734_b31 := E723_b31.keep Kc728
              have E735_b244 := E724_b244.keep Kc728
              have A736_b1 := A725_b1.keep Kc728 (ninS ne_b1_b244 (ninS ne_b1_b31 (ninS ne_b1_b13 nin0)))
              have A737_b57 := A726_b57.keep Kc728 (ninS ne_b57_b244 (ninS (Ne.symm ne_b31_b57) (ninS (Ne.symm ne_b13_b57) nin0)))
              have Z738 := Nat.le_trans Z727 Kc728.1
              show Go p e below P T728 (mkF m 236 #[.val (.int i0), .val (.int i1), .val (.int i2), .val (.int (3 : Int32)), .val (.int (2 : Int32)), .val (.ref b1), .val (.ref b57), .val (.ref b244), .unset, .unset] [u2])
              refine s_astore k728 at_236 r_u2 (l' := #[.val (.int i0), .val (.int i1), .val (.int i2), .val (.int (3 : Int32)), .val (.int (2 : Int32)), .val (.ref b1), .val (.ref b57), .val (.ref b244), .val u2, .unset]) (by rcases ref_cases r_u2 with rfl | ⟨_, rfl⟩ <;> rfl) (pc' := 238) rfl ?_
              refine s_aload k728 at_238 rfl r_u2 (pc' := 240) rfl ?_
              refine s_aload k728 at_240 rfl rfl (pc' := 242) rfl ?_
              refine s_iload k728 at_242 rfl (pc' := 244) rfl ?_
              refine s_aaload k728 (v := u2) at_244 A737_b57 rfl ⟨by decide, by decide⟩ rfl (pc' := 245) rfl ?_
              refine s_acmp_ne k728 at_245 r_u2 r_u2 (by decide) (pc' := 259) (by decide) (pc3 := 248) rfl (fun hc245 => ?_) (fun hc245 => absurd rfl hc245)
              refine s_aload k728 at_248 rfl rfl (pc' := 250) rfl ?_
              refine s_iload k728 at_250 rfl (pc' := 252) rfl ?_
              refine s_aaload k728 (v := .ref b31) at_252 A736_b1 rfl ⟨by decide, by decide⟩ rfl (pc' := 253) rfl ?_
              refine s_get k728 at_253 (host := "") (Or.inl (hw _ (List.mem_of_getElem? (i := 20) rfl))) (Via.of (hw _ (List.mem_of_getElem? (i := 21) rfl))) G728_4 (pc' := 256) rfl fun T739 k739 => ?_
              refine s_nullY k739 at_256 (by decide) (pc' := 261) (by decide) ?_
              refine s_aload k739 at_261 rfl rfl (pc' := 263) rfl ?_
              refine s_iload k739 at_263 rfl (pc' := 265) rfl ?_
              refine s_aaload k739 (v := .ref b31) at_265 A736_b1 rfl ⟨by decide, by decide⟩ rfl (pc' := 266) rfl ?_
              refine s_aload k739 at_266 rfl rfl (pc' := 268) rfl ?_
              refine s_iconst k739 (z := 3) at_268 (by decide) (pc' := 269) rfl ?_
              refine s_aaload k739 (v := u3) at_269 A737_b57 rfl ⟨by decide, by decide⟩ rfl (pc' := 270) rfl ?_
              refine s_put k739 at_270 (host := "") (Or.inl (hw _ (List.mem_of_getElem? (i := 20) rfl))) (Via.of (hw _ (List.mem_of_getElem? (i := 21) rfl))) G728_4 E734_b31 (Or.inl (hw _ (List.mem_of_getElem? (i := 22) rfl))) (hw _ (List.mem_of_getElem? (i := 3) rfl)) (ty := (.object "com/example/gull/gull/Waker")) (by decide) (nar_ref r_u3) (fit_ref r_u3) g_b31 (pc' := 273) rfl fun T740 h740 L740 k740 W740 => ?_
              have F741_b3_previous := F729_b3_previous.other W740 (Or.inl ne_b3_b31)
              have F742_b3_next := F730_b3_next.other W740 (Or.inl ne_b3_b31)
              have F743_b3_waker := F731_b3_waker.other W740 (Or.inl ne_b3_b31)
              have F744_b244_first := G728_0.other W740 (Or.inl (Ne.symm ne_b31_b244))
              have F745_b244_last := G728_1.other W740 (Or.inl (Ne.symm ne_b31_b244))
              have F746_b31_previous := G728_2.other W740 (Or.inr (slot_ne (Or.inl (hw _ (List.mem_of_getElem? (i := 38) rfl))) (Or.inl (hw _ (List.mem_of_getElem? (i := 22) rfl))) (by decide) (t := (.object "com/example/gull/gull/WaitList$Waiter")) (t' := (.object "com/example/gull/gull/Waker")) (by decide) (by decide)))
              have F747_b31_next := G728_3.other W740 (Or.inr (slot_ne (Or.inl (hw _ (List.mem_of_getElem? (i := 48) rfl))) (Or.inl (hw _ (List.mem_of_getElem? (i := 22) rfl))) (by decide) (t := (.object "com/example/gull/gull/WaitList$Waiter")) (t' := (.object "com/example/gull/gull/Waker")) (by decide) (by decide)))
              have F748_b31_waker := G728_4.same W740
              have F749_b13_previous := G728_5.other W740 (Or.inl ne_b13_b31)
              have F750_b13_next := G728_6.other W740 (Or.inl ne_b13_b31)
              have F751_b13_waker := G728_7.other W740 (Or.inl ne_b13_b31)
              have E752_b3 := E732_b3.wr W740
              have E753_b13 := E733_b13.wr W740
              have E754_b31 := E734_b31.wr W740
              have E755_b244 := E735_b244.wr W740
              have A756_b1 := A736_b1.other W740 ne_b1_b31
              have A757_b57 := A737_b57.other W740 (Ne.symm ne_b31_b57)
              have Z758 := Nat.le_trans Z738 (Keep.of_wr W740).1
              refine s_aload k740 at_273 rfl rfl (pc' := 275) rfl ?_
              refine s_aload k740 at_275 rfl rfl (pc' := 277) rfl ?_
              refine s_iload k740 at_277 rfl (pc' := 279) rfl ?_
              refine s_aaload k740 (v := .ref b31) at_279 A756_b1 rfl ⟨by decide, by decide⟩ rfl (pc' := 280) rfl ?_
              refine s_callV k740 [.ref b31] 0 at_280 (hw _ (List.mem_of_getElem? (i := 30) rfl)) (hw _ (List.mem_of_getElem? (i := 31) rfl)) (hw _ (List.mem_of_getElem? (i := 33) rfl)) (hw _ (List.mem_of_getElem? (i := 32) rfl)) (hw _ (List.mem_of_getElem? (i := 25) rfl)) (hw _ (List.mem_of_getElem? (i := 34) rfl)) (by decide) E755_b244 (rmaB l Z a0 hw b244 b31 b13 (.ref b3) .null .null u3 (.ref b3) .null u1 h740 n0 Z758 E755_b244 E754_b31 E753_b13 F744_b244_first F745_b244_last F746_b31_previous F747_b31_next F748_b31_waker F749_b13_previous F750_b13_next F751_b13_waker g_b244 g_b31 g_b13 (Ne.symm ne_b31_b244) (Ne.symm ne_b13_b244) (Ne.symm ne_b13_b31)) (by decide) (by decide) pd__28Lcom_2fexample_2fgull_2fgull_2fWaitList_24Waiter_3b_29V rfl (Nat.le_of_eq rfl) rfl (by decide) (by decide) rfl (pc' := 283) rfl fun v759 T759 h759 L759 k759 Qv759 => ?_
              obtain ⟨rfl, Kc759, G759_0, G759_1, G759_2, G759_3, G759_4, G759_5, G759_6, G759_7⟩ := Qv759
              have F760_b3_previous := F741_b3_previous.keep Kc759 (ninS ne_b3_b244 (ninS ne_b3_b31 (ninS ne_b3_b13 nin0)))
              have F761_b3_next := F742_b3_next.keep Kc759 (ninS ne_b3_b244 (ninS ne_b3_b31 (ninS ne_b3_b13 nin0)))
              have F762_b3_waker := F743_b3_waker.keep Kc759 (ninS ne_b3_b244 (ninS ne_b3_b31 (ninS ne_b3_b13 nin0)))
              have E763_b3 := E752_b3.keep Kc759
              have E764_b13 := E753_b13.keep Kc759
              have E765_b31 := E754_b31.keep Kc759
              have E766_b244 := E755_b244.keep Kc759
              have A767_b1 := A756_b1.keep Kc759 (ninS ne_b1_b244 (ninS ne_b1_b31 (ninS ne_b1_b13 nin0)))
              have A768_b57 := A757_b57.keep Kc759 (ninS ne_b57_b244 (ninS (Ne.symm ne_b31_b57) (ninS (Ne.symm ne_b13_b57) nin0)))
              have Z769 := Nat.le_trans Z758 Kc759.1
              show Go p e below P T759 (mkF m 283 #[.val (.int i0), .val (.int i1), .val (.int i2), .val (.int (3 : Int32)), .val (.int (2 : Int32)), .val (.ref b1), .val (.ref b57), .val (.ref b244), .val u2, .unset] [])
              refine s_iloadN k759 at_283 rfl (pc' := 284) rfl ?_
              refine s_iconst k759 (z := 2) at_284 (by decide) (pc' := 285) rfl ?_
              refine s_icmp_lt k759 at_285 (by decide) (pc' := 320) (by decide) (pc3 := 288) rfl (fun hc285 => absurd hc285 (by decide)) (fun hc285 => ?_)
              refine s_iload k759 at_288 rfl (pc' := 290) rfl ?_
              refine s_if_ne k759 at_290 (by decide) (pc' := 297) (by decide) (pc3 := 293) rfl (fun hc290 => absurd hc290 (by decide)) (fun hc290 => ?_)
              refine s_iconst k759 (z := 0) at_297 (by decide) (pc' := 298) rfl ?_
              refine s_istore k759 at_298 (l' := #[.val (.int i0), .val (.int i1), .val (.int i2), .val (.int (3 : Int32)), .val (.int (2 : Int32)), .val (.ref b1), .val (.ref b57), .val (.ref b244), .val u2, .val (.int (0 : Int32))]) rfl (pc' := 300) rfl ?_
              refine s_aload k759 at_300 rfl rfl (pc' := 302) rfl ?_
              refine s_aload k759 at_302 rfl rfl (pc' := 304) rfl ?_
              refine s_iload k759 at_304 rfl (pc' := 306) rfl ?_
              refine s_aaload k759 (v := .ref b3) at_306 A767_b1 rfl ⟨by decide, by decide⟩ rfl (pc' := 307) rfl ?_
              refine s_aload k759 at_307 rfl rfl (pc' := 309) rfl ?_
              refine s_iload k759 at_309 rfl (pc' := 311) rfl ?_
              refine s_aaload k759 (v := u0) at_311 A768_b57 rfl ⟨by decide, by decide⟩ rfl (pc' := 312) rfl ?_
              refine s_callS k759 [.ref b244, .ref b3, u0] 0 at_312 (hw _ (List.mem_of_getElem? (i := 49) rfl)) (hw _ (List.mem_of_getElem? (i := 50) rfl)) (hw _ (List.mem_of_getElem? (i := 4) rfl)) (hw _ (List.mem_of_getElem? (i := 51) rfl)) (by decide) (rms1 l Z a0 hw b244 b3 b13 u0 (.ref b31) (.ref b3) (.ref b31) u1 h759 n0 Z769 E766_b244 E763_b3 E764_b13 G759_0 G759_1 F760_b3_previous F761_b3_next F762_b3_waker G759_5 G759_6 G759_7 g_b244 g_b3 g_b13 (Ne.symm ne_b3_b244) (Ne.symm ne_b13_b244) ne_b3_b13 r_u0) (by decide) (by decide) pd__28Lcom_2fexample_2fgull_2fgull_2fWaitList_3bLcom_2fexample_2fgull_2fgull_2fWaitListRemovePinLaw_3bLcom_2fexample_2fgull_2fgull_2fWaker_3b_29Z rfl (Nat.le_of_eq rfl) rfl (by decide) (by decide) rfl (pc' := 315) rfl fun v770 T770 h770 L770 k770 Qv770 => ?_
              obtain ⟨rfl, Kc770, G770_0, G770_1, G770_2, G770_3, G770_4, G770_5, G770_6, G770_7⟩ := Qv770
              have F771_b31_previous := G759_2.keep Kc770 (ninS ne_b31_b244 (ninS (Ne.symm ne_b3_b31) (ninS (Ne.symm ne_b13_b31) nin0)))
              have F772_b31_next := G759_3.keep Kc770 (ninS ne_b31_b244 (ninS (Ne.symm ne_b3_b31) (ninS (Ne.symm ne_b13_b31) nin0)))
              have F773_b31_waker := G759_4.keep Kc770 (ninS ne_b31_b244 (ninS (Ne.symm ne_b3_b31) (ninS (Ne.symm ne_b13_b31) nin0)))
              have E774_b3 := E763_b3.keep Kc770
              have E775_b13 := E764_b13.keep Kc770
              have E776_b31 := E765_b31.keep Kc770
              have E777_b244 := E766_b244.keep Kc770
              have A778_b1 := A767_b1.keep Kc770 (ninS ne_b1_b244 (ninS ne_b1_b3 (ninS ne_b1_b13 nin0)))
              have A779_b57 := A768_b57.keep Kc770 (ninS ne_b57_b244 (ninS (Ne.symm ne_b3_b57) (ninS (Ne.symm ne_b13_b57) nin0)))
              have Z780 := Nat.le_trans Z769 Kc770.1
              show Go p e below P T770 (mkF m 315 #[.val (.int i0), .val (.int i1), .val (.int i2), .val (.int (3 : Int32)), .val (.int (2 : Int32)), .val (.ref b1), .val (.ref b57), .val (.ref b244), .val u2, .val (.int (0 : Int32))] [.int (1 : Int32)])
              refine s_if_ne k770 at_315 (by decide) (pc' := 320) (by decide) (pc3 := 318) rfl (fun hc315 => absurd hc315 (by decide)) (fun hc315 => ?_)
              refine s_iloadN k770 at_320 rfl (pc' := 321) rfl ?_
              refine s_iconst k770 (z := 3) at_321 (by decide) (pc' := 322) rfl ?_
              refine s_icmp_lt k770 at_322 (by decide) (pc' := 358) (by decide) (pc3 := 325) rfl (fun hc322 => absurd hc322 (by decide)) (fun hc322 => ?_)
              refine s_iload k770 at_325 rfl (pc' := 327) rfl ?_
              refine s_iconst k770 (z := 2) at_327 (by decide) (pc' := 328) rfl ?_
              refine s_icmp_ne k770 at_328 (by decide) (pc' := 335) (by decide) (pc3 := 331) rfl (fun hc328 => ?_) (fun hc328 => absurd (by decide) hc328)
              refine s_iconst k770 (z := 1) at_331 (by decide) (pc' := 332) rfl ?_
              refine s_goto k770 at_332 (by decide) (pc' := 336) (by decide) ?_
              refine s_istore k770 at_336 (l' := #[.val (.int i0), .val (.int i1), .val (.int i2), .val (.int (3 : Int32)), .val (.int (2 : Int32)), .val (.ref b1), .val (.ref b57), .val (.ref b244), .val u2, .val (.int (1 : Int32))]) rfl (pc' := 338) rfl ?_
              refine s_aload k770 at_338 rfl rfl (pc' := 340) rfl ?_
              refine s_aload k770 at_340 rfl rfl (pc' := 342) rfl ?_
              refine s_iload k770 at_342 rfl (pc' := 344) rfl ?_
              refine s_aaload k770 (v := .ref b13) at_344 A778_b1 rfl ⟨by decide, by decide⟩ rfl (pc' := 345) rfl ?_
              refine s_aload k770 at_345 rfl rfl (pc' := 347) rfl ?_
              refine s_iload k770 at_347 rfl (pc' := 349) rfl ?_
              refine s_aaload k770 (v := u1) at_349 A779_b57 rfl ⟨by decide, by decide⟩ rfl (pc' := 350) rfl ?_
              refine s_callS k770 [.ref b244, .ref b13, u1] 0 at_350 (hw _ (List.mem_of_getElem? (i := 49) rfl)) (hw _ (List.mem_of_getElem? (i := 50) rfl)) (hw _ (List.mem_of_getElem? (i := 4) rfl)) (hw _ (List.mem_of_getElem? (i := 51) rfl)) (by decide) (rms1 l Z a0 hw b244 b13 b31 u1 (.ref b31) (.ref b13) .null u3 h770 n0 Z780 E777_b244 E775_b13 E776_b31 G770_0 G770_1 G770_5 G770_6 G770_7 F771_b31_previous F772_b31_next F773_b31_waker g_b244 g_b13 g_b31 (Ne.symm ne_b13_b244) (Ne.symm ne_b31_b244) ne_b13_b31 r_u1) (by decide) (by decide) pd__28Lcom_2fexample_2fgull_2fgull_2fWaitList_3bLcom_2fexample_2fgull_2fgull_2fWaitListRemovePinLaw_3bLcom_2fexample_2fgull_2fgull_2fWaker_3b_29Z rfl (Nat.le_of_eq rfl) rfl (by decide) (by decide) rfl (pc' := 353) rfl fun v781 T781 h781 L781 k781 Qv781 => ?_
              obtain ⟨rfl, Kc781, G781_0, G781_1, G781_2, G781_3, G781_4, G781_5, G781_6, G781_7⟩ := Qv781
              have F782_b3_previous := G770_2.keep Kc781 (ninS ne_b3_b244 (ninS ne_b3_b13 (ninS ne_b3_b31 nin0)))
              have F783_b3_next := G770_3.keep Kc781 (ninS ne_b3_b244 (ninS ne_b3_b13 (ninS ne_b3_b31 nin0)))
              have F784_b3_waker := G770_4.keep Kc781 (ninS ne_b3_b244 (ninS ne_b3_b13 (ninS ne_b3_b31 nin0)))
              have E785_b3 := E774_b3.keep Kc781
              have E786_b13 := E775_b13.keep Kc781
              have E787_b31 := E776_b31.keep Kc781
              have E788_b244 := E777_b244.keep Kc781
              have A789_b1 := A778_b1.keep Kc781 (ninS ne_b1_b244 (ninS ne_b1_b13 (ninS ne_b1_b31 nin0)))
              have A790_b57 := A779_b57.keep Kc781 (ninS ne_b57_b244 (ninS (Ne.symm ne_b13_b57) (ninS (Ne.symm ne_b31_b57) nin0)))
              have Z791 := Nat.le_trans Z780 Kc781.1
              show Go p e below P T781 (mkF m 353 #[.val (.int i0), .val (.int i1), .val (.int i2), .val (.int (3 : Int32)), .val (.int (2 : Int32)), .val (.ref b1), .val (.ref b57), .val (.ref b244), .val u2, .val (.int (1 : Int32))] [.int (1 : Int32)])
              refine s_if_ne k781 at_353 (by decide) (pc' := 358) (by decide) (pc3 := 356) rfl (fun hc353 => absurd hc353 (by decide)) (fun hc353 => ?_)
              refine s_aload k781 at_358 rfl rfl (pc' := 360) rfl ?_
              refine s_aload k781 at_360 rfl rfl (pc' := 362) rfl ?_
              refine s_iload k781 at_362 rfl (pc' := 364) rfl ?_
              refine s_aaload k781 (v := .ref b31) at_364 A789_b1 rfl ⟨by decide, by decide⟩ rfl (pc' := 365) rfl ?_
              refine s_aload k781 at_365 rfl rfl (pc' := 367) rfl ?_
              refine s_iconst k781 (z := 3) at_367 (by decide) (pc' := 368) rfl ?_
              refine s_aaload k781 (v := u3) at_368 A790_b57 rfl ⟨by decide, by decide⟩ rfl (pc' := 369) rfl ?_
              refine s_callS k781 [.ref b244, .ref b31, u3] 0 at_369 (hw _ (List.mem_of_getElem? (i := 49) rfl)) (hw _ (List.mem_of_getElem? (i := 50) rfl)) (hw _ (List.mem_of_getElem? (i := 4) rfl)) (hw _ (List.mem_of_getElem? (i := 51) rfl)) (by decide) (rms0 l Z a0 hw b244 b31 u3 (.ref b31) h781 n0 Z791 E788_b244 E787_b31 G781_0 G781_1 G781_5 G781_6 G781_7 g_b244 g_b31 (Ne.symm ne_b31_b244) r_u3) (by decide) (by decide) pd__28Lcom_2fexample_2fgull_2fgull_2fWaitList_3bLcom_2fexample_2fgull_2fgull_2fWaitListRemovePinLaw_3bLcom_2fexample_2fgull_2fgull_2fWaker_3b_29Z rfl (Nat.le_of_eq rfl) rfl (by decide) (by decide) rfl (pc' := 372) rfl fun v792 T792 h792 L792 k792 Qv792 => ?_
              obtain ⟨rfl, Kc792, G792_0, G792_1, G792_2, G792_3, G792_4⟩ := Qv792
              have F793_b3_previous := F782_b3_previous.keep Kc792 (ninS ne_b3_b244 (ninS ne_b3_b31 nin0))
              have F794_b3_next := F783_b3_next.keep Kc792 (ninS ne_b3_b244 (ninS ne_b3_b31 nin0))
              have F795_b3_waker := F784_b3_waker.keep Kc792 (ninS ne_b3_b244 (ninS ne_b3_b31 nin0))
              have F796_b13_previous := G781_2.keep Kc792 (ninS ne_b13_b244 (ninS ne_b13_b31 nin0))
              have F797_b13_next := G781_3.keep Kc792 (ninS ne_b13_b244 (ninS ne_b13_b31 nin0))
              have F798_b13_waker := G781_4.keep Kc792 (ninS ne_b13_b244 (ninS ne_b13_b31 nin0))
              have E799_b3 := E785_b3.keep Kc792
              have E800_b13 := E786_b13.keep Kc792
              have E801_b31 := E787_b31.keep Kc792
              have E802_b244 := E788_b244.keep Kc792
              have A803_b1 := A789_b1.keep Kc792 (ninS ne_b1_b244 (ninS ne_b1_b31 nin0))
              have A804_b57 := A790_b57.keep Kc792 (ninS ne_b57_b244 (ninS (Ne.symm ne_b31_b57) nin0))
              have Z805 := Nat.le_trans Z791 Kc792.1
              show Go p e below P T792 (mkF m 372 #[.val (.int i0), .val (.int i1), .val (.int i2), .val (.int (3 : Int32)), .val (.int (2 : Int32)), .val (.ref b1), .val (.ref b57), .val (.ref b244), .val u2, .val (.int (1 : Int32))] [.int (1 : Int32)])
              refine s_if_ne k792 at_372 (by decide) (pc' := 377) (by decide) (pc3 := 375) rfl (fun hc372 => absurd hc372 (by decide)) (fun hc372 => ?_)
              refine s_aload k792 at_377 rfl rfl (pc' := 379) rfl ?_
              refine s_callV k792 [] 0 at_379 (hw _ (List.mem_of_getElem? (i := 57) rfl)) (hw _ (List.mem_of_getElem? (i := 58) rfl)) (hw _ (List.mem_of_getElem? (i := 60) rfl)) (hw _ (List.mem_of_getElem? (i := 59) rfl)) (hw _ (List.mem_of_getElem? (i := 25) rfl)) (hw _ (List.mem_of_getElem? (i := 61) rfl)) (by decide) E802_b244 (rme l Z a0 hw b244 h792 n0 Z805 G792_0) (by decide) (by decide) pd__28_29Z rfl (Nat.le_of_eq rfl) rfl (by decide) (by decide) rfl (pc' := 382) rfl fun v806 T806 h806 L806 k806 Qv806 => ?_
              obtain ⟨rfl, rfl⟩ := Qv806
              show Go p e below P T806 (mkF m 382 #[.val (.int i0), .val (.int i1), .val (.int i2), .val (.int (3 : Int32)), .val (.int (2 : Int32)), .val (.ref b1), .val (.ref b57), .val (.ref b244), .val u2, .val (.int (1 : Int32))] [.int (1 : Int32)])
              refine s_if_eq k806 at_382 (by decide) (pc' := 397) (by decide) (pc3 := 385) rfl (fun hc382 => absurd hc382 (by decide)) (fun hc382 => ?_)
              refine s_aload k806 at_385 rfl rfl (pc' := 387) rfl ?_
              refine s_callV k806 [] 0 at_387 (hw _ (List.mem_of_getElem? (i := 52) rfl)) (hw _ (List.mem_of_getElem? (i := 53) rfl)) (hw _ (List.mem_of_getElem? (i := 55) rfl)) (hw _ (List.mem_of_getElem? (i := 54) rfl)) (hw _ (List.mem_of_getElem? (i := 25) rfl)) (hw _ (List.mem_of_getElem? (i := 56) rfl)) (by decide) E802_b244 (rmf l Z a0 hw b244 .null h792 n0 Z805 G792_0 rfl) (by decide) (by decide) pd__28_29Lcom_2fexample_2fgull_2fgull_2fWaitList_24Waiter_3b rfl (Nat.le_of_eq rfl) rfl (by decide) (by decide) rfl (pc' := 390) rfl fun v807 T807 h807 L807 k807 Qv807 => ?_
              obtain ⟨rfl, rfl⟩ := Qv807
              show Go p e below P T807 (mkF m 390 #[.val (.int i0), .val (.int i1), .val (.int i2), .val (.int (3 : Int32)), .val (.int (2 : Int32)), .val (.ref b1), .val (.ref b57), .val (.ref b244), .val u2, .val (.int (1 : Int32))] [.null])
              refine s_nonnullN k807 at_390 (pc' := 393) rfl ?_
              refine s_iconst k807 (z := 1) at_393 (by decide) (pc' := 394) rfl ?_
              refine s_goto k807 at_394 (by decide) (pc' := 398) (by decide) ?_
              exact s_retZ k807 at_398 rfl (by decide) hP (by decide) (by decide) rfl
        refine s_if_eq k150 at_132 (by decide) (pc' := 145) (by decide) (pc3 := 135) rfl (fun hc132 => ?_) (fun hc132 => ?_)
        · refine s_null k150 at_145 (pc' := 146) rfl ?_
          exact J165 _ _ _ _ (k_more k150 (Nat.le_succ _) (Nat.le_add_right _ 3)) (Keep.refl _ _) (Or.inl rfl)
        · refine s_new k150 at_135 (hw _ (List.mem_of_getElem? (i := 1) rfl)) (hw _ (List.mem_of_getElem? (i := 3) rfl)) (hw _ (List.mem_of_getElem? (i := 4) rfl)) (by decide) (by decide) (pc' := 138) rfl fun T808 h808 b808 q808 k808 X808 E808 D808 => ?_
          have ne_b3_b808 : b3 ≠ b808 := Nat.ne_of_lt (Nat.lt_of_lt_of_eq E160_b3.lt q808.symm)
          have ne_b13_b808 : b13 ≠ b808 := Nat.ne_of_lt (Nat.lt_of_lt_of_eq E161_b13.lt q808.symm)
          have ne_b31_b808 : b31 ≠ b808 := Nat.ne_of_lt (Nat.lt_of_lt_of_eq E162_b31.lt q808.symm)
          have ne_b1_b808 : b1 ≠ b808 := Nat.ne_of_lt (Nat.lt_of_lt_of_eq A163_b1.lt q808.symm)
          have ne_b57_b808 : b57 ≠ b808 := Nat.ne_of_lt (Nat.lt_of_lt_of_eq A150.lt q808.symm)
          have g_b808 : n0 ≤ b808 := Nat.le_trans Z164 (Nat.le_of_eq q808.symm)
          have F809_b3_waker := F151_b3_waker.ext X808
          have F810_b3_previous := F152_b3_previous.ext X808
          have F811_b3_next := F153_b3_next.ext X808
          have F812_b13_waker := F154_b13_waker.ext X808
          have F813_b13_previous := F155_b13_previous.ext X808
          have F814_b13_next := F156_b13_next.ext X808
          have F815_b31_waker := F157_b31_waker.ext X808
          have F816_b31_previous := F158_b31_previous.ext X808
          have F817_b31_next := F159_b31_next.ext X808
          have E818_b3 := E160_b3.ext X808
          have E819_b13 := E161_b13.ext X808
          have E820_b31 := E162_b31.ext X808
          have A821_b1 := A163_b1.ext X808
          have A822_b57 := A150.ext X808
          have Z823 := Nat.le_trans Z164 X808.1
          have F808_b808_waker : Fld Z h808 b808 "com/example/gull/gull/WaitList$Waiter" "waker" "Lcom/example/gull/gull/Waker;" .null := D808 (Or.inl (hw _ (List.mem_of_getElem? (i := 22) rfl))) (ty := (.object "com/example/gull/gull/Waker")) (by decide)
          have F808_b808_previous : Fld Z h808 b808 "com/example/gull/gull/WaitList$Waiter" "previous" "Lcom/example/gull/gull/WaitList$Waiter;" .null := D808 (Or.inl (hw _ (List.mem_of_getElem? (i := 38) rfl))) (ty := (.object "com/example/gull/gull/WaitList$Waiter")) (by decide)
          have F808_b808_next : Fld Z h808 b808 "com/example/gull/gull/WaitList$Waiter" "next" "Lcom/example/gull/gull/WaitList$Waiter;" .null := D808 (Or.inl (hw _ (List.mem_of_getElem? (i := 48) rfl))) (ty := (.object "com/example/gull/gull/WaitList$Waiter")) (by decide)
          refine s_dup k808 at_138 rfl (pc' := 139) rfl ?_
          refine s_callI k808 [] 3 at_139 rfl (hw _ (List.mem_of_getElem? (i := 5) rfl)) (hw _ (List.mem_of_getElem? (i := 6) rfl)) (hw _ (List.mem_of_getElem? (i := 4) rfl)) (hw _ (List.mem_of_getElem? (i := 7) rfl)) (by decide) (rmp l Z a0 hw b808 h808 n0 Z823 ) (by decide) (by decide) pd__28_29V rfl (Nat.le_of_eq rfl) rfl (by decide) (by decide) rfl (pc' := 142) rfl fun v824 T824 h824 L824 k824 Qv824 => ?_
          obtain ⟨rfl, rfl⟩ := Qv824
          show Go p e below P T824 (mkF m 142 #[.val (.int i0), .val (.int i1), .val (.int i2), .val (.int ((1 : Int32) + ((i0 &&& (2147483647 : Int32)) % (3 : Int32)))), .val (.int ((i1 &&& (2147483647 : Int32)) % ((1 : Int32) + ((i0 &&& (2147483647 : Int32)) % (3 : Int32))))), .val (.ref b1), .val (.ref b57), .unset, .unset, .unset] [.ref b808, .int (3 : Int32), .ref b57])
          refine s_goto k824 at_142 (by decide) (pc' := 146) (by decide) ?_
          exact J165 _ _ _ _ k824 ((Keep.refl _ _).ext X808) (Or.inr ⟨_, rfl, E808⟩)
      refine s_if_eq k119 at_110 (by decide) (pc' := 123) (by decide) (pc3 := 113) rfl (fun hc110 => ?_) (fun hc110 => ?_)
      · refine s_null k119 at_123 (pc' := 124) rfl ?_
        exact J134 _ _ _ _ (k_more k119 (Nat.le_succ _) (Nat.le_add_right _ 3)) (Keep.refl _ _) (Or.inl rfl)
      · refine s_new k119 at_113 (hw _ (List.mem_of_getElem? (i := 1) rfl)) (hw _ (List.mem_of_getElem? (i := 3) rfl)) (hw _ (List.mem_of_getElem? (i := 4) rfl)) (by decide) (by decide) (pc' := 116) rfl fun T825 h825 b825 q825 k825 X825 E825 D825 => ?_
        have ne_b3_b825 : b3 ≠ b825 := Nat.ne_of_lt (Nat.lt_of_lt_of_eq E129_b3.lt q825.symm)
        have ne_b13_b825 : b13 ≠ b825 := Nat.ne_of_lt (Nat.lt_of_lt_of_eq E130_b13.lt q825.symm)
        have ne_b31_b825 : b31 ≠ b825 := Nat.ne_of_lt (Nat.lt_of_lt_of_eq E131_b31.lt q825.symm)
        have ne_b1_b825 : b1 ≠ b825 := Nat.ne_of_lt (Nat.lt_of_lt_of_eq A132_b1.lt q825.symm)
        have ne_b57_b825 : b57 ≠ b825 := Nat.ne_of_lt (Nat.lt_of_lt_of_eq A119.lt q825.symm)
        have g_b825 : n0 ≤ b825 := Nat.le_trans Z133 (Nat.le_of_eq q825.symm)
        have F826_b3_waker := F120_b3_waker.ext X825
        have F827_b3_previous := F121_b3_previous.ext X825
        have F828_b3_next := F122_b3_next.ext X825
        have F829_b13_waker := F123_b13_waker.ext X825
        have F830_b13_previous := F124_b13_previous.ext X825
        have F831_b13_next := F125_b13_next.ext X825
        have F832_b31_waker := F126_b31_waker.ext X825
        have F833_b31_previous := F127_b31_previous.ext X825
        have F834_b31_next := F128_b31_next.ext X825
        have E835_b3 := E129_b3.ext X825
        have E836_b13 := E130_b13.ext X825
        have E837_b31 := E131_b31.ext X825
        have A838_b1 := A132_b1.ext X825
        have A839_b57 := A119.ext X825
        have Z840 := Nat.le_trans Z133 X825.1
        have F825_b825_waker : Fld Z h825 b825 "com/example/gull/gull/WaitList$Waiter" "waker" "Lcom/example/gull/gull/Waker;" .null := D825 (Or.inl (hw _ (List.mem_of_getElem? (i := 22) rfl))) (ty := (.object "com/example/gull/gull/Waker")) (by decide)
        have F825_b825_previous : Fld Z h825 b825 "com/example/gull/gull/WaitList$Waiter" "previous" "Lcom/example/gull/gull/WaitList$Waiter;" .null := D825 (Or.inl (hw _ (List.mem_of_getElem? (i := 38) rfl))) (ty := (.object "com/example/gull/gull/WaitList$Waiter")) (by decide)
        have F825_b825_next : Fld Z h825 b825 "com/example/gull/gull/WaitList$Waiter" "next" "Lcom/example/gull/gull/WaitList$Waiter;" .null := D825 (Or.inl (hw _ (List.mem_of_getElem? (i := 48) rfl))) (ty := (.object "com/example/gull/gull/WaitList$Waiter")) (by decide)
        refine s_dup k825 at_116 rfl (pc' := 117) rfl ?_
        refine s_callI k825 [] 3 at_117 rfl (hw _ (List.mem_of_getElem? (i := 5) rfl)) (hw _ (List.mem_of_getElem? (i := 6) rfl)) (hw _ (List.mem_of_getElem? (i := 4) rfl)) (hw _ (List.mem_of_getElem? (i := 7) rfl)) (by decide) (rmp l Z a0 hw b825 h825 n0 Z840 ) (by decide) (by decide) pd__28_29V rfl (Nat.le_of_eq rfl) rfl (by decide) (by decide) rfl (pc' := 120) rfl fun v841 T841 h841 L841 k841 Qv841 => ?_
        obtain ⟨rfl, rfl⟩ := Qv841
        show Go p e below P T841 (mkF m 120 #[.val (.int i0), .val (.int i1), .val (.int i2), .val (.int ((1 : Int32) + ((i0 &&& (2147483647 : Int32)) % (3 : Int32)))), .val (.int ((i1 &&& (2147483647 : Int32)) % ((1 : Int32) + ((i0 &&& (2147483647 : Int32)) % (3 : Int32))))), .val (.ref b1), .val (.ref b57), .unset, .unset, .unset] [.ref b825, .int (2 : Int32), .ref b57])
        refine s_goto k841 at_120 (by decide) (pc' := 124) (by decide) ?_
        exact J134 _ _ _ _ k841 ((Keep.refl _ _).ext X825) (Or.inr ⟨_, rfl, E825⟩)
    refine s_if_eq k88 at_89 (by decide) (pc' := 102) (by decide) (pc3 := 92) rfl (fun hc89 => ?_) (fun hc89 => ?_)
    · refine s_null k88 at_102 (pc' := 103) rfl ?_
      exact J103 _ _ _ _ (k_more k88 (Nat.le_succ _) (Nat.le_add_right _ 3)) (Keep.refl _ _) (Or.inl rfl)
    · refine s_new k88 at_92 (hw _ (List.mem_of_getElem? (i := 1) rfl)) (hw _ (List.mem_of_getElem? (i := 3) rfl)) (hw _ (List.mem_of_getElem? (i := 4) rfl)) (by decide) (by decide) (pc' := 95) rfl fun T842 h842 b842 q842 k842 X842 E842 D842 => ?_
      have ne_b3_b842 : b3 ≠ b842 := Nat.ne_of_lt (Nat.lt_of_lt_of_eq E98_b3.lt q842.symm)
      have ne_b13_b842 : b13 ≠ b842 := Nat.ne_of_lt (Nat.lt_of_lt_of_eq E99_b13.lt q842.symm)
      have ne_b31_b842 : b31 ≠ b842 := Nat.ne_of_lt (Nat.lt_of_lt_of_eq E100_b31.lt q842.symm)
      have ne_b1_b842 : b1 ≠ b842 := Nat.ne_of_lt (Nat.lt_of_lt_of_eq A101_b1.lt q842.symm)
      have ne_b57_b842 : b57 ≠ b842 := Nat.ne_of_lt (Nat.lt_of_lt_of_eq A88.lt q842.symm)
      have g_b842 : n0 ≤ b842 := Nat.le_trans Z102 (Nat.le_of_eq q842.symm)
      have F843_b3_waker := F89_b3_waker.ext X842
      have F844_b3_previous := F90_b3_previous.ext X842
      have F845_b3_next := F91_b3_next.ext X842
      have F846_b13_waker := F92_b13_waker.ext X842
      have F847_b13_previous := F93_b13_previous.ext X842
      have F848_b13_next := F94_b13_next.ext X842
      have F849_b31_waker := F95_b31_waker.ext X842
      have F850_b31_previous := F96_b31_previous.ext X842
      have F851_b31_next := F97_b31_next.ext X842
      have E852_b3 := E98_b3.ext X842
      have E853_b13 := E99_b13.ext X842
      have E854_b31 := E100_b31.ext X842
      have A855_b1 := A101_b1.ext X842
      have A856_b57 := A88.ext X842
      have Z857 := Nat.le_trans Z102 X842.1
      have F842_b842_waker : Fld Z h842 b842 "com/example/gull/gull/WaitList$Waiter" "waker" "Lcom/example/gull/gull/Waker;" .null := D842 (Or.inl (hw _ (List.mem_of_getElem? (i := 22) rfl))) (ty := (.object "com/example/gull/gull/Waker")) (by decide)
      have F842_b842_previous : Fld Z h842 b842 "com/example/gull/gull/WaitList$Waiter" "previous" "Lcom/example/gull/gull/WaitList$Waiter;" .null := D842 (Or.inl (hw _ (List.mem_of_getElem? (i := 38) rfl))) (ty := (.object "com/example/gull/gull/WaitList$Waiter")) (by decide)
      have F842_b842_next : Fld Z h842 b842 "com/example/gull/gull/WaitList$Waiter" "next" "Lcom/example/gull/gull/WaitList$Waiter;" .null := D842 (Or.inl (hw _ (List.mem_of_getElem? (i := 48) rfl))) (ty := (.object "com/example/gull/gull/WaitList$Waiter")) (by decide)
      refine s_dup k842 at_95 rfl (pc' := 96) rfl ?_
      refine s_callI k842 [] 3 at_96 rfl (hw _ (List.mem_of_getElem? (i := 5) rfl)) (hw _ (List.mem_of_getElem? (i := 6) rfl)) (hw _ (List.mem_of_getElem? (i := 4) rfl)) (hw _ (List.mem_of_getElem? (i := 7) rfl)) (by decide) (rmp l Z a0 hw b842 h842 n0 Z857 ) (by decide) (by decide) pd__28_29V rfl (Nat.le_of_eq rfl) rfl (by decide) (by decide) rfl (pc' := 99) rfl fun v858 T858 h858 L858 k858 Qv858 => ?_
      obtain ⟨rfl, rfl⟩ := Qv858
      show Go p e below P T858 (mkF m 99 #[.val (.int i0), .val (.int i1), .val (.int i2), .val (.int ((1 : Int32) + ((i0 &&& (2147483647 : Int32)) % (3 : Int32)))), .val (.int ((i1 &&& (2147483647 : Int32)) % ((1 : Int32) + ((i0 &&& (2147483647 : Int32)) % (3 : Int32))))), .val (.ref b1), .val (.ref b57), .unset, .unset, .unset] [.ref b842, .int (1 : Int32), .ref b57])
      refine s_goto k858 at_99 (by decide) (pc' := 103) (by decide) ?_
      exact J103 _ _ _ _ k858 ((Keep.refl _ _).ext X842) (Or.inr ⟨_, rfl, E842⟩)
  refine s_if_eq k57 at_68 (by decide) (pc' := 81) (by decide) (pc3 := 71) rfl (fun hc68 => ?_) (fun hc68 => ?_)
  · refine s_null k57 at_81 (pc' := 82) rfl ?_
    exact J72 _ _ _ _ (k_more k57 (Nat.le_succ _) (Nat.le_add_right _ 3)) (Keep.refl _ _) (Or.inl rfl)
  · refine s_new k57 at_71 (hw _ (List.mem_of_getElem? (i := 1) rfl)) (hw _ (List.mem_of_getElem? (i := 3) rfl)) (hw _ (List.mem_of_getElem? (i := 4) rfl)) (by decide) (by decide) (pc' := 74) rfl fun T859 h859 b859 q859 k859 X859 E859 D859 => ?_
    have ne_b3_b859 : b3 ≠ b859 := Nat.ne_of_lt (Nat.lt_of_lt_of_eq E67_b3.lt q859.symm)
    have ne_b13_b859 : b13 ≠ b859 := Nat.ne_of_lt (Nat.lt_of_lt_of_eq E68_b13.lt q859.symm)
    have ne_b31_b859 : b31 ≠ b859 := Nat.ne_of_lt (Nat.lt_of_lt_of_eq E69_b31.lt q859.symm)
    have ne_b1_b859 : b1 ≠ b859 := Nat.ne_of_lt (Nat.lt_of_lt_of_eq A70_b1.lt q859.symm)
    have ne_b57_b859 : b57 ≠ b859 := Nat.ne_of_lt (Nat.lt_of_lt_of_eq A57p.lt q859.symm)
    have g_b859 : n0 ≤ b859 := Nat.le_trans Z71 (Nat.le_of_eq q859.symm)
    have F860_b3_waker := F58_b3_waker.ext X859
    have F861_b3_previous := F59_b3_previous.ext X859
    have F862_b3_next := F60_b3_next.ext X859
    have F863_b13_waker := F61_b13_waker.ext X859
    have F864_b13_previous := F62_b13_previous.ext X859
    have F865_b13_next := F63_b13_next.ext X859
    have F866_b31_waker := F64_b31_waker.ext X859
    have F867_b31_previous := F65_b31_previous.ext X859
    have F868_b31_next := F66_b31_next.ext X859
    have E869_b3 := E67_b3.ext X859
    have E870_b13 := E68_b13.ext X859
    have E871_b31 := E69_b31.ext X859
    have A872_b1 := A70_b1.ext X859
    have A873_b57 := A57p.ext X859
    have Z874 := Nat.le_trans Z71 X859.1
    have F859_b859_waker : Fld Z h859 b859 "com/example/gull/gull/WaitList$Waiter" "waker" "Lcom/example/gull/gull/Waker;" .null := D859 (Or.inl (hw _ (List.mem_of_getElem? (i := 22) rfl))) (ty := (.object "com/example/gull/gull/Waker")) (by decide)
    have F859_b859_previous : Fld Z h859 b859 "com/example/gull/gull/WaitList$Waiter" "previous" "Lcom/example/gull/gull/WaitList$Waiter;" .null := D859 (Or.inl (hw _ (List.mem_of_getElem? (i := 38) rfl))) (ty := (.object "com/example/gull/gull/WaitList$Waiter")) (by decide)
    have F859_b859_next : Fld Z h859 b859 "com/example/gull/gull/WaitList$Waiter" "next" "Lcom/example/gull/gull/WaitList$Waiter;" .null := D859 (Or.inl (hw _ (List.mem_of_getElem? (i := 48) rfl))) (ty := (.object "com/example/gull/gull/WaitList$Waiter")) (by decide)
    refine s_dup k859 at_74 rfl (pc' := 75) rfl ?_
    refine s_callI k859 [] 3 at_75 rfl (hw _ (List.mem_of_getElem? (i := 5) rfl)) (hw _ (List.mem_of_getElem? (i := 6) rfl)) (hw _ (List.mem_of_getElem? (i := 4) rfl)) (hw _ (List.mem_of_getElem? (i := 7) rfl)) (by decide) (rmp l Z a0 hw b859 h859 n0 Z874 ) (by decide) (by decide) pd__28_29V rfl (Nat.le_of_eq rfl) rfl (by decide) (by decide) rfl (pc' := 78) rfl fun v875 T875 h875 L875 k875 Qv875 => ?_
    obtain ⟨rfl, rfl⟩ := Qv875
    show Go p e below P T875 (mkF m 78 #[.val (.int i0), .val (.int i1), .val (.int i2), .val (.int ((1 : Int32) + ((i0 &&& (2147483647 : Int32)) % (3 : Int32)))), .val (.int ((i1 &&& (2147483647 : Int32)) % ((1 : Int32) + ((i0 &&& (2147483647 : Int32)) % (3 : Int32))))), .val (.ref b1), .val (.ref b57), .unset, .unset, .unset] [.ref b859, .int (0 : Int32), .ref b57])
    refine s_goto k875 at_78 (by decide) (pc' := 82) (by decide) ?_
    exact J72 _ _ _ _ k875 ((Keep.refl _ _).ext X859) (Or.inr ⟨_, rfl, E859⟩)
set_option maxRecDepth 65536 in
set_option maxHeartbeats 40000000 in
theorem comes_1 {Post : Tables → Env → Array Value → State → Outcome → State → Prop} (hpost : ∀ tb e args s v u, (limb_1_1.after args s (.returned v) u = true ∧ limb_1_2.after args s (.returned v) u = true ∧ True) → FrameEnd s (.returned v) u (Jvm.fieldLocs frame_1_writes args s ++ Jvm.arrayLocs frame_1_arrays args s ++ Jvm.staticLocs frame_1_statics s) 32 128 → Post tb e args s (.returned v) u) :
    ArmFor flags0 classFile x code maxLocals ret World_1 tables_1 room_1 Calls_1 rest_1 Pre_1 Post := by
  intro l hfl _ _ p e ha hc hk s m args below hf hA hF happ hP
  obtain ⟨hcalls, hrest, hpre⟩ := hP
  obtain ⟨-, -, -, hnamed, -, -, -, hat⟩ := (Spec.applies_iff hf).mp happ
  obtain ⟨hg, hn⟩ := and_e (Cond.before_iff.mp (show (Jvm.Cond.and given_1 narrow_1).before args s = true from hpre))
  obtain ⟨gc, gr0⟩ := and_e hg
  obtain ⟨w0, w1, w2, rfl⟩ : ∃ w0 w1 w2 : Value, args = #[w0, w1, w2] := by
    have hs : args.size = 3 := by simpa [Cond.value, given_1] using gc
    obtain ⟨L⟩ := args
    match L, hs with
    | [w0, w1, w2], _ => exact ⟨w0, w1, w2, rfl⟩
  have hw := fun d (hd : d ∈ tables_1) => atoms_spec (ws := Jvm.Cond.code x code maxLocals ret :: tables_1) hat d (List.mem_cons_of_mem _ hd)
  obtain ⟨ga0, gr1⟩ := and_e gr0
  obtain ⟨i0, ei0⟩ := is_v ga0
  obtain rfl : w0 = (.int i0) := Option.some.inj ei0
  obtain ⟨ga1, gr2⟩ := and_e gr1
  obtain ⟨i1, ei1⟩ := is_v ga1
  obtain rfl : w1 = (.int i1) := Option.some.inj ei1
  have ga2 := gr2
  obtain ⟨i2, ei2⟩ := is_v ga2
  obtain rfl : w2 = (.int i2) := Option.some.inj ei2
  obtain ⟨n, o, h1, h2, h3, _, L, rfl, ⟨rfl, N⟩, hq⟩ := rm0 l s _ hw i0 i1 i2 s.heap s.heap.size (Nat.le_refl _)  tables_1 p e ha hc hk s m _ below hf ((Spec.applies_iff_loose hf).mp happ).1 ⟨rfl, State.Warmed39.refl s, rfl⟩ trivial
  refine ⟨n, _, h1, h2, h3, hpost _ _ _ _ _ _ ⟨Cond.after_iff.mpr rfl, Cond.after_iff.mpr (eq_i res_at (Term.int_eval (1)) rfl), trivial⟩ ⟨hq.1, hq.2.1, (hq.2.2.sift fun y hy => Or.inr (N y hy)).mono (by decide) (by decide)⟩⟩
theorem main_1_1 : Claimed_1_1 := comes_1 fun _ _ _ _ _ _ h hF => ⟨h.1, hF⟩
theorem main_1_2 : Claimed_1_2 := comes_1 fun _ _ _ _ _ _ h hF => ⟨h.2.1, hF⟩
end Jvm.Pilot.@@N@@
namespace Jvm.Pilot.@@N@@
open Jvm Jvm.ClassFile Sem Op Lib Jvm.Free Jvm.Stand Jvm.Pilot.@@N@@.Jvm.D
/-! MADE BY PROGRAM (witnessworld.py) out of the Statement's table words and the real class files: 13 classes; the members and pool entries that the words name. The judged class is class 3, her method 1. -/
namespace start1
open Jvm.ClassFile
def u (s : String) : CpInfo := .utf8 (stringToUtf16 s)
/-- a pool by its gaps: so many unusable entries, then the entry; so many at the end -/
def gap : Nat → List CpInfo → List CpInfo
  | 0, r => r
  | n + 1, r => .unusable :: gap n r
def poolList (es : List (Nat × CpInfo)) (last : Nat) : List CpInfo := es.foldr (fun e r => gap e.1 (e.2 :: r)) (gap last [])
def pool (es : List (Nat × CpInfo)) (last : Nat) : Array CpInfo := ⟨poolList es last⟩
def fileOf (pool : Array CpInfo) (this : Nat) (attrs : Array Attribute := #[]) (ms : Array MethodInfo := #[]) (fl : Nat := 33) (sup : Nat := 0) (ifs : Array Nat := #[]) (fds : Array FieldInfo := #[]) : ClassFile where
  minorVersion := 0
  majorVersion := 65
  constantPool := pool
  accessFlags := fl
  thisClass := this
  superClass := sup
  interfaces := ifs
  fields := fds
  methods := ms
  attributes := attrs
def plain (name : String) (sup : Option ClassId) : Class where
  name := name
  kind := .ordinary
  loader := none
  accessFlags := 33
  super := sup
  interfaces := #[]
  cf := none
  fields := #[]
  methods := #[]
  instanceTypes := #[]
  staticTypes := #[]
  resolved := #[]
  callSites := []
  init := .initialized
  statics := none
  mirror := none

def pool0 : Array CpInfo := pool [(5, u "<init>"), (0, u "()V"), (1, .class_ 10), (1, u "java/lang/Object")] 113

def k0c0 : Code := { maxStack := 0, maxLocals := 1, code := object_method_1_code, exceptionTable := #[], attributes := #[] }
def k0m0 : Method := { name := "<init>", desc := "()V", sig := { parameters := [], returnType := none }, accessFlags := 1, code := some k0c0 }
/-- java/lang/Object -/
def k0 : Class := { plain "java/lang/Object" none with
  accessFlags := 33
  interfaces := #[]
  cf := some (fileOf pool0 8 #[] #[{ accessFlags := 1, nameIndex := 5, descriptorIndex := 6, attributes := #[] }] 33 0 #[] #[])
  fields := #[]
  methods := #[k0m0]
  instanceTypes := #[]
  staticTypes := #[]
  resolved := Array.replicate 124 none
  statics := none }

def pool1 : Array CpInfo := pool [(1, .methodref 2 3), (0, .class_ 4), (0, .nameAndType 5 6), (0, u "java/lang/Object"), (0, u "<init>"), (0, u "()V"), (0, .class_ 8), (0, u "com/example/gull/gull/WaitList$Waiter"), (0, u "waker"), (0, u "Lcom/example/gull/gull/Waker;"), (0, u "previous"), (0, u "Lcom/example/gull/gull/WaitList$Waiter;"), (0, u "next"), (5, .class_ 20), (0, u "com/example/gull/gull/WaitList")] 2

def k1c0 : Code := { maxStack := 1, maxLocals := 1, code := prog_34_method_1_code, exceptionTable := #[], attributes := #[] }
def k1m0 : Method := { name := "<init>", desc := "()V", sig := { parameters := [], returnType := none }, accessFlags := 0, code := some k1c0 }
/-- com/example/gull/gull/WaitList$Waiter -/
def k1 : Class := { plain "com/example/gull/gull/WaitList$Waiter" (some 0) with
  accessFlags := 1056
  interfaces := #[]
  cf := some (fileOf pool1 7 #[.nestHost 19] #[{ accessFlags := 0, nameIndex := 5, descriptorIndex := 6, attributes := #[] }] 1056 2 #[] #[{ accessFlags := 0, nameIndex := 9, descriptorIndex := 10, attributes := #[] }, { accessFlags := 2, nameIndex := 11, descriptorIndex := 12, attributes := #[] }, { accessFlags := 2, nameIndex := 13, descriptorIndex := 12, attributes := #[] }])
  fields := #[{ name := "waker", type := (.object "com/example/gull/gull/Waker"), accessFlags := 0, slot := 0, constantValue := 0 }, { name := "previous", type := (.object "com/example/gull/gull/WaitList$Waiter"), accessFlags := 2, slot := 1, constantValue := 0 }, { name := "next", type := (.object "com/example/gull/gull/WaitList$Waiter"), accessFlags := 2, slot := 2, constantValue := 0 }]
  methods := #[k1m0]
  instanceTypes := #[(.object "com/example/gull/gull/Waker"), (.object "com/example/gull/gull/WaitList$Waiter"), (.object "com/example/gull/gull/WaitList$Waiter")]
  staticTypes := #[]
  resolved := Array.replicate 23 none
  statics := none }

def pool2 : Array CpInfo := pool [(1, .class_ 2), (0, u "com/example/gull/gull/Waker"), (0, .class_ 4), (0, u "java/lang/Object")] 6

/-- com/example/gull/gull/Waker -/
def k2 : Class := { plain "com/example/gull/gull/Waker" (some 0) with
  accessFlags := 1537
  interfaces := #[]
  cf := some (fileOf pool2 1 #[] #[] 1537 3 #[] #[])
  fields := #[]
  methods := #[]
  instanceTypes := #[]
  staticTypes := #[]
  resolved := Array.replicate 11 none
  statics := none }

def pool3 : Array CpInfo := pool [(1, .methodref 2 3), (0, .class_ 4), (0, .nameAndType 5 6), (0, u "com/example/gull/gull/WaitList$Waiter"), (0, u "<init>"), (0, u "()V"), (0, .integer 2147483647), (0, .class_ 9), (0, u "com/example/gull/gull/WaitListRemovePinLaw"), (0, .methodref 8 3), (0, .class_ 12), (0, u "com/example/gull/gull/Waker"), (0, .fieldref 8 14), (0, .nameAndType 15 16), (0, u "waker"), (0, u "Lcom/example/gull/gull/Waker;"), (0, .class_ 18), (0, u "com/example/gull/gull/WaitList"), (0, .methodref 17 3), (0, .methodref 17 21), (0, .nameAndType 22 23), (0, u "add"), (0, u "(Lcom/example/gull/gull/WaitList$Waiter;)V"), (0, .methodref 17 25), (0, .nameAndType 26 27), (0, u "remove"), (0, u "(Lcom/example/gull/gull/WaitList$Waiter;)Lcom/example/gull/gull/Waker;"), (0, .methodref 8 29), (0, .nameAndType 30 31), (0, u "step"), (0, u "(Lcom/example/gull/gull/WaitList;Lcom/example/gull/gull/WaitListRemovePinLaw;Lcom/example/gull/gull/Waker;)Z"), (0, .methodref 17 33), (0, .nameAndType 34 35), (0, u "isEmpty"), (0, u "()Z"), (0, .methodref 17 37), (0, .nameAndType 38 39), (0, u "first"), (0, u "()Lcom/example/gull/gull/WaitList$Waiter;"), (3, u "law"), (0, u "(III)Z")] 11

def k3c0 : Code := { maxStack := 1, maxLocals := 1, code := method_1_code, exceptionTable := #[], attributes := #[] }
def k3m0 : Method := { name := "<init>", desc := "()V", sig := { parameters := [], returnType := none }, accessFlags := 1, code := some k3c0 }
def k3c1 : Code := { maxStack := 4, maxLocals := 10, code := code, exceptionTable := #[], attributes := #[] }
def k3m1 : Method := { name := "law", desc := "(III)Z", sig := { parameters := [.int, .int, .int], returnType := some .boolean }, accessFlags := 9, code := some k3c1 }
def k3c2 : Code := { maxStack := 2, maxLocals := 4, code := method_4_code, exceptionTable := #[], attributes := #[] }
def k3m2 : Method := { name := "step", desc := "(Lcom/example/gull/gull/WaitList;Lcom/example/gull/gull/WaitListRemovePinLaw;Lcom/example/gull/gull/Waker;)Z", sig := { parameters := [(.object "com/example/gull/gull/WaitList"), (.object "com/example/gull/gull/WaitListRemovePinLaw"), (.object "com/example/gull/gull/Waker")], returnType := some .boolean }, accessFlags := 10, code := some k3c2 }
/-- com/example/gull/gull/WaitListRemovePinLaw -/
def k3 : Class := { plain "com/example/gull/gull/WaitListRemovePinLaw" (some 1) with
  accessFlags := 49
  interfaces := #[2]
  cf := some (fileOf pool3 8 #[] #[{ accessFlags := 1, nameIndex := 5, descriptorIndex := 6, attributes := #[] }, { accessFlags := 9, nameIndex := 43, descriptorIndex := 44, attributes := #[] }, { accessFlags := 10, nameIndex := 30, descriptorIndex := 31, attributes := #[] }] 49 2 #[11] #[])
  fields := #[]
  methods := #[k3m0, k3m1, k3m2]
  instanceTypes := #[(.object "com/example/gull/gull/Waker"), (.object "com/example/gull/gull/WaitList$Waiter"), (.object "com/example/gull/gull/WaitList$Waiter")]
  staticTypes := #[]
  resolved := Array.replicate 56 none
  statics := none }

def pool4 : Array CpInfo := pool [(1, .methodref 2 3), (0, .class_ 4), (0, .nameAndType 5 6), (0, u "java/lang/Object"), (0, u "<init>"), (0, u "()V"), (0, .fieldref 8 9), (0, .class_ 10), (0, .nameAndType 11 12), (0, u "com/example/gull/gull/WaitList"), (0, u "first"), (0, u "Lcom/example/gull/gull/WaitList$Waiter;"), (0, .fieldref 8 14), (0, .nameAndType 15 12), (0, u "last"), (0, .fieldref 17 18), (0, .class_ 19), (0, .nameAndType 20 12), (0, u "com/example/gull/gull/WaitList$Waiter"), (0, u "previous"), (0, .fieldref 17 22), (0, .nameAndType 23 12), (0, u "next"), (0, .fieldref 17 25), (0, .nameAndType 26 27), (0, u "waker"), (0, u "Lcom/example/gull/gull/Waker;"), (2, u "isEmpty"), (0, u "()Z"), (1, u "()Lcom/example/gull/gull/WaitList$Waiter;"), (2, u "add"), (0, u "(Lcom/example/gull/gull/WaitList$Waiter;)V"), (1, u "remove"), (0, u "(Lcom/example/gull/gull/WaitList$Waiter;)Lcom/example/gull/gull/Waker;")] 9

def k4c0 : Code := { maxStack := 1, maxLocals := 1, code := prog_33_method_1_code, exceptionTable := #[], attributes := #[] }
def k4m0 : Method := { name := "<init>", desc := "()V", sig := { parameters := [], returnType := none }, accessFlags := 0, code := some k4c0 }
def k4c1 : Code := { maxStack := 1, maxLocals := 1, code := prog_33_method_2_code, exceptionTable := #[], attributes := #[] }
def k4m1 : Method := { name := "isEmpty", desc := "()Z", sig := { parameters := [], returnType := some .boolean }, accessFlags := 0, code := some k4c1 }
def k4c2 : Code := { maxStack := 1, maxLocals := 1, code := prog_33_method_3_code, exceptionTable := #[], attributes := #[] }
def k4m2 : Method := { name := "first", desc := "()Lcom/example/gull/gull/WaitList$Waiter;", sig := { parameters := [], returnType := some (.object "com/example/gull/gull/WaitList$Waiter") }, accessFlags := 0, code := some k4c2 }
def k4c3 : Code := { maxStack := 2, maxLocals := 3, code := prog_33_method_4_code, exceptionTable := #[], attributes := #[] }
def k4m3 : Method := { name := "add", desc := "(Lcom/example/gull/gull/WaitList$Waiter;)V", sig := { parameters := [(.object "com/example/gull/gull/WaitList$Waiter")], returnType := none }, accessFlags := 0, code := some k4c3 }
def k4c4 : Code := { maxStack := 2, maxLocals := 4, code := prog_33_method_5_code, exceptionTable := #[], attributes := #[] }
def k4m4 : Method := { name := "remove", desc := "(Lcom/example/gull/gull/WaitList$Waiter;)Lcom/example/gull/gull/Waker;", sig := { parameters := [(.object "com/example/gull/gull/WaitList$Waiter")], returnType := some (.object "com/example/gull/gull/Waker") }, accessFlags := 0, code := some k4c4 }
/-- com/example/gull/gull/WaitList -/
def k4 : Class := { plain "com/example/gull/gull/WaitList" (some 0) with
  accessFlags := 48
  interfaces := #[]
  cf := some (fileOf pool4 8 #[.nestMembers #[17]] #[{ accessFlags := 0, nameIndex := 5, descriptorIndex := 6, attributes := #[] }, { accessFlags := 0, nameIndex := 30, descriptorIndex := 31, attributes := #[] }, { accessFlags := 0, nameIndex := 11, descriptorIndex := 33, attributes := #[] }, { accessFlags := 0, nameIndex := 36, descriptorIndex := 37, attributes := #[] }, { accessFlags := 0, nameIndex := 39, descriptorIndex := 40, attributes := #[] }] 48 2 #[] #[{ accessFlags := 2, nameIndex := 11, descriptorIndex := 12, attributes := #[] }, { accessFlags := 2, nameIndex := 15, descriptorIndex := 12, attributes := #[] }])
  fields := #[{ name := "first", type := (.object "com/example/gull/gull/WaitList$Waiter"), accessFlags := 2, slot := 0, constantValue := 0 }, { name := "last", type := (.object "com/example/gull/gull/WaitList$Waiter"), accessFlags := 2, slot := 1, constantValue := 0 }]
  methods := #[k4m0, k4m1, k4m2, k4m3, k4m4]
  instanceTypes := #[(.object "com/example/gull/gull/WaitList$Waiter"), (.object "com/example/gull/gull/WaitList$Waiter")]
  staticTypes := #[]
  resolved := ((Array.replicate 50 none).setIfInBounds 16 (some (.field 1 1))).setIfInBounds 21 (some (.field 1 2))
  statics := none }

def pool5 : Array CpInfo := pool [(1, u "java/lang/Cloneable"), (0, .class_ 1), (0, u "java/lang/Object"), (0, .class_ 3)] 3

/-- java/lang/Cloneable -/
def k5 : Class := { plain "java/lang/Cloneable" (some 0) with
  accessFlags := 1537
  interfaces := #[]
  cf := some (fileOf pool5 2 #[] #[] 1537 4 #[] #[])
  fields := #[]
  methods := #[]
  instanceTypes := #[]
  staticTypes := #[]
  resolved := Array.replicate 8 none
  statics := none }

def pool6 : Array CpInfo := pool [(1, u "java/io/Serializable"), (0, .class_ 1), (0, u "java/lang/Object"), (0, .class_ 3)] 3

/-- java/io/Serializable -/
def k6 : Class := { plain "java/io/Serializable" (some 0) with
  accessFlags := 1537
  interfaces := #[]
  cf := some (fileOf pool6 2 #[] #[] 1537 4 #[] #[])
  fields := #[]
  methods := #[]
  instanceTypes := #[]
  staticTypes := #[]
  resolved := Array.replicate 8 none
  statics := none }

/-- the primitive byte -/
def k7 : Class := { plain "byte" none with kind := .primitive 'B', accessFlags := 0x411 }
/-- [B -/
def k8 : Class := { plain "[B" (some 0) with kind := .array 7 .byte, interfaces := #[5, 6], accessFlags := 1041 }

/-- the primitive int -/
def k9 : Class := { plain "int" none with kind := .primitive 'I', accessFlags := 0x411 }
/-- [I -/
def k10 : Class := { plain "[I" (some 0) with kind := .array 9 .int, interfaces := #[5, 6], accessFlags := 1041 }

/-- [Lcom/example/gull/gull/WaitListRemovePinLaw; -/
def k11 : Class := { plain "[Lcom/example/gull/gull/WaitListRemovePinLaw;" (some 0) with kind := .array 3 (.object "com/example/gull/gull/WaitListRemovePinLaw"), interfaces := #[5, 6], accessFlags := 1041 }

/-- [Lcom/example/gull/gull/Waker; -/
def k12 : Class := { plain "[Lcom/example/gull/gull/Waker;" (some 0) with kind := .array 2 (.object "com/example/gull/gull/Waker"), interfaces := #[5, 6], accessFlags := 1041 }

def heap : Heap := #[]
def classes : Array Class := #[k0, k1, k2, k3, k4, k5, k6, k7, k8, k9, k10, k11, k12]
def interned : List (Array UInt16 × Addr) := []
def slotsUsed : Nat := 0
def theMethod : MethodId := ⟨3, 1⟩
def args0 : Array Value := #[.int 5, .int 6, .int 7]
def aboutOver (below : List Frame) : State where
  vm := { classes := classes, interned := interned.toArray }
  heap := heap
  slotsUsed := slotsUsed
  threads := #[{ frames := .invoking theMethod args0 :: below }]
def below0 : List Frame := [.native { method := ⟨0, 0⟩, args := #[] }]
def about1 : State := aboutOver below0
def p0 : Program := .bare "" "" ""
def e0 : Env := launch0.env 0 0 0
theorem w_frames : about1.frames = Frame.invoking theMethod args0 :: below0 := rfl
set_option maxRecDepth 65536 in
theorem w_args : argsFit about1.vm theMethod args0 = true := by decide +kernel
set_option maxRecDepth 65536 in
theorem w_heap : heapFits about1 = true := by decide +kernel
set_option maxRecDepth 65536 in
theorem w_runnable : about1.curStatus? = some .runnable := by decide +kernel
set_option maxRecDepth 65536 in
theorem w_alone : about1.alone = true := by decide +kernel
set_option maxRecDepth 65536 in
theorem w_named : about1.methodNamed? x = some theMethod := by decide +kernel
set_option maxRecDepth 65536 in
theorem w_hears : about1.hears theMethod below0 = true := by decide +kernel
set_option maxRecDepth 65536 in
theorem w_ripe : about1.ripe theMethod args0 below0 = true := by decide +kernel
theorem w_running : about1.status = .running := rfl
set_option maxRecDepth 65536 in
theorem w_room : about1.hasRoom e0.platform room_1 = true :=
  launch0.hasRoom_least _ room_1 (by decide +kernel) (by decide +kernel) (by decide +kernel) (by decide +kernel) (by decide +kernel) (by decide +kernel)
theorem allAtoms_all (ts : List Jvm.Cond) (a : Array Jvm.Value) (st : Jvm.State) : (allAtoms ts).before a st = ts.all (fun c => c.before a st) := by
  induction ts with
  | nil => rfl
  | cons c t ih =>
    show (Jvm.Cond.and c (allAtoms t)).before a st = _
    rw [Jvm.Cond.before_and, ih, List.all_cons]
def words1 : List Jvm.Cond := Jvm.Cond.code x code maxLocals ret :: tables_1
/-- a 'code' word, met by the world's own term for the bytes: nothing is compared byte by byte -/
theorem code_word {y : MethodName} {bytes : ByteArray} {mx : Nat} {rt : Option FieldType} {a : Array Value} {s : State} {m : MethodId} {meth : Method} {c : Code} (h1 : s.methodNamed? y = some m) (h2 : s.vm.method? m = some meth) (h3 : meth.code = some c) (h4 : c.code = bytes)
    (h5 : (c.maxLocals == mx && c.exceptionTable.isEmpty && decide (c.maxStack ≤ mostOperands) && decide (meth.sig.returnType = rt) && !meth.locks && decide (parseMethodDescriptor y.desc = some meth.sig)) = true) : (Jvm.Cond.code y bytes mx rt).before a s = true := by
  simp only [Bool.and_eq_true, beq_iff_eq, Bool.not_eq_true', decide_eq_true_eq] at h5
  obtain ⟨⟨⟨⟨⟨g1, g2⟩, g3⟩, g4⟩, g5⟩, g6⟩ := h5
  simp [Cond.before, Cond.holds, Cond.value, h1, h2, h3, h4, g1, g2, g3, g4, g5, g6]
def isCode : Jvm.Cond → Bool
  | .code _ _ _ _ => true
  | _ => false
theorem all_split {L : List Jvm.Cond} {P : Jvm.Cond → Bool} (h1 : L.all (fun c => isCode c || P c) = true) (h2 : ∀ c ∈ L.filter isCode, P c = true) : L.all P = true := by
  refine List.all_eq_true.mpr fun c hc => ?_
  have h := List.all_eq_true.mp h1 c hc
  rcases Bool.eq_false_or_eq_true (isCode c) with hi | hi
  · exact h2 c (List.mem_filter.mpr ⟨hc, hi⟩)
  · simpa [hi] using h
set_option maxRecDepth 65536 in
theorem w_c0 : (Jvm.Cond.code x code maxLocals ret).before args0 about1 = true := code_word (m := ⟨3, 1⟩) (meth := k3m1) (c := k3c1) (by decide +kernel) rfl rfl rfl (by decide +kernel)
set_option maxRecDepth 65536 in
theorem w_c1 : (Jvm.Cond.code ({ cls := "com/example/gull/gull/WaitListRemovePinLaw", name := "<init>", desc := "()V" } : Jvm.MethodName) method_1_code (1 : Nat) (Option.none : Option Jvm.ClassFile.FieldType)).before args0 about1 = true := code_word (m := ⟨3, 0⟩) (meth := k3m0) (c := k3c0) (by decide +kernel) rfl rfl rfl (by decide +kernel)
set_option maxRecDepth 65536 in
theorem w_c2 : (Jvm.Cond.code ({ cls := "com/example/gull/gull/WaitList$Waiter", name := "<init>", desc := "()V" } : Jvm.MethodName) prog_34_method_1_code (1 : Nat) (Option.none : Option Jvm.ClassFile.FieldType)).before args0 about1 = true := code_word (m := ⟨1, 0⟩) (meth := k1m0) (c := k1c0) (by decide +kernel) rfl rfl rfl (by decide +kernel)
set_option maxRecDepth 65536 in
theorem w_c3 : (Jvm.Cond.code ({ cls := "java/lang/Object", name := "<init>", desc := "()V" } : Jvm.MethodName) object_method_1_code (1 : Nat) (Option.none : Option Jvm.ClassFile.FieldType)).before args0 about1 = true := code_word (m := ⟨0, 0⟩) (meth := k0m0) (c := k0c0) (by decide +kernel) rfl rfl rfl (by decide +kernel)
set_option maxRecDepth 65536 in
theorem w_c4 : (Jvm.Cond.code ({ cls := "com/example/gull/gull/WaitList", name := "<init>", desc := "()V" } : Jvm.MethodName) prog_33_method_1_code (1 : Nat) (Option.none : Option Jvm.ClassFile.FieldType)).before args0 about1 = true := code_word (m := ⟨4, 0⟩) (meth := k4m0) (c := k4c0) (by decide +kernel) rfl rfl rfl (by decide +kernel)
set_option maxRecDepth 65536 in
theorem w_c5 : (Jvm.Cond.code ({ cls := "com/example/gull/gull/WaitList", name := "add", desc := "(Lcom/example/gull/gull/WaitList$Waiter;)V" } : Jvm.MethodName) prog_33_method_4_code (3 : Nat) (Option.none : Option Jvm.ClassFile.FieldType)).before args0 about1 = true := code_word (m := ⟨4, 3⟩) (meth := k4m3) (c := k4c3) (by decide +kernel) rfl rfl rfl (by decide +kernel)
set_option maxRecDepth 65536 in
theorem w_c6 : (Jvm.Cond.code ({ cls := "com/example/gull/gull/WaitList", name := "remove", desc := "(Lcom/example/gull/gull/WaitList$Waiter;)Lcom/example/gull/gull/Waker;" } : Jvm.MethodName) prog_33_method_5_code (4 : Nat) (Option.some (Jvm.ClassFile.FieldType.object "com/example/gull/gull/Waker"))).before args0 about1 = true := code_word (m := ⟨4, 4⟩) (meth := k4m4) (c := k4c4) (by decide +kernel) rfl rfl rfl (by decide +kernel)
set_option maxRecDepth 65536 in
theorem w_c7 : (Jvm.Cond.code ({ cls := "com/example/gull/gull/WaitListRemovePinLaw", name := "step", desc := "(Lcom/example/gull/gull/WaitList;Lcom/example/gull/gull/WaitListRemovePinLaw;Lcom/example/gull/gull/Waker;)Z" } : Jvm.MethodName) method_4_code (4 : Nat) (Option.some Jvm.ClassFile.FieldType.boolean)).before args0 about1 = true := code_word (m := ⟨3, 2⟩) (meth := k3m2) (c := k3c2) (by decide +kernel) rfl rfl rfl (by decide +kernel)
set_option maxRecDepth 65536 in
theorem w_c8 : (Jvm.Cond.code ({ cls := "com/example/gull/gull/WaitList", name := "first", desc := "()Lcom/example/gull/gull/WaitList$Waiter;" } : Jvm.MethodName) prog_33_method_3_code (1 : Nat) (Option.some (Jvm.ClassFile.FieldType.object "com/example/gull/gull/WaitList$Waiter"))).before args0 about1 = true := code_word (m := ⟨4, 2⟩) (meth := k4m2) (c := k4c2) (by decide +kernel) rfl rfl rfl (by decide +kernel)
set_option maxRecDepth 65536 in
theorem w_c9 : (Jvm.Cond.code ({ cls := "com/example/gull/gull/WaitList", name := "isEmpty", desc := "()Z" } : Jvm.MethodName) prog_33_method_2_code (1 : Nat) (Option.some Jvm.ClassFile.FieldType.boolean)).before args0 about1 = true := code_word (m := ⟨4, 1⟩) (meth := k4m1) (c := k4c1) (by decide +kernel) rfl rfl rfl (by decide +kernel)
def codes1 : List Jvm.Cond := [Jvm.Cond.code x code maxLocals ret, Jvm.Cond.code ({ cls := "com/example/gull/gull/WaitListRemovePinLaw", name := "<init>", desc := "()V" } : Jvm.MethodName) method_1_code (1 : Nat) (Option.none : Option Jvm.ClassFile.FieldType), Jvm.Cond.code ({ cls := "com/example/gull/gull/WaitList$Waiter", name := "<init>", desc := "()V" } : Jvm.MethodName) prog_34_method_1_code (1 : Nat) (Option.none : Option Jvm.ClassFile.FieldType), Jvm.Cond.code ({ cls := "java/lang/Object", name := "<init>", desc := "()V" } : Jvm.MethodName) object_method_1_code (1 : Nat) (Option.none : Option Jvm.ClassFile.FieldType), Jvm.Cond.code ({ cls := "com/example/gull/gull/WaitList", name := "<init>", desc := "()V" } : Jvm.MethodName) prog_33_method_1_code (1 : Nat) (Option.none : Option Jvm.ClassFile.FieldType), Jvm.Cond.code ({ cls := "com/example/gull/gull/WaitList", name := "add", desc := "(Lcom/example/gull/gull/WaitList$Waiter;)V" } : Jvm.MethodName) prog_33_method_4_code (3 : Nat) (Option.none : Option Jvm.ClassFile.FieldType), Jvm.Cond.code ({ cls := "com/example/gull/gull/WaitList", name := "remove", desc := "(Lcom/example/gull/gull/WaitList$Waiter;)Lcom/example/gull/gull/Waker;" } : Jvm.MethodName) prog_33_method_5_code (4 : Nat) (Option.some (Jvm.ClassFile.FieldType.object "com/example/gull/gull/Waker")), Jvm.Cond.code ({ cls := "com/example/gull/gull/WaitListRemovePinLaw", name := "step", desc := "(Lcom/example/gull/gull/WaitList;Lcom/example/gull/gull/WaitListRemovePinLaw;Lcom/example/gull/gull/Waker;)Z" } : Jvm.MethodName) method_4_code (4 : Nat) (Option.some Jvm.ClassFile.FieldType.boolean), Jvm.Cond.code ({ cls := "com/example/gull/gull/WaitList", name := "first", desc := "()Lcom/example/gull/gull/WaitList$Waiter;" } : Jvm.MethodName) prog_33_method_3_code (1 : Nat) (Option.some (Jvm.ClassFile.FieldType.object "com/example/gull/gull/WaitList$Waiter")), Jvm.Cond.code ({ cls := "com/example/gull/gull/WaitList", name := "isEmpty", desc := "()Z" } : Jvm.MethodName) prog_33_method_2_code (1 : Nat) (Option.some Jvm.ClassFile.FieldType.boolean)]
set_option maxRecDepth 65536 in
theorem codes_eq : words1.filter isCode = codes1 := rfl
theorem w_codes : ∀ c ∈ words1.filter isCode, c.before args0 about1 = true := by
  rw [codes_eq]
  intro c hc
  simp only [codes1, List.mem_cons, List.not_mem_nil, or_false] at hc
  rcases hc with rfl | rfl | rfl | rfl | rfl | rfl | rfl | rfl | rfl | rfl
  · exact w_c0
  · exact w_c1
  · exact w_c2
  · exact w_c3
  · exact w_c4
  · exact w_c5
  · exact w_c6
  · exact w_c7
  · exact w_c8
  · exact w_c9
set_option maxRecDepth 65536 in
theorem w_t1 : (words1.take 24).all (fun c => isCode c || c.before args0 about1) = true := by decide +kernel
set_option maxRecDepth 65536 in
theorem w_t2 : ((words1.drop 24).take 24).all (fun c => isCode c || c.before args0 about1) = true := by decide +kernel
set_option maxRecDepth 65536 in
theorem w_t3 : ((words1.drop 24).drop 24).all (fun c => isCode c || c.before args0 about1) = true := by decide +kernel
theorem w_tables : (allAtoms (Jvm.Cond.code x code maxLocals ret :: tables_1)).before args0 about1 = true := by
  rw [allAtoms_all]
  show words1.all (fun c => c.before args0 about1) = true
  refine all_split ?_ w_codes
  rw [← List.take_append_drop 24 words1, List.all_append, w_t1, ← List.take_append_drop 24 (words1.drop 24), List.all_append, w_t2, w_t3]
  rfl
set_option maxRecDepth 65536 in
theorem w_case : (Jvm.Cond.and given_1 narrow_1).before args0 about1 = true := by decide +kernel
theorem w_applies : (headSpec (Jvm.Cond.code x code maxLocals ret :: tables_1) room_1).applies x e0.platform about1 = true :=
  (Spec.applies_iff w_frames).mpr ⟨w_running, w_runnable, w_alone, w_named, w_hears, w_ripe, w_room, w_tables⟩
theorem atStart : AtStart classFile x code maxLocals ret World_1 tables_1 room_1 Calls_1 rest_1 Pre_1 launch0 p0 e0 about1 theMethod args0 below0 :=
  ⟨lists_1, trivial, launch0.admits_env _ _ _, launch0.least_env, fairChoices_fair.cas, fairChoices_fair.clock, w_frames, w_args, w_heap, w_applies, trivial, trivial, w_case⟩
end start1
theorem witness_1 : WitnessClaimed_1 := ⟨start1.p0, start1.e0, start1.about1, start1.theMethod, start1.args0, start1.below0, start1.atStart⟩
end Jvm.Pilot.@@N@@
