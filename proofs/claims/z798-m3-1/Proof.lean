import JvmDerived
import JvmDerived.Pilot.@@N@@Statement
import JvmDerived.Pilot.@@N@@Code
set_option linter.unusedVariables false
set_option linter.unusedSimpArgs false
@@BLOCK:NumsL.lean.txt@@
namespace Jvm.OwnGo
open Sem ClassFile Op Lib Jvm.Stand Jvm.Free Jvm.LawKit Jvm.RoadKit
/-- where a walk stands -/
def K (p : Program) (l : Launch) (e : Env) (R : Room) (s : State) (m : MethodId) (args : Array Value) (below : List Frame) (meth : Method) (c : Code) (bytes : ByteArray) (own : String) (maxL : Nat) (ret : Option FieldType) (nm : String) (T : State) (locs : List Loc) (cells slots : Nat) (Z : State) (h : Heap) (n0 : Nat) : Prop :=
  Stand p l e R s m args below meth c T locs cells slots ∧ p.tables.exec = Jvm.exec ∧ Z.Warmed39 s.vm ∧ T.heap = h ∧ Fr n0 locs ∧ c.code = bytes ∧ s.vm.findClass own = some m.cls ∧ c.maxLocals = maxL ∧ meth.sig.returnType = ret ∧ meth.name = nm ∧ meth.locks = false
/-- from here the run comes to an end that meets P -/
def Go (p : Program) (e : Env) (below : List Frame) (P : State → Outcome → Prop) (T : State) (g : JFrame) : Prop :=
  ∃ s₂ o, Steps p.tables e below (T.setTop g) s₂ ∧ s₂.status = .running ∧ Ended s₂ below o ∧ P s₂ o
/-- what a return pays -/
def Pay (s : State) (Q : Option Value → Heap → Prop) (n0 cc ss : Nat) (P : State → Outcome → Prop) : Prop :=
  ∀ v h L s₂, Q v h → s₂.heap = h → Fr n0 L → FrameEnd s (.returned v) s₂ L cc ss → P s₂ (.returned v)
section Own
variable {p : Program} {l : Launch} {e : Env} {R : Room} {s : State} {m : MethodId} {args : Array Value} {below : List Frame} {meth : Method} {c : Code} {bytes : ByteArray} {own : String} {maxL : Nat} {ret : Option FieldType} {nm : String} {T : State} {locs : List Loc} {cells slots : Nat} {Z : State} {h : Heap} {n0 : Nat} {Q : Option Value → Heap → Prop} {P : State → Outcome → Prop} {cc ss : Nat} {a0 : Array Value} {Ls : Array Slot} {st rest : List Value} {pc pc' pc3 : Nat}
theorem Go.to {T' : State} {g g' : JFrame} (h1 : ∀ target, Steps p.tables e below (T'.setTop g') target → Steps p.tables e below (T.setTop g) target) (k : Go p e below P T' g') : Go p e below P T g := by
  obtain ⟨s₂, o, h2, h3⟩ := k; exact ⟨s₂, o, h1 _ h2, h3⟩
theorem Go.tr {T' : State} {g g' : JFrame} (h1 : Steps p.tables e below (T.setTop g) (T'.setTop g')) (k : Go p e below P T' g') : Go p e below P T g := by
  obtain ⟨s₂, o, h2, h3⟩ := k; exact ⟨s₂, o, h1.trans h2, h3⟩
theorem Go.weak {P' : State → Outcome → Prop} {g : JFrame} (k : Go p e below P T g) (h1 : ∀ s o, P s o → P' s o) : Go p e below P' T g := by
  obtain ⟨s₂, o, h2, h3, h4, h5⟩ := k; exact ⟨s₂, o, h2, h3, h4, h1 _ _ h5⟩
theorem nar_ref {C : String} {v : Value} (h : v.isRef = true) : narrow (.object C) v = v := by cases v <;> first | rfl | (simp [Value.isRef] at h)
theorem fit_ref {C : String} {v : Value} (h : v.isRef = true) : fits (.object C) v = true := by cases v <;> first | rfl | (simp [Value.isRef] at h)
theorem k_hp (k : K p l e R s m args below meth c bytes own maxL ret nm T locs cells slots Z h n0) {T' : State} {h' : Heap} {locs' : List Loc} {cells' slots' : Nat} (X : Stand p l e R s m args below meth c T' locs' cells' slots') (eT : T'.heap = h') (N : Fr n0 locs') : K p l e R s m args below meth c bytes own maxL ret nm T' locs' cells' slots' Z h' n0 :=
  ⟨X, k.2.1, k.2.2.1, eT, N, k.2.2.2.2.2⟩
theorem k_more (k : K p l e R s m args below meth c bytes own maxL ret nm T locs cells slots Z h n0) {cells' slots' : Nat} (h1 : cells ≤ cells') (h2 : slots ≤ slots') : K p l e R s m args below meth c bytes own maxL ret nm T locs cells' slots' Z h n0 :=
  ⟨k.1.more h1 h2, k.2⟩

theorem s_iloadN (k : K p l e R s m args below meth c bytes own maxL ret nm T locs cells slots Z h n0) {i : Fin 4} {v : Int32} (hd : decode bytes pc = .ok (.iload_n i, 1)) (hl : Ls[i.val]? = some (.val (.int v))) (hp : pc + 1 = pc') (g : Go p e below P T (mkF m pc' Ls (.int v :: st))) : Go p e below P T (mkF m pc Ls st) := by
  subst hp
  exact Go.to (fun _ q => XS.iloadN k.1.here k.2.1 rfl (hb k.2.2.2.2.2.1 hd) hl q) g
theorem s_istoreN (k : K p l e R s m args below meth c bytes own maxL ret nm T locs cells slots Z h n0) {i : Fin 4} {x : Int32} {l' : Array Slot} (hd : decode bytes pc = .ok (.istore_n i, 1)) (hl : storeLocals Ls i.val (.int x) = some l') (hp : pc + 1 = pc') (g : Go p e below P T (mkF m pc' l' st)) : Go p e below P T (mkF m pc Ls (.int x :: st)) := by
  subst hp
  exact Go.to (fun _ q => XS.istoreN k.1.here k.2.1 rfl (hb k.2.2.2.2.2.1 hd) rfl hl q) g
theorem s_iload (k : K p l e R s m args below meth c bytes own maxL ret nm T locs cells slots Z h n0) {i : Nat} {v : Int32} (hd : decode bytes pc = .ok (.iload i, 2)) (hl : Ls[i]? = some (.val (.int v))) (hp : pc + 2 = pc') (g : Go p e below P T (mkF m pc' Ls (.int v :: st))) : Go p e below P T (mkF m pc Ls st) := by
  subst hp
  exact Go.to (fun _ q => XS.iload k.1.here k.2.1 rfl (hb k.2.2.2.2.2.1 hd) hl q) g
theorem s_istore (k : K p l e R s m args below meth c bytes own maxL ret nm T locs cells slots Z h n0) {i : Nat} {x : Int32} {l' : Array Slot} (hd : decode bytes pc = .ok (.istore i, 2)) (hl : storeLocals Ls i (.int x) = some l') (hp : pc + 2 = pc') (g : Go p e below P T (mkF m pc' l' st)) : Go p e below P T (mkF m pc Ls (.int x :: st)) := by
  subst hp
  exact Go.to (fun _ q => XS.istore k.1.here k.2.1 rfl (hb k.2.2.2.2.2.1 hd) rfl hl q) g
theorem s_lloadN (k : K p l e R s m args below meth c bytes own maxL ret nm T locs cells slots Z h n0) {i : Fin 4} {v : Int64} (hd : decode bytes pc = .ok (.lload_n i, 1)) (hl : Ls[i.val]? = some (.val (.long v))) (hp : pc + 1 = pc') (g : Go p e below P T (mkF m pc' Ls (.long v :: st))) : Go p e below P T (mkF m pc Ls st) := by
  subst hp
  exact Go.to (fun _ q => XT.lloadN k.1.here k.2.1 rfl (hb k.2.2.2.2.2.1 hd) hl q) g
theorem s_lstoreN (k : K p l e R s m args below meth c bytes own maxL ret nm T locs cells slots Z h n0) {i : Fin 4} {x : Int64} {l' : Array Slot} (hd : decode bytes pc = .ok (.lstore_n i, 1)) (hl : storeLocals Ls i.val (.long x) = some l') (hp : pc + 1 = pc') (g : Go p e below P T (mkF m pc' l' st)) : Go p e below P T (mkF m pc Ls (.long x :: st)) := by
  subst hp
  exact Go.to (fun _ q => XT.lstoreN k.1.here k.2.1 rfl (hb k.2.2.2.2.2.1 hd) rfl hl q) g
theorem s_lload (k : K p l e R s m args below meth c bytes own maxL ret nm T locs cells slots Z h n0) {i : Nat} {v : Int64} (hd : decode bytes pc = .ok (.lload i, 2)) (hl : Ls[i]? = some (.val (.long v))) (hp : pc + 2 = pc') (g : Go p e below P T (mkF m pc' Ls (.long v :: st))) : Go p e below P T (mkF m pc Ls st) := by
  subst hp
  exact Go.to (fun _ q => XT.lload k.1.here k.2.1 rfl (hb k.2.2.2.2.2.1 hd) hl q) g
theorem s_lstore (k : K p l e R s m args below meth c bytes own maxL ret nm T locs cells slots Z h n0) {i : Nat} {x : Int64} {l' : Array Slot} (hd : decode bytes pc = .ok (.lstore i, 2)) (hl : storeLocals Ls i (.long x) = some l') (hp : pc + 2 = pc') (g : Go p e below P T (mkF m pc' l' st)) : Go p e below P T (mkF m pc Ls (.long x :: st)) := by
  subst hp
  exact Go.to (fun _ q => XT.lstore k.1.here k.2.1 rfl (hb k.2.2.2.2.2.1 hd) rfl hl q) g
theorem s_aloadN (k : K p l e R s m args below meth c bytes own maxL ret nm T locs cells slots Z h n0) {i : Fin 4} {v : Value} (hd : decode bytes pc = .ok (.aload_n i, 1)) (hl : Ls[i.val]? = some (.val v)) (hv : v.isRef = true) (hp : pc + 1 = pc') (g : Go p e below P T (mkF m pc' Ls (v :: st))) : Go p e below P T (mkF m pc Ls st) := by
  subst hp
  exact Go.to (fun _ q => XS.aloadN k.1.here k.2.1 rfl (hb k.2.2.2.2.2.1 hd) hl hv q) g
theorem s_astoreN (k : K p l e R s m args below meth c bytes own maxL ret nm T locs cells slots Z h n0) {i : Fin 4} {x : Value} {l' : Array Slot} (hd : decode bytes pc = .ok (.astore_n i, 1)) (hv : x.isRef = true) (hl : storeLocals Ls i.val x = some l') (hp : pc + 1 = pc') (g : Go p e below P T (mkF m pc' l' st)) : Go p e below P T (mkF m pc Ls (x :: st)) := by
  subst hp
  exact Go.to (fun _ q => XS.astoreN k.1.here k.2.1 rfl (hb k.2.2.2.2.2.1 hd) rfl hv hl q) g
theorem s_aload (k : K p l e R s m args below meth c bytes own maxL ret nm T locs cells slots Z h n0) {i : Nat} {v : Value} (hd : decode bytes pc = .ok (.aload i, 2)) (hl : Ls[i]? = some (.val v)) (hv : v.isRef = true) (hp : pc + 2 = pc') (g : Go p e below P T (mkF m pc' Ls (v :: st))) : Go p e below P T (mkF m pc Ls st) := by
  subst hp
  exact Go.to (fun _ q => XS.aload k.1.here k.2.1 rfl (hb k.2.2.2.2.2.1 hd) hl hv q) g
theorem s_astore (k : K p l e R s m args below meth c bytes own maxL ret nm T locs cells slots Z h n0) {i : Nat} {x : Value} {l' : Array Slot} (hd : decode bytes pc = .ok (.astore i, 2)) (hv : x.isRef = true) (hl : storeLocals Ls i x = some l') (hp : pc + 2 = pc') (g : Go p e below P T (mkF m pc' l' st)) : Go p e below P T (mkF m pc Ls (x :: st)) := by
  subst hp
  exact Go.to (fun _ q => XS.astore k.1.here k.2.1 rfl (hb k.2.2.2.2.2.1 hd) rfl hv hl q) g
theorem s_iconst (k : K p l e R s m args below meth c bytes own maxL ret nm T locs cells slots Z h n0) {i : Int} {z : Int32} (hd : decode bytes pc = .ok (.iconst i, 1)) (hz : Int32.ofInt i = z) (hp : pc + 1 = pc') (g : Go p e below P T (mkF m pc' Ls (.int z :: st))) : Go p e below P T (mkF m pc Ls st) := by
  subst hp hz
  exact Go.to (fun _ q => XS.iconst k.1.here k.2.1 rfl (hb k.2.2.2.2.2.1 hd) q) g
theorem s_bipush (k : K p l e R s m args below meth c bytes own maxL ret nm T locs cells slots Z h n0) {i : Int} {z : Int32} (hd : decode bytes pc = .ok (.bipush i, 2)) (hz : (Int8.ofInt i).toInt32 = z) (hp : pc + 2 = pc') (g : Go p e below P T (mkF m pc' Ls (.int z :: st))) : Go p e below P T (mkF m pc Ls st) := by
  subst hp hz
  exact Go.to (fun _ q => XS.bipush k.1.here k.2.1 rfl (hb k.2.2.2.2.2.1 hd) q) g
theorem s_sipush (k : K p l e R s m args below meth c bytes own maxL ret nm T locs cells slots Z h n0) {i : Int} {z : Int32} (hd : decode bytes pc = .ok (.sipush i, 3)) (hz : (Int16.ofInt i).toInt32 = z) (hp : pc + 3 = pc') (g : Go p e below P T (mkF m pc' Ls (.int z :: st))) : Go p e below P T (mkF m pc Ls st) := by
  subst hp hz
  exact Go.to (fun _ q => XS.sipush k.1.here k.2.1 rfl (hb k.2.2.2.2.2.1 hd) q) g
theorem s_lconst (k : K p l e R s m args below meth c bytes own maxL ret nm T locs cells slots Z h n0) {i : Fin 2} {z : Int64} (hd : decode bytes pc = .ok (.lconst i, 1)) (hz : Int64.ofNat i = z) (hp : pc + 1 = pc') (g : Go p e below P T (mkF m pc' Ls (.long z :: st))) : Go p e below P T (mkF m pc Ls st) := by
  subst hp hz
  exact Go.to (fun _ q => XT.lconst k.1.here k.2.1 rfl (hb k.2.2.2.2.2.1 hd) q) g
theorem s_null (k : K p l e R s m args below meth c bytes own maxL ret nm T locs cells slots Z h n0)  (hd : decode bytes pc = .ok (.aconst_null, 1))  (hp : pc + 1 = pc') (g : Go p e below P T (mkF m pc' Ls (.null :: st))) : Go p e below P T (mkF m pc Ls st) := by
  subst hp
  exact Go.to (fun _ q => XS.aconstNull k.1.here k.2.1 rfl (hb k.2.2.2.2.2.1 hd)  q) g
theorem s_iadd (k : K p l e R s m args below meth c bytes own maxL ret nm T locs cells slots Z h n0) {x y : Int32} {z : Int32} (hd : decode bytes pc = .ok (.iadd, 1))  (hz : x + y = z) (hp : pc + 1 = pc') (g : Go p e below P T (mkF m pc' Ls (.int z :: st))) : Go p e below P T (mkF m pc Ls (.int y :: .int x :: st)) := by
  subst hp hz
  exact Go.to (fun _ q => XS.iadd k.1.here k.2.1 rfl (hb k.2.2.2.2.2.1 hd) rfl q) g
theorem s_ladd (k : K p l e R s m args below meth c bytes own maxL ret nm T locs cells slots Z h n0) {x y : Int64} {z : Int64} (hd : decode bytes pc = .ok (.ladd, 1))  (hz : x + y = z) (hp : pc + 1 = pc') (g : Go p e below P T (mkF m pc' Ls (.long z :: st))) : Go p e below P T (mkF m pc Ls (.long y :: .long x :: st)) := by
  subst hp hz
  exact Go.to (fun _ q => XT.ladd k.1.here k.2.1 rfl (hb k.2.2.2.2.2.1 hd) rfl q) g
theorem s_isub (k : K p l e R s m args below meth c bytes own maxL ret nm T locs cells slots Z h n0) {x y : Int32} {z : Int32} (hd : decode bytes pc = .ok (.isub, 1))  (hz : x - y = z) (hp : pc + 1 = pc') (g : Go p e below P T (mkF m pc' Ls (.int z :: st))) : Go p e below P T (mkF m pc Ls (.int y :: .int x :: st)) := by
  subst hp hz
  exact Go.to (fun _ q => XS.isub k.1.here k.2.1 rfl (hb k.2.2.2.2.2.1 hd) rfl q) g
theorem s_lsub (k : K p l e R s m args below meth c bytes own maxL ret nm T locs cells slots Z h n0) {x y : Int64} {z : Int64} (hd : decode bytes pc = .ok (.lsub, 1))  (hz : x - y = z) (hp : pc + 1 = pc') (g : Go p e below P T (mkF m pc' Ls (.long z :: st))) : Go p e below P T (mkF m pc Ls (.long y :: .long x :: st)) := by
  subst hp hz
  exact Go.to (fun _ q => XT.lsub k.1.here k.2.1 rfl (hb k.2.2.2.2.2.1 hd) rfl q) g
theorem s_imul (k : K p l e R s m args below meth c bytes own maxL ret nm T locs cells slots Z h n0) {x y : Int32} {z : Int32} (hd : decode bytes pc = .ok (.imul, 1))  (hz : x * y = z) (hp : pc + 1 = pc') (g : Go p e below P T (mkF m pc' Ls (.int z :: st))) : Go p e below P T (mkF m pc Ls (.int y :: .int x :: st)) := by
  subst hp hz
  exact Go.to (fun _ q => XS.imul k.1.here k.2.1 rfl (hb k.2.2.2.2.2.1 hd) rfl q) g
theorem s_lmul (k : K p l e R s m args below meth c bytes own maxL ret nm T locs cells slots Z h n0) {x y : Int64} {z : Int64} (hd : decode bytes pc = .ok (.lmul, 1))  (hz : x * y = z) (hp : pc + 1 = pc') (g : Go p e below P T (mkF m pc' Ls (.long z :: st))) : Go p e below P T (mkF m pc Ls (.long y :: .long x :: st)) := by
  subst hp hz
  exact Go.to (fun _ q => XT.lmul k.1.here k.2.1 rfl (hb k.2.2.2.2.2.1 hd) rfl q) g
theorem s_iand (k : K p l e R s m args below meth c bytes own maxL ret nm T locs cells slots Z h n0) {x y : Int32} {z : Int32} (hd : decode bytes pc = .ok (.iand, 1))  (hz : x &&& y = z) (hp : pc + 1 = pc') (g : Go p e below P T (mkF m pc' Ls (.int z :: st))) : Go p e below P T (mkF m pc Ls (.int y :: .int x :: st)) := by
  subst hp hz
  exact Go.to (fun _ q => XS.iand k.1.here k.2.1 rfl (hb k.2.2.2.2.2.1 hd) rfl q) g
theorem s_land (k : K p l e R s m args below meth c bytes own maxL ret nm T locs cells slots Z h n0) {x y : Int64} {z : Int64} (hd : decode bytes pc = .ok (.land, 1))  (hz : x &&& y = z) (hp : pc + 1 = pc') (g : Go p e below P T (mkF m pc' Ls (.long z :: st))) : Go p e below P T (mkF m pc Ls (.long y :: .long x :: st)) := by
  subst hp hz
  exact Go.to (fun _ q => XT.land k.1.here k.2.1 rfl (hb k.2.2.2.2.2.1 hd) rfl q) g
theorem s_ior (k : K p l e R s m args below meth c bytes own maxL ret nm T locs cells slots Z h n0) {x y : Int32} {z : Int32} (hd : decode bytes pc = .ok (.ior, 1))  (hz : x ||| y = z) (hp : pc + 1 = pc') (g : Go p e below P T (mkF m pc' Ls (.int z :: st))) : Go p e below P T (mkF m pc Ls (.int y :: .int x :: st)) := by
  subst hp hz
  exact Go.to (fun _ q => XT.ior k.1.here k.2.1 rfl (hb k.2.2.2.2.2.1 hd) rfl q) g
theorem s_lor (k : K p l e R s m args below meth c bytes own maxL ret nm T locs cells slots Z h n0) {x y : Int64} {z : Int64} (hd : decode bytes pc = .ok (.lor, 1))  (hz : x ||| y = z) (hp : pc + 1 = pc') (g : Go p e below P T (mkF m pc' Ls (.long z :: st))) : Go p e below P T (mkF m pc Ls (.long y :: .long x :: st)) := by
  subst hp hz
  exact Go.to (fun _ q => XT.lor k.1.here k.2.1 rfl (hb k.2.2.2.2.2.1 hd) rfl q) g
theorem s_ixor (k : K p l e R s m args below meth c bytes own maxL ret nm T locs cells slots Z h n0) {x y : Int32} {z : Int32} (hd : decode bytes pc = .ok (.ixor, 1))  (hz : x ^^^ y = z) (hp : pc + 1 = pc') (g : Go p e below P T (mkF m pc' Ls (.int z :: st))) : Go p e below P T (mkF m pc Ls (.int y :: .int x :: st)) := by
  subst hp hz
  exact Go.to (fun _ q => XT.ixor k.1.here k.2.1 rfl (hb k.2.2.2.2.2.1 hd) rfl q) g
theorem s_lxor (k : K p l e R s m args below meth c bytes own maxL ret nm T locs cells slots Z h n0) {x y : Int64} {z : Int64} (hd : decode bytes pc = .ok (.lxor, 1))  (hz : x ^^^ y = z) (hp : pc + 1 = pc') (g : Go p e below P T (mkF m pc' Ls (.long z :: st))) : Go p e below P T (mkF m pc Ls (.long y :: .long x :: st)) := by
  subst hp hz
  exact Go.to (fun _ q => XT.lxor k.1.here k.2.1 rfl (hb k.2.2.2.2.2.1 hd) rfl q) g
theorem s_iushr (k : K p l e R s m args below meth c bytes own maxL ret nm T locs cells slots Z h n0) {x y : Int32} {z : Int32} (hd : decode bytes pc = .ok (.iushr, 1))  (hz : XT.ushr x y = z) (hp : pc + 1 = pc') (g : Go p e below P T (mkF m pc' Ls (.int z :: st))) : Go p e below P T (mkF m pc Ls (.int y :: .int x :: st)) := by
  subst hp hz
  exact Go.to (fun _ q => XT.iushr k.1.here k.2.1 rfl (hb k.2.2.2.2.2.1 hd) rfl q) g
theorem s_ishr (k : K p l e R s m args below meth c bytes own maxL ret nm T locs cells slots Z h n0) {x y : Int32} {z : Int32} (hd : decode bytes pc = .ok (.ishr, 1))  (hz : x >>> (y &&& 31) = z) (hp : pc + 1 = pc') (g : Go p e below P T (mkF m pc' Ls (.int z :: st))) : Go p e below P T (mkF m pc Ls (.int y :: .int x :: st)) := by
  subst hp hz
  exact Go.to (fun _ q => XT.ishr k.1.here k.2.1 rfl (hb k.2.2.2.2.2.1 hd) rfl q) g
theorem s_ishl (k : K p l e R s m args below meth c bytes own maxL ret nm T locs cells slots Z h n0) {x y : Int32} {z : Int32} (hd : decode bytes pc = .ok (.ishl, 1))  (hz : x <<< (y &&& 31) = z) (hp : pc + 1 = pc') (g : Go p e below P T (mkF m pc' Ls (.int z :: st))) : Go p e below P T (mkF m pc Ls (.int y :: .int x :: st)) := by
  subst hp hz
  exact Go.to (fun _ q => XT.ishl k.1.here k.2.1 rfl (hb k.2.2.2.2.2.1 hd) rfl q) g
theorem s_lushr (k : K p l e R s m args below meth c bytes own maxL ret nm T locs cells slots Z h n0) {x : Int64} {y : Int32} {z : Int64} (hd : decode bytes pc = .ok (.lushr, 1))  (hz : XT.ushrL x y = z) (hp : pc + 1 = pc') (g : Go p e below P T (mkF m pc' Ls (.long z :: st))) : Go p e below P T (mkF m pc Ls (.int y :: .long x :: st)) := by
  subst hp hz
  exact Go.to (fun _ q => XT.lushr k.1.here k.2.1 rfl (hb k.2.2.2.2.2.1 hd) rfl q) g
theorem s_lshl (k : K p l e R s m args below meth c bytes own maxL ret nm T locs cells slots Z h n0) {x : Int64} {y : Int32} {z : Int64} (hd : decode bytes pc = .ok (.lshl, 1))  (hz : x <<< (y.toInt64 &&& 63) = z) (hp : pc + 1 = pc') (g : Go p e below P T (mkF m pc' Ls (.long z :: st))) : Go p e below P T (mkF m pc Ls (.int y :: .long x :: st)) := by
  subst hp hz
  exact Go.to (fun _ q => XT.lshl k.1.here k.2.1 rfl (hb k.2.2.2.2.2.1 hd) rfl q) g
theorem s_lshr (k : K p l e R s m args below meth c bytes own maxL ret nm T locs cells slots Z h n0) {x : Int64} {y : Int32} {z : Int64} (hd : decode bytes pc = .ok (.lshr, 1))  (hz : x >>> (y.toInt64 &&& 63) = z) (hp : pc + 1 = pc') (g : Go p e below P T (mkF m pc' Ls (.long z :: st))) : Go p e below P T (mkF m pc Ls (.int y :: .long x :: st)) := by
  subst hp hz
  exact Go.to (fun _ q => XT.lshr k.1.here k.2.1 rfl (hb k.2.2.2.2.2.1 hd) rfl q) g
theorem s_idiv (k : K p l e R s m args below meth c bytes own maxL ret nm T locs cells slots Z h n0) {x y : Int32} {z : Int32} (hd : decode bytes pc = .ok (.idiv, 1)) (hy : y ≠ 0) (hz : x / y = z) (hp : pc + 1 = pc') (g : Go p e below P T (mkF m pc' Ls (.int z :: st))) : Go p e below P T (mkF m pc Ls (.int y :: .int x :: st)) := by
  subst hp hz
  exact Go.to (fun _ q => XS.idiv k.1.here k.2.1 rfl (hb k.2.2.2.2.2.1 hd) rfl hy q) g
theorem s_ldiv (k : K p l e R s m args below meth c bytes own maxL ret nm T locs cells slots Z h n0) {x y : Int64} {z : Int64} (hd : decode bytes pc = .ok (.ldiv, 1)) (hy : y ≠ 0) (hz : x / y = z) (hp : pc + 1 = pc') (g : Go p e below P T (mkF m pc' Ls (.long z :: st))) : Go p e below P T (mkF m pc Ls (.long y :: .long x :: st)) := by
  subst hp hz
  exact Go.to (fun _ q => XT.ldiv k.1.here k.2.1 rfl (hb k.2.2.2.2.2.1 hd) rfl hy q) g
theorem s_irem (k : K p l e R s m args below meth c bytes own maxL ret nm T locs cells slots Z h n0) {x y : Int32} {z : Int32} (hd : decode bytes pc = .ok (.irem, 1)) (hy : y ≠ 0) (hz : x % y = z) (hp : pc + 1 = pc') (g : Go p e below P T (mkF m pc' Ls (.int z :: st))) : Go p e below P T (mkF m pc Ls (.int y :: .int x :: st)) := by
  subst hp hz
  exact Go.to (fun _ q => iremM k.1 k.2.1 rfl (hb k.2.2.2.2.2.1 hd) rfl hy q) g
theorem s_lrem (k : K p l e R s m args below meth c bytes own maxL ret nm T locs cells slots Z h n0) {x y : Int64} {z : Int64} (hd : decode bytes pc = .ok (.lrem, 1)) (hy : y ≠ 0) (hz : x - x / y * y = z) (hp : pc + 1 = pc') (g : Go p e below P T (mkF m pc' Ls (.long z :: st))) : Go p e below P T (mkF m pc Ls (.long y :: .long x :: st)) := by
  subst hp hz
  exact Go.to (fun _ q => XT.lrem k.1.here k.2.1 rfl (hb k.2.2.2.2.2.1 hd) rfl hy q) g
theorem s_lneg (k : K p l e R s m args below meth c bytes own maxL ret nm T locs cells slots Z h n0) {x : Int64} {z : Int64} (hd : decode bytes pc = .ok (.lneg, 1))  (hz : -x = z) (hp : pc + 1 = pc') (g : Go p e below P T (mkF m pc' Ls (.long z :: st))) : Go p e below P T (mkF m pc Ls (.long x :: st)) := by
  subst hp hz
  exact Go.to (fun _ q => XT.lneg k.1.here k.2.1 rfl (hb k.2.2.2.2.2.1 hd) rfl q) g
theorem s_ineg (k : K p l e R s m args below meth c bytes own maxL ret nm T locs cells slots Z h n0) {x : Int32} {z : Int32} (hd : decode bytes pc = .ok (.ineg, 1))  (hz : -x = z) (hp : pc + 1 = pc') (g : Go p e below P T (mkF m pc' Ls (.int z :: st))) : Go p e below P T (mkF m pc Ls (.int x :: st)) := by
  subst hp hz
  exact Go.to (fun _ q => XS.ineg k.1.here k.2.1 rfl (hb k.2.2.2.2.2.1 hd) rfl q) g
theorem s_i2l (k : K p l e R s m args below meth c bytes own maxL ret nm T locs cells slots Z h n0) {x : Int32} {z : Int64} (hd : decode bytes pc = .ok (.i2l, 1))  (hz : x.toInt64 = z) (hp : pc + 1 = pc') (g : Go p e below P T (mkF m pc' Ls (.long z :: st))) : Go p e below P T (mkF m pc Ls (.int x :: st)) := by
  subst hp hz
  exact Go.to (fun _ q => XT.i2l k.1.here k.2.1 rfl (hb k.2.2.2.2.2.1 hd) rfl q) g
theorem s_l2i (k : K p l e R s m args below meth c bytes own maxL ret nm T locs cells slots Z h n0) {x : Int64} {z : Int32} (hd : decode bytes pc = .ok (.l2i, 1))  (hz : x.toInt32 = z) (hp : pc + 1 = pc') (g : Go p e below P T (mkF m pc' Ls (.int z :: st))) : Go p e below P T (mkF m pc Ls (.long x :: st)) := by
  subst hp hz
  exact Go.to (fun _ q => XT.l2i k.1.here k.2.1 rfl (hb k.2.2.2.2.2.1 hd) rfl q) g
theorem s_i2b (k : K p l e R s m args below meth c bytes own maxL ret nm T locs cells slots Z h n0) {x : Int32} {z : Int32} (hd : decode bytes pc = .ok (.i2b, 1))  (hz : x.toInt8.toInt32 = z) (hp : pc + 1 = pc') (g : Go p e below P T (mkF m pc' Ls (.int z :: st))) : Go p e below P T (mkF m pc Ls (.int x :: st)) := by
  subst hp hz
  exact Go.to (fun _ q => XT.i2b k.1.here k.2.1 rfl (hb k.2.2.2.2.2.1 hd) rfl q) g
theorem s_i2c (k : K p l e R s m args below meth c bytes own maxL ret nm T locs cells slots Z h n0) {x : Int32} {z : Int32} (hd : decode bytes pc = .ok (.i2c, 1))  (hz : x.toUInt32.toUInt16.toUInt32.toInt32 = z) (hp : pc + 1 = pc') (g : Go p e below P T (mkF m pc' Ls (.int z :: st))) : Go p e below P T (mkF m pc Ls (.int x :: st)) := by
  subst hp hz
  exact Go.to (fun _ q => XT.i2c k.1.here k.2.1 rfl (hb k.2.2.2.2.2.1 hd) rfl q) g
theorem s_dup (k : K p l e R s m args below meth c bytes own maxL ret nm T locs cells slots Z h n0) {x : Value} (hd : decode bytes pc = .ok (.dup, 1)) (hc : x.category = 1) (hp : pc + 1 = pc') (g : Go p e below P T (mkF m pc' Ls (x :: x :: st))) : Go p e below P T (mkF m pc Ls (x :: st)) := by
  subst hp
  exact Go.to (fun _ q => XS.dup k.1.here k.2.1 rfl (hb k.2.2.2.2.2.1 hd) rfl hc q) g
theorem s_pop (k : K p l e R s m args below meth c bytes own maxL ret nm T locs cells slots Z h n0) {x : Value} (hd : decode bytes pc = .ok (.pop, 1)) (hc : x.category = 1) (hp : pc + 1 = pc') (g : Go p e below P T (mkF m pc' Ls st)) : Go p e below P T (mkF m pc Ls (x :: st)) := by
  subst hp
  exact Go.to (fun _ q => XT.pop k.1.here k.2.1 rfl (hb k.2.2.2.2.2.1 hd) rfl hc q) g
theorem s_dupx1 (k : K p l e R s m args below meth c bytes own maxL ret nm T locs cells slots Z h n0) {x y : Value} (hd : decode bytes pc = .ok (.dup_x1, 1)) (hc : x.category = 1) (hc' : y.category = 1) (hp : pc + 1 = pc') (g : Go p e below P T (mkF m pc' Ls (x :: y :: x :: st))) : Go p e below P T (mkF m pc Ls (x :: y :: st)) := by
  subst hp
  exact Go.to (fun _ q => XT.dupX1 k.1.here k.2.1 rfl (hb k.2.2.2.2.2.1 hd) rfl hc hc' q) g
theorem s_dup2 (k : K p l e R s m args below meth c bytes own maxL ret nm T locs cells slots Z h n0) {x y : Value} (hd : decode bytes pc = .ok (.dup2, 1)) (hc : x.category = 1) (hc' : y.category = 1) (hp : pc + 1 = pc') (g : Go p e below P T (mkF m pc' Ls (x :: y :: x :: y :: st))) : Go p e below P T (mkF m pc Ls (x :: y :: st)) := by
  subst hp
  exact Go.to (fun _ q => XT.dup2 k.1.here k.2.1 rfl (hb k.2.2.2.2.2.1 hd) rfl hc hc' q) g
theorem s_iinc (k : K p l e R s m args below meth c bytes own maxL ret nm T locs cells slots Z h n0) {i : Nat} {d : Int} {x z : Int32} {l' : Array Slot} (hd : decode bytes pc = .ok (.iinc i d, 3)) (hl : Ls[i]? = some (.val (.int x))) (hz : x + Int32.ofInt d = z) (hl' : storeLocals Ls i (.int z) = some l') (hp : pc + 3 = pc') (g : Go p e below P T (mkF m pc' l' st)) : Go p e below P T (mkF m pc Ls st) := by
  subst hp
  exact Go.to (fun _ q => XS.iinc k.1.here k.2.1 rfl (hb k.2.2.2.2.2.1 hd) hl (hz ▸ hl') q) g
theorem s_goto (k : K p l e R s m args below meth c bytes own maxL ret nm T locs cells slots Z h n0) {o : Int} (hd : decode bytes pc = .ok (.goto o, 3)) (ho : 0 ≤ (pc : Int) + o) (hp : ((pc : Int) + o).toNat = pc') (g : Go p e below P T (mkF m pc' Ls st)) : Go p e below P T (mkF m pc Ls st) :=
  Go.to (fun _ q => XS.goto k.1.here k.2.1 rfl rfl (hb k.2.2.2.2.2.1 hd) ho hp q) g
theorem s_icmp_eq (k : K p l e R s m args below meth c bytes own maxL ret nm T locs cells slots Z h n0) {x y : Int32} {o : Int} (hd : decode bytes pc = .ok (.if_icmp .eq o, 3)) (ho : 0 ≤ (pc : Int) + o) (hp : ((pc : Int) + o).toNat = pc') (h3 : pc + 3 = pc3) (gt : x = y → Go p e below P T (mkF m pc' Ls st)) (gf : ¬ (x = y) → Go p e below P T (mkF m pc3 Ls st)) : Go p e below P T (mkF m pc Ls (.int y :: .int x :: st)) := by
  subst h3
  by_cases hc : x = y
  · exact Go.to (fun _ q => XS.icmpYes k.1.here k.2.1 rfl rfl (hb k.2.2.2.2.2.1 hd) rfl (teq hc).1 ho hp q) (gt hc)
  · exact Go.to (fun _ q => XS.icmpNo k.1.here k.2.1 rfl (hb k.2.2.2.2.2.1 hd) rfl (feq hc).1 q) (gf hc)
theorem s_if_eq (k : K p l e R s m args below meth c bytes own maxL ret nm T locs cells slots Z h n0) {x : Int32} {o : Int} (hd : decode bytes pc = .ok (.ifCond .eq o, 3)) (ho : 0 ≤ (pc : Int) + o) (hp : ((pc : Int) + o).toNat = pc') (h3 : pc + 3 = pc3) (gt : x = 0 → Go p e below P T (mkF m pc' Ls st)) (gf : ¬ (x = 0) → Go p e below P T (mkF m pc3 Ls st)) : Go p e below P T (mkF m pc Ls (.int x :: st)) := by
  subst h3
  by_cases hc : x = 0
  · exact Go.to (fun _ q => XS.ifYes k.1.here k.2.1 rfl rfl (hb k.2.2.2.2.2.1 hd) rfl ((if0 _ _).trans (teq hc).1) ho hp q) (gt hc)
  · exact Go.to (fun _ q => XS.ifNo k.1.here k.2.1 rfl (hb k.2.2.2.2.2.1 hd) rfl ((if0 _ _).trans (feq hc).1) q) (gf hc)
theorem s_icmp_ne (k : K p l e R s m args below meth c bytes own maxL ret nm T locs cells slots Z h n0) {x y : Int32} {o : Int} (hd : decode bytes pc = .ok (.if_icmp .ne o, 3)) (ho : 0 ≤ (pc : Int) + o) (hp : ((pc : Int) + o).toNat = pc') (h3 : pc + 3 = pc3) (gt : x = y → Go p e below P T (mkF m pc3 Ls st)) (gf : ¬ (x = y) → Go p e below P T (mkF m pc' Ls st)) : Go p e below P T (mkF m pc Ls (.int y :: .int x :: st)) := by
  subst h3
  by_cases hc : x = y
  · exact Go.to (fun _ q => XS.icmpNo k.1.here k.2.1 rfl (hb k.2.2.2.2.2.1 hd) rfl (teq hc).2 q) (gt hc)
  · exact Go.to (fun _ q => XS.icmpYes k.1.here k.2.1 rfl rfl (hb k.2.2.2.2.2.1 hd) rfl (feq hc).2 ho hp q) (gf hc)
theorem s_if_ne (k : K p l e R s m args below meth c bytes own maxL ret nm T locs cells slots Z h n0) {x : Int32} {o : Int} (hd : decode bytes pc = .ok (.ifCond .ne o, 3)) (ho : 0 ≤ (pc : Int) + o) (hp : ((pc : Int) + o).toNat = pc') (h3 : pc + 3 = pc3) (gt : x = 0 → Go p e below P T (mkF m pc3 Ls st)) (gf : ¬ (x = 0) → Go p e below P T (mkF m pc' Ls st)) : Go p e below P T (mkF m pc Ls (.int x :: st)) := by
  subst h3
  by_cases hc : x = 0
  · exact Go.to (fun _ q => XS.ifNo k.1.here k.2.1 rfl (hb k.2.2.2.2.2.1 hd) rfl ((if0 _ _).trans (teq hc).2) q) (gt hc)
  · exact Go.to (fun _ q => XS.ifYes k.1.here k.2.1 rfl rfl (hb k.2.2.2.2.2.1 hd) rfl ((if0 _ _).trans (feq hc).2) ho hp q) (gf hc)
theorem s_icmp_lt (k : K p l e R s m args below meth c bytes own maxL ret nm T locs cells slots Z h n0) {x y : Int32} {o : Int} (hd : decode bytes pc = .ok (.if_icmp .lt o, 3)) (ho : 0 ≤ (pc : Int) + o) (hp : ((pc : Int) + o).toNat = pc') (h3 : pc + 3 = pc3) (gt : x < y → Go p e below P T (mkF m pc' Ls st)) (gf : ¬ (x < y) → Go p e below P T (mkF m pc3 Ls st)) : Go p e below P T (mkF m pc Ls (.int y :: .int x :: st)) := by
  subst h3
  by_cases hc : x < y
  · exact Go.to (fun _ q => XS.icmpYes k.1.here k.2.1 rfl rfl (hb k.2.2.2.2.2.1 hd) rfl (tlt hc).1 ho hp q) (gt hc)
  · exact Go.to (fun _ q => XS.icmpNo k.1.here k.2.1 rfl (hb k.2.2.2.2.2.1 hd) rfl (flt hc).1 q) (gf hc)
theorem s_if_lt (k : K p l e R s m args below meth c bytes own maxL ret nm T locs cells slots Z h n0) {x : Int32} {o : Int} (hd : decode bytes pc = .ok (.ifCond .lt o, 3)) (ho : 0 ≤ (pc : Int) + o) (hp : ((pc : Int) + o).toNat = pc') (h3 : pc + 3 = pc3) (gt : x < 0 → Go p e below P T (mkF m pc' Ls st)) (gf : ¬ (x < 0) → Go p e below P T (mkF m pc3 Ls st)) : Go p e below P T (mkF m pc Ls (.int x :: st)) := by
  subst h3
  by_cases hc : x < 0
  · exact Go.to (fun _ q => XS.ifYes k.1.here k.2.1 rfl rfl (hb k.2.2.2.2.2.1 hd) rfl ((if0 _ _).trans (tlt hc).1) ho hp q) (gt hc)
  · exact Go.to (fun _ q => XS.ifNo k.1.here k.2.1 rfl (hb k.2.2.2.2.2.1 hd) rfl ((if0 _ _).trans (flt hc).1) q) (gf hc)
theorem s_icmp_ge (k : K p l e R s m args below meth c bytes own maxL ret nm T locs cells slots Z h n0) {x y : Int32} {o : Int} (hd : decode bytes pc = .ok (.if_icmp .ge o, 3)) (ho : 0 ≤ (pc : Int) + o) (hp : ((pc : Int) + o).toNat = pc') (h3 : pc + 3 = pc3) (gt : x < y → Go p e below P T (mkF m pc3 Ls st)) (gf : ¬ (x < y) → Go p e below P T (mkF m pc' Ls st)) : Go p e below P T (mkF m pc Ls (.int y :: .int x :: st)) := by
  subst h3
  by_cases hc : x < y
  · exact Go.to (fun _ q => XS.icmpNo k.1.here k.2.1 rfl (hb k.2.2.2.2.2.1 hd) rfl (tlt hc).2.1 q) (gt hc)
  · exact Go.to (fun _ q => XS.icmpYes k.1.here k.2.1 rfl rfl (hb k.2.2.2.2.2.1 hd) rfl (flt hc).2.1 ho hp q) (gf hc)
theorem s_if_ge (k : K p l e R s m args below meth c bytes own maxL ret nm T locs cells slots Z h n0) {x : Int32} {o : Int} (hd : decode bytes pc = .ok (.ifCond .ge o, 3)) (ho : 0 ≤ (pc : Int) + o) (hp : ((pc : Int) + o).toNat = pc') (h3 : pc + 3 = pc3) (gt : x < 0 → Go p e below P T (mkF m pc3 Ls st)) (gf : ¬ (x < 0) → Go p e below P T (mkF m pc' Ls st)) : Go p e below P T (mkF m pc Ls (.int x :: st)) := by
  subst h3
  by_cases hc : x < 0
  · exact Go.to (fun _ q => XS.ifNo k.1.here k.2.1 rfl (hb k.2.2.2.2.2.1 hd) rfl ((if0 _ _).trans (tlt hc).2.1) q) (gt hc)
  · exact Go.to (fun _ q => XS.ifYes k.1.here k.2.1 rfl rfl (hb k.2.2.2.2.2.1 hd) rfl ((if0 _ _).trans (flt hc).2.1) ho hp q) (gf hc)
theorem s_icmp_gt (k : K p l e R s m args below meth c bytes own maxL ret nm T locs cells slots Z h n0) {x y : Int32} {o : Int} (hd : decode bytes pc = .ok (.if_icmp .gt o, 3)) (ho : 0 ≤ (pc : Int) + o) (hp : ((pc : Int) + o).toNat = pc') (h3 : pc + 3 = pc3) (gt : y < x → Go p e below P T (mkF m pc' Ls st)) (gf : ¬ (y < x) → Go p e below P T (mkF m pc3 Ls st)) : Go p e below P T (mkF m pc Ls (.int y :: .int x :: st)) := by
  subst h3
  by_cases hc : y < x
  · exact Go.to (fun _ q => XS.icmpYes k.1.here k.2.1 rfl rfl (hb k.2.2.2.2.2.1 hd) rfl (tlt hc).2.2.1 ho hp q) (gt hc)
  · exact Go.to (fun _ q => XS.icmpNo k.1.here k.2.1 rfl (hb k.2.2.2.2.2.1 hd) rfl (flt hc).2.2.1 q) (gf hc)
theorem s_if_gt (k : K p l e R s m args below meth c bytes own maxL ret nm T locs cells slots Z h n0) {x : Int32} {o : Int} (hd : decode bytes pc = .ok (.ifCond .gt o, 3)) (ho : 0 ≤ (pc : Int) + o) (hp : ((pc : Int) + o).toNat = pc') (h3 : pc + 3 = pc3) (gt : 0 < x → Go p e below P T (mkF m pc' Ls st)) (gf : ¬ (0 < x) → Go p e below P T (mkF m pc3 Ls st)) : Go p e below P T (mkF m pc Ls (.int x :: st)) := by
  subst h3
  by_cases hc : 0 < x
  · exact Go.to (fun _ q => XS.ifYes k.1.here k.2.1 rfl rfl (hb k.2.2.2.2.2.1 hd) rfl ((if0 _ _).trans (tlt hc).2.2.1) ho hp q) (gt hc)
  · exact Go.to (fun _ q => XS.ifNo k.1.here k.2.1 rfl (hb k.2.2.2.2.2.1 hd) rfl ((if0 _ _).trans (flt hc).2.2.1) q) (gf hc)
theorem s_icmp_le (k : K p l e R s m args below meth c bytes own maxL ret nm T locs cells slots Z h n0) {x y : Int32} {o : Int} (hd : decode bytes pc = .ok (.if_icmp .le o, 3)) (ho : 0 ≤ (pc : Int) + o) (hp : ((pc : Int) + o).toNat = pc') (h3 : pc + 3 = pc3) (gt : y < x → Go p e below P T (mkF m pc3 Ls st)) (gf : ¬ (y < x) → Go p e below P T (mkF m pc' Ls st)) : Go p e below P T (mkF m pc Ls (.int y :: .int x :: st)) := by
  subst h3
  by_cases hc : y < x
  · exact Go.to (fun _ q => XS.icmpNo k.1.here k.2.1 rfl (hb k.2.2.2.2.2.1 hd) rfl (tlt hc).2.2.2 q) (gt hc)
  · exact Go.to (fun _ q => XS.icmpYes k.1.here k.2.1 rfl rfl (hb k.2.2.2.2.2.1 hd) rfl (flt hc).2.2.2 ho hp q) (gf hc)
theorem s_if_le (k : K p l e R s m args below meth c bytes own maxL ret nm T locs cells slots Z h n0) {x : Int32} {o : Int} (hd : decode bytes pc = .ok (.ifCond .le o, 3)) (ho : 0 ≤ (pc : Int) + o) (hp : ((pc : Int) + o).toNat = pc') (h3 : pc + 3 = pc3) (gt : 0 < x → Go p e below P T (mkF m pc3 Ls st)) (gf : ¬ (0 < x) → Go p e below P T (mkF m pc' Ls st)) : Go p e below P T (mkF m pc Ls (.int x :: st)) := by
  subst h3
  by_cases hc : 0 < x
  · exact Go.to (fun _ q => XS.ifNo k.1.here k.2.1 rfl (hb k.2.2.2.2.2.1 hd) rfl ((if0 _ _).trans (tlt hc).2.2.2) q) (gt hc)
  · exact Go.to (fun _ q => XS.ifYes k.1.here k.2.1 rfl rfl (hb k.2.2.2.2.2.1 hd) rfl ((if0 _ _).trans (flt hc).2.2.2) ho hp q) (gf hc)
theorem cmpL_lt (x y : Int64) : XT.cmpL x y < 0 ↔ x < y := by unfold XT.cmpL; split <;> (try split) <;> simp_all [Int64.lt_iff_toInt_lt, ← Int64.toInt_inj] <;> omega
theorem cmpL_gt (x y : Int64) : 0 < XT.cmpL x y ↔ y < x := by unfold XT.cmpL; split <;> (try split) <;> simp_all [Int64.lt_iff_toInt_lt, ← Int64.toInt_inj] <;> omega
theorem cmpL_eq (x y : Int64) : XT.cmpL x y = 0 ↔ x = y := by unfold XT.cmpL; split <;> (try split) <;> simp_all [Int64.lt_iff_toInt_lt, ← Int64.toInt_inj] <;> omega
theorem s_lcmp_eq (k : K p l e R s m args below meth c bytes own maxL ret nm T locs cells slots Z h n0) {x y : Int64} {o : Int} {pc1 : Nat} (hd1 : decode bytes pc = .ok (.lcmp, 1)) (h1 : pc + 1 = pc1) (hd : decode bytes pc1 = .ok (.ifCond .eq o, 3)) (ho : 0 ≤ (pc1 : Int) + o) (hp : ((pc1 : Int) + o).toNat = pc') (h3 : pc1 + 3 = pc3) (gt : x = y → Go p e below P T (mkF m pc' Ls st)) (gf : ¬ (x = y) → Go p e below P T (mkF m pc3 Ls st)) : Go p e below P T (mkF m pc Ls (.long y :: .long x :: st)) := by
  subst h1
  refine Go.to (fun _ q => XT.lcmp k.1.here k.2.1 rfl (hb k.2.2.2.2.2.1 hd1) rfl q) ?_
  exact s_if_eq k hd ho hp h3 (fun q => gt ((cmpL_eq x y).mp q)) (fun q => gf fun z => q ((cmpL_eq x y).mpr z))
theorem s_lcmp_ne (k : K p l e R s m args below meth c bytes own maxL ret nm T locs cells slots Z h n0) {x y : Int64} {o : Int} {pc1 : Nat} (hd1 : decode bytes pc = .ok (.lcmp, 1)) (h1 : pc + 1 = pc1) (hd : decode bytes pc1 = .ok (.ifCond .ne o, 3)) (ho : 0 ≤ (pc1 : Int) + o) (hp : ((pc1 : Int) + o).toNat = pc') (h3 : pc1 + 3 = pc3) (gt : x = y → Go p e below P T (mkF m pc3 Ls st)) (gf : ¬ (x = y) → Go p e below P T (mkF m pc' Ls st)) : Go p e below P T (mkF m pc Ls (.long y :: .long x :: st)) := by
  subst h1
  refine Go.to (fun _ q => XT.lcmp k.1.here k.2.1 rfl (hb k.2.2.2.2.2.1 hd1) rfl q) ?_
  exact s_if_ne k hd ho hp h3 (fun q => gt ((cmpL_eq x y).mp q)) (fun q => gf fun z => q ((cmpL_eq x y).mpr z))
theorem s_lcmp_lt (k : K p l e R s m args below meth c bytes own maxL ret nm T locs cells slots Z h n0) {x y : Int64} {o : Int} {pc1 : Nat} (hd1 : decode bytes pc = .ok (.lcmp, 1)) (h1 : pc + 1 = pc1) (hd : decode bytes pc1 = .ok (.ifCond .lt o, 3)) (ho : 0 ≤ (pc1 : Int) + o) (hp : ((pc1 : Int) + o).toNat = pc') (h3 : pc1 + 3 = pc3) (gt : x < y → Go p e below P T (mkF m pc' Ls st)) (gf : ¬ (x < y) → Go p e below P T (mkF m pc3 Ls st)) : Go p e below P T (mkF m pc Ls (.long y :: .long x :: st)) := by
  subst h1
  refine Go.to (fun _ q => XT.lcmp k.1.here k.2.1 rfl (hb k.2.2.2.2.2.1 hd1) rfl q) ?_
  exact s_if_lt k hd ho hp h3 (fun q => gt ((cmpL_lt x y).mp q)) (fun q => gf fun z => q ((cmpL_lt x y).mpr z))
theorem s_lcmp_ge (k : K p l e R s m args below meth c bytes own maxL ret nm T locs cells slots Z h n0) {x y : Int64} {o : Int} {pc1 : Nat} (hd1 : decode bytes pc = .ok (.lcmp, 1)) (h1 : pc + 1 = pc1) (hd : decode bytes pc1 = .ok (.ifCond .ge o, 3)) (ho : 0 ≤ (pc1 : Int) + o) (hp : ((pc1 : Int) + o).toNat = pc') (h3 : pc1 + 3 = pc3) (gt : x < y → Go p e below P T (mkF m pc3 Ls st)) (gf : ¬ (x < y) → Go p e below P T (mkF m pc' Ls st)) : Go p e below P T (mkF m pc Ls (.long y :: .long x :: st)) := by
  subst h1
  refine Go.to (fun _ q => XT.lcmp k.1.here k.2.1 rfl (hb k.2.2.2.2.2.1 hd1) rfl q) ?_
  exact s_if_ge k hd ho hp h3 (fun q => gt ((cmpL_lt x y).mp q)) (fun q => gf fun z => q ((cmpL_lt x y).mpr z))
theorem s_lcmp_gt (k : K p l e R s m args below meth c bytes own maxL ret nm T locs cells slots Z h n0) {x y : Int64} {o : Int} {pc1 : Nat} (hd1 : decode bytes pc = .ok (.lcmp, 1)) (h1 : pc + 1 = pc1) (hd : decode bytes pc1 = .ok (.ifCond .gt o, 3)) (ho : 0 ≤ (pc1 : Int) + o) (hp : ((pc1 : Int) + o).toNat = pc') (h3 : pc1 + 3 = pc3) (gt : y < x → Go p e below P T (mkF m pc' Ls st)) (gf : ¬ (y < x) → Go p e below P T (mkF m pc3 Ls st)) : Go p e below P T (mkF m pc Ls (.long y :: .long x :: st)) := by
  subst h1
  refine Go.to (fun _ q => XT.lcmp k.1.here k.2.1 rfl (hb k.2.2.2.2.2.1 hd1) rfl q) ?_
  exact s_if_gt k hd ho hp h3 (fun q => gt ((cmpL_gt x y).mp q)) (fun q => gf fun z => q ((cmpL_gt x y).mpr z))
theorem s_lcmp_le (k : K p l e R s m args below meth c bytes own maxL ret nm T locs cells slots Z h n0) {x y : Int64} {o : Int} {pc1 : Nat} (hd1 : decode bytes pc = .ok (.lcmp, 1)) (h1 : pc + 1 = pc1) (hd : decode bytes pc1 = .ok (.ifCond .le o, 3)) (ho : 0 ≤ (pc1 : Int) + o) (hp : ((pc1 : Int) + o).toNat = pc') (h3 : pc1 + 3 = pc3) (gt : y < x → Go p e below P T (mkF m pc3 Ls st)) (gf : ¬ (y < x) → Go p e below P T (mkF m pc' Ls st)) : Go p e below P T (mkF m pc Ls (.long y :: .long x :: st)) := by
  subst h1
  refine Go.to (fun _ q => XT.lcmp k.1.here k.2.1 rfl (hb k.2.2.2.2.2.1 hd1) rfl q) ?_
  exact s_if_le k hd ho hp h3 (fun q => gt ((cmpL_gt x y).mp q)) (fun q => gf fun z => q ((cmpL_gt x y).mpr z))
theorem s_ldcI (k : K p l e R s m args below meth c bytes own maxL ret nm T locs cells slots Z h n0) {index : Nat} {v : Int32} (hd : decode bytes pc = .ok (.ldc index, 2)) (w : (Cond.constant own index v).before a0 Z = true) (hp : pc + 2 = pc') (g : Go p e below P T (mkF m pc' Ls (.int v :: st))) : Go p e below P T (mkF m pc Ls st) := by
  subst hp
  exact Go.to (k.1.ldcInt k.2.1 k.2.2.2.2.2.2.1 (mvT k.2.2.1 w) (g := mkF m pc Ls st) rfl (hb k.2.2.2.2.2.1 hd)) g
theorem s_ldcwI (k : K p l e R s m args below meth c bytes own maxL ret nm T locs cells slots Z h n0) {index : Nat} {v : Int32} (hd : decode bytes pc = .ok (.ldc_w index, 3)) (w : (Cond.constant own index v).before a0 Z = true) (hp : pc + 3 = pc') (g : Go p e below P T (mkF m pc' Ls (.int v :: st))) : Go p e below P T (mkF m pc Ls st) := by
  subst hp
  exact Go.to (k.1.ldcwInt k.2.1 k.2.2.2.2.2.2.1 (mvT k.2.2.1 w) (g := mkF m pc Ls st) rfl (hb k.2.2.2.2.2.1 hd)) g
theorem s_ldcL (k : K p l e R s m args below meth c bytes own maxL ret nm T locs cells slots Z h n0) {index : Nat} {v : Int64} (hd : decode bytes pc = .ok (.ldc2_w index, 3)) (w : (Cond.constantLong own index v).before a0 Z = true) (hp : pc + 3 = pc') (g : Go p e below P T (mkF m pc' Ls (.long v :: st))) : Go p e below P T (mkF m pc Ls st) := by
  subst hp
  exact Go.to (k.1.ldc2Long k.2.1 k.2.2.2.2.2.2.1 (mvT k.2.2.1 w) (g := mkF m pc Ls st) rfl (hb k.2.2.2.2.2.1 hd)) g
/-- a null test -/
theorem s_nullY (k : K p l e R s m args below meth c bytes own maxL ret nm T locs cells slots Z h n0) {o : Int} (hd : decode bytes pc = .ok (.ifnull o, 3)) (ho : 0 ≤ (pc : Int) + o) (hp : ((pc : Int) + o).toNat = pc') (g : Go p e below P T (mkF m pc' Ls st)) : Go p e below P T (mkF m pc Ls (.null :: st)) :=
  Go.to (fun _ q => XS.ifnullYes k.1.here k.2.1 rfl rfl (hb k.2.2.2.2.2.1 hd) rfl ho hp q) g
theorem s_nullN (k : K p l e R s m args below meth c bytes own maxL ret nm T locs cells slots Z h n0) {o : Int} {b : Addr} (hd : decode bytes pc = .ok (.ifnull o, 3)) (hp : pc + 3 = pc') (g : Go p e below P T (mkF m pc' Ls st)) : Go p e below P T (mkF m pc Ls (.ref b :: st)) := by
  subst hp
  exact Go.to (fun _ q => XS.ifnullNo k.1.here k.2.1 rfl (hb k.2.2.2.2.2.1 hd) rfl q) g
theorem s_nonnullY (k : K p l e R s m args below meth c bytes own maxL ret nm T locs cells slots Z h n0) {o : Int} {b : Addr} (hd : decode bytes pc = .ok (.ifnonnull o, 3)) (ho : 0 ≤ (pc : Int) + o) (hp : ((pc : Int) + o).toNat = pc') (g : Go p e below P T (mkF m pc' Ls st)) : Go p e below P T (mkF m pc Ls (.ref b :: st)) :=
  Go.to (fun _ q => XT.ifnonnullYes k.1.here k.2.1 rfl rfl (hb k.2.2.2.2.2.1 hd) rfl ho hp q) g
theorem s_nonnullN (k : K p l e R s m args below meth c bytes own maxL ret nm T locs cells slots Z h n0) {o : Int} (hd : decode bytes pc = .ok (.ifnonnull o, 3)) (hp : pc + 3 = pc') (g : Go p e below P T (mkF m pc' Ls st)) : Go p e below P T (mkF m pc Ls (.null :: st)) := by
  subst hp
  exact Go.to (fun _ q => XT.ifnonnullNo k.1.here k.2.1 rfl (hb k.2.2.2.2.2.1 hd) rfl q) g
theorem s_acmp_ne (k : K p l e R s m args below meth c bytes own maxL ret nm T locs cells slots Z h n0) {x y : Value} {o : Int} (hd : decode bytes pc = .ok (.if_acmp .ne o, 3)) (hx : x.isRef = true) (hy : y.isRef = true) (ho : 0 ≤ (pc : Int) + o) (hp : ((pc : Int) + o).toNat = pc') (h3 : pc + 3 = pc3) (gt : x = y → Go p e below P T (mkF m pc3 Ls st)) (gf : ¬ (x = y) → Go p e below P T (mkF m pc' Ls st)) : Go p e below P T (mkF m pc Ls (y :: x :: st)) := by
  by_cases hc : x = y
  · exact Go.to (fun _ q => Jvm.RoadKit.acmp (g := mkF m pc Ls (y :: x :: st)) k.1 k.2.1 rfl hx hy (pc' := pc3) (same := true) rfl (hb k.2.2.2.2.2.1 hd) rfl (decide_eq_true hc) ho h3.symm q) (gt hc)
  · exact Go.to (fun _ q => Jvm.RoadKit.acmp (g := mkF m pc Ls (y :: x :: st)) k.1 k.2.1 rfl hx hy (pc' := pc') (same := false) rfl (hb k.2.2.2.2.2.1 hd) rfl (decide_eq_false hc) ho hp.symm q) (gf hc)
/-- getfield -/
theorem s_get (k : K p l e R s m args below meth c bytes own maxL ret nm T locs cells slots Z h n0) {R0 O n d host : String} {index : Nat} {a : Addr} {v : Value} (hd : decode bytes pc = .ok (.getfield index, 3)) (w : (Cond.fieldLink own index R0 n d).before a0 Z = true ∨ (Cond.fieldLinkNest own index R0 n d host).before a0 Z = true) (via : Via Z R0 O n d) (F : Fld Z h a O n d v) (hp : pc + 3 = pc')
    (g : ∀ T', K p l e R s m args below meth c bytes own maxL ret nm T' locs cells slots Z h n0 → Go p e below P T' (mkF m pc' Ls (v :: st))) : Go p e below P T (mkF m pc Ls (.ref a :: st)) := by
  subst hp
  obtain ⟨T', X', e', q⟩ := getF k.1 k.2.1 k.2.2.1 k.2.2.2.2.2.2.1 w via k.2.2.2.1 F (g := mkF m pc Ls (.ref a :: st)) rfl rfl (hb k.2.2.2.2.2.1 hd)
  exact Go.to q (g T' (k_hp k X' e' k.2.2.2.2.1))
/-- putfield -/
theorem s_put (k : K p l e R s m args below meth c bytes own maxL ret nm T locs cells slots Z h n0) {R0 O n d host C : String} {index kk : Nat} {ty : FieldType} {a : Addr} {v old : Value} (hd : decode bytes pc = .ok (.putfield index, 3)) (w : (Cond.fieldLink own index R0 n d).before a0 Z = true ∨ (Cond.fieldLinkNest own index R0 n d host).before a0 Z = true) (via : Via Z R0 O n d) (F : Fld Z h a O n d old) (E : Exa Z h a C) (L : (Cond.lays C O n d).before a0 Z = true ∨ ((Cond.laysFinal C O n d).before a0 Z = true ∧ own = O ∧ nm = "<init>")) (wi : (Cond.instantiable C kk).before a0 Z = true)
    (hty : parseFieldDescriptor d = some ty) (hn : narrow ty v = v) (hf : fits ty v = true) (ha : n0 ≤ a) (hp : pc + 3 = pc')
    (g : ∀ T' h' L', K p l e R s m args below meth c bytes own maxL ret nm T' L' cells slots Z h' n0 → Wr h h' a (Jvm.RoadKit.slotOf Z O n d) v → Go p e below P T' (mkF m pc' Ls st)) : Go p e below P T (mkF m pc Ls (v :: .ref a :: st)) := by
  subst hp
  obtain ⟨T', h', X', e', W, q⟩ := putF k.1 k.2.1 k.2.2.1 k.2.2.2.2.2.2.1 w via k.2.2.2.1 F E (L.imp id fun z => ⟨z.1, z.2.1, k.2.2.2.2.2.2.2.2.2.1.trans z.2.2⟩) wi hty hn hf (g := mkF m pc Ls (v :: .ref a :: st)) rfl rfl (hb k.2.2.2.2.2.1 hd)
  exact Go.to q (g T' h' _ (k_hp k X' e' (Fr.snoc X' k.2.2.2.2.1 ha)) W)
/-- getfield by an entry that is resolved -/
theorem ready_of (k : K p l e R s m args below meth c bytes own maxL ret nm T locs cells slots Z h n0) {R0 O n d : String} {index : Nat} (w : (Cond.fieldRef own index R0 n d).before a0 Z = true) (via : Via Z R0 O n d) {cf i : Nat} {kk : Class} {f : Field} (h2 : Z.fieldFound? O n d = some (cf, kk, i, f)) : T.vm.fieldReady m.cls index cf f := by
  have hU : Z.Warmed39 T.vm := wtrans k.2.2.1 k.1.warmed
  have hw := Cond.fieldRef_warmed39 hU w
  have hcur : (Z.setVm T.vm).vm.findClass own = some m.cls := by
    show T.vm.findClass own = _
    rw [k.1.warmed.alike.findClass]; exact k.2.2.2.2.2.2.1
  obtain ⟨c1, k1, i1, f1, hi1, hr1⟩ := Cond.fieldRef_spec hcur hw
  obtain ⟨k', hi', -⟩ := State.fieldFound?_setVm (s := Z) hU.alike (via _ h2)
  cases hi1.symm.trans hi'
  exact hr1
theorem s_getR (k : K p l e R s m args below meth c bytes own maxL ret nm T locs cells slots Z h n0) {R0 O n d : String} {index : Nat} {a : Addr} {v : Value} (hd : decode bytes pc = .ok (.getfield index, 3)) (w : (Cond.fieldRef own index R0 n d).before a0 Z = true) (via : Via Z R0 O n d) (F : Fld Z h a O n d v) (hp : pc + 3 = pc') (g : Go p e below P T (mkF m pc' Ls (v :: st))) : Go p e below P T (mkF m pc Ls (.ref a :: st)) := by
  subst hp
  obtain ⟨cell, cf, kk, i, f, h1, h2, h3, h4, -, -, h7⟩ := F
  have hr1 := ready_of k w via h2
  have hcell : T.heap[a]? = some cell := by rw [k.2.2.2.1]; exact h1
  refine Go.to (fun target q => ?_) g
  jvm_step k.1.here [k.2.1, hb k.2.2.2.2.2.1 hd, getfield.wp_ready (e := e) (s := T) (f := mkF m pc Ls (.ref a :: st)) k.1.here.top hr1 h3 rfl hcell h4 h7]
  exact q
/-- putfield by an entry that is resolved -/
theorem s_putR (k : K p l e R s m args below meth c bytes own maxL ret nm T locs cells slots Z h n0) {R0 O n d C : String} {index kk : Nat} {ty : FieldType} {a : Addr} {v old : Value} (hd : decode bytes pc = .ok (.putfield index, 3)) (w : (Cond.fieldRef own index R0 n d).before a0 Z = true) (via : Via Z R0 O n d) (F : Fld Z h a O n d old) (E : Exa Z h a C) (L : (Cond.lays C O n d).before a0 Z = true) (wi : (Cond.instantiable C kk).before a0 Z = true)
    (hty : parseFieldDescriptor d = some ty) (hn : narrow ty v = v) (hf : fits ty v = true) (ha : n0 ≤ a) (hp : pc + 3 = pc')
    (g : ∀ T' h' L', K p l e R s m args below meth c bytes own maxL ret nm T' L' cells slots Z h' n0 → Wr h h' a (Jvm.RoadKit.slotOf Z O n d) v → Go p e below P T' (mkF m pc' Ls st)) : Go p e below P T (mkF m pc Ls (v :: .ref a :: st)) := by
  subst hp
  obtain ⟨cell, cf, kf, i, f, h1, h2, h3, h4, h5, -, h7⟩ := F
  obtain ⟨cell', kc, e1, e2, e3, -⟩ := E
  cases h1.symm.trans e1
  obtain ⟨c1, k1, cf1, kf1, i1, f1, a1, a2, a3, -, -, a6, -⟩ := Laid.spec (Or.inl L)
  cases h2.symm.trans a3
  cases e2.symm.trans a1
  obtain ⟨c2, k2, i1, i2, i3, -⟩ := Cond.instantiable_spec wi
  cases e2.symm.trans i1
  cases a2.symm.trans i2
  have ht := (State.fieldFound?_type h2 hty).2
  have hfit : Z.fitsSlot cell.cls cell.vm f.slot v = true := by
    have q : Z.slotType? cell.cls cell.vm f.slot = some ty := by
      simp only [State.slotType?, a2, Option.bind_eq_bind, Option.bind_some, i3]
      cases hq : cell.vm <;> first | (rw [hq] at h5; exact Bool.noConfusion h5) | (rw [a6, ht])
    simp [State.fitsSlot, q, hf]
  have hU : Z.Warmed39 T.vm := wtrans k.2.2.1 k.1.warmed
  have hfit' : T.fitsSlot cell.cls cell.vm f.slot v = true := by rw [← State.fitsSlot_setVm hU.alike] at hfit; exact hfit
  have hfin : hasFlag f.accessFlags Acc.final = false := by
    obtain ⟨_, _, _, _, _, _, -, -, b3, -, b5, -⟩ := Cond.lays_spec L
    cases h2.symm.trans b3
    exact b5
  have hr1 := ready_of k w via h2
  have hlt := (Array.getElem?_eq_some_iff.mp h7).1
  have es : Jvm.RoadKit.slotOf Z O n d = f.slot := by simp [Jvm.RoadKit.slotOf, h2]
  have hcell : T.heap[a]? = some cell := by rw [k.2.2.2.1]; exact h1
  obtain ⟨X', q⟩ := k.1.putfieldReady k.2.1 hr1 h3 (Or.inl hfin) hcell h4 hlt (by rw [ht]; exact hn) hfit' (g := mkF m pc Ls (v :: .ref a :: st)) rfl rfl (hb k.2.2.2.2.2.1 hd)
  refine Go.to q (g _ _ _ (k_hp k X' rfl (Fr.snoc X' k.2.2.2.2.1 ha)) ?_)
  rw [es]
  exact ⟨cell, h1, h5, hlt, by rw [← k.2.2.2.1]; rfl⟩
/-- new -/
theorem s_new (k : K p l e R s m args below meth c bytes own maxL ret nm T locs cells slots Z h n0) {C : String} {index n : Nat} (hd : decode bytes pc = .ok (.new index, 3)) (w : (Cond.classLink own index C).before a0 Z = true) (wi : (Cond.instantiable C n).before a0 Z = true) (wz : (Cond.initialized C).before a0 Z = true) (hc : cells + 1 ≤ R.cells) (hl : slots + n ≤ R.slots) (hp : pc + 3 = pc')
    (g : ∀ T' h' b, b = h.size → K p l e R s m args below meth c bytes own maxL ret nm T' locs (cells + 1) (slots + n) Z h' n0 → Ext h h' → Exa Z h' b C → (∀ {O nm d : String} {ty : FieldType}, Laid Z a0 C O nm d → parseFieldDescriptor d = some ty → Fld Z h' b O nm d (defaultValue ty)) → Go p e below P T' (mkF m pc' Ls (.ref b :: st))) : Go p e below P T (mkF m pc Ls st) := by
  subst hp
  obtain ⟨T', h', X', e', E, A, D, -, q⟩ := newO k.1 k.2.1 k.2.2.1 k.2.2.2.2.2.2.1 w wi wz k.2.2.2.1 (g := mkF m pc Ls st) rfl (hb k.2.2.2.2.2.1 hd) hc hl
  exact Go.to q (g T' h' _ rfl (k_hp k X' e' k.2.2.2.2.1) E A D)
/-- newarray of a primitive kind -/
theorem s_newP (k : K p l e R s m args below meth c bytes own maxL ret nm T locs cells slots Z h n0) {aty : ArrayType} {n : Int32} {cap : Nat} (hd : decode bytes pc = .ok (.newarray aty, 2)) (w : (Cond.arrayClass (newarray.typeOf aty)).before a0 Z = true) (hn : ¬ n < 0) (hcap : n.toNatClampNeg ≤ cap) (hb' : cap * 8 ≤ 536870912) (hc : cells + 1 ≤ R.cells) (hl : slots + cap ≤ R.slots) (hp : pc + 2 = pc')
    (g : ∀ T' h' b cA, b = h.size → K p l e R s m args below meth c bytes own maxL ret nm T' locs (cells + 1) (slots + cap) Z h' n0 → Ext h h' → Arv Z h' b cA (newarray.typeOf aty) n [] (defaultValue (newarray.typeOf aty)) → Go p e below P T' (mkF m pc' Ls (.ref b :: st))) : Go p e below P T (mkF m pc Ls (.int n :: st)) := by
  subst hp
  obtain ⟨T', h', cA, X', e', E, A, q⟩ := newP k.1 k.2.1 k.2.2.1 w k.2.2.2.1 (g := mkF m pc Ls (.int n :: st)) rfl (hb k.2.2.2.2.2.1 hd) rfl hn hcap hb' hc hl
  exact Go.to q (g T' h' _ cA rfl (k_hp k X' e' k.2.2.2.2.1) E (Arv.new A hn))
/-- anewarray -/
theorem s_newR (k : K p l e R s m args below meth c bytes own maxL ret nm T locs cells slots Z h n0) {C : String} {index : Nat} {n : Int32} {cap : Nat} (hd : decode bytes pc = .ok (.anewarray index, 3)) (w1 : (Cond.classLink own index C).before a0 Z = true) (w2 : (Cond.arrayOver (.object C)).before a0 Z = true) (hn : ¬ n < 0) (hcap : n.toNatClampNeg ≤ cap) (hb' : cap * 8 ≤ 536870912) (hc : cells + 1 ≤ R.cells) (hl : slots + cap ≤ R.slots) (hp : pc + 3 = pc')
    (g : ∀ T' h' b cA, b = h.size → K p l e R s m args below meth c bytes own maxL ret nm T' locs (cells + 1) (slots + cap) Z h' n0 → Ext h h' → Arv Z h' b cA (.object C) n [] .null → Ovr Z cA C → Go p e below P T' (mkF m pc' Ls (.ref b :: st))) : Go p e below P T (mkF m pc Ls (.int n :: st)) := by
  subst hp
  obtain ⟨T', h', cA, X', e', E, A, O, q⟩ := newR k.1 k.2.1 k.2.2.1 k.2.2.2.2.2.2.1 w1 w2 k.2.2.2.1 (g := mkF m pc Ls (.int n :: st)) rfl (hb k.2.2.2.2.2.1 hd) rfl hn hcap hb' hc hl
  exact Go.to q (g T' h' _ cA rfl (k_hp k X' e' k.2.2.2.2.1) E (Arv.new A hn) O)
/-- arraylength -/
theorem s_len (k : K p l e R s m args below meth c bytes own maxL ret nm T locs cells slots Z h n0) {a : Addr} {kc : ClassId} {ty : FieldType} {z : Int32} {vs : List Value} {dv : Value} (hd : decode bytes pc = .ok (.arraylength, 1)) (A : Arv Z h a kc ty z vs dv) (hp : pc + 1 = pc') (g : Go p e below P T (mkF m pc' Ls (.int z :: st))) : Go p e below P T (mkF m pc Ls (.ref a :: st)) := by
  subst hp
  obtain ⟨cl, A1, -, S, N, -⟩ := A
  rw [← len_of S N] at g
  exact Go.to (fun _ q => k.1.arraylength k.2.1 (by rw [k.2.2.2.1]; exact A1.1) (State.isArrayOf_alike k.2.2.1.alike A1.2.1) (g := mkF m pc Ls (.ref a :: st)) rfl rfl (hb k.2.2.2.2.2.1 hd) _ q) g

theorem s_laload (k : K p l e R s m args below meth c bytes own maxL ret nm T locs cells slots Z h n0) {a : Addr} {kc : ClassId} {z j : Int32} {vs : List Value} {dv v : Value} (hd : decode bytes pc = .ok (.laload, 1)) (A : Arv Z h a kc .long z vs dv) (hj : ¬ j < 0 ∧ j < z) (hv : vs.getD j.toNatClampNeg dv = v) (hp : pc + 1 = pc') (g : Go p e below P T (mkF m pc' Ls (v :: st))) : Go p e below P T (mkF m pc Ls (.int j :: .ref a :: st)) := by
  subst hp
  obtain ⟨cl, A1, -, S, N, H, -⟩ := A
  exact Go.to (fun _ q => k.1.laload k.2.1 (by rw [k.2.2.2.1]; exact A1.1) (State.isArrayOf_alike k.2.2.1.alike A1.2.1) A1.2.2 (inb_of S hj) (H.at (inb_of S hj) hv) (g := mkF m pc Ls (.int j :: .ref a :: st)) rfl rfl (hb k.2.2.2.2.2.1 hd) _ q) g
theorem s_baload (k : K p l e R s m args below meth c bytes own maxL ret nm T locs cells slots Z h n0) {a : Addr} {kc : ClassId} {z j : Int32} {vs : List Value} {dv v : Value} (hd : decode bytes pc = .ok (.baload, 1)) (A : Arv Z h a kc .byte z vs dv) (hj : ¬ j < 0 ∧ j < z) (hv : vs.getD j.toNatClampNeg dv = v) (hp : pc + 1 = pc') (g : Go p e below P T (mkF m pc' Ls (v :: st))) : Go p e below P T (mkF m pc Ls (.int j :: .ref a :: st)) := by
  subst hp
  obtain ⟨cl, A1, -, S, N, H, -⟩ := A
  exact Go.to (fun _ q => k.1.baloadBytes k.2.1 (by rw [k.2.2.2.1]; exact A1.1) (State.isArrayOf_alike k.2.2.1.alike A1.2.1) A1.2.2 (inb_of S hj) (H.at (inb_of S hj) hv) (g := mkF m pc Ls (.int j :: .ref a :: st)) rfl rfl (hb k.2.2.2.2.2.1 hd) _ q) g
theorem s_iaload (k : K p l e R s m args below meth c bytes own maxL ret nm T locs cells slots Z h n0) {a : Addr} {kc : ClassId} {z j : Int32} {vs : List Value} {dv v : Value} (hd : decode bytes pc = .ok (.iaload, 1)) (A : Arv Z h a kc .int z vs dv) (hj : ¬ j < 0 ∧ j < z) (hv : vs.getD j.toNatClampNeg dv = v) (hp : pc + 1 = pc') (g : Go p e below P T (mkF m pc' Ls (v :: st))) : Go p e below P T (mkF m pc Ls (.int j :: .ref a :: st)) := by
  subst hp
  obtain ⟨cl, A1, -, S, N, H, -⟩ := A
  exact Go.to (fun _ q => k.1.iaload k.2.1 (by rw [k.2.2.2.1]; exact A1.1) (State.isArrayOf_alike k.2.2.1.alike A1.2.1) A1.2.2 (inb_of S hj) (H.at (inb_of S hj) hv) (g := mkF m pc Ls (.int j :: .ref a :: st)) rfl rfl (hb k.2.2.2.2.2.1 hd) _ q) g
theorem s_aaload (k : K p l e R s m args below meth c bytes own maxL ret nm T locs cells slots Z h n0) {a : Addr} {kc : ClassId} {ty : FieldType} {z j : Int32} {vs : List Value} {dv v : Value} (hd : decode bytes pc = .ok (.aaload, 1)) (A : Arv Z h a kc ty z vs dv) (hty : ty.isReference = true) (hj : ¬ j < 0 ∧ j < z) (hv : vs.getD j.toNatClampNeg dv = v) (hp : pc + 1 = pc') (g : Go p e below P T (mkF m pc' Ls (v :: st))) : Go p e below P T (mkF m pc Ls (.int j :: .ref a :: st)) := by
  subst hp
  obtain ⟨cl, A1, -, S, N, H, -⟩ := A
  exact Go.to (fun _ q => k.1.aaload k.2.1 (by rw [k.2.2.2.1]; exact A1.1) (State.isArrayOf_alike k.2.2.1.alike A1.2.1) hty A1.2.2 (inb_of S hj) (H.at (inb_of S hj) hv) (g := mkF m pc Ls (.int j :: .ref a :: st)) rfl rfl (hb k.2.2.2.2.2.1 hd) _ q) g
theorem s_lastore (k : K p l e R s m args below meth c bytes own maxL ret nm T locs cells slots Z h n0) {a : Addr} {kc : ClassId} {z j : Int32} {vs : List Value} {dv : Value} {x : Int64} {i : Nat} (hd : decode bytes pc = .ok (.lastore, 1)) (A : Arv Z h a kc .long z vs dv) (hj : ¬ j < 0 ∧ j < z) (hi : j.toNatClampNeg = i) (hl : i < vs.length) (ha : n0 ≤ a) (hp : pc + 1 = pc')
    (g : ∀ T' h' L', K p l e R s m args below meth c bytes own maxL ret nm T' L' cells slots Z h' n0 → Wr h h' a i (.long x) → Arv Z h' a kc .long z (vs.set i (.long x)) dv → Go p e below P T' (mkF m pc' Ls st)) : Go p e below P T (mkF m pc Ls (.long x :: .int j :: .ref a :: st)) := by
  subst hp hi
  obtain ⟨cl, A1, q1, S, N, H, Gf⟩ := A
  obtain ⟨T', h', X', e', W, q⟩ := stJ k.1 k.2.1 k.2.2.1 k.2.2.2.1 A1 (inb_of S hj) (g := mkF m pc Ls (.long x :: .int j :: .ref a :: st)) rfl rfl (hb k.2.2.2.2.2.1 hd)
  exact Go.to q (g T' h' _ (k_hp k X' e' (Fr.snoc X' k.2.2.2.2.1 ha)) W (Arv.set A1 q1 S N H Gf rfl W _ rfl hl))
theorem s_iastore (k : K p l e R s m args below meth c bytes own maxL ret nm T locs cells slots Z h n0) {a : Addr} {kc : ClassId} {z j : Int32} {vs : List Value} {dv : Value} {x : Int32} {i : Nat} (hd : decode bytes pc = .ok (.iastore, 1)) (A : Arv Z h a kc .int z vs dv) (hj : ¬ j < 0 ∧ j < z) (hi : j.toNatClampNeg = i) (hl : i < vs.length) (ha : n0 ≤ a) (hp : pc + 1 = pc')
    (g : ∀ T' h' L', K p l e R s m args below meth c bytes own maxL ret nm T' L' cells slots Z h' n0 → Wr h h' a i (.int x) → Arv Z h' a kc .int z (vs.set i (.int x)) dv → Go p e below P T' (mkF m pc' Ls st)) : Go p e below P T (mkF m pc Ls (.int x :: .int j :: .ref a :: st)) := by
  subst hp hi
  obtain ⟨cl, A1, q1, S, N, H, Gf⟩ := A
  obtain ⟨T', h', X', e', W, q⟩ := stI k.1 k.2.1 k.2.2.1 k.2.2.2.1 A1 (inb_of S hj) (g := mkF m pc Ls (.int x :: .int j :: .ref a :: st)) rfl rfl (hb k.2.2.2.2.2.1 hd)
  exact Go.to q (g T' h' _ (k_hp k X' e' (Fr.snoc X' k.2.2.2.2.1 ha)) W (Arv.set A1 q1 S N H Gf rfl W _ rfl hl))
theorem s_bastore0 (k : K p l e R s m args below meth c bytes own maxL ret nm T locs cells slots Z h n0) {a : Addr} {kc : ClassId} {z j : Int32} {vs : List Value} {dv : Value} {x : Int32} {i : Nat} (hd : decode bytes pc = .ok (.bastore, 1)) (A : Arv Z h a kc .byte z vs dv) (hj : ¬ j < 0 ∧ j < z) (hi : j.toNatClampNeg = i) (hl : i < vs.length) (ha : n0 ≤ a) (hp : pc + 1 = pc')
    (g : ∀ T' h' L', K p l e R s m args below meth c bytes own maxL ret nm T' L' cells slots Z h' n0 → Wr h h' a i (.int x.toInt8.toInt32) → Arv Z h' a kc .byte z (vs.set i (.int x.toInt8.toInt32)) dv → Go p e below P T' (mkF m pc' Ls st)) : Go p e below P T (mkF m pc Ls (.int x :: .int j :: .ref a :: st)) := by
  subst hp hi
  obtain ⟨cl, A1, q1, S, N, H, Gf⟩ := A
  obtain ⟨T', h', X', e', W, q⟩ := stB k.1 k.2.1 k.2.2.1 k.2.2.2.1 A1 (inb_of S hj) (g := mkF m pc Ls (.int x :: .int j :: .ref a :: st)) rfl rfl (hb k.2.2.2.2.2.1 hd)
  exact Go.to q (g T' h' _ (k_hp k X' e' (Fr.snoc X' k.2.2.2.2.1 ha)) W (Arv.set A1 q1 S N H Gf (fits_nar_byte x) W _ rfl hl))
theorem s_bastore (k : K p l e R s m args below meth c bytes own maxL ret nm T locs cells slots Z h n0) {a : Addr} {kc : ClassId} {z j : Int32} {vs : List Value} {dv : Value} {x y : Int32} {i : Nat} (hd : decode bytes pc = .ok (.bastore, 1)) (A : Arv Z h a kc .byte z vs dv) (hj : ¬ j < 0 ∧ j < z) (hi : j.toNatClampNeg = i) (hl : i < vs.length) (hy : x.toInt8.toInt32 = y) (ha : n0 ≤ a) (hp : pc + 1 = pc')
    (g : ∀ T' h' L', K p l e R s m args below meth c bytes own maxL ret nm T' L' cells slots Z h' n0 → Wr h h' a i (.int y) → Arv Z h' a kc .byte z (vs.set i (.int y)) dv → Go p e below P T' (mkF m pc' Ls st)) : Go p e below P T (mkF m pc Ls (.int x :: .int j :: .ref a :: st)) := by
  subst hy
  exact s_bastore0 k hd A hj hi hl ha hp g
theorem s_aastore (k : K p l e R s m args below meth c bytes own maxL ret nm T locs cells slots Z h n0) {a : Addr} {kc : ClassId} {C : String} {z j : Int32} {vs : List Value} {dv v : Value} {i : Nat} (hd : decode bytes pc = .ok (.aastore, 1)) (A : Arv Z h a kc (.object C) z vs dv) (hj : ¬ j < 0 ∧ j < z) (hi : j.toNatClampNeg = i) (hl : i < vs.length) (O : Ovr Z kc C) (I : v = .null ∨ ∃ y, v = .ref y ∧ Ins Z h y C true) (ha : n0 ≤ a) (hp : pc + 1 = pc')
    (g : ∀ T' h' L', K p l e R s m args below meth c bytes own maxL ret nm T' L' cells slots Z h' n0 → Wr h h' a i v → Arv Z h' a kc (.object C) z (vs.set i v) dv → Go p e below P T' (mkF m pc' Ls st)) : Go p e below P T (mkF m pc Ls (v :: .int j :: .ref a :: st)) := by
  subst hp hi
  obtain ⟨cl, A1, q1, S, N, H, Gf⟩ := A
  have hs : Sto Z h a v := by
    rcases I with rfl | ⟨y, rfl, I⟩
    · exact Or.inl rfl
    · exact Sto.ofV A1 q1 O I
  have hfv : fits (.object C) v = true := by
    rcases I with rfl | ⟨y, rfl, I⟩ <;> rfl
  obtain ⟨T', h', X', e', W, q⟩ := stR k.1 k.2.1 k.2.2.1 k.2.2.2.1 A1 (inb_of S hj) rfl hs (g := mkF m pc Ls (v :: .int j :: .ref a :: st)) rfl rfl (hb k.2.2.2.2.2.1 hd)
  exact Go.to q (g T' h' _ (k_hp k X' e' (Fr.snoc X' k.2.2.2.2.1 ha)) W (Arv.set A1 q1 S N H Gf hfv W _ rfl hl))
theorem s_cast (k : K p l e R s m args below meth c bytes own maxL ret nm T locs cells slots Z h n0) {C : String} {index : Nat} {a : Addr} (hd : decode bytes pc = .ok (.checkcast index, 3)) (w : (Cond.classLink own index C).before a0 Z = true) (I : Ins Z h a C true) (hp : pc + 3 = pc')
    (g : ∀ T', K p l e R s m args below meth c bytes own maxL ret nm T' locs cells slots Z h n0 → Go p e below P T' (mkF m pc' Ls (.ref a :: st))) : Go p e below P T (mkF m pc Ls (.ref a :: st)) := by
  subst hp
  obtain ⟨T', X', e', q⟩ := castY k.1 k.2.1 k.2.2.1 k.2.2.2.2.2.2.1 w k.2.2.2.1 I (g := mkF m pc Ls (.ref a :: st)) rfl rfl (hb k.2.2.2.2.2.1 hd)
  exact Go.to q (g T' (k_hp k X' e' k.2.2.2.2.1))
theorem s_castNull (k : K p l e R s m args below meth c bytes own maxL ret nm T locs cells slots Z h n0) {index : Nat} (hd : decode bytes pc = .ok (.checkcast index, 3)) (hp : pc + 3 = pc') (g : Go p e below P T (mkF m pc' Ls (.null :: st))) : Go p e below P T (mkF m pc Ls (.null :: st)) := by
  subst hp
  exact Go.to (k.1.checkcastNull k.2.1 (g := mkF m pc Ls (.null :: st)) rfl rfl (hb k.2.2.2.2.2.1 hd)) g
theorem s_instY (k : K p l e R s m args below meth c bytes own maxL ret nm T locs cells slots Z h n0) {C : String} {index : Nat} {a : Addr} (hd : decode bytes pc = .ok (.instanceof index, 3)) (w : (Cond.classLink own index C).before a0 Z = true) (I : Ins Z h a C true) (hp : pc + 3 = pc')
    (g : ∀ T', K p l e R s m args below meth c bytes own maxL ret nm T' locs cells slots Z h n0 → Go p e below P T' (mkF m pc' Ls (.int 1 :: st))) : Go p e below P T (mkF m pc Ls (.ref a :: st)) := by
  subst hp
  obtain ⟨T', X', e', q⟩ := instY k.1 k.2.1 k.2.2.1 k.2.2.2.2.2.2.1 w k.2.2.2.1 I (g := mkF m pc Ls (.ref a :: st)) rfl rfl (hb k.2.2.2.2.2.1 hd)
  exact Go.to q (g T' (k_hp k X' e' k.2.2.2.2.1))
/-- the returns -/
theorem s_retV (k : K p l e R s m args below meth c bytes own maxL ret nm T locs cells slots Z h n0) {w : Value} {t : FieldType} {i : Instr} (hd : decode bytes pc = .ok (i, 1)) (hr : ret = some t) (hn : narrow t w = w)
    (hi : (i = .ireturn ∧ (t = .int ∨ t = .boolean ∨ t = .byte ∨ t = .char ∨ t = .short) ∧ ∃ z, w = .int z) ∨ (i = .lreturn ∧ t = .long ∧ ∃ z, w = .long z) ∨ (i = .dreturn ∧ t = .double ∧ ∃ z, w = .double z) ∨ (i = .freturn ∧ t = .float ∧ ∃ z, w = .float z) ∨ (i = .areturn ∧ t.isReference = true ∧ w.isRef = true))
    (hP : Pay s Q n0 cc ss P) (hc : cells ≤ cc) (hs : slots ≤ ss) (q : Q (some w) h) : Go p e below P T (mkF m pc Ls (w :: st)) := by
  obtain ⟨fs, hr', hrun, hended, hW, hsame⟩ := k.1.leave (v := some w) (fun z => by rw [k.2.2.2.2.2.2.2.2.1, hr] at z; cases z) k.2.2.2.2.2.2.2.2.2.2
  exact ⟨_, _, retOut k.1 k.2.1 (k.2.2.2.2.2.2.2.2.1.trans hr) hn hi (hb k.2.2.2.2.2.1 hd) hr', hrun, hended, hP _ _ _ _ q (show T.heap = h from k.2.2.2.1) k.2.2.2.2.1 ⟨⟨_, rfl⟩, hW, hsame.mono hc hs⟩⟩
theorem s_retI (k : K p l e R s m args below meth c bytes own maxL ret nm T locs cells slots Z h n0) {z : Int32} (hd : decode bytes pc = .ok (.ireturn, 1)) (hr : ret = some .int) (hP : Pay s Q n0 cc ss P) (hc : cells ≤ cc) (hs : slots ≤ ss) (q : Q (some (.int z)) h) : Go p e below P T (mkF m pc Ls (.int z :: st)) :=
  s_retV k hd hr rfl (Or.inl ⟨rfl, Or.inl rfl, z, rfl⟩) hP hc hs q
theorem s_retL (k : K p l e R s m args below meth c bytes own maxL ret nm T locs cells slots Z h n0) {z : Int64} (hd : decode bytes pc = .ok (.lreturn, 1)) (hr : ret = some .long) (hP : Pay s Q n0 cc ss P) (hc : cells ≤ cc) (hs : slots ≤ ss) (q : Q (some (.long z)) h) : Go p e below P T (mkF m pc Ls (.long z :: st)) :=
  s_retV k hd hr rfl (Or.inr (Or.inl ⟨rfl, rfl, z, rfl⟩)) hP hc hs q
theorem s_retA (k : K p l e R s m args below meth c bytes own maxL ret nm T locs cells slots Z h n0) {w : Value} {t : FieldType} (hd : decode bytes pc = .ok (.areturn, 1)) (hr : ret = some t) (ht : t.isReference = true) (hw : w.isRef = true) (hP : Pay s Q n0 cc ss P) (hc : cells ≤ cc) (hs : slots ≤ ss) (q : Q (some w) h) : Go p e below P T (mkF m pc Ls (w :: st)) :=
  s_retV k hd hr (by cases t <;> simp [FieldType.isReference] at ht <;> rfl) (Or.inr (Or.inr (Or.inr (Or.inr ⟨rfl, ht, hw⟩)))) hP hc hs q
theorem s_retZ (k : K p l e R s m args below meth c bytes own maxL ret nm T locs cells slots Z h n0) {z : Int32} (hd : decode bytes pc = .ok (.ireturn, 1)) (hr : ret = some .boolean) (hz : z &&& 1 = z) (hP : Pay s Q n0 cc ss P) (hc : cells ≤ cc) (hs : slots ≤ ss) (q : Q (some (.int z)) h) : Go p e below P T (mkF m pc Ls (.int z :: st)) :=
  s_retV k hd hr (show Value.int (z &&& 1) = .int z by rw [hz]) (Or.inl ⟨rfl, Or.inr (Or.inl rfl), z, rfl⟩) hP hc hs q
theorem s_ret (k : K p l e R s m args below meth c bytes own maxL ret nm T locs cells slots Z h n0) (hd : decode bytes pc = .ok (.return_, 1)) (hr : ret = none) (hP : Pay s Q n0 cc ss P) (hc : cells ≤ cc) (hs : slots ≤ ss) (q : Q none h) : Go p e below P T (mkF m pc Ls []) := by
  obtain ⟨fs, hr', hrun, hended, hW, hsame⟩ := k.1.leave (v := none) (fun _ => rfl) k.2.2.2.2.2.2.2.2.2.2
  exact ⟨_, _, k.1.returnOut k.2.1 (k.2.2.2.2.2.2.2.2.1.trans hr) (hb k.2.2.2.2.2.1 hd) hr', hrun, hended, hP _ _ _ _ q (show T.heap = h from k.2.2.2.1) k.2.2.2.2.1 ⟨⟨_, rfl⟩, hW, hsame.mono hc hs⟩⟩
end Own

/-- a method's contract at one array of arguments and one heap -/
def Met (l : Launch) (Z : State) (y : MethodName) (bytes : ByteArray) (maxL : Nat) (ret : Option FieldType) (rm : Room) (n0 : Nat) (as' : Array Value) (h : Heap) (Q : Option Value → Heap → Prop) : Prop :=
  ∀ ws : List Jvm.Cond, MetFree l y (head1 (Jvm.Cond.code y bytes maxL ret :: ws) rm) (fun a U => a = as' ∧ Z.Warmed39 U.vm ∧ U.heap = h) (fun _ _ _ _ _ => True) (fun _ U o U' => ∃ v L, o = .returned v ∧ (Q v U'.heap ∧ Fr n0 L) ∧ FrameEnd U o U' L rm.cells rm.slots)
theorem Met.of {l : Launch} {Z : State} {y : MethodName} {bytes : ByteArray} {maxL : Nat} {ret : Option FieldType} {rm : Room} {n0 : Nat} {as' : Array Value} {h : Heap} {Q : Option Value → Heap → Prop} {Ls : Array Slot} (hpl : plainFor y = true) (hef : ∀ m, entryFrame m as' maxL = mkF m 0 Ls [])
    (body : ∀ p e s m below meth c T P, Pay s Q n0 rm.cells rm.slots P → K p l e rm s m as' below meth c bytes y.cls maxL ret y.name T [] 0 0 Z h n0 → Go p e below P T (mkF m 0 Ls [])) : Met l Z y bytes maxL ret rm n0 as' h Q := by
  intro ws
  refine MetFree.of_bodySF hpl hisR ?_
  intro p e s m args below meth c s₁ Bd hml0 hP hK
  obtain ⟨rfl, hZ, hh⟩ := hP
  have X0 : Stand p l e rm s m args below meth c s₁ [] 0 0 := Stand.of_body Bd
  rw [hef m]
  exact body p e s m below meth c s₁ _ (fun v h L s₂ q1 q2 q3 q4 => ⟨v, L, rfl, ⟨q2.symm ▸ q1, q3⟩, q4⟩) ⟨X0, Bd.exec, hZ, by rw [← hh, Bd.state]; rfl, Fr.nil n0, Bd.bytes, findClass_of_methodNamed Bd.named, hml0, Bd.returns, (name_of_methodNamed Bd.named Bd.method).1, BodyLoose.notSynchronized Bd⟩
section Calls
variable {p : Program} {l : Launch} {e : Env} {R : Room} {s : State} {m : MethodId} {args : Array Value} {below : List Frame} {meth : Method} {c : Code} {bytes : ByteArray} {own : String} {maxL : Nat} {ret : Option FieldType} {nm : String} {T : State} {locs : List Loc} {cells slots : Nat} {Z : State} {h : Heap} {n0 : Nat} {Q : Option Value → Heap → Prop} {P : State → Outcome → Prop} {cc ss : Nat} {a0 : Array Value} {Ls : Array Slot} {st rest : List Value} {pc pc' : Nat}
theorem wsum (W : Nat) (st : List Value) (hW : (st.map fun v => v.category).sum ≤ W) : 2 * 0 + (st.map fun v => v.category).sum ≤ W := by omega
/-- a static call -/
theorem s_callS (k : K p l e R s m args below meth c bytes own maxL ret nm T locs cells slots Z h n0) {index : Nat} {y : MethodName} {yb : ByteArray} {ym : Nat} {yr : Option FieldType} {rm : Room} {Qy : Option Value → Heap → Prop} {ps : List FieldType} (argsL : List Value) (W : Nat) (hd : decode bytes pc = .ok (.invokestatic index, 3)) (w1 : (Cond.methodLink own index y).before a0 Z = true) (w2 : (Cond.static y).before a0 Z = true) (w3 : (Cond.initialized y.cls).before a0 Z = true) (w4 : (Cond.code y yb ym yr).before a0 Z = true)
    (hy : y.cls ≠ "java/lang/invoke/MethodHandle" ∧ y.cls ≠ "java/lang/invoke/VarHandle") (M : Met l Z y yb ym yr rm n0 argsL.toArray h Qy) (hf : rm.frames + 1 ≤ R.frames) (hl : W + (ym + 11) + rm.locals ≤ R.locals) (hpd : parseMethodDescriptor y.desc = some ⟨ps, yr⟩) (hlen : argsL.length = ps.length) (hW : (st.map fun v => v.category).sum ≤ W) (hsz : Ls.size = maxL) (hc : cells + rm.cells ≤ R.cells) (hs : slots + rm.slots ≤ R.slots) (hst : rest = argsL.reverse ++ st) (hp : pc + 3 = pc')
    (g : ∀ v T' h' L', K p l e R s m args below meth c bytes own maxL ret nm T' L' (cells + rm.cells) (slots + rm.slots) Z h' n0 → Qy v h' → Go p e below P T' (mkF m pc' Ls (v.toList ++ st))) : Go p e below P T (mkF m pc Ls rest) := by
  subst hp hst
  obtain ⟨v, vm1, ⟨T', L', k', n'⟩, -, X', ⟨L, hQ, l1, l2, l3⟩, q⟩ := Jvm.LawKit.callS k.1 k.2.1 k.2.2.2.2.2.2.1 (mvT k.2.2.1 w1) (mvT k.2.2.1 w2) (mvT k.2.2.1 w3) (mvT k.2.2.1 w4) hy (backOf (W := W) (Q := fun v h L => Qy v h ∧ Fr n0 L) (M []) k.2.2.1 w4 w3 hf hl) (g := mkF m pc Ls (argsL.reverse ++ st)) rfl (hsz.trans k.2.2.2.2.2.2.2.1.symm) (argsL := argsL) (rest := st) (lenOf hpd hlen) rfl (wsum W st hW) (hb k.2.2.2.2.2.1 hd) (fun _ _ => ⟨rfl, k.2.2.2.1, hc, hs⟩)
  dsimp only [Pt.U, Pt.locs, Pt.cells, Pt.slots] at X' l1 l2 l3 q hQ
  subst l1 l2 l3
  exact Go.to q (g v T' _ _ (k_hp k X' rfl (Fr.app k.2.2.2.2.1 hQ.2)) hQ.1)
/-- a constructor -/
theorem s_callI (k : K p l e R s m args below meth c bytes own maxL ret nm T locs cells slots Z h n0) {index : Nat} {y : MethodName} {yb : ByteArray} {ym : Nat} {rm : Room} {Qy : Option Value → Heap → Prop} {ps : List FieldType} {a : Addr} (argsL : List Value) (W : Nat) (hd : decode bytes pc = .ok (.invokespecial index, 3)) (hy1 : y.name = "<init>") (w1 : (Cond.methodLink own index y).before a0 Z = true) (w2 : (Cond.instanceMethod y).before a0 Z = true) (w3 : (Cond.initialized y.cls).before a0 Z = true) (w4 : (Cond.code y yb ym none).before a0 Z = true)
    (hy : y.cls ≠ "java/lang/invoke/MethodHandle" ∧ y.cls ≠ "java/lang/invoke/VarHandle") (M : Met l Z y yb ym none rm n0 (.ref a :: argsL).toArray h Qy) (hf : rm.frames + 1 ≤ R.frames) (hl : W + (ym + 11) + rm.locals ≤ R.locals) (hpd : parseMethodDescriptor y.desc = some ⟨ps, none⟩) (hlen : argsL.length = ps.length) (hW : (st.map fun v => v.category).sum ≤ W) (hsz : Ls.size = maxL) (hc : cells + rm.cells ≤ R.cells) (hs : slots + rm.slots ≤ R.slots) (hst : rest = argsL.reverse ++ .ref a :: st) (hp : pc + 3 = pc')
    (g : ∀ v T' h' L', K p l e R s m args below meth c bytes own maxL ret nm T' L' (cells + rm.cells) (slots + rm.slots) Z h' n0 → Qy v h' → Go p e below P T' (mkF m pc' Ls (v.toList ++ st))) : Go p e below P T (mkF m pc Ls rest) := by
  subst hp hst
  obtain ⟨v, vm1, ⟨T', L', k', n'⟩, -, X', ⟨L, hQ, l1, l2, l3⟩, q⟩ := k.1.specialBack k.2.1 hy1 k.2.2.2.2.2.2.1 (mvT k.2.2.1 w1) (mvT k.2.2.1 w2) (mvT k.2.2.1 w4) hy (backOf (W := W) (Q := fun v h L => Qy v h ∧ Fr n0 L) (M []) k.2.2.1 w4 w3 hf hl) (g := mkF m pc Ls (argsL.reverse ++ .ref a :: st)) rfl (hsz.trans k.2.2.2.2.2.2.2.1.symm) (Steps.refl _) (a := a) (argsL := argsL) (rest := st) (lenOf hpd hlen) rfl (wsum W st hW) (hb k.2.2.2.2.2.1 hd) (fun _ _ => ⟨rfl, k.2.2.2.1, hc, hs⟩)
  dsimp only [Pt.U, Pt.locs, Pt.cells, Pt.slots] at X' l1 l2 l3 q hQ
  subst l1 l2 l3
  exact Go.tr q (g v T' _ _ (k_hp k X' rfl (Fr.app k.2.2.2.2.1 hQ.2)) hQ.1)
/-- an instance method -/
theorem s_callV (k : K p l e R s m args below meth c bytes own maxL ret nm T locs cells slots Z h n0) {index : Nat} {C : String} {y : MethodName} {yb : ByteArray} {ym : Nat} {yr : Option FieldType} {rm : Room} {Qy : Option Value → Heap → Prop} {ps : List FieldType} {a : Addr} (argsL : List Value) (W : Nat) (hd : decode bytes pc = .ok (.invokevirtual index, 3)) (w1 : (Cond.methodLink own index y).before a0 Z = true) (w2 : (Cond.declares y).before a0 Z = true) (w5 : (Cond.selects C y y).before a0 Z = true) (w6 : (Cond.instanceMethod y).before a0 Z = true) (w3 : (Cond.initialized y.cls).before a0 Z = true) (w4 : (Cond.code y yb ym yr).before a0 Z = true)
    (hy : y.cls ≠ "java/lang/invoke/MethodHandle" ∧ y.cls ≠ "java/lang/invoke/VarHandle") (E : Exa Z h a C) (M : Met l Z y yb ym yr rm n0 (.ref a :: argsL).toArray h Qy) (hf : rm.frames + 1 ≤ R.frames) (hl : W + (ym + 11) + rm.locals ≤ R.locals) (hpd : parseMethodDescriptor y.desc = some ⟨ps, yr⟩) (hlen : argsL.length = ps.length) (hW : (st.map fun v => v.category).sum ≤ W) (hsz : Ls.size = maxL) (hc : cells + rm.cells ≤ R.cells) (hs : slots + rm.slots ≤ R.slots) (hst : rest = argsL.reverse ++ .ref a :: st) (hp : pc + 3 = pc')
    (g : ∀ v T' h' L', K p l e R s m args below meth c bytes own maxL ret nm T' L' (cells + rm.cells) (slots + rm.slots) Z h' n0 → Qy v h' → Go p e below P T' (mkF m pc' Ls (v.toList ++ st))) : Go p e below P T (mkF m pc Ls rest) := by
  subst hp hst
  obtain ⟨cq, kq, qa, qb, qc⟩ := isOf k.2.2.1 k.2.2.2.1 E
  obtain ⟨v, vm1, ⟨T', L', k', n'⟩, -, X', ⟨L, hQ, l1, l2, l3⟩, q⟩ := k.1.virtualBack k.2.1 (y := y) (z := y) k.2.2.2.2.2.2.1 (mvT k.2.2.1 w1) (mvT k.2.2.1 w2) (notFace_of_selects (args := #[]) (mvT k.2.2.1 w5)) (mvT k.2.2.1 w5) (mvT k.2.2.1 w6) hy (backOf (W := W) (Q := fun v h L => Qy v h ∧ Fr n0 L) (M []) k.2.2.1 w4 w3 hf hl) qa qc (g := mkF m pc Ls (argsL.reverse ++ .ref a :: st)) rfl (hsz.trans k.2.2.2.2.2.2.2.1.symm) (Steps.refl _) (argsL := argsL) (rest := st) (lenOf hpd hlen) rfl (wsum W st hW) (hb k.2.2.2.2.2.1 hd) (fun _ _ => ⟨rfl, k.2.2.2.1, hc, hs⟩)
  dsimp only [Pt.U, Pt.locs, Pt.cells, Pt.slots] at X' l1 l2 l3 q hQ
  subst l1 l2 l3
  exact Go.tr q (g v T' _ _ (k_hp k X' rfl (Fr.app k.2.2.2.2.1 hQ.2)) hQ.1)
/-- a private method, called by invokevirtual -/
theorem s_callP (k : K p l e R s m args below meth c bytes own maxL ret nm T locs cells slots Z h n0) {index : Nat} {y : MethodName} {yb : ByteArray} {ym : Nat} {yr : Option FieldType} {rm : Room} {Qy : Option Value → Heap → Prop} {ps : List FieldType} {a : Addr} (argsL : List Value) (W : Nat) (hd : decode bytes pc = .ok (.invokevirtual index, 3)) (w1 : (Cond.methodLink own index y).before a0 Z = true) (w5 : (Cond.selects y.cls y y).before a0 Z = true) (w6 : (Cond.instanceMethod y).before a0 Z = true) (w7 : (Cond.privateMethod y).before a0 Z = true) (w3 : (Cond.initialized y.cls).before a0 Z = true) (w4 : (Cond.code y yb ym yr).before a0 Z = true)
    (hy : y.cls ≠ "java/lang/invoke/MethodHandle" ∧ y.cls ≠ "java/lang/invoke/VarHandle") (E : Exa Z h a y.cls) (M : Met l Z y yb ym yr rm n0 (.ref a :: argsL).toArray h Qy) (hf : rm.frames + 1 ≤ R.frames) (hl : W + (ym + 11) + rm.locals ≤ R.locals) (hpd : parseMethodDescriptor y.desc = some ⟨ps, yr⟩) (hlen : argsL.length = ps.length) (hW : (st.map fun v => v.category).sum ≤ W) (hsz : Ls.size = maxL) (hc : cells + rm.cells ≤ R.cells) (hs : slots + rm.slots ≤ R.slots) (hst : rest = argsL.reverse ++ .ref a :: st) (hp : pc + 3 = pc')
    (g : ∀ v T' h' L', K p l e R s m args below meth c bytes own maxL ret nm T' L' (cells + rm.cells) (slots + rm.slots) Z h' n0 → Qy v h' → Go p e below P T' (mkF m pc' Ls (v.toList ++ st))) : Go p e below P T (mkF m pc Ls rest) := by
  subst hp hst
  obtain ⟨cq, qa, qb⟩ := E.cell
  obtain ⟨v, vm1, ⟨T', L', k', n'⟩, -, X', ⟨L, hQ, l1, l2, l3⟩, q⟩ := k.1.privateBack k.2.1 (y := y) k.2.2.2.2.2.2.1 (mvT k.2.2.1 w1) (mvT k.2.2.1 w6) (mvT k.2.2.1 w5) (Cond.privateMethod_at (mvP k.2.2.1 w7 (args := #[]))) (mvT k.2.2.1 w4) hy (backOf (W := W) (Q := fun v h L => Qy v h ∧ Fr n0 L) (M []) k.2.2.1 w4 w3 hf hl) (g := mkF m pc Ls (argsL.reverse ++ .ref a :: st)) rfl (hsz.trans k.2.2.2.2.2.2.2.1.symm) (Steps.refl _) (a := a) (by rw [k.2.2.2.1]; exact qa) qb (argsL := argsL) (rest := st) (lenOf hpd hlen) rfl (wsum W st hW) (hb k.2.2.2.2.2.1 hd) (fun _ _ => ⟨rfl, k.2.2.2.1, hc, hs⟩)
  dsimp only [Pt.U, Pt.locs, Pt.cells, Pt.slots] at X' l1 l2 l3 q hQ
  subst l1 l2 l3
  exact Go.tr q (g v T' _ _ (k_hp k X' rfl (Fr.app k.2.2.2.2.1 hQ.2)) hQ.1)
end Calls
end Jvm.OwnGo
namespace Jvm.Pilot.@@N@@
open Jvm Jvm.ClassFile Sem Op Lib Jvm.Free Jvm.Stand Jvm.LawKit Jvm.RoadKit Bundle Jvm.OwnGo Jvm.Pilot.@@N@@.Jvm.D
theorem d2_0 : decode prog_10_method_1_code 0 = .ok (.aload_n 0, 1) := by decide +kernel
theorem d2_1 : decode prog_10_method_1_code 1 = .ok (.invokespecial 5, 3) := by decide +kernel
theorem d2_4 : decode prog_10_method_1_code 4 = .ok (.aload_n 0, 1) := by decide +kernel
theorem d2_5 : decode prog_10_method_1_code 5 = .ok (.lload_n 1, 1) := by decide +kernel
theorem d2_6 : decode prog_10_method_1_code 6 = .ok (.putfield 11, 3) := by decide +kernel
theorem d2_9 : decode prog_10_method_1_code 9 = .ok (.aload_n 0, 1) := by decide +kernel
theorem d2_10 : decode prog_10_method_1_code 10 = .ok (.iload_n 3, 1) := by decide +kernel
theorem d2_11 : decode prog_10_method_1_code 11 = .ok (.putfield 17, 3) := by decide +kernel
theorem d2_14 : decode prog_10_method_1_code 14 = .ok (.return_, 1) := by decide +kernel
theorem pn_2_rmi : plainFor (⟨"com/example/herring/herring/Shape", "<init>", "(JI)V"⟩ : MethodName) = true := plainFor_of_name (by first | (simp [plainName, overriddenIn]; done) | decide +kernel)
theorem ef_rmi {a : Addr} {p1 : Int64} {p2 : Int32} (m : MethodId) : entryFrame m #[.ref a, .long p1, .int p2] 4 = mkF m 0 #[.val (.ref a), .val (.long p1), .second, .val (.int p2)] [] := by first | (simp [entryFrame, mkF, argsToLocals, Value.category]; done) | rfl
set_option maxRecDepth 65536 in
set_option maxHeartbeats 40000000 in
theorem rmi (l : Launch) (Z : State) (a0 : Array Value) (hw : ∀ d ∈ tables_1, d.before a0 Z = true) (a : Addr) (p1 : Int64) (p2 : Int32) (h0 : Heap) (n0 : Nat) (Z0 : n0 ≤ h0.size) (E_a : Exa Z h0 a "com/example/herring/herring/Shape") (F_bitCount : Fld Z h0 a "com/example/herring/herring/Shape" "bitCount" "J" (.long (0 : Int64))) (F_hashCount : Fld Z h0 a "com/example/herring/herring/Shape" "hashCount" "I" (.int (0 : Int32))) (g_a : n0 ≤ a) :
    Met l Z (⟨"com/example/herring/herring/Shape", "<init>", "(JI)V"⟩ : MethodName) prog_10_method_1_code 4 none ({ frames := 1, cells := 0, slots := 0, locals := 16 } : Room) n0 #[.ref a, .long p1, .int p2] h0 (fun v h => v = none ∧ Keep h0 h [a] ∧ Fld Z h a "com/example/herring/herring/Shape" "bitCount" "J" (.long p1) ∧ Fld Z h a "com/example/herring/herring/Shape" "hashCount" "I" (.int p2)) := by
  have Kp0 := Keep.refl h0 [a]
  refine Met.of (Ls := #[.val (.ref a), .val (.long p1), .second, .val (.int p2)]) pn_2_rmi (fun m => ef_rmi m) fun p e s m below meth c T0 P hP k0 => ?_
  refine s_aloadN k0 d2_0 rfl rfl (pc' := 1) rfl ?_
  obtain ⟨T1, X1, e1, q1⟩ := initO k0.1 k0.2.1 k0.2.2.1 k0.2.2.2.2.2.2.1 (hw _ (List.mem_of_getElem? (i := 12) rfl)) (hw _ (List.mem_of_getElem? (i := 13) rfl)) (hw _ (List.mem_of_getElem? (i := 14) rfl)) k0.2.2.2.1 (g := (mkF m 1 #[.val (.ref a), .val (.long p1), .second, .val (.int p2)] [.ref a])) rfl k0.2.2.2.2.2.2.2.1.symm rfl (hb k0.2.2.2.2.2.1 d2_1) (by decide) (W := 0) (by show 2 * 0 + _ ≤ _; exact Nat.le_of_eq rfl) (by decide)
  refine Go.to q1 ?_
  have k1 := k_hp k0 X1 e1 k0.2.2.2.2.1
  show Go p e below P T1 (mkF m 4 #[.val (.ref a), .val (.long p1), .second, .val (.int p2)] [])
  refine s_aloadN k1 d2_4 rfl rfl (pc' := 5) rfl ?_
  refine s_lloadN k1 d2_5 rfl (pc' := 6) rfl ?_
  refine s_put k1 d2_6 (host := "") (Or.inl (hw _ (List.mem_of_getElem? (i := 15) rfl))) Via.refl F_bitCount E_a (Or.inr ⟨(hw _ (List.mem_of_getElem? (i := 16) rfl)), rfl, rfl⟩) (hw _ (List.mem_of_getElem? (i := 8) rfl)) (ty := .long) (by decide) rfl rfl g_a (pc' := 9) rfl fun T2 h2 L2 k2 W2 => ?_
  have F3_a_bitCount := F_bitCount.same W2
  have F4_a_hashCount := F_hashCount.other W2 (Or.inr (slot_ne (Or.inr (hw _ (List.mem_of_getElem? (i := 18) rfl))) (Or.inr (hw _ (List.mem_of_getElem? (i := 16) rfl))) (by decide) (t := .int) (t' := .long) (by decide) (by decide)))
  have E5_a := E_a.wr W2
  have Z6 := Nat.le_trans Z0 (Keep.of_wr W2).1
  have Kp7 := Kp0.wr W2 (Or.inl (List.mem_of_getElem? (i := 0) rfl))
  refine s_aloadN k2 d2_9 rfl rfl (pc' := 10) rfl ?_
  refine s_iloadN k2 d2_10 rfl (pc' := 11) rfl ?_
  refine s_put k2 d2_11 (host := "") (Or.inl (hw _ (List.mem_of_getElem? (i := 17) rfl))) Via.refl F4_a_hashCount E5_a (Or.inr ⟨(hw _ (List.mem_of_getElem? (i := 18) rfl)), rfl, rfl⟩) (hw _ (List.mem_of_getElem? (i := 8) rfl)) (ty := .int) (by decide) rfl rfl g_a (pc' := 14) rfl fun T8 h8 L8 k8 W8 => ?_
  have F9_a_bitCount := F3_a_bitCount.other W8 (Or.inr (slot_ne (Or.inr (hw _ (List.mem_of_getElem? (i := 16) rfl))) (Or.inr (hw _ (List.mem_of_getElem? (i := 18) rfl))) (by decide) (t := .long) (t' := .int) (by decide) (by decide)))
  have F10_a_hashCount := F4_a_hashCount.same W8
  have E11_a := E5_a.wr W8
  have Z12 := Nat.le_trans Z6 (Keep.of_wr W8).1
  have Kp13 := Kp7.wr W8 (Or.inl (List.mem_of_getElem? (i := 0) rfl))
  exact s_ret k8 d2_14 rfl hP (by decide) (by decide) ⟨rfl, Kp13, F9_a_bitCount, F10_a_hashCount⟩
theorem d1_0 : decode prog_10_method_5_code 0 = .ok (.lload_n 0, 1) := by decide +kernel
theorem d1_1 : decode prog_10_method_5_code 1 = .ok (.lconst 1, 1) := by decide +kernel
theorem d1_2 : decode prog_10_method_5_code 2 = .ok (.lcmp, 1) := by decide +kernel
theorem d1_3 : decode prog_10_method_5_code 3 = .ok (.ifCond .lt 11, 3) := by decide +kernel
theorem d1_6 : decode prog_10_method_5_code 6 = .ok (.lload_n 0, 1) := by decide +kernel
theorem d1_7 : decode prog_10_method_5_code 7 = .ok (.ldc2_w 75, 3) := by decide +kernel
theorem d1_10 : decode prog_10_method_5_code 10 = .ok (.lcmp, 1) := by decide +kernel
theorem d1_11 : decode prog_10_method_5_code 11 = .ok (.ifCond .le 17, 3) := by decide +kernel
theorem d1_28 : decode prog_10_method_5_code 28 = .ok (.iload_n 2, 1) := by decide +kernel
theorem d1_29 : decode prog_10_method_5_code 29 = .ok (.iconst 1, 1) := by decide +kernel
theorem d1_30 : decode prog_10_method_5_code 30 = .ok (.if_icmp .lt 10, 3) := by decide +kernel
theorem d1_33 : decode prog_10_method_5_code 33 = .ok (.iload_n 2, 1) := by decide +kernel
theorem d1_34 : decode prog_10_method_5_code 34 = .ok (.sipush 255, 3) := by decide +kernel
theorem d1_37 : decode prog_10_method_5_code 37 = .ok (.if_icmp .le 17, 3) := by decide +kernel
theorem d1_54 : decode prog_10_method_5_code 54 = .ok (.new 12, 3) := by decide +kernel
theorem d1_57 : decode prog_10_method_5_code 57 = .ok (.dup, 1) := by decide +kernel
theorem d1_58 : decode prog_10_method_5_code 58 = .ok (.lload_n 0, 1) := by decide +kernel
theorem d1_59 : decode prog_10_method_5_code 59 = .ok (.iload_n 2, 1) := by decide +kernel
theorem d1_60 : decode prog_10_method_5_code 60 = .ok (.invokespecial 59, 3) := by decide +kernel
theorem d1_63 : decode prog_10_method_5_code 63 = .ok (.areturn, 1) := by decide +kernel
theorem pd__28JI_29V : parseMethodDescriptor "(JI)V" = some ⟨[.long, .int], none⟩ := by decide +kernel
theorem pn_1_rmx : plainFor (⟨"com/example/herring/herring/Shape", "exact", "(JI)Lcom/example/herring/herring/Shape;"⟩ : MethodName) = true := plainFor_of_name (by first | (simp [plainName, overriddenIn]; done) | decide +kernel)
theorem ef_rmx {p1 : Int64} {p2 : Int32} (m : MethodId) : entryFrame m #[.long p1, .int p2] 3 = mkF m 0 #[.val (.long p1), .second, .val (.int p2)] [] := by first | (simp [entryFrame, mkF, argsToLocals, Value.category]; done) | rfl
set_option maxRecDepth 65536 in
set_option maxHeartbeats 40000000 in
theorem rmx (l : Launch) (Z : State) (a0 : Array Value) (hw : ∀ d ∈ tables_1, d.before a0 Z = true) (p1 : Int64) (p2 : Int32) (h0 : Heap) (n0 : Nat) (Z0 : n0 ≤ h0.size) (hp0 : ¬ p1 < (1 : Int64)) (hp1 : ¬ (137438952896 : Int64) < p1) (hp2 : ¬ p2 < (1 : Int32)) (hp3 : ¬ (255 : Int32) < p2) :
    Met l Z (⟨"com/example/herring/herring/Shape", "exact", "(JI)Lcom/example/herring/herring/Shape;"⟩ : MethodName) prog_10_method_5_code 3 (some (.object "com/example/herring/herring/Shape")) ({ frames := 2, cells := 1, slots := 2, locals := 48 } : Room) n0 #[.long p1, .int p2] h0 (fun v h => ∃ b, v = some (.ref b) ∧ h0.size ≤ b ∧ Keep h0 h [] ∧ Exa Z h b "com/example/herring/herring/Shape" ∧ Fld Z h b "com/example/herring/herring/Shape" "bitCount" "J" (.long p1) ∧ Fld Z h b "com/example/herring/herring/Shape" "hashCount" "I" (.int p2)) := by
  have Kp0 := Keep.refl h0 []
  refine Met.of (Ls := #[.val (.long p1), .second, .val (.int p2)]) pn_1_rmx (fun m => ef_rmx m) fun p e s m below meth c T0 P hP k0 => ?_
  refine s_lloadN k0 d1_0 rfl (pc' := 1) rfl ?_
  refine s_lconst k0 (z := 1) d1_1 (by decide) (pc' := 2) rfl ?_
  refine s_lcmp_lt k0 d1_2 rfl d1_3 (by decide) (pc' := 14) (by decide) (pc3 := 6) rfl (fun hc2 => absurd hc2 hp0) (fun hc2 => ?_)
  refine s_lloadN k0 d1_6 rfl (pc' := 7) rfl ?_
  refine s_ldcL k0 d1_7 (hw _ (List.mem_of_getElem? (i := 6) rfl)) (pc' := 10) rfl ?_
  refine s_lcmp_le k0 d1_10 rfl d1_11 (by decide) (pc' := 28) (by decide) (pc3 := 14) rfl (fun hc10 => absurd hc10 hp1) (fun hc10 => ?_)
  refine s_iloadN k0 d1_28 rfl (pc' := 29) rfl ?_
  refine s_iconst k0 (z := 1) d1_29 (by decide) (pc' := 30) rfl ?_
  refine s_icmp_lt k0 d1_30 (by decide) (pc' := 40) (by decide) (pc3 := 33) rfl (fun hc30 => absurd hc30 hp2) (fun hc30 => ?_)
  refine s_iloadN k0 d1_33 rfl (pc' := 34) rfl ?_
  refine s_sipush k0 (z := 255) d1_34 (by decide) (pc' := 37) rfl ?_
  refine s_icmp_le k0 d1_37 (by decide) (pc' := 54) (by decide) (pc3 := 40) rfl (fun hc37 => absurd hc37 hp3) (fun hc37 => ?_)
  refine s_new k0 d1_54 (hw _ (List.mem_of_getElem? (i := 7) rfl)) (hw _ (List.mem_of_getElem? (i := 8) rfl)) (hw _ (List.mem_of_getElem? (i := 4) rfl)) (by decide) (by decide) (pc' := 57) rfl fun T1 h1 b1 q1 k1 X1 E1 D1 => ?_
  have g_b1 : n0 ≤ b1 := Nat.le_trans Z0 (Nat.le_of_eq q1.symm)
  have sz_b1 : h0.size ≤ b1 := Nat.le_trans Kp0.1 (Nat.le_of_eq q1.symm)
  have Z2 := Nat.le_trans Z0 X1.1
  have Kp3 := Kp0.ext X1
  have F1_b1_bitCount : Fld Z h1 b1 "com/example/herring/herring/Shape" "bitCount" "J" (.long (0 : Int64)) := D1 (Or.inr (hw _ (List.mem_of_getElem? (i := 16) rfl))) (ty := .long) (by decide)
  have F1_b1_hashCount : Fld Z h1 b1 "com/example/herring/herring/Shape" "hashCount" "I" (.int (0 : Int32)) := D1 (Or.inr (hw _ (List.mem_of_getElem? (i := 18) rfl))) (ty := .int) (by decide)
  refine s_dup k1 d1_57 rfl (pc' := 58) rfl ?_
  refine s_lloadN k1 d1_58 rfl (pc' := 59) rfl ?_
  refine s_iloadN k1 d1_59 rfl (pc' := 60) rfl ?_
  refine s_callI k1 [.long p1, .int p2] 1 d1_60 rfl (hw _ (List.mem_of_getElem? (i := 9) rfl)) (hw _ (List.mem_of_getElem? (i := 10) rfl)) (hw _ (List.mem_of_getElem? (i := 4) rfl)) (hw _ (List.mem_of_getElem? (i := 11) rfl)) (by decide) (rmi l Z a0 hw b1 p1 p2 h1 n0 Z2 E1 F1_b1_bitCount F1_b1_hashCount g_b1) (by decide) (by decide) pd__28JI_29V rfl (Nat.le_of_eq rfl) rfl (by decide) (by decide) rfl (pc' := 63) rfl fun v4 T4 h4 L4 k4 Qv4 => ?_
  obtain ⟨rfl, Kc4, G4_0, G4_1⟩ := Qv4
  have E5_b1 := E1.keep Kc4
  have Z6 := Nat.le_trans Z2 Kc4.1
  have Kp7 := Kp3.trans Kc4 (allS (Or.inr sz_b1) all0)
  show Go p e below P T4 (mkF m 63 #[.val (.long p1), .second, .val (.int p2)] [.ref b1])
  exact s_retA k4 d1_63 rfl rfl rfl hP (by decide) (by decide) ⟨b1, rfl, sz_b1, Kp7, E5_b1, G4_0, G4_1⟩
theorem d4_0 : decode prog_10_method_6_code 0 = .ok (.aload_n 0, 1) := by decide +kernel
theorem d4_1 : decode prog_10_method_6_code 1 = .ok (.getfield 11, 3) := by decide +kernel
theorem d4_4 : decode prog_10_method_6_code 4 = .ok (.lreturn, 1) := by decide +kernel
theorem pn_4_rmb : plainFor (⟨"com/example/herring/herring/Shape", "bitCount", "()J"⟩ : MethodName) = true := plainFor_of_name (by first | (simp [plainName, overriddenIn]; done) | decide +kernel)
theorem ef_rmb {a : Addr} (m : MethodId) : entryFrame m #[.ref a] 1 = mkF m 0 #[.val (.ref a)] [] := by first | (simp [entryFrame, mkF, argsToLocals, Value.category]; done) | rfl
set_option maxRecDepth 65536 in
set_option maxHeartbeats 40000000 in
theorem rmb (l : Launch) (Z : State) (a0 : Array Value) (hw : ∀ d ∈ tables_1, d.before a0 Z = true) (a : Addr) (u : Int64) (h0 : Heap) (n0 : Nat) (Z0 : n0 ≤ h0.size) (F_b : Fld Z h0 a "com/example/herring/herring/Shape" "bitCount" "J" (.long u)) :
    Met l Z (⟨"com/example/herring/herring/Shape", "bitCount", "()J"⟩ : MethodName) prog_10_method_6_code 1 (some .long) ({ frames := 0, cells := 0, slots := 0, locals := 0 } : Room) n0 #[.ref a] h0 (fun v h => v = some (.long u) ∧ h0 = h) := by
  refine Met.of (Ls := #[.val (.ref a)]) pn_4_rmb (fun m => ef_rmb m) fun p e s m below meth c T0 P hP k0 => ?_
  refine s_aloadN k0 d4_0 rfl rfl (pc' := 1) rfl ?_
  refine s_get k0 d4_1 (host := "") (Or.inl (hw _ (List.mem_of_getElem? (i := 15) rfl))) Via.refl F_b (pc' := 4) rfl fun T1 k1 => ?_
  exact s_retL k1 d4_4 rfl hP (by decide) (by decide) ⟨rfl, rfl⟩
theorem d5_0 : decode prog_10_method_7_code 0 = .ok (.aload_n 0, 1) := by decide +kernel
theorem d5_1 : decode prog_10_method_7_code 1 = .ok (.getfield 17, 3) := by decide +kernel
theorem d5_4 : decode prog_10_method_7_code 4 = .ok (.ireturn, 1) := by decide +kernel
theorem pn_5_rmh : plainFor (⟨"com/example/herring/herring/Shape", "hashCount", "()I"⟩ : MethodName) = true := plainFor_of_name (by first | (simp [plainName, overriddenIn]; done) | decide +kernel)
theorem ef_rmh {a : Addr} (m : MethodId) : entryFrame m #[.ref a] 1 = mkF m 0 #[.val (.ref a)] [] := by first | (simp [entryFrame, mkF, argsToLocals, Value.category]; done) | rfl
set_option maxRecDepth 65536 in
set_option maxHeartbeats 40000000 in
theorem rmh (l : Launch) (Z : State) (a0 : Array Value) (hw : ∀ d ∈ tables_1, d.before a0 Z = true) (a : Addr) (u : Int32) (h0 : Heap) (n0 : Nat) (Z0 : n0 ≤ h0.size) (F_b : Fld Z h0 a "com/example/herring/herring/Shape" "hashCount" "I" (.int u)) :
    Met l Z (⟨"com/example/herring/herring/Shape", "hashCount", "()I"⟩ : MethodName) prog_10_method_7_code 1 (some .int) ({ frames := 0, cells := 0, slots := 0, locals := 0 } : Room) n0 #[.ref a] h0 (fun v h => v = some (.int u) ∧ h0 = h) := by
  refine Met.of (Ls := #[.val (.ref a)]) pn_5_rmh (fun m => ef_rmh m) fun p e s m below meth c T0 P hP k0 => ?_
  refine s_aloadN k0 d5_0 rfl rfl (pc' := 1) rfl ?_
  refine s_get k0 d5_1 (host := "") (Or.inl (hw _ (List.mem_of_getElem? (i := 17) rfl))) Via.refl F_b (pc' := 4) rfl fun T1 k1 => ?_
  exact s_retI k1 d5_4 rfl hP (by decide) (by decide) ⟨rfl, rfl⟩
theorem d6_0 : decode prog_10_method_15_code 0 = .ok (.aload_n 1, 1) := by decide +kernel
theorem d6_1 : decode prog_10_method_15_code 1 = .ok (.instanceof 12, 3) := by decide +kernel
theorem d6_4 : decode prog_10_method_15_code 4 = .ok (.ifCond .eq 35, 3) := by decide +kernel
theorem d6_7 : decode prog_10_method_15_code 7 = .ok (.aload_n 1, 1) := by decide +kernel
theorem d6_8 : decode prog_10_method_15_code 8 = .ok (.checkcast 12, 3) := by decide +kernel
theorem d6_11 : decode prog_10_method_15_code 11 = .ok (.astore_n 2, 1) := by decide +kernel
theorem d6_12 : decode prog_10_method_15_code 12 = .ok (.aload_n 2, 1) := by decide +kernel
theorem d6_13 : decode prog_10_method_15_code 13 = .ok (.getfield 11, 3) := by decide +kernel
theorem d6_16 : decode prog_10_method_15_code 16 = .ok (.aload_n 0, 1) := by decide +kernel
theorem d6_17 : decode prog_10_method_15_code 17 = .ok (.getfield 11, 3) := by decide +kernel
theorem d6_20 : decode prog_10_method_15_code 20 = .ok (.lcmp, 1) := by decide +kernel
theorem d6_21 : decode prog_10_method_15_code 21 = .ok (.ifCond .ne 18, 3) := by decide +kernel
theorem d6_24 : decode prog_10_method_15_code 24 = .ok (.aload_n 2, 1) := by decide +kernel
theorem d6_25 : decode prog_10_method_15_code 25 = .ok (.getfield 17, 3) := by decide +kernel
theorem d6_28 : decode prog_10_method_15_code 28 = .ok (.aload_n 0, 1) := by decide +kernel
theorem d6_29 : decode prog_10_method_15_code 29 = .ok (.getfield 17, 3) := by decide +kernel
theorem d6_32 : decode prog_10_method_15_code 32 = .ok (.if_icmp .ne 7, 3) := by decide +kernel
theorem d6_35 : decode prog_10_method_15_code 35 = .ok (.iconst 1, 1) := by decide +kernel
theorem d6_36 : decode prog_10_method_15_code 36 = .ok (.goto 4, 3) := by decide +kernel
theorem d6_40 : decode prog_10_method_15_code 40 = .ok (.ireturn, 1) := by decide +kernel
theorem pn_6_rme : plainFor (⟨"com/example/herring/herring/Shape", "equals", "(Ljava/lang/Object;)Z"⟩ : MethodName) = true := plainFor_of_name (by first | (simp [plainName, overriddenIn]; done) | decide +kernel)
theorem ef_rme {a : Addr} {b : Addr} (m : MethodId) : entryFrame m #[.ref a, .ref b] 3 = mkF m 0 #[.val (.ref a), .val (.ref b), .unset] [] := by first | (simp [entryFrame, mkF, argsToLocals, Value.category]; done) | rfl
set_option maxRecDepth 65536 in
set_option maxHeartbeats 40000000 in
theorem rme (l : Launch) (Z : State) (a0 : Array Value) (hw : ∀ d ∈ tables_1, d.before a0 Z = true) (a b : Addr) (u : Int64) (t : Int32) (h0 : Heap) (n0 : Nat) (Z0 : n0 ≤ h0.size) (E_b : Exa Z h0 b "com/example/herring/herring/Shape") (FB_a : Fld Z h0 a "com/example/herring/herring/Shape" "bitCount" "J" (.long u)) (FH_a : Fld Z h0 a "com/example/herring/herring/Shape" "hashCount" "I" (.int t)) (FB_b : Fld Z h0 b "com/example/herring/herring/Shape" "bitCount" "J" (.long u)) (FH_b : Fld Z h0 b "com/example/herring/herring/Shape" "hashCount" "I" (.int t)) :
    Met l Z (⟨"com/example/herring/herring/Shape", "equals", "(Ljava/lang/Object;)Z"⟩ : MethodName) prog_10_method_15_code 3 (some .boolean) ({ frames := 0, cells := 0, slots := 0, locals := 0 } : Room) n0 #[.ref a, .ref b] h0 (fun v h => v = some (.int 1) ∧ h0 = h) := by
  refine Met.of (Ls := #[.val (.ref a), .val (.ref b), .unset]) pn_6_rme (fun m => ef_rme m) fun p e s m below meth c T0 P hP k0 => ?_
  refine s_aloadN k0 d6_0 rfl rfl (pc' := 1) rfl ?_
  refine s_instY k0 d6_1 (hw _ (List.mem_of_getElem? (i := 7) rfl)) (Ins.self E_b) (pc' := 4) rfl fun T1 k1 => ?_
  refine s_if_eq k1 d6_4 (by decide) (pc' := 39) (by decide) (pc3 := 7) rfl (fun hc4 => absurd hc4 (by decide)) (fun hc4 => ?_)
  refine s_aloadN k1 d6_7 rfl rfl (pc' := 8) rfl ?_
  refine s_cast k1 d6_8 (hw _ (List.mem_of_getElem? (i := 7) rfl)) (Ins.self E_b) (pc' := 11) rfl fun T2 k2 => ?_
  refine s_astoreN k2 d6_11 rfl (l' := #[.val (.ref a), .val (.ref b), .val (.ref b)]) rfl (pc' := 12) rfl ?_
  refine s_aloadN k2 d6_12 rfl rfl (pc' := 13) rfl ?_
  refine s_get k2 d6_13 (host := "") (Or.inl (hw _ (List.mem_of_getElem? (i := 15) rfl))) Via.refl FB_b (pc' := 16) rfl fun T3 k3 => ?_
  refine s_aloadN k3 d6_16 rfl rfl (pc' := 17) rfl ?_
  refine s_get k3 d6_17 (host := "") (Or.inl (hw _ (List.mem_of_getElem? (i := 15) rfl))) Via.refl FB_a (pc' := 20) rfl fun T4 k4 => ?_
  refine s_lcmp_ne k4 d6_20 rfl d6_21 (by decide) (pc' := 39) (by decide) (pc3 := 24) rfl (fun hc20 => ?_) (fun hc20 => absurd rfl hc20)
  refine s_aloadN k4 d6_24 rfl rfl (pc' := 25) rfl ?_
  refine s_get k4 d6_25 (host := "") (Or.inl (hw _ (List.mem_of_getElem? (i := 17) rfl))) Via.refl FH_b (pc' := 28) rfl fun T5 k5 => ?_
  refine s_aloadN k5 d6_28 rfl rfl (pc' := 29) rfl ?_
  refine s_get k5 d6_29 (host := "") (Or.inl (hw _ (List.mem_of_getElem? (i := 17) rfl))) Via.refl FH_a (pc' := 32) rfl fun T6 k6 => ?_
  refine s_icmp_ne k6 d6_32 (by decide) (pc' := 39) (by decide) (pc3 := 35) rfl (fun hc32 => ?_) (fun hc32 => absurd rfl hc32)
  refine s_iconst k6 (z := 1) d6_35 (by decide) (pc' := 36) rfl ?_
  refine s_goto k6 d6_36 (by decide) (pc' := 40) (by decide) ?_
  exact s_retZ k6 d6_40 rfl (by decide) hP (by decide) (by decide) ⟨rfl, rfl⟩
theorem own_bits (i0 : Int64) (i2 : Int32) (w12 : Int64) (e : w12 = (if (i2 &&& (3 : Int32)) = (0 : Int32) then ((1 : Int64) + (i0 &&& (7 : Int64))) else (if (i2 &&& (3 : Int32)) = (1 : Int32) then ((137438952896 : Int64) - (i0 &&& (7 : Int64))) else (((i0 &&& (9223372036854775807 : Int64)) - (i0 &&& (9223372036854775807 : Int64)) / (137438952896 : Int64) * (137438952896 : Int64)) + (1 : Int64))))) : ¬ w12 < (1 : Int64) ∧ ¬ (137438952896 : Int64) < w12 := by
  have d1 : (1 : Int64).toInt = 1 := by decide
  have d7 : (7 : Int64).toInt = 7 := by decide
  have dM : (137438952896 : Int64).toInt = 137438952896 := by decide
  have m7 : (i0 &&& (7 : Int64)).toInt = i0.toInt % 2 ^ 3 := Jvm.Kit.i64_mask _ 7 (k := 3) (by decide) (by decide)
  have mm : (i0 &&& (9223372036854775807 : Int64)).toInt = i0.toInt % 2 ^ 63 := Jvm.Kit.i64_mask _ 9223372036854775807 (k := 63) (by decide) (by decide)
  have mr := Jvm.Kit.i64_rem_nonneg (x := i0 &&& (9223372036854775807 : Int64)) (y := (137438952896 : Int64)) (by rw [mm]; omega)
  rw [mm, dM] at mr
  have e1 : ((1 : Int64) + (i0 &&& (7 : Int64))).toInt = 1 + i0.toInt % 2 ^ 3 := by rw [Jvm.Kit.i64_add (by rw [d1, m7]; omega) (by rw [d1, m7]; omega), d1, m7]
  have e2 : ((137438952896 : Int64) - (i0 &&& (7 : Int64))).toInt = 137438952896 - i0.toInt % 2 ^ 3 := by rw [Jvm.Kit.i64_sub (by rw [dM, m7]; omega) (by rw [dM, m7]; omega), dM, m7]
  generalize ((i0 &&& (9223372036854775807 : Int64)) - (i0 &&& (9223372036854775807 : Int64)) / (137438952896 : Int64) * (137438952896 : Int64)) = r at mr e
  have e3 : (r + (1 : Int64)).toInt = i0.toInt % 2 ^ 63 % 137438952896 + 1 := by rw [Jvm.Kit.i64_add (by rw [d1, mr]; omega) (by rw [d1, mr]; omega), d1, mr]
  rw [e, Int64.lt_iff_toInt_lt, Int64.lt_iff_toInt_lt, d1, dM]
  split
  · rw [e1]; omega
  · split
    · rw [e2]; omega
    · rw [e3]; omega
theorem own_hash (i1 i2 : Int32) (w67 : Int32) (e : w67 = (if ((Jvm.Free.XT.ushr i2 (2 : Int32)) &&& (3 : Int32)) = (0 : Int32) then ((1 : Int32) + (i1 &&& (7 : Int32))) else (if ((Jvm.Free.XT.ushr i2 (2 : Int32)) &&& (3 : Int32)) = (1 : Int32) then ((255 : Int32) - (i1 &&& (7 : Int32))) else (((i1 &&& (2147483647 : Int32)) % (255 : Int32)) + (1 : Int32))))) : ¬ w67 < (1 : Int32) ∧ ¬ (255 : Int32) < w67 := by
  have d1 : (1 : Int32).toInt = 1 := by decide
  have d7 : (7 : Int32).toInt = 7 := by decide
  have dM : (255 : Int32).toInt = 255 := by decide
  have m7 : (i1 &&& (7 : Int32)).toInt = i1.toInt % 2 ^ 3 := Jvm.Kit.i32_mask _ 7 (k := 3) (by decide) (by decide)
  have mm : (i1 &&& (2147483647 : Int32)).toInt = i1.toInt % 2 ^ 31 := Jvm.Kit.i32_mask _ 2147483647 (k := 31) (by decide) (by decide)
  have mr := Jvm.Kit.i32_rem_nonneg (x := i1 &&& (2147483647 : Int32)) (y := (255 : Int32)) (by rw [mm]; omega)
  rw [mm, dM] at mr
  have e1 : ((1 : Int32) + (i1 &&& (7 : Int32))).toInt = 1 + i1.toInt % 2 ^ 3 := by rw [Jvm.Kit.i32_add (by rw [d1, m7]; omega) (by rw [d1, m7]; omega), d1, m7]
  have e2 : ((255 : Int32) - (i1 &&& (7 : Int32))).toInt = 255 - i1.toInt % 2 ^ 3 := by rw [Jvm.Kit.i32_sub (by rw [dM, m7]; omega) (by rw [dM, m7]; omega), dM, m7]
  have e3 : (((i1 &&& (2147483647 : Int32)) % (255 : Int32)) + (1 : Int32)).toInt = i1.toInt % 2 ^ 31 % 255 + 1 := by rw [Jvm.Kit.i32_add (by rw [d1, mr]; omega) (by rw [d1, mr]; omega), d1, mr]
  rw [e, Int32.lt_iff_toInt_lt, Int32.lt_iff_toInt_lt, d1, dM]
  split
  · rw [e1]; omega
  · split
    · rw [e2]; omega
    · rw [e3]; omega
theorem pd__28JI_29Lcom_2fexample_2fherring_2fherring_2fShape_3b : parseMethodDescriptor "(JI)Lcom/example/herring/herring/Shape;" = some ⟨[.long, .int], some (.object "com/example/herring/herring/Shape")⟩ := by decide +kernel
theorem pd__28_29J : parseMethodDescriptor "()J" = some ⟨[], some .long⟩ := by decide +kernel
theorem pd__28_29I : parseMethodDescriptor "()I" = some ⟨[], some .int⟩ := by decide +kernel
theorem pd__28Ljava_2flang_2fObject_3b_29Z : parseMethodDescriptor "(Ljava/lang/Object;)Z" = some ⟨[(.object "java/lang/Object")], some .boolean⟩ := by decide +kernel
theorem pn_0_rm0 : plainFor (⟨"com/example/herring/herring/ShapeExactPinLaw", "law", "(JII)Z"⟩ : MethodName) = true := plainFor_of_name (by first | (simp [plainName, overriddenIn]; done) | decide +kernel)
theorem ef_rm0 {i0 : Int64} {i1 : Int32} {i2 : Int32} (m : MethodId) : entryFrame m #[.long i0, .int i1, .int i2] maxLocals = mkF m 0 #[.val (.long i0), .second, .val (.int i1), .val (.int i2), .unset, .unset, .unset, .unset, .unset, .unset, .unset, .unset, .unset] [] := by first | (simp [entryFrame, mkF, argsToLocals, Value.category, maxLocals]; done) | rfl
set_option maxRecDepth 65536 in
set_option maxHeartbeats 40000000 in
theorem rm0 (l : Launch) (Z : State) (a0 : Array Value) (hw : ∀ d ∈ tables_1, d.before a0 Z = true) (i0 : Int64) (i1 i2 : Int32) (h0 : Heap) (n0 : Nat) (Z0 : n0 ≤ h0.size)  :
    Met l Z x code maxLocals ret room_1 n0 #[.long i0, .int i1, .int i2] h0 (fun v h => v = some (.int 1)) := by
  refine Met.of (Ls := #[.val (.long i0), .second, .val (.int i1), .val (.int i2), .unset, .unset, .unset, .unset, .unset, .unset, .unset, .unset, .unset]) pn_0_rm0 (fun m => ef_rm0 m) fun p e s m below meth c T0 P hP k0 => ?_
  refine s_ldcL k0 at_0 (hw _ (List.mem_of_getElem? (i := 0) rfl)) (pc' := 3) rfl ?_
  refine s_lstore k0 at_3 (l' := #[.val (.long i0), .second, .val (.int i1), .val (.int i2), .val (.long (137438952896 : Int64)), .second, .unset, .unset, .unset, .unset, .unset, .unset, .unset]) rfl (pc' := 5) rfl ?_
  refine s_iloadN k0 at_5 rfl (pc' := 6) rfl ?_
  refine s_iconst k0 (z := 3) at_6 (by decide) (pc' := 7) rfl ?_
  refine s_iand k0 at_7 rfl (pc' := 8) rfl ?_
  refine s_istore k0 at_8 (l' := #[.val (.long i0), .second, .val (.int i1), .val (.int i2), .val (.long (137438952896 : Int64)), .second, .unset, .unset, .val (.int (i2 &&& (3 : Int32))), .unset, .unset, .unset, .unset]) rfl (pc' := 10) rfl ?_
  refine s_iload k0 at_10 rfl (pc' := 12) rfl ?_
  have J1 : ∀ (w12 : Int64) (e_w12 : w12 = (if (i2 &&& (3 : Int32)) = (0 : Int32) then ((1 : Int64) + (i0 &&& (7 : Int64))) else (if (i2 &&& (3 : Int32)) = (1 : Int32) then ((137438952896 : Int64) - (i0 &&& (7 : Int64))) else (((i0 &&& (9223372036854775807 : Int64)) - (i0 &&& (9223372036854775807 : Int64)) / (137438952896 : Int64) * (137438952896 : Int64)) + (1 : Int64))))), Go p e below P T0 (mkF m 58 #[.val (.long i0), .second, .val (.int i1), .val (.int i2), .val (.long (137438952896 : Int64)), .second, .val (.long w12), .second, .val (.int (i2 &&& (3 : Int32))), .unset, .unset, .unset, .unset] []) := by
    intro w12 e_w12
    have hb12 := own_bits i0 i2 w12 e_w12
    refine s_iloadN k0 at_58 rfl (pc' := 59) rfl ?_
    refine s_iconst k0 (z := 2) at_59 (by decide) (pc' := 60) rfl ?_
    refine s_iushr k0 at_60 rfl (pc' := 61) rfl ?_
    refine s_iconst k0 (z := 3) at_61 (by decide) (pc' := 62) rfl ?_
    refine s_iand k0 at_62 rfl (pc' := 63) rfl ?_
    refine s_istore k0 at_63 (l' := #[.val (.long i0), .second, .val (.int i1), .val (.int i2), .val (.long (137438952896 : Int64)), .second, .val (.long w12), .second, .val (.int (i2 &&& (3 : Int32))), .unset, .val (.int ((Jvm.Free.XT.ushr i2 (2 : Int32)) &&& (3 : Int32))), .unset, .unset]) rfl (pc' := 65) rfl ?_
    refine s_iload k0 at_65 rfl (pc' := 67) rfl ?_
    have J2 : ∀ (w67 : Int32) (e_w67 : w67 = (if ((Jvm.Free.XT.ushr i2 (2 : Int32)) &&& (3 : Int32)) = (0 : Int32) then ((1 : Int32) + (i1 &&& (7 : Int32))) else (if ((Jvm.Free.XT.ushr i2 (2 : Int32)) &&& (3 : Int32)) = (1 : Int32) then ((255 : Int32) - (i1 &&& (7 : Int32))) else (((i1 &&& (2147483647 : Int32)) % (255 : Int32)) + (1 : Int32))))), Go p e below P T0 (mkF m 112 #[.val (.long i0), .second, .val (.int i1), .val (.int i2), .val (.long (137438952896 : Int64)), .second, .val (.long w12), .second, .val (.int (i2 &&& (3 : Int32))), .val (.int w67), .val (.int ((Jvm.Free.XT.ushr i2 (2 : Int32)) &&& (3 : Int32))), .unset, .unset] []) := by
      intro w67 e_w67
      have hb67 := own_hash i1 i2 w67 e_w67
      refine s_lload k0 at_112 rfl (pc' := 114) rfl ?_
      refine s_iload k0 at_114 rfl (pc' := 116) rfl ?_
      refine s_callS k0 [.long w12, .int w67] 0 at_116 (hw _ (List.mem_of_getElem? (i := 2) rfl)) (hw _ (List.mem_of_getElem? (i := 3) rfl)) (hw _ (List.mem_of_getElem? (i := 4) rfl)) (hw _ (List.mem_of_getElem? (i := 5) rfl)) (by decide) (rmx l Z a0 hw w12 w67 h0 n0 Z0 hb12.1 hb12.2 hb67.1 hb67.2) (by decide) (by decide) pd__28JI_29Lcom_2fexample_2fherring_2fherring_2fShape_3b rfl (Nat.le_of_eq rfl) rfl (by decide) (by decide) rfl (pc' := 119) rfl fun v3 T3 h3 L3 k3 Qv3 => ?_
      obtain ⟨b3, rfl, q3, Kc3, E3, G3_0, G3_1⟩ := Qv3
      have g_b3 : n0 ≤ b3 := Nat.le_trans Z0 q3
      have Z4 := Nat.le_trans Z0 Kc3.1
      show Go p e below P T3 (mkF m 119 #[.val (.long i0), .second, .val (.int i1), .val (.int i2), .val (.long (137438952896 : Int64)), .second, .val (.long w12), .second, .val (.int (i2 &&& (3 : Int32))), .val (.int w67), .val (.int ((Jvm.Free.XT.ushr i2 (2 : Int32)) &&& (3 : Int32))), .unset, .unset] [.ref b3])
      refine s_astore k3 at_119 rfl (l' := #[.val (.long i0), .second, .val (.int i1), .val (.int i2), .val (.long (137438952896 : Int64)), .second, .val (.long w12), .second, .val (.int (i2 &&& (3 : Int32))), .val (.int w67), .val (.int ((Jvm.Free.XT.ushr i2 (2 : Int32)) &&& (3 : Int32))), .val (.ref b3), .unset]) rfl (pc' := 121) rfl ?_
      refine s_lload k3 at_121 rfl (pc' := 123) rfl ?_
      refine s_iload k3 at_123 rfl (pc' := 125) rfl ?_
      refine s_callS k3 [.long w12, .int w67] 0 at_125 (hw _ (List.mem_of_getElem? (i := 2) rfl)) (hw _ (List.mem_of_getElem? (i := 3) rfl)) (hw _ (List.mem_of_getElem? (i := 4) rfl)) (hw _ (List.mem_of_getElem? (i := 5) rfl)) (by decide) (rmx l Z a0 hw w12 w67 h3 n0 Z4 hb12.1 hb12.2 hb67.1 hb67.2) (by decide) (by decide) pd__28JI_29Lcom_2fexample_2fherring_2fherring_2fShape_3b rfl (Nat.le_of_eq rfl) rfl (by decide) (by decide) rfl (pc' := 128) rfl fun v5 T5 h5 L5 k5 Qv5 => ?_
      obtain ⟨b5, rfl, q5, Kc5, E5, G5_0, G5_1⟩ := Qv5
      have ne_b3_b5 : b3 ≠ b5 := Nat.ne_of_lt (Nat.lt_of_lt_of_le E3.lt q5)
      have g_b5 : n0 ≤ b5 := Nat.le_trans Z4 q5
      have F6_b3_bitCount := G3_0.keep Kc5 nin0
      have F7_b3_hashCount := G3_1.keep Kc5 nin0
      have E8_b3 := E3.keep Kc5
      have Z9 := Nat.le_trans Z4 Kc5.1
      show Go p e below P T5 (mkF m 128 #[.val (.long i0), .second, .val (.int i1), .val (.int i2), .val (.long (137438952896 : Int64)), .second, .val (.long w12), .second, .val (.int (i2 &&& (3 : Int32))), .val (.int w67), .val (.int ((Jvm.Free.XT.ushr i2 (2 : Int32)) &&& (3 : Int32))), .val (.ref b3), .unset] [.ref b5])
      refine s_astore k5 at_128 rfl (l' := #[.val (.long i0), .second, .val (.int i1), .val (.int i2), .val (.long (137438952896 : Int64)), .second, .val (.long w12), .second, .val (.int (i2 &&& (3 : Int32))), .val (.int w67), .val (.int ((Jvm.Free.XT.ushr i2 (2 : Int32)) &&& (3 : Int32))), .val (.ref b3), .val (.ref b5)]) rfl (pc' := 130) rfl ?_
      refine s_aload k5 at_130 rfl rfl (pc' := 132) rfl ?_
      refine s_callV k5 [] 0 at_132 (hw _ (List.mem_of_getElem? (i := 19) rfl)) (hw _ (List.mem_of_getElem? (i := 20) rfl)) (hw _ (List.mem_of_getElem? (i := 22) rfl)) (hw _ (List.mem_of_getElem? (i := 21) rfl)) (hw _ (List.mem_of_getElem? (i := 4) rfl)) (hw _ (List.mem_of_getElem? (i := 23) rfl)) (by decide) E8_b3 (rmb l Z a0 hw b3 w12 h5 n0 Z9 F6_b3_bitCount) (by decide) (by decide) pd__28_29J rfl (Nat.le_of_eq rfl) rfl (by decide) (by decide) rfl (pc' := 135) rfl fun v10 T10 h10 L10 k10 Qv10 => ?_
      obtain ⟨rfl, rfl⟩ := Qv10
      show Go p e below P T10 (mkF m 135 #[.val (.long i0), .second, .val (.int i1), .val (.int i2), .val (.long (137438952896 : Int64)), .second, .val (.long w12), .second, .val (.int (i2 &&& (3 : Int32))), .val (.int w67), .val (.int ((Jvm.Free.XT.ushr i2 (2 : Int32)) &&& (3 : Int32))), .val (.ref b3), .val (.ref b5)] [.long w12])
      refine s_lload k10 at_135 rfl (pc' := 137) rfl ?_
      refine s_lcmp_ne k10 at_137 rfl at_138 (by decide) (pc' := 165) (by decide) (pc3 := 141) rfl (fun hc137 => ?_) (fun hc137 => absurd rfl hc137)
      refine s_aload k10 at_141 rfl rfl (pc' := 143) rfl ?_
      refine s_callV k10 [] 0 at_143 (hw _ (List.mem_of_getElem? (i := 24) rfl)) (hw _ (List.mem_of_getElem? (i := 25) rfl)) (hw _ (List.mem_of_getElem? (i := 27) rfl)) (hw _ (List.mem_of_getElem? (i := 26) rfl)) (hw _ (List.mem_of_getElem? (i := 4) rfl)) (hw _ (List.mem_of_getElem? (i := 28) rfl)) (by decide) E8_b3 (rmh l Z a0 hw b3 w67 h5 n0 Z9 F7_b3_hashCount) (by decide) (by decide) pd__28_29I rfl (Nat.le_of_eq rfl) rfl (by decide) (by decide) rfl (pc' := 146) rfl fun v11 T11 h11 L11 k11 Qv11 => ?_
      obtain ⟨rfl, rfl⟩ := Qv11
      show Go p e below P T11 (mkF m 146 #[.val (.long i0), .second, .val (.int i1), .val (.int i2), .val (.long (137438952896 : Int64)), .second, .val (.long w12), .second, .val (.int (i2 &&& (3 : Int32))), .val (.int w67), .val (.int ((Jvm.Free.XT.ushr i2 (2 : Int32)) &&& (3 : Int32))), .val (.ref b3), .val (.ref b5)] [.int w67])
      refine s_iload k11 at_146 rfl (pc' := 148) rfl ?_
      refine s_icmp_ne k11 at_148 (by decide) (pc' := 165) (by decide) (pc3 := 151) rfl (fun hc148 => ?_) (fun hc148 => absurd rfl hc148)
      refine s_aload k11 at_151 rfl rfl (pc' := 153) rfl ?_
      refine s_aload k11 at_153 rfl rfl (pc' := 155) rfl ?_
      refine s_callV k11 [.ref b5] 0 at_155 (hw _ (List.mem_of_getElem? (i := 29) rfl)) (hw _ (List.mem_of_getElem? (i := 30) rfl)) (hw _ (List.mem_of_getElem? (i := 32) rfl)) (hw _ (List.mem_of_getElem? (i := 31) rfl)) (hw _ (List.mem_of_getElem? (i := 4) rfl)) (hw _ (List.mem_of_getElem? (i := 33) rfl)) (by decide) E8_b3 (rme l Z a0 hw b3 b5 w12 w67 h5 n0 Z9 E5 F6_b3_bitCount F7_b3_hashCount G5_0 G5_1) (by decide) (by decide) pd__28Ljava_2flang_2fObject_3b_29Z rfl (Nat.le_of_eq rfl) rfl (by decide) (by decide) rfl (pc' := 158) rfl fun v12 T12 h12 L12 k12 Qv12 => ?_
      obtain ⟨rfl, rfl⟩ := Qv12
      show Go p e below P T12 (mkF m 158 #[.val (.long i0), .second, .val (.int i1), .val (.int i2), .val (.long (137438952896 : Int64)), .second, .val (.long w12), .second, .val (.int (i2 &&& (3 : Int32))), .val (.int w67), .val (.int ((Jvm.Free.XT.ushr i2 (2 : Int32)) &&& (3 : Int32))), .val (.ref b3), .val (.ref b5)] [.int (1 : Int32)])
      refine s_if_eq k12 at_158 (by decide) (pc' := 165) (by decide) (pc3 := 161) rfl (fun hc158 => absurd hc158 (by decide)) (fun hc158 => ?_)
      refine s_iconst k12 (z := 1) at_161 (by decide) (pc' := 162) rfl ?_
      refine s_goto k12 at_162 (by decide) (pc' := 166) (by decide) ?_
      exact s_retZ k12 at_166 rfl (by decide) hP (by decide) (by decide) rfl
    refine s_if_ne k0 at_67 (by decide) (pc' := 81) (by decide) (pc3 := 70) rfl (fun hc67 => ?_) (fun hc67 => ?_)
    · refine s_iconst k0 (z := 1) at_70 (by decide) (pc' := 71) rfl ?_
      refine s_iloadN k0 at_71 rfl (pc' := 72) rfl ?_
      refine s_bipush k0 (z := 7) at_72 (by decide) (pc' := 74) rfl ?_
      refine s_iand k0 at_74 rfl (pc' := 75) rfl ?_
      refine s_iadd k0 at_75 rfl (pc' := 76) rfl ?_
      refine s_istore k0 at_76 (l' := #[.val (.long i0), .second, .val (.int i1), .val (.int i2), .val (.long (137438952896 : Int64)), .second, .val (.long w12), .second, .val (.int (i2 &&& (3 : Int32))), .val (.int ((1 : Int32) + (i1 &&& (7 : Int32)))), .val (.int ((Jvm.Free.XT.ushr i2 (2 : Int32)) &&& (3 : Int32))), .unset, .unset]) rfl (pc' := 78) rfl ?_
      refine s_goto k0 at_78 (by decide) (pc' := 112) (by decide) ?_
      exact J2 _ (by rw [if_pos hc67])
    · refine s_iload k0 at_81 rfl (pc' := 83) rfl ?_
      refine s_iconst k0 (z := 1) at_83 (by decide) (pc' := 84) rfl ?_
      refine s_icmp_ne k0 at_84 (by decide) (pc' := 100) (by decide) (pc3 := 87) rfl (fun hc84 => ?_) (fun hc84 => ?_)
      · refine s_sipush k0 (z := 255) at_87 (by decide) (pc' := 90) rfl ?_
        refine s_iloadN k0 at_90 rfl (pc' := 91) rfl ?_
        refine s_bipush k0 (z := 7) at_91 (by decide) (pc' := 93) rfl ?_
        refine s_iand k0 at_93 rfl (pc' := 94) rfl ?_
        refine s_isub k0 at_94 rfl (pc' := 95) rfl ?_
        refine s_istore k0 at_95 (l' := #[.val (.long i0), .second, .val (.int i1), .val (.int i2), .val (.long (137438952896 : Int64)), .second, .val (.long w12), .second, .val (.int (i2 &&& (3 : Int32))), .val (.int ((255 : Int32) - (i1 &&& (7 : Int32)))), .val (.int ((Jvm.Free.XT.ushr i2 (2 : Int32)) &&& (3 : Int32))), .unset, .unset]) rfl (pc' := 97) rfl ?_
        refine s_goto k0 at_97 (by decide) (pc' := 112) (by decide) ?_
        exact J2 _ (by rw [if_neg hc67, if_pos hc84])
      · refine s_iloadN k0 at_100 rfl (pc' := 101) rfl ?_
        refine s_ldcI k0 at_101 (hw _ (List.mem_of_getElem? (i := 36) rfl)) (pc' := 103) rfl ?_
        refine s_iand k0 at_103 rfl (pc' := 104) rfl ?_
        refine s_sipush k0 (z := 255) at_104 (by decide) (pc' := 107) rfl ?_
        refine s_irem k0 at_107 (by decide) rfl (pc' := 108) rfl ?_
        refine s_iconst k0 (z := 1) at_108 (by decide) (pc' := 109) rfl ?_
        refine s_iadd k0 at_109 rfl (pc' := 110) rfl ?_
        refine s_istore k0 at_110 (l' := #[.val (.long i0), .second, .val (.int i1), .val (.int i2), .val (.long (137438952896 : Int64)), .second, .val (.long w12), .second, .val (.int (i2 &&& (3 : Int32))), .val (.int (((i1 &&& (2147483647 : Int32)) % (255 : Int32)) + (1 : Int32))), .val (.int ((Jvm.Free.XT.ushr i2 (2 : Int32)) &&& (3 : Int32))), .unset, .unset]) rfl (pc' := 112) rfl ?_
        exact J2 _ (by rw [if_neg hc67, if_neg hc84])
  refine s_if_ne k0 at_12 (by decide) (pc' := 27) (by decide) (pc3 := 15) rfl (fun hc12 => ?_) (fun hc12 => ?_)
  · refine s_lconst k0 (z := 1) at_15 (by decide) (pc' := 16) rfl ?_
    refine s_lloadN k0 at_16 rfl (pc' := 17) rfl ?_
    refine s_ldcL k0 at_17 (hw _ (List.mem_of_getElem? (i := 1) rfl)) (pc' := 20) rfl ?_
    refine s_land k0 at_20 rfl (pc' := 21) rfl ?_
    refine s_ladd k0 at_21 rfl (pc' := 22) rfl ?_
    refine s_lstore k0 at_22 (l' := #[.val (.long i0), .second, .val (.int i1), .val (.int i2), .val (.long (137438952896 : Int64)), .second, .val (.long ((1 : Int64) + (i0 &&& (7 : Int64)))), .second, .val (.int (i2 &&& (3 : Int32))), .unset, .unset, .unset, .unset]) rfl (pc' := 24) rfl ?_
    refine s_goto k0 at_24 (by decide) (pc' := 58) (by decide) ?_
    exact J1 _ (by rw [if_pos hc12])
  · refine s_iload k0 at_27 rfl (pc' := 29) rfl ?_
    refine s_iconst k0 (z := 1) at_29 (by decide) (pc' := 30) rfl ?_
    refine s_icmp_ne k0 at_30 (by decide) (pc' := 46) (by decide) (pc3 := 33) rfl (fun hc30 => ?_) (fun hc30 => ?_)
    · refine s_lload k0 at_33 rfl (pc' := 35) rfl ?_
      refine s_lloadN k0 at_35 rfl (pc' := 36) rfl ?_
      refine s_ldcL k0 at_36 (hw _ (List.mem_of_getElem? (i := 1) rfl)) (pc' := 39) rfl ?_
      refine s_land k0 at_39 rfl (pc' := 40) rfl ?_
      refine s_lsub k0 at_40 rfl (pc' := 41) rfl ?_
      refine s_lstore k0 at_41 (l' := #[.val (.long i0), .second, .val (.int i1), .val (.int i2), .val (.long (137438952896 : Int64)), .second, .val (.long ((137438952896 : Int64) - (i0 &&& (7 : Int64)))), .second, .val (.int (i2 &&& (3 : Int32))), .unset, .unset, .unset, .unset]) rfl (pc' := 43) rfl ?_
      refine s_goto k0 at_43 (by decide) (pc' := 58) (by decide) ?_
      exact J1 _ (by rw [if_neg hc12, if_pos hc30])
    · refine s_lloadN k0 at_46 rfl (pc' := 47) rfl ?_
      refine s_ldcL k0 at_47 (hw _ (List.mem_of_getElem? (i := 35) rfl)) (pc' := 50) rfl ?_
      refine s_land k0 at_50 rfl (pc' := 51) rfl ?_
      refine s_lload k0 at_51 rfl (pc' := 53) rfl ?_
      refine s_lrem k0 at_53 (by decide) rfl (pc' := 54) rfl ?_
      refine s_lconst k0 (z := 1) at_54 (by decide) (pc' := 55) rfl ?_
      refine s_ladd k0 at_55 rfl (pc' := 56) rfl ?_
      refine s_lstore k0 at_56 (l' := #[.val (.long i0), .second, .val (.int i1), .val (.int i2), .val (.long (137438952896 : Int64)), .second, .val (.long (((i0 &&& (9223372036854775807 : Int64)) - (i0 &&& (9223372036854775807 : Int64)) / (137438952896 : Int64) * (137438952896 : Int64)) + (1 : Int64))), .second, .val (.int (i2 &&& (3 : Int32))), .unset, .unset, .unset, .unset]) rfl (pc' := 58) rfl ?_
      exact J1 _ (by rw [if_neg hc12, if_neg hc30])
set_option maxRecDepth 65536 in
set_option maxHeartbeats 40000000 in
theorem comes_1 {Post : Tables → Env → Array Value → State → Outcome → State → Prop} (hpost : ∀ tb e args s v u, (limb_1_1.after args s (.returned v) u = true ∧ limb_1_2.after args s (.returned v) u = true ∧ True) → FrameEnd s (.returned v) u (Jvm.fieldLocs frame_1_writes args s ++ Jvm.arrayLocs frame_1_arrays args s ++ Jvm.staticLocs frame_1_statics s) 16 128 → Post tb e args s (.returned v) u) :
    ArmFor flags0 classFile x code maxLocals ret World_1 tables_1 room_1 Calls_1 rest_1 Pre_1 Post := by
  intro l hfl _ _ p e ha hc hk s m args below hf hA hF happ hP
  obtain ⟨hcalls, hrest, hpre⟩ := hP
  obtain ⟨-, -, -, hnamed, -, -, -, hat⟩ := (Spec.applies_iff hf).mp happ
  obtain ⟨hg, hn⟩ := and_e (Cond.before_iff.mp (show (Jvm.Cond.and given_1 narrow_1).before args s = true from hpre))
  obtain ⟨gc, gr0⟩ := and_e hg
  obtain ⟨w0, w1, w2, rfl⟩ : ∃ w0 w1 w2 : Value, args = #[w0, w1, w2] := by
    have hs : args.size = 3 := by simpa [Cond.value, given_1] using gc
    obtain ⟨L⟩ := args
    match L, hs with
    | [w0, w1, w2], _ => exact ⟨w0, w1, w2, rfl⟩
  have hw := fun d (hd : d ∈ tables_1) => atoms_spec (ws := Jvm.Cond.code x code maxLocals ret :: tables_1) hat d (List.mem_cons_of_mem _ hd)
  obtain ⟨ga0, gr1⟩ := and_e gr0
  obtain ⟨i0, ei0⟩ := isL_v ga0
  obtain rfl : w0 = (.long i0) := Option.some.inj ei0
  obtain ⟨ga1, gr2⟩ := and_e gr1
  obtain ⟨i1, ei1⟩ := is_v ga1
  obtain rfl : w1 = (.int i1) := Option.some.inj ei1
  have ga2 := gr2
  obtain ⟨i2, ei2⟩ := is_v ga2
  obtain rfl : w2 = (.int i2) := Option.some.inj ei2
  obtain ⟨n, o, h1, h2, h3, _, L, rfl, ⟨rfl, N⟩, hq⟩ := rm0 l s _ hw i0 i1 i2 s.heap s.heap.size (Nat.le_refl _)  tables_1 p e ha hc hk s m _ below hf ((Spec.applies_iff_loose hf).mp happ).1 ⟨rfl, State.Warmed39.refl s, rfl⟩ trivial
  refine ⟨n, _, h1, h2, h3, hpost _ _ _ _ _ _ ⟨Cond.after_iff.mpr rfl, Cond.after_iff.mpr (eq_i res_at (Term.int_eval (1)) rfl), trivial⟩ ⟨hq.1, hq.2.1, (hq.2.2.sift fun y hy => Or.inr (N y hy)).mono (by decide) (by decide)⟩⟩
theorem main_1_1 : Claimed_1_1 := comes_1 fun _ _ _ _ _ _ h hF => ⟨h.1, hF⟩
theorem main_1_2 : Claimed_1_2 := comes_1 fun _ _ _ _ _ _ h hF => ⟨h.2.1, hF⟩
end Jvm.Pilot.@@N@@
namespace Jvm.Pilot.@@N@@
open Jvm Jvm.ClassFile Sem Op Lib Jvm.Free Jvm.Stand Jvm.Pilot.@@N@@.Jvm.D
/-! MADE BY PROGRAM (witnessworld.py) out of the Statement's table words and the real class files: 9 classes; the members and pool entries that the words name. The judged class is class 1, her method 1. -/
namespace start1
open Jvm.ClassFile
def u (s : String) : CpInfo := .utf8 (stringToUtf16 s)
/-- a pool by its gaps: so many unusable entries, then the entry; so many at the end -/
def gap : Nat → List CpInfo → List CpInfo
  | 0, r => r
  | n + 1, r => .unusable :: gap n r
def poolList (es : List (Nat × CpInfo)) (last : Nat) : List CpInfo := es.foldr (fun e r => gap e.1 (e.2 :: r)) (gap last [])
def pool (es : List (Nat × CpInfo)) (last : Nat) : Array CpInfo := ⟨poolList es last⟩
def fileOf (pool : Array CpInfo) (this : Nat) (attrs : Array Attribute := #[]) (ms : Array MethodInfo := #[]) (fl : Nat := 33) (sup : Nat := 0) (ifs : Array Nat := #[]) (fds : Array FieldInfo := #[]) : ClassFile where
  minorVersion := 0
  majorVersion := 65
  constantPool := pool
  accessFlags := fl
  thisClass := this
  superClass := sup
  interfaces := ifs
  fields := fds
  methods := ms
  attributes := attrs
def plain (name : String) (sup : Option ClassId) : Class where
  name := name
  kind := .ordinary
  loader := none
  accessFlags := 33
  super := sup
  interfaces := #[]
  cf := none
  fields := #[]
  methods := #[]
  instanceTypes := #[]
  staticTypes := #[]
  resolved := #[]
  callSites := []
  init := .initialized
  statics := none
  mirror := none

def pool0 : Array CpInfo := pool [(5, u "<init>"), (0, u "()V"), (1, .class_ 10), (1, u "java/lang/Object")] 113

def k0c0 : Code := { maxStack := 0, maxLocals := 1, code := object_method_1_code, exceptionTable := #[], attributes := #[] }
def k0m0 : Method := { name := "<init>", desc := "()V", sig := { parameters := [], returnType := none }, accessFlags := 1, code := some k0c0 }
/-- java/lang/Object -/
def k0 : Class := { plain "java/lang/Object" none with
  accessFlags := 33
  interfaces := #[]
  cf := some (fileOf pool0 8 #[] #[{ accessFlags := 1, nameIndex := 5, descriptorIndex := 6, attributes := #[] }] 33 0 #[] #[])
  fields := #[]
  methods := #[k0m0]
  instanceTypes := #[]
  staticTypes := #[]
  resolved := Array.replicate 124 none
  statics := none }

def pool1 : Array CpInfo := pool [(2, .class_ 4), (1, u "java/lang/Object"), (0, u "<init>"), (0, u "()V"), (0, .long 137438952896), (1, .long 7), (3, .long 9223372036854775807), (1, .integer 2147483647), (0, .methodref 17 18), (0, .class_ 19), (0, .nameAndType 20 21), (0, u "com/example/herring/herring/Shape"), (0, u "exact"), (0, u "(JI)Lcom/example/herring/herring/Shape;"), (0, .methodref 17 23), (0, .nameAndType 24 25), (0, u "bitCount"), (0, u "()J"), (0, .methodref 17 27), (0, .nameAndType 28 29), (0, u "hashCount"), (0, u "()I"), (0, .methodref 17 31), (0, .nameAndType 32 33), (0, u "equals"), (0, u "(Ljava/lang/Object;)Z"), (0, .class_ 35), (0, u "com/example/herring/herring/ShapeExactPinLaw"), (2, u "law"), (0, u "(JII)Z")] 3

def k1m0 : Method := { name := "<init>", desc := "()V", sig := { parameters := [], returnType := none }, accessFlags := 1, code := none }
def k1c1 : Code := { maxStack := 6, maxLocals := 13, code := code, exceptionTable := #[], attributes := #[] }
def k1m1 : Method := { name := "law", desc := "(JII)Z", sig := { parameters := [.long, .int, .int], returnType := some .boolean }, accessFlags := 9, code := some k1c1 }
/-- com/example/herring/herring/ShapeExactPinLaw -/
def k1 : Class := { plain "com/example/herring/herring/ShapeExactPinLaw" (some 0) with
  accessFlags := 49
  interfaces := #[]
  cf := some (fileOf pool1 34 #[] #[{ accessFlags := 1, nameIndex := 5, descriptorIndex := 6, attributes := #[] }, { accessFlags := 9, nameIndex := 38, descriptorIndex := 39, attributes := #[] }] 49 2 #[] #[])
  fields := #[]
  methods := #[k1m0, k1m1]
  instanceTypes := #[]
  staticTypes := #[]
  resolved := Array.replicate 43 none
  statics := none }

def pool2 : Array CpInfo := pool [(5, .methodref 6 7), (0, .class_ 8), (0, .nameAndType 9 10), (0, u "java/lang/Object"), (0, u "<init>"), (0, u "()V"), (0, .fieldref 12 13), (0, .class_ 14), (0, .nameAndType 15 16), (0, u "com/example/herring/herring/Shape"), (0, u "bitCount"), (0, u "J"), (0, .fieldref 12 18), (0, .nameAndType 19 20), (0, u "hashCount"), (0, u "I"), (21, u "LN_2"), (0, u "D"), (15, .methodref 12 60), (0, .nameAndType 9 61), (0, u "(JI)V"), (2, u "LN_2_SQUARED"), (10, .long 137438952896), (32, u "()J"), (21, u "MAX_HASHES"), (2, u "MAX_BITS"), (6, u "exact"), (0, u "(JI)Lcom/example/herring/herring/Shape;"), (0, u "()I"), (4, u "equals"), (0, u "(Ljava/lang/Object;)Z")] 32

def k2c0 : Code := { maxStack := 3, maxLocals := 4, code := prog_10_method_1_code, exceptionTable := #[], attributes := #[] }
def k2m0 : Method := { name := "<init>", desc := "(JI)V", sig := { parameters := [.long, .int], returnType := none }, accessFlags := 2, code := some k2c0 }
def k2c1 : Code := { maxStack := 5, maxLocals := 3, code := prog_10_method_5_code, exceptionTable := #[], attributes := #[] }
def k2m1 : Method := { name := "exact", desc := "(JI)Lcom/example/herring/herring/Shape;", sig := { parameters := [.long, .int], returnType := some (.object "com/example/herring/herring/Shape") }, accessFlags := 8, code := some k2c1 }
def k2c2 : Code := { maxStack := 2, maxLocals := 1, code := prog_10_method_6_code, exceptionTable := #[], attributes := #[] }
def k2m2 : Method := { name := "bitCount", desc := "()J", sig := { parameters := [], returnType := some .long }, accessFlags := 0, code := some k2c2 }
def k2c3 : Code := { maxStack := 1, maxLocals := 1, code := prog_10_method_7_code, exceptionTable := #[], attributes := #[] }
def k2m3 : Method := { name := "hashCount", desc := "()I", sig := { parameters := [], returnType := some .int }, accessFlags := 0, code := some k2c3 }
def k2c4 : Code := { maxStack := 4, maxLocals := 3, code := prog_10_method_15_code, exceptionTable := #[], attributes := #[] }
def k2m4 : Method := { name := "equals", desc := "(Ljava/lang/Object;)Z", sig := { parameters := [(.object "java/lang/Object")], returnType := some .boolean }, accessFlags := 1, code := some k2c4 }
/-- com/example/herring/herring/Shape -/
def k2 : Class := { plain "com/example/herring/herring/Shape" (some 0) with
  accessFlags := 48
  interfaces := #[]
  cf := some (fileOf pool2 12 #[] #[{ accessFlags := 2, nameIndex := 9, descriptorIndex := 61, attributes := #[] }, { accessFlags := 8, nameIndex := 140, descriptorIndex := 141, attributes := #[] }, { accessFlags := 0, nameIndex := 15, descriptorIndex := 108, attributes := #[] }, { accessFlags := 0, nameIndex := 19, descriptorIndex := 142, attributes := #[] }, { accessFlags := 1, nameIndex := 147, descriptorIndex := 148, attributes := #[] }] 48 6 #[] #[{ accessFlags := 26, nameIndex := 130, descriptorIndex := 20, attributes := #[] }, { accessFlags := 26, nameIndex := 133, descriptorIndex := 16, attributes := #[] }, { accessFlags := 26, nameIndex := 42, descriptorIndex := 43, attributes := #[] }, { accessFlags := 26, nameIndex := 64, descriptorIndex := 43, attributes := #[] }, { accessFlags := 18, nameIndex := 15, descriptorIndex := 16, attributes := #[] }, { accessFlags := 18, nameIndex := 19, descriptorIndex := 20, attributes := #[] }])
  fields := #[{ name := "MAX_HASHES", type := .int, accessFlags := 26, slot := 0, constantValue := 0 }, { name := "MAX_BITS", type := .long, accessFlags := 26, slot := 1, constantValue := 0 }, { name := "LN_2", type := .double, accessFlags := 26, slot := 2, constantValue := 0 }, { name := "LN_2_SQUARED", type := .double, accessFlags := 26, slot := 3, constantValue := 0 }, { name := "bitCount", type := .long, accessFlags := 18, slot := 0, constantValue := 0 }, { name := "hashCount", type := .int, accessFlags := 18, slot := 1, constantValue := 0 }]
  methods := #[k2m0, k2m1, k2m2, k2m3, k2m4]
  instanceTypes := #[.long, .int]
  staticTypes := #[.int, .long, .double, .double]
  resolved := Array.replicate 181 none
  statics := none }

def pool3 : Array CpInfo := pool [(1, u "java/lang/Cloneable"), (0, .class_ 1), (0, u "java/lang/Object"), (0, .class_ 3)] 3

/-- java/lang/Cloneable -/
def k3 : Class := { plain "java/lang/Cloneable" (some 0) with
  accessFlags := 1537
  interfaces := #[]
  cf := some (fileOf pool3 2 #[] #[] 1537 4 #[] #[])
  fields := #[]
  methods := #[]
  instanceTypes := #[]
  staticTypes := #[]
  resolved := Array.replicate 8 none
  statics := none }

def pool4 : Array CpInfo := pool [(1, u "java/io/Serializable"), (0, .class_ 1), (0, u "java/lang/Object"), (0, .class_ 3)] 3

/-- java/io/Serializable -/
def k4 : Class := { plain "java/io/Serializable" (some 0) with
  accessFlags := 1537
  interfaces := #[]
  cf := some (fileOf pool4 2 #[] #[] 1537 4 #[] #[])
  fields := #[]
  methods := #[]
  instanceTypes := #[]
  staticTypes := #[]
  resolved := Array.replicate 8 none
  statics := none }

/-- the primitive byte -/
def k5 : Class := { plain "byte" none with kind := .primitive 'B', accessFlags := 0x411 }
/-- [B -/
def k6 : Class := { plain "[B" (some 0) with kind := .array 5 .byte, interfaces := #[3, 4], accessFlags := 1041 }

/-- the primitive int -/
def k7 : Class := { plain "int" none with kind := .primitive 'I', accessFlags := 0x411 }
/-- [I -/
def k8 : Class := { plain "[I" (some 0) with kind := .array 7 .int, interfaces := #[3, 4], accessFlags := 1041 }

def heap : Heap := #[]
def classes : Array Class := #[k0, k1, k2, k3, k4, k5, k6, k7, k8]
def interned : List (Array UInt16 × Addr) := []
def slotsUsed : Nat := 0
def theMethod : MethodId := ⟨1, 1⟩
def args0 : Array Value := #[.long 5, .int 6, .int 7]
def aboutOver (below : List Frame) : State where
  vm := { classes := classes, interned := interned.toArray }
  heap := heap
  slotsUsed := slotsUsed
  threads := #[{ frames := .invoking theMethod args0 :: below }]
def below0 : List Frame := [.native { method := ⟨0, 0⟩, args := #[] }]
def about1 : State := aboutOver below0
def p0 : Program := .bare "" "" ""
def e0 : Env := launch0.env 0 0 0
theorem w_frames : about1.frames = Frame.invoking theMethod args0 :: below0 := rfl
set_option maxRecDepth 65536 in
theorem w_args : argsFit about1.vm theMethod args0 = true := by decide +kernel
set_option maxRecDepth 65536 in
theorem w_heap : heapFits about1 = true := by decide +kernel
set_option maxRecDepth 65536 in
theorem w_runnable : about1.curStatus? = some .runnable := by decide +kernel
set_option maxRecDepth 65536 in
theorem w_alone : about1.alone = true := by decide +kernel
set_option maxRecDepth 65536 in
theorem w_named : about1.methodNamed? x = some theMethod := by decide +kernel
set_option maxRecDepth 65536 in
theorem w_hears : about1.hears theMethod below0 = true := by decide +kernel
set_option maxRecDepth 65536 in
theorem w_ripe : about1.ripe theMethod args0 below0 = true := by decide +kernel
theorem w_running : about1.status = .running := rfl
set_option maxRecDepth 65536 in
theorem w_room : about1.hasRoom e0.platform room_1 = true :=
  launch0.hasRoom_least _ room_1 (by decide +kernel) (by decide +kernel) (by decide +kernel) (by decide +kernel) (by decide +kernel) (by decide +kernel)
theorem allAtoms_all (ts : List Jvm.Cond) (a : Array Jvm.Value) (st : Jvm.State) : (allAtoms ts).before a st = ts.all (fun c => c.before a st) := by
  induction ts with
  | nil => rfl
  | cons c t ih =>
    show (Jvm.Cond.and c (allAtoms t)).before a st = _
    rw [Jvm.Cond.before_and, ih, List.all_cons]
def words1 : List Jvm.Cond := Jvm.Cond.code x code maxLocals ret :: tables_1
/-- a 'code' word, met by the world's own term for the bytes: nothing is compared byte by byte -/
theorem code_word {y : MethodName} {bytes : ByteArray} {mx : Nat} {rt : Option FieldType} {a : Array Value} {s : State} {m : MethodId} {meth : Method} {c : Code} (h1 : s.methodNamed? y = some m) (h2 : s.vm.method? m = some meth) (h3 : meth.code = some c) (h4 : c.code = bytes)
    (h5 : (c.maxLocals == mx && c.exceptionTable.isEmpty && decide (c.maxStack ≤ mostOperands) && decide (meth.sig.returnType = rt) && !meth.locks && decide (parseMethodDescriptor y.desc = some meth.sig)) = true) : (Jvm.Cond.code y bytes mx rt).before a s = true := by
  simp only [Bool.and_eq_true, beq_iff_eq, Bool.not_eq_true', decide_eq_true_eq] at h5
  obtain ⟨⟨⟨⟨⟨g1, g2⟩, g3⟩, g4⟩, g5⟩, g6⟩ := h5
  simp [Cond.before, Cond.holds, Cond.value, h1, h2, h3, h4, g1, g2, g3, g4, g5, g6]
def isCode : Jvm.Cond → Bool
  | .code _ _ _ _ => true
  | _ => false
theorem all_split {L : List Jvm.Cond} {P : Jvm.Cond → Bool} (h1 : L.all (fun c => isCode c || P c) = true) (h2 : ∀ c ∈ L.filter isCode, P c = true) : L.all P = true := by
  refine List.all_eq_true.mpr fun c hc => ?_
  have h := List.all_eq_true.mp h1 c hc
  rcases Bool.eq_false_or_eq_true (isCode c) with hi | hi
  · exact h2 c (List.mem_filter.mpr ⟨hc, hi⟩)
  · simpa [hi] using h
set_option maxRecDepth 65536 in
theorem w_c0 : (Jvm.Cond.code x code maxLocals ret).before args0 about1 = true := code_word (m := ⟨1, 1⟩) (meth := k1m1) (c := k1c1) (by decide +kernel) rfl rfl rfl (by decide +kernel)
set_option maxRecDepth 65536 in
theorem w_c1 : (Jvm.Cond.code ({ cls := "com/example/herring/herring/Shape", name := "exact", desc := "(JI)Lcom/example/herring/herring/Shape;" } : Jvm.MethodName) prog_10_method_5_code (3 : Nat) (Option.some (Jvm.ClassFile.FieldType.object "com/example/herring/herring/Shape"))).before args0 about1 = true := code_word (m := ⟨2, 1⟩) (meth := k2m1) (c := k2c1) (by decide +kernel) rfl rfl rfl (by decide +kernel)
set_option maxRecDepth 65536 in
theorem w_c2 : (Jvm.Cond.code ({ cls := "com/example/herring/herring/Shape", name := "<init>", desc := "(JI)V" } : Jvm.MethodName) prog_10_method_1_code (4 : Nat) (Option.none : Option Jvm.ClassFile.FieldType)).before args0 about1 = true := code_word (m := ⟨2, 0⟩) (meth := k2m0) (c := k2c0) (by decide +kernel) rfl rfl rfl (by decide +kernel)
set_option maxRecDepth 65536 in
theorem w_c3 : (Jvm.Cond.code ({ cls := "java/lang/Object", name := "<init>", desc := "()V" } : Jvm.MethodName) object_method_1_code (1 : Nat) (Option.none : Option Jvm.ClassFile.FieldType)).before args0 about1 = true := code_word (m := ⟨0, 0⟩) (meth := k0m0) (c := k0c0) (by decide +kernel) rfl rfl rfl (by decide +kernel)
set_option maxRecDepth 65536 in
theorem w_c4 : (Jvm.Cond.code ({ cls := "com/example/herring/herring/Shape", name := "bitCount", desc := "()J" } : Jvm.MethodName) prog_10_method_6_code (1 : Nat) (Option.some Jvm.ClassFile.FieldType.long)).before args0 about1 = true := code_word (m := ⟨2, 2⟩) (meth := k2m2) (c := k2c2) (by decide +kernel) rfl rfl rfl (by decide +kernel)
set_option maxRecDepth 65536 in
theorem w_c5 : (Jvm.Cond.code ({ cls := "com/example/herring/herring/Shape", name := "hashCount", desc := "()I" } : Jvm.MethodName) prog_10_method_7_code (1 : Nat) (Option.some Jvm.ClassFile.FieldType.int)).before args0 about1 = true := code_word (m := ⟨2, 3⟩) (meth := k2m3) (c := k2c3) (by decide +kernel) rfl rfl rfl (by decide +kernel)
set_option maxRecDepth 65536 in
theorem w_c6 : (Jvm.Cond.code ({ cls := "com/example/herring/herring/Shape", name := "equals", desc := "(Ljava/lang/Object;)Z" } : Jvm.MethodName) prog_10_method_15_code (3 : Nat) (Option.some Jvm.ClassFile.FieldType.boolean)).before args0 about1 = true := code_word (m := ⟨2, 4⟩) (meth := k2m4) (c := k2c4) (by decide +kernel) rfl rfl rfl (by decide +kernel)
def codes1 : List Jvm.Cond := [Jvm.Cond.code x code maxLocals ret, Jvm.Cond.code ({ cls := "com/example/herring/herring/Shape", name := "exact", desc := "(JI)Lcom/example/herring/herring/Shape;" } : Jvm.MethodName) prog_10_method_5_code (3 : Nat) (Option.some (Jvm.ClassFile.FieldType.object "com/example/herring/herring/Shape")), Jvm.Cond.code ({ cls := "com/example/herring/herring/Shape", name := "<init>", desc := "(JI)V" } : Jvm.MethodName) prog_10_method_1_code (4 : Nat) (Option.none : Option Jvm.ClassFile.FieldType), Jvm.Cond.code ({ cls := "java/lang/Object", name := "<init>", desc := "()V" } : Jvm.MethodName) object_method_1_code (1 : Nat) (Option.none : Option Jvm.ClassFile.FieldType), Jvm.Cond.code ({ cls := "com/example/herring/herring/Shape", name := "bitCount", desc := "()J" } : Jvm.MethodName) prog_10_method_6_code (1 : Nat) (Option.some Jvm.ClassFile.FieldType.long), Jvm.Cond.code ({ cls := "com/example/herring/herring/Shape", name := "hashCount", desc := "()I" } : Jvm.MethodName) prog_10_method_7_code (1 : Nat) (Option.some Jvm.ClassFile.FieldType.int), Jvm.Cond.code ({ cls := "com/example/herring/herring/Shape", name := "equals", desc := "(Ljava/lang/Object;)Z" } : Jvm.MethodName) prog_10_method_15_code (3 : Nat) (Option.some Jvm.ClassFile.FieldType.boolean)]
set_option maxRecDepth 65536 in
theorem codes_eq : words1.filter isCode = codes1 := rfl
theorem w_codes : ∀ c ∈ words1.filter isCode, c.before args0 about1 = true := by
  rw [codes_eq]
  intro c hc
  simp only [codes1, List.mem_cons, List.not_mem_nil, or_false] at hc
  rcases hc with rfl | rfl | rfl | rfl | rfl | rfl | rfl
  · exact w_c0
  · exact w_c1
  · exact w_c2
  · exact w_c3
  · exact w_c4
  · exact w_c5
  · exact w_c6
set_option maxRecDepth 65536 in
theorem w_t1 : (words1.take 24).all (fun c => isCode c || c.before args0 about1) = true := by decide +kernel
set_option maxRecDepth 65536 in
theorem w_t2 : (words1.drop 24).all (fun c => isCode c || c.before args0 about1) = true := by decide +kernel
theorem w_tables : (allAtoms (Jvm.Cond.code x code maxLocals ret :: tables_1)).before args0 about1 = true := by
  rw [allAtoms_all]
  show words1.all (fun c => c.before args0 about1) = true
  refine all_split ?_ w_codes
  rw [← List.take_append_drop 24 words1, List.all_append, w_t1, w_t2]
  rfl
set_option maxRecDepth 65536 in
theorem w_case : (Jvm.Cond.and given_1 narrow_1).before args0 about1 = true := by decide +kernel
theorem w_applies : (headSpec (Jvm.Cond.code x code maxLocals ret :: tables_1) room_1).applies x e0.platform about1 = true :=
  (Spec.applies_iff w_frames).mpr ⟨w_running, w_runnable, w_alone, w_named, w_hears, w_ripe, w_room, w_tables⟩
theorem atStart : AtStart classFile x code maxLocals ret World_1 tables_1 room_1 Calls_1 rest_1 Pre_1 launch0 p0 e0 about1 theMethod args0 below0 :=
  ⟨lists_1, trivial, launch0.admits_env _ _ _, launch0.least_env, fairChoices_fair.cas, fairChoices_fair.clock, w_frames, w_args, w_heap, w_applies, trivial, trivial, w_case⟩
end start1
theorem witness_1 : WitnessClaimed_1 := ⟨start1.p0, start1.e0, start1.about1, start1.theMethod, start1.args0, start1.below0, start1.atStart⟩
end Jvm.Pilot.@@N@@
