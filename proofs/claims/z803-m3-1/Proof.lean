import JvmDerived
import JvmDerived.Pilot.@@N@@Statement
import JvmDerived.Pilot.@@N@@Code
set_option linter.unusedVariables false
set_option linter.unusedSimpArgs false
@@BLOCK:NumsL.lean.txt@@
namespace Jvm.OwnGo
open Sem ClassFile Op Lib Jvm.Stand Jvm.Free Jvm.LawKit Jvm.RoadKit
/-- where a walk stands -/
def K (p : Program) (l : Launch) (e : Env) (R : Room) (s : State) (m : MethodId) (args : Array Value) (below : List Frame) (meth : Method) (c : Code) (bytes : ByteArray) (own : String) (maxL : Nat) (ret : Option FieldType) (nm : String) (T : State) (locs : List Loc) (cells slots : Nat) (Z : State) (h : Heap) (n0 : Nat) : Prop :=
  Stand p l e R s m args below meth c T locs cells slots ∧ p.tables.exec = Jvm.exec ∧ Z.Warmed39 s.vm ∧ T.heap = h ∧ Fr n0 locs ∧ c.code = bytes ∧ s.vm.findClass own = some m.cls ∧ c.maxLocals = maxL ∧ meth.sig.returnType = ret ∧ meth.name = nm ∧ meth.locks = false
/-- from here the run comes to an end that meets P -/
def Go (p : Program) (e : Env) (below : List Frame) (P : State → Outcome → Prop) (T : State) (g : JFrame) : Prop :=
  ∃ s₂ o, Steps p.tables e below (T.setTop g) s₂ ∧ s₂.status = .running ∧ Ended s₂ below o ∧ P s₂ o
/-- what a return pays -/
def Pay (s : State) (Q : Option Value → Heap → Prop) (n0 cc ss : Nat) (P : State → Outcome → Prop) : Prop :=
  ∀ v h L s₂, Q v h → s₂.heap = h → Fr n0 L → FrameEnd s (.returned v) s₂ L cc ss → P s₂ (.returned v)
section Own
variable {p : Program} {l : Launch} {e : Env} {R : Room} {s : State} {m : MethodId} {args : Array Value} {below : List Frame} {meth : Method} {c : Code} {bytes : ByteArray} {own : String} {maxL : Nat} {ret : Option FieldType} {nm : String} {T : State} {locs : List Loc} {cells slots : Nat} {Z : State} {h : Heap} {n0 : Nat} {Q : Option Value → Heap → Prop} {P : State → Outcome → Prop} {cc ss : Nat} {a0 : Array Value} {Ls : Array Slot} {st rest : List Value} {pc pc' pc3 : Nat}
theorem Go.to {T' : State} {g g' : JFrame} (h1 : ∀ target, Steps p.tables e below (T'.setTop g') target → Steps p.tables e below (T.setTop g) target) (k : Go p e below P T' g') : Go p e below P T g := by
  obtain ⟨s₂, o, h2, h3⟩ := k; exact ⟨s₂, o, h1 _ h2, h3⟩
theorem Go.tr {T' : State} {g g' : JFrame} (h1 : Steps p.tables e below (T.setTop g) (T'.setTop g')) (k : Go p e below P T' g') : Go p e below P T g := by
  obtain ⟨s₂, o, h2, h3⟩ := k; exact ⟨s₂, o, h1.trans h2, h3⟩
theorem Go.weak {P' : State → Outcome → Prop} {g : JFrame} (k : Go p e below P T g) (h1 : ∀ s o, P s o → P' s o) : Go p e below P' T g := by
  obtain ⟨s₂, o, h2, h3, h4, h5⟩ := k; exact ⟨s₂, o, h2, h3, h4, h1 _ _ h5⟩
theorem nar_ref {C : String} {v : Value} (h : v.isRef = true) : narrow (.object C) v = v := by cases v <;> first | rfl | (simp [Value.isRef] at h)
theorem fit_ref {C : String} {v : Value} (h : v.isRef = true) : fits (.object C) v = true := by cases v <;> first | rfl | (simp [Value.isRef] at h)
theorem k_hp (k : K p l e R s m args below meth c bytes own maxL ret nm T locs cells slots Z h n0) {T' : State} {h' : Heap} {locs' : List Loc} {cells' slots' : Nat} (X : Stand p l e R s m args below meth c T' locs' cells' slots') (eT : T'.heap = h') (N : Fr n0 locs') : K p l e R s m args below meth c bytes own maxL ret nm T' locs' cells' slots' Z h' n0 :=
  ⟨X, k.2.1, k.2.2.1, eT, N, k.2.2.2.2.2⟩
theorem k_more (k : K p l e R s m args below meth c bytes own maxL ret nm T locs cells slots Z h n0) {cells' slots' : Nat} (h1 : cells ≤ cells') (h2 : slots ≤ slots') : K p l e R s m args below meth c bytes own maxL ret nm T locs cells' slots' Z h n0 :=
  ⟨k.1.more h1 h2, k.2⟩

theorem s_iloadN (k : K p l e R s m args below meth c bytes own maxL ret nm T locs cells slots Z h n0) {i : Fin 4} {v : Int32} (hd : decode bytes pc = .ok (.iload_n i, 1)) (hl : Ls[i.val]? = some (.val (.int v))) (hp : pc + 1 = pc') (g : Go p e below P T (mkF m pc' Ls (.int v :: st))) : Go p e below P T (mkF m pc Ls st) := by
  subst hp
  exact Go.to (fun _ q => XS.iloadN k.1.here k.2.1 rfl (hb k.2.2.2.2.2.1 hd) hl q) g
theorem s_istoreN (k : K p l e R s m args below meth c bytes own maxL ret nm T locs cells slots Z h n0) {i : Fin 4} {x : Int32} {l' : Array Slot} (hd : decode bytes pc = .ok (.istore_n i, 1)) (hl : storeLocals Ls i.val (.int x) = some l') (hp : pc + 1 = pc') (g : Go p e below P T (mkF m pc' l' st)) : Go p e below P T (mkF m pc Ls (.int x :: st)) := by
  subst hp
  exact Go.to (fun _ q => XS.istoreN k.1.here k.2.1 rfl (hb k.2.2.2.2.2.1 hd) rfl hl q) g
theorem s_iload (k : K p l e R s m args below meth c bytes own maxL ret nm T locs cells slots Z h n0) {i : Nat} {v : Int32} (hd : decode bytes pc = .ok (.iload i, 2)) (hl : Ls[i]? = some (.val (.int v))) (hp : pc + 2 = pc') (g : Go p e below P T (mkF m pc' Ls (.int v :: st))) : Go p e below P T (mkF m pc Ls st) := by
  subst hp
  exact Go.to (fun _ q => XS.iload k.1.here k.2.1 rfl (hb k.2.2.2.2.2.1 hd) hl q) g
theorem s_istore (k : K p l e R s m args below meth c bytes own maxL ret nm T locs cells slots Z h n0) {i : Nat} {x : Int32} {l' : Array Slot} (hd : decode bytes pc = .ok (.istore i, 2)) (hl : storeLocals Ls i (.int x) = some l') (hp : pc + 2 = pc') (g : Go p e below P T (mkF m pc' l' st)) : Go p e below P T (mkF m pc Ls (.int x :: st)) := by
  subst hp
  exact Go.to (fun _ q => XS.istore k.1.here k.2.1 rfl (hb k.2.2.2.2.2.1 hd) rfl hl q) g
theorem s_lloadN (k : K p l e R s m args below meth c bytes own maxL ret nm T locs cells slots Z h n0) {i : Fin 4} {v : Int64} (hd : decode bytes pc = .ok (.lload_n i, 1)) (hl : Ls[i.val]? = some (.val (.long v))) (hp : pc + 1 = pc') (g : Go p e below P T (mkF m pc' Ls (.long v :: st))) : Go p e below P T (mkF m pc Ls st) := by
  subst hp
  exact Go.to (fun _ q => XT.lloadN k.1.here k.2.1 rfl (hb k.2.2.2.2.2.1 hd) hl q) g
theorem s_lstoreN (k : K p l e R s m args below meth c bytes own maxL ret nm T locs cells slots Z h n0) {i : Fin 4} {x : Int64} {l' : Array Slot} (hd : decode bytes pc = .ok (.lstore_n i, 1)) (hl : storeLocals Ls i.val (.long x) = some l') (hp : pc + 1 = pc') (g : Go p e below P T (mkF m pc' l' st)) : Go p e below P T (mkF m pc Ls (.long x :: st)) := by
  subst hp
  exact Go.to (fun _ q => XT.lstoreN k.1.here k.2.1 rfl (hb k.2.2.2.2.2.1 hd) rfl hl q) g
theorem s_lload (k : K p l e R s m args below meth c bytes own maxL ret nm T locs cells slots Z h n0) {i : Nat} {v : Int64} (hd : decode bytes pc = .ok (.lload i, 2)) (hl : Ls[i]? = some (.val (.long v))) (hp : pc + 2 = pc') (g : Go p e below P T (mkF m pc' Ls (.long v :: st))) : Go p e below P T (mkF m pc Ls st) := by
  subst hp
  exact Go.to (fun _ q => XT.lload k.1.here k.2.1 rfl (hb k.2.2.2.2.2.1 hd) hl q) g
theorem s_lstore (k : K p l e R s m args below meth c bytes own maxL ret nm T locs cells slots Z h n0) {i : Nat} {x : Int64} {l' : Array Slot} (hd : decode bytes pc = .ok (.lstore i, 2)) (hl : storeLocals Ls i (.long x) = some l') (hp : pc + 2 = pc') (g : Go p e below P T (mkF m pc' l' st)) : Go p e below P T (mkF m pc Ls (.long x :: st)) := by
  subst hp
  exact Go.to (fun _ q => XT.lstore k.1.here k.2.1 rfl (hb k.2.2.2.2.2.1 hd) rfl hl q) g
theorem s_aloadN (k : K p l e R s m args below meth c bytes own maxL ret nm T locs cells slots Z h n0) {i : Fin 4} {v : Value} (hd : decode bytes pc = .ok (.aload_n i, 1)) (hl : Ls[i.val]? = some (.val v)) (hv : v.isRef = true) (hp : pc + 1 = pc') (g : Go p e below P T (mkF m pc' Ls (v :: st))) : Go p e below P T (mkF m pc Ls st) := by
  subst hp
  exact Go.to (fun _ q => XS.aloadN k.1.here k.2.1 rfl (hb k.2.2.2.2.2.1 hd) hl hv q) g
theorem s_astoreN (k : K p l e R s m args below meth c bytes own maxL ret nm T locs cells slots Z h n0) {i : Fin 4} {x : Value} {l' : Array Slot} (hd : decode bytes pc = .ok (.astore_n i, 1)) (hv : x.isRef = true) (hl : storeLocals Ls i.val x = some l') (hp : pc + 1 = pc') (g : Go p e below P T (mkF m pc' l' st)) : Go p e below P T (mkF m pc Ls (x :: st)) := by
  subst hp
  exact Go.to (fun _ q => XS.astoreN k.1.here k.2.1 rfl (hb k.2.2.2.2.2.1 hd) rfl hv hl q) g
theorem s_aload (k : K p l e R s m args below meth c bytes own maxL ret nm T locs cells slots Z h n0) {i : Nat} {v : Value} (hd : decode bytes pc = .ok (.aload i, 2)) (hl : Ls[i]? = some (.val v)) (hv : v.isRef = true) (hp : pc + 2 = pc') (g : Go p e below P T (mkF m pc' Ls (v :: st))) : Go p e below P T (mkF m pc Ls st) := by
  subst hp
  exact Go.to (fun _ q => XS.aload k.1.here k.2.1 rfl (hb k.2.2.2.2.2.1 hd) hl hv q) g
theorem s_astore (k : K p l e R s m args below meth c bytes own maxL ret nm T locs cells slots Z h n0) {i : Nat} {x : Value} {l' : Array Slot} (hd : decode bytes pc = .ok (.astore i, 2)) (hv : x.isRef = true) (hl : storeLocals Ls i x = some l') (hp : pc + 2 = pc') (g : Go p e below P T (mkF m pc' l' st)) : Go p e below P T (mkF m pc Ls (x :: st)) := by
  subst hp
  exact Go.to (fun _ q => XS.astore k.1.here k.2.1 rfl (hb k.2.2.2.2.2.1 hd) rfl hv hl q) g
theorem s_iconst (k : K p l e R s m args below meth c bytes own maxL ret nm T locs cells slots Z h n0) {i : Int} {z : Int32} (hd : decode bytes pc = .ok (.iconst i, 1)) (hz : Int32.ofInt i = z) (hp : pc + 1 = pc') (g : Go p e below P T (mkF m pc' Ls (.int z :: st))) : Go p e below P T (mkF m pc Ls st) := by
  subst hp hz
  exact Go.to (fun _ q => XS.iconst k.1.here k.2.1 rfl (hb k.2.2.2.2.2.1 hd) q) g
theorem s_bipush (k : K p l e R s m args below meth c bytes own maxL ret nm T locs cells slots Z h n0) {i : Int} {z : Int32} (hd : decode bytes pc = .ok (.bipush i, 2)) (hz : (Int8.ofInt i).toInt32 = z) (hp : pc + 2 = pc') (g : Go p e below P T (mkF m pc' Ls (.int z :: st))) : Go p e below P T (mkF m pc Ls st) := by
  subst hp hz
  exact Go.to (fun _ q => XS.bipush k.1.here k.2.1 rfl (hb k.2.2.2.2.2.1 hd) q) g
theorem s_sipush (k : K p l e R s m args below meth c bytes own maxL ret nm T locs cells slots Z h n0) {i : Int} {z : Int32} (hd : decode bytes pc = .ok (.sipush i, 3)) (hz : (Int16.ofInt i).toInt32 = z) (hp : pc + 3 = pc') (g : Go p e below P T (mkF m pc' Ls (.int z :: st))) : Go p e below P T (mkF m pc Ls st) := by
  subst hp hz
  exact Go.to (fun _ q => XS.sipush k.1.here k.2.1 rfl (hb k.2.2.2.2.2.1 hd) q) g
theorem s_lconst (k : K p l e R s m args below meth c bytes own maxL ret nm T locs cells slots Z h n0) {i : Fin 2} {z : Int64} (hd : decode bytes pc = .ok (.lconst i, 1)) (hz : Int64.ofNat i = z) (hp : pc + 1 = pc') (g : Go p e below P T (mkF m pc' Ls (.long z :: st))) : Go p e below P T (mkF m pc Ls st) := by
  subst hp hz
  exact Go.to (fun _ q => XT.lconst k.1.here k.2.1 rfl (hb k.2.2.2.2.2.1 hd) q) g
theorem s_null (k : K p l e R s m args below meth c bytes own maxL ret nm T locs cells slots Z h n0)  (hd : decode bytes pc = .ok (.aconst_null, 1))  (hp : pc + 1 = pc') (g : Go p e below P T (mkF m pc' Ls (.null :: st))) : Go p e below P T (mkF m pc Ls st) := by
  subst hp
  exact Go.to (fun _ q => XS.aconstNull k.1.here k.2.1 rfl (hb k.2.2.2.2.2.1 hd)  q) g
theorem s_iadd (k : K p l e R s m args below meth c bytes own maxL ret nm T locs cells slots Z h n0) {x y : Int32} {z : Int32} (hd : decode bytes pc = .ok (.iadd, 1))  (hz : x + y = z) (hp : pc + 1 = pc') (g : Go p e below P T (mkF m pc' Ls (.int z :: st))) : Go p e below P T (mkF m pc Ls (.int y :: .int x :: st)) := by
  subst hp hz
  exact Go.to (fun _ q => XS.iadd k.1.here k.2.1 rfl (hb k.2.2.2.2.2.1 hd) rfl q) g
theorem s_ladd (k : K p l e R s m args below meth c bytes own maxL ret nm T locs cells slots Z h n0) {x y : Int64} {z : Int64} (hd : decode bytes pc = .ok (.ladd, 1))  (hz : x + y = z) (hp : pc + 1 = pc') (g : Go p e below P T (mkF m pc' Ls (.long z :: st))) : Go p e below P T (mkF m pc Ls (.long y :: .long x :: st)) := by
  subst hp hz
  exact Go.to (fun _ q => XT.ladd k.1.here k.2.1 rfl (hb k.2.2.2.2.2.1 hd) rfl q) g
theorem s_isub (k : K p l e R s m args below meth c bytes own maxL ret nm T locs cells slots Z h n0) {x y : Int32} {z : Int32} (hd : decode bytes pc = .ok (.isub, 1))  (hz : x - y = z) (hp : pc + 1 = pc') (g : Go p e below P T (mkF m pc' Ls (.int z :: st))) : Go p e below P T (mkF m pc Ls (.int y :: .int x :: st)) := by
  subst hp hz
  exact Go.to (fun _ q => XS.isub k.1.here k.2.1 rfl (hb k.2.2.2.2.2.1 hd) rfl q) g
theorem s_lsub (k : K p l e R s m args below meth c bytes own maxL ret nm T locs cells slots Z h n0) {x y : Int64} {z : Int64} (hd : decode bytes pc = .ok (.lsub, 1))  (hz : x - y = z) (hp : pc + 1 = pc') (g : Go p e below P T (mkF m pc' Ls (.long z :: st))) : Go p e below P T (mkF m pc Ls (.long y :: .long x :: st)) := by
  subst hp hz
  exact Go.to (fun _ q => XT.lsub k.1.here k.2.1 rfl (hb k.2.2.2.2.2.1 hd) rfl q) g
theorem s_imul (k : K p l e R s m args below meth c bytes own maxL ret nm T locs cells slots Z h n0) {x y : Int32} {z : Int32} (hd : decode bytes pc = .ok (.imul, 1))  (hz : x * y = z) (hp : pc + 1 = pc') (g : Go p e below P T (mkF m pc' Ls (.int z :: st))) : Go p e below P T (mkF m pc Ls (.int y :: .int x :: st)) := by
  subst hp hz
  exact Go.to (fun _ q => XS.imul k.1.here k.2.1 rfl (hb k.2.2.2.2.2.1 hd) rfl q) g
theorem s_lmul (k : K p l e R s m args below meth c bytes own maxL ret nm T locs cells slots Z h n0) {x y : Int64} {z : Int64} (hd : decode bytes pc = .ok (.lmul, 1))  (hz : x * y = z) (hp : pc + 1 = pc') (g : Go p e below P T (mkF m pc' Ls (.long z :: st))) : Go p e below P T (mkF m pc Ls (.long y :: .long x :: st)) := by
  subst hp hz
  exact Go.to (fun _ q => XT.lmul k.1.here k.2.1 rfl (hb k.2.2.2.2.2.1 hd) rfl q) g
theorem s_iand (k : K p l e R s m args below meth c bytes own maxL ret nm T locs cells slots Z h n0) {x y : Int32} {z : Int32} (hd : decode bytes pc = .ok (.iand, 1))  (hz : x &&& y = z) (hp : pc + 1 = pc') (g : Go p e below P T (mkF m pc' Ls (.int z :: st))) : Go p e below P T (mkF m pc Ls (.int y :: .int x :: st)) := by
  subst hp hz
  exact Go.to (fun _ q => XS.iand k.1.here k.2.1 rfl (hb k.2.2.2.2.2.1 hd) rfl q) g
theorem s_land (k : K p l e R s m args below meth c bytes own maxL ret nm T locs cells slots Z h n0) {x y : Int64} {z : Int64} (hd : decode bytes pc = .ok (.land, 1))  (hz : x &&& y = z) (hp : pc + 1 = pc') (g : Go p e below P T (mkF m pc' Ls (.long z :: st))) : Go p e below P T (mkF m pc Ls (.long y :: .long x :: st)) := by
  subst hp hz
  exact Go.to (fun _ q => XT.land k.1.here k.2.1 rfl (hb k.2.2.2.2.2.1 hd) rfl q) g
theorem s_ior (k : K p l e R s m args below meth c bytes own maxL ret nm T locs cells slots Z h n0) {x y : Int32} {z : Int32} (hd : decode bytes pc = .ok (.ior, 1))  (hz : x ||| y = z) (hp : pc + 1 = pc') (g : Go p e below P T (mkF m pc' Ls (.int z :: st))) : Go p e below P T (mkF m pc Ls (.int y :: .int x :: st)) := by
  subst hp hz
  exact Go.to (fun _ q => XT.ior k.1.here k.2.1 rfl (hb k.2.2.2.2.2.1 hd) rfl q) g
theorem s_lor (k : K p l e R s m args below meth c bytes own maxL ret nm T locs cells slots Z h n0) {x y : Int64} {z : Int64} (hd : decode bytes pc = .ok (.lor, 1))  (hz : x ||| y = z) (hp : pc + 1 = pc') (g : Go p e below P T (mkF m pc' Ls (.long z :: st))) : Go p e below P T (mkF m pc Ls (.long y :: .long x :: st)) := by
  subst hp hz
  exact Go.to (fun _ q => XT.lor k.1.here k.2.1 rfl (hb k.2.2.2.2.2.1 hd) rfl q) g
theorem s_ixor (k : K p l e R s m args below meth c bytes own maxL ret nm T locs cells slots Z h n0) {x y : Int32} {z : Int32} (hd : decode bytes pc = .ok (.ixor, 1))  (hz : x ^^^ y = z) (hp : pc + 1 = pc') (g : Go p e below P T (mkF m pc' Ls (.int z :: st))) : Go p e below P T (mkF m pc Ls (.int y :: .int x :: st)) := by
  subst hp hz
  exact Go.to (fun _ q => XT.ixor k.1.here k.2.1 rfl (hb k.2.2.2.2.2.1 hd) rfl q) g
theorem s_lxor (k : K p l e R s m args below meth c bytes own maxL ret nm T locs cells slots Z h n0) {x y : Int64} {z : Int64} (hd : decode bytes pc = .ok (.lxor, 1))  (hz : x ^^^ y = z) (hp : pc + 1 = pc') (g : Go p e below P T (mkF m pc' Ls (.long z :: st))) : Go p e below P T (mkF m pc Ls (.long y :: .long x :: st)) := by
  subst hp hz
  exact Go.to (fun _ q => XT.lxor k.1.here k.2.1 rfl (hb k.2.2.2.2.2.1 hd) rfl q) g
theorem s_iushr (k : K p l e R s m args below meth c bytes own maxL ret nm T locs cells slots Z h n0) {x y : Int32} {z : Int32} (hd : decode bytes pc = .ok (.iushr, 1))  (hz : XT.ushr x y = z) (hp : pc + 1 = pc') (g : Go p e below P T (mkF m pc' Ls (.int z :: st))) : Go p e below P T (mkF m pc Ls (.int y :: .int x :: st)) := by
  subst hp hz
  exact Go.to (fun _ q => XT.iushr k.1.here k.2.1 rfl (hb k.2.2.2.2.2.1 hd) rfl q) g
theorem s_ishr (k : K p l e R s m args below meth c bytes own maxL ret nm T locs cells slots Z h n0) {x y : Int32} {z : Int32} (hd : decode bytes pc = .ok (.ishr, 1))  (hz : x >>> (y &&& 31) = z) (hp : pc + 1 = pc') (g : Go p e below P T (mkF m pc' Ls (.int z :: st))) : Go p e below P T (mkF m pc Ls (.int y :: .int x :: st)) := by
  subst hp hz
  exact Go.to (fun _ q => XT.ishr k.1.here k.2.1 rfl (hb k.2.2.2.2.2.1 hd) rfl q) g
theorem s_ishl (k : K p l e R s m args below meth c bytes own maxL ret nm T locs cells slots Z h n0) {x y : Int32} {z : Int32} (hd : decode bytes pc = .ok (.ishl, 1))  (hz : x <<< (y &&& 31) = z) (hp : pc + 1 = pc') (g : Go p e below P T (mkF m pc' Ls (.int z :: st))) : Go p e below P T (mkF m pc Ls (.int y :: .int x :: st)) := by
  subst hp hz
  exact Go.to (fun _ q => XT.ishl k.1.here k.2.1 rfl (hb k.2.2.2.2.2.1 hd) rfl q) g
theorem s_lushr (k : K p l e R s m args below meth c bytes own maxL ret nm T locs cells slots Z h n0) {x : Int64} {y : Int32} {z : Int64} (hd : decode bytes pc = .ok (.lushr, 1))  (hz : XT.ushrL x y = z) (hp : pc + 1 = pc') (g : Go p e below P T (mkF m pc' Ls (.long z :: st))) : Go p e below P T (mkF m pc Ls (.int y :: .long x :: st)) := by
  subst hp hz
  exact Go.to (fun _ q => XT.lushr k.1.here k.2.1 rfl (hb k.2.2.2.2.2.1 hd) rfl q) g
theorem s_lshl (k : K p l e R s m args below meth c bytes own maxL ret nm T locs cells slots Z h n0) {x : Int64} {y : Int32} {z : Int64} (hd : decode bytes pc = .ok (.lshl, 1))  (hz : x <<< (y.toInt64 &&& 63) = z) (hp : pc + 1 = pc') (g : Go p e below P T (mkF m pc' Ls (.long z :: st))) : Go p e below P T (mkF m pc Ls (.int y :: .long x :: st)) := by
  subst hp hz
  exact Go.to (fun _ q => XT.lshl k.1.here k.2.1 rfl (hb k.2.2.2.2.2.1 hd) rfl q) g
theorem s_lshr (k : K p l e R s m args below meth c bytes own maxL ret nm T locs cells slots Z h n0) {x : Int64} {y : Int32} {z : Int64} (hd : decode bytes pc = .ok (.lshr, 1))  (hz : x >>> (y.toInt64 &&& 63) = z) (hp : pc + 1 = pc') (g : Go p e below P T (mkF m pc' Ls (.long z :: st))) : Go p e below P T (mkF m pc Ls (.int y :: .long x :: st)) := by
  subst hp hz
  exact Go.to (fun _ q => XT.lshr k.1.here k.2.1 rfl (hb k.2.2.2.2.2.1 hd) rfl q) g
theorem s_idiv (k : K p l e R s m args below meth c bytes own maxL ret nm T locs cells slots Z h n0) {x y : Int32} {z : Int32} (hd : decode bytes pc = .ok (.idiv, 1)) (hy : y ≠ 0) (hz : x / y = z) (hp : pc + 1 = pc') (g : Go p e below P T (mkF m pc' Ls (.int z :: st))) : Go p e below P T (mkF m pc Ls (.int y :: .int x :: st)) := by
  subst hp hz
  exact Go.to (fun _ q => XS.idiv k.1.here k.2.1 rfl (hb k.2.2.2.2.2.1 hd) rfl hy q) g
theorem s_ldiv (k : K p l e R s m args below meth c bytes own maxL ret nm T locs cells slots Z h n0) {x y : Int64} {z : Int64} (hd : decode bytes pc = .ok (.ldiv, 1)) (hy : y ≠ 0) (hz : x / y = z) (hp : pc + 1 = pc') (g : Go p e below P T (mkF m pc' Ls (.long z :: st))) : Go p e below P T (mkF m pc Ls (.long y :: .long x :: st)) := by
  subst hp hz
  exact Go.to (fun _ q => XT.ldiv k.1.here k.2.1 rfl (hb k.2.2.2.2.2.1 hd) rfl hy q) g
theorem s_irem (k : K p l e R s m args below meth c bytes own maxL ret nm T locs cells slots Z h n0) {x y : Int32} {z : Int32} (hd : decode bytes pc = .ok (.irem, 1)) (hy : y ≠ 0) (hz : x % y = z) (hp : pc + 1 = pc') (g : Go p e below P T (mkF m pc' Ls (.int z :: st))) : Go p e below P T (mkF m pc Ls (.int y :: .int x :: st)) := by
  subst hp hz
  exact Go.to (fun _ q => iremM k.1 k.2.1 rfl (hb k.2.2.2.2.2.1 hd) rfl hy q) g
theorem s_lrem (k : K p l e R s m args below meth c bytes own maxL ret nm T locs cells slots Z h n0) {x y : Int64} {z : Int64} (hd : decode bytes pc = .ok (.lrem, 1)) (hy : y ≠ 0) (hz : x - x / y * y = z) (hp : pc + 1 = pc') (g : Go p e below P T (mkF m pc' Ls (.long z :: st))) : Go p e below P T (mkF m pc Ls (.long y :: .long x :: st)) := by
  subst hp hz
  exact Go.to (fun _ q => XT.lrem k.1.here k.2.1 rfl (hb k.2.2.2.2.2.1 hd) rfl hy q) g
theorem s_lneg (k : K p l e R s m args below meth c bytes own maxL ret nm T locs cells slots Z h n0) {x : Int64} {z : Int64} (hd : decode bytes pc = .ok (.lneg, 1))  (hz : -x = z) (hp : pc + 1 = pc') (g : Go p e below P T (mkF m pc' Ls (.long z :: st))) : Go p e below P T (mkF m pc Ls (.long x :: st)) := by
  subst hp hz
  exact Go.to (fun _ q => XT.lneg k.1.here k.2.1 rfl (hb k.2.2.2.2.2.1 hd) rfl q) g
theorem s_ineg (k : K p l e R s m args below meth c bytes own maxL ret nm T locs cells slots Z h n0) {x : Int32} {z : Int32} (hd : decode bytes pc = .ok (.ineg, 1))  (hz : -x = z) (hp : pc + 1 = pc') (g : Go p e below P T (mkF m pc' Ls (.int z :: st))) : Go p e below P T (mkF m pc Ls (.int x :: st)) := by
  subst hp hz
  exact Go.to (fun _ q => XS.ineg k.1.here k.2.1 rfl (hb k.2.2.2.2.2.1 hd) rfl q) g
theorem s_i2l (k : K p l e R s m args below meth c bytes own maxL ret nm T locs cells slots Z h n0) {x : Int32} {z : Int64} (hd : decode bytes pc = .ok (.i2l, 1))  (hz : x.toInt64 = z) (hp : pc + 1 = pc') (g : Go p e below P T (mkF m pc' Ls (.long z :: st))) : Go p e below P T (mkF m pc Ls (.int x :: st)) := by
  subst hp hz
  exact Go.to (fun _ q => XT.i2l k.1.here k.2.1 rfl (hb k.2.2.2.2.2.1 hd) rfl q) g
theorem s_l2i (k : K p l e R s m args below meth c bytes own maxL ret nm T locs cells slots Z h n0) {x : Int64} {z : Int32} (hd : decode bytes pc = .ok (.l2i, 1))  (hz : x.toInt32 = z) (hp : pc + 1 = pc') (g : Go p e below P T (mkF m pc' Ls (.int z :: st))) : Go p e below P T (mkF m pc Ls (.long x :: st)) := by
  subst hp hz
  exact Go.to (fun _ q => XT.l2i k.1.here k.2.1 rfl (hb k.2.2.2.2.2.1 hd) rfl q) g
theorem s_i2b (k : K p l e R s m args below meth c bytes own maxL ret nm T locs cells slots Z h n0) {x : Int32} {z : Int32} (hd : decode bytes pc = .ok (.i2b, 1))  (hz : x.toInt8.toInt32 = z) (hp : pc + 1 = pc') (g : Go p e below P T (mkF m pc' Ls (.int z :: st))) : Go p e below P T (mkF m pc Ls (.int x :: st)) := by
  subst hp hz
  exact Go.to (fun _ q => XT.i2b k.1.here k.2.1 rfl (hb k.2.2.2.2.2.1 hd) rfl q) g
theorem s_i2c (k : K p l e R s m args below meth c bytes own maxL ret nm T locs cells slots Z h n0) {x : Int32} {z : Int32} (hd : decode bytes pc = .ok (.i2c, 1))  (hz : x.toUInt32.toUInt16.toUInt32.toInt32 = z) (hp : pc + 1 = pc') (g : Go p e below P T (mkF m pc' Ls (.int z :: st))) : Go p e below P T (mkF m pc Ls (.int x :: st)) := by
  subst hp hz
  exact Go.to (fun _ q => XT.i2c k.1.here k.2.1 rfl (hb k.2.2.2.2.2.1 hd) rfl q) g
theorem s_dup (k : K p l e R s m args below meth c bytes own maxL ret nm T locs cells slots Z h n0) {x : Value} (hd : decode bytes pc = .ok (.dup, 1)) (hc : x.category = 1) (hp : pc + 1 = pc') (g : Go p e below P T (mkF m pc' Ls (x :: x :: st))) : Go p e below P T (mkF m pc Ls (x :: st)) := by
  subst hp
  exact Go.to (fun _ q => XS.dup k.1.here k.2.1 rfl (hb k.2.2.2.2.2.1 hd) rfl hc q) g
theorem s_pop (k : K p l e R s m args below meth c bytes own maxL ret nm T locs cells slots Z h n0) {x : Value} (hd : decode bytes pc = .ok (.pop, 1)) (hc : x.category = 1) (hp : pc + 1 = pc') (g : Go p e below P T (mkF m pc' Ls st)) : Go p e below P T (mkF m pc Ls (x :: st)) := by
  subst hp
  exact Go.to (fun _ q => XT.pop k.1.here k.2.1 rfl (hb k.2.2.2.2.2.1 hd) rfl hc q) g
theorem s_dupx1 (k : K p l e R s m args below meth c bytes own maxL ret nm T locs cells slots Z h n0) {x y : Value} (hd : decode bytes pc = .ok (.dup_x1, 1)) (hc : x.category = 1) (hc' : y.category = 1) (hp : pc + 1 = pc') (g : Go p e below P T (mkF m pc' Ls (x :: y :: x :: st))) : Go p e below P T (mkF m pc Ls (x :: y :: st)) := by
  subst hp
  exact Go.to (fun _ q => XT.dupX1 k.1.here k.2.1 rfl (hb k.2.2.2.2.2.1 hd) rfl hc hc' q) g
theorem s_dup2 (k : K p l e R s m args below meth c bytes own maxL ret nm T locs cells slots Z h n0) {x y : Value} (hd : decode bytes pc = .ok (.dup2, 1)) (hc : x.category = 1) (hc' : y.category = 1) (hp : pc + 1 = pc') (g : Go p e below P T (mkF m pc' Ls (x :: y :: x :: y :: st))) : Go p e below P T (mkF m pc Ls (x :: y :: st)) := by
  subst hp
  exact Go.to (fun _ q => XT.dup2 k.1.here k.2.1 rfl (hb k.2.2.2.2.2.1 hd) rfl hc hc' q) g
theorem s_iinc (k : K p l e R s m args below meth c bytes own maxL ret nm T locs cells slots Z h n0) {i : Nat} {d : Int} {x z : Int32} {l' : Array Slot} (hd : decode bytes pc = .ok (.iinc i d, 3)) (hl : Ls[i]? = some (.val (.int x))) (hz : x + Int32.ofInt d = z) (hl' : storeLocals Ls i (.int z) = some l') (hp : pc + 3 = pc') (g : Go p e below P T (mkF m pc' l' st)) : Go p e below P T (mkF m pc Ls st) := by
  subst hp
  exact Go.to (fun _ q => XS.iinc k.1.here k.2.1 rfl (hb k.2.2.2.2.2.1 hd) hl (hz ▸ hl') q) g
theorem s_goto (k : K p l e R s m args below meth c bytes own maxL ret nm T locs cells slots Z h n0) {o : Int} (hd : decode bytes pc = .ok (.goto o, 3)) (ho : 0 ≤ (pc : Int) + o) (hp : ((pc : Int) + o).toNat = pc') (g : Go p e below P T (mkF m pc' Ls st)) : Go p e below P T (mkF m pc Ls st) :=
  Go.to (fun _ q => XS.goto k.1.here k.2.1 rfl rfl (hb k.2.2.2.2.2.1 hd) ho hp q) g
theorem s_icmp_eq (k : K p l e R s m args below meth c bytes own maxL ret nm T locs cells slots Z h n0) {x y : Int32} {o : Int} (hd : decode bytes pc = .ok (.if_icmp .eq o, 3)) (ho : 0 ≤ (pc : Int) + o) (hp : ((pc : Int) + o).toNat = pc') (h3 : pc + 3 = pc3) (gt : x = y → Go p e below P T (mkF m pc' Ls st)) (gf : ¬ (x = y) → Go p e below P T (mkF m pc3 Ls st)) : Go p e below P T (mkF m pc Ls (.int y :: .int x :: st)) := by
  subst h3
  by_cases hc : x = y
  · exact Go.to (fun _ q => XS.icmpYes k.1.here k.2.1 rfl rfl (hb k.2.2.2.2.2.1 hd) rfl (teq hc).1 ho hp q) (gt hc)
  · exact Go.to (fun _ q => XS.icmpNo k.1.here k.2.1 rfl (hb k.2.2.2.2.2.1 hd) rfl (feq hc).1 q) (gf hc)
theorem s_if_eq (k : K p l e R s m args below meth c bytes own maxL ret nm T locs cells slots Z h n0) {x : Int32} {o : Int} (hd : decode bytes pc = .ok (.ifCond .eq o, 3)) (ho : 0 ≤ (pc : Int) + o) (hp : ((pc : Int) + o).toNat = pc') (h3 : pc + 3 = pc3) (gt : x = 0 → Go p e below P T (mkF m pc' Ls st)) (gf : ¬ (x = 0) → Go p e below P T (mkF m pc3 Ls st)) : Go p e below P T (mkF m pc Ls (.int x :: st)) := by
  subst h3
  by_cases hc : x = 0
  · exact Go.to (fun _ q => XS.ifYes k.1.here k.2.1 rfl rfl (hb k.2.2.2.2.2.1 hd) rfl ((if0 _ _).trans (teq hc).1) ho hp q) (gt hc)
  · exact Go.to (fun _ q => XS.ifNo k.1.here k.2.1 rfl (hb k.2.2.2.2.2.1 hd) rfl ((if0 _ _).trans (feq hc).1) q) (gf hc)
theorem s_icmp_ne (k : K p l e R s m args below meth c bytes own maxL ret nm T locs cells slots Z h n0) {x y : Int32} {o : Int} (hd : decode bytes pc = .ok (.if_icmp .ne o, 3)) (ho : 0 ≤ (pc : Int) + o) (hp : ((pc : Int) + o).toNat = pc') (h3 : pc + 3 = pc3) (gt : x = y → Go p e below P T (mkF m pc3 Ls st)) (gf : ¬ (x = y) → Go p e below P T (mkF m pc' Ls st)) : Go p e below P T (mkF m pc Ls (.int y :: .int x :: st)) := by
  subst h3
  by_cases hc : x = y
  · exact Go.to (fun _ q => XS.icmpNo k.1.here k.2.1 rfl (hb k.2.2.2.2.2.1 hd) rfl (teq hc).2 q) (gt hc)
  · exact Go.to (fun _ q => XS.icmpYes k.1.here k.2.1 rfl rfl (hb k.2.2.2.2.2.1 hd) rfl (feq hc).2 ho hp q) (gf hc)
theorem s_if_ne (k : K p l e R s m args below meth c bytes own maxL ret nm T locs cells slots Z h n0) {x : Int32} {o : Int} (hd : decode bytes pc = .ok (.ifCond .ne o, 3)) (ho : 0 ≤ (pc : Int) + o) (hp : ((pc : Int) + o).toNat = pc') (h3 : pc + 3 = pc3) (gt : x = 0 → Go p e below P T (mkF m pc3 Ls st)) (gf : ¬ (x = 0) → Go p e below P T (mkF m pc' Ls st)) : Go p e below P T (mkF m pc Ls (.int x :: st)) := by
  subst h3
  by_cases hc : x = 0
  · exact Go.to (fun _ q => XS.ifNo k.1.here k.2.1 rfl (hb k.2.2.2.2.2.1 hd) rfl ((if0 _ _).trans (teq hc).2) q) (gt hc)
  · exact Go.to (fun _ q => XS.ifYes k.1.here k.2.1 rfl rfl (hb k.2.2.2.2.2.1 hd) rfl ((if0 _ _).trans (feq hc).2) ho hp q) (gf hc)
theorem s_icmp_lt (k : K p l e R s m args below meth c bytes own maxL ret nm T locs cells slots Z h n0) {x y : Int32} {o : Int} (hd : decode bytes pc = .ok (.if_icmp .lt o, 3)) (ho : 0 ≤ (pc : Int) + o) (hp : ((pc : Int) + o).toNat = pc') (h3 : pc + 3 = pc3) (gt : x < y → Go p e below P T (mkF m pc' Ls st)) (gf : ¬ (x < y) → Go p e below P T (mkF m pc3 Ls st)) : Go p e below P T (mkF m pc Ls (.int y :: .int x :: st)) := by
  subst h3
  by_cases hc : x < y
  · exact Go.to (fun _ q => XS.icmpYes k.1.here k.2.1 rfl rfl (hb k.2.2.2.2.2.1 hd) rfl (tlt hc).1 ho hp q) (gt hc)
  · exact Go.to (fun _ q => XS.icmpNo k.1.here k.2.1 rfl (hb k.2.2.2.2.2.1 hd) rfl (flt hc).1 q) (gf hc)
theorem s_if_lt (k : K p l e R s m args below meth c bytes own maxL ret nm T locs cells slots Z h n0) {x : Int32} {o : Int} (hd : decode bytes pc = .ok (.ifCond .lt o, 3)) (ho : 0 ≤ (pc : Int) + o) (hp : ((pc : Int) + o).toNat = pc') (h3 : pc + 3 = pc3) (gt : x < 0 → Go p e below P T (mkF m pc' Ls st)) (gf : ¬ (x < 0) → Go p e below P T (mkF m pc3 Ls st)) : Go p e below P T (mkF m pc Ls (.int x :: st)) := by
  subst h3
  by_cases hc : x < 0
  · exact Go.to (fun _ q => XS.ifYes k.1.here k.2.1 rfl rfl (hb k.2.2.2.2.2.1 hd) rfl ((if0 _ _).trans (tlt hc).1) ho hp q) (gt hc)
  · exact Go.to (fun _ q => XS.ifNo k.1.here k.2.1 rfl (hb k.2.2.2.2.2.1 hd) rfl ((if0 _ _).trans (flt hc).1) q) (gf hc)
theorem s_icmp_ge (k : K p l e R s m args below meth c bytes own maxL ret nm T locs cells slots Z h n0) {x y : Int32} {o : Int} (hd : decode bytes pc = .ok (.if_icmp .ge o, 3)) (ho : 0 ≤ (pc : Int) + o) (hp : ((pc : Int) + o).toNat = pc') (h3 : pc + 3 = pc3) (gt : x < y → Go p e below P T (mkF m pc3 Ls st)) (gf : ¬ (x < y) → Go p e below P T (mkF m pc' Ls st)) : Go p e below P T (mkF m pc Ls (.int y :: .int x :: st)) := by
  subst h3
  by_cases hc : x < y
  · exact Go.to (fun _ q => XS.icmpNo k.1.here k.2.1 rfl (hb k.2.2.2.2.2.1 hd) rfl (tlt hc).2.1 q) (gt hc)
  · exact Go.to (fun _ q => XS.icmpYes k.1.here k.2.1 rfl rfl (hb k.2.2.2.2.2.1 hd) rfl (flt hc).2.1 ho hp q) (gf hc)
theorem s_if_ge (k : K p l e R s m args below meth c bytes own maxL ret nm T locs cells slots Z h n0) {x : Int32} {o : Int} (hd : decode bytes pc = .ok (.ifCond .ge o, 3)) (ho : 0 ≤ (pc : Int) + o) (hp : ((pc : Int) + o).toNat = pc') (h3 : pc + 3 = pc3) (gt : x < 0 → Go p e below P T (mkF m pc3 Ls st)) (gf : ¬ (x < 0) → Go p e below P T (mkF m pc' Ls st)) : Go p e below P T (mkF m pc Ls (.int x :: st)) := by
  subst h3
  by_cases hc : x < 0
  · exact Go.to (fun _ q => XS.ifNo k.1.here k.2.1 rfl (hb k.2.2.2.2.2.1 hd) rfl ((if0 _ _).trans (tlt hc).2.1) q) (gt hc)
  · exact Go.to (fun _ q => XS.ifYes k.1.here k.2.1 rfl rfl (hb k.2.2.2.2.2.1 hd) rfl ((if0 _ _).trans (flt hc).2.1) ho hp q) (gf hc)
theorem s_icmp_gt (k : K p l e R s m args below meth c bytes own maxL ret nm T locs cells slots Z h n0) {x y : Int32} {o : Int} (hd : decode bytes pc = .ok (.if_icmp .gt o, 3)) (ho : 0 ≤ (pc : Int) + o) (hp : ((pc : Int) + o).toNat = pc') (h3 : pc + 3 = pc3) (gt : y < x → Go p e below P T (mkF m pc' Ls st)) (gf : ¬ (y < x) → Go p e below P T (mkF m pc3 Ls st)) : Go p e below P T (mkF m pc Ls (.int y :: .int x :: st)) := by
  subst h3
  by_cases hc : y < x
  · exact Go.to (fun _ q => XS.icmpYes k.1.here k.2.1 rfl rfl (hb k.2.2.2.2.2.1 hd) rfl (tlt hc).2.2.1 ho hp q) (gt hc)
  · exact Go.to (fun _ q => XS.icmpNo k.1.here k.2.1 rfl (hb k.2.2.2.2.2.1 hd) rfl (flt hc).2.2.1 q) (gf hc)
theorem s_if_gt (k : K p l e R s m args below meth c bytes own maxL ret nm T locs cells slots Z h n0) {x : Int32} {o : Int} (hd : decode bytes pc = .ok (.ifCond .gt o, 3)) (ho : 0 ≤ (pc : Int) + o) (hp : ((pc : Int) + o).toNat = pc') (h3 : pc + 3 = pc3) (gt : 0 < x → Go p e below P T (mkF m pc' Ls st)) (gf : ¬ (0 < x) → Go p e below P T (mkF m pc3 Ls st)) : Go p e below P T (mkF m pc Ls (.int x :: st)) := by
  subst h3
  by_cases hc : 0 < x
  · exact Go.to (fun _ q => XS.ifYes k.1.here k.2.1 rfl rfl (hb k.2.2.2.2.2.1 hd) rfl ((if0 _ _).trans (tlt hc).2.2.1) ho hp q) (gt hc)
  · exact Go.to (fun _ q => XS.ifNo k.1.here k.2.1 rfl (hb k.2.2.2.2.2.1 hd) rfl ((if0 _ _).trans (flt hc).2.2.1) q) (gf hc)
theorem s_icmp_le (k : K p l e R s m args below meth c bytes own maxL ret nm T locs cells slots Z h n0) {x y : Int32} {o : Int} (hd : decode bytes pc = .ok (.if_icmp .le o, 3)) (ho : 0 ≤ (pc : Int) + o) (hp : ((pc : Int) + o).toNat = pc') (h3 : pc + 3 = pc3) (gt : y < x → Go p e below P T (mkF m pc3 Ls st)) (gf : ¬ (y < x) → Go p e below P T (mkF m pc' Ls st)) : Go p e below P T (mkF m pc Ls (.int y :: .int x :: st)) := by
  subst h3
  by_cases hc : y < x
  · exact Go.to (fun _ q => XS.icmpNo k.1.here k.2.1 rfl (hb k.2.2.2.2.2.1 hd) rfl (tlt hc).2.2.2 q) (gt hc)
  · exact Go.to (fun _ q => XS.icmpYes k.1.here k.2.1 rfl rfl (hb k.2.2.2.2.2.1 hd) rfl (flt hc).2.2.2 ho hp q) (gf hc)
theorem s_if_le (k : K p l e R s m args below meth c bytes own maxL ret nm T locs cells slots Z h n0) {x : Int32} {o : Int} (hd : decode bytes pc = .ok (.ifCond .le o, 3)) (ho : 0 ≤ (pc : Int) + o) (hp : ((pc : Int) + o).toNat = pc') (h3 : pc + 3 = pc3) (gt : 0 < x → Go p e below P T (mkF m pc3 Ls st)) (gf : ¬ (0 < x) → Go p e below P T (mkF m pc' Ls st)) : Go p e below P T (mkF m pc Ls (.int x :: st)) := by
  subst h3
  by_cases hc : 0 < x
  · exact Go.to (fun _ q => XS.ifNo k.1.here k.2.1 rfl (hb k.2.2.2.2.2.1 hd) rfl ((if0 _ _).trans (tlt hc).2.2.2) q) (gt hc)
  · exact Go.to (fun _ q => XS.ifYes k.1.here k.2.1 rfl rfl (hb k.2.2.2.2.2.1 hd) rfl ((if0 _ _).trans (flt hc).2.2.2) ho hp q) (gf hc)
theorem cmpL_lt (x y : Int64) : XT.cmpL x y < 0 ↔ x < y := by unfold XT.cmpL; split <;> (try split) <;> simp_all [Int64.lt_iff_toInt_lt, ← Int64.toInt_inj] <;> omega
theorem cmpL_gt (x y : Int64) : 0 < XT.cmpL x y ↔ y < x := by unfold XT.cmpL; split <;> (try split) <;> simp_all [Int64.lt_iff_toInt_lt, ← Int64.toInt_inj] <;> omega
theorem cmpL_eq (x y : Int64) : XT.cmpL x y = 0 ↔ x = y := by unfold XT.cmpL; split <;> (try split) <;> simp_all [Int64.lt_iff_toInt_lt, ← Int64.toInt_inj] <;> omega
theorem s_lcmp_eq (k : K p l e R s m args below meth c bytes own maxL ret nm T locs cells slots Z h n0) {x y : Int64} {o : Int} {pc1 : Nat} (hd1 : decode bytes pc = .ok (.lcmp, 1)) (h1 : pc + 1 = pc1) (hd : decode bytes pc1 = .ok (.ifCond .eq o, 3)) (ho : 0 ≤ (pc1 : Int) + o) (hp : ((pc1 : Int) + o).toNat = pc') (h3 : pc1 + 3 = pc3) (gt : x = y → Go p e below P T (mkF m pc' Ls st)) (gf : ¬ (x = y) → Go p e below P T (mkF m pc3 Ls st)) : Go p e below P T (mkF m pc Ls (.long y :: .long x :: st)) := by
  subst h1
  refine Go.to (fun _ q => XT.lcmp k.1.here k.2.1 rfl (hb k.2.2.2.2.2.1 hd1) rfl q) ?_
  exact s_if_eq k hd ho hp h3 (fun q => gt ((cmpL_eq x y).mp q)) (fun q => gf fun z => q ((cmpL_eq x y).mpr z))
theorem s_lcmp_ne (k : K p l e R s m args below meth c bytes own maxL ret nm T locs cells slots Z h n0) {x y : Int64} {o : Int} {pc1 : Nat} (hd1 : decode bytes pc = .ok (.lcmp, 1)) (h1 : pc + 1 = pc1) (hd : decode bytes pc1 = .ok (.ifCond .ne o, 3)) (ho : 0 ≤ (pc1 : Int) + o) (hp : ((pc1 : Int) + o).toNat = pc') (h3 : pc1 + 3 = pc3) (gt : x = y → Go p e below P T (mkF m pc3 Ls st)) (gf : ¬ (x = y) → Go p e below P T (mkF m pc' Ls st)) : Go p e below P T (mkF m pc Ls (.long y :: .long x :: st)) := by
  subst h1
  refine Go.to (fun _ q => XT.lcmp k.1.here k.2.1 rfl (hb k.2.2.2.2.2.1 hd1) rfl q) ?_
  exact s_if_ne k hd ho hp h3 (fun q => gt ((cmpL_eq x y).mp q)) (fun q => gf fun z => q ((cmpL_eq x y).mpr z))
theorem s_lcmp_lt (k : K p l e R s m args below meth c bytes own maxL ret nm T locs cells slots Z h n0) {x y : Int64} {o : Int} {pc1 : Nat} (hd1 : decode bytes pc = .ok (.lcmp, 1)) (h1 : pc + 1 = pc1) (hd : decode bytes pc1 = .ok (.ifCond .lt o, 3)) (ho : 0 ≤ (pc1 : Int) + o) (hp : ((pc1 : Int) + o).toNat = pc') (h3 : pc1 + 3 = pc3) (gt : x < y → Go p e below P T (mkF m pc' Ls st)) (gf : ¬ (x < y) → Go p e below P T (mkF m pc3 Ls st)) : Go p e below P T (mkF m pc Ls (.long y :: .long x :: st)) := by
  subst h1
  refine Go.to (fun _ q => XT.lcmp k.1.here k.2.1 rfl (hb k.2.2.2.2.2.1 hd1) rfl q) ?_
  exact s_if_lt k hd ho hp h3 (fun q => gt ((cmpL_lt x y).mp q)) (fun q => gf fun z => q ((cmpL_lt x y).mpr z))
theorem s_lcmp_ge (k : K p l e R s m args below meth c bytes own maxL ret nm T locs cells slots Z h n0) {x y : Int64} {o : Int} {pc1 : Nat} (hd1 : decode bytes pc = .ok (.lcmp, 1)) (h1 : pc + 1 = pc1) (hd : decode bytes pc1 = .ok (.ifCond .ge o, 3)) (ho : 0 ≤ (pc1 : Int) + o) (hp : ((pc1 : Int) + o).toNat = pc') (h3 : pc1 + 3 = pc3) (gt : x < y → Go p e below P T (mkF m pc3 Ls st)) (gf : ¬ (x < y) → Go p e below P T (mkF m pc' Ls st)) : Go p e below P T (mkF m pc Ls (.long y :: .long x :: st)) := by
  subst h1
  refine Go.to (fun _ q => XT.lcmp k.1.here k.2.1 rfl (hb k.2.2.2.2.2.1 hd1) rfl q) ?_
  exact s_if_ge k hd ho hp h3 (fun q => gt ((cmpL_lt x y).mp q)) (fun q => gf fun z => q ((cmpL_lt x y).mpr z))
theorem s_lcmp_gt (k : K p l e R s m args below meth c bytes own maxL ret nm T locs cells slots Z h n0) {x y : Int64} {o : Int} {pc1 : Nat} (hd1 : decode bytes pc = .ok (.lcmp, 1)) (h1 : pc + 1 = pc1) (hd : decode bytes pc1 = .ok (.ifCond .gt o, 3)) (ho : 0 ≤ (pc1 : Int) + o) (hp : ((pc1 : Int) + o).toNat = pc') (h3 : pc1 + 3 = pc3) (gt : y < x → Go p e below P T (mkF m pc' Ls st)) (gf : ¬ (y < x) → Go p e below P T (mkF m pc3 Ls st)) : Go p e below P T (mkF m pc Ls (.long y :: .long x :: st)) := by
  subst h1
  refine Go.to (fun _ q => XT.lcmp k.1.here k.2.1 rfl (hb k.2.2.2.2.2.1 hd1) rfl q) ?_
  exact s_if_gt k hd ho hp h3 (fun q => gt ((cmpL_gt x y).mp q)) (fun q => gf fun z => q ((cmpL_gt x y).mpr z))
theorem s_lcmp_le (k : K p l e R s m args below meth c bytes own maxL ret nm T locs cells slots Z h n0) {x y : Int64} {o : Int} {pc1 : Nat} (hd1 : decode bytes pc = .ok (.lcmp, 1)) (h1 : pc + 1 = pc1) (hd : decode bytes pc1 = .ok (.ifCond .le o, 3)) (ho : 0 ≤ (pc1 : Int) + o) (hp : ((pc1 : Int) + o).toNat = pc') (h3 : pc1 + 3 = pc3) (gt : y < x → Go p e below P T (mkF m pc3 Ls st)) (gf : ¬ (y < x) → Go p e below P T (mkF m pc' Ls st)) : Go p e below P T (mkF m pc Ls (.long y :: .long x :: st)) := by
  subst h1
  refine Go.to (fun _ q => XT.lcmp k.1.here k.2.1 rfl (hb k.2.2.2.2.2.1 hd1) rfl q) ?_
  exact s_if_le k hd ho hp h3 (fun q => gt ((cmpL_gt x y).mp q)) (fun q => gf fun z => q ((cmpL_gt x y).mpr z))
theorem s_ldcI (k : K p l e R s m args below meth c bytes own maxL ret nm T locs cells slots Z h n0) {index : Nat} {v : Int32} (hd : decode bytes pc = .ok (.ldc index, 2)) (w : (Cond.constant own index v).before a0 Z = true) (hp : pc + 2 = pc') (g : Go p e below P T (mkF m pc' Ls (.int v :: st))) : Go p e below P T (mkF m pc Ls st) := by
  subst hp
  exact Go.to (k.1.ldcInt k.2.1 k.2.2.2.2.2.2.1 (mvT k.2.2.1 w) (g := mkF m pc Ls st) rfl (hb k.2.2.2.2.2.1 hd)) g
theorem s_ldcwI (k : K p l e R s m args below meth c bytes own maxL ret nm T locs cells slots Z h n0) {index : Nat} {v : Int32} (hd : decode bytes pc = .ok (.ldc_w index, 3)) (w : (Cond.constant own index v).before a0 Z = true) (hp : pc + 3 = pc') (g : Go p e below P T (mkF m pc' Ls (.int v :: st))) : Go p e below P T (mkF m pc Ls st) := by
  subst hp
  exact Go.to (k.1.ldcwInt k.2.1 k.2.2.2.2.2.2.1 (mvT k.2.2.1 w) (g := mkF m pc Ls st) rfl (hb k.2.2.2.2.2.1 hd)) g
theorem s_ldcL (k : K p l e R s m args below meth c bytes own maxL ret nm T locs cells slots Z h n0) {index : Nat} {v : Int64} (hd : decode bytes pc = .ok (.ldc2_w index, 3)) (w : (Cond.constantLong own index v).before a0 Z = true) (hp : pc + 3 = pc') (g : Go p e below P T (mkF m pc' Ls (.long v :: st))) : Go p e below P T (mkF m pc Ls st) := by
  subst hp
  exact Go.to (k.1.ldc2Long k.2.1 k.2.2.2.2.2.2.1 (mvT k.2.2.1 w) (g := mkF m pc Ls st) rfl (hb k.2.2.2.2.2.1 hd)) g
/-- a null test -/
theorem s_nullY (k : K p l e R s m args below meth c bytes own maxL ret nm T locs cells slots Z h n0) {o : Int} (hd : decode bytes pc = .ok (.ifnull o, 3)) (ho : 0 ≤ (pc : Int) + o) (hp : ((pc : Int) + o).toNat = pc') (g : Go p e below P T (mkF m pc' Ls st)) : Go p e below P T (mkF m pc Ls (.null :: st)) :=
  Go.to (fun _ q => XS.ifnullYes k.1.here k.2.1 rfl rfl (hb k.2.2.2.2.2.1 hd) rfl ho hp q) g
theorem s_nullN (k : K p l e R s m args below meth c bytes own maxL ret nm T locs cells slots Z h n0) {o : Int} {b : Addr} (hd : decode bytes pc = .ok (.ifnull o, 3)) (hp : pc + 3 = pc') (g : Go p e below P T (mkF m pc' Ls st)) : Go p e below P T (mkF m pc Ls (.ref b :: st)) := by
  subst hp
  exact Go.to (fun _ q => XS.ifnullNo k.1.here k.2.1 rfl (hb k.2.2.2.2.2.1 hd) rfl q) g
theorem s_nonnullY (k : K p l e R s m args below meth c bytes own maxL ret nm T locs cells slots Z h n0) {o : Int} {b : Addr} (hd : decode bytes pc = .ok (.ifnonnull o, 3)) (ho : 0 ≤ (pc : Int) + o) (hp : ((pc : Int) + o).toNat = pc') (g : Go p e below P T (mkF m pc' Ls st)) : Go p e below P T (mkF m pc Ls (.ref b :: st)) :=
  Go.to (fun _ q => XT.ifnonnullYes k.1.here k.2.1 rfl rfl (hb k.2.2.2.2.2.1 hd) rfl ho hp q) g
theorem s_nonnullN (k : K p l e R s m args below meth c bytes own maxL ret nm T locs cells slots Z h n0) {o : Int} (hd : decode bytes pc = .ok (.ifnonnull o, 3)) (hp : pc + 3 = pc') (g : Go p e below P T (mkF m pc' Ls st)) : Go p e below P T (mkF m pc Ls (.null :: st)) := by
  subst hp
  exact Go.to (fun _ q => XT.ifnonnullNo k.1.here k.2.1 rfl (hb k.2.2.2.2.2.1 hd) rfl q) g
theorem s_acmp_ne (k : K p l e R s m args below meth c bytes own maxL ret nm T locs cells slots Z h n0) {x y : Value} {o : Int} (hd : decode bytes pc = .ok (.if_acmp .ne o, 3)) (hx : x.isRef = true) (hy : y.isRef = true) (ho : 0 ≤ (pc : Int) + o) (hp : ((pc : Int) + o).toNat = pc') (h3 : pc + 3 = pc3) (gt : x = y → Go p e below P T (mkF m pc3 Ls st)) (gf : ¬ (x = y) → Go p e below P T (mkF m pc' Ls st)) : Go p e below P T (mkF m pc Ls (y :: x :: st)) := by
  by_cases hc : x = y
  · exact Go.to (fun _ q => Jvm.RoadKit.acmp (g := mkF m pc Ls (y :: x :: st)) k.1 k.2.1 rfl hx hy (pc' := pc3) (same := true) rfl (hb k.2.2.2.2.2.1 hd) rfl (decide_eq_true hc) ho h3.symm q) (gt hc)
  · exact Go.to (fun _ q => Jvm.RoadKit.acmp (g := mkF m pc Ls (y :: x :: st)) k.1 k.2.1 rfl hx hy (pc' := pc') (same := false) rfl (hb k.2.2.2.2.2.1 hd) rfl (decide_eq_false hc) ho hp.symm q) (gf hc)
/-- getfield -/
theorem s_get (k : K p l e R s m args below meth c bytes own maxL ret nm T locs cells slots Z h n0) {R0 O n d host : String} {index : Nat} {a : Addr} {v : Value} (hd : decode bytes pc = .ok (.getfield index, 3)) (w : (Cond.fieldLink own index R0 n d).before a0 Z = true ∨ (Cond.fieldLinkNest own index R0 n d host).before a0 Z = true) (via : Via Z R0 O n d) (F : Fld Z h a O n d v) (hp : pc + 3 = pc')
    (g : ∀ T', K p l e R s m args below meth c bytes own maxL ret nm T' locs cells slots Z h n0 → Go p e below P T' (mkF m pc' Ls (v :: st))) : Go p e below P T (mkF m pc Ls (.ref a :: st)) := by
  subst hp
  obtain ⟨T', X', e', q⟩ := getF k.1 k.2.1 k.2.2.1 k.2.2.2.2.2.2.1 w via k.2.2.2.1 F (g := mkF m pc Ls (.ref a :: st)) rfl rfl (hb k.2.2.2.2.2.1 hd)
  exact Go.to q (g T' (k_hp k X' e' k.2.2.2.2.1))
/-- putfield -/
theorem s_put (k : K p l e R s m args below meth c bytes own maxL ret nm T locs cells slots Z h n0) {R0 O n d host C : String} {index kk : Nat} {ty : FieldType} {a : Addr} {v old : Value} (hd : decode bytes pc = .ok (.putfield index, 3)) (w : (Cond.fieldLink own index R0 n d).before a0 Z = true ∨ (Cond.fieldLinkNest own index R0 n d host).before a0 Z = true) (via : Via Z R0 O n d) (F : Fld Z h a O n d old) (E : Exa Z h a C) (L : (Cond.lays C O n d).before a0 Z = true ∨ ((Cond.laysFinal C O n d).before a0 Z = true ∧ own = O ∧ nm = "<init>")) (wi : (Cond.instantiable C kk).before a0 Z = true)
    (hty : parseFieldDescriptor d = some ty) (hn : narrow ty v = v) (hf : fits ty v = true) (ha : n0 ≤ a) (hp : pc + 3 = pc')
    (g : ∀ T' h' L', K p l e R s m args below meth c bytes own maxL ret nm T' L' cells slots Z h' n0 → Wr h h' a (Jvm.RoadKit.slotOf Z O n d) v → Go p e below P T' (mkF m pc' Ls st)) : Go p e below P T (mkF m pc Ls (v :: .ref a :: st)) := by
  subst hp
  obtain ⟨T', h', X', e', W, q⟩ := putF k.1 k.2.1 k.2.2.1 k.2.2.2.2.2.2.1 w via k.2.2.2.1 F E (L.imp id fun z => ⟨z.1, z.2.1, k.2.2.2.2.2.2.2.2.2.1.trans z.2.2⟩) wi hty hn hf (g := mkF m pc Ls (v :: .ref a :: st)) rfl rfl (hb k.2.2.2.2.2.1 hd)
  exact Go.to q (g T' h' _ (k_hp k X' e' (Fr.snoc X' k.2.2.2.2.1 ha)) W)
/-- getfield by an entry that is resolved -/
theorem ready_of (k : K p l e R s m args below meth c bytes own maxL ret nm T locs cells slots Z h n0) {R0 O n d : String} {index : Nat} (w : (Cond.fieldRef own index R0 n d).before a0 Z = true) (via : Via Z R0 O n d) {cf i : Nat} {kk : Class} {f : Field} (h2 : Z.fieldFound? O n d = some (cf, kk, i, f)) : T.vm.fieldReady m.cls index cf f := by
  have hU : Z.Warmed39 T.vm := wtrans k.2.2.1 k.1.warmed
  have hw := Cond.fieldRef_warmed39 hU w
  have hcur : (Z.setVm T.vm).vm.findClass own = some m.cls := by
    show T.vm.findClass own = _
    rw [k.1.warmed.alike.findClass]; exact k.2.2.2.2.2.2.1
  obtain ⟨c1, k1, i1, f1, hi1, hr1⟩ := Cond.fieldRef_spec hcur hw
  obtain ⟨k', hi', -⟩ := State.fieldFound?_setVm (s := Z) hU.alike (via _ h2)
  cases hi1.symm.trans hi'
  exact hr1
theorem s_getR (k : K p l e R s m args below meth c bytes own maxL ret nm T locs cells slots Z h n0) {R0 O n d : String} {index : Nat} {a : Addr} {v : Value} (hd : decode bytes pc = .ok (.getfield index, 3)) (w : (Cond.fieldRef own index R0 n d).before a0 Z = true) (via : Via Z R0 O n d) (F : Fld Z h a O n d v) (hp : pc + 3 = pc') (g : Go p e below P T (mkF m pc' Ls (v :: st))) : Go p e below P T (mkF m pc Ls (.ref a :: st)) := by
  subst hp
  obtain ⟨cell, cf, kk, i, f, h1, h2, h3, h4, -, -, h7⟩ := F
  have hr1 := ready_of k w via h2
  have hcell : T.heap[a]? = some cell := by rw [k.2.2.2.1]; exact h1
  refine Go.to (fun target q => ?_) g
  jvm_step k.1.here [k.2.1, hb k.2.2.2.2.2.1 hd, getfield.wp_ready (e := e) (s := T) (f := mkF m pc Ls (.ref a :: st)) k.1.here.top hr1 h3 rfl hcell h4 h7]
  exact q
/-- putfield by an entry that is resolved -/
theorem s_putR (k : K p l e R s m args below meth c bytes own maxL ret nm T locs cells slots Z h n0) {R0 O n d C : String} {index kk : Nat} {ty : FieldType} {a : Addr} {v old : Value} (hd : decode bytes pc = .ok (.putfield index, 3)) (w : (Cond.fieldRef own index R0 n d).before a0 Z = true) (via : Via Z R0 O n d) (F : Fld Z h a O n d old) (E : Exa Z h a C) (L : (Cond.lays C O n d).before a0 Z = true) (wi : (Cond.instantiable C kk).before a0 Z = true)
    (hty : parseFieldDescriptor d = some ty) (hn : narrow ty v = v) (hf : fits ty v = true) (ha : n0 ≤ a) (hp : pc + 3 = pc')
    (g : ∀ T' h' L', K p l e R s m args below meth c bytes own maxL ret nm T' L' cells slots Z h' n0 → Wr h h' a (Jvm.RoadKit.slotOf Z O n d) v → Go p e below P T' (mkF m pc' Ls st)) : Go p e below P T (mkF m pc Ls (v :: .ref a :: st)) := by
  subst hp
  obtain ⟨cell, cf, kf, i, f, h1, h2, h3, h4, h5, -, h7⟩ := F
  obtain ⟨cell', kc, e1, e2, e3, -⟩ := E
  cases h1.symm.trans e1
  obtain ⟨c1, k1, cf1, kf1, i1, f1, a1, a2, a3, -, -, a6, -⟩ := Laid.spec (Or.inl L)
  cases h2.symm.trans a3
  cases e2.symm.trans a1
  obtain ⟨c2, k2, i1, i2, i3, -⟩ := Cond.instantiable_spec wi
  cases e2.symm.trans i1
  cases a2.symm.trans i2
  have ht := (State.fieldFound?_type h2 hty).2
  have hfit : Z.fitsSlot cell.cls cell.vm f.slot v = true := by
    have q : Z.slotType? cell.cls cell.vm f.slot = some ty := by
      simp only [State.slotType?, a2, Option.bind_eq_bind, Option.bind_some, i3]
      cases hq : cell.vm <;> first | (rw [hq] at h5; exact Bool.noConfusion h5) | (rw [a6, ht])
    simp [State.fitsSlot, q, hf]
  have hU : Z.Warmed39 T.vm := wtrans k.2.2.1 k.1.warmed
  have hfit' : T.fitsSlot cell.cls cell.vm f.slot v = true := by rw [← State.fitsSlot_setVm hU.alike] at hfit; exact hfit
  have hfin : hasFlag f.accessFlags Acc.final = false := by
    obtain ⟨_, _, _, _, _, _, -, -, b3, -, b5, -⟩ := Cond.lays_spec L
    cases h2.symm.trans b3
    exact b5
  have hr1 := ready_of k w via h2
  have hlt := (Array.getElem?_eq_some_iff.mp h7).1
  have es : Jvm.RoadKit.slotOf Z O n d = f.slot := by simp [Jvm.RoadKit.slotOf, h2]
  have hcell : T.heap[a]? = some cell := by rw [k.2.2.2.1]; exact h1
  obtain ⟨X', q⟩ := k.1.putfieldReady k.2.1 hr1 h3 (Or.inl hfin) hcell h4 hlt (by rw [ht]; exact hn) hfit' (g := mkF m pc Ls (v :: .ref a :: st)) rfl rfl (hb k.2.2.2.2.2.1 hd)
  refine Go.to q (g _ _ _ (k_hp k X' rfl (Fr.snoc X' k.2.2.2.2.1 ha)) ?_)
  rw [es]
  exact ⟨cell, h1, h5, hlt, by rw [← k.2.2.2.1]; rfl⟩
/-- new -/
theorem s_new (k : K p l e R s m args below meth c bytes own maxL ret nm T locs cells slots Z h n0) {C : String} {index n : Nat} (hd : decode bytes pc = .ok (.new index, 3)) (w : (Cond.classLink own index C).before a0 Z = true) (wi : (Cond.instantiable C n).before a0 Z = true) (wz : (Cond.initialized C).before a0 Z = true) (hc : cells + 1 ≤ R.cells) (hl : slots + n ≤ R.slots) (hp : pc + 3 = pc')
    (g : ∀ T' h' b, b = h.size → K p l e R s m args below meth c bytes own maxL ret nm T' locs (cells + 1) (slots + n) Z h' n0 → Ext h h' → Exa Z h' b C → (∀ {O nm d : String} {ty : FieldType}, Laid Z a0 C O nm d → parseFieldDescriptor d = some ty → Fld Z h' b O nm d (defaultValue ty)) → Go p e below P T' (mkF m pc' Ls (.ref b :: st))) : Go p e below P T (mkF m pc Ls st) := by
  subst hp
  obtain ⟨T', h', X', e', E, A, D, -, q⟩ := newO k.1 k.2.1 k.2.2.1 k.2.2.2.2.2.2.1 w wi wz k.2.2.2.1 (g := mkF m pc Ls st) rfl (hb k.2.2.2.2.2.1 hd) hc hl
  exact Go.to q (g T' h' _ rfl (k_hp k X' e' k.2.2.2.2.1) E A D)
/-- newarray of a primitive kind -/
theorem s_newP (k : K p l e R s m args below meth c bytes own maxL ret nm T locs cells slots Z h n0) {aty : ArrayType} {n : Int32} {cap : Nat} (hd : decode bytes pc = .ok (.newarray aty, 2)) (w : (Cond.arrayClass (newarray.typeOf aty)).before a0 Z = true) (hn : ¬ n < 0) (hcap : n.toNatClampNeg ≤ cap) (hb' : cap * 8 ≤ 536870912) (hc : cells + 1 ≤ R.cells) (hl : slots + cap ≤ R.slots) (hp : pc + 2 = pc')
    (g : ∀ T' h' b cA, b = h.size → K p l e R s m args below meth c bytes own maxL ret nm T' locs (cells + 1) (slots + cap) Z h' n0 → Ext h h' → Arv Z h' b cA (newarray.typeOf aty) n [] (defaultValue (newarray.typeOf aty)) → Go p e below P T' (mkF m pc' Ls (.ref b :: st))) : Go p e below P T (mkF m pc Ls (.int n :: st)) := by
  subst hp
  obtain ⟨T', h', cA, X', e', E, A, q⟩ := newP k.1 k.2.1 k.2.2.1 w k.2.2.2.1 (g := mkF m pc Ls (.int n :: st)) rfl (hb k.2.2.2.2.2.1 hd) rfl hn hcap hb' hc hl
  exact Go.to q (g T' h' _ cA rfl (k_hp k X' e' k.2.2.2.2.1) E (Arv.new A hn))
/-- anewarray -/
theorem s_newR (k : K p l e R s m args below meth c bytes own maxL ret nm T locs cells slots Z h n0) {C : String} {index : Nat} {n : Int32} {cap : Nat} (hd : decode bytes pc = .ok (.anewarray index, 3)) (w1 : (Cond.classLink own index C).before a0 Z = true) (w2 : (Cond.arrayOver (.object C)).before a0 Z = true) (hn : ¬ n < 0) (hcap : n.toNatClampNeg ≤ cap) (hb' : cap * 8 ≤ 536870912) (hc : cells + 1 ≤ R.cells) (hl : slots + cap ≤ R.slots) (hp : pc + 3 = pc')
    (g : ∀ T' h' b cA, b = h.size → K p l e R s m args below meth c bytes own maxL ret nm T' locs (cells + 1) (slots + cap) Z h' n0 → Ext h h' → Arv Z h' b cA (.object C) n [] .null → Ovr Z cA C → Go p e below P T' (mkF m pc' Ls (.ref b :: st))) : Go p e below P T (mkF m pc Ls (.int n :: st)) := by
  subst hp
  obtain ⟨T', h', cA, X', e', E, A, O, q⟩ := newR k.1 k.2.1 k.2.2.1 k.2.2.2.2.2.2.1 w1 w2 k.2.2.2.1 (g := mkF m pc Ls (.int n :: st)) rfl (hb k.2.2.2.2.2.1 hd) rfl hn hcap hb' hc hl
  exact Go.to q (g T' h' _ cA rfl (k_hp k X' e' k.2.2.2.2.1) E (Arv.new A hn) O)
/-- arraylength -/
theorem s_len (k : K p l e R s m args below meth c bytes own maxL ret nm T locs cells slots Z h n0) {a : Addr} {kc : ClassId} {ty : FieldType} {z : Int32} {vs : List Value} {dv : Value} (hd : decode bytes pc = .ok (.arraylength, 1)) (A : Arv Z h a kc ty z vs dv) (hp : pc + 1 = pc') (g : Go p e below P T (mkF m pc' Ls (.int z :: st))) : Go p e below P T (mkF m pc Ls (.ref a :: st)) := by
  subst hp
  obtain ⟨cl, A1, -, S, N, -⟩ := A
  rw [← len_of S N] at g
  exact Go.to (fun _ q => k.1.arraylength k.2.1 (by rw [k.2.2.2.1]; exact A1.1) (State.isArrayOf_alike k.2.2.1.alike A1.2.1) (g := mkF m pc Ls (.ref a :: st)) rfl rfl (hb k.2.2.2.2.2.1 hd) _ q) g

theorem s_laload (k : K p l e R s m args below meth c bytes own maxL ret nm T locs cells slots Z h n0) {a : Addr} {kc : ClassId} {z j : Int32} {vs : List Value} {dv v : Value} (hd : decode bytes pc = .ok (.laload, 1)) (A : Arv Z h a kc .long z vs dv) (hj : ¬ j < 0 ∧ j < z) (hv : vs.getD j.toNatClampNeg dv = v) (hp : pc + 1 = pc') (g : Go p e below P T (mkF m pc' Ls (v :: st))) : Go p e below P T (mkF m pc Ls (.int j :: .ref a :: st)) := by
  subst hp
  obtain ⟨cl, A1, -, S, N, H, -⟩ := A
  exact Go.to (fun _ q => k.1.laload k.2.1 (by rw [k.2.2.2.1]; exact A1.1) (State.isArrayOf_alike k.2.2.1.alike A1.2.1) A1.2.2 (inb_of S hj) (H.at (inb_of S hj) hv) (g := mkF m pc Ls (.int j :: .ref a :: st)) rfl rfl (hb k.2.2.2.2.2.1 hd) _ q) g
theorem s_baload (k : K p l e R s m args below meth c bytes own maxL ret nm T locs cells slots Z h n0) {a : Addr} {kc : ClassId} {z j : Int32} {vs : List Value} {dv v : Value} (hd : decode bytes pc = .ok (.baload, 1)) (A : Arv Z h a kc .byte z vs dv) (hj : ¬ j < 0 ∧ j < z) (hv : vs.getD j.toNatClampNeg dv = v) (hp : pc + 1 = pc') (g : Go p e below P T (mkF m pc' Ls (v :: st))) : Go p e below P T (mkF m pc Ls (.int j :: .ref a :: st)) := by
  subst hp
  obtain ⟨cl, A1, -, S, N, H, -⟩ := A
  exact Go.to (fun _ q => k.1.baloadBytes k.2.1 (by rw [k.2.2.2.1]; exact A1.1) (State.isArrayOf_alike k.2.2.1.alike A1.2.1) A1.2.2 (inb_of S hj) (H.at (inb_of S hj) hv) (g := mkF m pc Ls (.int j :: .ref a :: st)) rfl rfl (hb k.2.2.2.2.2.1 hd) _ q) g
theorem s_iaload (k : K p l e R s m args below meth c bytes own maxL ret nm T locs cells slots Z h n0) {a : Addr} {kc : ClassId} {z j : Int32} {vs : List Value} {dv v : Value} (hd : decode bytes pc = .ok (.iaload, 1)) (A : Arv Z h a kc .int z vs dv) (hj : ¬ j < 0 ∧ j < z) (hv : vs.getD j.toNatClampNeg dv = v) (hp : pc + 1 = pc') (g : Go p e below P T (mkF m pc' Ls (v :: st))) : Go p e below P T (mkF m pc Ls (.int j :: .ref a :: st)) := by
  subst hp
  obtain ⟨cl, A1, -, S, N, H, -⟩ := A
  exact Go.to (fun _ q => k.1.iaload k.2.1 (by rw [k.2.2.2.1]; exact A1.1) (State.isArrayOf_alike k.2.2.1.alike A1.2.1) A1.2.2 (inb_of S hj) (H.at (inb_of S hj) hv) (g := mkF m pc Ls (.int j :: .ref a :: st)) rfl rfl (hb k.2.2.2.2.2.1 hd) _ q) g
theorem s_aaload (k : K p l e R s m args below meth c bytes own maxL ret nm T locs cells slots Z h n0) {a : Addr} {kc : ClassId} {ty : FieldType} {z j : Int32} {vs : List Value} {dv v : Value} (hd : decode bytes pc = .ok (.aaload, 1)) (A : Arv Z h a kc ty z vs dv) (hty : ty.isReference = true) (hj : ¬ j < 0 ∧ j < z) (hv : vs.getD j.toNatClampNeg dv = v) (hp : pc + 1 = pc') (g : Go p e below P T (mkF m pc' Ls (v :: st))) : Go p e below P T (mkF m pc Ls (.int j :: .ref a :: st)) := by
  subst hp
  obtain ⟨cl, A1, -, S, N, H, -⟩ := A
  exact Go.to (fun _ q => k.1.aaload k.2.1 (by rw [k.2.2.2.1]; exact A1.1) (State.isArrayOf_alike k.2.2.1.alike A1.2.1) hty A1.2.2 (inb_of S hj) (H.at (inb_of S hj) hv) (g := mkF m pc Ls (.int j :: .ref a :: st)) rfl rfl (hb k.2.2.2.2.2.1 hd) _ q) g
theorem s_lastore (k : K p l e R s m args below meth c bytes own maxL ret nm T locs cells slots Z h n0) {a : Addr} {kc : ClassId} {z j : Int32} {vs : List Value} {dv : Value} {x : Int64} {i : Nat} (hd : decode bytes pc = .ok (.lastore, 1)) (A : Arv Z h a kc .long z vs dv) (hj : ¬ j < 0 ∧ j < z) (hi : j.toNatClampNeg = i) (hl : i < vs.length) (ha : n0 ≤ a) (hp : pc + 1 = pc')
    (g : ∀ T' h' L', K p l e R s m args below meth c bytes own maxL ret nm T' L' cells slots Z h' n0 → Wr h h' a i (.long x) → Arv Z h' a kc .long z (vs.set i (.long x)) dv → Go p e below P T' (mkF m pc' Ls st)) : Go p e below P T (mkF m pc Ls (.long x :: .int j :: .ref a :: st)) := by
  subst hp hi
  obtain ⟨cl, A1, q1, S, N, H, Gf⟩ := A
  obtain ⟨T', h', X', e', W, q⟩ := stJ k.1 k.2.1 k.2.2.1 k.2.2.2.1 A1 (inb_of S hj) (g := mkF m pc Ls (.long x :: .int j :: .ref a :: st)) rfl rfl (hb k.2.2.2.2.2.1 hd)
  exact Go.to q (g T' h' _ (k_hp k X' e' (Fr.snoc X' k.2.2.2.2.1 ha)) W (Arv.set A1 q1 S N H Gf rfl W _ rfl hl))
theorem s_iastore (k : K p l e R s m args below meth c bytes own maxL ret nm T locs cells slots Z h n0) {a : Addr} {kc : ClassId} {z j : Int32} {vs : List Value} {dv : Value} {x : Int32} {i : Nat} (hd : decode bytes pc = .ok (.iastore, 1)) (A : Arv Z h a kc .int z vs dv) (hj : ¬ j < 0 ∧ j < z) (hi : j.toNatClampNeg = i) (hl : i < vs.length) (ha : n0 ≤ a) (hp : pc + 1 = pc')
    (g : ∀ T' h' L', K p l e R s m args below meth c bytes own maxL ret nm T' L' cells slots Z h' n0 → Wr h h' a i (.int x) → Arv Z h' a kc .int z (vs.set i (.int x)) dv → Go p e below P T' (mkF m pc' Ls st)) : Go p e below P T (mkF m pc Ls (.int x :: .int j :: .ref a :: st)) := by
  subst hp hi
  obtain ⟨cl, A1, q1, S, N, H, Gf⟩ := A
  obtain ⟨T', h', X', e', W, q⟩ := stI k.1 k.2.1 k.2.2.1 k.2.2.2.1 A1 (inb_of S hj) (g := mkF m pc Ls (.int x :: .int j :: .ref a :: st)) rfl rfl (hb k.2.2.2.2.2.1 hd)
  exact Go.to q (g T' h' _ (k_hp k X' e' (Fr.snoc X' k.2.2.2.2.1 ha)) W (Arv.set A1 q1 S N H Gf rfl W _ rfl hl))
theorem s_bastore0 (k : K p l e R s m args below meth c bytes own maxL ret nm T locs cells slots Z h n0) {a : Addr} {kc : ClassId} {z j : Int32} {vs : List Value} {dv : Value} {x : Int32} {i : Nat} (hd : decode bytes pc = .ok (.bastore, 1)) (A : Arv Z h a kc .byte z vs dv) (hj : ¬ j < 0 ∧ j < z) (hi : j.toNatClampNeg = i) (hl : i < vs.length) (ha : n0 ≤ a) (hp : pc + 1 = pc')
    (g : ∀ T' h' L', K p l e R s m args below meth c bytes own maxL ret nm T' L' cells slots Z h' n0 → Wr h h' a i (.int x.toInt8.toInt32) → Arv Z h' a kc .byte z (vs.set i (.int x.toInt8.toInt32)) dv → Go p e below P T' (mkF m pc' Ls st)) : Go p e below P T (mkF m pc Ls (.int x :: .int j :: .ref a :: st)) := by
  subst hp hi
  obtain ⟨cl, A1, q1, S, N, H, Gf⟩ := A
  obtain ⟨T', h', X', e', W, q⟩ := stB k.1 k.2.1 k.2.2.1 k.2.2.2.1 A1 (inb_of S hj) (g := mkF m pc Ls (.int x :: .int j :: .ref a :: st)) rfl rfl (hb k.2.2.2.2.2.1 hd)
  exact Go.to q (g T' h' _ (k_hp k X' e' (Fr.snoc X' k.2.2.2.2.1 ha)) W (Arv.set A1 q1 S N H Gf (fits_nar_byte x) W _ rfl hl))
theorem s_bastore (k : K p l e R s m args below meth c bytes own maxL ret nm T locs cells slots Z h n0) {a : Addr} {kc : ClassId} {z j : Int32} {vs : List Value} {dv : Value} {x y : Int32} {i : Nat} (hd : decode bytes pc = .ok (.bastore, 1)) (A : Arv Z h a kc .byte z vs dv) (hj : ¬ j < 0 ∧ j < z) (hi : j.toNatClampNeg = i) (hl : i < vs.length) (hy : x.toInt8.toInt32 = y) (ha : n0 ≤ a) (hp : pc + 1 = pc')
    (g : ∀ T' h' L', K p l e R s m args below meth c bytes own maxL ret nm T' L' cells slots Z h' n0 → Wr h h' a i (.int y) → Arv Z h' a kc .byte z (vs.set i (.int y)) dv → Go p e below P T' (mkF m pc' Ls st)) : Go p e below P T (mkF m pc Ls (.int x :: .int j :: .ref a :: st)) := by
  subst hy
  exact s_bastore0 k hd A hj hi hl ha hp g
theorem s_aastore (k : K p l e R s m args below meth c bytes own maxL ret nm T locs cells slots Z h n0) {a : Addr} {kc : ClassId} {C : String} {z j : Int32} {vs : List Value} {dv v : Value} {i : Nat} (hd : decode bytes pc = .ok (.aastore, 1)) (A : Arv Z h a kc (.object C) z vs dv) (hj : ¬ j < 0 ∧ j < z) (hi : j.toNatClampNeg = i) (hl : i < vs.length) (O : Ovr Z kc C) (I : v = .null ∨ ∃ y, v = .ref y ∧ Ins Z h y C true) (ha : n0 ≤ a) (hp : pc + 1 = pc')
    (g : ∀ T' h' L', K p l e R s m args below meth c bytes own maxL ret nm T' L' cells slots Z h' n0 → Wr h h' a i v → Arv Z h' a kc (.object C) z (vs.set i v) dv → Go p e below P T' (mkF m pc' Ls st)) : Go p e below P T (mkF m pc Ls (v :: .int j :: .ref a :: st)) := by
  subst hp hi
  obtain ⟨cl, A1, q1, S, N, H, Gf⟩ := A
  have hs : Sto Z h a v := by
    rcases I with rfl | ⟨y, rfl, I⟩
    · exact Or.inl rfl
    · exact Sto.ofV A1 q1 O I
  have hfv : fits (.object C) v = true := by
    rcases I with rfl | ⟨y, rfl, I⟩ <;> rfl
  obtain ⟨T', h', X', e', W, q⟩ := stR k.1 k.2.1 k.2.2.1 k.2.2.2.1 A1 (inb_of S hj) rfl hs (g := mkF m pc Ls (v :: .int j :: .ref a :: st)) rfl rfl (hb k.2.2.2.2.2.1 hd)
  exact Go.to q (g T' h' _ (k_hp k X' e' (Fr.snoc X' k.2.2.2.2.1 ha)) W (Arv.set A1 q1 S N H Gf hfv W _ rfl hl))
theorem s_cast (k : K p l e R s m args below meth c bytes own maxL ret nm T locs cells slots Z h n0) {C : String} {index : Nat} {a : Addr} (hd : decode bytes pc = .ok (.checkcast index, 3)) (w : (Cond.classLink own index C).before a0 Z = true) (I : Ins Z h a C true) (hp : pc + 3 = pc')
    (g : ∀ T', K p l e R s m args below meth c bytes own maxL ret nm T' locs cells slots Z h n0 → Go p e below P T' (mkF m pc' Ls (.ref a :: st))) : Go p e below P T (mkF m pc Ls (.ref a :: st)) := by
  subst hp
  obtain ⟨T', X', e', q⟩ := castY k.1 k.2.1 k.2.2.1 k.2.2.2.2.2.2.1 w k.2.2.2.1 I (g := mkF m pc Ls (.ref a :: st)) rfl rfl (hb k.2.2.2.2.2.1 hd)
  exact Go.to q (g T' (k_hp k X' e' k.2.2.2.2.1))
theorem s_castNull (k : K p l e R s m args below meth c bytes own maxL ret nm T locs cells slots Z h n0) {index : Nat} (hd : decode bytes pc = .ok (.checkcast index, 3)) (hp : pc + 3 = pc') (g : Go p e below P T (mkF m pc' Ls (.null :: st))) : Go p e below P T (mkF m pc Ls (.null :: st)) := by
  subst hp
  exact Go.to (k.1.checkcastNull k.2.1 (g := mkF m pc Ls (.null :: st)) rfl rfl (hb k.2.2.2.2.2.1 hd)) g
theorem s_instY (k : K p l e R s m args below meth c bytes own maxL ret nm T locs cells slots Z h n0) {C : String} {index : Nat} {a : Addr} (hd : decode bytes pc = .ok (.instanceof index, 3)) (w : (Cond.classLink own index C).before a0 Z = true) (I : Ins Z h a C true) (hp : pc + 3 = pc')
    (g : ∀ T', K p l e R s m args below meth c bytes own maxL ret nm T' locs cells slots Z h n0 → Go p e below P T' (mkF m pc' Ls (.int 1 :: st))) : Go p e below P T (mkF m pc Ls (.ref a :: st)) := by
  subst hp
  obtain ⟨T', X', e', q⟩ := instY k.1 k.2.1 k.2.2.1 k.2.2.2.2.2.2.1 w k.2.2.2.1 I (g := mkF m pc Ls (.ref a :: st)) rfl rfl (hb k.2.2.2.2.2.1 hd)
  exact Go.to q (g T' (k_hp k X' e' k.2.2.2.2.1))
/-- the returns -/
theorem s_retV (k : K p l e R s m args below meth c bytes own maxL ret nm T locs cells slots Z h n0) {w : Value} {t : FieldType} {i : Instr} (hd : decode bytes pc = .ok (i, 1)) (hr : ret = some t) (hn : narrow t w = w)
    (hi : (i = .ireturn ∧ (t = .int ∨ t = .boolean ∨ t = .byte ∨ t = .char ∨ t = .short) ∧ ∃ z, w = .int z) ∨ (i = .lreturn ∧ t = .long ∧ ∃ z, w = .long z) ∨ (i = .dreturn ∧ t = .double ∧ ∃ z, w = .double z) ∨ (i = .freturn ∧ t = .float ∧ ∃ z, w = .float z) ∨ (i = .areturn ∧ t.isReference = true ∧ w.isRef = true))
    (hP : Pay s Q n0 cc ss P) (hc : cells ≤ cc) (hs : slots ≤ ss) (q : Q (some w) h) : Go p e below P T (mkF m pc Ls (w :: st)) := by
  obtain ⟨fs, hr', hrun, hended, hW, hsame⟩ := k.1.leave (v := some w) (fun z => by rw [k.2.2.2.2.2.2.2.2.1, hr] at z; cases z) k.2.2.2.2.2.2.2.2.2.2
  exact ⟨_, _, retOut k.1 k.2.1 (k.2.2.2.2.2.2.2.2.1.trans hr) hn hi (hb k.2.2.2.2.2.1 hd) hr', hrun, hended, hP _ _ _ _ q (show T.heap = h from k.2.2.2.1) k.2.2.2.2.1 ⟨⟨_, rfl⟩, hW, hsame.mono hc hs⟩⟩
theorem s_retI (k : K p l e R s m args below meth c bytes own maxL ret nm T locs cells slots Z h n0) {z : Int32} (hd : decode bytes pc = .ok (.ireturn, 1)) (hr : ret = some .int) (hP : Pay s Q n0 cc ss P) (hc : cells ≤ cc) (hs : slots ≤ ss) (q : Q (some (.int z)) h) : Go p e below P T (mkF m pc Ls (.int z :: st)) :=
  s_retV k hd hr rfl (Or.inl ⟨rfl, Or.inl rfl, z, rfl⟩) hP hc hs q
theorem s_retL (k : K p l e R s m args below meth c bytes own maxL ret nm T locs cells slots Z h n0) {z : Int64} (hd : decode bytes pc = .ok (.lreturn, 1)) (hr : ret = some .long) (hP : Pay s Q n0 cc ss P) (hc : cells ≤ cc) (hs : slots ≤ ss) (q : Q (some (.long z)) h) : Go p e below P T (mkF m pc Ls (.long z :: st)) :=
  s_retV k hd hr rfl (Or.inr (Or.inl ⟨rfl, rfl, z, rfl⟩)) hP hc hs q
theorem s_retA (k : K p l e R s m args below meth c bytes own maxL ret nm T locs cells slots Z h n0) {w : Value} {t : FieldType} (hd : decode bytes pc = .ok (.areturn, 1)) (hr : ret = some t) (ht : t.isReference = true) (hw : w.isRef = true) (hP : Pay s Q n0 cc ss P) (hc : cells ≤ cc) (hs : slots ≤ ss) (q : Q (some w) h) : Go p e below P T (mkF m pc Ls (w :: st)) :=
  s_retV k hd hr (by cases t <;> simp [FieldType.isReference] at ht <;> rfl) (Or.inr (Or.inr (Or.inr (Or.inr ⟨rfl, ht, hw⟩)))) hP hc hs q
theorem s_retZ (k : K p l e R s m args below meth c bytes own maxL ret nm T locs cells slots Z h n0) {z : Int32} (hd : decode bytes pc = .ok (.ireturn, 1)) (hr : ret = some .boolean) (hz : z &&& 1 = z) (hP : Pay s Q n0 cc ss P) (hc : cells ≤ cc) (hs : slots ≤ ss) (q : Q (some (.int z)) h) : Go p e below P T (mkF m pc Ls (.int z :: st)) :=
  s_retV k hd hr (show Value.int (z &&& 1) = .int z by rw [hz]) (Or.inl ⟨rfl, Or.inr (Or.inl rfl), z, rfl⟩) hP hc hs q
theorem s_ret (k : K p l e R s m args below meth c bytes own maxL ret nm T locs cells slots Z h n0) (hd : decode bytes pc = .ok (.return_, 1)) (hr : ret = none) (hP : Pay s Q n0 cc ss P) (hc : cells ≤ cc) (hs : slots ≤ ss) (q : Q none h) : Go p e below P T (mkF m pc Ls []) := by
  obtain ⟨fs, hr', hrun, hended, hW, hsame⟩ := k.1.leave (v := none) (fun _ => rfl) k.2.2.2.2.2.2.2.2.2.2
  exact ⟨_, _, k.1.returnOut k.2.1 (k.2.2.2.2.2.2.2.2.1.trans hr) (hb k.2.2.2.2.2.1 hd) hr', hrun, hended, hP _ _ _ _ q (show T.heap = h from k.2.2.2.1) k.2.2.2.2.1 ⟨⟨_, rfl⟩, hW, hsame.mono hc hs⟩⟩
end Own

/-- a method's contract at one array of arguments and one heap -/
def Met (l : Launch) (Z : State) (y : MethodName) (bytes : ByteArray) (maxL : Nat) (ret : Option FieldType) (rm : Room) (n0 : Nat) (as' : Array Value) (h : Heap) (Q : Option Value → Heap → Prop) : Prop :=
  ∀ ws : List Jvm.Cond, MetFree l y (head1 (Jvm.Cond.code y bytes maxL ret :: ws) rm) (fun a U => a = as' ∧ Z.Warmed39 U.vm ∧ U.heap = h) (fun _ _ _ _ _ => True) (fun _ U o U' => ∃ v L, o = .returned v ∧ (Q v U'.heap ∧ Fr n0 L) ∧ FrameEnd U o U' L rm.cells rm.slots)
theorem Met.of {l : Launch} {Z : State} {y : MethodName} {bytes : ByteArray} {maxL : Nat} {ret : Option FieldType} {rm : Room} {n0 : Nat} {as' : Array Value} {h : Heap} {Q : Option Value → Heap → Prop} {Ls : Array Slot} (hpl : plainFor y = true) (hef : ∀ m, entryFrame m as' maxL = mkF m 0 Ls [])
    (body : ∀ p e s m below meth c T P, Pay s Q n0 rm.cells rm.slots P → K p l e rm s m as' below meth c bytes y.cls maxL ret y.name T [] 0 0 Z h n0 → Go p e below P T (mkF m 0 Ls [])) : Met l Z y bytes maxL ret rm n0 as' h Q := by
  intro ws
  refine MetFree.of_bodySF hpl hisR ?_
  intro p e s m args below meth c s₁ Bd hml0 hP hK
  obtain ⟨rfl, hZ, hh⟩ := hP
  have X0 : Stand p l e rm s m args below meth c s₁ [] 0 0 := Stand.of_body Bd
  rw [hef m]
  exact body p e s m below meth c s₁ _ (fun v h L s₂ q1 q2 q3 q4 => ⟨v, L, rfl, ⟨q2.symm ▸ q1, q3⟩, q4⟩) ⟨X0, Bd.exec, hZ, by rw [← hh, Bd.state]; rfl, Fr.nil n0, Bd.bytes, findClass_of_methodNamed Bd.named, hml0, Bd.returns, (name_of_methodNamed Bd.named Bd.method).1, BodyLoose.notSynchronized Bd⟩
/-- the model's own selection picks a private method itself (lines of the worked claim gauge-weight, turned) -/
theorem sel_priv {y : MethodName} {s : State} {args : Array Value} {n : Nat} (hy : y.cls ≠ "java/lang/invoke/MethodHandle" ∧ y.cls ≠ "java/lang/invoke/VarHandle") (hins : (Cond.instantiable y.cls n).before args s = true) (hpriv : (Cond.privateMethod y).before args s = true) (hinst : (Cond.instanceMethod y).before args s = true) : (Cond.selects y.cls y y).before args s = true := by
  obtain ⟨c, k, hc, hk, -, hniab, -, -⟩ := Cond.instantiable_spec hins
  have hni : k.isInterface = false := (Bool.or_eq_false_iff.mp hniab).1
  obtain ⟨mk, methM, hnamed, hmethM, -, -⟩ := Cond.instanceMethod_spec hinst
  have hfound : s.methodFound? y.cls y.name y.desc = some mk := State.methodFound?_of_named hnamed hy
  have hcls : mk.cls = c := Option.some.inj ((findClass_of_methodNamed hnamed).symm.trans hc)
  have hsel : selectMethod {} s.vm c mk = .method mk := selectMethod_private hmethM (Cond.privateMethod_at hpriv mk methM hnamed hmethM)
  simp only [Cond.before, Cond.holds, Cond.value, hc, hfound, hnamed, hsel, hcls, hk]
  simp; exact hni
section Calls
variable {p : Program} {l : Launch} {e : Env} {R : Room} {s : State} {m : MethodId} {args : Array Value} {below : List Frame} {meth : Method} {c : Code} {bytes : ByteArray} {own : String} {maxL : Nat} {ret : Option FieldType} {nm : String} {T : State} {locs : List Loc} {cells slots : Nat} {Z : State} {h : Heap} {n0 : Nat} {Q : Option Value → Heap → Prop} {P : State → Outcome → Prop} {cc ss : Nat} {a0 : Array Value} {Ls : Array Slot} {st rest : List Value} {pc pc' : Nat}
theorem wsum (W : Nat) (st : List Value) (hW : (st.map fun v => v.category).sum ≤ W) : 2 * 0 + (st.map fun v => v.category).sum ≤ W := by omega
/-- a static call -/
theorem s_callS (k : K p l e R s m args below meth c bytes own maxL ret nm T locs cells slots Z h n0) {index : Nat} {y : MethodName} {yb : ByteArray} {ym : Nat} {yr : Option FieldType} {rm : Room} {Qy : Option Value → Heap → Prop} {ps : List FieldType} (argsL : List Value) (W : Nat) (hd : decode bytes pc = .ok (.invokestatic index, 3)) (w1 : (Cond.methodLink own index y).before a0 Z = true) (w2 : (Cond.static y).before a0 Z = true) (w3 : (Cond.initialized y.cls).before a0 Z = true) (w4 : (Cond.code y yb ym yr).before a0 Z = true)
    (hy : y.cls ≠ "java/lang/invoke/MethodHandle" ∧ y.cls ≠ "java/lang/invoke/VarHandle") (M : Met l Z y yb ym yr rm n0 argsL.toArray h Qy) (hf : rm.frames + 1 ≤ R.frames) (hl : W + (ym + 11) + rm.locals ≤ R.locals) (hpd : parseMethodDescriptor y.desc = some ⟨ps, yr⟩) (hlen : argsL.length = ps.length) (hW : (st.map fun v => v.category).sum ≤ W) (hsz : Ls.size = maxL) (hc : cells + rm.cells ≤ R.cells) (hs : slots + rm.slots ≤ R.slots) (hst : rest = argsL.reverse ++ st) (hp : pc + 3 = pc')
    (g : ∀ v T' h' L', K p l e R s m args below meth c bytes own maxL ret nm T' L' (cells + rm.cells) (slots + rm.slots) Z h' n0 → Qy v h' → Go p e below P T' (mkF m pc' Ls (v.toList ++ st))) : Go p e below P T (mkF m pc Ls rest) := by
  subst hp hst
  obtain ⟨v, vm1, ⟨T', L', k', n'⟩, -, X', ⟨L, hQ, l1, l2, l3⟩, q⟩ := Jvm.LawKit.callS k.1 k.2.1 k.2.2.2.2.2.2.1 (mvT k.2.2.1 w1) (mvT k.2.2.1 w2) (mvT k.2.2.1 w3) (mvT k.2.2.1 w4) hy (backOf (W := W) (Q := fun v h L => Qy v h ∧ Fr n0 L) (M []) k.2.2.1 w4 w3 hf hl) (g := mkF m pc Ls (argsL.reverse ++ st)) rfl (hsz.trans k.2.2.2.2.2.2.2.1.symm) (argsL := argsL) (rest := st) (lenOf hpd hlen) rfl (wsum W st hW) (hb k.2.2.2.2.2.1 hd) (fun _ _ => ⟨rfl, k.2.2.2.1, hc, hs⟩)
  dsimp only [Pt.U, Pt.locs, Pt.cells, Pt.slots] at X' l1 l2 l3 q hQ
  subst l1 l2 l3
  exact Go.to q (g v T' _ _ (k_hp k X' rfl (Fr.app k.2.2.2.2.1 hQ.2)) hQ.1)
/-- a constructor -/
theorem s_callI (k : K p l e R s m args below meth c bytes own maxL ret nm T locs cells slots Z h n0) {index : Nat} {y : MethodName} {yb : ByteArray} {ym : Nat} {rm : Room} {Qy : Option Value → Heap → Prop} {ps : List FieldType} {a : Addr} (argsL : List Value) (W : Nat) (hd : decode bytes pc = .ok (.invokespecial index, 3)) (hy1 : y.name = "<init>") (w1 : (Cond.methodLink own index y).before a0 Z = true) (w2 : (Cond.instanceMethod y).before a0 Z = true) (w3 : (Cond.initialized y.cls).before a0 Z = true) (w4 : (Cond.code y yb ym none).before a0 Z = true)
    (hy : y.cls ≠ "java/lang/invoke/MethodHandle" ∧ y.cls ≠ "java/lang/invoke/VarHandle") (M : Met l Z y yb ym none rm n0 (.ref a :: argsL).toArray h Qy) (hf : rm.frames + 1 ≤ R.frames) (hl : W + (ym + 11) + rm.locals ≤ R.locals) (hpd : parseMethodDescriptor y.desc = some ⟨ps, none⟩) (hlen : argsL.length = ps.length) (hW : (st.map fun v => v.category).sum ≤ W) (hsz : Ls.size = maxL) (hc : cells + rm.cells ≤ R.cells) (hs : slots + rm.slots ≤ R.slots) (hst : rest = argsL.reverse ++ .ref a :: st) (hp : pc + 3 = pc')
    (g : ∀ v T' h' L', K p l e R s m args below meth c bytes own maxL ret nm T' L' (cells + rm.cells) (slots + rm.slots) Z h' n0 → Qy v h' → Go p e below P T' (mkF m pc' Ls (v.toList ++ st))) : Go p e below P T (mkF m pc Ls rest) := by
  subst hp hst
  obtain ⟨v, vm1, ⟨T', L', k', n'⟩, -, X', ⟨L, hQ, l1, l2, l3⟩, q⟩ := k.1.specialBack k.2.1 hy1 k.2.2.2.2.2.2.1 (mvT k.2.2.1 w1) (mvT k.2.2.1 w2) (mvT k.2.2.1 w4) hy (backOf (W := W) (Q := fun v h L => Qy v h ∧ Fr n0 L) (M []) k.2.2.1 w4 w3 hf hl) (g := mkF m pc Ls (argsL.reverse ++ .ref a :: st)) rfl (hsz.trans k.2.2.2.2.2.2.2.1.symm) (Steps.refl _) (a := a) (argsL := argsL) (rest := st) (lenOf hpd hlen) rfl (wsum W st hW) (hb k.2.2.2.2.2.1 hd) (fun _ _ => ⟨rfl, k.2.2.2.1, hc, hs⟩)
  dsimp only [Pt.U, Pt.locs, Pt.cells, Pt.slots] at X' l1 l2 l3 q hQ
  subst l1 l2 l3
  exact Go.tr q (g v T' _ _ (k_hp k X' rfl (Fr.app k.2.2.2.2.1 hQ.2)) hQ.1)
/-- an instance method -/
theorem s_callV (k : K p l e R s m args below meth c bytes own maxL ret nm T locs cells slots Z h n0) {index : Nat} {C : String} {y : MethodName} {yb : ByteArray} {ym : Nat} {yr : Option FieldType} {rm : Room} {Qy : Option Value → Heap → Prop} {ps : List FieldType} {a : Addr} (argsL : List Value) (W : Nat) (hd : decode bytes pc = .ok (.invokevirtual index, 3)) (w1 : (Cond.methodLink own index y).before a0 Z = true) (w2 : (Cond.declares y).before a0 Z = true) (w5 : (Cond.selects C y y).before a0 Z = true) (w6 : (Cond.instanceMethod y).before a0 Z = true) (w3 : (Cond.initialized y.cls).before a0 Z = true) (w4 : (Cond.code y yb ym yr).before a0 Z = true)
    (hy : y.cls ≠ "java/lang/invoke/MethodHandle" ∧ y.cls ≠ "java/lang/invoke/VarHandle") (E : Exa Z h a C) (M : Met l Z y yb ym yr rm n0 (.ref a :: argsL).toArray h Qy) (hf : rm.frames + 1 ≤ R.frames) (hl : W + (ym + 11) + rm.locals ≤ R.locals) (hpd : parseMethodDescriptor y.desc = some ⟨ps, yr⟩) (hlen : argsL.length = ps.length) (hW : (st.map fun v => v.category).sum ≤ W) (hsz : Ls.size = maxL) (hc : cells + rm.cells ≤ R.cells) (hs : slots + rm.slots ≤ R.slots) (hst : rest = argsL.reverse ++ .ref a :: st) (hp : pc + 3 = pc')
    (g : ∀ v T' h' L', K p l e R s m args below meth c bytes own maxL ret nm T' L' (cells + rm.cells) (slots + rm.slots) Z h' n0 → Qy v h' → Go p e below P T' (mkF m pc' Ls (v.toList ++ st))) : Go p e below P T (mkF m pc Ls rest) := by
  subst hp hst
  obtain ⟨cq, kq, qa, qb, qc⟩ := isOf k.2.2.1 k.2.2.2.1 E
  obtain ⟨v, vm1, ⟨T', L', k', n'⟩, -, X', ⟨L, hQ, l1, l2, l3⟩, q⟩ := k.1.virtualBack k.2.1 (y := y) (z := y) k.2.2.2.2.2.2.1 (mvT k.2.2.1 w1) (mvT k.2.2.1 w2) (notFace_of_selects (args := #[]) (mvT k.2.2.1 w5)) (mvT k.2.2.1 w5) (mvT k.2.2.1 w6) hy (backOf (W := W) (Q := fun v h L => Qy v h ∧ Fr n0 L) (M []) k.2.2.1 w4 w3 hf hl) qa qc (g := mkF m pc Ls (argsL.reverse ++ .ref a :: st)) rfl (hsz.trans k.2.2.2.2.2.2.2.1.symm) (Steps.refl _) (argsL := argsL) (rest := st) (lenOf hpd hlen) rfl (wsum W st hW) (hb k.2.2.2.2.2.1 hd) (fun _ _ => ⟨rfl, k.2.2.2.1, hc, hs⟩)
  dsimp only [Pt.U, Pt.locs, Pt.cells, Pt.slots] at X' l1 l2 l3 q hQ
  subst l1 l2 l3
  exact Go.tr q (g v T' _ _ (k_hp k X' rfl (Fr.app k.2.2.2.2.1 hQ.2)) hQ.1)
/-- a private method, called by invokevirtual -/
theorem s_callP (k : K p l e R s m args below meth c bytes own maxL ret nm T locs cells slots Z h n0) {index : Nat} {y : MethodName} {yb : ByteArray} {ym : Nat} {yr : Option FieldType} {rm : Room} {Qy : Option Value → Heap → Prop} {ps : List FieldType} {a : Addr} (argsL : List Value) (W : Nat) (hd : decode bytes pc = .ok (.invokevirtual index, 3)) (w1 : (Cond.methodLink own index y).before a0 Z = true) (w5 : (Cond.selects y.cls y y).before a0 Z = true) (w6 : (Cond.instanceMethod y).before a0 Z = true) (w7 : (Cond.privateMethod y).before a0 Z = true) (w3 : (Cond.initialized y.cls).before a0 Z = true) (w4 : (Cond.code y yb ym yr).before a0 Z = true)
    (hy : y.cls ≠ "java/lang/invoke/MethodHandle" ∧ y.cls ≠ "java/lang/invoke/VarHandle") (E : Exa Z h a y.cls) (M : Met l Z y yb ym yr rm n0 (.ref a :: argsL).toArray h Qy) (hf : rm.frames + 1 ≤ R.frames) (hl : W + (ym + 11) + rm.locals ≤ R.locals) (hpd : parseMethodDescriptor y.desc = some ⟨ps, yr⟩) (hlen : argsL.length = ps.length) (hW : (st.map fun v => v.category).sum ≤ W) (hsz : Ls.size = maxL) (hc : cells + rm.cells ≤ R.cells) (hs : slots + rm.slots ≤ R.slots) (hst : rest = argsL.reverse ++ .ref a :: st) (hp : pc + 3 = pc')
    (g : ∀ v T' h' L', K p l e R s m args below meth c bytes own maxL ret nm T' L' (cells + rm.cells) (slots + rm.slots) Z h' n0 → Qy v h' → Go p e below P T' (mkF m pc' Ls (v.toList ++ st))) : Go p e below P T (mkF m pc Ls rest) := by
  subst hp hst
  obtain ⟨cq, qa, qb⟩ := E.cell
  obtain ⟨v, vm1, ⟨T', L', k', n'⟩, -, X', ⟨L, hQ, l1, l2, l3⟩, q⟩ := k.1.privateBack k.2.1 (y := y) k.2.2.2.2.2.2.1 (mvT k.2.2.1 w1) (mvT k.2.2.1 w6) (mvT k.2.2.1 w5) (Cond.privateMethod_at (mvP k.2.2.1 w7 (args := #[]))) (mvT k.2.2.1 w4) hy (backOf (W := W) (Q := fun v h L => Qy v h ∧ Fr n0 L) (M []) k.2.2.1 w4 w3 hf hl) (g := mkF m pc Ls (argsL.reverse ++ .ref a :: st)) rfl (hsz.trans k.2.2.2.2.2.2.2.1.symm) (Steps.refl _) (a := a) (by rw [k.2.2.2.1]; exact qa) qb (argsL := argsL) (rest := st) (lenOf hpd hlen) rfl (wsum W st hW) (hb k.2.2.2.2.2.1 hd) (fun _ _ => ⟨rfl, k.2.2.2.1, hc, hs⟩)
  dsimp only [Pt.U, Pt.locs, Pt.cells, Pt.slots] at X' l1 l2 l3 q hQ
  subst l1 l2 l3
  exact Go.tr q (g v T' _ _ (k_hp k X' rfl (Fr.app k.2.2.2.2.1 hQ.2)) hQ.1)
end Calls
end Jvm.OwnGo
namespace Jvm.Pilot.@@N@@
open Jvm Jvm.ClassFile Sem Op Lib Jvm.Free Jvm.Stand Jvm.LawKit Jvm.RoadKit Bundle Jvm.OwnGo Jvm.Pilot.@@N@@.Jvm.D
theorem d2_0 : decode prog_17_method_2_code 0 = .ok (.aload_n 0, 1) := by decide +kernel
theorem d2_1 : decode prog_17_method_2_code 1 = .ok (.invokespecial 9, 3) := by decide +kernel
theorem d2_4 : decode prog_17_method_2_code 4 = .ok (.aload_n 0, 1) := by decide +kernel
theorem d2_5 : decode prog_17_method_2_code 5 = .ok (.aload_n 1, 1) := by decide +kernel
theorem d2_6 : decode prog_17_method_2_code 6 = .ok (.putfield 14, 3) := by decide +kernel
theorem d2_9 : decode prog_17_method_2_code 9 = .ok (.aload_n 0, 1) := by decide +kernel
theorem d2_10 : decode prog_17_method_2_code 10 = .ok (.iload_n 2, 1) := by decide +kernel
theorem d2_11 : decode prog_17_method_2_code 11 = .ok (.putfield 18, 3) := by decide +kernel
theorem d2_14 : decode prog_17_method_2_code 14 = .ok (.aload_n 0, 1) := by decide +kernel
theorem d2_15 : decode prog_17_method_2_code 15 = .ok (.iload_n 3, 1) := by decide +kernel
theorem d2_16 : decode prog_17_method_2_code 16 = .ok (.putfield 22, 3) := by decide +kernel
theorem d2_19 : decode prog_17_method_2_code 19 = .ok (.return_, 1) := by decide +kernel
theorem pn_2_rmi3 : plainFor (⟨"io/credsmith/Der", "<init>", "([BII)V"⟩ : MethodName) = true := plainFor_of_name (by first | (simp [plainName, overriddenIn]; done) | decide +kernel)
theorem ef_rmi3 {a : Addr} {b : Addr} {p1 : Int32} {p2 : Int32} (m : MethodId) : entryFrame m #[.ref a, .ref b, .int p1, .int p2] 4 = mkF m 0 #[.val (.ref a), .val (.ref b), .val (.int p1), .val (.int p2)] [] := by first | (simp [entryFrame, mkF, argsToLocals, Value.category]; done) | rfl
set_option maxRecDepth 65536 in
set_option maxHeartbeats 40000000 in
theorem rmi3 (l : Launch) (Z : State) (a0 : Array Value) (hw : ∀ d ∈ tables_1, d.before a0 Z = true) (a b : Addr) (p1 p2 : Int32) (h0 : Heap) (n0 : Nat) (Z0 : n0 ≤ h0.size) (E_a : Exa Z h0 a "io/credsmith/Der") (F_by : Fld Z h0 a "io/credsmith/Der" "bytes" "[B" .null) (F_at : Fld Z h0 a "io/credsmith/Der" "at" "I" (.int (0 : Int32))) (F_en : Fld Z h0 a "io/credsmith/Der" "end" "I" (.int (0 : Int32))) (g_a : n0 ≤ a) :
    Met l Z (⟨"io/credsmith/Der", "<init>", "([BII)V"⟩ : MethodName) prog_17_method_2_code 4 none ({ frames := 1, cells := 0, slots := 0, locals := 16 } : Room) n0 #[.ref a, .ref b, .int p1, .int p2] h0 (fun v h => v = none ∧ Keep h0 h [a] ∧ Fld Z h a "io/credsmith/Der" "bytes" "[B" (.ref b) ∧ Fld Z h a "io/credsmith/Der" "at" "I" (.int p1) ∧ Fld Z h a "io/credsmith/Der" "end" "I" (.int p2)) := by
  have Kp0 := Keep.refl h0 [a]
  refine Met.of (Ls := #[.val (.ref a), .val (.ref b), .val (.int p1), .val (.int p2)]) pn_2_rmi3 (fun m => ef_rmi3 m) fun p e s m below meth c T0 P hP k0 => ?_
  refine s_aloadN k0 d2_0 rfl rfl (pc' := 1) rfl ?_
  obtain ⟨T1, X1, e1, q1⟩ := initO k0.1 k0.2.1 k0.2.2.1 k0.2.2.2.2.2.2.1 (hw _ (List.mem_of_getElem? (i := 10) rfl)) (hw _ (List.mem_of_getElem? (i := 11) rfl)) (hw _ (List.mem_of_getElem? (i := 12) rfl)) k0.2.2.2.1 (g := (mkF m 1 #[.val (.ref a), .val (.ref b), .val (.int p1), .val (.int p2)] [.ref a])) rfl k0.2.2.2.2.2.2.2.1.symm rfl (hb k0.2.2.2.2.2.1 d2_1) (by decide) (W := 0) (by show 2 * 0 + _ ≤ _; exact Nat.le_of_eq rfl) (by decide)
  refine Go.to q1 ?_
  have k1 := k_hp k0 X1 e1 k0.2.2.2.2.1
  show Go p e below P T1 (mkF m 4 #[.val (.ref a), .val (.ref b), .val (.int p1), .val (.int p2)] [])
  refine s_aloadN k1 d2_4 rfl rfl (pc' := 5) rfl ?_
  refine s_aloadN k1 d2_5 rfl rfl (pc' := 6) rfl ?_
  refine s_put k1 d2_6 (host := "") (Or.inl (hw _ (List.mem_of_getElem? (i := 13) rfl))) Via.refl F_by E_a (Or.inr ⟨(hw _ (List.mem_of_getElem? (i := 14) rfl)), rfl, rfl⟩) (hw _ (List.mem_of_getElem? (i := 2) rfl)) (ty := (.array .byte)) (by decide) rfl rfl g_a (pc' := 9) rfl fun T2 h2 L2 k2 W2 => ?_
  have F3_a_bytes := F_by.same W2
  have F4_a_at := F_at.other W2 (Or.inr (slot_ne (Or.inl (hw _ (List.mem_of_getElem? (i := 16) rfl))) (Or.inr (hw _ (List.mem_of_getElem? (i := 14) rfl))) (by decide) (t := .int) (t' := (.array .byte)) (by decide) (by decide)))
  have F5_a_end := F_en.other W2 (Or.inr (slot_ne (Or.inr (hw _ (List.mem_of_getElem? (i := 18) rfl))) (Or.inr (hw _ (List.mem_of_getElem? (i := 14) rfl))) (by decide) (t := .int) (t' := (.array .byte)) (by decide) (by decide)))
  have E6_a := E_a.wr W2
  have Z7 := Nat.le_trans Z0 (Keep.of_wr W2).1
  have Kp8 := Kp0.wr W2 (Or.inl (List.mem_of_getElem? (i := 0) rfl))
  refine s_aloadN k2 d2_9 rfl rfl (pc' := 10) rfl ?_
  refine s_iloadN k2 d2_10 rfl (pc' := 11) rfl ?_
  refine s_put k2 d2_11 (host := "") (Or.inl (hw _ (List.mem_of_getElem? (i := 15) rfl))) Via.refl F4_a_at E6_a (Or.inl (hw _ (List.mem_of_getElem? (i := 16) rfl))) (hw _ (List.mem_of_getElem? (i := 2) rfl)) (ty := .int) (by decide) rfl rfl g_a (pc' := 14) rfl fun T9 h9 L9 k9 W9 => ?_
  have F10_a_bytes := F3_a_bytes.other W9 (Or.inr (slot_ne (Or.inr (hw _ (List.mem_of_getElem? (i := 14) rfl))) (Or.inl (hw _ (List.mem_of_getElem? (i := 16) rfl))) (by decide) (t := (.array .byte)) (t' := .int) (by decide) (by decide)))
  have F11_a_at := F4_a_at.same W9
  have F12_a_end := F5_a_end.other W9 (Or.inr (slot_ne (Or.inr (hw _ (List.mem_of_getElem? (i := 18) rfl))) (Or.inl (hw _ (List.mem_of_getElem? (i := 16) rfl))) (by decide) (t := .int) (t' := .int) (by decide) (by decide)))
  have E13_a := E6_a.wr W9
  have Z14 := Nat.le_trans Z7 (Keep.of_wr W9).1
  have Kp15 := Kp8.wr W9 (Or.inl (List.mem_of_getElem? (i := 0) rfl))
  refine s_aloadN k9 d2_14 rfl rfl (pc' := 15) rfl ?_
  refine s_iloadN k9 d2_15 rfl (pc' := 16) rfl ?_
  refine s_put k9 d2_16 (host := "") (Or.inl (hw _ (List.mem_of_getElem? (i := 17) rfl))) Via.refl F12_a_end E13_a (Or.inr ⟨(hw _ (List.mem_of_getElem? (i := 18) rfl)), rfl, rfl⟩) (hw _ (List.mem_of_getElem? (i := 2) rfl)) (ty := .int) (by decide) rfl rfl g_a (pc' := 19) rfl fun T16 h16 L16 k16 W16 => ?_
  have F17_a_bytes := F10_a_bytes.other W16 (Or.inr (slot_ne (Or.inr (hw _ (List.mem_of_getElem? (i := 14) rfl))) (Or.inr (hw _ (List.mem_of_getElem? (i := 18) rfl))) (by decide) (t := (.array .byte)) (t' := .int) (by decide) (by decide)))
  have F18_a_at := F11_a_at.other W16 (Or.inr (slot_ne (Or.inl (hw _ (List.mem_of_getElem? (i := 16) rfl))) (Or.inr (hw _ (List.mem_of_getElem? (i := 18) rfl))) (by decide) (t := .int) (t' := .int) (by decide) (by decide)))
  have F19_a_end := F12_a_end.same W16
  have E20_a := E13_a.wr W16
  have Z21 := Nat.le_trans Z14 (Keep.of_wr W16).1
  have Kp22 := Kp15.wr W16 (Or.inl (List.mem_of_getElem? (i := 0) rfl))
  exact s_ret k16 d2_19 rfl hP (by decide) (by decide) ⟨rfl, Kp22, F17_a_bytes, F18_a_at, F19_a_end⟩
theorem d1_0 : decode prog_17_method_1_code 0 = .ok (.aload_n 0, 1) := by decide +kernel
theorem d1_1 : decode prog_17_method_1_code 1 = .ok (.aload_n 1, 1) := by decide +kernel
theorem d1_2 : decode prog_17_method_1_code 2 = .ok (.iconst 0, 1) := by decide +kernel
theorem d1_3 : decode prog_17_method_1_code 3 = .ok (.aload_n 1, 1) := by decide +kernel
theorem d1_4 : decode prog_17_method_1_code 4 = .ok (.arraylength, 1) := by decide +kernel
theorem d1_5 : decode prog_17_method_1_code 5 = .ok (.invokespecial 3, 3) := by decide +kernel
theorem d1_8 : decode prog_17_method_1_code 8 = .ok (.return_, 1) := by decide +kernel
theorem pd__28_5bBII_29V : parseMethodDescriptor "([BII)V" = some ⟨[(.array .byte), .int, .int], none⟩ := by decide +kernel
theorem pn_1_rmi1 : plainFor (⟨"io/credsmith/Der", "<init>", "([B)V"⟩ : MethodName) = true := plainFor_of_name (by first | (simp [plainName, overriddenIn]; done) | decide +kernel)
theorem ef_rmi1 {a : Addr} {b : Addr} (m : MethodId) : entryFrame m #[.ref a, .ref b] 2 = mkF m 0 #[.val (.ref a), .val (.ref b)] [] := by first | (simp [entryFrame, mkF, argsToLocals, Value.category]; done) | rfl
set_option maxRecDepth 65536 in
set_option maxHeartbeats 40000000 in
theorem rmi1 (l : Launch) (Z : State) (a0 : Array Value) (hw : ∀ d ∈ tables_1, d.before a0 Z = true) (a b : Addr) (kb : ClassId) (z : Int32) (vs : List Value) (h0 : Heap) (n0 : Nat) (Z0 : n0 ≤ h0.size) (E_a : Exa Z h0 a "io/credsmith/Der") (F_by : Fld Z h0 a "io/credsmith/Der" "bytes" "[B" .null) (F_at : Fld Z h0 a "io/credsmith/Der" "at" "I" (.int (0 : Int32))) (F_en : Fld Z h0 a "io/credsmith/Der" "end" "I" (.int (0 : Int32))) (g_a : n0 ≤ a) (A_b : Arv Z h0 b kb .byte z vs (.int (0 : Int32))) (ne_ba : b ≠ a) :
    Met l Z (⟨"io/credsmith/Der", "<init>", "([B)V"⟩ : MethodName) prog_17_method_1_code 2 none ({ frames := 2, cells := 0, slots := 0, locals := 36 } : Room) n0 #[.ref a, .ref b] h0 (fun v h => v = none ∧ Keep h0 h [a] ∧ Fld Z h a "io/credsmith/Der" "bytes" "[B" (.ref b) ∧ Fld Z h a "io/credsmith/Der" "at" "I" (.int (0 : Int32)) ∧ Fld Z h a "io/credsmith/Der" "end" "I" (.int z)) := by
  have Kp0 := Keep.refl h0 [a]
  refine Met.of (Ls := #[.val (.ref a), .val (.ref b)]) pn_1_rmi1 (fun m => ef_rmi1 m) fun p e s m below meth c T0 P hP k0 => ?_
  refine s_aloadN k0 d1_0 rfl rfl (pc' := 1) rfl ?_
  refine s_aloadN k0 d1_1 rfl rfl (pc' := 2) rfl ?_
  refine s_iconst k0 (z := 0) d1_2 (by decide) (pc' := 3) rfl ?_
  refine s_aloadN k0 d1_3 rfl rfl (pc' := 4) rfl ?_
  refine s_len k0 d1_4 A_b (pc' := 5) rfl ?_
  refine s_callI k0 [.ref b, .int (0 : Int32), .int z] 0 d1_5 rfl (hw _ (List.mem_of_getElem? (i := 7) rfl)) (hw _ (List.mem_of_getElem? (i := 8) rfl)) (hw _ (List.mem_of_getElem? (i := 3) rfl)) (hw _ (List.mem_of_getElem? (i := 9) rfl)) (by decide) (rmi3 l Z a0 hw a b (0 : Int32) z h0 n0 Z0 E_a F_by F_at F_en g_a) (by decide) (by decide) pd__28_5bBII_29V rfl (Nat.le_of_eq rfl) rfl (by decide) (by decide) rfl (pc' := 8) rfl fun v1 T1 h1 L1 k1 Qv1 => ?_
  obtain ⟨rfl, Kc1, G1_0, G1_1, G1_2⟩ := Qv1
  have E2_a := E_a.keep Kc1
  have A3_b := A_b.keep Kc1 (ninS ne_ba nin0)
  have Z4 := Nat.le_trans Z0 Kc1.1
  have Kp5 := Kp0.trans Kc1 (allS (Or.inl (List.mem_of_getElem? (i := 0) rfl)) all0)
  show Go p e below P T1 (mkF m 8 #[.val (.ref a), .val (.ref b)] [])
  exact s_ret k1 d1_8 rfl hP (by decide) (by decide) ⟨rfl, Kp5, G1_0, G1_1, G1_2⟩
theorem d4_0 : decode prog_17_method_4_code 0 = .ok (.aload_n 0, 1) := by decide +kernel
theorem d4_1 : decode prog_17_method_4_code 1 = .ok (.getfield 18, 3) := by decide +kernel
theorem d4_4 : decode prog_17_method_4_code 4 = .ok (.aload_n 0, 1) := by decide +kernel
theorem d4_5 : decode prog_17_method_4_code 5 = .ok (.getfield 22, 3) := by decide +kernel
theorem d4_8 : decode prog_17_method_4_code 8 = .ok (.if_icmp .ge 24, 3) := by decide +kernel
theorem d4_32 : decode prog_17_method_4_code 32 = .ok (.iconst 0, 1) := by decide +kernel
theorem d4_33 : decode prog_17_method_4_code 33 = .ok (.ireturn, 1) := by decide +kernel
theorem pn_4_rmn0 : plainFor (⟨"io/credsmith/Der", "nextIs", "(I)Z"⟩ : MethodName) = true := plainFor_of_name (by first | (simp [plainName, overriddenIn]; done) | decide +kernel)
theorem ef_rmn0 {a : Addr} {t : Int32} (m : MethodId) : entryFrame m #[.ref a, .int t] 2 = mkF m 0 #[.val (.ref a), .val (.int t)] [] := by first | (simp [entryFrame, mkF, argsToLocals, Value.category]; done) | rfl
set_option maxRecDepth 65536 in
set_option maxHeartbeats 40000000 in
theorem rmn0 (l : Launch) (Z : State) (a0 : Array Value) (hw : ∀ d ∈ tables_1, d.before a0 Z = true) (a b : Addr) (p1 p2 t : Int32) (h0 : Heap) (n0 : Nat) (Z0 : n0 ≤ h0.size) (F_by : Fld Z h0 a "io/credsmith/Der" "bytes" "[B" (.ref b)) (F_at : Fld Z h0 a "io/credsmith/Der" "at" "I" (.int p1)) (F_en : Fld Z h0 a "io/credsmith/Der" "end" "I" (.int p2)) (hge : ¬ p1 < p2) :
    Met l Z (⟨"io/credsmith/Der", "nextIs", "(I)Z"⟩ : MethodName) prog_17_method_4_code 2 (some .boolean) ({ frames := 0, cells := 0, slots := 0, locals := 0 } : Room) n0 #[.ref a, .int t] h0 (fun v h => v = some (.int 0) ∧ h0 = h) := by
  refine Met.of (Ls := #[.val (.ref a), .val (.int t)]) pn_4_rmn0 (fun m => ef_rmn0 m) fun p e s m below meth c T0 P hP k0 => ?_
  refine s_aloadN k0 d4_0 rfl rfl (pc' := 1) rfl ?_
  refine s_get k0 d4_1 (host := "") (Or.inl (hw _ (List.mem_of_getElem? (i := 15) rfl))) Via.refl F_at (pc' := 4) rfl fun T1 k1 => ?_
  refine s_aloadN k1 d4_4 rfl rfl (pc' := 5) rfl ?_
  refine s_get k1 d4_5 (host := "") (Or.inl (hw _ (List.mem_of_getElem? (i := 17) rfl))) Via.refl F_en (pc' := 8) rfl fun T2 k2 => ?_
  refine s_icmp_ge k2 d4_8 (by decide) (pc' := 32) (by decide) (pc3 := 11) rfl (fun hc8 => absurd hc8 hge) (fun hc8 => ?_)
  refine s_iconst k2 (z := 0) d4_32 (by decide) (pc' := 33) rfl ?_
  exact s_retZ k2 d4_33 rfl (by decide) hP (by decide) (by decide) ⟨rfl, rfl⟩
def fx (q t : Int32) : Int32 := if (q &&& (255 : Int32)) = t then 1 else 0
theorem fx_eq (q t : Int32) : fx q t = if (q &&& (255 : Int32)) = t then 1 else 0 := rfl
theorem d4_11 : decode prog_17_method_4_code 11 = .ok (.aload_n 0, 1) := by decide +kernel
theorem d4_12 : decode prog_17_method_4_code 12 = .ok (.getfield 14, 3) := by decide +kernel
theorem d4_15 : decode prog_17_method_4_code 15 = .ok (.aload_n 0, 1) := by decide +kernel
theorem d4_16 : decode prog_17_method_4_code 16 = .ok (.getfield 18, 3) := by decide +kernel
theorem d4_19 : decode prog_17_method_4_code 19 = .ok (.baload, 1) := by decide +kernel
theorem d4_20 : decode prog_17_method_4_code 20 = .ok (.sipush 255, 3) := by decide +kernel
theorem d4_23 : decode prog_17_method_4_code 23 = .ok (.iand, 1) := by decide +kernel
theorem d4_24 : decode prog_17_method_4_code 24 = .ok (.iload_n 1, 1) := by decide +kernel
theorem d4_25 : decode prog_17_method_4_code 25 = .ok (.if_icmp .ne 7, 3) := by decide +kernel
theorem d4_28 : decode prog_17_method_4_code 28 = .ok (.iconst 1, 1) := by decide +kernel
theorem d4_29 : decode prog_17_method_4_code 29 = .ok (.goto 4, 3) := by decide +kernel
theorem pn_4_rmn1 : plainFor (⟨"io/credsmith/Der", "nextIs", "(I)Z"⟩ : MethodName) = true := plainFor_of_name (by first | (simp [plainName, overriddenIn]; done) | decide +kernel)
theorem ef_rmn1 {a : Addr} {t : Int32} (m : MethodId) : entryFrame m #[.ref a, .int t] 2 = mkF m 0 #[.val (.ref a), .val (.int t)] [] := by first | (simp [entryFrame, mkF, argsToLocals, Value.category]; done) | rfl
set_option maxRecDepth 65536 in
set_option maxHeartbeats 40000000 in
theorem rmn1 (l : Launch) (Z : State) (a0 : Array Value) (hw : ∀ d ∈ tables_1, d.before a0 Z = true) (a b : Addr) (kb : ClassId) (z : Int32) (vs : List Value) (p1 p2 t q : Int32) (h0 : Heap) (n0 : Nat) (Z0 : n0 ≤ h0.size) (F_by : Fld Z h0 a "io/credsmith/Der" "bytes" "[B" (.ref b)) (F_at : Fld Z h0 a "io/credsmith/Der" "at" "I" (.int p1)) (F_en : Fld Z h0 a "io/credsmith/Der" "end" "I" (.int p2)) (A_b : Arv Z h0 b kb .byte z vs (.int (0 : Int32))) (hlt : p1 < p2) (hj : ¬ p1 < 0 ∧ p1 < z) (hv : vs.getD p1.toNatClampNeg (.int (0 : Int32)) = .int q) :
    Met l Z (⟨"io/credsmith/Der", "nextIs", "(I)Z"⟩ : MethodName) prog_17_method_4_code 2 (some .boolean) ({ frames := 0, cells := 0, slots := 0, locals := 0 } : Room) n0 #[.ref a, .int t] h0 (fun v h => v = some (.int (fx q t)) ∧ h0 = h) := by
  refine Met.of (Ls := #[.val (.ref a), .val (.int t)]) pn_4_rmn1 (fun m => ef_rmn1 m) fun p e s m below meth c T0 P hP k0 => ?_
  refine s_aloadN k0 d4_0 rfl rfl (pc' := 1) rfl ?_
  refine s_get k0 d4_1 (host := "") (Or.inl (hw _ (List.mem_of_getElem? (i := 15) rfl))) Via.refl F_at (pc' := 4) rfl fun T1 k1 => ?_
  refine s_aloadN k1 d4_4 rfl rfl (pc' := 5) rfl ?_
  refine s_get k1 d4_5 (host := "") (Or.inl (hw _ (List.mem_of_getElem? (i := 17) rfl))) Via.refl F_en (pc' := 8) rfl fun T2 k2 => ?_
  refine s_icmp_ge k2 d4_8 (by decide) (pc' := 32) (by decide) (pc3 := 11) rfl (fun hc8 => ?_) (fun hc8 => absurd hlt hc8)
  refine s_aloadN k2 d4_11 rfl rfl (pc' := 12) rfl ?_
  refine s_get k2 d4_12 (host := "") (Or.inl (hw _ (List.mem_of_getElem? (i := 13) rfl))) Via.refl F_by (pc' := 15) rfl fun T3 k3 => ?_
  refine s_aloadN k3 d4_15 rfl rfl (pc' := 16) rfl ?_
  refine s_get k3 d4_16 (host := "") (Or.inl (hw _ (List.mem_of_getElem? (i := 15) rfl))) Via.refl F_at (pc' := 19) rfl fun T4 k4 => ?_
  refine s_baload k4 (v := .int q) d4_19 A_b hj hv (pc' := 20) rfl ?_
  refine s_sipush k4 (z := 255) d4_20 (by decide) (pc' := 23) rfl ?_
  refine s_iand k4 d4_23 rfl (pc' := 24) rfl ?_
  refine s_iloadN k4 d4_24 rfl (pc' := 25) rfl ?_
  refine s_icmp_ne k4 d4_25 (by decide) (pc' := 32) (by decide) (pc3 := 28) rfl (fun hc25 => ?_) (fun hc25 => ?_)
  · refine s_iconst k4 (z := 1) d4_28 (by decide) (pc' := 29) rfl ?_
    refine s_goto k4 d4_29 (by decide) (pc' := 33) (by decide) ?_
    exact s_retZ k4 d4_33 rfl (by decide) hP (by decide) (by decide) ⟨by rw [fx_eq, if_pos hc25], rfl⟩
  · refine s_iconst k4 (z := 0) d4_32 (by decide) (pc' := 33) rfl ?_
    exact s_retZ k4 d4_33 rfl (by decide) hP (by decide) (by decide) ⟨by rw [fx_eq, if_neg hc25], rfl⟩
theorem d6_0 : decode prog_17_method_10_code 0 = .ok (.aload_n 0, 1) := by decide +kernel
theorem d6_1 : decode prog_17_method_10_code 1 = .ok (.getfield 18, 3) := by decide +kernel
theorem d6_4 : decode prog_17_method_10_code 4 = .ok (.aload_n 0, 1) := by decide +kernel
theorem d6_5 : decode prog_17_method_10_code 5 = .ok (.getfield 22, 3) := by decide +kernel
theorem d6_8 : decode prog_17_method_10_code 8 = .ok (.if_icmp .eq 20, 3) := by decide +kernel
theorem d6_11 : decode prog_17_method_10_code 11 = .ok (.aload_n 0, 1) := by decide +kernel
theorem d6_12 : decode prog_17_method_10_code 12 = .ok (.getfield 14, 3) := by decide +kernel
theorem d6_15 : decode prog_17_method_10_code 15 = .ok (.aload_n 0, 1) := by decide +kernel
theorem d6_16 : decode prog_17_method_10_code 16 = .ok (.getfield 18, 3) := by decide +kernel
theorem d6_19 : decode prog_17_method_10_code 19 = .ok (.baload, 1) := by decide +kernel
theorem d6_20 : decode prog_17_method_10_code 20 = .ok (.sipush 255, 3) := by decide +kernel
theorem d6_23 : decode prog_17_method_10_code 23 = .ok (.iand, 1) := by decide +kernel
theorem d6_24 : decode prog_17_method_10_code 24 = .ok (.iload_n 1, 1) := by decide +kernel
theorem d6_25 : decode prog_17_method_10_code 25 = .ok (.if_icmp .eq 17, 3) := by decide +kernel
theorem d6_42 : decode prog_17_method_10_code 42 = .ok (.aload_n 0, 1) := by decide +kernel
theorem d6_43 : decode prog_17_method_10_code 43 = .ok (.dup, 1) := by decide +kernel
theorem d6_44 : decode prog_17_method_10_code 44 = .ok (.getfield 18, 3) := by decide +kernel
theorem d6_47 : decode prog_17_method_10_code 47 = .ok (.iconst 1, 1) := by decide +kernel
theorem d6_48 : decode prog_17_method_10_code 48 = .ok (.iadd, 1) := by decide +kernel
theorem d6_49 : decode prog_17_method_10_code 49 = .ok (.putfield 18, 3) := by decide +kernel
theorem d6_52 : decode prog_17_method_10_code 52 = .ok (.aload_n 0, 1) := by decide +kernel
theorem d6_53 : decode prog_17_method_10_code 53 = .ok (.getfield 18, 3) := by decide +kernel
theorem d6_56 : decode prog_17_method_10_code 56 = .ok (.aload_n 0, 1) := by decide +kernel
theorem d6_57 : decode prog_17_method_10_code 57 = .ok (.getfield 22, 3) := by decide +kernel
theorem d6_60 : decode prog_17_method_10_code 60 = .ok (.if_icmp .ne 13, 3) := by decide +kernel
theorem d6_73 : decode prog_17_method_10_code 73 = .ok (.aload_n 0, 1) := by decide +kernel
theorem d6_74 : decode prog_17_method_10_code 74 = .ok (.getfield 14, 3) := by decide +kernel
theorem d6_77 : decode prog_17_method_10_code 77 = .ok (.aload_n 0, 1) := by decide +kernel
theorem d6_78 : decode prog_17_method_10_code 78 = .ok (.dup, 1) := by decide +kernel
theorem d6_79 : decode prog_17_method_10_code 79 = .ok (.getfield 18, 3) := by decide +kernel
theorem d6_82 : decode prog_17_method_10_code 82 = .ok (.dup_x1, 1) := by decide +kernel
theorem d6_83 : decode prog_17_method_10_code 83 = .ok (.iconst 1, 1) := by decide +kernel
theorem d6_84 : decode prog_17_method_10_code 84 = .ok (.iadd, 1) := by decide +kernel
theorem d6_85 : decode prog_17_method_10_code 85 = .ok (.putfield 18, 3) := by decide +kernel
theorem d6_88 : decode prog_17_method_10_code 88 = .ok (.baload, 1) := by decide +kernel
theorem d6_89 : decode prog_17_method_10_code 89 = .ok (.sipush 255, 3) := by decide +kernel
theorem d6_92 : decode prog_17_method_10_code 92 = .ok (.iand, 1) := by decide +kernel
theorem d6_93 : decode prog_17_method_10_code 93 = .ok (.istore_n 2, 1) := by decide +kernel
theorem d6_94 : decode prog_17_method_10_code 94 = .ok (.iload_n 2, 1) := by decide +kernel
theorem d6_95 : decode prog_17_method_10_code 95 = .ok (.i2l, 1) := by decide +kernel
theorem d6_96 : decode prog_17_method_10_code 96 = .ok (.lstore_n 3, 1) := by decide +kernel
theorem d6_97 : decode prog_17_method_10_code 97 = .ok (.iload_n 2, 1) := by decide +kernel
theorem d6_98 : decode prog_17_method_10_code 98 = .ok (.sipush 128, 3) := by decide +kernel
theorem d6_101 : decode prog_17_method_10_code 101 = .ok (.if_icmp .lt 90, 3) := by decide +kernel
theorem d6_191 : decode prog_17_method_10_code 191 = .ok (.lload_n 3, 1) := by decide +kernel
theorem d6_192 : decode prog_17_method_10_code 192 = .ok (.aload_n 0, 1) := by decide +kernel
theorem d6_193 : decode prog_17_method_10_code 193 = .ok (.getfield 22, 3) := by decide +kernel
theorem d6_196 : decode prog_17_method_10_code 196 = .ok (.aload_n 0, 1) := by decide +kernel
theorem d6_197 : decode prog_17_method_10_code 197 = .ok (.getfield 18, 3) := by decide +kernel
theorem d6_200 : decode prog_17_method_10_code 200 = .ok (.isub, 1) := by decide +kernel
theorem d6_201 : decode prog_17_method_10_code 201 = .ok (.i2l, 1) := by decide +kernel
theorem d6_202 : decode prog_17_method_10_code 202 = .ok (.lcmp, 1) := by decide +kernel
theorem d6_203 : decode prog_17_method_10_code 203 = .ok (.ifCond .le 13, 3) := by decide +kernel
theorem d6_216 : decode prog_17_method_10_code 216 = .ok (.aload_n 0, 1) := by decide +kernel
theorem d6_217 : decode prog_17_method_10_code 217 = .ok (.getfield 18, 3) := by decide +kernel
theorem d6_220 : decode prog_17_method_10_code 220 = .ok (.istore 5, 2) := by decide +kernel
theorem d6_222 : decode prog_17_method_10_code 222 = .ok (.aload_n 0, 1) := by decide +kernel
theorem d6_223 : decode prog_17_method_10_code 223 = .ok (.dup, 1) := by decide +kernel
theorem d6_224 : decode prog_17_method_10_code 224 = .ok (.getfield 18, 3) := by decide +kernel
theorem d6_227 : decode prog_17_method_10_code 227 = .ok (.lload_n 3, 1) := by decide +kernel
theorem d6_228 : decode prog_17_method_10_code 228 = .ok (.l2i, 1) := by decide +kernel
theorem d6_229 : decode prog_17_method_10_code 229 = .ok (.iadd, 1) := by decide +kernel
theorem d6_230 : decode prog_17_method_10_code 230 = .ok (.putfield 18, 3) := by decide +kernel
theorem d6_233 : decode prog_17_method_10_code 233 = .ok (.iload 5, 2) := by decide +kernel
theorem d6_235 : decode prog_17_method_10_code 235 = .ok (.ireturn, 1) := by decide +kernel
theorem pn_6_rmc20 : plainFor (⟨"io/credsmith/Der", "contentOfNext", "(I)I"⟩ : MethodName) = true := plainFor_of_name (by first | (simp [plainName, overriddenIn]; done) | decide +kernel)
theorem ef_rmc20 {a : Addr} {t : Int32} (m : MethodId) : entryFrame m #[.ref a, .int t] 7 = mkF m 0 #[.val (.ref a), .val (.int t), .unset, .unset, .unset, .unset, .unset] [] := by first | (simp [entryFrame, mkF, argsToLocals, Value.category]; done) | rfl
set_option maxRecDepth 65536 in
set_option maxHeartbeats 40000000 in
theorem rmc20 (l : Launch) (Z : State) (a0 : Array Value) (hw : ∀ d ∈ tables_1, d.before a0 Z = true) (a b : Addr) (kb : ClassId) (q0 q2 t : Int32) (h0 : Heap) (n0 : Nat) (Z0 : n0 ≤ h0.size) (E_a : Exa Z h0 a "io/credsmith/Der") (F_by : Fld Z h0 a "io/credsmith/Der" "bytes" "[B" (.ref b)) (F_at : Fld Z h0 a "io/credsmith/Der" "at" "I" (.int (0 : Int32))) (F_en : Fld Z h0 a "io/credsmith/Der" "end" "I" (.int (2 : Int32))) (g_a : n0 ≤ a) (A_b : Arv Z h0 b kb .byte (2 : Int32) [.int q0, .int (0 : Int32)] (.int (0 : Int32))) (ne_ba : b ≠ a) (ht : (q0 &&& (255 : Int32)) = t) :
    Met l Z (⟨"io/credsmith/Der", "contentOfNext", "(I)I"⟩ : MethodName) prog_17_method_10_code 7 (some .int) ({ frames := 0, cells := 0, slots := 0, locals := 0 } : Room) n0 #[.ref a, .int t] h0 (fun v h => v = some (.int 2) ∧ Keep h0 h [a] ∧ Fld Z h a "io/credsmith/Der" "bytes" "[B" (.ref b) ∧ Fld Z h a "io/credsmith/Der" "at" "I" (.int (2 : Int32)) ∧ Fld Z h a "io/credsmith/Der" "end" "I" (.int (2 : Int32))) := by
  have Kp0 := Keep.refl h0 [a]
  refine Met.of (Ls := #[.val (.ref a), .val (.int t), .unset, .unset, .unset, .unset, .unset]) pn_6_rmc20 (fun m => ef_rmc20 m) fun p e s m below meth c T0 P hP k0 => ?_
  refine s_aloadN k0 d6_0 rfl rfl (pc' := 1) rfl ?_
  refine s_get k0 d6_1 (host := "") (Or.inl (hw _ (List.mem_of_getElem? (i := 15) rfl))) Via.refl F_at (pc' := 4) rfl fun T1 k1 => ?_
  refine s_aloadN k1 d6_4 rfl rfl (pc' := 5) rfl ?_
  refine s_get k1 d6_5 (host := "") (Or.inl (hw _ (List.mem_of_getElem? (i := 17) rfl))) Via.refl F_en (pc' := 8) rfl fun T2 k2 => ?_
  refine s_icmp_eq k2 d6_8 (by decide) (pc' := 28) (by decide) (pc3 := 11) rfl (fun hc8 => absurd hc8 (by decide)) (fun hc8 => ?_)
  refine s_aloadN k2 d6_11 rfl rfl (pc' := 12) rfl ?_
  refine s_get k2 d6_12 (host := "") (Or.inl (hw _ (List.mem_of_getElem? (i := 13) rfl))) Via.refl F_by (pc' := 15) rfl fun T3 k3 => ?_
  refine s_aloadN k3 d6_15 rfl rfl (pc' := 16) rfl ?_
  refine s_get k3 d6_16 (host := "") (Or.inl (hw _ (List.mem_of_getElem? (i := 15) rfl))) Via.refl F_at (pc' := 19) rfl fun T4 k4 => ?_
  refine s_baload k4 (v := .int q0) d6_19 A_b ⟨by decide, by decide⟩ rfl (pc' := 20) rfl ?_
  refine s_sipush k4 (z := 255) d6_20 (by decide) (pc' := 23) rfl ?_
  refine s_iand k4 d6_23 rfl (pc' := 24) rfl ?_
  refine s_iloadN k4 d6_24 rfl (pc' := 25) rfl ?_
  refine s_icmp_eq k4 d6_25 (by decide) (pc' := 42) (by decide) (pc3 := 28) rfl (fun hc25 => ?_) (fun hc25 => absurd ht hc25)
  refine s_aloadN k4 d6_42 rfl rfl (pc' := 43) rfl ?_
  refine s_dup k4 d6_43 rfl (pc' := 44) rfl ?_
  refine s_get k4 d6_44 (host := "") (Or.inl (hw _ (List.mem_of_getElem? (i := 15) rfl))) Via.refl F_at (pc' := 47) rfl fun T5 k5 => ?_
  refine s_iconst k5 (z := 1) d6_47 (by decide) (pc' := 48) rfl ?_
  refine s_iadd k5 (z := (1 : Int32)) d6_48 (by decide) (pc' := 49) rfl ?_
  refine s_put k5 d6_49 (host := "") (Or.inl (hw _ (List.mem_of_getElem? (i := 15) rfl))) Via.refl F_at E_a (Or.inl (hw _ (List.mem_of_getElem? (i := 16) rfl))) (hw _ (List.mem_of_getElem? (i := 2) rfl)) (ty := .int) (by decide) rfl rfl g_a (pc' := 52) rfl fun T6 h6 L6 k6 W6 => ?_
  have F7_a_bytes := F_by.other W6 (Or.inr (slot_ne (Or.inr (hw _ (List.mem_of_getElem? (i := 14) rfl))) (Or.inl (hw _ (List.mem_of_getElem? (i := 16) rfl))) (by decide) (t := (.array .byte)) (t' := .int) (by decide) (by decide)))
  have F8_a_at := F_at.same W6
  have F9_a_end := F_en.other W6 (Or.inr (slot_ne (Or.inr (hw _ (List.mem_of_getElem? (i := 18) rfl))) (Or.inl (hw _ (List.mem_of_getElem? (i := 16) rfl))) (by decide) (t := .int) (t' := .int) (by decide) (by decide)))
  have E10_a := E_a.wr W6
  have A11_b := A_b.other W6 ne_ba
  have Z12 := Nat.le_trans Z0 (Keep.of_wr W6).1
  have Kp13 := Kp0.wr W6 (Or.inl (List.mem_of_getElem? (i := 0) rfl))
  refine s_aloadN k6 d6_52 rfl rfl (pc' := 53) rfl ?_
  refine s_get k6 d6_53 (host := "") (Or.inl (hw _ (List.mem_of_getElem? (i := 15) rfl))) Via.refl F8_a_at (pc' := 56) rfl fun T14 k14 => ?_
  refine s_aloadN k14 d6_56 rfl rfl (pc' := 57) rfl ?_
  refine s_get k14 d6_57 (host := "") (Or.inl (hw _ (List.mem_of_getElem? (i := 17) rfl))) Via.refl F9_a_end (pc' := 60) rfl fun T15 k15 => ?_
  refine s_icmp_ne k15 d6_60 (by decide) (pc' := 73) (by decide) (pc3 := 63) rfl (fun hc60 => absurd hc60 (by decide)) (fun hc60 => ?_)
  refine s_aloadN k15 d6_73 rfl rfl (pc' := 74) rfl ?_
  refine s_get k15 d6_74 (host := "") (Or.inl (hw _ (List.mem_of_getElem? (i := 13) rfl))) Via.refl F7_a_bytes (pc' := 77) rfl fun T16 k16 => ?_
  refine s_aloadN k16 d6_77 rfl rfl (pc' := 78) rfl ?_
  refine s_dup k16 d6_78 rfl (pc' := 79) rfl ?_
  refine s_get k16 d6_79 (host := "") (Or.inl (hw _ (List.mem_of_getElem? (i := 15) rfl))) Via.refl F8_a_at (pc' := 82) rfl fun T17 k17 => ?_
  refine s_dupx1 k17 d6_82 rfl rfl (pc' := 83) rfl ?_
  refine s_iconst k17 (z := 1) d6_83 (by decide) (pc' := 84) rfl ?_
  refine s_iadd k17 (z := (2 : Int32)) d6_84 (by decide) (pc' := 85) rfl ?_
  refine s_put k17 d6_85 (host := "") (Or.inl (hw _ (List.mem_of_getElem? (i := 15) rfl))) Via.refl F8_a_at E10_a (Or.inl (hw _ (List.mem_of_getElem? (i := 16) rfl))) (hw _ (List.mem_of_getElem? (i := 2) rfl)) (ty := .int) (by decide) rfl rfl g_a (pc' := 88) rfl fun T18 h18 L18 k18 W18 => ?_
  have F19_a_bytes := F7_a_bytes.other W18 (Or.inr (slot_ne (Or.inr (hw _ (List.mem_of_getElem? (i := 14) rfl))) (Or.inl (hw _ (List.mem_of_getElem? (i := 16) rfl))) (by decide) (t := (.array .byte)) (t' := .int) (by decide) (by decide)))
  have F20_a_at := F8_a_at.same W18
  have F21_a_end := F9_a_end.other W18 (Or.inr (slot_ne (Or.inr (hw _ (List.mem_of_getElem? (i := 18) rfl))) (Or.inl (hw _ (List.mem_of_getElem? (i := 16) rfl))) (by decide) (t := .int) (t' := .int) (by decide) (by decide)))
  have E22_a := E10_a.wr W18
  have A23_b := A11_b.other W18 ne_ba
  have Z24 := Nat.le_trans Z12 (Keep.of_wr W18).1
  have Kp25 := Kp13.wr W18 (Or.inl (List.mem_of_getElem? (i := 0) rfl))
  refine s_baload k18 (v := .int (0 : Int32)) d6_88 A23_b ⟨by decide, by decide⟩ rfl (pc' := 89) rfl ?_
  refine s_sipush k18 (z := 255) d6_89 (by decide) (pc' := 92) rfl ?_
  refine s_iand k18 (z := (0 : Int32)) d6_92 (by decide) (pc' := 93) rfl ?_
  refine s_istoreN k18 d6_93 (l' := #[.val (.ref a), .val (.int t), .val (.int (0 : Int32)), .unset, .unset, .unset, .unset]) rfl (pc' := 94) rfl ?_
  refine s_iloadN k18 d6_94 rfl (pc' := 95) rfl ?_
  refine s_i2l k18 (z := (0 : Int64)) d6_95 (by decide) (pc' := 96) rfl ?_
  refine s_lstoreN k18 d6_96 (l' := #[.val (.ref a), .val (.int t), .val (.int (0 : Int32)), .val (.long (0 : Int64)), .second, .unset, .unset]) rfl (pc' := 97) rfl ?_
  refine s_iloadN k18 d6_97 rfl (pc' := 98) rfl ?_
  refine s_sipush k18 (z := 128) d6_98 (by decide) (pc' := 101) rfl ?_
  refine s_icmp_lt k18 d6_101 (by decide) (pc' := 191) (by decide) (pc3 := 104) rfl (fun hc101 => ?_) (fun hc101 => absurd (by decide) hc101)
  refine s_lloadN k18 d6_191 rfl (pc' := 192) rfl ?_
  refine s_aloadN k18 d6_192 rfl rfl (pc' := 193) rfl ?_
  refine s_get k18 d6_193 (host := "") (Or.inl (hw _ (List.mem_of_getElem? (i := 17) rfl))) Via.refl F21_a_end (pc' := 196) rfl fun T26 k26 => ?_
  refine s_aloadN k26 d6_196 rfl rfl (pc' := 197) rfl ?_
  refine s_get k26 d6_197 (host := "") (Or.inl (hw _ (List.mem_of_getElem? (i := 15) rfl))) Via.refl F20_a_at (pc' := 200) rfl fun T27 k27 => ?_
  refine s_isub k27 (z := (0 : Int32)) d6_200 (by decide) (pc' := 201) rfl ?_
  refine s_i2l k27 (z := (0 : Int64)) d6_201 (by decide) (pc' := 202) rfl ?_
  refine s_lcmp_le k27 d6_202 rfl d6_203 (by decide) (pc' := 216) (by decide) (pc3 := 206) rfl (fun hc202 => absurd hc202 (by decide)) (fun hc202 => ?_)
  refine s_aloadN k27 d6_216 rfl rfl (pc' := 217) rfl ?_
  refine s_get k27 d6_217 (host := "") (Or.inl (hw _ (List.mem_of_getElem? (i := 15) rfl))) Via.refl F20_a_at (pc' := 220) rfl fun T28 k28 => ?_
  refine s_istore k28 d6_220 (l' := #[.val (.ref a), .val (.int t), .val (.int (0 : Int32)), .val (.long (0 : Int64)), .second, .val (.int (2 : Int32)), .unset]) rfl (pc' := 222) rfl ?_
  refine s_aloadN k28 d6_222 rfl rfl (pc' := 223) rfl ?_
  refine s_dup k28 d6_223 rfl (pc' := 224) rfl ?_
  refine s_get k28 d6_224 (host := "") (Or.inl (hw _ (List.mem_of_getElem? (i := 15) rfl))) Via.refl F20_a_at (pc' := 227) rfl fun T29 k29 => ?_
  refine s_lloadN k29 d6_227 rfl (pc' := 228) rfl ?_
  refine s_l2i k29 (z := (0 : Int32)) d6_228 (by decide) (pc' := 229) rfl ?_
  refine s_iadd k29 (z := (2 : Int32)) d6_229 (by decide) (pc' := 230) rfl ?_
  refine s_put k29 d6_230 (host := "") (Or.inl (hw _ (List.mem_of_getElem? (i := 15) rfl))) Via.refl F20_a_at E22_a (Or.inl (hw _ (List.mem_of_getElem? (i := 16) rfl))) (hw _ (List.mem_of_getElem? (i := 2) rfl)) (ty := .int) (by decide) rfl rfl g_a (pc' := 233) rfl fun T30 h30 L30 k30 W30 => ?_
  have F31_a_bytes := F19_a_bytes.other W30 (Or.inr (slot_ne (Or.inr (hw _ (List.mem_of_getElem? (i := 14) rfl))) (Or.inl (hw _ (List.mem_of_getElem? (i := 16) rfl))) (by decide) (t := (.array .byte)) (t' := .int) (by decide) (by decide)))
  have F32_a_at := F20_a_at.same W30
  have F33_a_end := F21_a_end.other W30 (Or.inr (slot_ne (Or.inr (hw _ (List.mem_of_getElem? (i := 18) rfl))) (Or.inl (hw _ (List.mem_of_getElem? (i := 16) rfl))) (by decide) (t := .int) (t' := .int) (by decide) (by decide)))
  have E34_a := E22_a.wr W30
  have A35_b := A23_b.other W30 ne_ba
  have Z36 := Nat.le_trans Z24 (Keep.of_wr W30).1
  have Kp37 := Kp25.wr W30 (Or.inl (List.mem_of_getElem? (i := 0) rfl))
  refine s_iload k30 d6_233 rfl (pc' := 235) rfl ?_
  exact s_retI k30 d6_235 rfl hP (by decide) (by decide) ⟨rfl, Kp37, F31_a_bytes, F32_a_at, F33_a_end⟩
theorem pn_6_rmc30 : plainFor (⟨"io/credsmith/Der", "contentOfNext", "(I)I"⟩ : MethodName) = true := plainFor_of_name (by first | (simp [plainName, overriddenIn]; done) | decide +kernel)
theorem ef_rmc30 {a : Addr} {t : Int32} (m : MethodId) : entryFrame m #[.ref a, .int t] 7 = mkF m 0 #[.val (.ref a), .val (.int t), .unset, .unset, .unset, .unset, .unset] [] := by first | (simp [entryFrame, mkF, argsToLocals, Value.category]; done) | rfl
set_option maxRecDepth 65536 in
set_option maxHeartbeats 40000000 in
theorem rmc30 (l : Launch) (Z : State) (a0 : Array Value) (hw : ∀ d ∈ tables_1, d.before a0 Z = true) (a b : Addr) (kb : ClassId) (q0 q2 t : Int32) (h0 : Heap) (n0 : Nat) (Z0 : n0 ≤ h0.size) (E_a : Exa Z h0 a "io/credsmith/Der") (F_by : Fld Z h0 a "io/credsmith/Der" "bytes" "[B" (.ref b)) (F_at : Fld Z h0 a "io/credsmith/Der" "at" "I" (.int (0 : Int32))) (F_en : Fld Z h0 a "io/credsmith/Der" "end" "I" (.int (3 : Int32))) (g_a : n0 ≤ a) (A_b : Arv Z h0 b kb .byte (3 : Int32) [.int q0, .int (0 : Int32), .int q2] (.int (0 : Int32))) (ne_ba : b ≠ a) (ht : (q0 &&& (255 : Int32)) = t) :
    Met l Z (⟨"io/credsmith/Der", "contentOfNext", "(I)I"⟩ : MethodName) prog_17_method_10_code 7 (some .int) ({ frames := 0, cells := 0, slots := 0, locals := 0 } : Room) n0 #[.ref a, .int t] h0 (fun v h => v = some (.int 2) ∧ Keep h0 h [a] ∧ Fld Z h a "io/credsmith/Der" "bytes" "[B" (.ref b) ∧ Fld Z h a "io/credsmith/Der" "at" "I" (.int (2 : Int32)) ∧ Fld Z h a "io/credsmith/Der" "end" "I" (.int (3 : Int32))) := by
  have Kp0 := Keep.refl h0 [a]
  refine Met.of (Ls := #[.val (.ref a), .val (.int t), .unset, .unset, .unset, .unset, .unset]) pn_6_rmc30 (fun m => ef_rmc30 m) fun p e s m below meth c T0 P hP k0 => ?_
  refine s_aloadN k0 d6_0 rfl rfl (pc' := 1) rfl ?_
  refine s_get k0 d6_1 (host := "") (Or.inl (hw _ (List.mem_of_getElem? (i := 15) rfl))) Via.refl F_at (pc' := 4) rfl fun T1 k1 => ?_
  refine s_aloadN k1 d6_4 rfl rfl (pc' := 5) rfl ?_
  refine s_get k1 d6_5 (host := "") (Or.inl (hw _ (List.mem_of_getElem? (i := 17) rfl))) Via.refl F_en (pc' := 8) rfl fun T2 k2 => ?_
  refine s_icmp_eq k2 d6_8 (by decide) (pc' := 28) (by decide) (pc3 := 11) rfl (fun hc8 => absurd hc8 (by decide)) (fun hc8 => ?_)
  refine s_aloadN k2 d6_11 rfl rfl (pc' := 12) rfl ?_
  refine s_get k2 d6_12 (host := "") (Or.inl (hw _ (List.mem_of_getElem? (i := 13) rfl))) Via.refl F_by (pc' := 15) rfl fun T3 k3 => ?_
  refine s_aloadN k3 d6_15 rfl rfl (pc' := 16) rfl ?_
  refine s_get k3 d6_16 (host := "") (Or.inl (hw _ (List.mem_of_getElem? (i := 15) rfl))) Via.refl F_at (pc' := 19) rfl fun T4 k4 => ?_
  refine s_baload k4 (v := .int q0) d6_19 A_b ⟨by decide, by decide⟩ rfl (pc' := 20) rfl ?_
  refine s_sipush k4 (z := 255) d6_20 (by decide) (pc' := 23) rfl ?_
  refine s_iand k4 d6_23 rfl (pc' := 24) rfl ?_
  refine s_iloadN k4 d6_24 rfl (pc' := 25) rfl ?_
  refine s_icmp_eq k4 d6_25 (by decide) (pc' := 42) (by decide) (pc3 := 28) rfl (fun hc25 => ?_) (fun hc25 => absurd ht hc25)
  refine s_aloadN k4 d6_42 rfl rfl (pc' := 43) rfl ?_
  refine s_dup k4 d6_43 rfl (pc' := 44) rfl ?_
  refine s_get k4 d6_44 (host := "") (Or.inl (hw _ (List.mem_of_getElem? (i := 15) rfl))) Via.refl F_at (pc' := 47) rfl fun T5 k5 => ?_
  refine s_iconst k5 (z := 1) d6_47 (by decide) (pc' := 48) rfl ?_
  refine s_iadd k5 (z := (1 : Int32)) d6_48 (by decide) (pc' := 49) rfl ?_
  refine s_put k5 d6_49 (host := "") (Or.inl (hw _ (List.mem_of_getElem? (i := 15) rfl))) Via.refl F_at E_a (Or.inl (hw _ (List.mem_of_getElem? (i := 16) rfl))) (hw _ (List.mem_of_getElem? (i := 2) rfl)) (ty := .int) (by decide) rfl rfl g_a (pc' := 52) rfl fun T6 h6 L6 k6 W6 => ?_
  have F7_a_bytes := F_by.other W6 (Or.inr (slot_ne (Or.inr (hw _ (List.mem_of_getElem? (i := 14) rfl))) (Or.inl (hw _ (List.mem_of_getElem? (i := 16) rfl))) (by decide) (t := (.array .byte)) (t' := .int) (by decide) (by decide)))
  have F8_a_at := F_at.same W6
  have F9_a_end := F_en.other W6 (Or.inr (slot_ne (Or.inr (hw _ (List.mem_of_getElem? (i := 18) rfl))) (Or.inl (hw _ (List.mem_of_getElem? (i := 16) rfl))) (by decide) (t := .int) (t' := .int) (by decide) (by decide)))
  have E10_a := E_a.wr W6
  have A11_b := A_b.other W6 ne_ba
  have Z12 := Nat.le_trans Z0 (Keep.of_wr W6).1
  have Kp13 := Kp0.wr W6 (Or.inl (List.mem_of_getElem? (i := 0) rfl))
  refine s_aloadN k6 d6_52 rfl rfl (pc' := 53) rfl ?_
  refine s_get k6 d6_53 (host := "") (Or.inl (hw _ (List.mem_of_getElem? (i := 15) rfl))) Via.refl F8_a_at (pc' := 56) rfl fun T14 k14 => ?_
  refine s_aloadN k14 d6_56 rfl rfl (pc' := 57) rfl ?_
  refine s_get k14 d6_57 (host := "") (Or.inl (hw _ (List.mem_of_getElem? (i := 17) rfl))) Via.refl F9_a_end (pc' := 60) rfl fun T15 k15 => ?_
  refine s_icmp_ne k15 d6_60 (by decide) (pc' := 73) (by decide) (pc3 := 63) rfl (fun hc60 => absurd hc60 (by decide)) (fun hc60 => ?_)
  refine s_aloadN k15 d6_73 rfl rfl (pc' := 74) rfl ?_
  refine s_get k15 d6_74 (host := "") (Or.inl (hw _ (List.mem_of_getElem? (i := 13) rfl))) Via.refl F7_a_bytes (pc' := 77) rfl fun T16 k16 => ?_
  refine s_aloadN k16 d6_77 rfl rfl (pc' := 78) rfl ?_
  refine s_dup k16 d6_78 rfl (pc' := 79) rfl ?_
  refine s_get k16 d6_79 (host := "") (Or.inl (hw _ (List.mem_of_getElem? (i := 15) rfl))) Via.refl F8_a_at (pc' := 82) rfl fun T17 k17 => ?_
  refine s_dupx1 k17 d6_82 rfl rfl (pc' := 83) rfl ?_
  refine s_iconst k17 (z := 1) d6_83 (by decide) (pc' := 84) rfl ?_
  refine s_iadd k17 (z := (2 : Int32)) d6_84 (by decide) (pc' := 85) rfl ?_
  refine s_put k17 d6_85 (host := "") (Or.inl (hw _ (List.mem_of_getElem? (i := 15) rfl))) Via.refl F8_a_at E10_a (Or.inl (hw _ (List.mem_of_getElem? (i := 16) rfl))) (hw _ (List.mem_of_getElem? (i := 2) rfl)) (ty := .int) (by decide) rfl rfl g_a (pc' := 88) rfl fun T18 h18 L18 k18 W18 => ?_
  have F19_a_bytes := F7_a_bytes.other W18 (Or.inr (slot_ne (Or.inr (hw _ (List.mem_of_getElem? (i := 14) rfl))) (Or.inl (hw _ (List.mem_of_getElem? (i := 16) rfl))) (by decide) (t := (.array .byte)) (t' := .int) (by decide) (by decide)))
  have F20_a_at := F8_a_at.same W18
  have F21_a_end := F9_a_end.other W18 (Or.inr (slot_ne (Or.inr (hw _ (List.mem_of_getElem? (i := 18) rfl))) (Or.inl (hw _ (List.mem_of_getElem? (i := 16) rfl))) (by decide) (t := .int) (t' := .int) (by decide) (by decide)))
  have E22_a := E10_a.wr W18
  have A23_b := A11_b.other W18 ne_ba
  have Z24 := Nat.le_trans Z12 (Keep.of_wr W18).1
  have Kp25 := Kp13.wr W18 (Or.inl (List.mem_of_getElem? (i := 0) rfl))
  refine s_baload k18 (v := .int (0 : Int32)) d6_88 A23_b ⟨by decide, by decide⟩ rfl (pc' := 89) rfl ?_
  refine s_sipush k18 (z := 255) d6_89 (by decide) (pc' := 92) rfl ?_
  refine s_iand k18 (z := (0 : Int32)) d6_92 (by decide) (pc' := 93) rfl ?_
  refine s_istoreN k18 d6_93 (l' := #[.val (.ref a), .val (.int t), .val (.int (0 : Int32)), .unset, .unset, .unset, .unset]) rfl (pc' := 94) rfl ?_
  refine s_iloadN k18 d6_94 rfl (pc' := 95) rfl ?_
  refine s_i2l k18 (z := (0 : Int64)) d6_95 (by decide) (pc' := 96) rfl ?_
  refine s_lstoreN k18 d6_96 (l' := #[.val (.ref a), .val (.int t), .val (.int (0 : Int32)), .val (.long (0 : Int64)), .second, .unset, .unset]) rfl (pc' := 97) rfl ?_
  refine s_iloadN k18 d6_97 rfl (pc' := 98) rfl ?_
  refine s_sipush k18 (z := 128) d6_98 (by decide) (pc' := 101) rfl ?_
  refine s_icmp_lt k18 d6_101 (by decide) (pc' := 191) (by decide) (pc3 := 104) rfl (fun hc101 => ?_) (fun hc101 => absurd (by decide) hc101)
  refine s_lloadN k18 d6_191 rfl (pc' := 192) rfl ?_
  refine s_aloadN k18 d6_192 rfl rfl (pc' := 193) rfl ?_
  refine s_get k18 d6_193 (host := "") (Or.inl (hw _ (List.mem_of_getElem? (i := 17) rfl))) Via.refl F21_a_end (pc' := 196) rfl fun T26 k26 => ?_
  refine s_aloadN k26 d6_196 rfl rfl (pc' := 197) rfl ?_
  refine s_get k26 d6_197 (host := "") (Or.inl (hw _ (List.mem_of_getElem? (i := 15) rfl))) Via.refl F20_a_at (pc' := 200) rfl fun T27 k27 => ?_
  refine s_isub k27 (z := (1 : Int32)) d6_200 (by decide) (pc' := 201) rfl ?_
  refine s_i2l k27 (z := (1 : Int64)) d6_201 (by decide) (pc' := 202) rfl ?_
  refine s_lcmp_le k27 d6_202 rfl d6_203 (by decide) (pc' := 216) (by decide) (pc3 := 206) rfl (fun hc202 => absurd hc202 (by decide)) (fun hc202 => ?_)
  refine s_aloadN k27 d6_216 rfl rfl (pc' := 217) rfl ?_
  refine s_get k27 d6_217 (host := "") (Or.inl (hw _ (List.mem_of_getElem? (i := 15) rfl))) Via.refl F20_a_at (pc' := 220) rfl fun T28 k28 => ?_
  refine s_istore k28 d6_220 (l' := #[.val (.ref a), .val (.int t), .val (.int (0 : Int32)), .val (.long (0 : Int64)), .second, .val (.int (2 : Int32)), .unset]) rfl (pc' := 222) rfl ?_
  refine s_aloadN k28 d6_222 rfl rfl (pc' := 223) rfl ?_
  refine s_dup k28 d6_223 rfl (pc' := 224) rfl ?_
  refine s_get k28 d6_224 (host := "") (Or.inl (hw _ (List.mem_of_getElem? (i := 15) rfl))) Via.refl F20_a_at (pc' := 227) rfl fun T29 k29 => ?_
  refine s_lloadN k29 d6_227 rfl (pc' := 228) rfl ?_
  refine s_l2i k29 (z := (0 : Int32)) d6_228 (by decide) (pc' := 229) rfl ?_
  refine s_iadd k29 (z := (2 : Int32)) d6_229 (by decide) (pc' := 230) rfl ?_
  refine s_put k29 d6_230 (host := "") (Or.inl (hw _ (List.mem_of_getElem? (i := 15) rfl))) Via.refl F20_a_at E22_a (Or.inl (hw _ (List.mem_of_getElem? (i := 16) rfl))) (hw _ (List.mem_of_getElem? (i := 2) rfl)) (ty := .int) (by decide) rfl rfl g_a (pc' := 233) rfl fun T30 h30 L30 k30 W30 => ?_
  have F31_a_bytes := F19_a_bytes.other W30 (Or.inr (slot_ne (Or.inr (hw _ (List.mem_of_getElem? (i := 14) rfl))) (Or.inl (hw _ (List.mem_of_getElem? (i := 16) rfl))) (by decide) (t := (.array .byte)) (t' := .int) (by decide) (by decide)))
  have F32_a_at := F20_a_at.same W30
  have F33_a_end := F21_a_end.other W30 (Or.inr (slot_ne (Or.inr (hw _ (List.mem_of_getElem? (i := 18) rfl))) (Or.inl (hw _ (List.mem_of_getElem? (i := 16) rfl))) (by decide) (t := .int) (t' := .int) (by decide) (by decide)))
  have E34_a := E22_a.wr W30
  have A35_b := A23_b.other W30 ne_ba
  have Z36 := Nat.le_trans Z24 (Keep.of_wr W30).1
  have Kp37 := Kp25.wr W30 (Or.inl (List.mem_of_getElem? (i := 0) rfl))
  refine s_iload k30 d6_233 rfl (pc' := 235) rfl ?_
  exact s_retI k30 d6_235 rfl hP (by decide) (by decide) ⟨rfl, Kp37, F31_a_bytes, F32_a_at, F33_a_end⟩
theorem pn_6_rmc31 : plainFor (⟨"io/credsmith/Der", "contentOfNext", "(I)I"⟩ : MethodName) = true := plainFor_of_name (by first | (simp [plainName, overriddenIn]; done) | decide +kernel)
theorem ef_rmc31 {a : Addr} {t : Int32} (m : MethodId) : entryFrame m #[.ref a, .int t] 7 = mkF m 0 #[.val (.ref a), .val (.int t), .unset, .unset, .unset, .unset, .unset] [] := by first | (simp [entryFrame, mkF, argsToLocals, Value.category]; done) | rfl
set_option maxRecDepth 65536 in
set_option maxHeartbeats 40000000 in
theorem rmc31 (l : Launch) (Z : State) (a0 : Array Value) (hw : ∀ d ∈ tables_1, d.before a0 Z = true) (a b : Addr) (kb : ClassId) (q0 q2 t : Int32) (h0 : Heap) (n0 : Nat) (Z0 : n0 ≤ h0.size) (E_a : Exa Z h0 a "io/credsmith/Der") (F_by : Fld Z h0 a "io/credsmith/Der" "bytes" "[B" (.ref b)) (F_at : Fld Z h0 a "io/credsmith/Der" "at" "I" (.int (0 : Int32))) (F_en : Fld Z h0 a "io/credsmith/Der" "end" "I" (.int (3 : Int32))) (g_a : n0 ≤ a) (A_b : Arv Z h0 b kb .byte (3 : Int32) [.int q0, .int (1 : Int32), .int q2] (.int (0 : Int32))) (ne_ba : b ≠ a) (ht : (q0 &&& (255 : Int32)) = t) :
    Met l Z (⟨"io/credsmith/Der", "contentOfNext", "(I)I"⟩ : MethodName) prog_17_method_10_code 7 (some .int) ({ frames := 0, cells := 0, slots := 0, locals := 0 } : Room) n0 #[.ref a, .int t] h0 (fun v h => v = some (.int 2) ∧ Keep h0 h [a] ∧ Fld Z h a "io/credsmith/Der" "bytes" "[B" (.ref b) ∧ Fld Z h a "io/credsmith/Der" "at" "I" (.int (3 : Int32)) ∧ Fld Z h a "io/credsmith/Der" "end" "I" (.int (3 : Int32))) := by
  have Kp0 := Keep.refl h0 [a]
  refine Met.of (Ls := #[.val (.ref a), .val (.int t), .unset, .unset, .unset, .unset, .unset]) pn_6_rmc31 (fun m => ef_rmc31 m) fun p e s m below meth c T0 P hP k0 => ?_
  refine s_aloadN k0 d6_0 rfl rfl (pc' := 1) rfl ?_
  refine s_get k0 d6_1 (host := "") (Or.inl (hw _ (List.mem_of_getElem? (i := 15) rfl))) Via.refl F_at (pc' := 4) rfl fun T1 k1 => ?_
  refine s_aloadN k1 d6_4 rfl rfl (pc' := 5) rfl ?_
  refine s_get k1 d6_5 (host := "") (Or.inl (hw _ (List.mem_of_getElem? (i := 17) rfl))) Via.refl F_en (pc' := 8) rfl fun T2 k2 => ?_
  refine s_icmp_eq k2 d6_8 (by decide) (pc' := 28) (by decide) (pc3 := 11) rfl (fun hc8 => absurd hc8 (by decide)) (fun hc8 => ?_)
  refine s_aloadN k2 d6_11 rfl rfl (pc' := 12) rfl ?_
  refine s_get k2 d6_12 (host := "") (Or.inl (hw _ (List.mem_of_getElem? (i := 13) rfl))) Via.refl F_by (pc' := 15) rfl fun T3 k3 => ?_
  refine s_aloadN k3 d6_15 rfl rfl (pc' := 16) rfl ?_
  refine s_get k3 d6_16 (host := "") (Or.inl (hw _ (List.mem_of_getElem? (i := 15) rfl))) Via.refl F_at (pc' := 19) rfl fun T4 k4 => ?_
  refine s_baload k4 (v := .int q0) d6_19 A_b ⟨by decide, by decide⟩ rfl (pc' := 20) rfl ?_
  refine s_sipush k4 (z := 255) d6_20 (by decide) (pc' := 23) rfl ?_
  refine s_iand k4 d6_23 rfl (pc' := 24) rfl ?_
  refine s_iloadN k4 d6_24 rfl (pc' := 25) rfl ?_
  refine s_icmp_eq k4 d6_25 (by decide) (pc' := 42) (by decide) (pc3 := 28) rfl (fun hc25 => ?_) (fun hc25 => absurd ht hc25)
  refine s_aloadN k4 d6_42 rfl rfl (pc' := 43) rfl ?_
  refine s_dup k4 d6_43 rfl (pc' := 44) rfl ?_
  refine s_get k4 d6_44 (host := "") (Or.inl (hw _ (List.mem_of_getElem? (i := 15) rfl))) Via.refl F_at (pc' := 47) rfl fun T5 k5 => ?_
  refine s_iconst k5 (z := 1) d6_47 (by decide) (pc' := 48) rfl ?_
  refine s_iadd k5 (z := (1 : Int32)) d6_48 (by decide) (pc' := 49) rfl ?_
  refine s_put k5 d6_49 (host := "") (Or.inl (hw _ (List.mem_of_getElem? (i := 15) rfl))) Via.refl F_at E_a (Or.inl (hw _ (List.mem_of_getElem? (i := 16) rfl))) (hw _ (List.mem_of_getElem? (i := 2) rfl)) (ty := .int) (by decide) rfl rfl g_a (pc' := 52) rfl fun T6 h6 L6 k6 W6 => ?_
  have F7_a_bytes := F_by.other W6 (Or.inr (slot_ne (Or.inr (hw _ (List.mem_of_getElem? (i := 14) rfl))) (Or.inl (hw _ (List.mem_of_getElem? (i := 16) rfl))) (by decide) (t := (.array .byte)) (t' := .int) (by decide) (by decide)))
  have F8_a_at := F_at.same W6
  have F9_a_end := F_en.other W6 (Or.inr (slot_ne (Or.inr (hw _ (List.mem_of_getElem? (i := 18) rfl))) (Or.inl (hw _ (List.mem_of_getElem? (i := 16) rfl))) (by decide) (t := .int) (t' := .int) (by decide) (by decide)))
  have E10_a := E_a.wr W6
  have A11_b := A_b.other W6 ne_ba
  have Z12 := Nat.le_trans Z0 (Keep.of_wr W6).1
  have Kp13 := Kp0.wr W6 (Or.inl (List.mem_of_getElem? (i := 0) rfl))
  refine s_aloadN k6 d6_52 rfl rfl (pc' := 53) rfl ?_
  refine s_get k6 d6_53 (host := "") (Or.inl (hw _ (List.mem_of_getElem? (i := 15) rfl))) Via.refl F8_a_at (pc' := 56) rfl fun T14 k14 => ?_
  refine s_aloadN k14 d6_56 rfl rfl (pc' := 57) rfl ?_
  refine s_get k14 d6_57 (host := "") (Or.inl (hw _ (List.mem_of_getElem? (i := 17) rfl))) Via.refl F9_a_end (pc' := 60) rfl fun T15 k15 => ?_
  refine s_icmp_ne k15 d6_60 (by decide) (pc' := 73) (by decide) (pc3 := 63) rfl (fun hc60 => absurd hc60 (by decide)) (fun hc60 => ?_)
  refine s_aloadN k15 d6_73 rfl rfl (pc' := 74) rfl ?_
  refine s_get k15 d6_74 (host := "") (Or.inl (hw _ (List.mem_of_getElem? (i := 13) rfl))) Via.refl F7_a_bytes (pc' := 77) rfl fun T16 k16 => ?_
  refine s_aloadN k16 d6_77 rfl rfl (pc' := 78) rfl ?_
  refine s_dup k16 d6_78 rfl (pc' := 79) rfl ?_
  refine s_get k16 d6_79 (host := "") (Or.inl (hw _ (List.mem_of_getElem? (i := 15) rfl))) Via.refl F8_a_at (pc' := 82) rfl fun T17 k17 => ?_
  refine s_dupx1 k17 d6_82 rfl rfl (pc' := 83) rfl ?_
  refine s_iconst k17 (z := 1) d6_83 (by decide) (pc' := 84) rfl ?_
  refine s_iadd k17 (z := (2 : Int32)) d6_84 (by decide) (pc' := 85) rfl ?_
  refine s_put k17 d6_85 (host := "") (Or.inl (hw _ (List.mem_of_getElem? (i := 15) rfl))) Via.refl F8_a_at E10_a (Or.inl (hw _ (List.mem_of_getElem? (i := 16) rfl))) (hw _ (List.mem_of_getElem? (i := 2) rfl)) (ty := .int) (by decide) rfl rfl g_a (pc' := 88) rfl fun T18 h18 L18 k18 W18 => ?_
  have F19_a_bytes := F7_a_bytes.other W18 (Or.inr (slot_ne (Or.inr (hw _ (List.mem_of_getElem? (i := 14) rfl))) (Or.inl (hw _ (List.mem_of_getElem? (i := 16) rfl))) (by decide) (t := (.array .byte)) (t' := .int) (by decide) (by decide)))
  have F20_a_at := F8_a_at.same W18
  have F21_a_end := F9_a_end.other W18 (Or.inr (slot_ne (Or.inr (hw _ (List.mem_of_getElem? (i := 18) rfl))) (Or.inl (hw _ (List.mem_of_getElem? (i := 16) rfl))) (by decide) (t := .int) (t' := .int) (by decide) (by decide)))
  have E22_a := E10_a.wr W18
  have A23_b := A11_b.other W18 ne_ba
  have Z24 := Nat.le_trans Z12 (Keep.of_wr W18).1
  have Kp25 := Kp13.wr W18 (Or.inl (List.mem_of_getElem? (i := 0) rfl))
  refine s_baload k18 (v := .int (1 : Int32)) d6_88 A23_b ⟨by decide, by decide⟩ rfl (pc' := 89) rfl ?_
  refine s_sipush k18 (z := 255) d6_89 (by decide) (pc' := 92) rfl ?_
  refine s_iand k18 (z := (1 : Int32)) d6_92 (by decide) (pc' := 93) rfl ?_
  refine s_istoreN k18 d6_93 (l' := #[.val (.ref a), .val (.int t), .val (.int (1 : Int32)), .unset, .unset, .unset, .unset]) rfl (pc' := 94) rfl ?_
  refine s_iloadN k18 d6_94 rfl (pc' := 95) rfl ?_
  refine s_i2l k18 (z := (1 : Int64)) d6_95 (by decide) (pc' := 96) rfl ?_
  refine s_lstoreN k18 d6_96 (l' := #[.val (.ref a), .val (.int t), .val (.int (1 : Int32)), .val (.long (1 : Int64)), .second, .unset, .unset]) rfl (pc' := 97) rfl ?_
  refine s_iloadN k18 d6_97 rfl (pc' := 98) rfl ?_
  refine s_sipush k18 (z := 128) d6_98 (by decide) (pc' := 101) rfl ?_
  refine s_icmp_lt k18 d6_101 (by decide) (pc' := 191) (by decide) (pc3 := 104) rfl (fun hc101 => ?_) (fun hc101 => absurd (by decide) hc101)
  refine s_lloadN k18 d6_191 rfl (pc' := 192) rfl ?_
  refine s_aloadN k18 d6_192 rfl rfl (pc' := 193) rfl ?_
  refine s_get k18 d6_193 (host := "") (Or.inl (hw _ (List.mem_of_getElem? (i := 17) rfl))) Via.refl F21_a_end (pc' := 196) rfl fun T26 k26 => ?_
  refine s_aloadN k26 d6_196 rfl rfl (pc' := 197) rfl ?_
  refine s_get k26 d6_197 (host := "") (Or.inl (hw _ (List.mem_of_getElem? (i := 15) rfl))) Via.refl F20_a_at (pc' := 200) rfl fun T27 k27 => ?_
  refine s_isub k27 (z := (1 : Int32)) d6_200 (by decide) (pc' := 201) rfl ?_
  refine s_i2l k27 (z := (1 : Int64)) d6_201 (by decide) (pc' := 202) rfl ?_
  refine s_lcmp_le k27 d6_202 rfl d6_203 (by decide) (pc' := 216) (by decide) (pc3 := 206) rfl (fun hc202 => absurd hc202 (by decide)) (fun hc202 => ?_)
  refine s_aloadN k27 d6_216 rfl rfl (pc' := 217) rfl ?_
  refine s_get k27 d6_217 (host := "") (Or.inl (hw _ (List.mem_of_getElem? (i := 15) rfl))) Via.refl F20_a_at (pc' := 220) rfl fun T28 k28 => ?_
  refine s_istore k28 d6_220 (l' := #[.val (.ref a), .val (.int t), .val (.int (1 : Int32)), .val (.long (1 : Int64)), .second, .val (.int (2 : Int32)), .unset]) rfl (pc' := 222) rfl ?_
  refine s_aloadN k28 d6_222 rfl rfl (pc' := 223) rfl ?_
  refine s_dup k28 d6_223 rfl (pc' := 224) rfl ?_
  refine s_get k28 d6_224 (host := "") (Or.inl (hw _ (List.mem_of_getElem? (i := 15) rfl))) Via.refl F20_a_at (pc' := 227) rfl fun T29 k29 => ?_
  refine s_lloadN k29 d6_227 rfl (pc' := 228) rfl ?_
  refine s_l2i k29 (z := (1 : Int32)) d6_228 (by decide) (pc' := 229) rfl ?_
  refine s_iadd k29 (z := (3 : Int32)) d6_229 (by decide) (pc' := 230) rfl ?_
  refine s_put k29 d6_230 (host := "") (Or.inl (hw _ (List.mem_of_getElem? (i := 15) rfl))) Via.refl F20_a_at E22_a (Or.inl (hw _ (List.mem_of_getElem? (i := 16) rfl))) (hw _ (List.mem_of_getElem? (i := 2) rfl)) (ty := .int) (by decide) rfl rfl g_a (pc' := 233) rfl fun T30 h30 L30 k30 W30 => ?_
  have F31_a_bytes := F19_a_bytes.other W30 (Or.inr (slot_ne (Or.inr (hw _ (List.mem_of_getElem? (i := 14) rfl))) (Or.inl (hw _ (List.mem_of_getElem? (i := 16) rfl))) (by decide) (t := (.array .byte)) (t' := .int) (by decide) (by decide)))
  have F32_a_at := F20_a_at.same W30
  have F33_a_end := F21_a_end.other W30 (Or.inr (slot_ne (Or.inr (hw _ (List.mem_of_getElem? (i := 18) rfl))) (Or.inl (hw _ (List.mem_of_getElem? (i := 16) rfl))) (by decide) (t := .int) (t' := .int) (by decide) (by decide)))
  have E34_a := E22_a.wr W30
  have A35_b := A23_b.other W30 ne_ba
  have Z36 := Nat.le_trans Z24 (Keep.of_wr W30).1
  have Kp37 := Kp25.wr W30 (Or.inl (List.mem_of_getElem? (i := 0) rfl))
  refine s_iload k30 d6_233 rfl (pc' := 235) rfl ?_
  exact s_retI k30 d6_235 rfl hP (by decide) (by decide) ⟨rfl, Kp37, F31_a_bytes, F32_a_at, F33_a_end⟩
theorem d5_0 : decode prog_17_method_5_code 0 = .ok (.aload_n 0, 1) := by decide +kernel
theorem d5_1 : decode prog_17_method_5_code 1 = .ok (.bipush 48, 2) := by decide +kernel
theorem d5_3 : decode prog_17_method_5_code 3 = .ok (.invokevirtual 25, 3) := by decide +kernel
theorem d5_6 : decode prog_17_method_5_code 6 = .ok (.istore_n 1, 1) := by decide +kernel
theorem d5_7 : decode prog_17_method_5_code 7 = .ok (.new 4, 3) := by decide +kernel
theorem d5_10 : decode prog_17_method_5_code 10 = .ok (.dup, 1) := by decide +kernel
theorem d5_11 : decode prog_17_method_5_code 11 = .ok (.aload_n 0, 1) := by decide +kernel
theorem d5_12 : decode prog_17_method_5_code 12 = .ok (.getfield 14, 3) := by decide +kernel
theorem d5_15 : decode prog_17_method_5_code 15 = .ok (.iload_n 1, 1) := by decide +kernel
theorem d5_16 : decode prog_17_method_5_code 16 = .ok (.aload_n 0, 1) := by decide +kernel
theorem d5_17 : decode prog_17_method_5_code 17 = .ok (.getfield 18, 3) := by decide +kernel
theorem d5_20 : decode prog_17_method_5_code 20 = .ok (.invokespecial 3, 3) := by decide +kernel
theorem d5_23 : decode prog_17_method_5_code 23 = .ok (.areturn, 1) := by decide +kernel
theorem pd__28I_29I : parseMethodDescriptor "(I)I" = some ⟨[.int], some .int⟩ := by decide +kernel
theorem pn_5_rmq0 : plainFor (⟨"io/credsmith/Der", "sequence", "()Lio/credsmith/Der;"⟩ : MethodName) = true := plainFor_of_name (by first | (simp [plainName, overriddenIn]; done) | decide +kernel)
theorem ef_rmq0 {a : Addr} (m : MethodId) : entryFrame m #[.ref a] 2 = mkF m 0 #[.val (.ref a), .unset] [] := by first | (simp [entryFrame, mkF, argsToLocals, Value.category]; done) | rfl
set_option maxRecDepth 65536 in
set_option maxHeartbeats 40000000 in
theorem rmq0 (l : Launch) (Z : State) (a0 : Array Value) (hw : ∀ d ∈ tables_1, d.before a0 Z = true) (a b : Addr) (kb : ClassId) (q2 : Int32) (h0 : Heap) (n0 : Nat) (Z0 : n0 ≤ h0.size) (E_a : Exa Z h0 a "io/credsmith/Der") (F_by : Fld Z h0 a "io/credsmith/Der" "bytes" "[B" (.ref b)) (F_at : Fld Z h0 a "io/credsmith/Der" "at" "I" (.int (0 : Int32))) (F_en : Fld Z h0 a "io/credsmith/Der" "end" "I" (.int (3 : Int32))) (g_a : n0 ≤ a) (A_b : Arv Z h0 b kb .byte (3 : Int32) [.int (48 : Int32), .int (0 : Int32), .int q2] (.int (0 : Int32))) (ne_ba : b ≠ a) :
    Met l Z (⟨"io/credsmith/Der", "sequence", "()Lio/credsmith/Der;"⟩ : MethodName) prog_17_method_5_code 2 (some (.object "io/credsmith/Der")) ({ frames := 2, cells := 1, slots := 3, locals := 44 } : Room) n0 #[.ref a] h0 (fun v h => ∃ d, v = some (.ref d) ∧ h0.size ≤ d ∧ Keep h0 h [a] ∧ Exa Z h d "io/credsmith/Der" ∧ Fld Z h d "io/credsmith/Der" "bytes" "[B" (.ref b) ∧ Fld Z h d "io/credsmith/Der" "at" "I" (.int (2 : Int32)) ∧ Fld Z h d "io/credsmith/Der" "end" "I" (.int (2 : Int32)) ∧ Fld Z h a "io/credsmith/Der" "bytes" "[B" (.ref b) ∧ Fld Z h a "io/credsmith/Der" "at" "I" (.int (2 : Int32)) ∧ Fld Z h a "io/credsmith/Der" "end" "I" (.int (3 : Int32))) := by
  have Kp0 := Keep.refl h0 [a]
  refine Met.of (Ls := #[.val (.ref a), .unset]) pn_5_rmq0 (fun m => ef_rmq0 m) fun p e s m below meth c T0 P hP k0 => ?_
  refine s_aloadN k0 d5_0 rfl rfl (pc' := 1) rfl ?_
  refine s_bipush k0 (z := 48) d5_1 (by decide) (pc' := 3) rfl ?_
  refine s_callP k0 [.int (48 : Int32)] 0 d5_3 (hw _ (List.mem_of_getElem? (i := 29) rfl)) (sel_priv (by decide) (hw _ (List.mem_of_getElem? (i := 2) rfl)) (hw _ (List.mem_of_getElem? (i := 31) rfl)) (hw _ (List.mem_of_getElem? (i := 30) rfl))) (hw _ (List.mem_of_getElem? (i := 30) rfl)) (hw _ (List.mem_of_getElem? (i := 31) rfl)) (hw _ (List.mem_of_getElem? (i := 3) rfl)) (hw _ (List.mem_of_getElem? (i := 32) rfl)) (by decide) E_a (rmc30 l Z a0 hw a b kb (48 : Int32) q2 (48 : Int32) h0 n0 Z0 E_a F_by F_at F_en g_a A_b ne_ba (by decide)) (by decide) (by decide) pd__28I_29I rfl (Nat.le_of_eq rfl) rfl (by decide) (by decide) rfl (pc' := 6) rfl fun v1 T1 h1 L1 k1 Qv1 => ?_
  obtain ⟨rfl, Kc1, G1_0, G1_1, G1_2⟩ := Qv1
  have E2_a := E_a.keep Kc1
  have A3_b := A_b.keep Kc1 (ninS ne_ba nin0)
  have Z4 := Nat.le_trans Z0 Kc1.1
  have Kp5 := Kp0.trans Kc1 (allS (Or.inl (List.mem_of_getElem? (i := 0) rfl)) all0)
  show Go p e below P T1 (mkF m 6 #[.val (.ref a), .unset] [.int (2 : Int32)])
  refine s_istoreN k1 d5_6 (l' := #[.val (.ref a), .val (.int (2 : Int32))]) rfl (pc' := 7) rfl ?_
  refine s_new k1 d5_7 (hw _ (List.mem_of_getElem? (i := 33) rfl)) (hw _ (List.mem_of_getElem? (i := 2) rfl)) (hw _ (List.mem_of_getElem? (i := 3) rfl)) (by decide) (by decide) (pc' := 10) rfl fun T6 h6 b6 q6 k6 X6 E6 D6 => ?_
  have ne_a_b6 : a ≠ b6 := Nat.ne_of_lt (Nat.lt_of_lt_of_eq E2_a.lt q6.symm)
  have ne_b_b6 : b ≠ b6 := Nat.ne_of_lt (Nat.lt_of_lt_of_eq A3_b.lt q6.symm)
  have g_b6 : n0 ≤ b6 := Nat.le_trans Z4 (Nat.le_of_eq q6.symm)
  have sz_b6 : h0.size ≤ b6 := Nat.le_trans Kp5.1 (Nat.le_of_eq q6.symm)
  have F7_a_bytes := G1_0.ext X6
  have F8_a_at := G1_1.ext X6
  have F9_a_end := G1_2.ext X6
  have E10_a := E2_a.ext X6
  have A11_b := A3_b.ext X6
  have Z12 := Nat.le_trans Z4 X6.1
  have Kp13 := Kp5.ext X6
  have F6_b6_bytes : Fld Z h6 b6 "io/credsmith/Der" "bytes" "[B" .null := D6 (Or.inr (hw _ (List.mem_of_getElem? (i := 14) rfl))) (ty := (.array .byte)) (by decide)
  have F6_b6_at : Fld Z h6 b6 "io/credsmith/Der" "at" "I" (.int (0 : Int32)) := D6 (Or.inl (hw _ (List.mem_of_getElem? (i := 16) rfl))) (ty := .int) (by decide)
  have F6_b6_end : Fld Z h6 b6 "io/credsmith/Der" "end" "I" (.int (0 : Int32)) := D6 (Or.inr (hw _ (List.mem_of_getElem? (i := 18) rfl))) (ty := .int) (by decide)
  refine s_dup k6 d5_10 rfl (pc' := 11) rfl ?_
  refine s_aloadN k6 d5_11 rfl rfl (pc' := 12) rfl ?_
  refine s_get k6 d5_12 (host := "") (Or.inl (hw _ (List.mem_of_getElem? (i := 13) rfl))) Via.refl F7_a_bytes (pc' := 15) rfl fun T14 k14 => ?_
  refine s_iloadN k14 d5_15 rfl (pc' := 16) rfl ?_
  refine s_aloadN k14 d5_16 rfl rfl (pc' := 17) rfl ?_
  refine s_get k14 d5_17 (host := "") (Or.inl (hw _ (List.mem_of_getElem? (i := 15) rfl))) Via.refl F8_a_at (pc' := 20) rfl fun T15 k15 => ?_
  refine s_callI k15 [.ref b, .int (2 : Int32), .int (2 : Int32)] 1 d5_20 rfl (hw _ (List.mem_of_getElem? (i := 7) rfl)) (hw _ (List.mem_of_getElem? (i := 8) rfl)) (hw _ (List.mem_of_getElem? (i := 3) rfl)) (hw _ (List.mem_of_getElem? (i := 9) rfl)) (by decide) (rmi3 l Z a0 hw b6 b (2 : Int32) (2 : Int32) h6 n0 Z12 E6 F6_b6_bytes F6_b6_at F6_b6_end g_b6) (by decide) (by decide) pd__28_5bBII_29V rfl (Nat.le_of_eq rfl) rfl (by decide) (by decide) rfl (pc' := 23) rfl fun v16 T16 h16 L16 k16 Qv16 => ?_
  obtain ⟨rfl, Kc16, G16_0, G16_1, G16_2⟩ := Qv16
  have F17_a_bytes := F7_a_bytes.keep Kc16 (ninS ne_a_b6 nin0)
  have F18_a_at := F8_a_at.keep Kc16 (ninS ne_a_b6 nin0)
  have F19_a_end := F9_a_end.keep Kc16 (ninS ne_a_b6 nin0)
  have E20_a := E10_a.keep Kc16
  have E21_b6 := E6.keep Kc16
  have A22_b := A11_b.keep Kc16 (ninS ne_b_b6 nin0)
  have Z23 := Nat.le_trans Z12 Kc16.1
  have Kp24 := Kp13.trans Kc16 (allS (Or.inr sz_b6) all0)
  show Go p e below P T16 (mkF m 23 #[.val (.ref a), .val (.int (2 : Int32))] [.ref b6])
  exact s_retA k16 d5_23 rfl rfl rfl hP (by decide) (by decide) ⟨b6, rfl, sz_b6, Kp24, E21_b6, G16_0, G16_1, G16_2, F17_a_bytes, F18_a_at, F19_a_end⟩
theorem pn_5_rmq1 : plainFor (⟨"io/credsmith/Der", "sequence", "()Lio/credsmith/Der;"⟩ : MethodName) = true := plainFor_of_name (by first | (simp [plainName, overriddenIn]; done) | decide +kernel)
theorem ef_rmq1 {a : Addr} (m : MethodId) : entryFrame m #[.ref a] 2 = mkF m 0 #[.val (.ref a), .unset] [] := by first | (simp [entryFrame, mkF, argsToLocals, Value.category]; done) | rfl
set_option maxRecDepth 65536 in
set_option maxHeartbeats 40000000 in
theorem rmq1 (l : Launch) (Z : State) (a0 : Array Value) (hw : ∀ d ∈ tables_1, d.before a0 Z = true) (a b : Addr) (kb : ClassId) (q2 : Int32) (h0 : Heap) (n0 : Nat) (Z0 : n0 ≤ h0.size) (E_a : Exa Z h0 a "io/credsmith/Der") (F_by : Fld Z h0 a "io/credsmith/Der" "bytes" "[B" (.ref b)) (F_at : Fld Z h0 a "io/credsmith/Der" "at" "I" (.int (0 : Int32))) (F_en : Fld Z h0 a "io/credsmith/Der" "end" "I" (.int (3 : Int32))) (g_a : n0 ≤ a) (A_b : Arv Z h0 b kb .byte (3 : Int32) [.int (48 : Int32), .int (1 : Int32), .int q2] (.int (0 : Int32))) (ne_ba : b ≠ a) :
    Met l Z (⟨"io/credsmith/Der", "sequence", "()Lio/credsmith/Der;"⟩ : MethodName) prog_17_method_5_code 2 (some (.object "io/credsmith/Der")) ({ frames := 2, cells := 1, slots := 3, locals := 44 } : Room) n0 #[.ref a] h0 (fun v h => ∃ d, v = some (.ref d) ∧ h0.size ≤ d ∧ Keep h0 h [a] ∧ Exa Z h d "io/credsmith/Der" ∧ Fld Z h d "io/credsmith/Der" "bytes" "[B" (.ref b) ∧ Fld Z h d "io/credsmith/Der" "at" "I" (.int (2 : Int32)) ∧ Fld Z h d "io/credsmith/Der" "end" "I" (.int (3 : Int32)) ∧ Fld Z h a "io/credsmith/Der" "bytes" "[B" (.ref b) ∧ Fld Z h a "io/credsmith/Der" "at" "I" (.int (3 : Int32)) ∧ Fld Z h a "io/credsmith/Der" "end" "I" (.int (3 : Int32))) := by
  have Kp0 := Keep.refl h0 [a]
  refine Met.of (Ls := #[.val (.ref a), .unset]) pn_5_rmq1 (fun m => ef_rmq1 m) fun p e s m below meth c T0 P hP k0 => ?_
  refine s_aloadN k0 d5_0 rfl rfl (pc' := 1) rfl ?_
  refine s_bipush k0 (z := 48) d5_1 (by decide) (pc' := 3) rfl ?_
  refine s_callP k0 [.int (48 : Int32)] 0 d5_3 (hw _ (List.mem_of_getElem? (i := 29) rfl)) (sel_priv (by decide) (hw _ (List.mem_of_getElem? (i := 2) rfl)) (hw _ (List.mem_of_getElem? (i := 31) rfl)) (hw _ (List.mem_of_getElem? (i := 30) rfl))) (hw _ (List.mem_of_getElem? (i := 30) rfl)) (hw _ (List.mem_of_getElem? (i := 31) rfl)) (hw _ (List.mem_of_getElem? (i := 3) rfl)) (hw _ (List.mem_of_getElem? (i := 32) rfl)) (by decide) E_a (rmc31 l Z a0 hw a b kb (48 : Int32) q2 (48 : Int32) h0 n0 Z0 E_a F_by F_at F_en g_a A_b ne_ba (by decide)) (by decide) (by decide) pd__28I_29I rfl (Nat.le_of_eq rfl) rfl (by decide) (by decide) rfl (pc' := 6) rfl fun v1 T1 h1 L1 k1 Qv1 => ?_
  obtain ⟨rfl, Kc1, G1_0, G1_1, G1_2⟩ := Qv1
  have E2_a := E_a.keep Kc1
  have A3_b := A_b.keep Kc1 (ninS ne_ba nin0)
  have Z4 := Nat.le_trans Z0 Kc1.1
  have Kp5 := Kp0.trans Kc1 (allS (Or.inl (List.mem_of_getElem? (i := 0) rfl)) all0)
  show Go p e below P T1 (mkF m 6 #[.val (.ref a), .unset] [.int (2 : Int32)])
  refine s_istoreN k1 d5_6 (l' := #[.val (.ref a), .val (.int (2 : Int32))]) rfl (pc' := 7) rfl ?_
  refine s_new k1 d5_7 (hw _ (List.mem_of_getElem? (i := 33) rfl)) (hw _ (List.mem_of_getElem? (i := 2) rfl)) (hw _ (List.mem_of_getElem? (i := 3) rfl)) (by decide) (by decide) (pc' := 10) rfl fun T6 h6 b6 q6 k6 X6 E6 D6 => ?_
  have ne_a_b6 : a ≠ b6 := Nat.ne_of_lt (Nat.lt_of_lt_of_eq E2_a.lt q6.symm)
  have ne_b_b6 : b ≠ b6 := Nat.ne_of_lt (Nat.lt_of_lt_of_eq A3_b.lt q6.symm)
  have g_b6 : n0 ≤ b6 := Nat.le_trans Z4 (Nat.le_of_eq q6.symm)
  have sz_b6 : h0.size ≤ b6 := Nat.le_trans Kp5.1 (Nat.le_of_eq q6.symm)
  have F7_a_bytes := G1_0.ext X6
  have F8_a_at := G1_1.ext X6
  have F9_a_end := G1_2.ext X6
  have E10_a := E2_a.ext X6
  have A11_b := A3_b.ext X6
  have Z12 := Nat.le_trans Z4 X6.1
  have Kp13 := Kp5.ext X6
  have F6_b6_bytes : Fld Z h6 b6 "io/credsmith/Der" "bytes" "[B" .null := D6 (Or.inr (hw _ (List.mem_of_getElem? (i := 14) rfl))) (ty := (.array .byte)) (by decide)
  have F6_b6_at : Fld Z h6 b6 "io/credsmith/Der" "at" "I" (.int (0 : Int32)) := D6 (Or.inl (hw _ (List.mem_of_getElem? (i := 16) rfl))) (ty := .int) (by decide)
  have F6_b6_end : Fld Z h6 b6 "io/credsmith/Der" "end" "I" (.int (0 : Int32)) := D6 (Or.inr (hw _ (List.mem_of_getElem? (i := 18) rfl))) (ty := .int) (by decide)
  refine s_dup k6 d5_10 rfl (pc' := 11) rfl ?_
  refine s_aloadN k6 d5_11 rfl rfl (pc' := 12) rfl ?_
  refine s_get k6 d5_12 (host := "") (Or.inl (hw _ (List.mem_of_getElem? (i := 13) rfl))) Via.refl F7_a_bytes (pc' := 15) rfl fun T14 k14 => ?_
  refine s_iloadN k14 d5_15 rfl (pc' := 16) rfl ?_
  refine s_aloadN k14 d5_16 rfl rfl (pc' := 17) rfl ?_
  refine s_get k14 d5_17 (host := "") (Or.inl (hw _ (List.mem_of_getElem? (i := 15) rfl))) Via.refl F8_a_at (pc' := 20) rfl fun T15 k15 => ?_
  refine s_callI k15 [.ref b, .int (2 : Int32), .int (3 : Int32)] 1 d5_20 rfl (hw _ (List.mem_of_getElem? (i := 7) rfl)) (hw _ (List.mem_of_getElem? (i := 8) rfl)) (hw _ (List.mem_of_getElem? (i := 3) rfl)) (hw _ (List.mem_of_getElem? (i := 9) rfl)) (by decide) (rmi3 l Z a0 hw b6 b (2 : Int32) (3 : Int32) h6 n0 Z12 E6 F6_b6_bytes F6_b6_at F6_b6_end g_b6) (by decide) (by decide) pd__28_5bBII_29V rfl (Nat.le_of_eq rfl) rfl (by decide) (by decide) rfl (pc' := 23) rfl fun v16 T16 h16 L16 k16 Qv16 => ?_
  obtain ⟨rfl, Kc16, G16_0, G16_1, G16_2⟩ := Qv16
  have F17_a_bytes := F7_a_bytes.keep Kc16 (ninS ne_a_b6 nin0)
  have F18_a_at := F8_a_at.keep Kc16 (ninS ne_a_b6 nin0)
  have F19_a_end := F9_a_end.keep Kc16 (ninS ne_a_b6 nin0)
  have E20_a := E10_a.keep Kc16
  have E21_b6 := E6.keep Kc16
  have A22_b := A11_b.keep Kc16 (ninS ne_b_b6 nin0)
  have Z23 := Nat.le_trans Z12 Kc16.1
  have Kp24 := Kp13.trans Kc16 (allS (Or.inr sz_b6) all0)
  show Go p e below P T16 (mkF m 23 #[.val (.ref a), .val (.int (2 : Int32))] [.ref b6])
  exact s_retA k16 d5_23 rfl rfl rfl hP (by decide) (by decide) ⟨b6, rfl, sz_b6, Kp24, E21_b6, G16_0, G16_1, G16_2, F17_a_bytes, F18_a_at, F19_a_end⟩
theorem d10_0 : decode jdk_65_method_131_code 0 = .ok (.iload_n 1, 1) := by decide +kernel
theorem d10_1 : decode jdk_65_method_131_code 1 = .ok (.iload_n 0, 1) := by decide +kernel
theorem d10_2 : decode jdk_65_method_131_code 2 = .ok (.if_icmp .ge 35, 3) := by decide +kernel
theorem d10_37 : decode jdk_65_method_131_code 37 = .ok (.return_, 1) := by decide +kernel
theorem pn_10_rmcl : plainFor (⟨"java/util/Arrays", "checkLength", "(II)V"⟩ : MethodName) = true := plainFor_of_name (by first | (simp [plainName, overriddenIn]; done) | decide +kernel)
theorem ef_rmcl {p1 : Int32} {p2 : Int32} (m : MethodId) : entryFrame m #[.int p1, .int p2] 2 = mkF m 0 #[.val (.int p1), .val (.int p2)] [] := by first | (simp [entryFrame, mkF, argsToLocals, Value.category]; done) | rfl
set_option maxRecDepth 65536 in
set_option maxHeartbeats 40000000 in
theorem rmcl (l : Launch) (Z : State) (a0 : Array Value) (hw : ∀ d ∈ tables_1, d.before a0 Z = true) (p1 p2 : Int32) (h0 : Heap) (n0 : Nat) (Z0 : n0 ≤ h0.size) (hge : ¬ p2 < p1) :
    Met l Z (⟨"java/util/Arrays", "checkLength", "(II)V"⟩ : MethodName) jdk_65_method_131_code 2 none ({ frames := 0, cells := 0, slots := 0, locals := 0 } : Room) n0 #[.int p1, .int p2] h0 (fun v h => v = none ∧ h0 = h) := by
  refine Met.of (Ls := #[.val (.int p1), .val (.int p2)]) pn_10_rmcl (fun m => ef_rmcl m) fun p e s m below meth c T0 P hP k0 => ?_
  refine s_iloadN k0 d10_0 rfl (pc' := 1) rfl ?_
  refine s_iloadN k0 d10_1 rfl (pc' := 2) rfl ?_
  refine s_icmp_ge k0 d10_2 (by decide) (pc' := 37) (by decide) (pc3 := 5) rfl (fun hc2 => absurd hc2 hge) (fun hc2 => ?_)
  exact s_ret k0 d10_37 rfl hP (by decide) (by decide) ⟨rfl, rfl⟩
theorem d11_0 : decode jdk_29_method_69_code 0 = .ok (.iload_n 0, 1) := by decide +kernel
theorem d11_1 : decode jdk_29_method_69_code 1 = .ok (.iload_n 1, 1) := by decide +kernel
theorem d11_2 : decode jdk_29_method_69_code 2 = .ok (.if_icmp .gt 7, 3) := by decide +kernel
theorem d11_5 : decode jdk_29_method_69_code 5 = .ok (.iload_n 0, 1) := by decide +kernel
theorem d11_6 : decode jdk_29_method_69_code 6 = .ok (.goto 4, 3) := by decide +kernel
theorem d11_9 : decode jdk_29_method_69_code 9 = .ok (.iload_n 1, 1) := by decide +kernel
theorem d11_10 : decode jdk_29_method_69_code 10 = .ok (.ireturn, 1) := by decide +kernel
theorem pn_11_rmm : plainFor (⟨"java/lang/Math", "min", "(II)I"⟩ : MethodName) = true := by decide +kernel
theorem ef_rmm {p1 : Int32} {p2 : Int32} (m : MethodId) : entryFrame m #[.int p1, .int p2] 2 = mkF m 0 #[.val (.int p1), .val (.int p2)] [] := by first | (simp [entryFrame, mkF, argsToLocals, Value.category]; done) | rfl
set_option maxRecDepth 65536 in
set_option maxHeartbeats 40000000 in
theorem rmm (l : Launch) (Z : State) (a0 : Array Value) (hw : ∀ d ∈ tables_1, d.before a0 Z = true) (p1 p2 r : Int32) (h0 : Heap) (n0 : Nat) (Z0 : n0 ≤ h0.size) (hr : (if p2 < p1 then p2 else p1) = r) :
    Met l Z (⟨"java/lang/Math", "min", "(II)I"⟩ : MethodName) jdk_29_method_69_code 2 (some .int) ({ frames := 0, cells := 0, slots := 0, locals := 0 } : Room) n0 #[.int p1, .int p2] h0 (fun v h => v = some (.int r) ∧ h0 = h) := by
  refine Met.of (Ls := #[.val (.int p1), .val (.int p2)]) pn_11_rmm (fun m => ef_rmm m) fun p e s m below meth c T0 P hP k0 => ?_
  refine s_iloadN k0 d11_0 rfl (pc' := 1) rfl ?_
  refine s_iloadN k0 d11_1 rfl (pc' := 2) rfl ?_
  refine s_icmp_gt k0 d11_2 (by decide) (pc' := 9) (by decide) (pc3 := 5) rfl (fun hc2 => ?_) (fun hc2 => ?_)
  · refine s_iloadN k0 d11_9 rfl (pc' := 10) rfl ?_
    exact s_retI k0 d11_10 rfl hP (by decide) (by decide) ⟨by rw [← hr, if_pos hc2], rfl⟩
  · refine s_iloadN k0 d11_5 rfl (pc' := 6) rfl ?_
    refine s_goto k0 d11_6 (by decide) (pc' := 10) (by decide) ?_
    exact s_retI k0 d11_10 rfl hP (by decide) (by decide) ⟨by rw [← hr, if_neg hc2], rfl⟩
theorem d9_0 : decode jdk_65_method_133_code 0 = .ok (.iload_n 1, 1) := by decide +kernel
theorem d9_1 : decode jdk_65_method_133_code 1 = .ok (.iload_n 2, 1) := by decide +kernel
theorem d9_2 : decode jdk_65_method_133_code 2 = .ok (.invokestatic 343, 3) := by decide +kernel
theorem d9_5 : decode jdk_65_method_133_code 5 = .ok (.iload_n 2, 1) := by decide +kernel
theorem d9_6 : decode jdk_65_method_133_code 6 = .ok (.iload_n 1, 1) := by decide +kernel
theorem d9_7 : decode jdk_65_method_133_code 7 = .ok (.isub, 1) := by decide +kernel
theorem d9_8 : decode jdk_65_method_133_code 8 = .ok (.istore_n 3, 1) := by decide +kernel
theorem d9_9 : decode jdk_65_method_133_code 9 = .ok (.iload_n 3, 1) := by decide +kernel
theorem d9_10 : decode jdk_65_method_133_code 10 = .ok (.newarray .byte, 2) := by decide +kernel
theorem d9_12 : decode jdk_65_method_133_code 12 = .ok (.astore 4, 2) := by decide +kernel
theorem d9_14 : decode jdk_65_method_133_code 14 = .ok (.aload_n 0, 1) := by decide +kernel
theorem d9_15 : decode jdk_65_method_133_code 15 = .ok (.iload_n 1, 1) := by decide +kernel
theorem d9_16 : decode jdk_65_method_133_code 16 = .ok (.aload 4, 2) := by decide +kernel
theorem d9_18 : decode jdk_65_method_133_code 18 = .ok (.iconst 0, 1) := by decide +kernel
theorem d9_19 : decode jdk_65_method_133_code 19 = .ok (.aload_n 0, 1) := by decide +kernel
theorem d9_20 : decode jdk_65_method_133_code 20 = .ok (.arraylength, 1) := by decide +kernel
theorem d9_21 : decode jdk_65_method_133_code 21 = .ok (.iload_n 1, 1) := by decide +kernel
theorem d9_22 : decode jdk_65_method_133_code 22 = .ok (.isub, 1) := by decide +kernel
theorem d9_23 : decode jdk_65_method_133_code 23 = .ok (.iload_n 3, 1) := by decide +kernel
theorem d9_24 : decode jdk_65_method_133_code 24 = .ok (.invokestatic 304, 3) := by decide +kernel
theorem d9_27 : decode jdk_65_method_133_code 27 = .ok (.invokestatic 150, 3) := by decide +kernel
theorem d9_30 : decode jdk_65_method_133_code 30 = .ok (.aload 4, 2) := by decide +kernel
theorem d9_32 : decode jdk_65_method_133_code 32 = .ok (.areturn, 1) := by decide +kernel
theorem pd__28II_29V : parseMethodDescriptor "(II)V" = some ⟨[.int, .int], none⟩ := by decide +kernel
theorem pd__28II_29I : parseMethodDescriptor "(II)I" = some ⟨[.int, .int], some .int⟩ := by decide +kernel
theorem pn_9_rmk2b : plainFor (⟨"java/util/Arrays", "copyOfRangeByte", "([BII)[B"⟩ : MethodName) = true := plainFor_of_name (by first | (simp [plainName, overriddenIn]; done) | decide +kernel)
theorem ef_rmk2b {b : Addr} (m : MethodId) : entryFrame m #[.ref b, .int (2 : Int32), .int (2 : Int32)] 5 = mkF m 0 #[.val (.ref b), .val (.int (2 : Int32)), .val (.int (2 : Int32)), .unset, .unset] [] := by first | (simp [entryFrame, mkF, argsToLocals, Value.category]; done) | rfl
set_option maxRecDepth 65536 in
set_option maxHeartbeats 40000000 in
theorem rmk2b (l : Launch) (Z : State) (a0 : Array Value) (hw : ∀ d ∈ tables_1, d.before a0 Z = true) (b : Addr) (kb : ClassId) (q0 q1 q2 : Int32) (h0 : Heap) (n0 : Nat) (Z0 : n0 ≤ h0.size) (A_b : Arv Z h0 b kb .byte (2 : Int32) [.int q0, .int q1] (.int (0 : Int32))) :
    Met l Z (⟨"java/util/Arrays", "copyOfRangeByte", "([BII)[B"⟩ : MethodName) jdk_65_method_133_code 5 (some (.array .byte)) ({ frames := 1, cells := 1, slots := 0, locals := 48 } : Room) n0 #[.ref b, .int (2 : Int32), .int (2 : Int32)] h0 (fun v h => ∃ d, v = some (.ref d) ∧ Keep h0 h []) := by
  have Kp0 := Keep.refl h0 []
  refine Met.of (Ls := #[.val (.ref b), .val (.int (2 : Int32)), .val (.int (2 : Int32)), .unset, .unset]) pn_9_rmk2b (fun m => ef_rmk2b m) fun p e s m below meth c T0 P hP k0 => ?_
  refine s_iloadN k0 d9_0 rfl (pc' := 1) rfl ?_
  refine s_iloadN k0 d9_1 rfl (pc' := 2) rfl ?_
  refine s_callS k0 [.int (2 : Int32), .int (2 : Int32)] 0 d9_2 (hw _ (List.mem_of_getElem? (i := 46) rfl)) (hw _ (List.mem_of_getElem? (i := 47) rfl)) (hw _ (List.mem_of_getElem? (i := 41) rfl)) (hw _ (List.mem_of_getElem? (i := 48) rfl)) (by decide) (rmcl l Z a0 hw (2 : Int32) (2 : Int32) h0 n0 Z0 (by decide)) (by decide) (by decide) pd__28II_29V rfl (Nat.le_of_eq rfl) rfl (by decide) (by decide) rfl (pc' := 5) rfl fun v1 T1 h1 L1 k1 Qv1 => ?_
  obtain ⟨rfl, rfl⟩ := Qv1
  show Go p e below P T1 (mkF m 5 #[.val (.ref b), .val (.int (2 : Int32)), .val (.int (2 : Int32)), .unset, .unset] [])
  refine s_iloadN k1 d9_5 rfl (pc' := 6) rfl ?_
  refine s_iloadN k1 d9_6 rfl (pc' := 7) rfl ?_
  refine s_isub k1 (z := (0 : Int32)) d9_7 (by decide) (pc' := 8) rfl ?_
  refine s_istoreN k1 d9_8 (l' := #[.val (.ref b), .val (.int (2 : Int32)), .val (.int (2 : Int32)), .val (.int (0 : Int32)), .unset]) rfl (pc' := 9) rfl ?_
  refine s_iloadN k1 d9_9 rfl (pc' := 10) rfl ?_
  refine s_newP k1 (cap := 0) d9_10 (hw _ (List.mem_of_getElem? (i := 0) rfl)) (by decide) (by decide) (by decide) (by decide) (by decide) (pc' := 12) rfl fun T2 h2 b2 c2 q2 k2 X2 A2 => ?_
  have ne_b_b2 : b ≠ b2 := Nat.ne_of_lt (Nat.lt_of_lt_of_eq A_b.lt q2.symm)
  have g_b2 : n0 ≤ b2 := Nat.le_trans Z0 (Nat.le_of_eq q2.symm)
  have sz_b2 : h0.size ≤ b2 := Nat.le_trans Kp0.1 (Nat.le_of_eq q2.symm)
  have A3_b := A_b.ext X2
  have Z4 := Nat.le_trans Z0 X2.1
  have Kp5 := Kp0.ext X2
  have A2p : Arv Z h2 b2 c2 .byte (0 : Int32) [] (.int (0 : Int32)) := (show Arv Z h2 b2 c2 .byte (0 : Int32) [] (.int (0 : Int32)) from A2).pad (pad_rep [] _ 0)
  refine s_astore k2 d9_12 rfl (l' := #[.val (.ref b), .val (.int (2 : Int32)), .val (.int (2 : Int32)), .val (.int (0 : Int32)), .val (.ref b2)]) rfl (pc' := 14) rfl ?_
  refine s_aloadN k2 d9_14 rfl rfl (pc' := 15) rfl ?_
  refine s_iloadN k2 d9_15 rfl (pc' := 16) rfl ?_
  refine s_aload k2 d9_16 rfl rfl (pc' := 18) rfl ?_
  refine s_iconst k2 (z := 0) d9_18 (by decide) (pc' := 19) rfl ?_
  refine s_aloadN k2 d9_19 rfl rfl (pc' := 20) rfl ?_
  refine s_len k2 d9_20 A3_b (pc' := 21) rfl ?_
  refine s_iloadN k2 d9_21 rfl (pc' := 22) rfl ?_
  refine s_isub k2 (z := (0 : Int32)) d9_22 (by decide) (pc' := 23) rfl ?_
  refine s_iloadN k2 d9_23 rfl (pc' := 24) rfl ?_
  refine s_callS k2 [.int (0 : Int32), .int (0 : Int32)] 4 d9_24 (hw _ (List.mem_of_getElem? (i := 49) rfl)) (hw _ (List.mem_of_getElem? (i := 50) rfl)) (hw _ (List.mem_of_getElem? (i := 51) rfl)) (hw _ (List.mem_of_getElem? (i := 52) rfl)) (by decide) (rmm l Z a0 hw (0 : Int32) (0 : Int32) (0 : Int32) h2 n0 Z4 (by decide)) (by decide) (by decide) pd__28II_29I rfl (Nat.le_of_eq rfl) rfl (by decide) (by decide) rfl (pc' := 27) rfl fun v6 T6 h6 L6 k6 Qv6 => ?_
  obtain ⟨rfl, rfl⟩ := Qv6
  show Go p e below P T6 (mkF m 27 #[.val (.ref b), .val (.int (2 : Int32)), .val (.int (2 : Int32)), .val (.int (0 : Int32)), .val (.ref b2)] [.int (0 : Int32), .int (0 : Int32), .ref b2, .int (2 : Int32), .ref b])
  obtain ⟨T7, h7, L7, X7, e7, N7, Kc7, B7, q7⟩ := cpA k6.1 k6.2.1 k6.2.2.1 k6.2.2.2.2.2.2.1 (hw _ (List.mem_of_getElem? (i := 53) rfl)) (hw _ (List.mem_of_getElem? (i := 56) rfl)) (hw _ (List.mem_of_getElem? (i := 54) rfl)) (hw _ (List.mem_of_getElem? (i := 55) rfl)) k6.2.2.2.1 A3_b A2p (us := []) (Or.inl ⟨rfl, rfl⟩) (by decide) (by decide) (by decide) (by decide) (by decide) rfl (by decide) k6.2.2.2.2.1 g_b2 (g := (mkF m 27 #[.val (.ref b), .val (.int (2 : Int32)), .val (.int (2 : Int32)), .val (.int (0 : Int32)), .val (.ref b2)] [.int (0 : Int32), .int (0 : Int32), .ref b2, .int (2 : Int32), .ref b])) rfl k6.2.2.2.2.2.2.2.1.symm rfl (hb k6.2.2.2.2.2.1 d9_27) (by decide) (W := 0) (by show 2 * 0 + _ ≤ _; exact Nat.le_of_eq rfl) (by decide +kernel)
  refine Go.to q7 ?_
  have k7 := k_hp k6 X7 e7 N7
  have A8_b := A3_b.keep Kc7 (ninS ne_b_b2 nin0)
  have Z9 := Nat.le_trans Z4 Kc7.1
  have Kp10 := Kp5.trans Kc7 (allS (Or.inr sz_b2) all0)
  show Go p e below P T7 (mkF m 30 #[.val (.ref b), .val (.int (2 : Int32)), .val (.int (2 : Int32)), .val (.int (0 : Int32)), .val (.ref b2)] [])
  refine s_aload k7 d9_30 rfl rfl (pc' := 32) rfl ?_
  exact s_retA k7 d9_32 rfl rfl rfl hP (by decide) (by decide) ⟨_, rfl, Kp10⟩
theorem d8_0 : decode jdk_65_method_132_code 0 = .ok (.iload_n 1, 1) := by decide +kernel
theorem d8_1 : decode jdk_65_method_132_code 1 = .ok (.ifCond .ne 9, 3) := by decide +kernel
theorem d8_10 : decode jdk_65_method_132_code 10 = .ok (.aload_n 0, 1) := by decide +kernel
theorem d8_11 : decode jdk_65_method_132_code 11 = .ok (.iload_n 1, 1) := by decide +kernel
theorem d8_12 : decode jdk_65_method_132_code 12 = .ok (.iload_n 2, 1) := by decide +kernel
theorem d8_13 : decode jdk_65_method_132_code 13 = .ok (.invokestatic 339, 3) := by decide +kernel
theorem d8_16 : decode jdk_65_method_132_code 16 = .ok (.areturn, 1) := by decide +kernel
theorem pd__28_5bBII_29_5bB : parseMethodDescriptor "([BII)[B" = some ⟨[(.array .byte), .int, .int], some (.array .byte)⟩ := by decide +kernel
theorem pn_8_rmk2 : plainFor (⟨"java/util/Arrays", "copyOfRange", "([BII)[B"⟩ : MethodName) = true := plainFor_of_name (by first | (simp [plainName, overriddenIn]; done) | decide +kernel)
theorem ef_rmk2 {b : Addr} (m : MethodId) : entryFrame m #[.ref b, .int (2 : Int32), .int (2 : Int32)] 3 = mkF m 0 #[.val (.ref b), .val (.int (2 : Int32)), .val (.int (2 : Int32))] [] := by first | (simp [entryFrame, mkF, argsToLocals, Value.category]; done) | rfl
set_option maxRecDepth 65536 in
set_option maxHeartbeats 40000000 in
theorem rmk2 (l : Launch) (Z : State) (a0 : Array Value) (hw : ∀ d ∈ tables_1, d.before a0 Z = true) (b : Addr) (kb : ClassId) (q0 q1 q2 : Int32) (h0 : Heap) (n0 : Nat) (Z0 : n0 ≤ h0.size) (A_b : Arv Z h0 b kb .byte (2 : Int32) [.int q0, .int q1] (.int (0 : Int32))) :
    Met l Z (⟨"java/util/Arrays", "copyOfRange", "([BII)[B"⟩ : MethodName) jdk_65_method_132_code 3 (some (.array .byte)) ({ frames := 2, cells := 1, slots := 0, locals := 72 } : Room) n0 #[.ref b, .int (2 : Int32), .int (2 : Int32)] h0 (fun v h => ∃ d, v = some (.ref d) ∧ Keep h0 h []) := by
  have Kp0 := Keep.refl h0 []
  refine Met.of (Ls := #[.val (.ref b), .val (.int (2 : Int32)), .val (.int (2 : Int32))]) pn_8_rmk2 (fun m => ef_rmk2 m) fun p e s m below meth c T0 P hP k0 => ?_
  refine s_iloadN k0 d8_0 rfl (pc' := 1) rfl ?_
  refine s_if_ne k0 d8_1 (by decide) (pc' := 10) (by decide) (pc3 := 4) rfl (fun hc1 => absurd hc1 (by decide)) (fun hc1 => ?_)
  refine s_aloadN k0 d8_10 rfl rfl (pc' := 11) rfl ?_
  refine s_iloadN k0 d8_11 rfl (pc' := 12) rfl ?_
  refine s_iloadN k0 d8_12 rfl (pc' := 13) rfl ?_
  refine s_callS k0 [.ref b, .int (2 : Int32), .int (2 : Int32)] 0 d8_13 (hw _ (List.mem_of_getElem? (i := 43) rfl)) (hw _ (List.mem_of_getElem? (i := 44) rfl)) (hw _ (List.mem_of_getElem? (i := 41) rfl)) (hw _ (List.mem_of_getElem? (i := 45) rfl)) (by decide) (rmk2b l Z a0 hw b kb q0 q1 q2 h0 n0 Z0 A_b) (by decide) (by decide) pd__28_5bBII_29_5bB rfl (Nat.le_of_eq rfl) rfl (by decide) (by decide) rfl (pc' := 16) rfl fun v1 T1 h1 L1 k1 Qv1 => ?_
  obtain ⟨d1, rfl, Kc1⟩ := Qv1
  have A2_b := A_b.keep Kc1 nin0
  have Z3 := Nat.le_trans Z0 Kc1.1
  have Kp4 := Kp0.trans Kc1 all0
  show Go p e below P T1 (mkF m 16 #[.val (.ref b), .val (.int (2 : Int32)), .val (.int (2 : Int32))] [.ref d1])
  exact s_retA k1 d8_16 rfl rfl rfl hP (by decide) (by decide) ⟨_, rfl, Kp4⟩
theorem pn_9_rmk3b : plainFor (⟨"java/util/Arrays", "copyOfRangeByte", "([BII)[B"⟩ : MethodName) = true := plainFor_of_name (by first | (simp [plainName, overriddenIn]; done) | decide +kernel)
theorem ef_rmk3b {b : Addr} (m : MethodId) : entryFrame m #[.ref b, .int (2 : Int32), .int (2 : Int32)] 5 = mkF m 0 #[.val (.ref b), .val (.int (2 : Int32)), .val (.int (2 : Int32)), .unset, .unset] [] := by first | (simp [entryFrame, mkF, argsToLocals, Value.category]; done) | rfl
set_option maxRecDepth 65536 in
set_option maxHeartbeats 40000000 in
theorem rmk3b (l : Launch) (Z : State) (a0 : Array Value) (hw : ∀ d ∈ tables_1, d.before a0 Z = true) (b : Addr) (kb : ClassId) (q0 q1 q2 : Int32) (h0 : Heap) (n0 : Nat) (Z0 : n0 ≤ h0.size) (A_b : Arv Z h0 b kb .byte (3 : Int32) [.int q0, .int q1, .int q2] (.int (0 : Int32))) :
    Met l Z (⟨"java/util/Arrays", "copyOfRangeByte", "([BII)[B"⟩ : MethodName) jdk_65_method_133_code 5 (some (.array .byte)) ({ frames := 1, cells := 1, slots := 0, locals := 48 } : Room) n0 #[.ref b, .int (2 : Int32), .int (2 : Int32)] h0 (fun v h => ∃ d, v = some (.ref d) ∧ Keep h0 h []) := by
  have Kp0 := Keep.refl h0 []
  refine Met.of (Ls := #[.val (.ref b), .val (.int (2 : Int32)), .val (.int (2 : Int32)), .unset, .unset]) pn_9_rmk3b (fun m => ef_rmk3b m) fun p e s m below meth c T0 P hP k0 => ?_
  refine s_iloadN k0 d9_0 rfl (pc' := 1) rfl ?_
  refine s_iloadN k0 d9_1 rfl (pc' := 2) rfl ?_
  refine s_callS k0 [.int (2 : Int32), .int (2 : Int32)] 0 d9_2 (hw _ (List.mem_of_getElem? (i := 46) rfl)) (hw _ (List.mem_of_getElem? (i := 47) rfl)) (hw _ (List.mem_of_getElem? (i := 41) rfl)) (hw _ (List.mem_of_getElem? (i := 48) rfl)) (by decide) (rmcl l Z a0 hw (2 : Int32) (2 : Int32) h0 n0 Z0 (by decide)) (by decide) (by decide) pd__28II_29V rfl (Nat.le_of_eq rfl) rfl (by decide) (by decide) rfl (pc' := 5) rfl fun v1 T1 h1 L1 k1 Qv1 => ?_
  obtain ⟨rfl, rfl⟩ := Qv1
  show Go p e below P T1 (mkF m 5 #[.val (.ref b), .val (.int (2 : Int32)), .val (.int (2 : Int32)), .unset, .unset] [])
  refine s_iloadN k1 d9_5 rfl (pc' := 6) rfl ?_
  refine s_iloadN k1 d9_6 rfl (pc' := 7) rfl ?_
  refine s_isub k1 (z := (0 : Int32)) d9_7 (by decide) (pc' := 8) rfl ?_
  refine s_istoreN k1 d9_8 (l' := #[.val (.ref b), .val (.int (2 : Int32)), .val (.int (2 : Int32)), .val (.int (0 : Int32)), .unset]) rfl (pc' := 9) rfl ?_
  refine s_iloadN k1 d9_9 rfl (pc' := 10) rfl ?_
  refine s_newP k1 (cap := 0) d9_10 (hw _ (List.mem_of_getElem? (i := 0) rfl)) (by decide) (by decide) (by decide) (by decide) (by decide) (pc' := 12) rfl fun T2 h2 b2 c2 q2 k2 X2 A2 => ?_
  have ne_b_b2 : b ≠ b2 := Nat.ne_of_lt (Nat.lt_of_lt_of_eq A_b.lt q2.symm)
  have g_b2 : n0 ≤ b2 := Nat.le_trans Z0 (Nat.le_of_eq q2.symm)
  have sz_b2 : h0.size ≤ b2 := Nat.le_trans Kp0.1 (Nat.le_of_eq q2.symm)
  have A3_b := A_b.ext X2
  have Z4 := Nat.le_trans Z0 X2.1
  have Kp5 := Kp0.ext X2
  have A2p : Arv Z h2 b2 c2 .byte (0 : Int32) [] (.int (0 : Int32)) := (show Arv Z h2 b2 c2 .byte (0 : Int32) [] (.int (0 : Int32)) from A2).pad (pad_rep [] _ 0)
  refine s_astore k2 d9_12 rfl (l' := #[.val (.ref b), .val (.int (2 : Int32)), .val (.int (2 : Int32)), .val (.int (0 : Int32)), .val (.ref b2)]) rfl (pc' := 14) rfl ?_
  refine s_aloadN k2 d9_14 rfl rfl (pc' := 15) rfl ?_
  refine s_iloadN k2 d9_15 rfl (pc' := 16) rfl ?_
  refine s_aload k2 d9_16 rfl rfl (pc' := 18) rfl ?_
  refine s_iconst k2 (z := 0) d9_18 (by decide) (pc' := 19) rfl ?_
  refine s_aloadN k2 d9_19 rfl rfl (pc' := 20) rfl ?_
  refine s_len k2 d9_20 A3_b (pc' := 21) rfl ?_
  refine s_iloadN k2 d9_21 rfl (pc' := 22) rfl ?_
  refine s_isub k2 (z := (1 : Int32)) d9_22 (by decide) (pc' := 23) rfl ?_
  refine s_iloadN k2 d9_23 rfl (pc' := 24) rfl ?_
  refine s_callS k2 [.int (1 : Int32), .int (0 : Int32)] 4 d9_24 (hw _ (List.mem_of_getElem? (i := 49) rfl)) (hw _ (List.mem_of_getElem? (i := 50) rfl)) (hw _ (List.mem_of_getElem? (i := 51) rfl)) (hw _ (List.mem_of_getElem? (i := 52) rfl)) (by decide) (rmm l Z a0 hw (1 : Int32) (0 : Int32) (0 : Int32) h2 n0 Z4 (by decide)) (by decide) (by decide) pd__28II_29I rfl (Nat.le_of_eq rfl) rfl (by decide) (by decide) rfl (pc' := 27) rfl fun v6 T6 h6 L6 k6 Qv6 => ?_
  obtain ⟨rfl, rfl⟩ := Qv6
  show Go p e below P T6 (mkF m 27 #[.val (.ref b), .val (.int (2 : Int32)), .val (.int (2 : Int32)), .val (.int (0 : Int32)), .val (.ref b2)] [.int (0 : Int32), .int (0 : Int32), .ref b2, .int (2 : Int32), .ref b])
  obtain ⟨T7, h7, L7, X7, e7, N7, Kc7, B7, q7⟩ := cpA k6.1 k6.2.1 k6.2.2.1 k6.2.2.2.2.2.2.1 (hw _ (List.mem_of_getElem? (i := 53) rfl)) (hw _ (List.mem_of_getElem? (i := 56) rfl)) (hw _ (List.mem_of_getElem? (i := 54) rfl)) (hw _ (List.mem_of_getElem? (i := 55) rfl)) k6.2.2.2.1 A3_b A2p (us := []) (Or.inl ⟨rfl, rfl⟩) (by decide) (by decide) (by decide) (by decide) (by decide) rfl (by decide) k6.2.2.2.2.1 g_b2 (g := (mkF m 27 #[.val (.ref b), .val (.int (2 : Int32)), .val (.int (2 : Int32)), .val (.int (0 : Int32)), .val (.ref b2)] [.int (0 : Int32), .int (0 : Int32), .ref b2, .int (2 : Int32), .ref b])) rfl k6.2.2.2.2.2.2.2.1.symm rfl (hb k6.2.2.2.2.2.1 d9_27) (by decide) (W := 0) (by show 2 * 0 + _ ≤ _; exact Nat.le_of_eq rfl) (by decide +kernel)
  refine Go.to q7 ?_
  have k7 := k_hp k6 X7 e7 N7
  have A8_b := A3_b.keep Kc7 (ninS ne_b_b2 nin0)
  have Z9 := Nat.le_trans Z4 Kc7.1
  have Kp10 := Kp5.trans Kc7 (allS (Or.inr sz_b2) all0)
  show Go p e below P T7 (mkF m 30 #[.val (.ref b), .val (.int (2 : Int32)), .val (.int (2 : Int32)), .val (.int (0 : Int32)), .val (.ref b2)] [])
  refine s_aload k7 d9_30 rfl rfl (pc' := 32) rfl ?_
  exact s_retA k7 d9_32 rfl rfl rfl hP (by decide) (by decide) ⟨_, rfl, Kp10⟩
theorem pn_8_rmk3 : plainFor (⟨"java/util/Arrays", "copyOfRange", "([BII)[B"⟩ : MethodName) = true := plainFor_of_name (by first | (simp [plainName, overriddenIn]; done) | decide +kernel)
theorem ef_rmk3 {b : Addr} (m : MethodId) : entryFrame m #[.ref b, .int (2 : Int32), .int (2 : Int32)] 3 = mkF m 0 #[.val (.ref b), .val (.int (2 : Int32)), .val (.int (2 : Int32))] [] := by first | (simp [entryFrame, mkF, argsToLocals, Value.category]; done) | rfl
set_option maxRecDepth 65536 in
set_option maxHeartbeats 40000000 in
theorem rmk3 (l : Launch) (Z : State) (a0 : Array Value) (hw : ∀ d ∈ tables_1, d.before a0 Z = true) (b : Addr) (kb : ClassId) (q0 q1 q2 : Int32) (h0 : Heap) (n0 : Nat) (Z0 : n0 ≤ h0.size) (A_b : Arv Z h0 b kb .byte (3 : Int32) [.int q0, .int q1, .int q2] (.int (0 : Int32))) :
    Met l Z (⟨"java/util/Arrays", "copyOfRange", "([BII)[B"⟩ : MethodName) jdk_65_method_132_code 3 (some (.array .byte)) ({ frames := 2, cells := 1, slots := 0, locals := 72 } : Room) n0 #[.ref b, .int (2 : Int32), .int (2 : Int32)] h0 (fun v h => ∃ d, v = some (.ref d) ∧ Keep h0 h []) := by
  have Kp0 := Keep.refl h0 []
  refine Met.of (Ls := #[.val (.ref b), .val (.int (2 : Int32)), .val (.int (2 : Int32))]) pn_8_rmk3 (fun m => ef_rmk3 m) fun p e s m below meth c T0 P hP k0 => ?_
  refine s_iloadN k0 d8_0 rfl (pc' := 1) rfl ?_
  refine s_if_ne k0 d8_1 (by decide) (pc' := 10) (by decide) (pc3 := 4) rfl (fun hc1 => absurd hc1 (by decide)) (fun hc1 => ?_)
  refine s_aloadN k0 d8_10 rfl rfl (pc' := 11) rfl ?_
  refine s_iloadN k0 d8_11 rfl (pc' := 12) rfl ?_
  refine s_iloadN k0 d8_12 rfl (pc' := 13) rfl ?_
  refine s_callS k0 [.ref b, .int (2 : Int32), .int (2 : Int32)] 0 d8_13 (hw _ (List.mem_of_getElem? (i := 43) rfl)) (hw _ (List.mem_of_getElem? (i := 44) rfl)) (hw _ (List.mem_of_getElem? (i := 41) rfl)) (hw _ (List.mem_of_getElem? (i := 45) rfl)) (by decide) (rmk3b l Z a0 hw b kb q0 q1 q2 h0 n0 Z0 A_b) (by decide) (by decide) pd__28_5bBII_29_5bB rfl (Nat.le_of_eq rfl) rfl (by decide) (by decide) rfl (pc' := 16) rfl fun v1 T1 h1 L1 k1 Qv1 => ?_
  obtain ⟨d1, rfl, Kc1⟩ := Qv1
  have A2_b := A_b.keep Kc1 nin0
  have Z3 := Nat.le_trans Z0 Kc1.1
  have Kp4 := Kp0.trans Kc1 all0
  show Go p e below P T1 (mkF m 16 #[.val (.ref b), .val (.int (2 : Int32)), .val (.int (2 : Int32))] [.ref d1])
  exact s_retA k1 d8_16 rfl rfl rfl hP (by decide) (by decide) ⟨_, rfl, Kp4⟩
theorem d7_0 : decode prog_17_method_3_code 0 = .ok (.aload_n 0, 1) := by decide +kernel
theorem d7_1 : decode prog_17_method_3_code 1 = .ok (.iload_n 1, 1) := by decide +kernel
theorem d7_2 : decode prog_17_method_3_code 2 = .ok (.invokevirtual 25, 3) := by decide +kernel
theorem d7_5 : decode prog_17_method_3_code 5 = .ok (.istore_n 2, 1) := by decide +kernel
theorem d7_6 : decode prog_17_method_3_code 6 = .ok (.aload_n 0, 1) := by decide +kernel
theorem d7_7 : decode prog_17_method_3_code 7 = .ok (.getfield 14, 3) := by decide +kernel
theorem d7_10 : decode prog_17_method_3_code 10 = .ok (.iload_n 2, 1) := by decide +kernel
theorem d7_11 : decode prog_17_method_3_code 11 = .ok (.aload_n 0, 1) := by decide +kernel
theorem d7_12 : decode prog_17_method_3_code 12 = .ok (.getfield 18, 3) := by decide +kernel
theorem d7_15 : decode prog_17_method_3_code 15 = .ok (.invokestatic 29, 3) := by decide +kernel
theorem d7_18 : decode prog_17_method_3_code 18 = .ok (.areturn, 1) := by decide +kernel
theorem pn_7_rmx2 : plainFor (⟨"io/credsmith/Der", "next", "(I)[B"⟩ : MethodName) = true := plainFor_of_name (by first | (simp [plainName, overriddenIn]; done) | decide +kernel)
theorem ef_rmx2 {a : Addr} {t : Int32} (m : MethodId) : entryFrame m #[.ref a, .int t] 3 = mkF m 0 #[.val (.ref a), .val (.int t), .unset] [] := by first | (simp [entryFrame, mkF, argsToLocals, Value.category]; done) | rfl
set_option maxRecDepth 65536 in
set_option maxHeartbeats 40000000 in
theorem rmx2 (l : Launch) (Z : State) (a0 : Array Value) (hw : ∀ d ∈ tables_1, d.before a0 Z = true) (a b : Addr) (kb : ClassId) (q0 q2 t : Int32) (h0 : Heap) (n0 : Nat) (Z0 : n0 ≤ h0.size) (E_a : Exa Z h0 a "io/credsmith/Der") (F_by : Fld Z h0 a "io/credsmith/Der" "bytes" "[B" (.ref b)) (F_at : Fld Z h0 a "io/credsmith/Der" "at" "I" (.int (0 : Int32))) (F_en : Fld Z h0 a "io/credsmith/Der" "end" "I" (.int (2 : Int32))) (g_a : n0 ≤ a) (A_b : Arv Z h0 b kb .byte (2 : Int32) [.int q0, .int (0 : Int32)] (.int (0 : Int32))) (ne_ba : b ≠ a) (ht : (q0 &&& (255 : Int32)) = t) :
    Met l Z (⟨"io/credsmith/Der", "next", "(I)[B"⟩ : MethodName) prog_17_method_3_code 3 (some (.array .byte)) ({ frames := 3, cells := 1, slots := 0, locals := 100 } : Room) n0 #[.ref a, .int t] h0 (fun v h => ∃ d, v = some (.ref d) ∧ Keep h0 h [a] ∧ Fld Z h a "io/credsmith/Der" "bytes" "[B" (.ref b) ∧ Fld Z h a "io/credsmith/Der" "at" "I" (.int (2 : Int32)) ∧ Fld Z h a "io/credsmith/Der" "end" "I" (.int (2 : Int32))) := by
  have Kp0 := Keep.refl h0 [a]
  refine Met.of (Ls := #[.val (.ref a), .val (.int t), .unset]) pn_7_rmx2 (fun m => ef_rmx2 m) fun p e s m below meth c T0 P hP k0 => ?_
  refine s_aloadN k0 d7_0 rfl rfl (pc' := 1) rfl ?_
  refine s_iloadN k0 d7_1 rfl (pc' := 2) rfl ?_
  refine s_callP k0 [.int t] 0 d7_2 (hw _ (List.mem_of_getElem? (i := 29) rfl)) (sel_priv (by decide) (hw _ (List.mem_of_getElem? (i := 2) rfl)) (hw _ (List.mem_of_getElem? (i := 31) rfl)) (hw _ (List.mem_of_getElem? (i := 30) rfl))) (hw _ (List.mem_of_getElem? (i := 30) rfl)) (hw _ (List.mem_of_getElem? (i := 31) rfl)) (hw _ (List.mem_of_getElem? (i := 3) rfl)) (hw _ (List.mem_of_getElem? (i := 32) rfl)) (by decide) E_a (rmc20 l Z a0 hw a b kb q0 (0 : Int32) t h0 n0 Z0 E_a F_by F_at F_en g_a A_b ne_ba ht) (by decide) (by decide) pd__28I_29I rfl (Nat.le_of_eq rfl) rfl (by decide) (by decide) rfl (pc' := 5) rfl fun v1 T1 h1 L1 k1 Qv1 => ?_
  obtain ⟨rfl, Kc1, G1_0, G1_1, G1_2⟩ := Qv1
  have E2_a := E_a.keep Kc1
  have A3_b := A_b.keep Kc1 (ninS ne_ba nin0)
  have Z4 := Nat.le_trans Z0 Kc1.1
  have Kp5 := Kp0.trans Kc1 (allS (Or.inl (List.mem_of_getElem? (i := 0) rfl)) all0)
  show Go p e below P T1 (mkF m 5 #[.val (.ref a), .val (.int t), .unset] [.int (2 : Int32)])
  refine s_istoreN k1 d7_5 (l' := #[.val (.ref a), .val (.int t), .val (.int (2 : Int32))]) rfl (pc' := 6) rfl ?_
  refine s_aloadN k1 d7_6 rfl rfl (pc' := 7) rfl ?_
  refine s_get k1 d7_7 (host := "") (Or.inl (hw _ (List.mem_of_getElem? (i := 13) rfl))) Via.refl G1_0 (pc' := 10) rfl fun T6 k6 => ?_
  refine s_iloadN k6 d7_10 rfl (pc' := 11) rfl ?_
  refine s_aloadN k6 d7_11 rfl rfl (pc' := 12) rfl ?_
  refine s_get k6 d7_12 (host := "") (Or.inl (hw _ (List.mem_of_getElem? (i := 15) rfl))) Via.refl G1_1 (pc' := 15) rfl fun T7 k7 => ?_
  refine s_callS k7 [.ref b, .int (2 : Int32), .int (2 : Int32)] 0 d7_15 (hw _ (List.mem_of_getElem? (i := 39) rfl)) (hw _ (List.mem_of_getElem? (i := 40) rfl)) (hw _ (List.mem_of_getElem? (i := 41) rfl)) (hw _ (List.mem_of_getElem? (i := 42) rfl)) (by decide) (rmk2 l Z a0 hw b kb q0 (0 : Int32) (0 : Int32) h1 n0 Z4 A3_b) (by decide) (by decide) pd__28_5bBII_29_5bB rfl (Nat.le_of_eq rfl) rfl (by decide) (by decide) rfl (pc' := 18) rfl fun v8 T8 h8 L8 k8 Qv8 => ?_
  obtain ⟨d8, rfl, Kc8⟩ := Qv8
  have F9_a_bytes := G1_0.keep Kc8 nin0
  have F10_a_at := G1_1.keep Kc8 nin0
  have F11_a_end := G1_2.keep Kc8 nin0
  have E12_a := E2_a.keep Kc8
  have A13_b := A3_b.keep Kc8 nin0
  have Z14 := Nat.le_trans Z4 Kc8.1
  have Kp15 := Kp5.trans Kc8 all0
  show Go p e below P T8 (mkF m 18 #[.val (.ref a), .val (.int t), .val (.int (2 : Int32))] [.ref d8])
  exact s_retA k8 d7_18 rfl rfl rfl hP (by decide) (by decide) ⟨_, rfl, Kp15, F9_a_bytes, F10_a_at, F11_a_end⟩
theorem pn_7_rmx3 : plainFor (⟨"io/credsmith/Der", "next", "(I)[B"⟩ : MethodName) = true := plainFor_of_name (by first | (simp [plainName, overriddenIn]; done) | decide +kernel)
theorem ef_rmx3 {a : Addr} {t : Int32} (m : MethodId) : entryFrame m #[.ref a, .int t] 3 = mkF m 0 #[.val (.ref a), .val (.int t), .unset] [] := by first | (simp [entryFrame, mkF, argsToLocals, Value.category]; done) | rfl
set_option maxRecDepth 65536 in
set_option maxHeartbeats 40000000 in
theorem rmx3 (l : Launch) (Z : State) (a0 : Array Value) (hw : ∀ d ∈ tables_1, d.before a0 Z = true) (a b : Addr) (kb : ClassId) (q0 q2 t : Int32) (h0 : Heap) (n0 : Nat) (Z0 : n0 ≤ h0.size) (E_a : Exa Z h0 a "io/credsmith/Der") (F_by : Fld Z h0 a "io/credsmith/Der" "bytes" "[B" (.ref b)) (F_at : Fld Z h0 a "io/credsmith/Der" "at" "I" (.int (0 : Int32))) (F_en : Fld Z h0 a "io/credsmith/Der" "end" "I" (.int (3 : Int32))) (g_a : n0 ≤ a) (A_b : Arv Z h0 b kb .byte (3 : Int32) [.int q0, .int (0 : Int32), .int q2] (.int (0 : Int32))) (ne_ba : b ≠ a) (ht : (q0 &&& (255 : Int32)) = t) :
    Met l Z (⟨"io/credsmith/Der", "next", "(I)[B"⟩ : MethodName) prog_17_method_3_code 3 (some (.array .byte)) ({ frames := 3, cells := 1, slots := 0, locals := 100 } : Room) n0 #[.ref a, .int t] h0 (fun v h => ∃ d, v = some (.ref d) ∧ Keep h0 h [a] ∧ Fld Z h a "io/credsmith/Der" "bytes" "[B" (.ref b) ∧ Fld Z h a "io/credsmith/Der" "at" "I" (.int (2 : Int32)) ∧ Fld Z h a "io/credsmith/Der" "end" "I" (.int (3 : Int32))) := by
  have Kp0 := Keep.refl h0 [a]
  refine Met.of (Ls := #[.val (.ref a), .val (.int t), .unset]) pn_7_rmx3 (fun m => ef_rmx3 m) fun p e s m below meth c T0 P hP k0 => ?_
  refine s_aloadN k0 d7_0 rfl rfl (pc' := 1) rfl ?_
  refine s_iloadN k0 d7_1 rfl (pc' := 2) rfl ?_
  refine s_callP k0 [.int t] 0 d7_2 (hw _ (List.mem_of_getElem? (i := 29) rfl)) (sel_priv (by decide) (hw _ (List.mem_of_getElem? (i := 2) rfl)) (hw _ (List.mem_of_getElem? (i := 31) rfl)) (hw _ (List.mem_of_getElem? (i := 30) rfl))) (hw _ (List.mem_of_getElem? (i := 30) rfl)) (hw _ (List.mem_of_getElem? (i := 31) rfl)) (hw _ (List.mem_of_getElem? (i := 3) rfl)) (hw _ (List.mem_of_getElem? (i := 32) rfl)) (by decide) E_a (rmc30 l Z a0 hw a b kb q0 q2 t h0 n0 Z0 E_a F_by F_at F_en g_a A_b ne_ba ht) (by decide) (by decide) pd__28I_29I rfl (Nat.le_of_eq rfl) rfl (by decide) (by decide) rfl (pc' := 5) rfl fun v1 T1 h1 L1 k1 Qv1 => ?_
  obtain ⟨rfl, Kc1, G1_0, G1_1, G1_2⟩ := Qv1
  have E2_a := E_a.keep Kc1
  have A3_b := A_b.keep Kc1 (ninS ne_ba nin0)
  have Z4 := Nat.le_trans Z0 Kc1.1
  have Kp5 := Kp0.trans Kc1 (allS (Or.inl (List.mem_of_getElem? (i := 0) rfl)) all0)
  show Go p e below P T1 (mkF m 5 #[.val (.ref a), .val (.int t), .unset] [.int (2 : Int32)])
  refine s_istoreN k1 d7_5 (l' := #[.val (.ref a), .val (.int t), .val (.int (2 : Int32))]) rfl (pc' := 6) rfl ?_
  refine s_aloadN k1 d7_6 rfl rfl (pc' := 7) rfl ?_
  refine s_get k1 d7_7 (host := "") (Or.inl (hw _ (List.mem_of_getElem? (i := 13) rfl))) Via.refl G1_0 (pc' := 10) rfl fun T6 k6 => ?_
  refine s_iloadN k6 d7_10 rfl (pc' := 11) rfl ?_
  refine s_aloadN k6 d7_11 rfl rfl (pc' := 12) rfl ?_
  refine s_get k6 d7_12 (host := "") (Or.inl (hw _ (List.mem_of_getElem? (i := 15) rfl))) Via.refl G1_1 (pc' := 15) rfl fun T7 k7 => ?_
  refine s_callS k7 [.ref b, .int (2 : Int32), .int (2 : Int32)] 0 d7_15 (hw _ (List.mem_of_getElem? (i := 39) rfl)) (hw _ (List.mem_of_getElem? (i := 40) rfl)) (hw _ (List.mem_of_getElem? (i := 41) rfl)) (hw _ (List.mem_of_getElem? (i := 42) rfl)) (by decide) (rmk3 l Z a0 hw b kb q0 (0 : Int32) q2 h1 n0 Z4 A3_b) (by decide) (by decide) pd__28_5bBII_29_5bB rfl (Nat.le_of_eq rfl) rfl (by decide) (by decide) rfl (pc' := 18) rfl fun v8 T8 h8 L8 k8 Qv8 => ?_
  obtain ⟨d8, rfl, Kc8⟩ := Qv8
  have F9_a_bytes := G1_0.keep Kc8 nin0
  have F10_a_at := G1_1.keep Kc8 nin0
  have F11_a_end := G1_2.keep Kc8 nin0
  have E12_a := E2_a.keep Kc8
  have A13_b := A3_b.keep Kc8 nin0
  have Z14 := Nat.le_trans Z4 Kc8.1
  have Kp15 := Kp5.trans Kc8 all0
  show Go p e below P T8 (mkF m 18 #[.val (.ref a), .val (.int t), .val (.int (2 : Int32))] [.ref d8])
  exact s_retA k8 d7_18 rfl rfl rfl hP (by decide) (by decide) ⟨_, rfl, Kp15, F9_a_bytes, F10_a_at, F11_a_end⟩
theorem own_four (x : Int32) : (x &&& (3 : Int32)) = (0 : Int32) ∨ (x &&& (3 : Int32)) = (1 : Int32) ∨ (x &&& (3 : Int32)) = (2 : Int32) ∨ (x &&& (3 : Int32)) = (3 : Int32) := by
  have e : (x &&& (3 : Int32)).toInt = x.toInt % 2 ^ 2 := Jvm.Kit.i32_mask x 3 (k := 2) (by decide) (by decide)
  have d0 : (0 : Int32).toInt = 0 := by decide
  have d1 : (1 : Int32).toInt = 1 := by decide
  have d2 : (2 : Int32).toInt = 2 := by decide
  have d3 : (3 : Int32).toInt = 3 := by decide
  simp only [← Int32.toInt_inj, e, d0, d1, d2, d3]
  omega
theorem own_byte (x : Int32) : (x.toInt8.toInt32.toInt8.toInt32 &&& (255 : Int32)) = (x &&& (255 : Int32)) := by
  apply Int32.toBitVec_inj.mp
  apply BitVec.eq_of_getLsbD_eq
  intro i hi
  have m : ∀ i : Nat, i < 32 → (255#32).getLsbD i = decide (i < 8) := by decide
  have e : (255 : Int32).toBitVec = 255#32 := rfl
  simp only [Int32.toBitVec_and, BitVec.getLsbD_and, e, m i hi]
  by_cases h : i < 8
  · simp only [h, decide_true, Bool.and_true]
    simp [BitVec.getElem_signExtend, h, hi]
  · simp [h]
theorem own_fx (b t : Int32) : fx b.toInt8.toInt32.toInt8.toInt32 t = (if (b &&& (255 : Int32)) = t then (1 : Int32) else (0 : Int32)) := by
  rw [fx_eq, own_byte]
theorem pd__28_5bB_29V : parseMethodDescriptor "([B)V" = some ⟨[(.array .byte)], none⟩ := by decide +kernel
theorem pd__28I_29Z : parseMethodDescriptor "(I)Z" = some ⟨[.int], some .boolean⟩ := by decide +kernel
theorem pd__28I_29_5bB : parseMethodDescriptor "(I)[B" = some ⟨[.int], some (.array .byte)⟩ := by decide +kernel
theorem pd__28_29Lio_2fcredsmith_2fDer_3b : parseMethodDescriptor "()Lio/credsmith/Der;" = some ⟨[], some (.object "io/credsmith/Der")⟩ := by decide +kernel
theorem pn_0_rm0 : plainFor (⟨"io/credsmith/DerNextIsPinLaw", "law", "(IIII)Z"⟩ : MethodName) = true := plainFor_of_name (by first | (simp [plainName, overriddenIn]; done) | decide +kernel)
theorem ef_rm0 {i0 : Int32} {i1 : Int32} {i2 : Int32} {i3 : Int32} (m : MethodId) : entryFrame m #[.int i0, .int i1, .int i2, .int i3] maxLocals = mkF m 0 #[.val (.int i0), .val (.int i1), .val (.int i2), .val (.int i3), .unset, .unset, .unset, .unset, .unset, .unset, .unset, .unset, .unset, .unset, .unset, .unset, .unset] [] := by first | (simp [entryFrame, mkF, argsToLocals, Value.category, maxLocals]; done) | rfl
set_option maxRecDepth 65536 in
set_option maxHeartbeats 40000000 in
theorem rm0 (l : Launch) (Z : State) (a0 : Array Value) (hw : ∀ d ∈ tables_1, d.before a0 Z = true) (i0 i1 i2 i3 : Int32) (h0 : Heap) (n0 : Nat) (Z0 : n0 ≤ h0.size)  :
    Met l Z x code maxLocals ret room_1 n0 #[.int i0, .int i1, .int i2, .int i3] h0 (fun v h => v = some (.int 1)) := by
  refine Met.of (Ls := #[.val (.int i0), .val (.int i1), .val (.int i2), .val (.int i3), .unset, .unset, .unset, .unset, .unset, .unset, .unset, .unset, .unset, .unset, .unset, .unset, .unset]) pn_0_rm0 (fun m => ef_rm0 m) fun p e s m below meth c T0 P hP k0 => ?_
  refine s_iloadN k0 at_0 rfl (pc' := 1) rfl ?_
  refine s_iconst k0 (z := 3) at_1 (by decide) (pc' := 2) rfl ?_
  refine s_iand k0 at_2 rfl (pc' := 3) rfl ?_
  refine s_istore k0 at_3 (l' := #[.val (.int i0), .val (.int i1), .val (.int i2), .val (.int i3), .val (.int (i0 &&& (3 : Int32))), .unset, .unset, .unset, .unset, .unset, .unset, .unset, .unset, .unset, .unset, .unset, .unset]) rfl (pc' := 5) rfl ?_
  refine s_iloadN k0 at_5 rfl (pc' := 6) rfl ?_
  refine s_iconst k0 (z := 2) at_6 (by decide) (pc' := 7) rfl ?_
  refine s_iushr k0 at_7 rfl (pc' := 8) rfl ?_
  refine s_iconst k0 (z := 3) at_8 (by decide) (pc' := 9) rfl ?_
  refine s_iand k0 at_9 rfl (pc' := 10) rfl ?_
  refine s_istore k0 at_10 (l' := #[.val (.int i0), .val (.int i1), .val (.int i2), .val (.int i3), .val (.int (i0 &&& (3 : Int32))), .val (.int ((Jvm.Free.XT.ushr i0 (2 : Int32)) &&& (3 : Int32))), .unset, .unset, .unset, .unset, .unset, .unset, .unset, .unset, .unset, .unset, .unset]) rfl (pc' := 12) rfl ?_
  rcases own_four i0 with hk1 | hk1 | hk1 | hk1
  · rw [hk1]
    show Go p e below P T0 (mkF m 12 #[.val (.int i0), .val (.int i1), .val (.int i2), .val (.int i3), .val (.int (0 : Int32)), .val (.int ((Jvm.Free.XT.ushr i0 (2 : Int32)) &&& (3 : Int32))), .unset, .unset, .unset, .unset, .unset, .unset, .unset, .unset, .unset, .unset, .unset] [])
    rcases own_four (Jvm.Free.XT.ushr i0 (2 : Int32)) with hk2 | hk2 | hk2 | hk2
    · rw [hk2]
      show Go p e below P T0 (mkF m 12 #[.val (.int i0), .val (.int i1), .val (.int i2), .val (.int i3), .val (.int (0 : Int32)), .val (.int (0 : Int32)), .unset, .unset, .unset, .unset, .unset, .unset, .unset, .unset, .unset, .unset, .unset] [])
      refine s_iloadN k0 at_12 rfl (pc' := 13) rfl ?_
      refine s_iconst k0 (z := 4) at_13 (by decide) (pc' := 14) rfl ?_
      refine s_iushr k0 at_14 rfl (pc' := 15) rfl ?_
      refine s_iconst k0 (z := 1) at_15 (by decide) (pc' := 16) rfl ?_
      refine s_iand k0 at_16 rfl (pc' := 17) rfl ?_
      have J3 : ∀ (w17 : Int32) (e_w17 : w17 = (if ((Jvm.Free.XT.ushr i0 (4 : Int32)) &&& (1 : Int32)) = (0 : Int32) then (0 : Int32) else (1 : Int32))), Go p e below P T0 (mkF m 25 #[.val (.int i0), .val (.int i1), .val (.int i2), .val (.int i3), .val (.int (0 : Int32)), .val (.int (0 : Int32)), .unset, .unset, .unset, .unset, .unset, .unset, .unset, .unset, .unset, .unset, .unset] [.int w17]) := by
        intro w17 e_w17
        refine s_istore k0 at_25 (l' := #[.val (.int i0), .val (.int i1), .val (.int i2), .val (.int i3), .val (.int (0 : Int32)), .val (.int (0 : Int32)), .val (.int w17), .unset, .unset, .unset, .unset, .unset, .unset, .unset, .unset, .unset, .unset]) rfl (pc' := 27) rfl ?_
        refine s_iload k0 at_27 rfl (pc' := 29) rfl ?_
        refine s_if_ne k0 at_29 (by decide) (pc' := 40) (by decide) (pc3 := 32) rfl (fun hc29 => ?_) (fun hc29 => absurd (by decide) hc29)
        refine s_iloadN k0 at_32 rfl (pc' := 33) rfl ?_
        refine s_sipush k0 (z := 255) at_33 (by decide) (pc' := 36) rfl ?_
        refine s_iand k0 at_36 rfl (pc' := 37) rfl ?_
        refine s_goto k0 at_37 (by decide) (pc' := 45) (by decide) ?_
        refine s_istore k0 at_45 (l' := #[.val (.int i0), .val (.int i1), .val (.int i2), .val (.int i3), .val (.int (0 : Int32)), .val (.int (0 : Int32)), .val (.int w17), .val (.int (i1 &&& (255 : Int32))), .unset, .unset, .unset, .unset, .unset, .unset, .unset, .unset, .unset]) rfl (pc' := 47) rfl ?_
        refine s_iload k0 at_47 rfl (pc' := 49) rfl ?_
        have J4 : ∀ (w49 : Int32) (e_w49 : w49 = (if w17 = (0 : Int32) then i3 else (i1 &&& (255 : Int32)))), Go p e below P T0 (mkF m 58 #[.val (.int i0), .val (.int i1), .val (.int i2), .val (.int i3), .val (.int (0 : Int32)), .val (.int (0 : Int32)), .val (.int w17), .val (.int (i1 &&& (255 : Int32))), .unset, .unset, .unset, .unset, .unset, .unset, .unset, .unset, .unset] [.int w49]) := by
          intro w49 e_w49
          refine s_istore k0 at_58 (l' := #[.val (.int i0), .val (.int i1), .val (.int i2), .val (.int i3), .val (.int (0 : Int32)), .val (.int (0 : Int32)), .val (.int w17), .val (.int (i1 &&& (255 : Int32))), .val (.int w49), .unset, .unset, .unset, .unset, .unset, .unset, .unset, .unset]) rfl (pc' := 60) rfl ?_
          refine s_iload k0 at_60 rfl (pc' := 62) rfl ?_
          refine s_if_ne k0 at_62 (by decide) (pc' := 112) (by decide) (pc3 := 65) rfl (fun hc62 => ?_) (fun hc62 => absurd (by decide) hc62)
          refine s_iload k0 at_65 rfl (pc' := 67) rfl ?_
          refine s_newP k0 (cap := 0) at_67 (hw _ (List.mem_of_getElem? (i := 0) rfl)) (by decide) (by decide) (by decide) (by decide) (by decide) (pc' := 69) rfl fun T5 h5 b5 c5 q5 k5 X5 A5 => ?_
          have g_b5 : n0 ≤ b5 := Nat.le_trans Z0 (Nat.le_of_eq q5.symm)
          have Z6 := Nat.le_trans Z0 X5.1
          have A5p : Arv Z h5 b5 c5 .byte (0 : Int32) [] (.int (0 : Int32)) := (show Arv Z h5 b5 c5 .byte (0 : Int32) [] (.int (0 : Int32)) from A5).pad (pad_rep [] _ 0)
          refine s_astore k5 at_69 rfl (l' := #[.val (.int i0), .val (.int i1), .val (.int i2), .val (.int i3), .val (.int (0 : Int32)), .val (.int (0 : Int32)), .val (.int w17), .val (.int (i1 &&& (255 : Int32))), .val (.int w49), .val (.ref b5), .unset, .unset, .unset, .unset, .unset, .unset, .unset]) rfl (pc' := 71) rfl ?_
          refine s_iload k5 at_71 rfl (pc' := 73) rfl ?_
          refine s_if_le k5 at_73 (by decide) (pc' := 82) (by decide) (pc3 := 76) rfl (fun hc73 => absurd hc73 (by decide)) (fun hc73 => ?_)
          refine s_iload k5 at_82 rfl (pc' := 84) rfl ?_
          refine s_iconst k5 (z := 1) at_84 (by decide) (pc' := 85) rfl ?_
          refine s_icmp_le k5 at_85 (by decide) (pc' := 94) (by decide) (pc3 := 88) rfl (fun hc85 => absurd hc85 (by decide)) (fun hc85 => ?_)
          refine s_iload k5 at_94 rfl (pc' := 96) rfl ?_
          refine s_iconst k5 (z := 2) at_96 (by decide) (pc' := 97) rfl ?_
          refine s_icmp_le k5 at_97 (by decide) (pc' := 176) (by decide) (pc3 := 100) rfl (fun hc97 => absurd hc97 (by decide)) (fun hc97 => ?_)
          refine s_new k5 at_176 (hw _ (List.mem_of_getElem? (i := 1) rfl)) (hw _ (List.mem_of_getElem? (i := 2) rfl)) (hw _ (List.mem_of_getElem? (i := 3) rfl)) (by decide) (by decide) (pc' := 179) rfl fun T7 h7 b7 q7 k7 X7 E7 D7 => ?_
          have ne_b5_b7 : b5 ≠ b7 := Nat.ne_of_lt (Nat.lt_of_lt_of_eq A5p.lt q7.symm)
          have g_b7 : n0 ≤ b7 := Nat.le_trans Z6 (Nat.le_of_eq q7.symm)
          have A8_b5 := A5p.ext X7
          have Z9 := Nat.le_trans Z6 X7.1
          have F7_b7_bytes : Fld Z h7 b7 "io/credsmith/Der" "bytes" "[B" .null := D7 (Or.inr (hw _ (List.mem_of_getElem? (i := 14) rfl))) (ty := (.array .byte)) (by decide)
          have F7_b7_at : Fld Z h7 b7 "io/credsmith/Der" "at" "I" (.int (0 : Int32)) := D7 (Or.inl (hw _ (List.mem_of_getElem? (i := 16) rfl))) (ty := .int) (by decide)
          have F7_b7_end : Fld Z h7 b7 "io/credsmith/Der" "end" "I" (.int (0 : Int32)) := D7 (Or.inr (hw _ (List.mem_of_getElem? (i := 18) rfl))) (ty := .int) (by decide)
          refine s_dup k7 at_179 rfl (pc' := 180) rfl ?_
          refine s_aload k7 at_180 rfl rfl (pc' := 182) rfl ?_
          refine s_callI k7 [.ref b5] 1 at_182 rfl (hw _ (List.mem_of_getElem? (i := 4) rfl)) (hw _ (List.mem_of_getElem? (i := 5) rfl)) (hw _ (List.mem_of_getElem? (i := 3) rfl)) (hw _ (List.mem_of_getElem? (i := 6) rfl)) (by decide) (rmi1 l Z a0 hw b7 b5 c5 (0 : Int32) [] h7 n0 Z9 E7 F7_b7_bytes F7_b7_at F7_b7_end g_b7 A8_b5 ne_b5_b7) (by decide) (by decide) pd__28_5bB_29V rfl (Nat.le_of_eq rfl) rfl (by decide) (by decide) rfl (pc' := 185) rfl fun v10 T10 h10 L10 k10 Qv10 => ?_
          obtain ⟨rfl, Kc10, G10_0, G10_1, G10_2⟩ := Qv10
          have E11_b7 := E7.keep Kc10
          have A12_b5 := A8_b5.keep Kc10 (ninS ne_b5_b7 nin0)
          have Z13 := Nat.le_trans Z9 Kc10.1
          show Go p e below P T10 (mkF m 185 #[.val (.int i0), .val (.int i1), .val (.int i2), .val (.int i3), .val (.int (0 : Int32)), .val (.int (0 : Int32)), .val (.int w17), .val (.int (i1 &&& (255 : Int32))), .val (.int w49), .val (.ref b5), .unset, .unset, .unset, .unset, .unset, .unset, .unset] [.ref b7])
          refine s_astore k10 at_185 rfl (l' := #[.val (.int i0), .val (.int i1), .val (.int i2), .val (.int i3), .val (.int (0 : Int32)), .val (.int (0 : Int32)), .val (.int w17), .val (.int (i1 &&& (255 : Int32))), .val (.int w49), .val (.ref b5), .val (.ref b7), .unset, .unset, .unset, .unset, .unset, .unset]) rfl (pc' := 187) rfl ?_
          refine s_iconst k10 (z := 1) at_187 (by decide) (pc' := 188) rfl ?_
          refine s_istore k10 at_188 (l' := #[.val (.int i0), .val (.int i1), .val (.int i2), .val (.int i3), .val (.int (0 : Int32)), .val (.int (0 : Int32)), .val (.int w17), .val (.int (i1 &&& (255 : Int32))), .val (.int w49), .val (.ref b5), .val (.ref b7), .unset, .val (.int (1 : Int32)), .unset, .unset, .unset, .unset]) rfl (pc' := 190) rfl ?_
          refine s_iload k10 at_190 rfl (pc' := 192) rfl ?_
          refine s_if_ne k10 at_192 (by decide) (pc' := 217) (by decide) (pc3 := 195) rfl (fun hc192 => ?_) (fun hc192 => absurd (by decide) hc192)
          refine s_iload k10 at_195 rfl (pc' := 197) rfl ?_
          refine s_if_le k10 at_197 (by decide) (pc' := 211) (by decide) (pc3 := 200) rfl (fun hc197 => absurd hc197 (by decide)) (fun hc197 => ?_)
          refine s_iconst k10 (z := 0) at_211 (by decide) (pc' := 212) rfl ?_
          refine s_istore k10 at_212 (l' := #[.val (.int i0), .val (.int i1), .val (.int i2), .val (.int i3), .val (.int (0 : Int32)), .val (.int (0 : Int32)), .val (.int w17), .val (.int (i1 &&& (255 : Int32))), .val (.int w49), .val (.ref b5), .val (.ref b7), .val (.int (0 : Int32)), .val (.int (1 : Int32)), .unset, .unset, .unset, .unset]) rfl (pc' := 214) rfl ?_
          refine s_goto k10 at_214 (by decide) (pc' := 344) (by decide) ?_
          refine s_aload k10 at_344 rfl rfl (pc' := 346) rfl ?_
          refine s_iload k10 at_346 rfl (pc' := 348) rfl ?_
          refine s_callV k10 [.int w49] 0 at_348 (hw _ (List.mem_of_getElem? (i := 19) rfl)) (hw _ (List.mem_of_getElem? (i := 20) rfl)) (hw _ (List.mem_of_getElem? (i := 22) rfl)) (hw _ (List.mem_of_getElem? (i := 21) rfl)) (hw _ (List.mem_of_getElem? (i := 3) rfl)) (hw _ (List.mem_of_getElem? (i := 23) rfl)) (by decide) E11_b7 (rmn0 l Z a0 hw b7 b5 (0 : Int32) (0 : Int32) w49 h10 n0 Z13 G10_0 G10_1 G10_2 (by decide)) (by decide) (by decide) pd__28I_29Z rfl (Nat.le_of_eq rfl) rfl (by decide) (by decide) rfl (pc' := 351) rfl fun v14 T14 h14 L14 k14 Qv14 => ?_
          obtain ⟨rfl, rfl⟩ := Qv14
          show Go p e below P T14 (mkF m 351 #[.val (.int i0), .val (.int i1), .val (.int i2), .val (.int i3), .val (.int (0 : Int32)), .val (.int (0 : Int32)), .val (.int w17), .val (.int (i1 &&& (255 : Int32))), .val (.int w49), .val (.ref b5), .val (.ref b7), .val (.int (0 : Int32)), .val (.int (1 : Int32)), .unset, .unset, .unset, .unset] [.int (0 : Int32)])
          refine s_istore k14 at_351 (l' := #[.val (.int i0), .val (.int i1), .val (.int i2), .val (.int i3), .val (.int (0 : Int32)), .val (.int (0 : Int32)), .val (.int w17), .val (.int (i1 &&& (255 : Int32))), .val (.int w49), .val (.ref b5), .val (.ref b7), .val (.int (0 : Int32)), .val (.int (1 : Int32)), .val (.int (0 : Int32)), .unset, .unset, .unset]) rfl (pc' := 353) rfl ?_
          refine s_aload k14 at_353 rfl rfl (pc' := 355) rfl ?_
          refine s_iload k14 at_355 rfl (pc' := 357) rfl ?_
          refine s_callV k14 [.int w49] 0 at_357 (hw _ (List.mem_of_getElem? (i := 19) rfl)) (hw _ (List.mem_of_getElem? (i := 20) rfl)) (hw _ (List.mem_of_getElem? (i := 22) rfl)) (hw _ (List.mem_of_getElem? (i := 21) rfl)) (hw _ (List.mem_of_getElem? (i := 3) rfl)) (hw _ (List.mem_of_getElem? (i := 23) rfl)) (by decide) E11_b7 (rmn0 l Z a0 hw b7 b5 (0 : Int32) (0 : Int32) w49 h10 n0 Z13 G10_0 G10_1 G10_2 (by decide)) (by decide) (by decide) pd__28I_29Z rfl (Nat.le_of_eq rfl) rfl (by decide) (by decide) rfl (pc' := 360) rfl fun v15 T15 h15 L15 k15 Qv15 => ?_
          obtain ⟨rfl, rfl⟩ := Qv15
          show Go p e below P T15 (mkF m 360 #[.val (.int i0), .val (.int i1), .val (.int i2), .val (.int i3), .val (.int (0 : Int32)), .val (.int (0 : Int32)), .val (.int w17), .val (.int (i1 &&& (255 : Int32))), .val (.int w49), .val (.ref b5), .val (.ref b7), .val (.int (0 : Int32)), .val (.int (1 : Int32)), .val (.int (0 : Int32)), .unset, .unset, .unset] [.int (0 : Int32)])
          refine s_istore k15 at_360 (l' := #[.val (.int i0), .val (.int i1), .val (.int i2), .val (.int i3), .val (.int (0 : Int32)), .val (.int (0 : Int32)), .val (.int w17), .val (.int (i1 &&& (255 : Int32))), .val (.int w49), .val (.ref b5), .val (.ref b7), .val (.int (0 : Int32)), .val (.int (1 : Int32)), .val (.int (0 : Int32)), .val (.int (0 : Int32)), .unset, .unset]) rfl (pc' := 362) rfl ?_
          refine s_iload k15 at_362 rfl (pc' := 364) rfl ?_
          refine s_if_eq k15 at_364 (by decide) (pc' := 385) (by decide) (pc3 := 367) rfl (fun hc364 => absurd hc364 (by decide)) (fun hc364 => ?_)
          refine s_iload k15 at_367 rfl (pc' := 369) rfl ?_
          refine s_iload k15 at_369 rfl (pc' := 371) rfl ?_
          refine s_icmp_ne k15 at_371 (by decide) (pc' := 385) (by decide) (pc3 := 374) rfl (fun hc371 => ?_) (fun hc371 => absurd (by decide) hc371)
          refine s_iload k15 at_374 rfl (pc' := 376) rfl ?_
          refine s_iload k15 at_376 rfl (pc' := 378) rfl ?_
          refine s_icmp_ne k15 at_378 (by decide) (pc' := 385) (by decide) (pc3 := 381) rfl (fun hc378 => ?_) (fun hc378 => absurd (by decide) hc378)
          refine s_iconst k15 (z := 1) at_381 (by decide) (pc' := 382) rfl ?_
          refine s_goto k15 at_382 (by decide) (pc' := 386) (by decide) ?_
          exact s_retZ k15 at_386 rfl (by decide) hP (by decide) (by decide) rfl
        refine s_if_eq k0 at_49 (by decide) (pc' := 57) (by decide) (pc3 := 52) rfl (fun hc49 => ?_) (fun hc49 => ?_)
        · refine s_iloadN k0 at_57 rfl (pc' := 58) rfl ?_
          exact J4 _ (by rw [if_pos hc49])
        · refine s_iload k0 at_52 rfl (pc' := 54) rfl ?_
          refine s_goto k0 at_54 (by decide) (pc' := 58) (by decide) ?_
          exact J4 _ (by rw [if_neg hc49])
      refine s_if_eq k0 at_17 (by decide) (pc' := 24) (by decide) (pc3 := 20) rfl (fun hc17 => ?_) (fun hc17 => ?_)
      · refine s_iconst k0 (z := 0) at_24 (by decide) (pc' := 25) rfl ?_
        exact J3 _ (by rw [if_pos hc17])
      · refine s_iconst k0 (z := 1) at_20 (by decide) (pc' := 21) rfl ?_
        refine s_goto k0 at_21 (by decide) (pc' := 25) (by decide) ?_
        exact J3 _ (by rw [if_neg hc17])
    · rw [hk2]
      show Go p e below P T0 (mkF m 12 #[.val (.int i0), .val (.int i1), .val (.int i2), .val (.int i3), .val (.int (0 : Int32)), .val (.int (1 : Int32)), .unset, .unset, .unset, .unset, .unset, .unset, .unset, .unset, .unset, .unset, .unset] [])
      refine s_iloadN k0 at_12 rfl (pc' := 13) rfl ?_
      refine s_iconst k0 (z := 4) at_13 (by decide) (pc' := 14) rfl ?_
      refine s_iushr k0 at_14 rfl (pc' := 15) rfl ?_
      refine s_iconst k0 (z := 1) at_15 (by decide) (pc' := 16) rfl ?_
      refine s_iand k0 at_16 rfl (pc' := 17) rfl ?_
      have J16 : ∀ (w17 : Int32) (e_w17 : w17 = (if ((Jvm.Free.XT.ushr i0 (4 : Int32)) &&& (1 : Int32)) = (0 : Int32) then (0 : Int32) else (1 : Int32))), Go p e below P T0 (mkF m 25 #[.val (.int i0), .val (.int i1), .val (.int i2), .val (.int i3), .val (.int (0 : Int32)), .val (.int (1 : Int32)), .unset, .unset, .unset, .unset, .unset, .unset, .unset, .unset, .unset, .unset, .unset] [.int w17]) := by
        intro w17 e_w17
        refine s_istore k0 at_25 (l' := #[.val (.int i0), .val (.int i1), .val (.int i2), .val (.int i3), .val (.int (0 : Int32)), .val (.int (1 : Int32)), .val (.int w17), .unset, .unset, .unset, .unset, .unset, .unset, .unset, .unset, .unset, .unset]) rfl (pc' := 27) rfl ?_
        refine s_iload k0 at_27 rfl (pc' := 29) rfl ?_
        refine s_if_ne k0 at_29 (by decide) (pc' := 40) (by decide) (pc3 := 32) rfl (fun hc29 => ?_) (fun hc29 => absurd (by decide) hc29)
        refine s_iloadN k0 at_32 rfl (pc' := 33) rfl ?_
        refine s_sipush k0 (z := 255) at_33 (by decide) (pc' := 36) rfl ?_
        refine s_iand k0 at_36 rfl (pc' := 37) rfl ?_
        refine s_goto k0 at_37 (by decide) (pc' := 45) (by decide) ?_
        refine s_istore k0 at_45 (l' := #[.val (.int i0), .val (.int i1), .val (.int i2), .val (.int i3), .val (.int (0 : Int32)), .val (.int (1 : Int32)), .val (.int w17), .val (.int (i1 &&& (255 : Int32))), .unset, .unset, .unset, .unset, .unset, .unset, .unset, .unset, .unset]) rfl (pc' := 47) rfl ?_
        refine s_iload k0 at_47 rfl (pc' := 49) rfl ?_
        have J17 : ∀ (w49 : Int32) (e_w49 : w49 = (if w17 = (0 : Int32) then i3 else (i1 &&& (255 : Int32)))), Go p e below P T0 (mkF m 58 #[.val (.int i0), .val (.int i1), .val (.int i2), .val (.int i3), .val (.int (0 : Int32)), .val (.int (1 : Int32)), .val (.int w17), .val (.int (i1 &&& (255 : Int32))), .unset, .unset, .unset, .unset, .unset, .unset, .unset, .unset, .unset] [.int w49]) := by
          intro w49 e_w49
          refine s_istore k0 at_58 (l' := #[.val (.int i0), .val (.int i1), .val (.int i2), .val (.int i3), .val (.int (0 : Int32)), .val (.int (1 : Int32)), .val (.int w17), .val (.int (i1 &&& (255 : Int32))), .val (.int w49), .unset, .unset, .unset, .unset, .unset, .unset, .unset, .unset]) rfl (pc' := 60) rfl ?_
          refine s_iload k0 at_60 rfl (pc' := 62) rfl ?_
          refine s_if_ne k0 at_62 (by decide) (pc' := 112) (by decide) (pc3 := 65) rfl (fun hc62 => ?_) (fun hc62 => absurd (by decide) hc62)
          refine s_iload k0 at_65 rfl (pc' := 67) rfl ?_
          refine s_newP k0 (cap := 1) at_67 (hw _ (List.mem_of_getElem? (i := 0) rfl)) (by decide) (by decide) (by decide) (by decide) (by decide) (pc' := 69) rfl fun T18 h18 b18 c18 q18 k18 X18 A18 => ?_
          have g_b18 : n0 ≤ b18 := Nat.le_trans Z0 (Nat.le_of_eq q18.symm)
          have Z19 := Nat.le_trans Z0 X18.1
          have A18p : Arv Z h18 b18 c18 .byte (1 : Int32) [(.int (0 : Int32))] (.int (0 : Int32)) := (show Arv Z h18 b18 c18 .byte (1 : Int32) [] (.int (0 : Int32)) from A18).pad (pad_rep [] _ 1)
          refine s_astore k18 at_69 rfl (l' := #[.val (.int i0), .val (.int i1), .val (.int i2), .val (.int i3), .val (.int (0 : Int32)), .val (.int (1 : Int32)), .val (.int w17), .val (.int (i1 &&& (255 : Int32))), .val (.int w49), .val (.ref b18), .unset, .unset, .unset, .unset, .unset, .unset, .unset]) rfl (pc' := 71) rfl ?_
          refine s_iload k18 at_71 rfl (pc' := 73) rfl ?_
          refine s_if_le k18 at_73 (by decide) (pc' := 82) (by decide) (pc3 := 76) rfl (fun hc73 => ?_) (fun hc73 => absurd (by decide) hc73)
          refine s_aload k18 at_76 rfl rfl (pc' := 78) rfl ?_
          refine s_iconst k18 (z := 0) at_78 (by decide) (pc' := 79) rfl ?_
          refine s_iloadN k18 at_79 rfl (pc' := 80) rfl ?_
          refine s_i2b k18 at_80 rfl (pc' := 81) rfl ?_
          refine s_bastore k18 at_81 A18p ⟨by decide, by decide⟩ (i := 0) rfl (Nat.le_of_ble_eq_true rfl) (y := i1.toInt8.toInt32.toInt8.toInt32) rfl g_b18 (pc' := 82) rfl fun T20 h20 L20 k20 W20 A20 => ?_
          have Z21 := Nat.le_trans Z19 (Keep.of_wr W20).1
          refine s_iload k20 at_82 rfl (pc' := 84) rfl ?_
          refine s_iconst k20 (z := 1) at_84 (by decide) (pc' := 85) rfl ?_
          refine s_icmp_le k20 at_85 (by decide) (pc' := 94) (by decide) (pc3 := 88) rfl (fun hc85 => absurd hc85 (by decide)) (fun hc85 => ?_)
          refine s_iload k20 at_94 rfl (pc' := 96) rfl ?_
          refine s_iconst k20 (z := 2) at_96 (by decide) (pc' := 97) rfl ?_
          refine s_icmp_le k20 at_97 (by decide) (pc' := 176) (by decide) (pc3 := 100) rfl (fun hc97 => absurd hc97 (by decide)) (fun hc97 => ?_)
          refine s_new k20 at_176 (hw _ (List.mem_of_getElem? (i := 1) rfl)) (hw _ (List.mem_of_getElem? (i := 2) rfl)) (hw _ (List.mem_of_getElem? (i := 3) rfl)) (by decide) (by decide) (pc' := 179) rfl fun T22 h22 b22 q22 k22 X22 E22 D22 => ?_
          have ne_b18_b22 : b18 ≠ b22 := Nat.ne_of_lt (Nat.lt_of_lt_of_eq A20.lt q22.symm)
          have g_b22 : n0 ≤ b22 := Nat.le_trans Z21 (Nat.le_of_eq q22.symm)
          have A23_b18 := A20.ext X22
          have Z24 := Nat.le_trans Z21 X22.1
          have F22_b22_bytes : Fld Z h22 b22 "io/credsmith/Der" "bytes" "[B" .null := D22 (Or.inr (hw _ (List.mem_of_getElem? (i := 14) rfl))) (ty := (.array .byte)) (by decide)
          have F22_b22_at : Fld Z h22 b22 "io/credsmith/Der" "at" "I" (.int (0 : Int32)) := D22 (Or.inl (hw _ (List.mem_of_getElem? (i := 16) rfl))) (ty := .int) (by decide)
          have F22_b22_end : Fld Z h22 b22 "io/credsmith/Der" "end" "I" (.int (0 : Int32)) := D22 (Or.inr (hw _ (List.mem_of_getElem? (i := 18) rfl))) (ty := .int) (by decide)
          refine s_dup k22 at_179 rfl (pc' := 180) rfl ?_
          refine s_aload k22 at_180 rfl rfl (pc' := 182) rfl ?_
          refine s_callI k22 [.ref b18] 1 at_182 rfl (hw _ (List.mem_of_getElem? (i := 4) rfl)) (hw _ (List.mem_of_getElem? (i := 5) rfl)) (hw _ (List.mem_of_getElem? (i := 3) rfl)) (hw _ (List.mem_of_getElem? (i := 6) rfl)) (by decide) (rmi1 l Z a0 hw b22 b18 c18 (1 : Int32) [.int i1.toInt8.toInt32.toInt8.toInt32] h22 n0 Z24 E22 F22_b22_bytes F22_b22_at F22_b22_end g_b22 A23_b18 ne_b18_b22) (by decide) (by decide) pd__28_5bB_29V rfl (Nat.le_of_eq rfl) rfl (by decide) (by decide) rfl (pc' := 185) rfl fun v25 T25 h25 L25 k25 Qv25 => ?_
          obtain ⟨rfl, Kc25, G25_0, G25_1, G25_2⟩ := Qv25
          have E26_b22 := E22.keep Kc25
          have A27_b18 := A23_b18.keep Kc25 (ninS ne_b18_b22 nin0)
          have Z28 := Nat.le_trans Z24 Kc25.1
          show Go p e below P T25 (mkF m 185 #[.val (.int i0), .val (.int i1), .val (.int i2), .val (.int i3), .val (.int (0 : Int32)), .val (.int (1 : Int32)), .val (.int w17), .val (.int (i1 &&& (255 : Int32))), .val (.int w49), .val (.ref b18), .unset, .unset, .unset, .unset, .unset, .unset, .unset] [.ref b22])
          refine s_astore k25 at_185 rfl (l' := #[.val (.int i0), .val (.int i1), .val (.int i2), .val (.int i3), .val (.int (0 : Int32)), .val (.int (1 : Int32)), .val (.int w17), .val (.int (i1 &&& (255 : Int32))), .val (.int w49), .val (.ref b18), .val (.ref b22), .unset, .unset, .unset, .unset, .unset, .unset]) rfl (pc' := 187) rfl ?_
          refine s_iconst k25 (z := 1) at_187 (by decide) (pc' := 188) rfl ?_
          refine s_istore k25 at_188 (l' := #[.val (.int i0), .val (.int i1), .val (.int i2), .val (.int i3), .val (.int (0 : Int32)), .val (.int (1 : Int32)), .val (.int w17), .val (.int (i1 &&& (255 : Int32))), .val (.int w49), .val (.ref b18), .val (.ref b22), .unset, .val (.int (1 : Int32)), .unset, .unset, .unset, .unset]) rfl (pc' := 190) rfl ?_
          refine s_iload k25 at_190 rfl (pc' := 192) rfl ?_
          refine s_if_ne k25 at_192 (by decide) (pc' := 217) (by decide) (pc3 := 195) rfl (fun hc192 => ?_) (fun hc192 => absurd (by decide) hc192)
          refine s_iload k25 at_195 rfl (pc' := 197) rfl ?_
          refine s_if_le k25 at_197 (by decide) (pc' := 211) (by decide) (pc3 := 200) rfl (fun hc197 => ?_) (fun hc197 => absurd (by decide) hc197)
          refine s_iload k25 at_200 rfl (pc' := 202) rfl ?_
          refine s_iload k25 at_202 rfl (pc' := 204) rfl ?_
          have J29 : ∀ (w204 : Int32) (e_w204 : w204 = (if (i1 &&& (255 : Int32)) = w49 then (1 : Int32) else (0 : Int32))), Go p e below P T25 (mkF m 212 #[.val (.int i0), .val (.int i1), .val (.int i2), .val (.int i3), .val (.int (0 : Int32)), .val (.int (1 : Int32)), .val (.int w17), .val (.int (i1 &&& (255 : Int32))), .val (.int w49), .val (.ref b18), .val (.ref b22), .unset, .val (.int (1 : Int32)), .unset, .unset, .unset, .unset] [.int w204]) := by
            intro w204 e_w204
            refine s_istore k25 at_212 (l' := #[.val (.int i0), .val (.int i1), .val (.int i2), .val (.int i3), .val (.int (0 : Int32)), .val (.int (1 : Int32)), .val (.int w17), .val (.int (i1 &&& (255 : Int32))), .val (.int w49), .val (.ref b18), .val (.ref b22), .val (.int w204), .val (.int (1 : Int32)), .unset, .unset, .unset, .unset]) rfl (pc' := 214) rfl ?_
            refine s_goto k25 at_214 (by decide) (pc' := 344) (by decide) ?_
            refine s_aload k25 at_344 rfl rfl (pc' := 346) rfl ?_
            refine s_iload k25 at_346 rfl (pc' := 348) rfl ?_
            refine s_callV k25 [.int w49] 0 at_348 (hw _ (List.mem_of_getElem? (i := 19) rfl)) (hw _ (List.mem_of_getElem? (i := 20) rfl)) (hw _ (List.mem_of_getElem? (i := 22) rfl)) (hw _ (List.mem_of_getElem? (i := 21) rfl)) (hw _ (List.mem_of_getElem? (i := 3) rfl)) (hw _ (List.mem_of_getElem? (i := 23) rfl)) (by decide) E26_b22 (rmn1 l Z a0 hw b22 b18 c18 (1 : Int32) [.int i1.toInt8.toInt32.toInt8.toInt32] (0 : Int32) (1 : Int32) w49 i1.toInt8.toInt32.toInt8.toInt32 h25 n0 Z28 G25_0 G25_1 G25_2 A27_b18 (by decide) ⟨by decide, by decide⟩ rfl) (by decide) (by decide) pd__28I_29Z rfl (Nat.le_of_eq rfl) rfl (by decide) (by decide) rfl (pc' := 351) rfl fun v30 T30 h30 L30 k30 Qv30 => ?_
            obtain ⟨rfl, rfl⟩ := Qv30
            show Go p e below P T30 (mkF m 351 #[.val (.int i0), .val (.int i1), .val (.int i2), .val (.int i3), .val (.int (0 : Int32)), .val (.int (1 : Int32)), .val (.int w17), .val (.int (i1 &&& (255 : Int32))), .val (.int w49), .val (.ref b18), .val (.ref b22), .val (.int w204), .val (.int (1 : Int32)), .unset, .unset, .unset, .unset] [.int (fx i1.toInt8.toInt32.toInt8.toInt32 w49)])
            refine s_istore k30 at_351 (l' := #[.val (.int i0), .val (.int i1), .val (.int i2), .val (.int i3), .val (.int (0 : Int32)), .val (.int (1 : Int32)), .val (.int w17), .val (.int (i1 &&& (255 : Int32))), .val (.int w49), .val (.ref b18), .val (.ref b22), .val (.int w204), .val (.int (1 : Int32)), .val (.int (fx i1.toInt8.toInt32.toInt8.toInt32 w49)), .unset, .unset, .unset]) rfl (pc' := 353) rfl ?_
            refine s_aload k30 at_353 rfl rfl (pc' := 355) rfl ?_
            refine s_iload k30 at_355 rfl (pc' := 357) rfl ?_
            refine s_callV k30 [.int w49] 0 at_357 (hw _ (List.mem_of_getElem? (i := 19) rfl)) (hw _ (List.mem_of_getElem? (i := 20) rfl)) (hw _ (List.mem_of_getElem? (i := 22) rfl)) (hw _ (List.mem_of_getElem? (i := 21) rfl)) (hw _ (List.mem_of_getElem? (i := 3) rfl)) (hw _ (List.mem_of_getElem? (i := 23) rfl)) (by decide) E26_b22 (rmn1 l Z a0 hw b22 b18 c18 (1 : Int32) [.int i1.toInt8.toInt32.toInt8.toInt32] (0 : Int32) (1 : Int32) w49 i1.toInt8.toInt32.toInt8.toInt32 h25 n0 Z28 G25_0 G25_1 G25_2 A27_b18 (by decide) ⟨by decide, by decide⟩ rfl) (by decide) (by decide) pd__28I_29Z rfl (Nat.le_of_eq rfl) rfl (by decide) (by decide) rfl (pc' := 360) rfl fun v31 T31 h31 L31 k31 Qv31 => ?_
            obtain ⟨rfl, rfl⟩ := Qv31
            show Go p e below P T31 (mkF m 360 #[.val (.int i0), .val (.int i1), .val (.int i2), .val (.int i3), .val (.int (0 : Int32)), .val (.int (1 : Int32)), .val (.int w17), .val (.int (i1 &&& (255 : Int32))), .val (.int w49), .val (.ref b18), .val (.ref b22), .val (.int w204), .val (.int (1 : Int32)), .val (.int (fx i1.toInt8.toInt32.toInt8.toInt32 w49)), .unset, .unset, .unset] [.int (fx i1.toInt8.toInt32.toInt8.toInt32 w49)])
            refine s_istore k31 at_360 (l' := #[.val (.int i0), .val (.int i1), .val (.int i2), .val (.int i3), .val (.int (0 : Int32)), .val (.int (1 : Int32)), .val (.int w17), .val (.int (i1 &&& (255 : Int32))), .val (.int w49), .val (.ref b18), .val (.ref b22), .val (.int w204), .val (.int (1 : Int32)), .val (.int (fx i1.toInt8.toInt32.toInt8.toInt32 w49)), .val (.int (fx i1.toInt8.toInt32.toInt8.toInt32 w49)), .unset, .unset]) rfl (pc' := 362) rfl ?_
            refine s_iload k31 at_362 rfl (pc' := 364) rfl ?_
            refine s_if_eq k31 at_364 (by decide) (pc' := 385) (by decide) (pc3 := 367) rfl (fun hc364 => absurd hc364 (by decide)) (fun hc364 => ?_)
            refine s_iload k31 at_367 rfl (pc' := 369) rfl ?_
            refine s_iload k31 at_369 rfl (pc' := 371) rfl ?_
            refine s_icmp_ne k31 at_371 (by decide) (pc' := 385) (by decide) (pc3 := 374) rfl (fun hc371 => ?_) (fun hc371 => absurd ((own_fx i1 w49).trans e_w204.symm) hc371)
            refine s_iload k31 at_374 rfl (pc' := 376) rfl ?_
            refine s_iload k31 at_376 rfl (pc' := 378) rfl ?_
            refine s_icmp_ne k31 at_378 (by decide) (pc' := 385) (by decide) (pc3 := 381) rfl (fun hc378 => ?_) (fun hc378 => absurd ((own_fx i1 w49).trans e_w204.symm) hc378)
            refine s_iconst k31 (z := 1) at_381 (by decide) (pc' := 382) rfl ?_
            refine s_goto k31 at_382 (by decide) (pc' := 386) (by decide) ?_
            exact s_retZ k31 at_386 rfl (by decide) hP (by decide) (by decide) rfl
          refine s_icmp_ne k25 at_204 (by decide) (pc' := 211) (by decide) (pc3 := 207) rfl (fun hc204 => ?_) (fun hc204 => ?_)
          · refine s_iconst k25 (z := 1) at_207 (by decide) (pc' := 208) rfl ?_
            refine s_goto k25 at_208 (by decide) (pc' := 212) (by decide) ?_
            exact J29 _ (by rw [if_pos hc204])
          · refine s_iconst k25 (z := 0) at_211 (by decide) (pc' := 212) rfl ?_
            exact J29 _ (by rw [if_neg hc204])
        refine s_if_eq k0 at_49 (by decide) (pc' := 57) (by decide) (pc3 := 52) rfl (fun hc49 => ?_) (fun hc49 => ?_)
        · refine s_iloadN k0 at_57 rfl (pc' := 58) rfl ?_
          exact J17 _ (by rw [if_pos hc49])
        · refine s_iload k0 at_52 rfl (pc' := 54) rfl ?_
          refine s_goto k0 at_54 (by decide) (pc' := 58) (by decide) ?_
          exact J17 _ (by rw [if_neg hc49])
      refine s_if_eq k0 at_17 (by decide) (pc' := 24) (by decide) (pc3 := 20) rfl (fun hc17 => ?_) (fun hc17 => ?_)
      · refine s_iconst k0 (z := 0) at_24 (by decide) (pc' := 25) rfl ?_
        exact J16 _ (by rw [if_pos hc17])
      · refine s_iconst k0 (z := 1) at_20 (by decide) (pc' := 21) rfl ?_
        refine s_goto k0 at_21 (by decide) (pc' := 25) (by decide) ?_
        exact J16 _ (by rw [if_neg hc17])
    · rw [hk2]
      show Go p e below P T0 (mkF m 12 #[.val (.int i0), .val (.int i1), .val (.int i2), .val (.int i3), .val (.int (0 : Int32)), .val (.int (2 : Int32)), .unset, .unset, .unset, .unset, .unset, .unset, .unset, .unset, .unset, .unset, .unset] [])
      refine s_iloadN k0 at_12 rfl (pc' := 13) rfl ?_
      refine s_iconst k0 (z := 4) at_13 (by decide) (pc' := 14) rfl ?_
      refine s_iushr k0 at_14 rfl (pc' := 15) rfl ?_
      refine s_iconst k0 (z := 1) at_15 (by decide) (pc' := 16) rfl ?_
      refine s_iand k0 at_16 rfl (pc' := 17) rfl ?_
      have J32 : ∀ (w17 : Int32) (e_w17 : w17 = (if ((Jvm.Free.XT.ushr i0 (4 : Int32)) &&& (1 : Int32)) = (0 : Int32) then (0 : Int32) else (1 : Int32))), Go p e below P T0 (mkF m 25 #[.val (.int i0), .val (.int i1), .val (.int i2), .val (.int i3), .val (.int (0 : Int32)), .val (.int (2 : Int32)), .unset, .unset, .unset, .unset, .unset, .unset, .unset, .unset, .unset, .unset, .unset] [.int w17]) := by
        intro w17 e_w17
        refine s_istore k0 at_25 (l' := #[.val (.int i0), .val (.int i1), .val (.int i2), .val (.int i3), .val (.int (0 : Int32)), .val (.int (2 : Int32)), .val (.int w17), .unset, .unset, .unset, .unset, .unset, .unset, .unset, .unset, .unset, .unset]) rfl (pc' := 27) rfl ?_
        refine s_iload k0 at_27 rfl (pc' := 29) rfl ?_
        refine s_if_ne k0 at_29 (by decide) (pc' := 40) (by decide) (pc3 := 32) rfl (fun hc29 => ?_) (fun hc29 => absurd (by decide) hc29)
        refine s_iloadN k0 at_32 rfl (pc' := 33) rfl ?_
        refine s_sipush k0 (z := 255) at_33 (by decide) (pc' := 36) rfl ?_
        refine s_iand k0 at_36 rfl (pc' := 37) rfl ?_
        refine s_goto k0 at_37 (by decide) (pc' := 45) (by decide) ?_
        refine s_istore k0 at_45 (l' := #[.val (.int i0), .val (.int i1), .val (.int i2), .val (.int i3), .val (.int (0 : Int32)), .val (.int (2 : Int32)), .val (.int w17), .val (.int (i1 &&& (255 : Int32))), .unset, .unset, .unset, .unset, .unset, .unset, .unset, .unset, .unset]) rfl (pc' := 47) rfl ?_
        refine s_iload k0 at_47 rfl (pc' := 49) rfl ?_
        have J33 : ∀ (w49 : Int32) (e_w49 : w49 = (if w17 = (0 : Int32) then i3 else (i1 &&& (255 : Int32)))), Go p e below P T0 (mkF m 58 #[.val (.int i0), .val (.int i1), .val (.int i2), .val (.int i3), .val (.int (0 : Int32)), .val (.int (2 : Int32)), .val (.int w17), .val (.int (i1 &&& (255 : Int32))), .unset, .unset, .unset, .unset, .unset, .unset, .unset, .unset, .unset] [.int w49]) := by
          intro w49 e_w49
          refine s_istore k0 at_58 (l' := #[.val (.int i0), .val (.int i1), .val (.int i2), .val (.int i3), .val (.int (0 : Int32)), .val (.int (2 : Int32)), .val (.int w17), .val (.int (i1 &&& (255 : Int32))), .val (.int w49), .unset, .unset, .unset, .unset, .unset, .unset, .unset, .unset]) rfl (pc' := 60) rfl ?_
          refine s_iload k0 at_60 rfl (pc' := 62) rfl ?_
          refine s_if_ne k0 at_62 (by decide) (pc' := 112) (by decide) (pc3 := 65) rfl (fun hc62 => ?_) (fun hc62 => absurd (by decide) hc62)
          refine s_iload k0 at_65 rfl (pc' := 67) rfl ?_
          refine s_newP k0 (cap := 2) at_67 (hw _ (List.mem_of_getElem? (i := 0) rfl)) (by decide) (by decide) (by decide) (by decide) (by decide) (pc' := 69) rfl fun T34 h34 b34 c34 q34 k34 X34 A34 => ?_
          have g_b34 : n0 ≤ b34 := Nat.le_trans Z0 (Nat.le_of_eq q34.symm)
          have Z35 := Nat.le_trans Z0 X34.1
          have A34p : Arv Z h34 b34 c34 .byte (2 : Int32) [(.int (0 : Int32)), (.int (0 : Int32))] (.int (0 : Int32)) := (show Arv Z h34 b34 c34 .byte (2 : Int32) [] (.int (0 : Int32)) from A34).pad (pad_rep [] _ 2)
          refine s_astore k34 at_69 rfl (l' := #[.val (.int i0), .val (.int i1), .val (.int i2), .val (.int i3), .val (.int (0 : Int32)), .val (.int (2 : Int32)), .val (.int w17), .val (.int (i1 &&& (255 : Int32))), .val (.int w49), .val (.ref b34), .unset, .unset, .unset, .unset, .unset, .unset, .unset]) rfl (pc' := 71) rfl ?_
          refine s_iload k34 at_71 rfl (pc' := 73) rfl ?_
          refine s_if_le k34 at_73 (by decide) (pc' := 82) (by decide) (pc3 := 76) rfl (fun hc73 => ?_) (fun hc73 => absurd (by decide) hc73)
          refine s_aload k34 at_76 rfl rfl (pc' := 78) rfl ?_
          refine s_iconst k34 (z := 0) at_78 (by decide) (pc' := 79) rfl ?_
          refine s_iloadN k34 at_79 rfl (pc' := 80) rfl ?_
          refine s_i2b k34 at_80 rfl (pc' := 81) rfl ?_
          refine s_bastore k34 at_81 A34p ⟨by decide, by decide⟩ (i := 0) rfl (Nat.le_of_ble_eq_true rfl) (y := i1.toInt8.toInt32.toInt8.toInt32) rfl g_b34 (pc' := 82) rfl fun T36 h36 L36 k36 W36 A36 => ?_
          have Z37 := Nat.le_trans Z35 (Keep.of_wr W36).1
          refine s_iload k36 at_82 rfl (pc' := 84) rfl ?_
          refine s_iconst k36 (z := 1) at_84 (by decide) (pc' := 85) rfl ?_
          refine s_icmp_le k36 at_85 (by decide) (pc' := 94) (by decide) (pc3 := 88) rfl (fun hc85 => ?_) (fun hc85 => absurd (by decide) hc85)
          refine s_aload k36 at_88 rfl rfl (pc' := 90) rfl ?_
          refine s_iconst k36 (z := 1) at_90 (by decide) (pc' := 91) rfl ?_
          refine s_iloadN k36 at_91 rfl (pc' := 92) rfl ?_
          refine s_i2b k36 at_92 rfl (pc' := 93) rfl ?_
          refine s_bastore k36 at_93 A36 ⟨by decide, by decide⟩ (i := 1) rfl (Nat.le_of_ble_eq_true rfl) (y := i2.toInt8.toInt32.toInt8.toInt32) rfl g_b34 (pc' := 94) rfl fun T38 h38 L38 k38 W38 A38 => ?_
          have Z39 := Nat.le_trans Z37 (Keep.of_wr W38).1
          refine s_iload k38 at_94 rfl (pc' := 96) rfl ?_
          refine s_iconst k38 (z := 2) at_96 (by decide) (pc' := 97) rfl ?_
          refine s_icmp_le k38 at_97 (by decide) (pc' := 176) (by decide) (pc3 := 100) rfl (fun hc97 => absurd hc97 (by decide)) (fun hc97 => ?_)
          refine s_new k38 at_176 (hw _ (List.mem_of_getElem? (i := 1) rfl)) (hw _ (List.mem_of_getElem? (i := 2) rfl)) (hw _ (List.mem_of_getElem? (i := 3) rfl)) (by decide) (by decide) (pc' := 179) rfl fun T40 h40 b40 q40 k40 X40 E40 D40 => ?_
          have ne_b34_b40 : b34 ≠ b40 := Nat.ne_of_lt (Nat.lt_of_lt_of_eq A38.lt q40.symm)
          have g_b40 : n0 ≤ b40 := Nat.le_trans Z39 (Nat.le_of_eq q40.symm)
          have A41_b34 := A38.ext X40
          have Z42 := Nat.le_trans Z39 X40.1
          have F40_b40_bytes : Fld Z h40 b40 "io/credsmith/Der" "bytes" "[B" .null := D40 (Or.inr (hw _ (List.mem_of_getElem? (i := 14) rfl))) (ty := (.array .byte)) (by decide)
          have F40_b40_at : Fld Z h40 b40 "io/credsmith/Der" "at" "I" (.int (0 : Int32)) := D40 (Or.inl (hw _ (List.mem_of_getElem? (i := 16) rfl))) (ty := .int) (by decide)
          have F40_b40_end : Fld Z h40 b40 "io/credsmith/Der" "end" "I" (.int (0 : Int32)) := D40 (Or.inr (hw _ (List.mem_of_getElem? (i := 18) rfl))) (ty := .int) (by decide)
          refine s_dup k40 at_179 rfl (pc' := 180) rfl ?_
          refine s_aload k40 at_180 rfl rfl (pc' := 182) rfl ?_
          refine s_callI k40 [.ref b34] 1 at_182 rfl (hw _ (List.mem_of_getElem? (i := 4) rfl)) (hw _ (List.mem_of_getElem? (i := 5) rfl)) (hw _ (List.mem_of_getElem? (i := 3) rfl)) (hw _ (List.mem_of_getElem? (i := 6) rfl)) (by decide) (rmi1 l Z a0 hw b40 b34 c34 (2 : Int32) [.int i1.toInt8.toInt32.toInt8.toInt32, .int i2.toInt8.toInt32.toInt8.toInt32] h40 n0 Z42 E40 F40_b40_bytes F40_b40_at F40_b40_end g_b40 A41_b34 ne_b34_b40) (by decide) (by decide) pd__28_5bB_29V rfl (Nat.le_of_eq rfl) rfl (by decide) (by decide) rfl (pc' := 185) rfl fun v43 T43 h43 L43 k43 Qv43 => ?_
          obtain ⟨rfl, Kc43, G43_0, G43_1, G43_2⟩ := Qv43
          have E44_b40 := E40.keep Kc43
          have A45_b34 := A41_b34.keep Kc43 (ninS ne_b34_b40 nin0)
          have Z46 := Nat.le_trans Z42 Kc43.1
          show Go p e below P T43 (mkF m 185 #[.val (.int i0), .val (.int i1), .val (.int i2), .val (.int i3), .val (.int (0 : Int32)), .val (.int (2 : Int32)), .val (.int w17), .val (.int (i1 &&& (255 : Int32))), .val (.int w49), .val (.ref b34), .unset, .unset, .unset, .unset, .unset, .unset, .unset] [.ref b40])
          refine s_astore k43 at_185 rfl (l' := #[.val (.int i0), .val (.int i1), .val (.int i2), .val (.int i3), .val (.int (0 : Int32)), .val (.int (2 : Int32)), .val (.int w17), .val (.int (i1 &&& (255 : Int32))), .val (.int w49), .val (.ref b34), .val (.ref b40), .unset, .unset, .unset, .unset, .unset, .unset]) rfl (pc' := 187) rfl ?_
          refine s_iconst k43 (z := 1) at_187 (by decide) (pc' := 188) rfl ?_
          refine s_istore k43 at_188 (l' := #[.val (.int i0), .val (.int i1), .val (.int i2), .val (.int i3), .val (.int (0 : Int32)), .val (.int (2 : Int32)), .val (.int w17), .val (.int (i1 &&& (255 : Int32))), .val (.int w49), .val (.ref b34), .val (.ref b40), .unset, .val (.int (1 : Int32)), .unset, .unset, .unset, .unset]) rfl (pc' := 190) rfl ?_
          refine s_iload k43 at_190 rfl (pc' := 192) rfl ?_
          refine s_if_ne k43 at_192 (by decide) (pc' := 217) (by decide) (pc3 := 195) rfl (fun hc192 => ?_) (fun hc192 => absurd (by decide) hc192)
          refine s_iload k43 at_195 rfl (pc' := 197) rfl ?_
          refine s_if_le k43 at_197 (by decide) (pc' := 211) (by decide) (pc3 := 200) rfl (fun hc197 => ?_) (fun hc197 => absurd (by decide) hc197)
          refine s_iload k43 at_200 rfl (pc' := 202) rfl ?_
          refine s_iload k43 at_202 rfl (pc' := 204) rfl ?_
          have J47 : ∀ (w204 : Int32) (e_w204 : w204 = (if (i1 &&& (255 : Int32)) = w49 then (1 : Int32) else (0 : Int32))), Go p e below P T43 (mkF m 212 #[.val (.int i0), .val (.int i1), .val (.int i2), .val (.int i3), .val (.int (0 : Int32)), .val (.int (2 : Int32)), .val (.int w17), .val (.int (i1 &&& (255 : Int32))), .val (.int w49), .val (.ref b34), .val (.ref b40), .unset, .val (.int (1 : Int32)), .unset, .unset, .unset, .unset] [.int w204]) := by
            intro w204 e_w204
            refine s_istore k43 at_212 (l' := #[.val (.int i0), .val (.int i1), .val (.int i2), .val (.int i3), .val (.int (0 : Int32)), .val (.int (2 : Int32)), .val (.int w17), .val (.int (i1 &&& (255 : Int32))), .val (.int w49), .val (.ref b34), .val (.ref b40), .val (.int w204), .val (.int (1 : Int32)), .unset, .unset, .unset, .unset]) rfl (pc' := 214) rfl ?_
            refine s_goto k43 at_214 (by decide) (pc' := 344) (by decide) ?_
            refine s_aload k43 at_344 rfl rfl (pc' := 346) rfl ?_
            refine s_iload k43 at_346 rfl (pc' := 348) rfl ?_
            refine s_callV k43 [.int w49] 0 at_348 (hw _ (List.mem_of_getElem? (i := 19) rfl)) (hw _ (List.mem_of_getElem? (i := 20) rfl)) (hw _ (List.mem_of_getElem? (i := 22) rfl)) (hw _ (List.mem_of_getElem? (i := 21) rfl)) (hw _ (List.mem_of_getElem? (i := 3) rfl)) (hw _ (List.mem_of_getElem? (i := 23) rfl)) (by decide) E44_b40 (rmn1 l Z a0 hw b40 b34 c34 (2 : Int32) [.int i1.toInt8.toInt32.toInt8.toInt32, .int i2.toInt8.toInt32.toInt8.toInt32] (0 : Int32) (2 : Int32) w49 i1.toInt8.toInt32.toInt8.toInt32 h43 n0 Z46 G43_0 G43_1 G43_2 A45_b34 (by decide) ⟨by decide, by decide⟩ rfl) (by decide) (by decide) pd__28I_29Z rfl (Nat.le_of_eq rfl) rfl (by decide) (by decide) rfl (pc' := 351) rfl fun v48 T48 h48 L48 k48 Qv48 => ?_
            obtain ⟨rfl, rfl⟩ := Qv48
            show Go p e below P T48 (mkF m 351 #[.val (.int i0), .val (.int i1), .val (.int i2), .val (.int i3), .val (.int (0 : Int32)), .val (.int (2 : Int32)), .val (.int w17), .val (.int (i1 &&& (255 : Int32))), .val (.int w49), .val (.ref b34), .val (.ref b40), .val (.int w204), .val (.int (1 : Int32)), .unset, .unset, .unset, .unset] [.int (fx i1.toInt8.toInt32.toInt8.toInt32 w49)])
            refine s_istore k48 at_351 (l' := #[.val (.int i0), .val (.int i1), .val (.int i2), .val (.int i3), .val (.int (0 : Int32)), .val (.int (2 : Int32)), .val (.int w17), .val (.int (i1 &&& (255 : Int32))), .val (.int w49), .val (.ref b34), .val (.ref b40), .val (.int w204), .val (.int (1 : Int32)), .val (.int (fx i1.toInt8.toInt32.toInt8.toInt32 w49)), .unset, .unset, .unset]) rfl (pc' := 353) rfl ?_
            refine s_aload k48 at_353 rfl rfl (pc' := 355) rfl ?_
            refine s_iload k48 at_355 rfl (pc' := 357) rfl ?_
            refine s_callV k48 [.int w49] 0 at_357 (hw _ (List.mem_of_getElem? (i := 19) rfl)) (hw _ (List.mem_of_getElem? (i := 20) rfl)) (hw _ (List.mem_of_getElem? (i := 22) rfl)) (hw _ (List.mem_of_getElem? (i := 21) rfl)) (hw _ (List.mem_of_getElem? (i := 3) rfl)) (hw _ (List.mem_of_getElem? (i := 23) rfl)) (by decide) E44_b40 (rmn1 l Z a0 hw b40 b34 c34 (2 : Int32) [.int i1.toInt8.toInt32.toInt8.toInt32, .int i2.toInt8.toInt32.toInt8.toInt32] (0 : Int32) (2 : Int32) w49 i1.toInt8.toInt32.toInt8.toInt32 h43 n0 Z46 G43_0 G43_1 G43_2 A45_b34 (by decide) ⟨by decide, by decide⟩ rfl) (by decide) (by decide) pd__28I_29Z rfl (Nat.le_of_eq rfl) rfl (by decide) (by decide) rfl (pc' := 360) rfl fun v49 T49 h49 L49 k49 Qv49 => ?_
            obtain ⟨rfl, rfl⟩ := Qv49
            show Go p e below P T49 (mkF m 360 #[.val (.int i0), .val (.int i1), .val (.int i2), .val (.int i3), .val (.int (0 : Int32)), .val (.int (2 : Int32)), .val (.int w17), .val (.int (i1 &&& (255 : Int32))), .val (.int w49), .val (.ref b34), .val (.ref b40), .val (.int w204), .val (.int (1 : Int32)), .val (.int (fx i1.toInt8.toInt32.toInt8.toInt32 w49)), .unset, .unset, .unset] [.int (fx i1.toInt8.toInt32.toInt8.toInt32 w49)])
            refine s_istore k49 at_360 (l' := #[.val (.int i0), .val (.int i1), .val (.int i2), .val (.int i3), .val (.int (0 : Int32)), .val (.int (2 : Int32)), .val (.int w17), .val (.int (i1 &&& (255 : Int32))), .val (.int w49), .val (.ref b34), .val (.ref b40), .val (.int w204), .val (.int (1 : Int32)), .val (.int (fx i1.toInt8.toInt32.toInt8.toInt32 w49)), .val (.int (fx i1.toInt8.toInt32.toInt8.toInt32 w49)), .unset, .unset]) rfl (pc' := 362) rfl ?_
            refine s_iload k49 at_362 rfl (pc' := 364) rfl ?_
            refine s_if_eq k49 at_364 (by decide) (pc' := 385) (by decide) (pc3 := 367) rfl (fun hc364 => absurd hc364 (by decide)) (fun hc364 => ?_)
            refine s_iload k49 at_367 rfl (pc' := 369) rfl ?_
            refine s_iload k49 at_369 rfl (pc' := 371) rfl ?_
            refine s_icmp_ne k49 at_371 (by decide) (pc' := 385) (by decide) (pc3 := 374) rfl (fun hc371 => ?_) (fun hc371 => absurd ((own_fx i1 w49).trans e_w204.symm) hc371)
            refine s_iload k49 at_374 rfl (pc' := 376) rfl ?_
            refine s_iload k49 at_376 rfl (pc' := 378) rfl ?_
            refine s_icmp_ne k49 at_378 (by decide) (pc' := 385) (by decide) (pc3 := 381) rfl (fun hc378 => ?_) (fun hc378 => absurd ((own_fx i1 w49).trans e_w204.symm) hc378)
            refine s_iconst k49 (z := 1) at_381 (by decide) (pc' := 382) rfl ?_
            refine s_goto k49 at_382 (by decide) (pc' := 386) (by decide) ?_
            exact s_retZ k49 at_386 rfl (by decide) hP (by decide) (by decide) rfl
          refine s_icmp_ne k43 at_204 (by decide) (pc' := 211) (by decide) (pc3 := 207) rfl (fun hc204 => ?_) (fun hc204 => ?_)
          · refine s_iconst k43 (z := 1) at_207 (by decide) (pc' := 208) rfl ?_
            refine s_goto k43 at_208 (by decide) (pc' := 212) (by decide) ?_
            exact J47 _ (by rw [if_pos hc204])
          · refine s_iconst k43 (z := 0) at_211 (by decide) (pc' := 212) rfl ?_
            exact J47 _ (by rw [if_neg hc204])
        refine s_if_eq k0 at_49 (by decide) (pc' := 57) (by decide) (pc3 := 52) rfl (fun hc49 => ?_) (fun hc49 => ?_)
        · refine s_iloadN k0 at_57 rfl (pc' := 58) rfl ?_
          exact J33 _ (by rw [if_pos hc49])
        · refine s_iload k0 at_52 rfl (pc' := 54) rfl ?_
          refine s_goto k0 at_54 (by decide) (pc' := 58) (by decide) ?_
          exact J33 _ (by rw [if_neg hc49])
      refine s_if_eq k0 at_17 (by decide) (pc' := 24) (by decide) (pc3 := 20) rfl (fun hc17 => ?_) (fun hc17 => ?_)
      · refine s_iconst k0 (z := 0) at_24 (by decide) (pc' := 25) rfl ?_
        exact J32 _ (by rw [if_pos hc17])
      · refine s_iconst k0 (z := 1) at_20 (by decide) (pc' := 21) rfl ?_
        refine s_goto k0 at_21 (by decide) (pc' := 25) (by decide) ?_
        exact J32 _ (by rw [if_neg hc17])
    · rw [hk2]
      show Go p e below P T0 (mkF m 12 #[.val (.int i0), .val (.int i1), .val (.int i2), .val (.int i3), .val (.int (0 : Int32)), .val (.int (3 : Int32)), .unset, .unset, .unset, .unset, .unset, .unset, .unset, .unset, .unset, .unset, .unset] [])
      refine s_iloadN k0 at_12 rfl (pc' := 13) rfl ?_
      refine s_iconst k0 (z := 4) at_13 (by decide) (pc' := 14) rfl ?_
      refine s_iushr k0 at_14 rfl (pc' := 15) rfl ?_
      refine s_iconst k0 (z := 1) at_15 (by decide) (pc' := 16) rfl ?_
      refine s_iand k0 at_16 rfl (pc' := 17) rfl ?_
      have J50 : ∀ (w17 : Int32) (e_w17 : w17 = (if ((Jvm.Free.XT.ushr i0 (4 : Int32)) &&& (1 : Int32)) = (0 : Int32) then (0 : Int32) else (1 : Int32))), Go p e below P T0 (mkF m 25 #[.val (.int i0), .val (.int i1), .val (.int i2), .val (.int i3), .val (.int (0 : Int32)), .val (.int (3 : Int32)), .unset, .unset, .unset, .unset, .unset, .unset, .unset, .unset, .unset, .unset, .unset] [.int w17]) := by
        intro w17 e_w17
        refine s_istore k0 at_25 (l' := #[.val (.int i0), .val (.int i1), .val (.int i2), .val (.int i3), .val (.int (0 : Int32)), .val (.int (3 : Int32)), .val (.int w17), .unset, .unset, .unset, .unset, .unset, .unset, .unset, .unset, .unset, .unset]) rfl (pc' := 27) rfl ?_
        refine s_iload k0 at_27 rfl (pc' := 29) rfl ?_
        refine s_if_ne k0 at_29 (by decide) (pc' := 40) (by decide) (pc3 := 32) rfl (fun hc29 => ?_) (fun hc29 => absurd (by decide) hc29)
        refine s_iloadN k0 at_32 rfl (pc' := 33) rfl ?_
        refine s_sipush k0 (z := 255) at_33 (by decide) (pc' := 36) rfl ?_
        refine s_iand k0 at_36 rfl (pc' := 37) rfl ?_
        refine s_goto k0 at_37 (by decide) (pc' := 45) (by decide) ?_
        refine s_istore k0 at_45 (l' := #[.val (.int i0), .val (.int i1), .val (.int i2), .val (.int i3), .val (.int (0 : Int32)), .val (.int (3 : Int32)), .val (.int w17), .val (.int (i1 &&& (255 : Int32))), .unset, .unset, .unset, .unset, .unset, .unset, .unset, .unset, .unset]) rfl (pc' := 47) rfl ?_
        refine s_iload k0 at_47 rfl (pc' := 49) rfl ?_
        have J51 : ∀ (w49 : Int32) (e_w49 : w49 = (if w17 = (0 : Int32) then i3 else (i1 &&& (255 : Int32)))), Go p e below P T0 (mkF m 58 #[.val (.int i0), .val (.int i1), .val (.int i2), .val (.int i3), .val (.int (0 : Int32)), .val (.int (3 : Int32)), .val (.int w17), .val (.int (i1 &&& (255 : Int32))), .unset, .unset, .unset, .unset, .unset, .unset, .unset, .unset, .unset] [.int w49]) := by
          intro w49 e_w49
          refine s_istore k0 at_58 (l' := #[.val (.int i0), .val (.int i1), .val (.int i2), .val (.int i3), .val (.int (0 : Int32)), .val (.int (3 : Int32)), .val (.int w17), .val (.int (i1 &&& (255 : Int32))), .val (.int w49), .unset, .unset, .unset, .unset, .unset, .unset, .unset, .unset]) rfl (pc' := 60) rfl ?_
          refine s_iload k0 at_60 rfl (pc' := 62) rfl ?_
          refine s_if_ne k0 at_62 (by decide) (pc' := 112) (by decide) (pc3 := 65) rfl (fun hc62 => ?_) (fun hc62 => absurd (by decide) hc62)
          refine s_iload k0 at_65 rfl (pc' := 67) rfl ?_
          refine s_newP k0 (cap := 3) at_67 (hw _ (List.mem_of_getElem? (i := 0) rfl)) (by decide) (by decide) (by decide) (by decide) (by decide) (pc' := 69) rfl fun T52 h52 b52 c52 q52 k52 X52 A52 => ?_
          have g_b52 : n0 ≤ b52 := Nat.le_trans Z0 (Nat.le_of_eq q52.symm)
          have Z53 := Nat.le_trans Z0 X52.1
          have A52p : Arv Z h52 b52 c52 .byte (3 : Int32) [(.int (0 : Int32)), (.int (0 : Int32)), (.int (0 : Int32))] (.int (0 : Int32)) := (show Arv Z h52 b52 c52 .byte (3 : Int32) [] (.int (0 : Int32)) from A52).pad (pad_rep [] _ 3)
          refine s_astore k52 at_69 rfl (l' := #[.val (.int i0), .val (.int i1), .val (.int i2), .val (.int i3), .val (.int (0 : Int32)), .val (.int (3 : Int32)), .val (.int w17), .val (.int (i1 &&& (255 : Int32))), .val (.int w49), .val (.ref b52), .unset, .unset, .unset, .unset, .unset, .unset, .unset]) rfl (pc' := 71) rfl ?_
          refine s_iload k52 at_71 rfl (pc' := 73) rfl ?_
          refine s_if_le k52 at_73 (by decide) (pc' := 82) (by decide) (pc3 := 76) rfl (fun hc73 => ?_) (fun hc73 => absurd (by decide) hc73)
          refine s_aload k52 at_76 rfl rfl (pc' := 78) rfl ?_
          refine s_iconst k52 (z := 0) at_78 (by decide) (pc' := 79) rfl ?_
          refine s_iloadN k52 at_79 rfl (pc' := 80) rfl ?_
          refine s_i2b k52 at_80 rfl (pc' := 81) rfl ?_
          refine s_bastore k52 at_81 A52p ⟨by decide, by decide⟩ (i := 0) rfl (Nat.le_of_ble_eq_true rfl) (y := i1.toInt8.toInt32.toInt8.toInt32) rfl g_b52 (pc' := 82) rfl fun T54 h54 L54 k54 W54 A54 => ?_
          have Z55 := Nat.le_trans Z53 (Keep.of_wr W54).1
          refine s_iload k54 at_82 rfl (pc' := 84) rfl ?_
          refine s_iconst k54 (z := 1) at_84 (by decide) (pc' := 85) rfl ?_
          refine s_icmp_le k54 at_85 (by decide) (pc' := 94) (by decide) (pc3 := 88) rfl (fun hc85 => ?_) (fun hc85 => absurd (by decide) hc85)
          refine s_aload k54 at_88 rfl rfl (pc' := 90) rfl ?_
          refine s_iconst k54 (z := 1) at_90 (by decide) (pc' := 91) rfl ?_
          refine s_iloadN k54 at_91 rfl (pc' := 92) rfl ?_
          refine s_i2b k54 at_92 rfl (pc' := 93) rfl ?_
          refine s_bastore k54 at_93 A54 ⟨by decide, by decide⟩ (i := 1) rfl (Nat.le_of_ble_eq_true rfl) (y := i2.toInt8.toInt32.toInt8.toInt32) rfl g_b52 (pc' := 94) rfl fun T56 h56 L56 k56 W56 A56 => ?_
          have Z57 := Nat.le_trans Z55 (Keep.of_wr W56).1
          refine s_iload k56 at_94 rfl (pc' := 96) rfl ?_
          refine s_iconst k56 (z := 2) at_96 (by decide) (pc' := 97) rfl ?_
          refine s_icmp_le k56 at_97 (by decide) (pc' := 176) (by decide) (pc3 := 100) rfl (fun hc97 => ?_) (fun hc97 => absurd (by decide) hc97)
          refine s_aload k56 at_100 rfl rfl (pc' := 102) rfl ?_
          refine s_iconst k56 (z := 2) at_102 (by decide) (pc' := 103) rfl ?_
          refine s_iloadN k56 at_103 rfl (pc' := 104) rfl ?_
          refine s_bipush k56 (z := 8) at_104 (by decide) (pc' := 106) rfl ?_
          refine s_iushr k56 at_106 rfl (pc' := 107) rfl ?_
          refine s_i2b k56 at_107 rfl (pc' := 108) rfl ?_
          refine s_bastore k56 at_108 A56 ⟨by decide, by decide⟩ (i := 2) rfl (Nat.le_of_ble_eq_true rfl) (y := (Jvm.Free.XT.ushr i1 (8 : Int32)).toInt8.toInt32.toInt8.toInt32) rfl g_b52 (pc' := 109) rfl fun T58 h58 L58 k58 W58 A58 => ?_
          have Z59 := Nat.le_trans Z57 (Keep.of_wr W58).1
          refine s_goto k58 at_109 (by decide) (pc' := 176) (by decide) ?_
          refine s_new k58 at_176 (hw _ (List.mem_of_getElem? (i := 1) rfl)) (hw _ (List.mem_of_getElem? (i := 2) rfl)) (hw _ (List.mem_of_getElem? (i := 3) rfl)) (by decide) (by decide) (pc' := 179) rfl fun T60 h60 b60 q60 k60 X60 E60 D60 => ?_
          have ne_b52_b60 : b52 ≠ b60 := Nat.ne_of_lt (Nat.lt_of_lt_of_eq A58.lt q60.symm)
          have g_b60 : n0 ≤ b60 := Nat.le_trans Z59 (Nat.le_of_eq q60.symm)
          have A61_b52 := A58.ext X60
          have Z62 := Nat.le_trans Z59 X60.1
          have F60_b60_bytes : Fld Z h60 b60 "io/credsmith/Der" "bytes" "[B" .null := D60 (Or.inr (hw _ (List.mem_of_getElem? (i := 14) rfl))) (ty := (.array .byte)) (by decide)
          have F60_b60_at : Fld Z h60 b60 "io/credsmith/Der" "at" "I" (.int (0 : Int32)) := D60 (Or.inl (hw _ (List.mem_of_getElem? (i := 16) rfl))) (ty := .int) (by decide)
          have F60_b60_end : Fld Z h60 b60 "io/credsmith/Der" "end" "I" (.int (0 : Int32)) := D60 (Or.inr (hw _ (List.mem_of_getElem? (i := 18) rfl))) (ty := .int) (by decide)
          refine s_dup k60 at_179 rfl (pc' := 180) rfl ?_
          refine s_aload k60 at_180 rfl rfl (pc' := 182) rfl ?_
          refine s_callI k60 [.ref b52] 1 at_182 rfl (hw _ (List.mem_of_getElem? (i := 4) rfl)) (hw _ (List.mem_of_getElem? (i := 5) rfl)) (hw _ (List.mem_of_getElem? (i := 3) rfl)) (hw _ (List.mem_of_getElem? (i := 6) rfl)) (by decide) (rmi1 l Z a0 hw b60 b52 c52 (3 : Int32) [.int i1.toInt8.toInt32.toInt8.toInt32, .int i2.toInt8.toInt32.toInt8.toInt32, .int (Jvm.Free.XT.ushr i1 (8 : Int32)).toInt8.toInt32.toInt8.toInt32] h60 n0 Z62 E60 F60_b60_bytes F60_b60_at F60_b60_end g_b60 A61_b52 ne_b52_b60) (by decide) (by decide) pd__28_5bB_29V rfl (Nat.le_of_eq rfl) rfl (by decide) (by decide) rfl (pc' := 185) rfl fun v63 T63 h63 L63 k63 Qv63 => ?_
          obtain ⟨rfl, Kc63, G63_0, G63_1, G63_2⟩ := Qv63
          have E64_b60 := E60.keep Kc63
          have A65_b52 := A61_b52.keep Kc63 (ninS ne_b52_b60 nin0)
          have Z66 := Nat.le_trans Z62 Kc63.1
          show Go p e below P T63 (mkF m 185 #[.val (.int i0), .val (.int i1), .val (.int i2), .val (.int i3), .val (.int (0 : Int32)), .val (.int (3 : Int32)), .val (.int w17), .val (.int (i1 &&& (255 : Int32))), .val (.int w49), .val (.ref b52), .unset, .unset, .unset, .unset, .unset, .unset, .unset] [.ref b60])
          refine s_astore k63 at_185 rfl (l' := #[.val (.int i0), .val (.int i1), .val (.int i2), .val (.int i3), .val (.int (0 : Int32)), .val (.int (3 : Int32)), .val (.int w17), .val (.int (i1 &&& (255 : Int32))), .val (.int w49), .val (.ref b52), .val (.ref b60), .unset, .unset, .unset, .unset, .unset, .unset]) rfl (pc' := 187) rfl ?_
          refine s_iconst k63 (z := 1) at_187 (by decide) (pc' := 188) rfl ?_
          refine s_istore k63 at_188 (l' := #[.val (.int i0), .val (.int i1), .val (.int i2), .val (.int i3), .val (.int (0 : Int32)), .val (.int (3 : Int32)), .val (.int w17), .val (.int (i1 &&& (255 : Int32))), .val (.int w49), .val (.ref b52), .val (.ref b60), .unset, .val (.int (1 : Int32)), .unset, .unset, .unset, .unset]) rfl (pc' := 190) rfl ?_
          refine s_iload k63 at_190 rfl (pc' := 192) rfl ?_
          refine s_if_ne k63 at_192 (by decide) (pc' := 217) (by decide) (pc3 := 195) rfl (fun hc192 => ?_) (fun hc192 => absurd (by decide) hc192)
          refine s_iload k63 at_195 rfl (pc' := 197) rfl ?_
          refine s_if_le k63 at_197 (by decide) (pc' := 211) (by decide) (pc3 := 200) rfl (fun hc197 => ?_) (fun hc197 => absurd (by decide) hc197)
          refine s_iload k63 at_200 rfl (pc' := 202) rfl ?_
          refine s_iload k63 at_202 rfl (pc' := 204) rfl ?_
          have J67 : ∀ (w204 : Int32) (e_w204 : w204 = (if (i1 &&& (255 : Int32)) = w49 then (1 : Int32) else (0 : Int32))), Go p e below P T63 (mkF m 212 #[.val (.int i0), .val (.int i1), .val (.int i2), .val (.int i3), .val (.int (0 : Int32)), .val (.int (3 : Int32)), .val (.int w17), .val (.int (i1 &&& (255 : Int32))), .val (.int w49), .val (.ref b52), .val (.ref b60), .unset, .val (.int (1 : Int32)), .unset, .unset, .unset, .unset] [.int w204]) := by
            intro w204 e_w204
            refine s_istore k63 at_212 (l' := #[.val (.int i0), .val (.int i1), .val (.int i2), .val (.int i3), .val (.int (0 : Int32)), .val (.int (3 : Int32)), .val (.int w17), .val (.int (i1 &&& (255 : Int32))), .val (.int w49), .val (.ref b52), .val (.ref b60), .val (.int w204), .val (.int (1 : Int32)), .unset, .unset, .unset, .unset]) rfl (pc' := 214) rfl ?_
            refine s_goto k63 at_214 (by decide) (pc' := 344) (by decide) ?_
            refine s_aload k63 at_344 rfl rfl (pc' := 346) rfl ?_
            refine s_iload k63 at_346 rfl (pc' := 348) rfl ?_
            refine s_callV k63 [.int w49] 0 at_348 (hw _ (List.mem_of_getElem? (i := 19) rfl)) (hw _ (List.mem_of_getElem? (i := 20) rfl)) (hw _ (List.mem_of_getElem? (i := 22) rfl)) (hw _ (List.mem_of_getElem? (i := 21) rfl)) (hw _ (List.mem_of_getElem? (i := 3) rfl)) (hw _ (List.mem_of_getElem? (i := 23) rfl)) (by decide) E64_b60 (rmn1 l Z a0 hw b60 b52 c52 (3 : Int32) [.int i1.toInt8.toInt32.toInt8.toInt32, .int i2.toInt8.toInt32.toInt8.toInt32, .int (Jvm.Free.XT.ushr i1 (8 : Int32)).toInt8.toInt32.toInt8.toInt32] (0 : Int32) (3 : Int32) w49 i1.toInt8.toInt32.toInt8.toInt32 h63 n0 Z66 G63_0 G63_1 G63_2 A65_b52 (by decide) ⟨by decide, by decide⟩ rfl) (by decide) (by decide) pd__28I_29Z rfl (Nat.le_of_eq rfl) rfl (by decide) (by decide) rfl (pc' := 351) rfl fun v68 T68 h68 L68 k68 Qv68 => ?_
            obtain ⟨rfl, rfl⟩ := Qv68
            show Go p e below P T68 (mkF m 351 #[.val (.int i0), .val (.int i1), .val (.int i2), .val (.int i3), .val (.int (0 : Int32)), .val (.int (3 : Int32)), .val (.int w17), .val (.int (i1 &&& (255 : Int32))), .val (.int w49), .val (.ref b52), .val (.ref b60), .val (.int w204), .val (.int (1 : Int32)), .unset, .unset, .unset, .unset] [.int (fx i1.toInt8.toInt32.toInt8.toInt32 w49)])
            refine s_istore k68 at_351 (l' := #[.val (.int i0), .val (.int i1), .val (.int i2), .val (.int i3), .val (.int (0 : Int32)), .val (.int (3 : Int32)), .val (.int w17), .val (.int (i1 &&& (255 : Int32))), .val (.int w49), .val (.ref b52), .val (.ref b60), .val (.int w204), .val (.int (1 : Int32)), .val (.int (fx i1.toInt8.toInt32.toInt8.toInt32 w49)), .unset, .unset, .unset]) rfl (pc' := 353) rfl ?_
            refine s_aload k68 at_353 rfl rfl (pc' := 355) rfl ?_
            refine s_iload k68 at_355 rfl (pc' := 357) rfl ?_
            refine s_callV k68 [.int w49] 0 at_357 (hw _ (List.mem_of_getElem? (i := 19) rfl)) (hw _ (List.mem_of_getElem? (i := 20) rfl)) (hw _ (List.mem_of_getElem? (i := 22) rfl)) (hw _ (List.mem_of_getElem? (i := 21) rfl)) (hw _ (List.mem_of_getElem? (i := 3) rfl)) (hw _ (List.mem_of_getElem? (i := 23) rfl)) (by decide) E64_b60 (rmn1 l Z a0 hw b60 b52 c52 (3 : Int32) [.int i1.toInt8.toInt32.toInt8.toInt32, .int i2.toInt8.toInt32.toInt8.toInt32, .int (Jvm.Free.XT.ushr i1 (8 : Int32)).toInt8.toInt32.toInt8.toInt32] (0 : Int32) (3 : Int32) w49 i1.toInt8.toInt32.toInt8.toInt32 h63 n0 Z66 G63_0 G63_1 G63_2 A65_b52 (by decide) ⟨by decide, by decide⟩ rfl) (by decide) (by decide) pd__28I_29Z rfl (Nat.le_of_eq rfl) rfl (by decide) (by decide) rfl (pc' := 360) rfl fun v69 T69 h69 L69 k69 Qv69 => ?_
            obtain ⟨rfl, rfl⟩ := Qv69
            show Go p e below P T69 (mkF m 360 #[.val (.int i0), .val (.int i1), .val (.int i2), .val (.int i3), .val (.int (0 : Int32)), .val (.int (3 : Int32)), .val (.int w17), .val (.int (i1 &&& (255 : Int32))), .val (.int w49), .val (.ref b52), .val (.ref b60), .val (.int w204), .val (.int (1 : Int32)), .val (.int (fx i1.toInt8.toInt32.toInt8.toInt32 w49)), .unset, .unset, .unset] [.int (fx i1.toInt8.toInt32.toInt8.toInt32 w49)])
            refine s_istore k69 at_360 (l' := #[.val (.int i0), .val (.int i1), .val (.int i2), .val (.int i3), .val (.int (0 : Int32)), .val (.int (3 : Int32)), .val (.int w17), .val (.int (i1 &&& (255 : Int32))), .val (.int w49), .val (.ref b52), .val (.ref b60), .val (.int w204), .val (.int (1 : Int32)), .val (.int (fx i1.toInt8.toInt32.toInt8.toInt32 w49)), .val (.int (fx i1.toInt8.toInt32.toInt8.toInt32 w49)), .unset, .unset]) rfl (pc' := 362) rfl ?_
            refine s_iload k69 at_362 rfl (pc' := 364) rfl ?_
            refine s_if_eq k69 at_364 (by decide) (pc' := 385) (by decide) (pc3 := 367) rfl (fun hc364 => absurd hc364 (by decide)) (fun hc364 => ?_)
            refine s_iload k69 at_367 rfl (pc' := 369) rfl ?_
            refine s_iload k69 at_369 rfl (pc' := 371) rfl ?_
            refine s_icmp_ne k69 at_371 (by decide) (pc' := 385) (by decide) (pc3 := 374) rfl (fun hc371 => ?_) (fun hc371 => absurd ((own_fx i1 w49).trans e_w204.symm) hc371)
            refine s_iload k69 at_374 rfl (pc' := 376) rfl ?_
            refine s_iload k69 at_376 rfl (pc' := 378) rfl ?_
            refine s_icmp_ne k69 at_378 (by decide) (pc' := 385) (by decide) (pc3 := 381) rfl (fun hc378 => ?_) (fun hc378 => absurd ((own_fx i1 w49).trans e_w204.symm) hc378)
            refine s_iconst k69 (z := 1) at_381 (by decide) (pc' := 382) rfl ?_
            refine s_goto k69 at_382 (by decide) (pc' := 386) (by decide) ?_
            exact s_retZ k69 at_386 rfl (by decide) hP (by decide) (by decide) rfl
          refine s_icmp_ne k63 at_204 (by decide) (pc' := 211) (by decide) (pc3 := 207) rfl (fun hc204 => ?_) (fun hc204 => ?_)
          · refine s_iconst k63 (z := 1) at_207 (by decide) (pc' := 208) rfl ?_
            refine s_goto k63 at_208 (by decide) (pc' := 212) (by decide) ?_
            exact J67 _ (by rw [if_pos hc204])
          · refine s_iconst k63 (z := 0) at_211 (by decide) (pc' := 212) rfl ?_
            exact J67 _ (by rw [if_neg hc204])
        refine s_if_eq k0 at_49 (by decide) (pc' := 57) (by decide) (pc3 := 52) rfl (fun hc49 => ?_) (fun hc49 => ?_)
        · refine s_iloadN k0 at_57 rfl (pc' := 58) rfl ?_
          exact J51 _ (by rw [if_pos hc49])
        · refine s_iload k0 at_52 rfl (pc' := 54) rfl ?_
          refine s_goto k0 at_54 (by decide) (pc' := 58) (by decide) ?_
          exact J51 _ (by rw [if_neg hc49])
      refine s_if_eq k0 at_17 (by decide) (pc' := 24) (by decide) (pc3 := 20) rfl (fun hc17 => ?_) (fun hc17 => ?_)
      · refine s_iconst k0 (z := 0) at_24 (by decide) (pc' := 25) rfl ?_
        exact J50 _ (by rw [if_pos hc17])
      · refine s_iconst k0 (z := 1) at_20 (by decide) (pc' := 21) rfl ?_
        refine s_goto k0 at_21 (by decide) (pc' := 25) (by decide) ?_
        exact J50 _ (by rw [if_neg hc17])
  · rw [hk1]
    show Go p e below P T0 (mkF m 12 #[.val (.int i0), .val (.int i1), .val (.int i2), .val (.int i3), .val (.int (1 : Int32)), .val (.int ((Jvm.Free.XT.ushr i0 (2 : Int32)) &&& (3 : Int32))), .unset, .unset, .unset, .unset, .unset, .unset, .unset, .unset, .unset, .unset, .unset] [])
    rcases own_four (Jvm.Free.XT.ushr i0 (2 : Int32)) with hk70 | hk70 | hk70 | hk70
    · rw [hk70]
      show Go p e below P T0 (mkF m 12 #[.val (.int i0), .val (.int i1), .val (.int i2), .val (.int i3), .val (.int (1 : Int32)), .val (.int (0 : Int32)), .unset, .unset, .unset, .unset, .unset, .unset, .unset, .unset, .unset, .unset, .unset] [])
      refine s_iloadN k0 at_12 rfl (pc' := 13) rfl ?_
      refine s_iconst k0 (z := 4) at_13 (by decide) (pc' := 14) rfl ?_
      refine s_iushr k0 at_14 rfl (pc' := 15) rfl ?_
      refine s_iconst k0 (z := 1) at_15 (by decide) (pc' := 16) rfl ?_
      refine s_iand k0 at_16 rfl (pc' := 17) rfl ?_
      have J71 : ∀ (w17 : Int32) (e_w17 : w17 = (if ((Jvm.Free.XT.ushr i0 (4 : Int32)) &&& (1 : Int32)) = (0 : Int32) then (0 : Int32) else (1 : Int32))), Go p e below P T0 (mkF m 25 #[.val (.int i0), .val (.int i1), .val (.int i2), .val (.int i3), .val (.int (1 : Int32)), .val (.int (0 : Int32)), .unset, .unset, .unset, .unset, .unset, .unset, .unset, .unset, .unset, .unset, .unset] [.int w17]) := by
        intro w17 e_w17
        refine s_istore k0 at_25 (l' := #[.val (.int i0), .val (.int i1), .val (.int i2), .val (.int i3), .val (.int (1 : Int32)), .val (.int (0 : Int32)), .val (.int w17), .unset, .unset, .unset, .unset, .unset, .unset, .unset, .unset, .unset, .unset]) rfl (pc' := 27) rfl ?_
        refine s_iload k0 at_27 rfl (pc' := 29) rfl ?_
        refine s_if_ne k0 at_29 (by decide) (pc' := 40) (by decide) (pc3 := 32) rfl (fun hc29 => absurd hc29 (by decide)) (fun hc29 => ?_)
        refine s_iloadN k0 at_40 rfl (pc' := 41) rfl ?_
        refine s_sipush k0 (z := 255) at_41 (by decide) (pc' := 44) rfl ?_
        refine s_iand k0 at_44 rfl (pc' := 45) rfl ?_
        refine s_istore k0 at_45 (l' := #[.val (.int i0), .val (.int i1), .val (.int i2), .val (.int i3), .val (.int (1 : Int32)), .val (.int (0 : Int32)), .val (.int w17), .val (.int (i2 &&& (255 : Int32))), .unset, .unset, .unset, .unset, .unset, .unset, .unset, .unset, .unset]) rfl (pc' := 47) rfl ?_
        refine s_iload k0 at_47 rfl (pc' := 49) rfl ?_
        have J72 : ∀ (w49 : Int32) (e_w49 : w49 = (if w17 = (0 : Int32) then i3 else (i2 &&& (255 : Int32)))), Go p e below P T0 (mkF m 58 #[.val (.int i0), .val (.int i1), .val (.int i2), .val (.int i3), .val (.int (1 : Int32)), .val (.int (0 : Int32)), .val (.int w17), .val (.int (i2 &&& (255 : Int32))), .unset, .unset, .unset, .unset, .unset, .unset, .unset, .unset, .unset] [.int w49]) := by
          intro w49 e_w49
          refine s_istore k0 at_58 (l' := #[.val (.int i0), .val (.int i1), .val (.int i2), .val (.int i3), .val (.int (1 : Int32)), .val (.int (0 : Int32)), .val (.int w17), .val (.int (i2 &&& (255 : Int32))), .val (.int w49), .unset, .unset, .unset, .unset, .unset, .unset, .unset, .unset]) rfl (pc' := 60) rfl ?_
          refine s_iload k0 at_60 rfl (pc' := 62) rfl ?_
          refine s_if_ne k0 at_62 (by decide) (pc' := 112) (by decide) (pc3 := 65) rfl (fun hc62 => absurd hc62 (by decide)) (fun hc62 => ?_)
          refine s_iload k0 at_112 rfl (pc' := 114) rfl ?_
          refine s_iconst k0 (z := 1) at_114 (by decide) (pc' := 115) rfl ?_
          refine s_icmp_ne k0 at_115 (by decide) (pc' := 150) (by decide) (pc3 := 118) rfl (fun hc115 => ?_) (fun hc115 => absurd (by decide) hc115)
          refine s_iconst k0 (z := 2) at_118 (by decide) (pc' := 119) rfl ?_
          refine s_iload k0 at_119 rfl (pc' := 121) rfl ?_
          refine s_iconst k0 (z := 1) at_121 (by decide) (pc' := 122) rfl ?_
          refine s_iand k0 (z := (0 : Int32)) at_122 (by decide) (pc' := 123) rfl ?_
          refine s_iadd k0 (z := (2 : Int32)) at_123 (by decide) (pc' := 124) rfl ?_
          refine s_newP k0 (cap := 2) at_124 (hw _ (List.mem_of_getElem? (i := 0) rfl)) (by decide) (by decide) (by decide) (by decide) (by decide) (pc' := 126) rfl fun T73 h73 b73 c73 q73 k73 X73 A73 => ?_
          have g_b73 : n0 ≤ b73 := Nat.le_trans Z0 (Nat.le_of_eq q73.symm)
          have Z74 := Nat.le_trans Z0 X73.1
          have A73p : Arv Z h73 b73 c73 .byte (2 : Int32) [(.int (0 : Int32)), (.int (0 : Int32))] (.int (0 : Int32)) := (show Arv Z h73 b73 c73 .byte (2 : Int32) [] (.int (0 : Int32)) from A73).pad (pad_rep [] _ 2)
          refine s_astore k73 at_126 rfl (l' := #[.val (.int i0), .val (.int i1), .val (.int i2), .val (.int i3), .val (.int (1 : Int32)), .val (.int (0 : Int32)), .val (.int w17), .val (.int (i2 &&& (255 : Int32))), .val (.int w49), .val (.ref b73), .unset, .unset, .unset, .unset, .unset, .unset, .unset]) rfl (pc' := 128) rfl ?_
          refine s_aload k73 at_128 rfl rfl (pc' := 130) rfl ?_
          refine s_iconst k73 (z := 0) at_130 (by decide) (pc' := 131) rfl ?_
          refine s_iloadN k73 at_131 rfl (pc' := 132) rfl ?_
          refine s_i2b k73 at_132 rfl (pc' := 133) rfl ?_
          refine s_bastore k73 at_133 A73p ⟨by decide, by decide⟩ (i := 0) rfl (Nat.le_of_ble_eq_true rfl) (y := i1.toInt8.toInt32.toInt8.toInt32) rfl g_b73 (pc' := 134) rfl fun T75 h75 L75 k75 W75 A75 => ?_
          have Z76 := Nat.le_trans Z74 (Keep.of_wr W75).1
          refine s_aload k75 at_134 rfl rfl (pc' := 136) rfl ?_
          refine s_len k75 at_136 A75 (pc' := 137) rfl ?_
          refine s_iconst k75 (z := 3) at_137 (by decide) (pc' := 138) rfl ?_
          refine s_icmp_ne k75 at_138 (by decide) (pc' := 176) (by decide) (pc3 := 141) rfl (fun hc138 => absurd hc138 (by decide)) (fun hc138 => ?_)
          refine s_new k75 at_176 (hw _ (List.mem_of_getElem? (i := 1) rfl)) (hw _ (List.mem_of_getElem? (i := 2) rfl)) (hw _ (List.mem_of_getElem? (i := 3) rfl)) (by decide) (by decide) (pc' := 179) rfl fun T77 h77 b77 q77 k77 X77 E77 D77 => ?_
          have ne_b73_b77 : b73 ≠ b77 := Nat.ne_of_lt (Nat.lt_of_lt_of_eq A75.lt q77.symm)
          have g_b77 : n0 ≤ b77 := Nat.le_trans Z76 (Nat.le_of_eq q77.symm)
          have A78_b73 := A75.ext X77
          have Z79 := Nat.le_trans Z76 X77.1
          have F77_b77_bytes : Fld Z h77 b77 "io/credsmith/Der" "bytes" "[B" .null := D77 (Or.inr (hw _ (List.mem_of_getElem? (i := 14) rfl))) (ty := (.array .byte)) (by decide)
          have F77_b77_at : Fld Z h77 b77 "io/credsmith/Der" "at" "I" (.int (0 : Int32)) := D77 (Or.inl (hw _ (List.mem_of_getElem? (i := 16) rfl))) (ty := .int) (by decide)
          have F77_b77_end : Fld Z h77 b77 "io/credsmith/Der" "end" "I" (.int (0 : Int32)) := D77 (Or.inr (hw _ (List.mem_of_getElem? (i := 18) rfl))) (ty := .int) (by decide)
          refine s_dup k77 at_179 rfl (pc' := 180) rfl ?_
          refine s_aload k77 at_180 rfl rfl (pc' := 182) rfl ?_
          refine s_callI k77 [.ref b73] 1 at_182 rfl (hw _ (List.mem_of_getElem? (i := 4) rfl)) (hw _ (List.mem_of_getElem? (i := 5) rfl)) (hw _ (List.mem_of_getElem? (i := 3) rfl)) (hw _ (List.mem_of_getElem? (i := 6) rfl)) (by decide) (rmi1 l Z a0 hw b77 b73 c73 (2 : Int32) [.int i1.toInt8.toInt32.toInt8.toInt32, .int (0 : Int32)] h77 n0 Z79 E77 F77_b77_bytes F77_b77_at F77_b77_end g_b77 A78_b73 ne_b73_b77) (by decide) (by decide) pd__28_5bB_29V rfl (Nat.le_of_eq rfl) rfl (by decide) (by decide) rfl (pc' := 185) rfl fun v80 T80 h80 L80 k80 Qv80 => ?_
          obtain ⟨rfl, Kc80, G80_0, G80_1, G80_2⟩ := Qv80
          have E81_b77 := E77.keep Kc80
          have A82_b73 := A78_b73.keep Kc80 (ninS ne_b73_b77 nin0)
          have Z83 := Nat.le_trans Z79 Kc80.1
          show Go p e below P T80 (mkF m 185 #[.val (.int i0), .val (.int i1), .val (.int i2), .val (.int i3), .val (.int (1 : Int32)), .val (.int (0 : Int32)), .val (.int w17), .val (.int (i2 &&& (255 : Int32))), .val (.int w49), .val (.ref b73), .unset, .unset, .unset, .unset, .unset, .unset, .unset] [.ref b77])
          refine s_astore k80 at_185 rfl (l' := #[.val (.int i0), .val (.int i1), .val (.int i2), .val (.int i3), .val (.int (1 : Int32)), .val (.int (0 : Int32)), .val (.int w17), .val (.int (i2 &&& (255 : Int32))), .val (.int w49), .val (.ref b73), .val (.ref b77), .unset, .unset, .unset, .unset, .unset, .unset]) rfl (pc' := 187) rfl ?_
          refine s_iconst k80 (z := 1) at_187 (by decide) (pc' := 188) rfl ?_
          refine s_istore k80 at_188 (l' := #[.val (.int i0), .val (.int i1), .val (.int i2), .val (.int i3), .val (.int (1 : Int32)), .val (.int (0 : Int32)), .val (.int w17), .val (.int (i2 &&& (255 : Int32))), .val (.int w49), .val (.ref b73), .val (.ref b77), .unset, .val (.int (1 : Int32)), .unset, .unset, .unset, .unset]) rfl (pc' := 190) rfl ?_
          refine s_iload k80 at_190 rfl (pc' := 192) rfl ?_
          refine s_if_ne k80 at_192 (by decide) (pc' := 217) (by decide) (pc3 := 195) rfl (fun hc192 => absurd hc192 (by decide)) (fun hc192 => ?_)
          refine s_iload k80 at_217 rfl (pc' := 219) rfl ?_
          refine s_iconst k80 (z := 1) at_219 (by decide) (pc' := 220) rfl ?_
          refine s_icmp_ne k80 at_220 (by decide) (pc' := 258) (by decide) (pc3 := 223) rfl (fun hc220 => ?_) (fun hc220 => absurd (by decide) hc220)
          refine s_aload k80 at_223 rfl rfl (pc' := 225) rfl ?_
          refine s_iloadN k80 at_225 rfl (pc' := 226) rfl ?_
          refine s_sipush k80 (z := 255) at_226 (by decide) (pc' := 229) rfl ?_
          refine s_iand k80 at_229 rfl (pc' := 230) rfl ?_
          refine s_callV k80 [.int (i1 &&& (255 : Int32))] 0 at_230 (hw _ (List.mem_of_getElem? (i := 34) rfl)) (hw _ (List.mem_of_getElem? (i := 35) rfl)) (hw _ (List.mem_of_getElem? (i := 37) rfl)) (hw _ (List.mem_of_getElem? (i := 36) rfl)) (hw _ (List.mem_of_getElem? (i := 3) rfl)) (hw _ (List.mem_of_getElem? (i := 38) rfl)) (by decide) E81_b77 (rmx2 l Z a0 hw b77 b73 c73 i1.toInt8.toInt32.toInt8.toInt32 (0 : Int32) (i1 &&& (255 : Int32)) h80 n0 Z83 E81_b77 G80_0 G80_1 G80_2 g_b77 A82_b73 ne_b73_b77 (own_byte _)) (by decide) (by decide) pd__28I_29_5bB rfl (Nat.le_of_eq rfl) rfl (by decide) (by decide) rfl (pc' := 233) rfl fun v84 T84 h84 L84 k84 Qv84 => ?_
          obtain ⟨d84, rfl, Kc84, G84_0, G84_1, G84_2⟩ := Qv84
          have E85_b77 := E81_b77.keep Kc84
          have A86_b73 := A82_b73.keep Kc84 (ninS ne_b73_b77 nin0)
          have Z87 := Nat.le_trans Z83 Kc84.1
          show Go p e below P T84 (mkF m 233 #[.val (.int i0), .val (.int i1), .val (.int i2), .val (.int i3), .val (.int (1 : Int32)), .val (.int (0 : Int32)), .val (.int w17), .val (.int (i2 &&& (255 : Int32))), .val (.int w49), .val (.ref b73), .val (.ref b77), .unset, .val (.int (1 : Int32)), .unset, .unset, .unset, .unset] [.ref d84])
          refine s_pop k84 at_233 rfl (pc' := 234) rfl ?_
          refine s_aload k84 at_234 rfl rfl (pc' := 236) rfl ?_
          refine s_len k84 at_236 A86_b73 (pc' := 237) rfl ?_
          refine s_iconst k84 (z := 3) at_237 (by decide) (pc' := 238) rfl ?_
          refine s_icmp_ne k84 at_238 (by decide) (pc' := 252) (by decide) (pc3 := 241) rfl (fun hc238 => absurd hc238 (by decide)) (fun hc238 => ?_)
          refine s_iconst k84 (z := 0) at_252 (by decide) (pc' := 253) rfl ?_
          refine s_istore k84 at_253 (l' := #[.val (.int i0), .val (.int i1), .val (.int i2), .val (.int i3), .val (.int (1 : Int32)), .val (.int (0 : Int32)), .val (.int w17), .val (.int (i2 &&& (255 : Int32))), .val (.int w49), .val (.ref b73), .val (.ref b77), .val (.int (0 : Int32)), .val (.int (1 : Int32)), .unset, .unset, .unset, .unset]) rfl (pc' := 255) rfl ?_
          refine s_goto k84 at_255 (by decide) (pc' := 344) (by decide) ?_
          refine s_aload k84 at_344 rfl rfl (pc' := 346) rfl ?_
          refine s_iload k84 at_346 rfl (pc' := 348) rfl ?_
          refine s_callV k84 [.int w49] 0 at_348 (hw _ (List.mem_of_getElem? (i := 19) rfl)) (hw _ (List.mem_of_getElem? (i := 20) rfl)) (hw _ (List.mem_of_getElem? (i := 22) rfl)) (hw _ (List.mem_of_getElem? (i := 21) rfl)) (hw _ (List.mem_of_getElem? (i := 3) rfl)) (hw _ (List.mem_of_getElem? (i := 23) rfl)) (by decide) E85_b77 (rmn0 l Z a0 hw b77 b73 (2 : Int32) (2 : Int32) w49 h84 n0 Z87 G84_0 G84_1 G84_2 (by decide)) (by decide) (by decide) pd__28I_29Z rfl (Nat.le_of_eq rfl) rfl (by decide) (by decide) rfl (pc' := 351) rfl fun v88 T88 h88 L88 k88 Qv88 => ?_
          obtain ⟨rfl, rfl⟩ := Qv88
          show Go p e below P T88 (mkF m 351 #[.val (.int i0), .val (.int i1), .val (.int i2), .val (.int i3), .val (.int (1 : Int32)), .val (.int (0 : Int32)), .val (.int w17), .val (.int (i2 &&& (255 : Int32))), .val (.int w49), .val (.ref b73), .val (.ref b77), .val (.int (0 : Int32)), .val (.int (1 : Int32)), .unset, .unset, .unset, .unset] [.int (0 : Int32)])
          refine s_istore k88 at_351 (l' := #[.val (.int i0), .val (.int i1), .val (.int i2), .val (.int i3), .val (.int (1 : Int32)), .val (.int (0 : Int32)), .val (.int w17), .val (.int (i2 &&& (255 : Int32))), .val (.int w49), .val (.ref b73), .val (.ref b77), .val (.int (0 : Int32)), .val (.int (1 : Int32)), .val (.int (0 : Int32)), .unset, .unset, .unset]) rfl (pc' := 353) rfl ?_
          refine s_aload k88 at_353 rfl rfl (pc' := 355) rfl ?_
          refine s_iload k88 at_355 rfl (pc' := 357) rfl ?_
          refine s_callV k88 [.int w49] 0 at_357 (hw _ (List.mem_of_getElem? (i := 19) rfl)) (hw _ (List.mem_of_getElem? (i := 20) rfl)) (hw _ (List.mem_of_getElem? (i := 22) rfl)) (hw _ (List.mem_of_getElem? (i := 21) rfl)) (hw _ (List.mem_of_getElem? (i := 3) rfl)) (hw _ (List.mem_of_getElem? (i := 23) rfl)) (by decide) E85_b77 (rmn0 l Z a0 hw b77 b73 (2 : Int32) (2 : Int32) w49 h84 n0 Z87 G84_0 G84_1 G84_2 (by decide)) (by decide) (by decide) pd__28I_29Z rfl (Nat.le_of_eq rfl) rfl (by decide) (by decide) rfl (pc' := 360) rfl fun v89 T89 h89 L89 k89 Qv89 => ?_
          obtain ⟨rfl, rfl⟩ := Qv89
          show Go p e below P T89 (mkF m 360 #[.val (.int i0), .val (.int i1), .val (.int i2), .val (.int i3), .val (.int (1 : Int32)), .val (.int (0 : Int32)), .val (.int w17), .val (.int (i2 &&& (255 : Int32))), .val (.int w49), .val (.ref b73), .val (.ref b77), .val (.int (0 : Int32)), .val (.int (1 : Int32)), .val (.int (0 : Int32)), .unset, .unset, .unset] [.int (0 : Int32)])
          refine s_istore k89 at_360 (l' := #[.val (.int i0), .val (.int i1), .val (.int i2), .val (.int i3), .val (.int (1 : Int32)), .val (.int (0 : Int32)), .val (.int w17), .val (.int (i2 &&& (255 : Int32))), .val (.int w49), .val (.ref b73), .val (.ref b77), .val (.int (0 : Int32)), .val (.int (1 : Int32)), .val (.int (0 : Int32)), .val (.int (0 : Int32)), .unset, .unset]) rfl (pc' := 362) rfl ?_
          refine s_iload k89 at_362 rfl (pc' := 364) rfl ?_
          refine s_if_eq k89 at_364 (by decide) (pc' := 385) (by decide) (pc3 := 367) rfl (fun hc364 => absurd hc364 (by decide)) (fun hc364 => ?_)
          refine s_iload k89 at_367 rfl (pc' := 369) rfl ?_
          refine s_iload k89 at_369 rfl (pc' := 371) rfl ?_
          refine s_icmp_ne k89 at_371 (by decide) (pc' := 385) (by decide) (pc3 := 374) rfl (fun hc371 => ?_) (fun hc371 => absurd (by decide) hc371)
          refine s_iload k89 at_374 rfl (pc' := 376) rfl ?_
          refine s_iload k89 at_376 rfl (pc' := 378) rfl ?_
          refine s_icmp_ne k89 at_378 (by decide) (pc' := 385) (by decide) (pc3 := 381) rfl (fun hc378 => ?_) (fun hc378 => absurd (by decide) hc378)
          refine s_iconst k89 (z := 1) at_381 (by decide) (pc' := 382) rfl ?_
          refine s_goto k89 at_382 (by decide) (pc' := 386) (by decide) ?_
          exact s_retZ k89 at_386 rfl (by decide) hP (by decide) (by decide) rfl
        refine s_if_eq k0 at_49 (by decide) (pc' := 57) (by decide) (pc3 := 52) rfl (fun hc49 => ?_) (fun hc49 => ?_)
        · refine s_iloadN k0 at_57 rfl (pc' := 58) rfl ?_
          exact J72 _ (by rw [if_pos hc49])
        · refine s_iload k0 at_52 rfl (pc' := 54) rfl ?_
          refine s_goto k0 at_54 (by decide) (pc' := 58) (by decide) ?_
          exact J72 _ (by rw [if_neg hc49])
      refine s_if_eq k0 at_17 (by decide) (pc' := 24) (by decide) (pc3 := 20) rfl (fun hc17 => ?_) (fun hc17 => ?_)
      · refine s_iconst k0 (z := 0) at_24 (by decide) (pc' := 25) rfl ?_
        exact J71 _ (by rw [if_pos hc17])
      · refine s_iconst k0 (z := 1) at_20 (by decide) (pc' := 21) rfl ?_
        refine s_goto k0 at_21 (by decide) (pc' := 25) (by decide) ?_
        exact J71 _ (by rw [if_neg hc17])
    · rw [hk70]
      show Go p e below P T0 (mkF m 12 #[.val (.int i0), .val (.int i1), .val (.int i2), .val (.int i3), .val (.int (1 : Int32)), .val (.int (1 : Int32)), .unset, .unset, .unset, .unset, .unset, .unset, .unset, .unset, .unset, .unset, .unset] [])
      refine s_iloadN k0 at_12 rfl (pc' := 13) rfl ?_
      refine s_iconst k0 (z := 4) at_13 (by decide) (pc' := 14) rfl ?_
      refine s_iushr k0 at_14 rfl (pc' := 15) rfl ?_
      refine s_iconst k0 (z := 1) at_15 (by decide) (pc' := 16) rfl ?_
      refine s_iand k0 at_16 rfl (pc' := 17) rfl ?_
      have J90 : ∀ (w17 : Int32) (e_w17 : w17 = (if ((Jvm.Free.XT.ushr i0 (4 : Int32)) &&& (1 : Int32)) = (0 : Int32) then (0 : Int32) else (1 : Int32))), Go p e below P T0 (mkF m 25 #[.val (.int i0), .val (.int i1), .val (.int i2), .val (.int i3), .val (.int (1 : Int32)), .val (.int (1 : Int32)), .unset, .unset, .unset, .unset, .unset, .unset, .unset, .unset, .unset, .unset, .unset] [.int w17]) := by
        intro w17 e_w17
        refine s_istore k0 at_25 (l' := #[.val (.int i0), .val (.int i1), .val (.int i2), .val (.int i3), .val (.int (1 : Int32)), .val (.int (1 : Int32)), .val (.int w17), .unset, .unset, .unset, .unset, .unset, .unset, .unset, .unset, .unset, .unset]) rfl (pc' := 27) rfl ?_
        refine s_iload k0 at_27 rfl (pc' := 29) rfl ?_
        refine s_if_ne k0 at_29 (by decide) (pc' := 40) (by decide) (pc3 := 32) rfl (fun hc29 => absurd hc29 (by decide)) (fun hc29 => ?_)
        refine s_iloadN k0 at_40 rfl (pc' := 41) rfl ?_
        refine s_sipush k0 (z := 255) at_41 (by decide) (pc' := 44) rfl ?_
        refine s_iand k0 at_44 rfl (pc' := 45) rfl ?_
        refine s_istore k0 at_45 (l' := #[.val (.int i0), .val (.int i1), .val (.int i2), .val (.int i3), .val (.int (1 : Int32)), .val (.int (1 : Int32)), .val (.int w17), .val (.int (i2 &&& (255 : Int32))), .unset, .unset, .unset, .unset, .unset, .unset, .unset, .unset, .unset]) rfl (pc' := 47) rfl ?_
        refine s_iload k0 at_47 rfl (pc' := 49) rfl ?_
        have J91 : ∀ (w49 : Int32) (e_w49 : w49 = (if w17 = (0 : Int32) then i3 else (i2 &&& (255 : Int32)))), Go p e below P T0 (mkF m 58 #[.val (.int i0), .val (.int i1), .val (.int i2), .val (.int i3), .val (.int (1 : Int32)), .val (.int (1 : Int32)), .val (.int w17), .val (.int (i2 &&& (255 : Int32))), .unset, .unset, .unset, .unset, .unset, .unset, .unset, .unset, .unset] [.int w49]) := by
          intro w49 e_w49
          refine s_istore k0 at_58 (l' := #[.val (.int i0), .val (.int i1), .val (.int i2), .val (.int i3), .val (.int (1 : Int32)), .val (.int (1 : Int32)), .val (.int w17), .val (.int (i2 &&& (255 : Int32))), .val (.int w49), .unset, .unset, .unset, .unset, .unset, .unset, .unset, .unset]) rfl (pc' := 60) rfl ?_
          refine s_iload k0 at_60 rfl (pc' := 62) rfl ?_
          refine s_if_ne k0 at_62 (by decide) (pc' := 112) (by decide) (pc3 := 65) rfl (fun hc62 => absurd hc62 (by decide)) (fun hc62 => ?_)
          refine s_iload k0 at_112 rfl (pc' := 114) rfl ?_
          refine s_iconst k0 (z := 1) at_114 (by decide) (pc' := 115) rfl ?_
          refine s_icmp_ne k0 at_115 (by decide) (pc' := 150) (by decide) (pc3 := 118) rfl (fun hc115 => ?_) (fun hc115 => absurd (by decide) hc115)
          refine s_iconst k0 (z := 2) at_118 (by decide) (pc' := 119) rfl ?_
          refine s_iload k0 at_119 rfl (pc' := 121) rfl ?_
          refine s_iconst k0 (z := 1) at_121 (by decide) (pc' := 122) rfl ?_
          refine s_iand k0 (z := (1 : Int32)) at_122 (by decide) (pc' := 123) rfl ?_
          refine s_iadd k0 (z := (3 : Int32)) at_123 (by decide) (pc' := 124) rfl ?_
          refine s_newP k0 (cap := 3) at_124 (hw _ (List.mem_of_getElem? (i := 0) rfl)) (by decide) (by decide) (by decide) (by decide) (by decide) (pc' := 126) rfl fun T92 h92 b92 c92 q92 k92 X92 A92 => ?_
          have g_b92 : n0 ≤ b92 := Nat.le_trans Z0 (Nat.le_of_eq q92.symm)
          have Z93 := Nat.le_trans Z0 X92.1
          have A92p : Arv Z h92 b92 c92 .byte (3 : Int32) [(.int (0 : Int32)), (.int (0 : Int32)), (.int (0 : Int32))] (.int (0 : Int32)) := (show Arv Z h92 b92 c92 .byte (3 : Int32) [] (.int (0 : Int32)) from A92).pad (pad_rep [] _ 3)
          refine s_astore k92 at_126 rfl (l' := #[.val (.int i0), .val (.int i1), .val (.int i2), .val (.int i3), .val (.int (1 : Int32)), .val (.int (1 : Int32)), .val (.int w17), .val (.int (i2 &&& (255 : Int32))), .val (.int w49), .val (.ref b92), .unset, .unset, .unset, .unset, .unset, .unset, .unset]) rfl (pc' := 128) rfl ?_
          refine s_aload k92 at_128 rfl rfl (pc' := 130) rfl ?_
          refine s_iconst k92 (z := 0) at_130 (by decide) (pc' := 131) rfl ?_
          refine s_iloadN k92 at_131 rfl (pc' := 132) rfl ?_
          refine s_i2b k92 at_132 rfl (pc' := 133) rfl ?_
          refine s_bastore k92 at_133 A92p ⟨by decide, by decide⟩ (i := 0) rfl (Nat.le_of_ble_eq_true rfl) (y := i1.toInt8.toInt32.toInt8.toInt32) rfl g_b92 (pc' := 134) rfl fun T94 h94 L94 k94 W94 A94 => ?_
          have Z95 := Nat.le_trans Z93 (Keep.of_wr W94).1
          refine s_aload k94 at_134 rfl rfl (pc' := 136) rfl ?_
          refine s_len k94 at_136 A94 (pc' := 137) rfl ?_
          refine s_iconst k94 (z := 3) at_137 (by decide) (pc' := 138) rfl ?_
          refine s_icmp_ne k94 at_138 (by decide) (pc' := 176) (by decide) (pc3 := 141) rfl (fun hc138 => ?_) (fun hc138 => absurd (by decide) hc138)
          refine s_aload k94 at_141 rfl rfl (pc' := 143) rfl ?_
          refine s_iconst k94 (z := 2) at_143 (by decide) (pc' := 144) rfl ?_
          refine s_iloadN k94 at_144 rfl (pc' := 145) rfl ?_
          refine s_i2b k94 at_145 rfl (pc' := 146) rfl ?_
          refine s_bastore k94 at_146 A94 ⟨by decide, by decide⟩ (i := 2) rfl (Nat.le_of_ble_eq_true rfl) (y := i2.toInt8.toInt32.toInt8.toInt32) rfl g_b92 (pc' := 147) rfl fun T96 h96 L96 k96 W96 A96 => ?_
          have Z97 := Nat.le_trans Z95 (Keep.of_wr W96).1
          refine s_goto k96 at_147 (by decide) (pc' := 176) (by decide) ?_
          refine s_new k96 at_176 (hw _ (List.mem_of_getElem? (i := 1) rfl)) (hw _ (List.mem_of_getElem? (i := 2) rfl)) (hw _ (List.mem_of_getElem? (i := 3) rfl)) (by decide) (by decide) (pc' := 179) rfl fun T98 h98 b98 q98 k98 X98 E98 D98 => ?_
          have ne_b92_b98 : b92 ≠ b98 := Nat.ne_of_lt (Nat.lt_of_lt_of_eq A96.lt q98.symm)
          have g_b98 : n0 ≤ b98 := Nat.le_trans Z97 (Nat.le_of_eq q98.symm)
          have A99_b92 := A96.ext X98
          have Z100 := Nat.le_trans Z97 X98.1
          have F98_b98_bytes : Fld Z h98 b98 "io/credsmith/Der" "bytes" "[B" .null := D98 (Or.inr (hw _ (List.mem_of_getElem? (i := 14) rfl))) (ty := (.array .byte)) (by decide)
          have F98_b98_at : Fld Z h98 b98 "io/credsmith/Der" "at" "I" (.int (0 : Int32)) := D98 (Or.inl (hw _ (List.mem_of_getElem? (i := 16) rfl))) (ty := .int) (by decide)
          have F98_b98_end : Fld Z h98 b98 "io/credsmith/Der" "end" "I" (.int (0 : Int32)) := D98 (Or.inr (hw _ (List.mem_of_getElem? (i := 18) rfl))) (ty := .int) (by decide)
          refine s_dup k98 at_179 rfl (pc' := 180) rfl ?_
          refine s_aload k98 at_180 rfl rfl (pc' := 182) rfl ?_
          refine s_callI k98 [.ref b92] 1 at_182 rfl (hw _ (List.mem_of_getElem? (i := 4) rfl)) (hw _ (List.mem_of_getElem? (i := 5) rfl)) (hw _ (List.mem_of_getElem? (i := 3) rfl)) (hw _ (List.mem_of_getElem? (i := 6) rfl)) (by decide) (rmi1 l Z a0 hw b98 b92 c92 (3 : Int32) [.int i1.toInt8.toInt32.toInt8.toInt32, .int (0 : Int32), .int i2.toInt8.toInt32.toInt8.toInt32] h98 n0 Z100 E98 F98_b98_bytes F98_b98_at F98_b98_end g_b98 A99_b92 ne_b92_b98) (by decide) (by decide) pd__28_5bB_29V rfl (Nat.le_of_eq rfl) rfl (by decide) (by decide) rfl (pc' := 185) rfl fun v101 T101 h101 L101 k101 Qv101 => ?_
          obtain ⟨rfl, Kc101, G101_0, G101_1, G101_2⟩ := Qv101
          have E102_b98 := E98.keep Kc101
          have A103_b92 := A99_b92.keep Kc101 (ninS ne_b92_b98 nin0)
          have Z104 := Nat.le_trans Z100 Kc101.1
          show Go p e below P T101 (mkF m 185 #[.val (.int i0), .val (.int i1), .val (.int i2), .val (.int i3), .val (.int (1 : Int32)), .val (.int (1 : Int32)), .val (.int w17), .val (.int (i2 &&& (255 : Int32))), .val (.int w49), .val (.ref b92), .unset, .unset, .unset, .unset, .unset, .unset, .unset] [.ref b98])
          refine s_astore k101 at_185 rfl (l' := #[.val (.int i0), .val (.int i1), .val (.int i2), .val (.int i3), .val (.int (1 : Int32)), .val (.int (1 : Int32)), .val (.int w17), .val (.int (i2 &&& (255 : Int32))), .val (.int w49), .val (.ref b92), .val (.ref b98), .unset, .unset, .unset, .unset, .unset, .unset]) rfl (pc' := 187) rfl ?_
          refine s_iconst k101 (z := 1) at_187 (by decide) (pc' := 188) rfl ?_
          refine s_istore k101 at_188 (l' := #[.val (.int i0), .val (.int i1), .val (.int i2), .val (.int i3), .val (.int (1 : Int32)), .val (.int (1 : Int32)), .val (.int w17), .val (.int (i2 &&& (255 : Int32))), .val (.int w49), .val (.ref b92), .val (.ref b98), .unset, .val (.int (1 : Int32)), .unset, .unset, .unset, .unset]) rfl (pc' := 190) rfl ?_
          refine s_iload k101 at_190 rfl (pc' := 192) rfl ?_
          refine s_if_ne k101 at_192 (by decide) (pc' := 217) (by decide) (pc3 := 195) rfl (fun hc192 => absurd hc192 (by decide)) (fun hc192 => ?_)
          refine s_iload k101 at_217 rfl (pc' := 219) rfl ?_
          refine s_iconst k101 (z := 1) at_219 (by decide) (pc' := 220) rfl ?_
          refine s_icmp_ne k101 at_220 (by decide) (pc' := 258) (by decide) (pc3 := 223) rfl (fun hc220 => ?_) (fun hc220 => absurd (by decide) hc220)
          refine s_aload k101 at_223 rfl rfl (pc' := 225) rfl ?_
          refine s_iloadN k101 at_225 rfl (pc' := 226) rfl ?_
          refine s_sipush k101 (z := 255) at_226 (by decide) (pc' := 229) rfl ?_
          refine s_iand k101 at_229 rfl (pc' := 230) rfl ?_
          refine s_callV k101 [.int (i1 &&& (255 : Int32))] 0 at_230 (hw _ (List.mem_of_getElem? (i := 34) rfl)) (hw _ (List.mem_of_getElem? (i := 35) rfl)) (hw _ (List.mem_of_getElem? (i := 37) rfl)) (hw _ (List.mem_of_getElem? (i := 36) rfl)) (hw _ (List.mem_of_getElem? (i := 3) rfl)) (hw _ (List.mem_of_getElem? (i := 38) rfl)) (by decide) E102_b98 (rmx3 l Z a0 hw b98 b92 c92 i1.toInt8.toInt32.toInt8.toInt32 i2.toInt8.toInt32.toInt8.toInt32 (i1 &&& (255 : Int32)) h101 n0 Z104 E102_b98 G101_0 G101_1 G101_2 g_b98 A103_b92 ne_b92_b98 (own_byte _)) (by decide) (by decide) pd__28I_29_5bB rfl (Nat.le_of_eq rfl) rfl (by decide) (by decide) rfl (pc' := 233) rfl fun v105 T105 h105 L105 k105 Qv105 => ?_
          obtain ⟨d105, rfl, Kc105, G105_0, G105_1, G105_2⟩ := Qv105
          have E106_b98 := E102_b98.keep Kc105
          have A107_b92 := A103_b92.keep Kc105 (ninS ne_b92_b98 nin0)
          have Z108 := Nat.le_trans Z104 Kc105.1
          show Go p e below P T105 (mkF m 233 #[.val (.int i0), .val (.int i1), .val (.int i2), .val (.int i3), .val (.int (1 : Int32)), .val (.int (1 : Int32)), .val (.int w17), .val (.int (i2 &&& (255 : Int32))), .val (.int w49), .val (.ref b92), .val (.ref b98), .unset, .val (.int (1 : Int32)), .unset, .unset, .unset, .unset] [.ref d105])
          refine s_pop k105 at_233 rfl (pc' := 234) rfl ?_
          refine s_aload k105 at_234 rfl rfl (pc' := 236) rfl ?_
          refine s_len k105 at_236 A107_b92 (pc' := 237) rfl ?_
          refine s_iconst k105 (z := 3) at_237 (by decide) (pc' := 238) rfl ?_
          refine s_icmp_ne k105 at_238 (by decide) (pc' := 252) (by decide) (pc3 := 241) rfl (fun hc238 => ?_) (fun hc238 => absurd (by decide) hc238)
          refine s_iload k105 at_241 rfl (pc' := 243) rfl ?_
          refine s_iload k105 at_243 rfl (pc' := 245) rfl ?_
          have J109 : ∀ (w245 : Int32) (e_w245 : w245 = (if (i2 &&& (255 : Int32)) = w49 then (1 : Int32) else (0 : Int32))), Go p e below P T105 (mkF m 253 #[.val (.int i0), .val (.int i1), .val (.int i2), .val (.int i3), .val (.int (1 : Int32)), .val (.int (1 : Int32)), .val (.int w17), .val (.int (i2 &&& (255 : Int32))), .val (.int w49), .val (.ref b92), .val (.ref b98), .unset, .val (.int (1 : Int32)), .unset, .unset, .unset, .unset] [.int w245]) := by
            intro w245 e_w245
            refine s_istore k105 at_253 (l' := #[.val (.int i0), .val (.int i1), .val (.int i2), .val (.int i3), .val (.int (1 : Int32)), .val (.int (1 : Int32)), .val (.int w17), .val (.int (i2 &&& (255 : Int32))), .val (.int w49), .val (.ref b92), .val (.ref b98), .val (.int w245), .val (.int (1 : Int32)), .unset, .unset, .unset, .unset]) rfl (pc' := 255) rfl ?_
            refine s_goto k105 at_255 (by decide) (pc' := 344) (by decide) ?_
            refine s_aload k105 at_344 rfl rfl (pc' := 346) rfl ?_
            refine s_iload k105 at_346 rfl (pc' := 348) rfl ?_
            refine s_callV k105 [.int w49] 0 at_348 (hw _ (List.mem_of_getElem? (i := 19) rfl)) (hw _ (List.mem_of_getElem? (i := 20) rfl)) (hw _ (List.mem_of_getElem? (i := 22) rfl)) (hw _ (List.mem_of_getElem? (i := 21) rfl)) (hw _ (List.mem_of_getElem? (i := 3) rfl)) (hw _ (List.mem_of_getElem? (i := 23) rfl)) (by decide) E106_b98 (rmn1 l Z a0 hw b98 b92 c92 (3 : Int32) [.int i1.toInt8.toInt32.toInt8.toInt32, .int (0 : Int32), .int i2.toInt8.toInt32.toInt8.toInt32] (2 : Int32) (3 : Int32) w49 i2.toInt8.toInt32.toInt8.toInt32 h105 n0 Z108 G105_0 G105_1 G105_2 A107_b92 (by decide) ⟨by decide, by decide⟩ rfl) (by decide) (by decide) pd__28I_29Z rfl (Nat.le_of_eq rfl) rfl (by decide) (by decide) rfl (pc' := 351) rfl fun v110 T110 h110 L110 k110 Qv110 => ?_
            obtain ⟨rfl, rfl⟩ := Qv110
            show Go p e below P T110 (mkF m 351 #[.val (.int i0), .val (.int i1), .val (.int i2), .val (.int i3), .val (.int (1 : Int32)), .val (.int (1 : Int32)), .val (.int w17), .val (.int (i2 &&& (255 : Int32))), .val (.int w49), .val (.ref b92), .val (.ref b98), .val (.int w245), .val (.int (1 : Int32)), .unset, .unset, .unset, .unset] [.int (fx i2.toInt8.toInt32.toInt8.toInt32 w49)])
            refine s_istore k110 at_351 (l' := #[.val (.int i0), .val (.int i1), .val (.int i2), .val (.int i3), .val (.int (1 : Int32)), .val (.int (1 : Int32)), .val (.int w17), .val (.int (i2 &&& (255 : Int32))), .val (.int w49), .val (.ref b92), .val (.ref b98), .val (.int w245), .val (.int (1 : Int32)), .val (.int (fx i2.toInt8.toInt32.toInt8.toInt32 w49)), .unset, .unset, .unset]) rfl (pc' := 353) rfl ?_
            refine s_aload k110 at_353 rfl rfl (pc' := 355) rfl ?_
            refine s_iload k110 at_355 rfl (pc' := 357) rfl ?_
            refine s_callV k110 [.int w49] 0 at_357 (hw _ (List.mem_of_getElem? (i := 19) rfl)) (hw _ (List.mem_of_getElem? (i := 20) rfl)) (hw _ (List.mem_of_getElem? (i := 22) rfl)) (hw _ (List.mem_of_getElem? (i := 21) rfl)) (hw _ (List.mem_of_getElem? (i := 3) rfl)) (hw _ (List.mem_of_getElem? (i := 23) rfl)) (by decide) E106_b98 (rmn1 l Z a0 hw b98 b92 c92 (3 : Int32) [.int i1.toInt8.toInt32.toInt8.toInt32, .int (0 : Int32), .int i2.toInt8.toInt32.toInt8.toInt32] (2 : Int32) (3 : Int32) w49 i2.toInt8.toInt32.toInt8.toInt32 h105 n0 Z108 G105_0 G105_1 G105_2 A107_b92 (by decide) ⟨by decide, by decide⟩ rfl) (by decide) (by decide) pd__28I_29Z rfl (Nat.le_of_eq rfl) rfl (by decide) (by decide) rfl (pc' := 360) rfl fun v111 T111 h111 L111 k111 Qv111 => ?_
            obtain ⟨rfl, rfl⟩ := Qv111
            show Go p e below P T111 (mkF m 360 #[.val (.int i0), .val (.int i1), .val (.int i2), .val (.int i3), .val (.int (1 : Int32)), .val (.int (1 : Int32)), .val (.int w17), .val (.int (i2 &&& (255 : Int32))), .val (.int w49), .val (.ref b92), .val (.ref b98), .val (.int w245), .val (.int (1 : Int32)), .val (.int (fx i2.toInt8.toInt32.toInt8.toInt32 w49)), .unset, .unset, .unset] [.int (fx i2.toInt8.toInt32.toInt8.toInt32 w49)])
            refine s_istore k111 at_360 (l' := #[.val (.int i0), .val (.int i1), .val (.int i2), .val (.int i3), .val (.int (1 : Int32)), .val (.int (1 : Int32)), .val (.int w17), .val (.int (i2 &&& (255 : Int32))), .val (.int w49), .val (.ref b92), .val (.ref b98), .val (.int w245), .val (.int (1 : Int32)), .val (.int (fx i2.toInt8.toInt32.toInt8.toInt32 w49)), .val (.int (fx i2.toInt8.toInt32.toInt8.toInt32 w49)), .unset, .unset]) rfl (pc' := 362) rfl ?_
            refine s_iload k111 at_362 rfl (pc' := 364) rfl ?_
            refine s_if_eq k111 at_364 (by decide) (pc' := 385) (by decide) (pc3 := 367) rfl (fun hc364 => absurd hc364 (by decide)) (fun hc364 => ?_)
            refine s_iload k111 at_367 rfl (pc' := 369) rfl ?_
            refine s_iload k111 at_369 rfl (pc' := 371) rfl ?_
            refine s_icmp_ne k111 at_371 (by decide) (pc' := 385) (by decide) (pc3 := 374) rfl (fun hc371 => ?_) (fun hc371 => absurd ((own_fx i2 w49).trans e_w245.symm) hc371)
            refine s_iload k111 at_374 rfl (pc' := 376) rfl ?_
            refine s_iload k111 at_376 rfl (pc' := 378) rfl ?_
            refine s_icmp_ne k111 at_378 (by decide) (pc' := 385) (by decide) (pc3 := 381) rfl (fun hc378 => ?_) (fun hc378 => absurd ((own_fx i2 w49).trans e_w245.symm) hc378)
            refine s_iconst k111 (z := 1) at_381 (by decide) (pc' := 382) rfl ?_
            refine s_goto k111 at_382 (by decide) (pc' := 386) (by decide) ?_
            exact s_retZ k111 at_386 rfl (by decide) hP (by decide) (by decide) rfl
          refine s_icmp_ne k105 at_245 (by decide) (pc' := 252) (by decide) (pc3 := 248) rfl (fun hc245 => ?_) (fun hc245 => ?_)
          · refine s_iconst k105 (z := 1) at_248 (by decide) (pc' := 249) rfl ?_
            refine s_goto k105 at_249 (by decide) (pc' := 253) (by decide) ?_
            exact J109 _ (by rw [if_pos hc245])
          · refine s_iconst k105 (z := 0) at_252 (by decide) (pc' := 253) rfl ?_
            exact J109 _ (by rw [if_neg hc245])
        refine s_if_eq k0 at_49 (by decide) (pc' := 57) (by decide) (pc3 := 52) rfl (fun hc49 => ?_) (fun hc49 => ?_)
        · refine s_iloadN k0 at_57 rfl (pc' := 58) rfl ?_
          exact J91 _ (by rw [if_pos hc49])
        · refine s_iload k0 at_52 rfl (pc' := 54) rfl ?_
          refine s_goto k0 at_54 (by decide) (pc' := 58) (by decide) ?_
          exact J91 _ (by rw [if_neg hc49])
      refine s_if_eq k0 at_17 (by decide) (pc' := 24) (by decide) (pc3 := 20) rfl (fun hc17 => ?_) (fun hc17 => ?_)
      · refine s_iconst k0 (z := 0) at_24 (by decide) (pc' := 25) rfl ?_
        exact J90 _ (by rw [if_pos hc17])
      · refine s_iconst k0 (z := 1) at_20 (by decide) (pc' := 21) rfl ?_
        refine s_goto k0 at_21 (by decide) (pc' := 25) (by decide) ?_
        exact J90 _ (by rw [if_neg hc17])
    · rw [hk70]
      show Go p e below P T0 (mkF m 12 #[.val (.int i0), .val (.int i1), .val (.int i2), .val (.int i3), .val (.int (1 : Int32)), .val (.int (2 : Int32)), .unset, .unset, .unset, .unset, .unset, .unset, .unset, .unset, .unset, .unset, .unset] [])
      refine s_iloadN k0 at_12 rfl (pc' := 13) rfl ?_
      refine s_iconst k0 (z := 4) at_13 (by decide) (pc' := 14) rfl ?_
      refine s_iushr k0 at_14 rfl (pc' := 15) rfl ?_
      refine s_iconst k0 (z := 1) at_15 (by decide) (pc' := 16) rfl ?_
      refine s_iand k0 at_16 rfl (pc' := 17) rfl ?_
      have J112 : ∀ (w17 : Int32) (e_w17 : w17 = (if ((Jvm.Free.XT.ushr i0 (4 : Int32)) &&& (1 : Int32)) = (0 : Int32) then (0 : Int32) else (1 : Int32))), Go p e below P T0 (mkF m 25 #[.val (.int i0), .val (.int i1), .val (.int i2), .val (.int i3), .val (.int (1 : Int32)), .val (.int (2 : Int32)), .unset, .unset, .unset, .unset, .unset, .unset, .unset, .unset, .unset, .unset, .unset] [.int w17]) := by
        intro w17 e_w17
        refine s_istore k0 at_25 (l' := #[.val (.int i0), .val (.int i1), .val (.int i2), .val (.int i3), .val (.int (1 : Int32)), .val (.int (2 : Int32)), .val (.int w17), .unset, .unset, .unset, .unset, .unset, .unset, .unset, .unset, .unset, .unset]) rfl (pc' := 27) rfl ?_
        refine s_iload k0 at_27 rfl (pc' := 29) rfl ?_
        refine s_if_ne k0 at_29 (by decide) (pc' := 40) (by decide) (pc3 := 32) rfl (fun hc29 => absurd hc29 (by decide)) (fun hc29 => ?_)
        refine s_iloadN k0 at_40 rfl (pc' := 41) rfl ?_
        refine s_sipush k0 (z := 255) at_41 (by decide) (pc' := 44) rfl ?_
        refine s_iand k0 at_44 rfl (pc' := 45) rfl ?_
        refine s_istore k0 at_45 (l' := #[.val (.int i0), .val (.int i1), .val (.int i2), .val (.int i3), .val (.int (1 : Int32)), .val (.int (2 : Int32)), .val (.int w17), .val (.int (i2 &&& (255 : Int32))), .unset, .unset, .unset, .unset, .unset, .unset, .unset, .unset, .unset]) rfl (pc' := 47) rfl ?_
        refine s_iload k0 at_47 rfl (pc' := 49) rfl ?_
        have J113 : ∀ (w49 : Int32) (e_w49 : w49 = (if w17 = (0 : Int32) then i3 else (i2 &&& (255 : Int32)))), Go p e below P T0 (mkF m 58 #[.val (.int i0), .val (.int i1), .val (.int i2), .val (.int i3), .val (.int (1 : Int32)), .val (.int (2 : Int32)), .val (.int w17), .val (.int (i2 &&& (255 : Int32))), .unset, .unset, .unset, .unset, .unset, .unset, .unset, .unset, .unset] [.int w49]) := by
          intro w49 e_w49
          refine s_istore k0 at_58 (l' := #[.val (.int i0), .val (.int i1), .val (.int i2), .val (.int i3), .val (.int (1 : Int32)), .val (.int (2 : Int32)), .val (.int w17), .val (.int (i2 &&& (255 : Int32))), .val (.int w49), .unset, .unset, .unset, .unset, .unset, .unset, .unset, .unset]) rfl (pc' := 60) rfl ?_
          refine s_iload k0 at_60 rfl (pc' := 62) rfl ?_
          refine s_if_ne k0 at_62 (by decide) (pc' := 112) (by decide) (pc3 := 65) rfl (fun hc62 => absurd hc62 (by decide)) (fun hc62 => ?_)
          refine s_iload k0 at_112 rfl (pc' := 114) rfl ?_
          refine s_iconst k0 (z := 1) at_114 (by decide) (pc' := 115) rfl ?_
          refine s_icmp_ne k0 at_115 (by decide) (pc' := 150) (by decide) (pc3 := 118) rfl (fun hc115 => ?_) (fun hc115 => absurd (by decide) hc115)
          refine s_iconst k0 (z := 2) at_118 (by decide) (pc' := 119) rfl ?_
          refine s_iload k0 at_119 rfl (pc' := 121) rfl ?_
          refine s_iconst k0 (z := 1) at_121 (by decide) (pc' := 122) rfl ?_
          refine s_iand k0 (z := (0 : Int32)) at_122 (by decide) (pc' := 123) rfl ?_
          refine s_iadd k0 (z := (2 : Int32)) at_123 (by decide) (pc' := 124) rfl ?_
          refine s_newP k0 (cap := 2) at_124 (hw _ (List.mem_of_getElem? (i := 0) rfl)) (by decide) (by decide) (by decide) (by decide) (by decide) (pc' := 126) rfl fun T114 h114 b114 c114 q114 k114 X114 A114 => ?_
          have g_b114 : n0 ≤ b114 := Nat.le_trans Z0 (Nat.le_of_eq q114.symm)
          have Z115 := Nat.le_trans Z0 X114.1
          have A114p : Arv Z h114 b114 c114 .byte (2 : Int32) [(.int (0 : Int32)), (.int (0 : Int32))] (.int (0 : Int32)) := (show Arv Z h114 b114 c114 .byte (2 : Int32) [] (.int (0 : Int32)) from A114).pad (pad_rep [] _ 2)
          refine s_astore k114 at_126 rfl (l' := #[.val (.int i0), .val (.int i1), .val (.int i2), .val (.int i3), .val (.int (1 : Int32)), .val (.int (2 : Int32)), .val (.int w17), .val (.int (i2 &&& (255 : Int32))), .val (.int w49), .val (.ref b114), .unset, .unset, .unset, .unset, .unset, .unset, .unset]) rfl (pc' := 128) rfl ?_
          refine s_aload k114 at_128 rfl rfl (pc' := 130) rfl ?_
          refine s_iconst k114 (z := 0) at_130 (by decide) (pc' := 131) rfl ?_
          refine s_iloadN k114 at_131 rfl (pc' := 132) rfl ?_
          refine s_i2b k114 at_132 rfl (pc' := 133) rfl ?_
          refine s_bastore k114 at_133 A114p ⟨by decide, by decide⟩ (i := 0) rfl (Nat.le_of_ble_eq_true rfl) (y := i1.toInt8.toInt32.toInt8.toInt32) rfl g_b114 (pc' := 134) rfl fun T116 h116 L116 k116 W116 A116 => ?_
          have Z117 := Nat.le_trans Z115 (Keep.of_wr W116).1
          refine s_aload k116 at_134 rfl rfl (pc' := 136) rfl ?_
          refine s_len k116 at_136 A116 (pc' := 137) rfl ?_
          refine s_iconst k116 (z := 3) at_137 (by decide) (pc' := 138) rfl ?_
          refine s_icmp_ne k116 at_138 (by decide) (pc' := 176) (by decide) (pc3 := 141) rfl (fun hc138 => absurd hc138 (by decide)) (fun hc138 => ?_)
          refine s_new k116 at_176 (hw _ (List.mem_of_getElem? (i := 1) rfl)) (hw _ (List.mem_of_getElem? (i := 2) rfl)) (hw _ (List.mem_of_getElem? (i := 3) rfl)) (by decide) (by decide) (pc' := 179) rfl fun T118 h118 b118 q118 k118 X118 E118 D118 => ?_
          have ne_b114_b118 : b114 ≠ b118 := Nat.ne_of_lt (Nat.lt_of_lt_of_eq A116.lt q118.symm)
          have g_b118 : n0 ≤ b118 := Nat.le_trans Z117 (Nat.le_of_eq q118.symm)
          have A119_b114 := A116.ext X118
          have Z120 := Nat.le_trans Z117 X118.1
          have F118_b118_bytes : Fld Z h118 b118 "io/credsmith/Der" "bytes" "[B" .null := D118 (Or.inr (hw _ (List.mem_of_getElem? (i := 14) rfl))) (ty := (.array .byte)) (by decide)
          have F118_b118_at : Fld Z h118 b118 "io/credsmith/Der" "at" "I" (.int (0 : Int32)) := D118 (Or.inl (hw _ (List.mem_of_getElem? (i := 16) rfl))) (ty := .int) (by decide)
          have F118_b118_end : Fld Z h118 b118 "io/credsmith/Der" "end" "I" (.int (0 : Int32)) := D118 (Or.inr (hw _ (List.mem_of_getElem? (i := 18) rfl))) (ty := .int) (by decide)
          refine s_dup k118 at_179 rfl (pc' := 180) rfl ?_
          refine s_aload k118 at_180 rfl rfl (pc' := 182) rfl ?_
          refine s_callI k118 [.ref b114] 1 at_182 rfl (hw _ (List.mem_of_getElem? (i := 4) rfl)) (hw _ (List.mem_of_getElem? (i := 5) rfl)) (hw _ (List.mem_of_getElem? (i := 3) rfl)) (hw _ (List.mem_of_getElem? (i := 6) rfl)) (by decide) (rmi1 l Z a0 hw b118 b114 c114 (2 : Int32) [.int i1.toInt8.toInt32.toInt8.toInt32, .int (0 : Int32)] h118 n0 Z120 E118 F118_b118_bytes F118_b118_at F118_b118_end g_b118 A119_b114 ne_b114_b118) (by decide) (by decide) pd__28_5bB_29V rfl (Nat.le_of_eq rfl) rfl (by decide) (by decide) rfl (pc' := 185) rfl fun v121 T121 h121 L121 k121 Qv121 => ?_
          obtain ⟨rfl, Kc121, G121_0, G121_1, G121_2⟩ := Qv121
          have E122_b118 := E118.keep Kc121
          have A123_b114 := A119_b114.keep Kc121 (ninS ne_b114_b118 nin0)
          have Z124 := Nat.le_trans Z120 Kc121.1
          show Go p e below P T121 (mkF m 185 #[.val (.int i0), .val (.int i1), .val (.int i2), .val (.int i3), .val (.int (1 : Int32)), .val (.int (2 : Int32)), .val (.int w17), .val (.int (i2 &&& (255 : Int32))), .val (.int w49), .val (.ref b114), .unset, .unset, .unset, .unset, .unset, .unset, .unset] [.ref b118])
          refine s_astore k121 at_185 rfl (l' := #[.val (.int i0), .val (.int i1), .val (.int i2), .val (.int i3), .val (.int (1 : Int32)), .val (.int (2 : Int32)), .val (.int w17), .val (.int (i2 &&& (255 : Int32))), .val (.int w49), .val (.ref b114), .val (.ref b118), .unset, .unset, .unset, .unset, .unset, .unset]) rfl (pc' := 187) rfl ?_
          refine s_iconst k121 (z := 1) at_187 (by decide) (pc' := 188) rfl ?_
          refine s_istore k121 at_188 (l' := #[.val (.int i0), .val (.int i1), .val (.int i2), .val (.int i3), .val (.int (1 : Int32)), .val (.int (2 : Int32)), .val (.int w17), .val (.int (i2 &&& (255 : Int32))), .val (.int w49), .val (.ref b114), .val (.ref b118), .unset, .val (.int (1 : Int32)), .unset, .unset, .unset, .unset]) rfl (pc' := 190) rfl ?_
          refine s_iload k121 at_190 rfl (pc' := 192) rfl ?_
          refine s_if_ne k121 at_192 (by decide) (pc' := 217) (by decide) (pc3 := 195) rfl (fun hc192 => absurd hc192 (by decide)) (fun hc192 => ?_)
          refine s_iload k121 at_217 rfl (pc' := 219) rfl ?_
          refine s_iconst k121 (z := 1) at_219 (by decide) (pc' := 220) rfl ?_
          refine s_icmp_ne k121 at_220 (by decide) (pc' := 258) (by decide) (pc3 := 223) rfl (fun hc220 => ?_) (fun hc220 => absurd (by decide) hc220)
          refine s_aload k121 at_223 rfl rfl (pc' := 225) rfl ?_
          refine s_iloadN k121 at_225 rfl (pc' := 226) rfl ?_
          refine s_sipush k121 (z := 255) at_226 (by decide) (pc' := 229) rfl ?_
          refine s_iand k121 at_229 rfl (pc' := 230) rfl ?_
          refine s_callV k121 [.int (i1 &&& (255 : Int32))] 0 at_230 (hw _ (List.mem_of_getElem? (i := 34) rfl)) (hw _ (List.mem_of_getElem? (i := 35) rfl)) (hw _ (List.mem_of_getElem? (i := 37) rfl)) (hw _ (List.mem_of_getElem? (i := 36) rfl)) (hw _ (List.mem_of_getElem? (i := 3) rfl)) (hw _ (List.mem_of_getElem? (i := 38) rfl)) (by decide) E122_b118 (rmx2 l Z a0 hw b118 b114 c114 i1.toInt8.toInt32.toInt8.toInt32 (0 : Int32) (i1 &&& (255 : Int32)) h121 n0 Z124 E122_b118 G121_0 G121_1 G121_2 g_b118 A123_b114 ne_b114_b118 (own_byte _)) (by decide) (by decide) pd__28I_29_5bB rfl (Nat.le_of_eq rfl) rfl (by decide) (by decide) rfl (pc' := 233) rfl fun v125 T125 h125 L125 k125 Qv125 => ?_
          obtain ⟨d125, rfl, Kc125, G125_0, G125_1, G125_2⟩ := Qv125
          have E126_b118 := E122_b118.keep Kc125
          have A127_b114 := A123_b114.keep Kc125 (ninS ne_b114_b118 nin0)
          have Z128 := Nat.le_trans Z124 Kc125.1
          show Go p e below P T125 (mkF m 233 #[.val (.int i0), .val (.int i1), .val (.int i2), .val (.int i3), .val (.int (1 : Int32)), .val (.int (2 : Int32)), .val (.int w17), .val (.int (i2 &&& (255 : Int32))), .val (.int w49), .val (.ref b114), .val (.ref b118), .unset, .val (.int (1 : Int32)), .unset, .unset, .unset, .unset] [.ref d125])
          refine s_pop k125 at_233 rfl (pc' := 234) rfl ?_
          refine s_aload k125 at_234 rfl rfl (pc' := 236) rfl ?_
          refine s_len k125 at_236 A127_b114 (pc' := 237) rfl ?_
          refine s_iconst k125 (z := 3) at_237 (by decide) (pc' := 238) rfl ?_
          refine s_icmp_ne k125 at_238 (by decide) (pc' := 252) (by decide) (pc3 := 241) rfl (fun hc238 => absurd hc238 (by decide)) (fun hc238 => ?_)
          refine s_iconst k125 (z := 0) at_252 (by decide) (pc' := 253) rfl ?_
          refine s_istore k125 at_253 (l' := #[.val (.int i0), .val (.int i1), .val (.int i2), .val (.int i3), .val (.int (1 : Int32)), .val (.int (2 : Int32)), .val (.int w17), .val (.int (i2 &&& (255 : Int32))), .val (.int w49), .val (.ref b114), .val (.ref b118), .val (.int (0 : Int32)), .val (.int (1 : Int32)), .unset, .unset, .unset, .unset]) rfl (pc' := 255) rfl ?_
          refine s_goto k125 at_255 (by decide) (pc' := 344) (by decide) ?_
          refine s_aload k125 at_344 rfl rfl (pc' := 346) rfl ?_
          refine s_iload k125 at_346 rfl (pc' := 348) rfl ?_
          refine s_callV k125 [.int w49] 0 at_348 (hw _ (List.mem_of_getElem? (i := 19) rfl)) (hw _ (List.mem_of_getElem? (i := 20) rfl)) (hw _ (List.mem_of_getElem? (i := 22) rfl)) (hw _ (List.mem_of_getElem? (i := 21) rfl)) (hw _ (List.mem_of_getElem? (i := 3) rfl)) (hw _ (List.mem_of_getElem? (i := 23) rfl)) (by decide) E126_b118 (rmn0 l Z a0 hw b118 b114 (2 : Int32) (2 : Int32) w49 h125 n0 Z128 G125_0 G125_1 G125_2 (by decide)) (by decide) (by decide) pd__28I_29Z rfl (Nat.le_of_eq rfl) rfl (by decide) (by decide) rfl (pc' := 351) rfl fun v129 T129 h129 L129 k129 Qv129 => ?_
          obtain ⟨rfl, rfl⟩ := Qv129
          show Go p e below P T129 (mkF m 351 #[.val (.int i0), .val (.int i1), .val (.int i2), .val (.int i3), .val (.int (1 : Int32)), .val (.int (2 : Int32)), .val (.int w17), .val (.int (i2 &&& (255 : Int32))), .val (.int w49), .val (.ref b114), .val (.ref b118), .val (.int (0 : Int32)), .val (.int (1 : Int32)), .unset, .unset, .unset, .unset] [.int (0 : Int32)])
          refine s_istore k129 at_351 (l' := #[.val (.int i0), .val (.int i1), .val (.int i2), .val (.int i3), .val (.int (1 : Int32)), .val (.int (2 : Int32)), .val (.int w17), .val (.int (i2 &&& (255 : Int32))), .val (.int w49), .val (.ref b114), .val (.ref b118), .val (.int (0 : Int32)), .val (.int (1 : Int32)), .val (.int (0 : Int32)), .unset, .unset, .unset]) rfl (pc' := 353) rfl ?_
          refine s_aload k129 at_353 rfl rfl (pc' := 355) rfl ?_
          refine s_iload k129 at_355 rfl (pc' := 357) rfl ?_
          refine s_callV k129 [.int w49] 0 at_357 (hw _ (List.mem_of_getElem? (i := 19) rfl)) (hw _ (List.mem_of_getElem? (i := 20) rfl)) (hw _ (List.mem_of_getElem? (i := 22) rfl)) (hw _ (List.mem_of_getElem? (i := 21) rfl)) (hw _ (List.mem_of_getElem? (i := 3) rfl)) (hw _ (List.mem_of_getElem? (i := 23) rfl)) (by decide) E126_b118 (rmn0 l Z a0 hw b118 b114 (2 : Int32) (2 : Int32) w49 h125 n0 Z128 G125_0 G125_1 G125_2 (by decide)) (by decide) (by decide) pd__28I_29Z rfl (Nat.le_of_eq rfl) rfl (by decide) (by decide) rfl (pc' := 360) rfl fun v130 T130 h130 L130 k130 Qv130 => ?_
          obtain ⟨rfl, rfl⟩ := Qv130
          show Go p e below P T130 (mkF m 360 #[.val (.int i0), .val (.int i1), .val (.int i2), .val (.int i3), .val (.int (1 : Int32)), .val (.int (2 : Int32)), .val (.int w17), .val (.int (i2 &&& (255 : Int32))), .val (.int w49), .val (.ref b114), .val (.ref b118), .val (.int (0 : Int32)), .val (.int (1 : Int32)), .val (.int (0 : Int32)), .unset, .unset, .unset] [.int (0 : Int32)])
          refine s_istore k130 at_360 (l' := #[.val (.int i0), .val (.int i1), .val (.int i2), .val (.int i3), .val (.int (1 : Int32)), .val (.int (2 : Int32)), .val (.int w17), .val (.int (i2 &&& (255 : Int32))), .val (.int w49), .val (.ref b114), .val (.ref b118), .val (.int (0 : Int32)), .val (.int (1 : Int32)), .val (.int (0 : Int32)), .val (.int (0 : Int32)), .unset, .unset]) rfl (pc' := 362) rfl ?_
          refine s_iload k130 at_362 rfl (pc' := 364) rfl ?_
          refine s_if_eq k130 at_364 (by decide) (pc' := 385) (by decide) (pc3 := 367) rfl (fun hc364 => absurd hc364 (by decide)) (fun hc364 => ?_)
          refine s_iload k130 at_367 rfl (pc' := 369) rfl ?_
          refine s_iload k130 at_369 rfl (pc' := 371) rfl ?_
          refine s_icmp_ne k130 at_371 (by decide) (pc' := 385) (by decide) (pc3 := 374) rfl (fun hc371 => ?_) (fun hc371 => absurd (by decide) hc371)
          refine s_iload k130 at_374 rfl (pc' := 376) rfl ?_
          refine s_iload k130 at_376 rfl (pc' := 378) rfl ?_
          refine s_icmp_ne k130 at_378 (by decide) (pc' := 385) (by decide) (pc3 := 381) rfl (fun hc378 => ?_) (fun hc378 => absurd (by decide) hc378)
          refine s_iconst k130 (z := 1) at_381 (by decide) (pc' := 382) rfl ?_
          refine s_goto k130 at_382 (by decide) (pc' := 386) (by decide) ?_
          exact s_retZ k130 at_386 rfl (by decide) hP (by decide) (by decide) rfl
        refine s_if_eq k0 at_49 (by decide) (pc' := 57) (by decide) (pc3 := 52) rfl (fun hc49 => ?_) (fun hc49 => ?_)
        · refine s_iloadN k0 at_57 rfl (pc' := 58) rfl ?_
          exact J113 _ (by rw [if_pos hc49])
        · refine s_iload k0 at_52 rfl (pc' := 54) rfl ?_
          refine s_goto k0 at_54 (by decide) (pc' := 58) (by decide) ?_
          exact J113 _ (by rw [if_neg hc49])
      refine s_if_eq k0 at_17 (by decide) (pc' := 24) (by decide) (pc3 := 20) rfl (fun hc17 => ?_) (fun hc17 => ?_)
      · refine s_iconst k0 (z := 0) at_24 (by decide) (pc' := 25) rfl ?_
        exact J112 _ (by rw [if_pos hc17])
      · refine s_iconst k0 (z := 1) at_20 (by decide) (pc' := 21) rfl ?_
        refine s_goto k0 at_21 (by decide) (pc' := 25) (by decide) ?_
        exact J112 _ (by rw [if_neg hc17])
    · rw [hk70]
      show Go p e below P T0 (mkF m 12 #[.val (.int i0), .val (.int i1), .val (.int i2), .val (.int i3), .val (.int (1 : Int32)), .val (.int (3 : Int32)), .unset, .unset, .unset, .unset, .unset, .unset, .unset, .unset, .unset, .unset, .unset] [])
      refine s_iloadN k0 at_12 rfl (pc' := 13) rfl ?_
      refine s_iconst k0 (z := 4) at_13 (by decide) (pc' := 14) rfl ?_
      refine s_iushr k0 at_14 rfl (pc' := 15) rfl ?_
      refine s_iconst k0 (z := 1) at_15 (by decide) (pc' := 16) rfl ?_
      refine s_iand k0 at_16 rfl (pc' := 17) rfl ?_
      have J131 : ∀ (w17 : Int32) (e_w17 : w17 = (if ((Jvm.Free.XT.ushr i0 (4 : Int32)) &&& (1 : Int32)) = (0 : Int32) then (0 : Int32) else (1 : Int32))), Go p e below P T0 (mkF m 25 #[.val (.int i0), .val (.int i1), .val (.int i2), .val (.int i3), .val (.int (1 : Int32)), .val (.int (3 : Int32)), .unset, .unset, .unset, .unset, .unset, .unset, .unset, .unset, .unset, .unset, .unset] [.int w17]) := by
        intro w17 e_w17
        refine s_istore k0 at_25 (l' := #[.val (.int i0), .val (.int i1), .val (.int i2), .val (.int i3), .val (.int (1 : Int32)), .val (.int (3 : Int32)), .val (.int w17), .unset, .unset, .unset, .unset, .unset, .unset, .unset, .unset, .unset, .unset]) rfl (pc' := 27) rfl ?_
        refine s_iload k0 at_27 rfl (pc' := 29) rfl ?_
        refine s_if_ne k0 at_29 (by decide) (pc' := 40) (by decide) (pc3 := 32) rfl (fun hc29 => absurd hc29 (by decide)) (fun hc29 => ?_)
        refine s_iloadN k0 at_40 rfl (pc' := 41) rfl ?_
        refine s_sipush k0 (z := 255) at_41 (by decide) (pc' := 44) rfl ?_
        refine s_iand k0 at_44 rfl (pc' := 45) rfl ?_
        refine s_istore k0 at_45 (l' := #[.val (.int i0), .val (.int i1), .val (.int i2), .val (.int i3), .val (.int (1 : Int32)), .val (.int (3 : Int32)), .val (.int w17), .val (.int (i2 &&& (255 : Int32))), .unset, .unset, .unset, .unset, .unset, .unset, .unset, .unset, .unset]) rfl (pc' := 47) rfl ?_
        refine s_iload k0 at_47 rfl (pc' := 49) rfl ?_
        have J132 : ∀ (w49 : Int32) (e_w49 : w49 = (if w17 = (0 : Int32) then i3 else (i2 &&& (255 : Int32)))), Go p e below P T0 (mkF m 58 #[.val (.int i0), .val (.int i1), .val (.int i2), .val (.int i3), .val (.int (1 : Int32)), .val (.int (3 : Int32)), .val (.int w17), .val (.int (i2 &&& (255 : Int32))), .unset, .unset, .unset, .unset, .unset, .unset, .unset, .unset, .unset] [.int w49]) := by
          intro w49 e_w49
          refine s_istore k0 at_58 (l' := #[.val (.int i0), .val (.int i1), .val (.int i2), .val (.int i3), .val (.int (1 : Int32)), .val (.int (3 : Int32)), .val (.int w17), .val (.int (i2 &&& (255 : Int32))), .val (.int w49), .unset, .unset, .unset, .unset, .unset, .unset, .unset, .unset]) rfl (pc' := 60) rfl ?_
          refine s_iload k0 at_60 rfl (pc' := 62) rfl ?_
          refine s_if_ne k0 at_62 (by decide) (pc' := 112) (by decide) (pc3 := 65) rfl (fun hc62 => absurd hc62 (by decide)) (fun hc62 => ?_)
          refine s_iload k0 at_112 rfl (pc' := 114) rfl ?_
          refine s_iconst k0 (z := 1) at_114 (by decide) (pc' := 115) rfl ?_
          refine s_icmp_ne k0 at_115 (by decide) (pc' := 150) (by decide) (pc3 := 118) rfl (fun hc115 => ?_) (fun hc115 => absurd (by decide) hc115)
          refine s_iconst k0 (z := 2) at_118 (by decide) (pc' := 119) rfl ?_
          refine s_iload k0 at_119 rfl (pc' := 121) rfl ?_
          refine s_iconst k0 (z := 1) at_121 (by decide) (pc' := 122) rfl ?_
          refine s_iand k0 (z := (1 : Int32)) at_122 (by decide) (pc' := 123) rfl ?_
          refine s_iadd k0 (z := (3 : Int32)) at_123 (by decide) (pc' := 124) rfl ?_
          refine s_newP k0 (cap := 3) at_124 (hw _ (List.mem_of_getElem? (i := 0) rfl)) (by decide) (by decide) (by decide) (by decide) (by decide) (pc' := 126) rfl fun T133 h133 b133 c133 q133 k133 X133 A133 => ?_
          have g_b133 : n0 ≤ b133 := Nat.le_trans Z0 (Nat.le_of_eq q133.symm)
          have Z134 := Nat.le_trans Z0 X133.1
          have A133p : Arv Z h133 b133 c133 .byte (3 : Int32) [(.int (0 : Int32)), (.int (0 : Int32)), (.int (0 : Int32))] (.int (0 : Int32)) := (show Arv Z h133 b133 c133 .byte (3 : Int32) [] (.int (0 : Int32)) from A133).pad (pad_rep [] _ 3)
          refine s_astore k133 at_126 rfl (l' := #[.val (.int i0), .val (.int i1), .val (.int i2), .val (.int i3), .val (.int (1 : Int32)), .val (.int (3 : Int32)), .val (.int w17), .val (.int (i2 &&& (255 : Int32))), .val (.int w49), .val (.ref b133), .unset, .unset, .unset, .unset, .unset, .unset, .unset]) rfl (pc' := 128) rfl ?_
          refine s_aload k133 at_128 rfl rfl (pc' := 130) rfl ?_
          refine s_iconst k133 (z := 0) at_130 (by decide) (pc' := 131) rfl ?_
          refine s_iloadN k133 at_131 rfl (pc' := 132) rfl ?_
          refine s_i2b k133 at_132 rfl (pc' := 133) rfl ?_
          refine s_bastore k133 at_133 A133p ⟨by decide, by decide⟩ (i := 0) rfl (Nat.le_of_ble_eq_true rfl) (y := i1.toInt8.toInt32.toInt8.toInt32) rfl g_b133 (pc' := 134) rfl fun T135 h135 L135 k135 W135 A135 => ?_
          have Z136 := Nat.le_trans Z134 (Keep.of_wr W135).1
          refine s_aload k135 at_134 rfl rfl (pc' := 136) rfl ?_
          refine s_len k135 at_136 A135 (pc' := 137) rfl ?_
          refine s_iconst k135 (z := 3) at_137 (by decide) (pc' := 138) rfl ?_
          refine s_icmp_ne k135 at_138 (by decide) (pc' := 176) (by decide) (pc3 := 141) rfl (fun hc138 => ?_) (fun hc138 => absurd (by decide) hc138)
          refine s_aload k135 at_141 rfl rfl (pc' := 143) rfl ?_
          refine s_iconst k135 (z := 2) at_143 (by decide) (pc' := 144) rfl ?_
          refine s_iloadN k135 at_144 rfl (pc' := 145) rfl ?_
          refine s_i2b k135 at_145 rfl (pc' := 146) rfl ?_
          refine s_bastore k135 at_146 A135 ⟨by decide, by decide⟩ (i := 2) rfl (Nat.le_of_ble_eq_true rfl) (y := i2.toInt8.toInt32.toInt8.toInt32) rfl g_b133 (pc' := 147) rfl fun T137 h137 L137 k137 W137 A137 => ?_
          have Z138 := Nat.le_trans Z136 (Keep.of_wr W137).1
          refine s_goto k137 at_147 (by decide) (pc' := 176) (by decide) ?_
          refine s_new k137 at_176 (hw _ (List.mem_of_getElem? (i := 1) rfl)) (hw _ (List.mem_of_getElem? (i := 2) rfl)) (hw _ (List.mem_of_getElem? (i := 3) rfl)) (by decide) (by decide) (pc' := 179) rfl fun T139 h139 b139 q139 k139 X139 E139 D139 => ?_
          have ne_b133_b139 : b133 ≠ b139 := Nat.ne_of_lt (Nat.lt_of_lt_of_eq A137.lt q139.symm)
          have g_b139 : n0 ≤ b139 := Nat.le_trans Z138 (Nat.le_of_eq q139.symm)
          have A140_b133 := A137.ext X139
          have Z141 := Nat.le_trans Z138 X139.1
          have F139_b139_bytes : Fld Z h139 b139 "io/credsmith/Der" "bytes" "[B" .null := D139 (Or.inr (hw _ (List.mem_of_getElem? (i := 14) rfl))) (ty := (.array .byte)) (by decide)
          have F139_b139_at : Fld Z h139 b139 "io/credsmith/Der" "at" "I" (.int (0 : Int32)) := D139 (Or.inl (hw _ (List.mem_of_getElem? (i := 16) rfl))) (ty := .int) (by decide)
          have F139_b139_end : Fld Z h139 b139 "io/credsmith/Der" "end" "I" (.int (0 : Int32)) := D139 (Or.inr (hw _ (List.mem_of_getElem? (i := 18) rfl))) (ty := .int) (by decide)
          refine s_dup k139 at_179 rfl (pc' := 180) rfl ?_
          refine s_aload k139 at_180 rfl rfl (pc' := 182) rfl ?_
          refine s_callI k139 [.ref b133] 1 at_182 rfl (hw _ (List.mem_of_getElem? (i := 4) rfl)) (hw _ (List.mem_of_getElem? (i := 5) rfl)) (hw _ (List.mem_of_getElem? (i := 3) rfl)) (hw _ (List.mem_of_getElem? (i := 6) rfl)) (by decide) (rmi1 l Z a0 hw b139 b133 c133 (3 : Int32) [.int i1.toInt8.toInt32.toInt8.toInt32, .int (0 : Int32), .int i2.toInt8.toInt32.toInt8.toInt32] h139 n0 Z141 E139 F139_b139_bytes F139_b139_at F139_b139_end g_b139 A140_b133 ne_b133_b139) (by decide) (by decide) pd__28_5bB_29V rfl (Nat.le_of_eq rfl) rfl (by decide) (by decide) rfl (pc' := 185) rfl fun v142 T142 h142 L142 k142 Qv142 => ?_
          obtain ⟨rfl, Kc142, G142_0, G142_1, G142_2⟩ := Qv142
          have E143_b139 := E139.keep Kc142
          have A144_b133 := A140_b133.keep Kc142 (ninS ne_b133_b139 nin0)
          have Z145 := Nat.le_trans Z141 Kc142.1
          show Go p e below P T142 (mkF m 185 #[.val (.int i0), .val (.int i1), .val (.int i2), .val (.int i3), .val (.int (1 : Int32)), .val (.int (3 : Int32)), .val (.int w17), .val (.int (i2 &&& (255 : Int32))), .val (.int w49), .val (.ref b133), .unset, .unset, .unset, .unset, .unset, .unset, .unset] [.ref b139])
          refine s_astore k142 at_185 rfl (l' := #[.val (.int i0), .val (.int i1), .val (.int i2), .val (.int i3), .val (.int (1 : Int32)), .val (.int (3 : Int32)), .val (.int w17), .val (.int (i2 &&& (255 : Int32))), .val (.int w49), .val (.ref b133), .val (.ref b139), .unset, .unset, .unset, .unset, .unset, .unset]) rfl (pc' := 187) rfl ?_
          refine s_iconst k142 (z := 1) at_187 (by decide) (pc' := 188) rfl ?_
          refine s_istore k142 at_188 (l' := #[.val (.int i0), .val (.int i1), .val (.int i2), .val (.int i3), .val (.int (1 : Int32)), .val (.int (3 : Int32)), .val (.int w17), .val (.int (i2 &&& (255 : Int32))), .val (.int w49), .val (.ref b133), .val (.ref b139), .unset, .val (.int (1 : Int32)), .unset, .unset, .unset, .unset]) rfl (pc' := 190) rfl ?_
          refine s_iload k142 at_190 rfl (pc' := 192) rfl ?_
          refine s_if_ne k142 at_192 (by decide) (pc' := 217) (by decide) (pc3 := 195) rfl (fun hc192 => absurd hc192 (by decide)) (fun hc192 => ?_)
          refine s_iload k142 at_217 rfl (pc' := 219) rfl ?_
          refine s_iconst k142 (z := 1) at_219 (by decide) (pc' := 220) rfl ?_
          refine s_icmp_ne k142 at_220 (by decide) (pc' := 258) (by decide) (pc3 := 223) rfl (fun hc220 => ?_) (fun hc220 => absurd (by decide) hc220)
          refine s_aload k142 at_223 rfl rfl (pc' := 225) rfl ?_
          refine s_iloadN k142 at_225 rfl (pc' := 226) rfl ?_
          refine s_sipush k142 (z := 255) at_226 (by decide) (pc' := 229) rfl ?_
          refine s_iand k142 at_229 rfl (pc' := 230) rfl ?_
          refine s_callV k142 [.int (i1 &&& (255 : Int32))] 0 at_230 (hw _ (List.mem_of_getElem? (i := 34) rfl)) (hw _ (List.mem_of_getElem? (i := 35) rfl)) (hw _ (List.mem_of_getElem? (i := 37) rfl)) (hw _ (List.mem_of_getElem? (i := 36) rfl)) (hw _ (List.mem_of_getElem? (i := 3) rfl)) (hw _ (List.mem_of_getElem? (i := 38) rfl)) (by decide) E143_b139 (rmx3 l Z a0 hw b139 b133 c133 i1.toInt8.toInt32.toInt8.toInt32 i2.toInt8.toInt32.toInt8.toInt32 (i1 &&& (255 : Int32)) h142 n0 Z145 E143_b139 G142_0 G142_1 G142_2 g_b139 A144_b133 ne_b133_b139 (own_byte _)) (by decide) (by decide) pd__28I_29_5bB rfl (Nat.le_of_eq rfl) rfl (by decide) (by decide) rfl (pc' := 233) rfl fun v146 T146 h146 L146 k146 Qv146 => ?_
          obtain ⟨d146, rfl, Kc146, G146_0, G146_1, G146_2⟩ := Qv146
          have E147_b139 := E143_b139.keep Kc146
          have A148_b133 := A144_b133.keep Kc146 (ninS ne_b133_b139 nin0)
          have Z149 := Nat.le_trans Z145 Kc146.1
          show Go p e below P T146 (mkF m 233 #[.val (.int i0), .val (.int i1), .val (.int i2), .val (.int i3), .val (.int (1 : Int32)), .val (.int (3 : Int32)), .val (.int w17), .val (.int (i2 &&& (255 : Int32))), .val (.int w49), .val (.ref b133), .val (.ref b139), .unset, .val (.int (1 : Int32)), .unset, .unset, .unset, .unset] [.ref d146])
          refine s_pop k146 at_233 rfl (pc' := 234) rfl ?_
          refine s_aload k146 at_234 rfl rfl (pc' := 236) rfl ?_
          refine s_len k146 at_236 A148_b133 (pc' := 237) rfl ?_
          refine s_iconst k146 (z := 3) at_237 (by decide) (pc' := 238) rfl ?_
          refine s_icmp_ne k146 at_238 (by decide) (pc' := 252) (by decide) (pc3 := 241) rfl (fun hc238 => ?_) (fun hc238 => absurd (by decide) hc238)
          refine s_iload k146 at_241 rfl (pc' := 243) rfl ?_
          refine s_iload k146 at_243 rfl (pc' := 245) rfl ?_
          have J150 : ∀ (w245 : Int32) (e_w245 : w245 = (if (i2 &&& (255 : Int32)) = w49 then (1 : Int32) else (0 : Int32))), Go p e below P T146 (mkF m 253 #[.val (.int i0), .val (.int i1), .val (.int i2), .val (.int i3), .val (.int (1 : Int32)), .val (.int (3 : Int32)), .val (.int w17), .val (.int (i2 &&& (255 : Int32))), .val (.int w49), .val (.ref b133), .val (.ref b139), .unset, .val (.int (1 : Int32)), .unset, .unset, .unset, .unset] [.int w245]) := by
            intro w245 e_w245
            refine s_istore k146 at_253 (l' := #[.val (.int i0), .val (.int i1), .val (.int i2), .val (.int i3), .val (.int (1 : Int32)), .val (.int (3 : Int32)), .val (.int w17), .val (.int (i2 &&& (255 : Int32))), .val (.int w49), .val (.ref b133), .val (.ref b139), .val (.int w245), .val (.int (1 : Int32)), .unset, .unset, .unset, .unset]) rfl (pc' := 255) rfl ?_
            refine s_goto k146 at_255 (by decide) (pc' := 344) (by decide) ?_
            refine s_aload k146 at_344 rfl rfl (pc' := 346) rfl ?_
            refine s_iload k146 at_346 rfl (pc' := 348) rfl ?_
            refine s_callV k146 [.int w49] 0 at_348 (hw _ (List.mem_of_getElem? (i := 19) rfl)) (hw _ (List.mem_of_getElem? (i := 20) rfl)) (hw _ (List.mem_of_getElem? (i := 22) rfl)) (hw _ (List.mem_of_getElem? (i := 21) rfl)) (hw _ (List.mem_of_getElem? (i := 3) rfl)) (hw _ (List.mem_of_getElem? (i := 23) rfl)) (by decide) E147_b139 (rmn1 l Z a0 hw b139 b133 c133 (3 : Int32) [.int i1.toInt8.toInt32.toInt8.toInt32, .int (0 : Int32), .int i2.toInt8.toInt32.toInt8.toInt32] (2 : Int32) (3 : Int32) w49 i2.toInt8.toInt32.toInt8.toInt32 h146 n0 Z149 G146_0 G146_1 G146_2 A148_b133 (by decide) ⟨by decide, by decide⟩ rfl) (by decide) (by decide) pd__28I_29Z rfl (Nat.le_of_eq rfl) rfl (by decide) (by decide) rfl (pc' := 351) rfl fun v151 T151 h151 L151 k151 Qv151 => ?_
            obtain ⟨rfl, rfl⟩ := Qv151
            show Go p e below P T151 (mkF m 351 #[.val (.int i0), .val (.int i1), .val (.int i2), .val (.int i3), .val (.int (1 : Int32)), .val (.int (3 : Int32)), .val (.int w17), .val (.int (i2 &&& (255 : Int32))), .val (.int w49), .val (.ref b133), .val (.ref b139), .val (.int w245), .val (.int (1 : Int32)), .unset, .unset, .unset, .unset] [.int (fx i2.toInt8.toInt32.toInt8.toInt32 w49)])
            refine s_istore k151 at_351 (l' := #[.val (.int i0), .val (.int i1), .val (.int i2), .val (.int i3), .val (.int (1 : Int32)), .val (.int (3 : Int32)), .val (.int w17), .val (.int (i2 &&& (255 : Int32))), .val (.int w49), .val (.ref b133), .val (.ref b139), .val (.int w245), .val (.int (1 : Int32)), .val (.int (fx i2.toInt8.toInt32.toInt8.toInt32 w49)), .unset, .unset, .unset]) rfl (pc' := 353) rfl ?_
            refine s_aload k151 at_353 rfl rfl (pc' := 355) rfl ?_
            refine s_iload k151 at_355 rfl (pc' := 357) rfl ?_
            refine s_callV k151 [.int w49] 0 at_357 (hw _ (List.mem_of_getElem? (i := 19) rfl)) (hw _ (List.mem_of_getElem? (i := 20) rfl)) (hw _ (List.mem_of_getElem? (i := 22) rfl)) (hw _ (List.mem_of_getElem? (i := 21) rfl)) (hw _ (List.mem_of_getElem? (i := 3) rfl)) (hw _ (List.mem_of_getElem? (i := 23) rfl)) (by decide) E147_b139 (rmn1 l Z a0 hw b139 b133 c133 (3 : Int32) [.int i1.toInt8.toInt32.toInt8.toInt32, .int (0 : Int32), .int i2.toInt8.toInt32.toInt8.toInt32] (2 : Int32) (3 : Int32) w49 i2.toInt8.toInt32.toInt8.toInt32 h146 n0 Z149 G146_0 G146_1 G146_2 A148_b133 (by decide) ⟨by decide, by decide⟩ rfl) (by decide) (by decide) pd__28I_29Z rfl (Nat.le_of_eq rfl) rfl (by decide) (by decide) rfl (pc' := 360) rfl fun v152 T152 h152 L152 k152 Qv152 => ?_
            obtain ⟨rfl, rfl⟩ := Qv152
            show Go p e below P T152 (mkF m 360 #[.val (.int i0), .val (.int i1), .val (.int i2), .val (.int i3), .val (.int (1 : Int32)), .val (.int (3 : Int32)), .val (.int w17), .val (.int (i2 &&& (255 : Int32))), .val (.int w49), .val (.ref b133), .val (.ref b139), .val (.int w245), .val (.int (1 : Int32)), .val (.int (fx i2.toInt8.toInt32.toInt8.toInt32 w49)), .unset, .unset, .unset] [.int (fx i2.toInt8.toInt32.toInt8.toInt32 w49)])
            refine s_istore k152 at_360 (l' := #[.val (.int i0), .val (.int i1), .val (.int i2), .val (.int i3), .val (.int (1 : Int32)), .val (.int (3 : Int32)), .val (.int w17), .val (.int (i2 &&& (255 : Int32))), .val (.int w49), .val (.ref b133), .val (.ref b139), .val (.int w245), .val (.int (1 : Int32)), .val (.int (fx i2.toInt8.toInt32.toInt8.toInt32 w49)), .val (.int (fx i2.toInt8.toInt32.toInt8.toInt32 w49)), .unset, .unset]) rfl (pc' := 362) rfl ?_
            refine s_iload k152 at_362 rfl (pc' := 364) rfl ?_
            refine s_if_eq k152 at_364 (by decide) (pc' := 385) (by decide) (pc3 := 367) rfl (fun hc364 => absurd hc364 (by decide)) (fun hc364 => ?_)
            refine s_iload k152 at_367 rfl (pc' := 369) rfl ?_
            refine s_iload k152 at_369 rfl (pc' := 371) rfl ?_
            refine s_icmp_ne k152 at_371 (by decide) (pc' := 385) (by decide) (pc3 := 374) rfl (fun hc371 => ?_) (fun hc371 => absurd ((own_fx i2 w49).trans e_w245.symm) hc371)
            refine s_iload k152 at_374 rfl (pc' := 376) rfl ?_
            refine s_iload k152 at_376 rfl (pc' := 378) rfl ?_
            refine s_icmp_ne k152 at_378 (by decide) (pc' := 385) (by decide) (pc3 := 381) rfl (fun hc378 => ?_) (fun hc378 => absurd ((own_fx i2 w49).trans e_w245.symm) hc378)
            refine s_iconst k152 (z := 1) at_381 (by decide) (pc' := 382) rfl ?_
            refine s_goto k152 at_382 (by decide) (pc' := 386) (by decide) ?_
            exact s_retZ k152 at_386 rfl (by decide) hP (by decide) (by decide) rfl
          refine s_icmp_ne k146 at_245 (by decide) (pc' := 252) (by decide) (pc3 := 248) rfl (fun hc245 => ?_) (fun hc245 => ?_)
          · refine s_iconst k146 (z := 1) at_248 (by decide) (pc' := 249) rfl ?_
            refine s_goto k146 at_249 (by decide) (pc' := 253) (by decide) ?_
            exact J150 _ (by rw [if_pos hc245])
          · refine s_iconst k146 (z := 0) at_252 (by decide) (pc' := 253) rfl ?_
            exact J150 _ (by rw [if_neg hc245])
        refine s_if_eq k0 at_49 (by decide) (pc' := 57) (by decide) (pc3 := 52) rfl (fun hc49 => ?_) (fun hc49 => ?_)
        · refine s_iloadN k0 at_57 rfl (pc' := 58) rfl ?_
          exact J132 _ (by rw [if_pos hc49])
        · refine s_iload k0 at_52 rfl (pc' := 54) rfl ?_
          refine s_goto k0 at_54 (by decide) (pc' := 58) (by decide) ?_
          exact J132 _ (by rw [if_neg hc49])
      refine s_if_eq k0 at_17 (by decide) (pc' := 24) (by decide) (pc3 := 20) rfl (fun hc17 => ?_) (fun hc17 => ?_)
      · refine s_iconst k0 (z := 0) at_24 (by decide) (pc' := 25) rfl ?_
        exact J131 _ (by rw [if_pos hc17])
      · refine s_iconst k0 (z := 1) at_20 (by decide) (pc' := 21) rfl ?_
        refine s_goto k0 at_21 (by decide) (pc' := 25) (by decide) ?_
        exact J131 _ (by rw [if_neg hc17])
  · rw [hk1]
    show Go p e below P T0 (mkF m 12 #[.val (.int i0), .val (.int i1), .val (.int i2), .val (.int i3), .val (.int (2 : Int32)), .val (.int ((Jvm.Free.XT.ushr i0 (2 : Int32)) &&& (3 : Int32))), .unset, .unset, .unset, .unset, .unset, .unset, .unset, .unset, .unset, .unset, .unset] [])
    refine s_iloadN k0 at_12 rfl (pc' := 13) rfl ?_
    refine s_iconst k0 (z := 4) at_13 (by decide) (pc' := 14) rfl ?_
    refine s_iushr k0 at_14 rfl (pc' := 15) rfl ?_
    refine s_iconst k0 (z := 1) at_15 (by decide) (pc' := 16) rfl ?_
    refine s_iand k0 at_16 rfl (pc' := 17) rfl ?_
    have J153 : ∀ (w17 : Int32) (e_w17 : w17 = (if ((Jvm.Free.XT.ushr i0 (4 : Int32)) &&& (1 : Int32)) = (0 : Int32) then (0 : Int32) else (1 : Int32))), Go p e below P T0 (mkF m 25 #[.val (.int i0), .val (.int i1), .val (.int i2), .val (.int i3), .val (.int (2 : Int32)), .val (.int ((Jvm.Free.XT.ushr i0 (2 : Int32)) &&& (3 : Int32))), .unset, .unset, .unset, .unset, .unset, .unset, .unset, .unset, .unset, .unset, .unset] [.int w17]) := by
      intro w17 e_w17
      refine s_istore k0 at_25 (l' := #[.val (.int i0), .val (.int i1), .val (.int i2), .val (.int i3), .val (.int (2 : Int32)), .val (.int ((Jvm.Free.XT.ushr i0 (2 : Int32)) &&& (3 : Int32))), .val (.int w17), .unset, .unset, .unset, .unset, .unset, .unset, .unset, .unset, .unset, .unset]) rfl (pc' := 27) rfl ?_
      refine s_iload k0 at_27 rfl (pc' := 29) rfl ?_
      refine s_if_ne k0 at_29 (by decide) (pc' := 40) (by decide) (pc3 := 32) rfl (fun hc29 => absurd hc29 (by decide)) (fun hc29 => ?_)
      refine s_iloadN k0 at_40 rfl (pc' := 41) rfl ?_
      refine s_sipush k0 (z := 255) at_41 (by decide) (pc' := 44) rfl ?_
      refine s_iand k0 at_44 rfl (pc' := 45) rfl ?_
      refine s_istore k0 at_45 (l' := #[.val (.int i0), .val (.int i1), .val (.int i2), .val (.int i3), .val (.int (2 : Int32)), .val (.int ((Jvm.Free.XT.ushr i0 (2 : Int32)) &&& (3 : Int32))), .val (.int w17), .val (.int (i2 &&& (255 : Int32))), .unset, .unset, .unset, .unset, .unset, .unset, .unset, .unset, .unset]) rfl (pc' := 47) rfl ?_
      refine s_iload k0 at_47 rfl (pc' := 49) rfl ?_
      have J154 : ∀ (w49 : Int32) (e_w49 : w49 = (if w17 = (0 : Int32) then i3 else (i2 &&& (255 : Int32)))), Go p e below P T0 (mkF m 58 #[.val (.int i0), .val (.int i1), .val (.int i2), .val (.int i3), .val (.int (2 : Int32)), .val (.int ((Jvm.Free.XT.ushr i0 (2 : Int32)) &&& (3 : Int32))), .val (.int w17), .val (.int (i2 &&& (255 : Int32))), .unset, .unset, .unset, .unset, .unset, .unset, .unset, .unset, .unset] [.int w49]) := by
        intro w49 e_w49
        refine s_istore k0 at_58 (l' := #[.val (.int i0), .val (.int i1), .val (.int i2), .val (.int i3), .val (.int (2 : Int32)), .val (.int ((Jvm.Free.XT.ushr i0 (2 : Int32)) &&& (3 : Int32))), .val (.int w17), .val (.int (i2 &&& (255 : Int32))), .val (.int w49), .unset, .unset, .unset, .unset, .unset, .unset, .unset, .unset]) rfl (pc' := 60) rfl ?_
        refine s_iload k0 at_60 rfl (pc' := 62) rfl ?_
        refine s_if_ne k0 at_62 (by decide) (pc' := 112) (by decide) (pc3 := 65) rfl (fun hc62 => absurd hc62 (by decide)) (fun hc62 => ?_)
        refine s_iload k0 at_112 rfl (pc' := 114) rfl ?_
        refine s_iconst k0 (z := 1) at_114 (by decide) (pc' := 115) rfl ?_
        refine s_icmp_ne k0 at_115 (by decide) (pc' := 150) (by decide) (pc3 := 118) rfl (fun hc115 => absurd hc115 (by decide)) (fun hc115 => ?_)
        refine s_iconst k0 (z := 3) at_150 (by decide) (pc' := 151) rfl ?_
        refine s_newP k0 (cap := 3) at_151 (hw _ (List.mem_of_getElem? (i := 0) rfl)) (by decide) (by decide) (by decide) (by decide) (by decide) (pc' := 153) rfl fun T155 h155 b155 c155 q155 k155 X155 A155 => ?_
        have g_b155 : n0 ≤ b155 := Nat.le_trans Z0 (Nat.le_of_eq q155.symm)
        have Z156 := Nat.le_trans Z0 X155.1
        have A155p : Arv Z h155 b155 c155 .byte (3 : Int32) [(.int (0 : Int32)), (.int (0 : Int32)), (.int (0 : Int32))] (.int (0 : Int32)) := (show Arv Z h155 b155 c155 .byte (3 : Int32) [] (.int (0 : Int32)) from A155).pad (pad_rep [] _ 3)
        refine s_astore k155 at_153 rfl (l' := #[.val (.int i0), .val (.int i1), .val (.int i2), .val (.int i3), .val (.int (2 : Int32)), .val (.int ((Jvm.Free.XT.ushr i0 (2 : Int32)) &&& (3 : Int32))), .val (.int w17), .val (.int (i2 &&& (255 : Int32))), .val (.int w49), .val (.ref b155), .unset, .unset, .unset, .unset, .unset, .unset, .unset]) rfl (pc' := 155) rfl ?_
        refine s_aload k155 at_155 rfl rfl (pc' := 157) rfl ?_
        refine s_iconst k155 (z := 0) at_157 (by decide) (pc' := 158) rfl ?_
        refine s_bipush k155 (z := 48) at_158 (by decide) (pc' := 160) rfl ?_
        refine s_bastore k155 at_160 A155p ⟨by decide, by decide⟩ (i := 0) rfl (Nat.le_of_ble_eq_true rfl) (y := (48 : Int32)) (by decide) g_b155 (pc' := 161) rfl fun T157 h157 L157 k157 W157 A157 => ?_
        have Z158 := Nat.le_trans Z156 (Keep.of_wr W157).1
        refine s_aload k157 at_161 rfl rfl (pc' := 163) rfl ?_
        refine s_iconst k157 (z := 1) at_163 (by decide) (pc' := 164) rfl ?_
        refine s_iload k157 at_164 rfl (pc' := 166) rfl ?_
        refine s_iconst k157 (z := 2) at_166 (by decide) (pc' := 167) rfl ?_
        refine s_isub k157 (z := (0 : Int32)) at_167 (by decide) (pc' := 168) rfl ?_
        refine s_i2b k157 (z := (0 : Int32)) at_168 (by decide) (pc' := 169) rfl ?_
        refine s_bastore k157 at_169 A157 ⟨by decide, by decide⟩ (i := 1) rfl (Nat.le_of_ble_eq_true rfl) (y := (0 : Int32)) (by decide) g_b155 (pc' := 170) rfl fun T159 h159 L159 k159 W159 A159 => ?_
        have Z160 := Nat.le_trans Z158 (Keep.of_wr W159).1
        refine s_aload k159 at_170 rfl rfl (pc' := 172) rfl ?_
        refine s_iconst k159 (z := 2) at_172 (by decide) (pc' := 173) rfl ?_
        refine s_iloadN k159 at_173 rfl (pc' := 174) rfl ?_
        refine s_i2b k159 at_174 rfl (pc' := 175) rfl ?_
        refine s_bastore k159 at_175 A159 ⟨by decide, by decide⟩ (i := 2) rfl (Nat.le_of_ble_eq_true rfl) (y := i2.toInt8.toInt32.toInt8.toInt32) rfl g_b155 (pc' := 176) rfl fun T161 h161 L161 k161 W161 A161 => ?_
        have Z162 := Nat.le_trans Z160 (Keep.of_wr W161).1
        refine s_new k161 at_176 (hw _ (List.mem_of_getElem? (i := 1) rfl)) (hw _ (List.mem_of_getElem? (i := 2) rfl)) (hw _ (List.mem_of_getElem? (i := 3) rfl)) (by decide) (by decide) (pc' := 179) rfl fun T163 h163 b163 q163 k163 X163 E163 D163 => ?_
        have ne_b155_b163 : b155 ≠ b163 := Nat.ne_of_lt (Nat.lt_of_lt_of_eq A161.lt q163.symm)
        have g_b163 : n0 ≤ b163 := Nat.le_trans Z162 (Nat.le_of_eq q163.symm)
        have A164_b155 := A161.ext X163
        have Z165 := Nat.le_trans Z162 X163.1
        have F163_b163_bytes : Fld Z h163 b163 "io/credsmith/Der" "bytes" "[B" .null := D163 (Or.inr (hw _ (List.mem_of_getElem? (i := 14) rfl))) (ty := (.array .byte)) (by decide)
        have F163_b163_at : Fld Z h163 b163 "io/credsmith/Der" "at" "I" (.int (0 : Int32)) := D163 (Or.inl (hw _ (List.mem_of_getElem? (i := 16) rfl))) (ty := .int) (by decide)
        have F163_b163_end : Fld Z h163 b163 "io/credsmith/Der" "end" "I" (.int (0 : Int32)) := D163 (Or.inr (hw _ (List.mem_of_getElem? (i := 18) rfl))) (ty := .int) (by decide)
        refine s_dup k163 at_179 rfl (pc' := 180) rfl ?_
        refine s_aload k163 at_180 rfl rfl (pc' := 182) rfl ?_
        refine s_callI k163 [.ref b155] 1 at_182 rfl (hw _ (List.mem_of_getElem? (i := 4) rfl)) (hw _ (List.mem_of_getElem? (i := 5) rfl)) (hw _ (List.mem_of_getElem? (i := 3) rfl)) (hw _ (List.mem_of_getElem? (i := 6) rfl)) (by decide) (rmi1 l Z a0 hw b163 b155 c155 (3 : Int32) [.int (48 : Int32), .int (0 : Int32), .int i2.toInt8.toInt32.toInt8.toInt32] h163 n0 Z165 E163 F163_b163_bytes F163_b163_at F163_b163_end g_b163 A164_b155 ne_b155_b163) (by decide) (by decide) pd__28_5bB_29V rfl (Nat.le_of_eq rfl) rfl (by decide) (by decide) rfl (pc' := 185) rfl fun v166 T166 h166 L166 k166 Qv166 => ?_
        obtain ⟨rfl, Kc166, G166_0, G166_1, G166_2⟩ := Qv166
        have E167_b163 := E163.keep Kc166
        have A168_b155 := A164_b155.keep Kc166 (ninS ne_b155_b163 nin0)
        have Z169 := Nat.le_trans Z165 Kc166.1
        show Go p e below P T166 (mkF m 185 #[.val (.int i0), .val (.int i1), .val (.int i2), .val (.int i3), .val (.int (2 : Int32)), .val (.int ((Jvm.Free.XT.ushr i0 (2 : Int32)) &&& (3 : Int32))), .val (.int w17), .val (.int (i2 &&& (255 : Int32))), .val (.int w49), .val (.ref b155), .unset, .unset, .unset, .unset, .unset, .unset, .unset] [.ref b163])
        refine s_astore k166 at_185 rfl (l' := #[.val (.int i0), .val (.int i1), .val (.int i2), .val (.int i3), .val (.int (2 : Int32)), .val (.int ((Jvm.Free.XT.ushr i0 (2 : Int32)) &&& (3 : Int32))), .val (.int w17), .val (.int (i2 &&& (255 : Int32))), .val (.int w49), .val (.ref b155), .val (.ref b163), .unset, .unset, .unset, .unset, .unset, .unset]) rfl (pc' := 187) rfl ?_
        refine s_iconst k166 (z := 1) at_187 (by decide) (pc' := 188) rfl ?_
        refine s_istore k166 at_188 (l' := #[.val (.int i0), .val (.int i1), .val (.int i2), .val (.int i3), .val (.int (2 : Int32)), .val (.int ((Jvm.Free.XT.ushr i0 (2 : Int32)) &&& (3 : Int32))), .val (.int w17), .val (.int (i2 &&& (255 : Int32))), .val (.int w49), .val (.ref b155), .val (.ref b163), .unset, .val (.int (1 : Int32)), .unset, .unset, .unset, .unset]) rfl (pc' := 190) rfl ?_
        refine s_iload k166 at_190 rfl (pc' := 192) rfl ?_
        refine s_if_ne k166 at_192 (by decide) (pc' := 217) (by decide) (pc3 := 195) rfl (fun hc192 => absurd hc192 (by decide)) (fun hc192 => ?_)
        refine s_iload k166 at_217 rfl (pc' := 219) rfl ?_
        refine s_iconst k166 (z := 1) at_219 (by decide) (pc' := 220) rfl ?_
        refine s_icmp_ne k166 at_220 (by decide) (pc' := 258) (by decide) (pc3 := 223) rfl (fun hc220 => absurd hc220 (by decide)) (fun hc220 => ?_)
        refine s_aload k166 at_258 rfl rfl (pc' := 260) rfl ?_
        refine s_callV k166 [] 0 at_260 (hw _ (List.mem_of_getElem? (i := 24) rfl)) (hw _ (List.mem_of_getElem? (i := 25) rfl)) (hw _ (List.mem_of_getElem? (i := 27) rfl)) (hw _ (List.mem_of_getElem? (i := 26) rfl)) (hw _ (List.mem_of_getElem? (i := 3) rfl)) (hw _ (List.mem_of_getElem? (i := 28) rfl)) (by decide) E167_b163 (rmq0 l Z a0 hw b163 b155 c155 i2.toInt8.toInt32.toInt8.toInt32 h166 n0 Z169 E167_b163 G166_0 G166_1 G166_2 g_b163 A168_b155 ne_b155_b163) (by decide) (by decide) pd__28_29Lio_2fcredsmith_2fDer_3b rfl (Nat.le_of_eq rfl) rfl (by decide) (by decide) rfl (pc' := 263) rfl fun v170 T170 h170 L170 k170 Qv170 => ?_
        obtain ⟨b170, rfl, q170, Kc170, E170, G170_0, G170_1, G170_2, G170_3, G170_4, G170_5⟩ := Qv170
        have ne_b163_b170 : b163 ≠ b170 := Nat.ne_of_lt (Nat.lt_of_lt_of_le E167_b163.lt q170)
        have ne_b155_b170 : b155 ≠ b170 := Nat.ne_of_lt (Nat.lt_of_lt_of_le A168_b155.lt q170)
        have g_b170 : n0 ≤ b170 := Nat.le_trans Z169 q170
        have E171_b163 := E167_b163.keep Kc170
        have A172_b155 := A168_b155.keep Kc170 (ninS ne_b155_b163 nin0)
        have Z173 := Nat.le_trans Z169 Kc170.1
        show Go p e below P T170 (mkF m 263 #[.val (.int i0), .val (.int i1), .val (.int i2), .val (.int i3), .val (.int (2 : Int32)), .val (.int ((Jvm.Free.XT.ushr i0 (2 : Int32)) &&& (3 : Int32))), .val (.int w17), .val (.int (i2 &&& (255 : Int32))), .val (.int w49), .val (.ref b155), .val (.ref b163), .unset, .val (.int (1 : Int32)), .unset, .unset, .unset, .unset] [.ref b170])
        refine s_astore k170 at_263 rfl (l' := #[.val (.int i0), .val (.int i1), .val (.int i2), .val (.int i3), .val (.int (2 : Int32)), .val (.int ((Jvm.Free.XT.ushr i0 (2 : Int32)) &&& (3 : Int32))), .val (.int w17), .val (.int (i2 &&& (255 : Int32))), .val (.int w49), .val (.ref b155), .val (.ref b163), .unset, .val (.int (1 : Int32)), .val (.ref b170), .unset, .unset, .unset]) rfl (pc' := 265) rfl ?_
        refine s_aload k170 at_265 rfl rfl (pc' := 267) rfl ?_
        refine s_iload k170 at_267 rfl (pc' := 269) rfl ?_
        refine s_callV k170 [.int w49] 0 at_269 (hw _ (List.mem_of_getElem? (i := 19) rfl)) (hw _ (List.mem_of_getElem? (i := 20) rfl)) (hw _ (List.mem_of_getElem? (i := 22) rfl)) (hw _ (List.mem_of_getElem? (i := 21) rfl)) (hw _ (List.mem_of_getElem? (i := 3) rfl)) (hw _ (List.mem_of_getElem? (i := 23) rfl)) (by decide) E170 (rmn0 l Z a0 hw b170 b155 (2 : Int32) (2 : Int32) w49 h170 n0 Z173 G170_0 G170_1 G170_2 (by decide)) (by decide) (by decide) pd__28I_29Z rfl (Nat.le_of_eq rfl) rfl (by decide) (by decide) rfl (pc' := 272) rfl fun v174 T174 h174 L174 k174 Qv174 => ?_
        obtain ⟨rfl, rfl⟩ := Qv174
        show Go p e below P T174 (mkF m 272 #[.val (.int i0), .val (.int i1), .val (.int i2), .val (.int i3), .val (.int (2 : Int32)), .val (.int ((Jvm.Free.XT.ushr i0 (2 : Int32)) &&& (3 : Int32))), .val (.int w17), .val (.int (i2 &&& (255 : Int32))), .val (.int w49), .val (.ref b155), .val (.ref b163), .unset, .val (.int (1 : Int32)), .val (.ref b170), .unset, .unset, .unset] [.int (0 : Int32)])
        refine s_istore k174 at_272 (l' := #[.val (.int i0), .val (.int i1), .val (.int i2), .val (.int i3), .val (.int (2 : Int32)), .val (.int ((Jvm.Free.XT.ushr i0 (2 : Int32)) &&& (3 : Int32))), .val (.int w17), .val (.int (i2 &&& (255 : Int32))), .val (.int w49), .val (.ref b155), .val (.ref b163), .unset, .val (.int (1 : Int32)), .val (.ref b170), .val (.int (0 : Int32)), .unset, .unset]) rfl (pc' := 274) rfl ?_
        refine s_aload k174 at_274 rfl rfl (pc' := 276) rfl ?_
        refine s_iload k174 at_276 rfl (pc' := 278) rfl ?_
        refine s_callV k174 [.int w49] 0 at_278 (hw _ (List.mem_of_getElem? (i := 19) rfl)) (hw _ (List.mem_of_getElem? (i := 20) rfl)) (hw _ (List.mem_of_getElem? (i := 22) rfl)) (hw _ (List.mem_of_getElem? (i := 21) rfl)) (hw _ (List.mem_of_getElem? (i := 3) rfl)) (hw _ (List.mem_of_getElem? (i := 23) rfl)) (by decide) E170 (rmn0 l Z a0 hw b170 b155 (2 : Int32) (2 : Int32) w49 h170 n0 Z173 G170_0 G170_1 G170_2 (by decide)) (by decide) (by decide) pd__28I_29Z rfl (Nat.le_of_eq rfl) rfl (by decide) (by decide) rfl (pc' := 281) rfl fun v175 T175 h175 L175 k175 Qv175 => ?_
        obtain ⟨rfl, rfl⟩ := Qv175
        show Go p e below P T175 (mkF m 281 #[.val (.int i0), .val (.int i1), .val (.int i2), .val (.int i3), .val (.int (2 : Int32)), .val (.int ((Jvm.Free.XT.ushr i0 (2 : Int32)) &&& (3 : Int32))), .val (.int w17), .val (.int (i2 &&& (255 : Int32))), .val (.int w49), .val (.ref b155), .val (.ref b163), .unset, .val (.int (1 : Int32)), .val (.ref b170), .val (.int (0 : Int32)), .unset, .unset] [.int (0 : Int32)])
        refine s_istore k175 at_281 (l' := #[.val (.int i0), .val (.int i1), .val (.int i2), .val (.int i3), .val (.int (2 : Int32)), .val (.int ((Jvm.Free.XT.ushr i0 (2 : Int32)) &&& (3 : Int32))), .val (.int w17), .val (.int (i2 &&& (255 : Int32))), .val (.int w49), .val (.ref b155), .val (.ref b163), .unset, .val (.int (1 : Int32)), .val (.ref b170), .val (.int (0 : Int32)), .val (.int (0 : Int32)), .unset]) rfl (pc' := 283) rfl ?_
        refine s_iload k175 at_283 rfl (pc' := 285) rfl ?_
        refine s_iconst k175 (z := 3) at_285 (by decide) (pc' := 286) rfl ?_
        refine s_icmp_ne k175 at_286 (by decide) (pc' := 300) (by decide) (pc3 := 289) rfl (fun hc286 => absurd hc286 (by decide)) (fun hc286 => ?_)
        refine s_iconst k175 (z := 0) at_300 (by decide) (pc' := 301) rfl ?_
        refine s_istore k175 at_301 (l' := #[.val (.int i0), .val (.int i1), .val (.int i2), .val (.int i3), .val (.int (2 : Int32)), .val (.int ((Jvm.Free.XT.ushr i0 (2 : Int32)) &&& (3 : Int32))), .val (.int w17), .val (.int (i2 &&& (255 : Int32))), .val (.int w49), .val (.ref b155), .val (.ref b163), .unset, .val (.int (1 : Int32)), .val (.ref b170), .val (.int (0 : Int32)), .val (.int (0 : Int32)), .val (.int (0 : Int32))]) rfl (pc' := 303) rfl ?_
        refine s_iload k175 at_303 rfl (pc' := 305) rfl ?_
        refine s_iload k175 at_305 rfl (pc' := 307) rfl ?_
        refine s_icmp_ne k175 at_307 (by decide) (pc' := 321) (by decide) (pc3 := 310) rfl (fun hc307 => ?_) (fun hc307 => absurd (by decide) hc307)
        refine s_iload k175 at_310 rfl (pc' := 312) rfl ?_
        refine s_iload k175 at_312 rfl (pc' := 314) rfl ?_
        refine s_icmp_ne k175 at_314 (by decide) (pc' := 321) (by decide) (pc3 := 317) rfl (fun hc314 => ?_) (fun hc314 => absurd (by decide) hc314)
        refine s_iconst k175 (z := 1) at_317 (by decide) (pc' := 318) rfl ?_
        refine s_goto k175 at_318 (by decide) (pc' := 322) (by decide) ?_
        refine s_istore k175 at_322 (l' := #[.val (.int i0), .val (.int i1), .val (.int i2), .val (.int i3), .val (.int (2 : Int32)), .val (.int ((Jvm.Free.XT.ushr i0 (2 : Int32)) &&& (3 : Int32))), .val (.int w17), .val (.int (i2 &&& (255 : Int32))), .val (.int w49), .val (.ref b155), .val (.ref b163), .unset, .val (.int (1 : Int32)), .val (.ref b170), .val (.int (0 : Int32)), .val (.int (0 : Int32)), .val (.int (0 : Int32))]) rfl (pc' := 324) rfl ?_
        refine s_iload k175 at_324 rfl (pc' := 326) rfl ?_
        refine s_iconst k175 (z := 2) at_326 (by decide) (pc' := 327) rfl ?_
        refine s_icmp_ne k175 at_327 (by decide) (pc' := 341) (by decide) (pc3 := 330) rfl (fun hc327 => ?_) (fun hc327 => absurd (by decide) hc327)
        refine s_iload k175 at_330 rfl (pc' := 332) rfl ?_
        refine s_iload k175 at_332 rfl (pc' := 334) rfl ?_
        have J176 : ∀ (w334 : Int32) (e_w334 : w334 = (if (i2 &&& (255 : Int32)) = w49 then (1 : Int32) else (0 : Int32))), Go p e below P T175 (mkF m 342 #[.val (.int i0), .val (.int i1), .val (.int i2), .val (.int i3), .val (.int (2 : Int32)), .val (.int ((Jvm.Free.XT.ushr i0 (2 : Int32)) &&& (3 : Int32))), .val (.int w17), .val (.int (i2 &&& (255 : Int32))), .val (.int w49), .val (.ref b155), .val (.ref b163), .unset, .val (.int (1 : Int32)), .val (.ref b170), .val (.int (0 : Int32)), .val (.int (0 : Int32)), .val (.int (0 : Int32))] [.int w334]) := by
          intro w334 e_w334
          refine s_istore k175 at_342 (l' := #[.val (.int i0), .val (.int i1), .val (.int i2), .val (.int i3), .val (.int (2 : Int32)), .val (.int ((Jvm.Free.XT.ushr i0 (2 : Int32)) &&& (3 : Int32))), .val (.int w17), .val (.int (i2 &&& (255 : Int32))), .val (.int w49), .val (.ref b155), .val (.ref b163), .val (.int w334), .val (.int (1 : Int32)), .val (.ref b170), .val (.int (0 : Int32)), .val (.int (0 : Int32)), .val (.int (0 : Int32))]) rfl (pc' := 344) rfl ?_
          refine s_aload k175 at_344 rfl rfl (pc' := 346) rfl ?_
          refine s_iload k175 at_346 rfl (pc' := 348) rfl ?_
          refine s_callV k175 [.int w49] 0 at_348 (hw _ (List.mem_of_getElem? (i := 19) rfl)) (hw _ (List.mem_of_getElem? (i := 20) rfl)) (hw _ (List.mem_of_getElem? (i := 22) rfl)) (hw _ (List.mem_of_getElem? (i := 21) rfl)) (hw _ (List.mem_of_getElem? (i := 3) rfl)) (hw _ (List.mem_of_getElem? (i := 23) rfl)) (by decide) E171_b163 (rmn1 l Z a0 hw b163 b155 c155 (3 : Int32) [.int (48 : Int32), .int (0 : Int32), .int i2.toInt8.toInt32.toInt8.toInt32] (2 : Int32) (3 : Int32) w49 i2.toInt8.toInt32.toInt8.toInt32 h170 n0 Z173 G170_3 G170_4 G170_5 A172_b155 (by decide) ⟨by decide, by decide⟩ rfl) (by decide) (by decide) pd__28I_29Z rfl (Nat.le_of_eq rfl) rfl (by decide) (by decide) rfl (pc' := 351) rfl fun v177 T177 h177 L177 k177 Qv177 => ?_
          obtain ⟨rfl, rfl⟩ := Qv177
          show Go p e below P T177 (mkF m 351 #[.val (.int i0), .val (.int i1), .val (.int i2), .val (.int i3), .val (.int (2 : Int32)), .val (.int ((Jvm.Free.XT.ushr i0 (2 : Int32)) &&& (3 : Int32))), .val (.int w17), .val (.int (i2 &&& (255 : Int32))), .val (.int w49), .val (.ref b155), .val (.ref b163), .val (.int w334), .val (.int (1 : Int32)), .val (.ref b170), .val (.int (0 : Int32)), .val (.int (0 : Int32)), .val (.int (0 : Int32))] [.int (fx i2.toInt8.toInt32.toInt8.toInt32 w49)])
          refine s_istore k177 at_351 (l' := #[.val (.int i0), .val (.int i1), .val (.int i2), .val (.int i3), .val (.int (2 : Int32)), .val (.int ((Jvm.Free.XT.ushr i0 (2 : Int32)) &&& (3 : Int32))), .val (.int w17), .val (.int (i2 &&& (255 : Int32))), .val (.int w49), .val (.ref b155), .val (.ref b163), .val (.int w334), .val (.int (1 : Int32)), .val (.int (fx i2.toInt8.toInt32.toInt8.toInt32 w49)), .val (.int (0 : Int32)), .val (.int (0 : Int32)), .val (.int (0 : Int32))]) rfl (pc' := 353) rfl ?_
          refine s_aload k177 at_353 rfl rfl (pc' := 355) rfl ?_
          refine s_iload k177 at_355 rfl (pc' := 357) rfl ?_
          refine s_callV k177 [.int w49] 0 at_357 (hw _ (List.mem_of_getElem? (i := 19) rfl)) (hw _ (List.mem_of_getElem? (i := 20) rfl)) (hw _ (List.mem_of_getElem? (i := 22) rfl)) (hw _ (List.mem_of_getElem? (i := 21) rfl)) (hw _ (List.mem_of_getElem? (i := 3) rfl)) (hw _ (List.mem_of_getElem? (i := 23) rfl)) (by decide) E171_b163 (rmn1 l Z a0 hw b163 b155 c155 (3 : Int32) [.int (48 : Int32), .int (0 : Int32), .int i2.toInt8.toInt32.toInt8.toInt32] (2 : Int32) (3 : Int32) w49 i2.toInt8.toInt32.toInt8.toInt32 h170 n0 Z173 G170_3 G170_4 G170_5 A172_b155 (by decide) ⟨by decide, by decide⟩ rfl) (by decide) (by decide) pd__28I_29Z rfl (Nat.le_of_eq rfl) rfl (by decide) (by decide) rfl (pc' := 360) rfl fun v178 T178 h178 L178 k178 Qv178 => ?_
          obtain ⟨rfl, rfl⟩ := Qv178
          show Go p e below P T178 (mkF m 360 #[.val (.int i0), .val (.int i1), .val (.int i2), .val (.int i3), .val (.int (2 : Int32)), .val (.int ((Jvm.Free.XT.ushr i0 (2 : Int32)) &&& (3 : Int32))), .val (.int w17), .val (.int (i2 &&& (255 : Int32))), .val (.int w49), .val (.ref b155), .val (.ref b163), .val (.int w334), .val (.int (1 : Int32)), .val (.int (fx i2.toInt8.toInt32.toInt8.toInt32 w49)), .val (.int (0 : Int32)), .val (.int (0 : Int32)), .val (.int (0 : Int32))] [.int (fx i2.toInt8.toInt32.toInt8.toInt32 w49)])
          refine s_istore k178 at_360 (l' := #[.val (.int i0), .val (.int i1), .val (.int i2), .val (.int i3), .val (.int (2 : Int32)), .val (.int ((Jvm.Free.XT.ushr i0 (2 : Int32)) &&& (3 : Int32))), .val (.int w17), .val (.int (i2 &&& (255 : Int32))), .val (.int w49), .val (.ref b155), .val (.ref b163), .val (.int w334), .val (.int (1 : Int32)), .val (.int (fx i2.toInt8.toInt32.toInt8.toInt32 w49)), .val (.int (fx i2.toInt8.toInt32.toInt8.toInt32 w49)), .val (.int (0 : Int32)), .val (.int (0 : Int32))]) rfl (pc' := 362) rfl ?_
          refine s_iload k178 at_362 rfl (pc' := 364) rfl ?_
          refine s_if_eq k178 at_364 (by decide) (pc' := 385) (by decide) (pc3 := 367) rfl (fun hc364 => absurd hc364 (by decide)) (fun hc364 => ?_)
          refine s_iload k178 at_367 rfl (pc' := 369) rfl ?_
          refine s_iload k178 at_369 rfl (pc' := 371) rfl ?_
          refine s_icmp_ne k178 at_371 (by decide) (pc' := 385) (by decide) (pc3 := 374) rfl (fun hc371 => ?_) (fun hc371 => absurd ((own_fx i2 w49).trans e_w334.symm) hc371)
          refine s_iload k178 at_374 rfl (pc' := 376) rfl ?_
          refine s_iload k178 at_376 rfl (pc' := 378) rfl ?_
          refine s_icmp_ne k178 at_378 (by decide) (pc' := 385) (by decide) (pc3 := 381) rfl (fun hc378 => ?_) (fun hc378 => absurd ((own_fx i2 w49).trans e_w334.symm) hc378)
          refine s_iconst k178 (z := 1) at_381 (by decide) (pc' := 382) rfl ?_
          refine s_goto k178 at_382 (by decide) (pc' := 386) (by decide) ?_
          exact s_retZ k178 at_386 rfl (by decide) hP (by decide) (by decide) rfl
        refine s_icmp_ne k175 at_334 (by decide) (pc' := 341) (by decide) (pc3 := 337) rfl (fun hc334 => ?_) (fun hc334 => ?_)
        · refine s_iconst k175 (z := 1) at_337 (by decide) (pc' := 338) rfl ?_
          refine s_goto k175 at_338 (by decide) (pc' := 342) (by decide) ?_
          exact J176 _ (by rw [if_pos hc334])
        · refine s_iconst k175 (z := 0) at_341 (by decide) (pc' := 342) rfl ?_
          exact J176 _ (by rw [if_neg hc334])
      refine s_if_eq k0 at_49 (by decide) (pc' := 57) (by decide) (pc3 := 52) rfl (fun hc49 => ?_) (fun hc49 => ?_)
      · refine s_iloadN k0 at_57 rfl (pc' := 58) rfl ?_
        exact J154 _ (by rw [if_pos hc49])
      · refine s_iload k0 at_52 rfl (pc' := 54) rfl ?_
        refine s_goto k0 at_54 (by decide) (pc' := 58) (by decide) ?_
        exact J154 _ (by rw [if_neg hc49])
    refine s_if_eq k0 at_17 (by decide) (pc' := 24) (by decide) (pc3 := 20) rfl (fun hc17 => ?_) (fun hc17 => ?_)
    · refine s_iconst k0 (z := 0) at_24 (by decide) (pc' := 25) rfl ?_
      exact J153 _ (by rw [if_pos hc17])
    · refine s_iconst k0 (z := 1) at_20 (by decide) (pc' := 21) rfl ?_
      refine s_goto k0 at_21 (by decide) (pc' := 25) (by decide) ?_
      exact J153 _ (by rw [if_neg hc17])
  · rw [hk1]
    show Go p e below P T0 (mkF m 12 #[.val (.int i0), .val (.int i1), .val (.int i2), .val (.int i3), .val (.int (3 : Int32)), .val (.int ((Jvm.Free.XT.ushr i0 (2 : Int32)) &&& (3 : Int32))), .unset, .unset, .unset, .unset, .unset, .unset, .unset, .unset, .unset, .unset, .unset] [])
    refine s_iloadN k0 at_12 rfl (pc' := 13) rfl ?_
    refine s_iconst k0 (z := 4) at_13 (by decide) (pc' := 14) rfl ?_
    refine s_iushr k0 at_14 rfl (pc' := 15) rfl ?_
    refine s_iconst k0 (z := 1) at_15 (by decide) (pc' := 16) rfl ?_
    refine s_iand k0 at_16 rfl (pc' := 17) rfl ?_
    have J179 : ∀ (w17 : Int32) (e_w17 : w17 = (if ((Jvm.Free.XT.ushr i0 (4 : Int32)) &&& (1 : Int32)) = (0 : Int32) then (0 : Int32) else (1 : Int32))), Go p e below P T0 (mkF m 25 #[.val (.int i0), .val (.int i1), .val (.int i2), .val (.int i3), .val (.int (3 : Int32)), .val (.int ((Jvm.Free.XT.ushr i0 (2 : Int32)) &&& (3 : Int32))), .unset, .unset, .unset, .unset, .unset, .unset, .unset, .unset, .unset, .unset, .unset] [.int w17]) := by
      intro w17 e_w17
      refine s_istore k0 at_25 (l' := #[.val (.int i0), .val (.int i1), .val (.int i2), .val (.int i3), .val (.int (3 : Int32)), .val (.int ((Jvm.Free.XT.ushr i0 (2 : Int32)) &&& (3 : Int32))), .val (.int w17), .unset, .unset, .unset, .unset, .unset, .unset, .unset, .unset, .unset, .unset]) rfl (pc' := 27) rfl ?_
      refine s_iload k0 at_27 rfl (pc' := 29) rfl ?_
      refine s_if_ne k0 at_29 (by decide) (pc' := 40) (by decide) (pc3 := 32) rfl (fun hc29 => absurd hc29 (by decide)) (fun hc29 => ?_)
      refine s_iloadN k0 at_40 rfl (pc' := 41) rfl ?_
      refine s_sipush k0 (z := 255) at_41 (by decide) (pc' := 44) rfl ?_
      refine s_iand k0 at_44 rfl (pc' := 45) rfl ?_
      refine s_istore k0 at_45 (l' := #[.val (.int i0), .val (.int i1), .val (.int i2), .val (.int i3), .val (.int (3 : Int32)), .val (.int ((Jvm.Free.XT.ushr i0 (2 : Int32)) &&& (3 : Int32))), .val (.int w17), .val (.int (i2 &&& (255 : Int32))), .unset, .unset, .unset, .unset, .unset, .unset, .unset, .unset, .unset]) rfl (pc' := 47) rfl ?_
      refine s_iload k0 at_47 rfl (pc' := 49) rfl ?_
      have J180 : ∀ (w49 : Int32) (e_w49 : w49 = (if w17 = (0 : Int32) then i3 else (i2 &&& (255 : Int32)))), Go p e below P T0 (mkF m 58 #[.val (.int i0), .val (.int i1), .val (.int i2), .val (.int i3), .val (.int (3 : Int32)), .val (.int ((Jvm.Free.XT.ushr i0 (2 : Int32)) &&& (3 : Int32))), .val (.int w17), .val (.int (i2 &&& (255 : Int32))), .unset, .unset, .unset, .unset, .unset, .unset, .unset, .unset, .unset] [.int w49]) := by
        intro w49 e_w49
        refine s_istore k0 at_58 (l' := #[.val (.int i0), .val (.int i1), .val (.int i2), .val (.int i3), .val (.int (3 : Int32)), .val (.int ((Jvm.Free.XT.ushr i0 (2 : Int32)) &&& (3 : Int32))), .val (.int w17), .val (.int (i2 &&& (255 : Int32))), .val (.int w49), .unset, .unset, .unset, .unset, .unset, .unset, .unset, .unset]) rfl (pc' := 60) rfl ?_
        refine s_iload k0 at_60 rfl (pc' := 62) rfl ?_
        refine s_if_ne k0 at_62 (by decide) (pc' := 112) (by decide) (pc3 := 65) rfl (fun hc62 => absurd hc62 (by decide)) (fun hc62 => ?_)
        refine s_iload k0 at_112 rfl (pc' := 114) rfl ?_
        refine s_iconst k0 (z := 1) at_114 (by decide) (pc' := 115) rfl ?_
        refine s_icmp_ne k0 at_115 (by decide) (pc' := 150) (by decide) (pc3 := 118) rfl (fun hc115 => absurd hc115 (by decide)) (fun hc115 => ?_)
        refine s_iconst k0 (z := 3) at_150 (by decide) (pc' := 151) rfl ?_
        refine s_newP k0 (cap := 3) at_151 (hw _ (List.mem_of_getElem? (i := 0) rfl)) (by decide) (by decide) (by decide) (by decide) (by decide) (pc' := 153) rfl fun T181 h181 b181 c181 q181 k181 X181 A181 => ?_
        have g_b181 : n0 ≤ b181 := Nat.le_trans Z0 (Nat.le_of_eq q181.symm)
        have Z182 := Nat.le_trans Z0 X181.1
        have A181p : Arv Z h181 b181 c181 .byte (3 : Int32) [(.int (0 : Int32)), (.int (0 : Int32)), (.int (0 : Int32))] (.int (0 : Int32)) := (show Arv Z h181 b181 c181 .byte (3 : Int32) [] (.int (0 : Int32)) from A181).pad (pad_rep [] _ 3)
        refine s_astore k181 at_153 rfl (l' := #[.val (.int i0), .val (.int i1), .val (.int i2), .val (.int i3), .val (.int (3 : Int32)), .val (.int ((Jvm.Free.XT.ushr i0 (2 : Int32)) &&& (3 : Int32))), .val (.int w17), .val (.int (i2 &&& (255 : Int32))), .val (.int w49), .val (.ref b181), .unset, .unset, .unset, .unset, .unset, .unset, .unset]) rfl (pc' := 155) rfl ?_
        refine s_aload k181 at_155 rfl rfl (pc' := 157) rfl ?_
        refine s_iconst k181 (z := 0) at_157 (by decide) (pc' := 158) rfl ?_
        refine s_bipush k181 (z := 48) at_158 (by decide) (pc' := 160) rfl ?_
        refine s_bastore k181 at_160 A181p ⟨by decide, by decide⟩ (i := 0) rfl (Nat.le_of_ble_eq_true rfl) (y := (48 : Int32)) (by decide) g_b181 (pc' := 161) rfl fun T183 h183 L183 k183 W183 A183 => ?_
        have Z184 := Nat.le_trans Z182 (Keep.of_wr W183).1
        refine s_aload k183 at_161 rfl rfl (pc' := 163) rfl ?_
        refine s_iconst k183 (z := 1) at_163 (by decide) (pc' := 164) rfl ?_
        refine s_iload k183 at_164 rfl (pc' := 166) rfl ?_
        refine s_iconst k183 (z := 2) at_166 (by decide) (pc' := 167) rfl ?_
        refine s_isub k183 (z := (1 : Int32)) at_167 (by decide) (pc' := 168) rfl ?_
        refine s_i2b k183 (z := (1 : Int32)) at_168 (by decide) (pc' := 169) rfl ?_
        refine s_bastore k183 at_169 A183 ⟨by decide, by decide⟩ (i := 1) rfl (Nat.le_of_ble_eq_true rfl) (y := (1 : Int32)) (by decide) g_b181 (pc' := 170) rfl fun T185 h185 L185 k185 W185 A185 => ?_
        have Z186 := Nat.le_trans Z184 (Keep.of_wr W185).1
        refine s_aload k185 at_170 rfl rfl (pc' := 172) rfl ?_
        refine s_iconst k185 (z := 2) at_172 (by decide) (pc' := 173) rfl ?_
        refine s_iloadN k185 at_173 rfl (pc' := 174) rfl ?_
        refine s_i2b k185 at_174 rfl (pc' := 175) rfl ?_
        refine s_bastore k185 at_175 A185 ⟨by decide, by decide⟩ (i := 2) rfl (Nat.le_of_ble_eq_true rfl) (y := i2.toInt8.toInt32.toInt8.toInt32) rfl g_b181 (pc' := 176) rfl fun T187 h187 L187 k187 W187 A187 => ?_
        have Z188 := Nat.le_trans Z186 (Keep.of_wr W187).1
        refine s_new k187 at_176 (hw _ (List.mem_of_getElem? (i := 1) rfl)) (hw _ (List.mem_of_getElem? (i := 2) rfl)) (hw _ (List.mem_of_getElem? (i := 3) rfl)) (by decide) (by decide) (pc' := 179) rfl fun T189 h189 b189 q189 k189 X189 E189 D189 => ?_
        have ne_b181_b189 : b181 ≠ b189 := Nat.ne_of_lt (Nat.lt_of_lt_of_eq A187.lt q189.symm)
        have g_b189 : n0 ≤ b189 := Nat.le_trans Z188 (Nat.le_of_eq q189.symm)
        have A190_b181 := A187.ext X189
        have Z191 := Nat.le_trans Z188 X189.1
        have F189_b189_bytes : Fld Z h189 b189 "io/credsmith/Der" "bytes" "[B" .null := D189 (Or.inr (hw _ (List.mem_of_getElem? (i := 14) rfl))) (ty := (.array .byte)) (by decide)
        have F189_b189_at : Fld Z h189 b189 "io/credsmith/Der" "at" "I" (.int (0 : Int32)) := D189 (Or.inl (hw _ (List.mem_of_getElem? (i := 16) rfl))) (ty := .int) (by decide)
        have F189_b189_end : Fld Z h189 b189 "io/credsmith/Der" "end" "I" (.int (0 : Int32)) := D189 (Or.inr (hw _ (List.mem_of_getElem? (i := 18) rfl))) (ty := .int) (by decide)
        refine s_dup k189 at_179 rfl (pc' := 180) rfl ?_
        refine s_aload k189 at_180 rfl rfl (pc' := 182) rfl ?_
        refine s_callI k189 [.ref b181] 1 at_182 rfl (hw _ (List.mem_of_getElem? (i := 4) rfl)) (hw _ (List.mem_of_getElem? (i := 5) rfl)) (hw _ (List.mem_of_getElem? (i := 3) rfl)) (hw _ (List.mem_of_getElem? (i := 6) rfl)) (by decide) (rmi1 l Z a0 hw b189 b181 c181 (3 : Int32) [.int (48 : Int32), .int (1 : Int32), .int i2.toInt8.toInt32.toInt8.toInt32] h189 n0 Z191 E189 F189_b189_bytes F189_b189_at F189_b189_end g_b189 A190_b181 ne_b181_b189) (by decide) (by decide) pd__28_5bB_29V rfl (Nat.le_of_eq rfl) rfl (by decide) (by decide) rfl (pc' := 185) rfl fun v192 T192 h192 L192 k192 Qv192 => ?_
        obtain ⟨rfl, Kc192, G192_0, G192_1, G192_2⟩ := Qv192
        have E193_b189 := E189.keep Kc192
        have A194_b181 := A190_b181.keep Kc192 (ninS ne_b181_b189 nin0)
        have Z195 := Nat.le_trans Z191 Kc192.1
        show Go p e below P T192 (mkF m 185 #[.val (.int i0), .val (.int i1), .val (.int i2), .val (.int i3), .val (.int (3 : Int32)), .val (.int ((Jvm.Free.XT.ushr i0 (2 : Int32)) &&& (3 : Int32))), .val (.int w17), .val (.int (i2 &&& (255 : Int32))), .val (.int w49), .val (.ref b181), .unset, .unset, .unset, .unset, .unset, .unset, .unset] [.ref b189])
        refine s_astore k192 at_185 rfl (l' := #[.val (.int i0), .val (.int i1), .val (.int i2), .val (.int i3), .val (.int (3 : Int32)), .val (.int ((Jvm.Free.XT.ushr i0 (2 : Int32)) &&& (3 : Int32))), .val (.int w17), .val (.int (i2 &&& (255 : Int32))), .val (.int w49), .val (.ref b181), .val (.ref b189), .unset, .unset, .unset, .unset, .unset, .unset]) rfl (pc' := 187) rfl ?_
        refine s_iconst k192 (z := 1) at_187 (by decide) (pc' := 188) rfl ?_
        refine s_istore k192 at_188 (l' := #[.val (.int i0), .val (.int i1), .val (.int i2), .val (.int i3), .val (.int (3 : Int32)), .val (.int ((Jvm.Free.XT.ushr i0 (2 : Int32)) &&& (3 : Int32))), .val (.int w17), .val (.int (i2 &&& (255 : Int32))), .val (.int w49), .val (.ref b181), .val (.ref b189), .unset, .val (.int (1 : Int32)), .unset, .unset, .unset, .unset]) rfl (pc' := 190) rfl ?_
        refine s_iload k192 at_190 rfl (pc' := 192) rfl ?_
        refine s_if_ne k192 at_192 (by decide) (pc' := 217) (by decide) (pc3 := 195) rfl (fun hc192 => absurd hc192 (by decide)) (fun hc192 => ?_)
        refine s_iload k192 at_217 rfl (pc' := 219) rfl ?_
        refine s_iconst k192 (z := 1) at_219 (by decide) (pc' := 220) rfl ?_
        refine s_icmp_ne k192 at_220 (by decide) (pc' := 258) (by decide) (pc3 := 223) rfl (fun hc220 => absurd hc220 (by decide)) (fun hc220 => ?_)
        refine s_aload k192 at_258 rfl rfl (pc' := 260) rfl ?_
        refine s_callV k192 [] 0 at_260 (hw _ (List.mem_of_getElem? (i := 24) rfl)) (hw _ (List.mem_of_getElem? (i := 25) rfl)) (hw _ (List.mem_of_getElem? (i := 27) rfl)) (hw _ (List.mem_of_getElem? (i := 26) rfl)) (hw _ (List.mem_of_getElem? (i := 3) rfl)) (hw _ (List.mem_of_getElem? (i := 28) rfl)) (by decide) E193_b189 (rmq1 l Z a0 hw b189 b181 c181 i2.toInt8.toInt32.toInt8.toInt32 h192 n0 Z195 E193_b189 G192_0 G192_1 G192_2 g_b189 A194_b181 ne_b181_b189) (by decide) (by decide) pd__28_29Lio_2fcredsmith_2fDer_3b rfl (Nat.le_of_eq rfl) rfl (by decide) (by decide) rfl (pc' := 263) rfl fun v196 T196 h196 L196 k196 Qv196 => ?_
        obtain ⟨b196, rfl, q196, Kc196, E196, G196_0, G196_1, G196_2, G196_3, G196_4, G196_5⟩ := Qv196
        have ne_b189_b196 : b189 ≠ b196 := Nat.ne_of_lt (Nat.lt_of_lt_of_le E193_b189.lt q196)
        have ne_b181_b196 : b181 ≠ b196 := Nat.ne_of_lt (Nat.lt_of_lt_of_le A194_b181.lt q196)
        have g_b196 : n0 ≤ b196 := Nat.le_trans Z195 q196
        have E197_b189 := E193_b189.keep Kc196
        have A198_b181 := A194_b181.keep Kc196 (ninS ne_b181_b189 nin0)
        have Z199 := Nat.le_trans Z195 Kc196.1
        show Go p e below P T196 (mkF m 263 #[.val (.int i0), .val (.int i1), .val (.int i2), .val (.int i3), .val (.int (3 : Int32)), .val (.int ((Jvm.Free.XT.ushr i0 (2 : Int32)) &&& (3 : Int32))), .val (.int w17), .val (.int (i2 &&& (255 : Int32))), .val (.int w49), .val (.ref b181), .val (.ref b189), .unset, .val (.int (1 : Int32)), .unset, .unset, .unset, .unset] [.ref b196])
        refine s_astore k196 at_263 rfl (l' := #[.val (.int i0), .val (.int i1), .val (.int i2), .val (.int i3), .val (.int (3 : Int32)), .val (.int ((Jvm.Free.XT.ushr i0 (2 : Int32)) &&& (3 : Int32))), .val (.int w17), .val (.int (i2 &&& (255 : Int32))), .val (.int w49), .val (.ref b181), .val (.ref b189), .unset, .val (.int (1 : Int32)), .val (.ref b196), .unset, .unset, .unset]) rfl (pc' := 265) rfl ?_
        refine s_aload k196 at_265 rfl rfl (pc' := 267) rfl ?_
        refine s_iload k196 at_267 rfl (pc' := 269) rfl ?_
        refine s_callV k196 [.int w49] 0 at_269 (hw _ (List.mem_of_getElem? (i := 19) rfl)) (hw _ (List.mem_of_getElem? (i := 20) rfl)) (hw _ (List.mem_of_getElem? (i := 22) rfl)) (hw _ (List.mem_of_getElem? (i := 21) rfl)) (hw _ (List.mem_of_getElem? (i := 3) rfl)) (hw _ (List.mem_of_getElem? (i := 23) rfl)) (by decide) E196 (rmn1 l Z a0 hw b196 b181 c181 (3 : Int32) [.int (48 : Int32), .int (1 : Int32), .int i2.toInt8.toInt32.toInt8.toInt32] (2 : Int32) (3 : Int32) w49 i2.toInt8.toInt32.toInt8.toInt32 h196 n0 Z199 G196_0 G196_1 G196_2 A198_b181 (by decide) ⟨by decide, by decide⟩ rfl) (by decide) (by decide) pd__28I_29Z rfl (Nat.le_of_eq rfl) rfl (by decide) (by decide) rfl (pc' := 272) rfl fun v200 T200 h200 L200 k200 Qv200 => ?_
        obtain ⟨rfl, rfl⟩ := Qv200
        show Go p e below P T200 (mkF m 272 #[.val (.int i0), .val (.int i1), .val (.int i2), .val (.int i3), .val (.int (3 : Int32)), .val (.int ((Jvm.Free.XT.ushr i0 (2 : Int32)) &&& (3 : Int32))), .val (.int w17), .val (.int (i2 &&& (255 : Int32))), .val (.int w49), .val (.ref b181), .val (.ref b189), .unset, .val (.int (1 : Int32)), .val (.ref b196), .unset, .unset, .unset] [.int (fx i2.toInt8.toInt32.toInt8.toInt32 w49)])
        refine s_istore k200 at_272 (l' := #[.val (.int i0), .val (.int i1), .val (.int i2), .val (.int i3), .val (.int (3 : Int32)), .val (.int ((Jvm.Free.XT.ushr i0 (2 : Int32)) &&& (3 : Int32))), .val (.int w17), .val (.int (i2 &&& (255 : Int32))), .val (.int w49), .val (.ref b181), .val (.ref b189), .unset, .val (.int (1 : Int32)), .val (.ref b196), .val (.int (fx i2.toInt8.toInt32.toInt8.toInt32 w49)), .unset, .unset]) rfl (pc' := 274) rfl ?_
        refine s_aload k200 at_274 rfl rfl (pc' := 276) rfl ?_
        refine s_iload k200 at_276 rfl (pc' := 278) rfl ?_
        refine s_callV k200 [.int w49] 0 at_278 (hw _ (List.mem_of_getElem? (i := 19) rfl)) (hw _ (List.mem_of_getElem? (i := 20) rfl)) (hw _ (List.mem_of_getElem? (i := 22) rfl)) (hw _ (List.mem_of_getElem? (i := 21) rfl)) (hw _ (List.mem_of_getElem? (i := 3) rfl)) (hw _ (List.mem_of_getElem? (i := 23) rfl)) (by decide) E196 (rmn1 l Z a0 hw b196 b181 c181 (3 : Int32) [.int (48 : Int32), .int (1 : Int32), .int i2.toInt8.toInt32.toInt8.toInt32] (2 : Int32) (3 : Int32) w49 i2.toInt8.toInt32.toInt8.toInt32 h196 n0 Z199 G196_0 G196_1 G196_2 A198_b181 (by decide) ⟨by decide, by decide⟩ rfl) (by decide) (by decide) pd__28I_29Z rfl (Nat.le_of_eq rfl) rfl (by decide) (by decide) rfl (pc' := 281) rfl fun v201 T201 h201 L201 k201 Qv201 => ?_
        obtain ⟨rfl, rfl⟩ := Qv201
        show Go p e below P T201 (mkF m 281 #[.val (.int i0), .val (.int i1), .val (.int i2), .val (.int i3), .val (.int (3 : Int32)), .val (.int ((Jvm.Free.XT.ushr i0 (2 : Int32)) &&& (3 : Int32))), .val (.int w17), .val (.int (i2 &&& (255 : Int32))), .val (.int w49), .val (.ref b181), .val (.ref b189), .unset, .val (.int (1 : Int32)), .val (.ref b196), .val (.int (fx i2.toInt8.toInt32.toInt8.toInt32 w49)), .unset, .unset] [.int (fx i2.toInt8.toInt32.toInt8.toInt32 w49)])
        refine s_istore k201 at_281 (l' := #[.val (.int i0), .val (.int i1), .val (.int i2), .val (.int i3), .val (.int (3 : Int32)), .val (.int ((Jvm.Free.XT.ushr i0 (2 : Int32)) &&& (3 : Int32))), .val (.int w17), .val (.int (i2 &&& (255 : Int32))), .val (.int w49), .val (.ref b181), .val (.ref b189), .unset, .val (.int (1 : Int32)), .val (.ref b196), .val (.int (fx i2.toInt8.toInt32.toInt8.toInt32 w49)), .val (.int (fx i2.toInt8.toInt32.toInt8.toInt32 w49)), .unset]) rfl (pc' := 283) rfl ?_
        refine s_iload k201 at_283 rfl (pc' := 285) rfl ?_
        refine s_iconst k201 (z := 3) at_285 (by decide) (pc' := 286) rfl ?_
        refine s_icmp_ne k201 at_286 (by decide) (pc' := 300) (by decide) (pc3 := 289) rfl (fun hc286 => ?_) (fun hc286 => absurd (by decide) hc286)
        refine s_iload k201 at_289 rfl (pc' := 291) rfl ?_
        refine s_iload k201 at_291 rfl (pc' := 293) rfl ?_
        have J202 : ∀ (w293 : Int32) (e_w293 : w293 = (if (i2 &&& (255 : Int32)) = w49 then (1 : Int32) else (0 : Int32))), Go p e below P T201 (mkF m 301 #[.val (.int i0), .val (.int i1), .val (.int i2), .val (.int i3), .val (.int (3 : Int32)), .val (.int ((Jvm.Free.XT.ushr i0 (2 : Int32)) &&& (3 : Int32))), .val (.int w17), .val (.int (i2 &&& (255 : Int32))), .val (.int w49), .val (.ref b181), .val (.ref b189), .unset, .val (.int (1 : Int32)), .val (.ref b196), .val (.int (fx i2.toInt8.toInt32.toInt8.toInt32 w49)), .val (.int (fx i2.toInt8.toInt32.toInt8.toInt32 w49)), .unset] [.int w293]) := by
          intro w293 e_w293
          refine s_istore k201 at_301 (l' := #[.val (.int i0), .val (.int i1), .val (.int i2), .val (.int i3), .val (.int (3 : Int32)), .val (.int ((Jvm.Free.XT.ushr i0 (2 : Int32)) &&& (3 : Int32))), .val (.int w17), .val (.int (i2 &&& (255 : Int32))), .val (.int w49), .val (.ref b181), .val (.ref b189), .unset, .val (.int (1 : Int32)), .val (.ref b196), .val (.int (fx i2.toInt8.toInt32.toInt8.toInt32 w49)), .val (.int (fx i2.toInt8.toInt32.toInt8.toInt32 w49)), .val (.int w293)]) rfl (pc' := 303) rfl ?_
          refine s_iload k201 at_303 rfl (pc' := 305) rfl ?_
          refine s_iload k201 at_305 rfl (pc' := 307) rfl ?_
          refine s_icmp_ne k201 at_307 (by decide) (pc' := 321) (by decide) (pc3 := 310) rfl (fun hc307 => ?_) (fun hc307 => absurd ((own_fx i2 w49).trans e_w293.symm) hc307)
          refine s_iload k201 at_310 rfl (pc' := 312) rfl ?_
          refine s_iload k201 at_312 rfl (pc' := 314) rfl ?_
          refine s_icmp_ne k201 at_314 (by decide) (pc' := 321) (by decide) (pc3 := 317) rfl (fun hc314 => ?_) (fun hc314 => absurd ((own_fx i2 w49).trans e_w293.symm) hc314)
          refine s_iconst k201 (z := 1) at_317 (by decide) (pc' := 318) rfl ?_
          refine s_goto k201 at_318 (by decide) (pc' := 322) (by decide) ?_
          refine s_istore k201 at_322 (l' := #[.val (.int i0), .val (.int i1), .val (.int i2), .val (.int i3), .val (.int (3 : Int32)), .val (.int ((Jvm.Free.XT.ushr i0 (2 : Int32)) &&& (3 : Int32))), .val (.int w17), .val (.int (i2 &&& (255 : Int32))), .val (.int w49), .val (.ref b181), .val (.ref b189), .unset, .val (.int (1 : Int32)), .val (.ref b196), .val (.int (fx i2.toInt8.toInt32.toInt8.toInt32 w49)), .val (.int (fx i2.toInt8.toInt32.toInt8.toInt32 w49)), .val (.int w293)]) rfl (pc' := 324) rfl ?_
          refine s_iload k201 at_324 rfl (pc' := 326) rfl ?_
          refine s_iconst k201 (z := 2) at_326 (by decide) (pc' := 327) rfl ?_
          refine s_icmp_ne k201 at_327 (by decide) (pc' := 341) (by decide) (pc3 := 330) rfl (fun hc327 => absurd hc327 (by decide)) (fun hc327 => ?_)
          refine s_iconst k201 (z := 0) at_341 (by decide) (pc' := 342) rfl ?_
          refine s_istore k201 at_342 (l' := #[.val (.int i0), .val (.int i1), .val (.int i2), .val (.int i3), .val (.int (3 : Int32)), .val (.int ((Jvm.Free.XT.ushr i0 (2 : Int32)) &&& (3 : Int32))), .val (.int w17), .val (.int (i2 &&& (255 : Int32))), .val (.int w49), .val (.ref b181), .val (.ref b189), .val (.int (0 : Int32)), .val (.int (1 : Int32)), .val (.ref b196), .val (.int (fx i2.toInt8.toInt32.toInt8.toInt32 w49)), .val (.int (fx i2.toInt8.toInt32.toInt8.toInt32 w49)), .val (.int w293)]) rfl (pc' := 344) rfl ?_
          refine s_aload k201 at_344 rfl rfl (pc' := 346) rfl ?_
          refine s_iload k201 at_346 rfl (pc' := 348) rfl ?_
          refine s_callV k201 [.int w49] 0 at_348 (hw _ (List.mem_of_getElem? (i := 19) rfl)) (hw _ (List.mem_of_getElem? (i := 20) rfl)) (hw _ (List.mem_of_getElem? (i := 22) rfl)) (hw _ (List.mem_of_getElem? (i := 21) rfl)) (hw _ (List.mem_of_getElem? (i := 3) rfl)) (hw _ (List.mem_of_getElem? (i := 23) rfl)) (by decide) E197_b189 (rmn0 l Z a0 hw b189 b181 (3 : Int32) (3 : Int32) w49 h196 n0 Z199 G196_3 G196_4 G196_5 (by decide)) (by decide) (by decide) pd__28I_29Z rfl (Nat.le_of_eq rfl) rfl (by decide) (by decide) rfl (pc' := 351) rfl fun v203 T203 h203 L203 k203 Qv203 => ?_
          obtain ⟨rfl, rfl⟩ := Qv203
          show Go p e below P T203 (mkF m 351 #[.val (.int i0), .val (.int i1), .val (.int i2), .val (.int i3), .val (.int (3 : Int32)), .val (.int ((Jvm.Free.XT.ushr i0 (2 : Int32)) &&& (3 : Int32))), .val (.int w17), .val (.int (i2 &&& (255 : Int32))), .val (.int w49), .val (.ref b181), .val (.ref b189), .val (.int (0 : Int32)), .val (.int (1 : Int32)), .val (.ref b196), .val (.int (fx i2.toInt8.toInt32.toInt8.toInt32 w49)), .val (.int (fx i2.toInt8.toInt32.toInt8.toInt32 w49)), .val (.int w293)] [.int (0 : Int32)])
          refine s_istore k203 at_351 (l' := #[.val (.int i0), .val (.int i1), .val (.int i2), .val (.int i3), .val (.int (3 : Int32)), .val (.int ((Jvm.Free.XT.ushr i0 (2 : Int32)) &&& (3 : Int32))), .val (.int w17), .val (.int (i2 &&& (255 : Int32))), .val (.int w49), .val (.ref b181), .val (.ref b189), .val (.int (0 : Int32)), .val (.int (1 : Int32)), .val (.int (0 : Int32)), .val (.int (fx i2.toInt8.toInt32.toInt8.toInt32 w49)), .val (.int (fx i2.toInt8.toInt32.toInt8.toInt32 w49)), .val (.int w293)]) rfl (pc' := 353) rfl ?_
          refine s_aload k203 at_353 rfl rfl (pc' := 355) rfl ?_
          refine s_iload k203 at_355 rfl (pc' := 357) rfl ?_
          refine s_callV k203 [.int w49] 0 at_357 (hw _ (List.mem_of_getElem? (i := 19) rfl)) (hw _ (List.mem_of_getElem? (i := 20) rfl)) (hw _ (List.mem_of_getElem? (i := 22) rfl)) (hw _ (List.mem_of_getElem? (i := 21) rfl)) (hw _ (List.mem_of_getElem? (i := 3) rfl)) (hw _ (List.mem_of_getElem? (i := 23) rfl)) (by decide) E197_b189 (rmn0 l Z a0 hw b189 b181 (3 : Int32) (3 : Int32) w49 h196 n0 Z199 G196_3 G196_4 G196_5 (by decide)) (by decide) (by decide) pd__28I_29Z rfl (Nat.le_of_eq rfl) rfl (by decide) (by decide) rfl (pc' := 360) rfl fun v204 T204 h204 L204 k204 Qv204 => ?_
          obtain ⟨rfl, rfl⟩ := Qv204
          show Go p e below P T204 (mkF m 360 #[.val (.int i0), .val (.int i1), .val (.int i2), .val (.int i3), .val (.int (3 : Int32)), .val (.int ((Jvm.Free.XT.ushr i0 (2 : Int32)) &&& (3 : Int32))), .val (.int w17), .val (.int (i2 &&& (255 : Int32))), .val (.int w49), .val (.ref b181), .val (.ref b189), .val (.int (0 : Int32)), .val (.int (1 : Int32)), .val (.int (0 : Int32)), .val (.int (fx i2.toInt8.toInt32.toInt8.toInt32 w49)), .val (.int (fx i2.toInt8.toInt32.toInt8.toInt32 w49)), .val (.int w293)] [.int (0 : Int32)])
          refine s_istore k204 at_360 (l' := #[.val (.int i0), .val (.int i1), .val (.int i2), .val (.int i3), .val (.int (3 : Int32)), .val (.int ((Jvm.Free.XT.ushr i0 (2 : Int32)) &&& (3 : Int32))), .val (.int w17), .val (.int (i2 &&& (255 : Int32))), .val (.int w49), .val (.ref b181), .val (.ref b189), .val (.int (0 : Int32)), .val (.int (1 : Int32)), .val (.int (0 : Int32)), .val (.int (0 : Int32)), .val (.int (fx i2.toInt8.toInt32.toInt8.toInt32 w49)), .val (.int w293)]) rfl (pc' := 362) rfl ?_
          refine s_iload k204 at_362 rfl (pc' := 364) rfl ?_
          refine s_if_eq k204 at_364 (by decide) (pc' := 385) (by decide) (pc3 := 367) rfl (fun hc364 => absurd hc364 (by decide)) (fun hc364 => ?_)
          refine s_iload k204 at_367 rfl (pc' := 369) rfl ?_
          refine s_iload k204 at_369 rfl (pc' := 371) rfl ?_
          refine s_icmp_ne k204 at_371 (by decide) (pc' := 385) (by decide) (pc3 := 374) rfl (fun hc371 => ?_) (fun hc371 => absurd (by decide) hc371)
          refine s_iload k204 at_374 rfl (pc' := 376) rfl ?_
          refine s_iload k204 at_376 rfl (pc' := 378) rfl ?_
          refine s_icmp_ne k204 at_378 (by decide) (pc' := 385) (by decide) (pc3 := 381) rfl (fun hc378 => ?_) (fun hc378 => absurd (by decide) hc378)
          refine s_iconst k204 (z := 1) at_381 (by decide) (pc' := 382) rfl ?_
          refine s_goto k204 at_382 (by decide) (pc' := 386) (by decide) ?_
          exact s_retZ k204 at_386 rfl (by decide) hP (by decide) (by decide) rfl
        refine s_icmp_ne k201 at_293 (by decide) (pc' := 300) (by decide) (pc3 := 296) rfl (fun hc293 => ?_) (fun hc293 => ?_)
        · refine s_iconst k201 (z := 1) at_296 (by decide) (pc' := 297) rfl ?_
          refine s_goto k201 at_297 (by decide) (pc' := 301) (by decide) ?_
          exact J202 _ (by rw [if_pos hc293])
        · refine s_iconst k201 (z := 0) at_300 (by decide) (pc' := 301) rfl ?_
          exact J202 _ (by rw [if_neg hc293])
      refine s_if_eq k0 at_49 (by decide) (pc' := 57) (by decide) (pc3 := 52) rfl (fun hc49 => ?_) (fun hc49 => ?_)
      · refine s_iloadN k0 at_57 rfl (pc' := 58) rfl ?_
        exact J180 _ (by rw [if_pos hc49])
      · refine s_iload k0 at_52 rfl (pc' := 54) rfl ?_
        refine s_goto k0 at_54 (by decide) (pc' := 58) (by decide) ?_
        exact J180 _ (by rw [if_neg hc49])
    refine s_if_eq k0 at_17 (by decide) (pc' := 24) (by decide) (pc3 := 20) rfl (fun hc17 => ?_) (fun hc17 => ?_)
    · refine s_iconst k0 (z := 0) at_24 (by decide) (pc' := 25) rfl ?_
      exact J179 _ (by rw [if_pos hc17])
    · refine s_iconst k0 (z := 1) at_20 (by decide) (pc' := 21) rfl ?_
      refine s_goto k0 at_21 (by decide) (pc' := 25) (by decide) ?_
      exact J179 _ (by rw [if_neg hc17])
set_option maxRecDepth 65536 in
set_option maxHeartbeats 40000000 in
theorem comes_1 {Post : Tables → Env → Array Value → State → Outcome → State → Prop} (hpost : ∀ tb e args s v u, (limb_1_1.after args s (.returned v) u = true ∧ limb_1_2.after args s (.returned v) u = true ∧ True) → FrameEnd s (.returned v) u (Jvm.fieldLocs frame_1_writes args s ++ Jvm.arrayLocs frame_1_arrays args s ++ Jvm.staticLocs frame_1_statics s) 16 128 → Post tb e args s (.returned v) u) :
    ArmFor flags0 classFile x code maxLocals ret World_1 tables_1 room_1 Calls_1 rest_1 Pre_1 Post := by
  intro l hfl _ _ p e ha hc hk s m args below hf hA hF happ hP
  obtain ⟨hcalls, hrest, hpre⟩ := hP
  obtain ⟨-, -, -, hnamed, -, -, -, hat⟩ := (Spec.applies_iff hf).mp happ
  obtain ⟨hg, hn⟩ := and_e (Cond.before_iff.mp (show (Jvm.Cond.and given_1 narrow_1).before args s = true from hpre))
  obtain ⟨gc, gr0⟩ := and_e hg
  obtain ⟨w0, w1, w2, w3, rfl⟩ : ∃ w0 w1 w2 w3 : Value, args = #[w0, w1, w2, w3] := by
    have hs : args.size = 4 := by simpa [Cond.value, given_1] using gc
    obtain ⟨L⟩ := args
    match L, hs with
    | [w0, w1, w2, w3], _ => exact ⟨w0, w1, w2, w3, rfl⟩
  have hw := fun d (hd : d ∈ tables_1) => atoms_spec (ws := Jvm.Cond.code x code maxLocals ret :: tables_1) hat d (List.mem_cons_of_mem _ hd)
  obtain ⟨ga0, gr1⟩ := and_e gr0
  obtain ⟨i0, ei0⟩ := is_v ga0
  obtain rfl : w0 = (.int i0) := Option.some.inj ei0
  obtain ⟨ga1, gr2⟩ := and_e gr1
  obtain ⟨i1, ei1⟩ := is_v ga1
  obtain rfl : w1 = (.int i1) := Option.some.inj ei1
  obtain ⟨ga2, gr3⟩ := and_e gr2
  obtain ⟨i2, ei2⟩ := is_v ga2
  obtain rfl : w2 = (.int i2) := Option.some.inj ei2
  have ga3 := gr3
  obtain ⟨i3, ei3⟩ := is_v ga3
  obtain rfl : w3 = (.int i3) := Option.some.inj ei3
  obtain ⟨n, o, h1, h2, h3, _, L, rfl, ⟨rfl, N⟩, hq⟩ := rm0 l s _ hw i0 i1 i2 i3 s.heap s.heap.size (Nat.le_refl _)  tables_1 p e ha hc hk s m _ below hf ((Spec.applies_iff_loose hf).mp happ).1 ⟨rfl, State.Warmed39.refl s, rfl⟩ trivial
  refine ⟨n, _, h1, h2, h3, hpost _ _ _ _ _ _ ⟨Cond.after_iff.mpr rfl, Cond.after_iff.mpr (eq_i res_at (Term.int_eval (1)) rfl), trivial⟩ ⟨hq.1, hq.2.1, (hq.2.2.sift fun y hy => Or.inr (N y hy)).mono (by decide) (by decide)⟩⟩
theorem main_1_1 : Claimed_1_1 := comes_1 fun _ _ _ _ _ _ h hF => ⟨h.1, hF⟩
theorem main_1_2 : Claimed_1_2 := comes_1 fun _ _ _ _ _ _ h hF => ⟨h.2.1, hF⟩
end Jvm.Pilot.@@N@@
namespace Jvm.Pilot.@@N@@
open Jvm Jvm.ClassFile Sem Op Lib Jvm.Free Jvm.Stand Jvm.Pilot.@@N@@.Jvm.D
/-! MADE BY PROGRAM (witnessworld.py) out of the Statement's table words and the real class files: 12 classes; the members and pool entries that the words name. The judged class is class 1, her method 1. -/
namespace start1
open Jvm.ClassFile
def u (s : String) : CpInfo := .utf8 (stringToUtf16 s)
/-- a pool by its gaps: so many unusable entries, then the entry; so many at the end -/
def gap : Nat → List CpInfo → List CpInfo
  | 0, r => r
  | n + 1, r => .unusable :: gap n r
def poolList (es : List (Nat × CpInfo)) (last : Nat) : List CpInfo := es.foldr (fun e r => gap e.1 (e.2 :: r)) (gap last [])
def pool (es : List (Nat × CpInfo)) (last : Nat) : Array CpInfo := ⟨poolList es last⟩
def fileOf (pool : Array CpInfo) (this : Nat) (attrs : Array Attribute := #[]) (ms : Array MethodInfo := #[]) (fl : Nat := 33) (sup : Nat := 0) (ifs : Array Nat := #[]) (fds : Array FieldInfo := #[]) : ClassFile where
  minorVersion := 0
  majorVersion := 65
  constantPool := pool
  accessFlags := fl
  thisClass := this
  superClass := sup
  interfaces := ifs
  fields := fds
  methods := ms
  attributes := attrs
def plain (name : String) (sup : Option ClassId) : Class where
  name := name
  kind := .ordinary
  loader := none
  accessFlags := 33
  super := sup
  interfaces := #[]
  cf := none
  fields := #[]
  methods := #[]
  instanceTypes := #[]
  staticTypes := #[]
  resolved := #[]
  callSites := []
  init := .initialized
  statics := none
  mirror := none

def pool0 : Array CpInfo := pool [(5, u "<init>"), (0, u "()V"), (1, .class_ 10), (1, u "java/lang/Object")] 113

def k0c0 : Code := { maxStack := 0, maxLocals := 1, code := object_method_1_code, exceptionTable := #[], attributes := #[] }
def k0m0 : Method := { name := "<init>", desc := "()V", sig := { parameters := [], returnType := none }, accessFlags := 1, code := some k0c0 }
/-- java/lang/Object -/
def k0 : Class := { plain "java/lang/Object" none with
  accessFlags := 33
  interfaces := #[]
  cf := some (fileOf pool0 8 #[] #[{ accessFlags := 1, nameIndex := 5, descriptorIndex := 6, attributes := #[] }] 33 0 #[] #[])
  fields := #[]
  methods := #[k0m0]
  instanceTypes := #[]
  staticTypes := #[]
  resolved := Array.replicate 124 none
  statics := none }

def pool1 : Array CpInfo := pool [(2, .class_ 4), (1, u "java/lang/Object"), (0, u "<init>"), (0, u "()V"), (0, .class_ 8), (0, u "io/credsmith/Der"), (0, .methodref 7 10), (0, .nameAndType 5 11), (0, u "([B)V"), (0, .methodref 7 13), (0, .nameAndType 14 15), (0, u "next"), (0, u "(I)[B"), (0, .methodref 7 17), (0, .nameAndType 18 19), (0, u "sequence"), (0, u "()Lio/credsmith/Der;"), (0, .methodref 7 21), (0, .nameAndType 22 23), (0, u "nextIs"), (0, u "(I)Z"), (0, .class_ 25), (0, u "io/credsmith/DerNextIsPinLaw"), (2, u "law"), (0, u "(IIII)Z")] 8

def k1m0 : Method := { name := "<init>", desc := "()V", sig := { parameters := [], returnType := none }, accessFlags := 1, code := none }
def k1c1 : Code := { maxStack := 4, maxLocals := 17, code := code, exceptionTable := #[], attributes := #[] }
def k1m1 : Method := { name := "law", desc := "(IIII)Z", sig := { parameters := [.int, .int, .int, .int], returnType := some .boolean }, accessFlags := 9, code := some k1c1 }
/-- io/credsmith/DerNextIsPinLaw -/
def k1 : Class := { plain "io/credsmith/DerNextIsPinLaw" (some 0) with
  accessFlags := 49
  interfaces := #[]
  cf := some (fileOf pool1 24 #[] #[{ accessFlags := 1, nameIndex := 5, descriptorIndex := 6, attributes := #[] }, { accessFlags := 9, nameIndex := 28, descriptorIndex := 29, attributes := #[] }] 49 2 #[] #[])
  fields := #[]
  methods := #[k1m0, k1m1]
  instanceTypes := #[]
  staticTypes := #[]
  resolved := Array.replicate 38 none
  statics := none }

def pool2 : Array CpInfo := pool [(3, .methodref 4 5), (0, .class_ 6), (0, .nameAndType 7 8), (0, u "io/credsmith/Der"), (0, u "<init>"), (0, u "([BII)V"), (0, .methodref 10 11), (0, .class_ 12), (0, .nameAndType 7 13), (0, u "java/lang/Object"), (0, u "()V"), (0, .fieldref 4 15), (0, .nameAndType 16 17), (0, u "bytes"), (0, u "[B"), (0, .fieldref 4 19), (0, .nameAndType 20 21), (0, u "at"), (0, u "I"), (0, .fieldref 4 23), (0, .nameAndType 24 21), (0, u "end"), (0, .methodref 4 26), (0, .nameAndType 27 28), (0, u "contentOfNext"), (0, u "(I)I"), (0, .methodref 30 31), (0, .class_ 32), (0, .nameAndType 33 34), (0, u "java/util/Arrays"), (0, u "copyOfRange"), (0, u "([BII)[B"), (2, u "next"), (0, u "(I)[B"), (16, u "([B)V"), (2, u "sequence"), (0, u "()Lio/credsmith/Der;"), (30, u "INTEGER"), (2, u "BIT_STRING"), (1, u "OCTET_STRING"), (1, u "NULL"), (1, u "OBJECT_IDENTIFIER"), (1, u "SEQUENCE"), (1, u "MOST_LENGTH_OCTETS"), (3, u "nextIs"), (0, u "(I)Z")] 26

def k2c0 : Code := { maxStack := 4, maxLocals := 2, code := prog_17_method_1_code, exceptionTable := #[], attributes := #[] }
def k2m0 : Method := { name := "<init>", desc := "([B)V", sig := { parameters := [(.array .byte)], returnType := none }, accessFlags := 0, code := some k2c0 }
def k2c1 : Code := { maxStack := 2, maxLocals := 4, code := prog_17_method_2_code, exceptionTable := #[], attributes := #[] }
def k2m1 : Method := { name := "<init>", desc := "([BII)V", sig := { parameters := [(.array .byte), .int, .int], returnType := none }, accessFlags := 2, code := some k2c1 }
def k2c2 : Code := { maxStack := 3, maxLocals := 3, code := prog_17_method_3_code, exceptionTable := #[], attributes := #[] }
def k2m2 : Method := { name := "next", desc := "(I)[B", sig := { parameters := [.int], returnType := some (.array .byte) }, accessFlags := 0, code := some k2c2 }
def k2c3 : Code := { maxStack := 2, maxLocals := 2, code := prog_17_method_4_code, exceptionTable := #[], attributes := #[] }
def k2m3 : Method := { name := "nextIs", desc := "(I)Z", sig := { parameters := [.int], returnType := some .boolean }, accessFlags := 0, code := some k2c3 }
def k2c4 : Code := { maxStack := 5, maxLocals := 2, code := prog_17_method_5_code, exceptionTable := #[], attributes := #[] }
def k2m4 : Method := { name := "sequence", desc := "()Lio/credsmith/Der;", sig := { parameters := [], returnType := some (.object "io/credsmith/Der") }, accessFlags := 0, code := some k2c4 }
def k2c5 : Code := { maxStack := 7, maxLocals := 7, code := prog_17_method_10_code, exceptionTable := #[], attributes := #[] }
def k2m5 : Method := { name := "contentOfNext", desc := "(I)I", sig := { parameters := [.int], returnType := some .int }, accessFlags := 2, code := some k2c5 }
/-- io/credsmith/Der -/
def k2 : Class := { plain "io/credsmith/Der" (some 0) with
  accessFlags := 48
  interfaces := #[]
  cf := some (fileOf pool2 4 #[] #[{ accessFlags := 0, nameIndex := 7, descriptorIndex := 55, attributes := #[] }, { accessFlags := 2, nameIndex := 7, descriptorIndex := 8, attributes := #[] }, { accessFlags := 0, nameIndex := 37, descriptorIndex := 38, attributes := #[] }, { accessFlags := 0, nameIndex := 107, descriptorIndex := 108, attributes := #[] }, { accessFlags := 0, nameIndex := 58, descriptorIndex := 59, attributes := #[] }, { accessFlags := 2, nameIndex := 27, descriptorIndex := 28, attributes := #[] }] 48 10 #[] #[{ accessFlags := 24, nameIndex := 90, descriptorIndex := 21, attributes := #[] }, { accessFlags := 24, nameIndex := 93, descriptorIndex := 21, attributes := #[] }, { accessFlags := 24, nameIndex := 95, descriptorIndex := 21, attributes := #[] }, { accessFlags := 24, nameIndex := 97, descriptorIndex := 21, attributes := #[] }, { accessFlags := 24, nameIndex := 99, descriptorIndex := 21, attributes := #[] }, { accessFlags := 24, nameIndex := 101, descriptorIndex := 21, attributes := #[] }, { accessFlags := 26, nameIndex := 103, descriptorIndex := 21, attributes := #[] }, { accessFlags := 18, nameIndex := 16, descriptorIndex := 17, attributes := #[] }, { accessFlags := 18, nameIndex := 24, descriptorIndex := 21, attributes := #[] }, { accessFlags := 2, nameIndex := 20, descriptorIndex := 21, attributes := #[] }])
  fields := #[{ name := "INTEGER", type := .int, accessFlags := 24, slot := 0, constantValue := 0 }, { name := "BIT_STRING", type := .int, accessFlags := 24, slot := 1, constantValue := 0 }, { name := "OCTET_STRING", type := .int, accessFlags := 24, slot := 2, constantValue := 0 }, { name := "NULL", type := .int, accessFlags := 24, slot := 3, constantValue := 0 }, { name := "OBJECT_IDENTIFIER", type := .int, accessFlags := 24, slot := 4, constantValue := 0 }, { name := "SEQUENCE", type := .int, accessFlags := 24, slot := 5, constantValue := 0 }, { name := "MOST_LENGTH_OCTETS", type := .int, accessFlags := 26, slot := 6, constantValue := 0 }, { name := "bytes", type := (.array .byte), accessFlags := 18, slot := 0, constantValue := 0 }, { name := "end", type := .int, accessFlags := 18, slot := 1, constantValue := 0 }, { name := "at", type := .int, accessFlags := 2, slot := 2, constantValue := 0 }]
  methods := #[k2m0, k2m1, k2m2, k2m3, k2m4, k2m5]
  instanceTypes := #[(.array .byte), .int, .int]
  staticTypes := #[.int, .int, .int, .int, .int, .int, .int]
  resolved := Array.replicate 135 none
  statics := none }

def pool3 : Array CpInfo := pool [(2, .class_ 4), (1, u "java/lang/Object"), (0, u "<init>"), (0, u "()V"), (7, .class_ 16), (1, u "java/util/Arrays"), (57, .class_ 76), (1, u "java/util/Arrays$NaturalOrder"), (36, .class_ 115), (1, u "java/util/Arrays$LegacyMergeSort"), (1, u "Z"), (21, u "copyOfRange"), (10, .methodref 151 152), (0, .class_ 153), (0, .nameAndType 154 155), (0, u "java/lang/System"), (0, u "arraycopy"), (0, u "(Ljava/lang/Object;ILjava/lang/Object;II)V"), (148, .methodref 305 306), (0, .class_ 307), (0, .nameAndType 308 309), (0, u "java/lang/Math"), (0, u "min"), (0, u "(II)I"), (29, .methodref 14 340), (0, .nameAndType 341 342), (0, u "copyOfRangeByte"), (0, u "([BII)[B"), (0, .methodref 14 344), (0, .nameAndType 345 346), (0, u "checkLength"), (0, u "(II)V"), (28, .class_ 376), (0, u "java/util/Arrays$ArrayList"), (68, u "$assertionsDisabled"), (269, u "MIN_ARRAY_SORT_GRAN"), (0, u "I"), (2, u "INSERTIONSORT_THRESHOLD"), (255, .class_ 976), (0, u "java/util/Arrays$ArrayItr")] 52

def k3m0 : Method := { name := "<init>", desc := "()V", sig := { parameters := [], returnType := none }, accessFlags := 2, code := none }
def k3c1 : Code := { maxStack := 4, maxLocals := 2, code := jdk_65_method_131_code, exceptionTable := #[], attributes := #[] }
def k3m1 : Method := { name := "checkLength", desc := "(II)V", sig := { parameters := [.int, .int], returnType := none }, accessFlags := 10, code := some k3c1 }
def k3c2 : Code := { maxStack := 3, maxLocals := 3, code := jdk_65_method_132_code, exceptionTable := #[], attributes := #[] }
def k3m2 : Method := { name := "copyOfRange", desc := "([BII)[B", sig := { parameters := [(.array .byte), .int, .int], returnType := some (.array .byte) }, accessFlags := 9, code := some k3c2 }
def k3c3 : Code := { maxStack := 6, maxLocals := 5, code := jdk_65_method_133_code, exceptionTable := #[], attributes := #[] }
def k3m3 : Method := { name := "copyOfRangeByte", desc := "([BII)[B", sig := { parameters := [(.array .byte), .int, .int], returnType := some (.array .byte) }, accessFlags := 10, code := some k3c3 }
/-- java/util/Arrays -/
def k3 : Class := { plain "java/util/Arrays" (some 0) with
  accessFlags := 49
  interfaces := #[]
  cf := some (fileOf pool3 14 #[.nestMembers #[975, 375, 113, 74]] #[{ accessFlags := 2, nameIndex := 5, descriptorIndex := 6, attributes := #[] }, { accessFlags := 10, nameIndex := 345, descriptorIndex := 346, attributes := #[] }, { accessFlags := 9, nameIndex := 139, descriptorIndex := 342, attributes := #[] }, { accessFlags := 10, nameIndex := 341, descriptorIndex := 342, attributes := #[] }] 49 2 #[] #[{ accessFlags := 26, nameIndex := 715, descriptorIndex := 716, attributes := #[] }, { accessFlags := 26, nameIndex := 719, descriptorIndex := 716, attributes := #[] }, { accessFlags := 4120, nameIndex := 445, descriptorIndex := 117, attributes := #[] }])
  fields := #[{ name := "MIN_ARRAY_SORT_GRAN", type := .int, accessFlags := 26, slot := 0, constantValue := 0 }, { name := "INSERTIONSORT_THRESHOLD", type := .int, accessFlags := 26, slot := 1, constantValue := 0 }, { name := "$assertionsDisabled", type := .boolean, accessFlags := 4120, slot := 2, constantValue := 0 }]
  methods := #[k3m0, k3m1, k3m2, k3m3]
  instanceTypes := #[]
  staticTypes := #[.int, .int, .boolean]
  resolved := Array.replicate 1029 none
  statics := none }

def pool4 : Array CpInfo := pool [(1, .class_ 2), (0, u "java/lang/Math"), (1, .class_ 6), (1, u "java/lang/Object"), (0, u "<init>"), (0, u "()V"), (89, .class_ 100), (1, u "java/lang/Math$RandomNumberGeneratorHolder"), (71, u "negativeZeroFloatBits"), (0, u "J"), (2, u "negativeZeroDoubleBits"), (24, u "min"), (43, u "$assertionsDisabled"), (0, u "Z"), (88, u "(II)I"), (2, u "twoToTheDoubleScaleDown"), (0, u "D"), (4, u "twoToTheDoubleScaleUp"), (9, u "E"), (3, u "PI"), (2, u "TAU"), (2, u "DEGREES_TO_RADIANS"), (0, u "RADIANS_TO_DEGREES")] 94

def k4m0 : Method := { name := "<init>", desc := "()V", sig := { parameters := [], returnType := none }, accessFlags := 2, code := none }
def k4c1 : Code := { maxStack := 2, maxLocals := 2, code := jdk_29_method_69_code, exceptionTable := #[], attributes := #[] }
def k4m1 : Method := { name := "min", desc := "(II)I", sig := { parameters := [.int, .int], returnType := some .int }, accessFlags := 9, code := some k4c1 }
/-- java/lang/Math -/
def k4 : Class := { plain "java/lang/Math" (some 0) with
  accessFlags := 49
  interfaces := #[]
  cf := some (fileOf pool4 1 #[.nestMembers #[98]] #[{ accessFlags := 2, nameIndex := 7, descriptorIndex := 8, attributes := #[] }, { accessFlags := 9, nameIndex := 201, descriptorIndex := 335, attributes := #[] }] 49 4 #[] #[{ accessFlags := 25, nameIndex := 354, descriptorIndex := 339, attributes := #[] }, { accessFlags := 25, nameIndex := 358, descriptorIndex := 339, attributes := #[] }, { accessFlags := 25, nameIndex := 361, descriptorIndex := 339, attributes := #[] }, { accessFlags := 26, nameIndex := 364, descriptorIndex := 339, attributes := #[] }, { accessFlags := 26, nameIndex := 365, descriptorIndex := 339, attributes := #[] }, { accessFlags := 26, nameIndex := 172, descriptorIndex := 173, attributes := #[] }, { accessFlags := 26, nameIndex := 176, descriptorIndex := 173, attributes := #[] }, { accessFlags := 8, nameIndex := 344, descriptorIndex := 339, attributes := #[] }, { accessFlags := 8, nameIndex := 338, descriptorIndex := 339, attributes := #[] }, { accessFlags := 4120, nameIndex := 245, descriptorIndex := 246, attributes := #[] }])
  fields := #[{ name := "E", type := .double, accessFlags := 25, slot := 0, constantValue := 0 }, { name := "PI", type := .double, accessFlags := 25, slot := 1, constantValue := 0 }, { name := "TAU", type := .double, accessFlags := 25, slot := 2, constantValue := 0 }, { name := "DEGREES_TO_RADIANS", type := .double, accessFlags := 26, slot := 3, constantValue := 0 }, { name := "RADIANS_TO_DEGREES", type := .double, accessFlags := 26, slot := 4, constantValue := 0 }, { name := "negativeZeroFloatBits", type := .long, accessFlags := 26, slot := 5, constantValue := 0 }, { name := "negativeZeroDoubleBits", type := .long, accessFlags := 26, slot := 6, constantValue := 0 }, { name := "twoToTheDoubleScaleUp", type := .double, accessFlags := 8, slot := 7, constantValue := 0 }, { name := "twoToTheDoubleScaleDown", type := .double, accessFlags := 8, slot := 8, constantValue := 0 }, { name := "$assertionsDisabled", type := .boolean, accessFlags := 4120, slot := 9, constantValue := 0 }]
  methods := #[k4m0, k4m1]
  instanceTypes := #[]
  staticTypes := #[.double, .double, .double, .double, .double, .long, .long, .double, .double, .boolean]
  resolved := Array.replicate 460 none
  statics := none }

def pool5 : Array CpInfo := pool [(2, .class_ 4), (1, u "java/lang/Object"), (0, u "<init>"), (0, u "()V"), (1, .class_ 10), (1, u "java/lang/System"), (0, u "allowSecurityManager"), (0, u "I"), (16, u "cons"), (0, u "Ljava/io/Console;"), (77, .class_ 110), (1, u "java/lang/System$CallersHolder"), (43, u "initialErrStream"), (0, u "Ljava/io/PrintStream;"), (19, u "security"), (0, u "Ljava/lang/SecurityManager;"), (31, .class_ 209), (0, u "java/lang/System$1"), (7, u "props"), (0, u "Ljava/util/Properties;"), (2, u "lineSeparator"), (0, u "Ljava/lang/String;"), (96, .class_ 321), (1, u "java/lang/System$LoggerFinder"), (5, .class_ 328), (0, u "java/lang/System$Logger"), (67, u "err"), (2, u "out"), (91, u "notSupportedJnuEncoding"), (15, u "in"), (17, u "initialIn"), (0, u "Ljava/io/InputStream;"), (35, u "bootLayer"), (0, u "Ljava/lang/ModuleLayer;"), (99, .class_ 664), (0, u "java/lang/System$2"), (9, u "NEVER"), (2, u "MAYBE"), (49, u "arraycopy"), (0, u "(Ljava/lang/Object;ILjava/lang/Object;II)V"), (72, .class_ 802), (0, u "java/lang/System$Logger$Level")] 31

def k5m0 : Method := { name := "<init>", desc := "()V", sig := { parameters := [], returnType := none }, accessFlags := 2, code := none }
def k5m1 : Method := { name := "arraycopy", desc := "(Ljava/lang/Object;ILjava/lang/Object;II)V", sig := { parameters := [(.object "java/lang/Object"), .int, (.object "java/lang/Object"), .int, .int], returnType := none }, accessFlags := 265, code := none }
/-- java/lang/System -/
def k5 : Class := { plain "java/lang/System" (some 0) with
  accessFlags := 49
  interfaces := #[]
  cf := some (fileOf pool5 8 #[.nestMembers #[319, 327, 801, 108, 663, 208]] #[{ accessFlags := 2, nameIndex := 5, descriptorIndex := 6, attributes := #[] }, { accessFlags := 265, nameIndex := 727, descriptorIndex := 728, attributes := #[] }] 49 2 #[] #[{ accessFlags := 25, nameIndex := 507, descriptorIndex := 526, attributes := #[] }, { accessFlags := 25, nameIndex := 399, descriptorIndex := 155, attributes := #[] }, { accessFlags := 25, nameIndex := 396, descriptorIndex := 155, attributes := #[] }, { accessFlags := 10, nameIndex := 525, descriptorIndex := 526, attributes := #[] }, { accessFlags := 26, nameIndex := 674, descriptorIndex := 12, attributes := #[] }, { accessFlags := 26, nameIndex := 677, descriptorIndex := 12, attributes := #[] }, { accessFlags := 10, nameIndex := 11, descriptorIndex := 12, attributes := #[] }, { accessFlags := 74, nameIndex := 175, descriptorIndex := 176, attributes := #[] }, { accessFlags := 10, nameIndex := 491, descriptorIndex := 222, attributes := #[] }, { accessFlags := 74, nameIndex := 29, descriptorIndex := 30, attributes := #[] }, { accessFlags := 74, nameIndex := 154, descriptorIndex := 155, attributes := #[] }, { accessFlags := 10, nameIndex := 217, descriptorIndex := 218, attributes := #[] }, { accessFlags := 10, nameIndex := 221, descriptorIndex := 222, attributes := #[] }, { accessFlags := 8, nameIndex := 562, descriptorIndex := 563, attributes := #[] }])
  fields := #[{ name := "in", type := (.object "java/io/InputStream"), accessFlags := 25, slot := 0, constantValue := 0 }, { name := "out", type := (.object "java/io/PrintStream"), accessFlags := 25, slot := 1, constantValue := 0 }, { name := "err", type := (.object "java/io/PrintStream"), accessFlags := 25, slot := 2, constantValue := 0 }, { name := "initialIn", type := (.object "java/io/InputStream"), accessFlags := 10, slot := 3, constantValue := 0 }, { name := "NEVER", type := .int, accessFlags := 26, slot := 4, constantValue := 0 }, { name := "MAYBE", type := .int, accessFlags := 26, slot := 5, constantValue := 0 }, { name := "allowSecurityManager", type := .int, accessFlags := 10, slot := 6, constantValue := 0 }, { name := "security", type := (.object "java/lang/SecurityManager"), accessFlags := 74, slot := 7, constantValue := 0 }, { name := "notSupportedJnuEncoding", type := (.object "java/lang/String"), accessFlags := 10, slot := 8, constantValue := 0 }, { name := "cons", type := (.object "java/io/Console"), accessFlags := 74, slot := 9, constantValue := 0 }, { name := "initialErrStream", type := (.object "java/io/PrintStream"), accessFlags := 74, slot := 10, constantValue := 0 }, { name := "props", type := (.object "java/util/Properties"), accessFlags := 10, slot := 11, constantValue := 0 }, { name := "lineSeparator", type := (.object "java/lang/String"), accessFlags := 10, slot := 12, constantValue := 0 }, { name := "bootLayer", type := (.object "java/lang/ModuleLayer"), accessFlags := 8, slot := 13, constantValue := 0 }]
  methods := #[k5m0, k5m1]
  instanceTypes := #[]
  staticTypes := #[(.object "java/io/InputStream"), (.object "java/io/PrintStream"), (.object "java/io/PrintStream"), (.object "java/io/InputStream"), .int, .int, .int, (.object "java/lang/SecurityManager"), (.object "java/lang/String"), (.object "java/io/Console"), (.object "java/io/PrintStream"), (.object "java/util/Properties"), (.object "java/lang/String"), (.object "java/lang/ModuleLayer")]
  resolved := Array.replicate 834 none
  statics := none }

def pool6 : Array CpInfo := pool [(1, u "java/lang/Cloneable"), (0, .class_ 1), (0, u "java/lang/Object"), (0, .class_ 3)] 3

/-- java/lang/Cloneable -/
def k6 : Class := { plain "java/lang/Cloneable" (some 0) with
  accessFlags := 1537
  interfaces := #[]
  cf := some (fileOf pool6 2 #[] #[] 1537 4 #[] #[])
  fields := #[]
  methods := #[]
  instanceTypes := #[]
  staticTypes := #[]
  resolved := Array.replicate 8 none
  statics := none }

def pool7 : Array CpInfo := pool [(1, u "java/io/Serializable"), (0, .class_ 1), (0, u "java/lang/Object"), (0, .class_ 3)] 3

/-- java/io/Serializable -/
def k7 : Class := { plain "java/io/Serializable" (some 0) with
  accessFlags := 1537
  interfaces := #[]
  cf := some (fileOf pool7 2 #[] #[] 1537 4 #[] #[])
  fields := #[]
  methods := #[]
  instanceTypes := #[]
  staticTypes := #[]
  resolved := Array.replicate 8 none
  statics := none }

/-- the primitive byte -/
def k8 : Class := { plain "byte" none with kind := .primitive 'B', accessFlags := 0x411 }
/-- [B -/
def k9 : Class := { plain "[B" (some 0) with kind := .array 8 .byte, interfaces := #[6, 7], accessFlags := 1041 }

/-- the primitive int -/
def k10 : Class := { plain "int" none with kind := .primitive 'I', accessFlags := 0x411 }
/-- [I -/
def k11 : Class := { plain "[I" (some 0) with kind := .array 10 .int, interfaces := #[6, 7], accessFlags := 1041 }

def heap : Heap := #[]
def classes : Array Class := #[k0, k1, k2, k3, k4, k5, k6, k7, k8, k9, k10, k11]
def interned : List (Array UInt16 × Addr) := []
def slotsUsed : Nat := 0
def theMethod : MethodId := ⟨1, 1⟩
def args0 : Array Value := #[.int 5, .int 6, .int 7, .int 8]
def aboutOver (below : List Frame) : State where
  vm := { classes := classes, interned := interned.toArray }
  heap := heap
  slotsUsed := slotsUsed
  threads := #[{ frames := .invoking theMethod args0 :: below }]
def below0 : List Frame := [.native { method := ⟨0, 0⟩, args := #[] }]
def about1 : State := aboutOver below0
def p0 : Program := .bare "" "" ""
def e0 : Env := launch0.env 0 0 0
theorem w_frames : about1.frames = Frame.invoking theMethod args0 :: below0 := rfl
set_option maxRecDepth 65536 in
theorem w_args : argsFit about1.vm theMethod args0 = true := by decide +kernel
set_option maxRecDepth 65536 in
theorem w_heap : heapFits about1 = true := by decide +kernel
set_option maxRecDepth 65536 in
theorem w_runnable : about1.curStatus? = some .runnable := by decide +kernel
set_option maxRecDepth 65536 in
theorem w_alone : about1.alone = true := by decide +kernel
set_option maxRecDepth 65536 in
theorem w_named : about1.methodNamed? x = some theMethod := by decide +kernel
set_option maxRecDepth 65536 in
theorem w_hears : about1.hears theMethod below0 = true := by decide +kernel
set_option maxRecDepth 65536 in
theorem w_ripe : about1.ripe theMethod args0 below0 = true := by decide +kernel
theorem w_running : about1.status = .running := rfl
set_option maxRecDepth 65536 in
theorem w_room : about1.hasRoom e0.platform room_1 = true :=
  launch0.hasRoom_least _ room_1 (by decide +kernel) (by decide +kernel) (by decide +kernel) (by decide +kernel) (by decide +kernel) (by decide +kernel)
theorem allAtoms_all (ts : List Jvm.Cond) (a : Array Jvm.Value) (st : Jvm.State) : (allAtoms ts).before a st = ts.all (fun c => c.before a st) := by
  induction ts with
  | nil => rfl
  | cons c t ih =>
    show (Jvm.Cond.and c (allAtoms t)).before a st = _
    rw [Jvm.Cond.before_and, ih, List.all_cons]
def words1 : List Jvm.Cond := Jvm.Cond.code x code maxLocals ret :: tables_1
/-- a 'code' word, met by the world's own term for the bytes: nothing is compared byte by byte -/
theorem code_word {y : MethodName} {bytes : ByteArray} {mx : Nat} {rt : Option FieldType} {a : Array Value} {s : State} {m : MethodId} {meth : Method} {c : Code} (h1 : s.methodNamed? y = some m) (h2 : s.vm.method? m = some meth) (h3 : meth.code = some c) (h4 : c.code = bytes)
    (h5 : (c.maxLocals == mx && c.exceptionTable.isEmpty && decide (c.maxStack ≤ mostOperands) && decide (meth.sig.returnType = rt) && !meth.locks && decide (parseMethodDescriptor y.desc = some meth.sig)) = true) : (Jvm.Cond.code y bytes mx rt).before a s = true := by
  simp only [Bool.and_eq_true, beq_iff_eq, Bool.not_eq_true', decide_eq_true_eq] at h5
  obtain ⟨⟨⟨⟨⟨g1, g2⟩, g3⟩, g4⟩, g5⟩, g6⟩ := h5
  simp [Cond.before, Cond.holds, Cond.value, h1, h2, h3, h4, g1, g2, g3, g4, g5, g6]
def isCode : Jvm.Cond → Bool
  | .code _ _ _ _ => true
  | _ => false
theorem all_split {L : List Jvm.Cond} {P : Jvm.Cond → Bool} (h1 : L.all (fun c => isCode c || P c) = true) (h2 : ∀ c ∈ L.filter isCode, P c = true) : L.all P = true := by
  refine List.all_eq_true.mpr fun c hc => ?_
  have h := List.all_eq_true.mp h1 c hc
  rcases Bool.eq_false_or_eq_true (isCode c) with hi | hi
  · exact h2 c (List.mem_filter.mpr ⟨hc, hi⟩)
  · simpa [hi] using h
set_option maxRecDepth 65536 in
theorem w_c0 : (Jvm.Cond.code x code maxLocals ret).before args0 about1 = true := code_word (m := ⟨1, 1⟩) (meth := k1m1) (c := k1c1) (by decide +kernel) rfl rfl rfl (by decide +kernel)
set_option maxRecDepth 65536 in
theorem w_c1 : (Jvm.Cond.code ({ cls := "io/credsmith/Der", name := "<init>", desc := "([B)V" } : Jvm.MethodName) prog_17_method_1_code (2 : Nat) (Option.none : Option Jvm.ClassFile.FieldType)).before args0 about1 = true := code_word (m := ⟨2, 0⟩) (meth := k2m0) (c := k2c0) (by decide +kernel) rfl rfl rfl (by decide +kernel)
set_option maxRecDepth 65536 in
theorem w_c2 : (Jvm.Cond.code ({ cls := "io/credsmith/Der", name := "<init>", desc := "([BII)V" } : Jvm.MethodName) prog_17_method_2_code (4 : Nat) (Option.none : Option Jvm.ClassFile.FieldType)).before args0 about1 = true := code_word (m := ⟨2, 1⟩) (meth := k2m1) (c := k2c1) (by decide +kernel) rfl rfl rfl (by decide +kernel)
set_option maxRecDepth 65536 in
theorem w_c3 : (Jvm.Cond.code ({ cls := "java/lang/Object", name := "<init>", desc := "()V" } : Jvm.MethodName) object_method_1_code (1 : Nat) (Option.none : Option Jvm.ClassFile.FieldType)).before args0 about1 = true := code_word (m := ⟨0, 0⟩) (meth := k0m0) (c := k0c0) (by decide +kernel) rfl rfl rfl (by decide +kernel)
set_option maxRecDepth 65536 in
theorem w_c4 : (Jvm.Cond.code ({ cls := "io/credsmith/Der", name := "nextIs", desc := "(I)Z" } : Jvm.MethodName) prog_17_method_4_code (2 : Nat) (Option.some Jvm.ClassFile.FieldType.boolean)).before args0 about1 = true := code_word (m := ⟨2, 3⟩) (meth := k2m3) (c := k2c3) (by decide +kernel) rfl rfl rfl (by decide +kernel)
set_option maxRecDepth 65536 in
theorem w_c5 : (Jvm.Cond.code ({ cls := "io/credsmith/Der", name := "sequence", desc := "()Lio/credsmith/Der;" } : Jvm.MethodName) prog_17_method_5_code (2 : Nat) (Option.some (Jvm.ClassFile.FieldType.object "io/credsmith/Der"))).before args0 about1 = true := code_word (m := ⟨2, 4⟩) (meth := k2m4) (c := k2c4) (by decide +kernel) rfl rfl rfl (by decide +kernel)
set_option maxRecDepth 65536 in
theorem w_c6 : (Jvm.Cond.code ({ cls := "io/credsmith/Der", name := "contentOfNext", desc := "(I)I" } : Jvm.MethodName) prog_17_method_10_code (7 : Nat) (Option.some Jvm.ClassFile.FieldType.int)).before args0 about1 = true := code_word (m := ⟨2, 5⟩) (meth := k2m5) (c := k2c5) (by decide +kernel) rfl rfl rfl (by decide +kernel)
set_option maxRecDepth 65536 in
theorem w_c7 : (Jvm.Cond.code ({ cls := "io/credsmith/Der", name := "next", desc := "(I)[B" } : Jvm.MethodName) prog_17_method_3_code (3 : Nat) (Option.some (Jvm.ClassFile.FieldType.array Jvm.ClassFile.FieldType.byte))).before args0 about1 = true := code_word (m := ⟨2, 2⟩) (meth := k2m2) (c := k2c2) (by decide +kernel) rfl rfl rfl (by decide +kernel)
set_option maxRecDepth 65536 in
theorem w_c8 : (Jvm.Cond.code ({ cls := "java/util/Arrays", name := "copyOfRange", desc := "([BII)[B" } : Jvm.MethodName) jdk_65_method_132_code (3 : Nat) (Option.some (Jvm.ClassFile.FieldType.array Jvm.ClassFile.FieldType.byte))).before args0 about1 = true := code_word (m := ⟨3, 2⟩) (meth := k3m2) (c := k3c2) (by decide +kernel) rfl rfl rfl (by decide +kernel)
set_option maxRecDepth 65536 in
theorem w_c9 : (Jvm.Cond.code ({ cls := "java/util/Arrays", name := "copyOfRangeByte", desc := "([BII)[B" } : Jvm.MethodName) jdk_65_method_133_code (5 : Nat) (Option.some (Jvm.ClassFile.FieldType.array Jvm.ClassFile.FieldType.byte))).before args0 about1 = true := code_word (m := ⟨3, 3⟩) (meth := k3m3) (c := k3c3) (by decide +kernel) rfl rfl rfl (by decide +kernel)
set_option maxRecDepth 65536 in
theorem w_c10 : (Jvm.Cond.code ({ cls := "java/util/Arrays", name := "checkLength", desc := "(II)V" } : Jvm.MethodName) jdk_65_method_131_code (2 : Nat) (Option.none : Option Jvm.ClassFile.FieldType)).before args0 about1 = true := code_word (m := ⟨3, 1⟩) (meth := k3m1) (c := k3c1) (by decide +kernel) rfl rfl rfl (by decide +kernel)
set_option maxRecDepth 65536 in
theorem w_c11 : (Jvm.Cond.code ({ cls := "java/lang/Math", name := "min", desc := "(II)I" } : Jvm.MethodName) jdk_29_method_69_code (2 : Nat) (Option.some Jvm.ClassFile.FieldType.int)).before args0 about1 = true := code_word (m := ⟨4, 1⟩) (meth := k4m1) (c := k4c1) (by decide +kernel) rfl rfl rfl (by decide +kernel)
def codes1 : List Jvm.Cond := [Jvm.Cond.code x code maxLocals ret, Jvm.Cond.code ({ cls := "io/credsmith/Der", name := "<init>", desc := "([B)V" } : Jvm.MethodName) prog_17_method_1_code (2 : Nat) (Option.none : Option Jvm.ClassFile.FieldType), Jvm.Cond.code ({ cls := "io/credsmith/Der", name := "<init>", desc := "([BII)V" } : Jvm.MethodName) prog_17_method_2_code (4 : Nat) (Option.none : Option Jvm.ClassFile.FieldType), Jvm.Cond.code ({ cls := "java/lang/Object", name := "<init>", desc := "()V" } : Jvm.MethodName) object_method_1_code (1 : Nat) (Option.none : Option Jvm.ClassFile.FieldType), Jvm.Cond.code ({ cls := "io/credsmith/Der", name := "nextIs", desc := "(I)Z" } : Jvm.MethodName) prog_17_method_4_code (2 : Nat) (Option.some Jvm.ClassFile.FieldType.boolean), Jvm.Cond.code ({ cls := "io/credsmith/Der", name := "sequence", desc := "()Lio/credsmith/Der;" } : Jvm.MethodName) prog_17_method_5_code (2 : Nat) (Option.some (Jvm.ClassFile.FieldType.object "io/credsmith/Der")), Jvm.Cond.code ({ cls := "io/credsmith/Der", name := "contentOfNext", desc := "(I)I" } : Jvm.MethodName) prog_17_method_10_code (7 : Nat) (Option.some Jvm.ClassFile.FieldType.int), Jvm.Cond.code ({ cls := "io/credsmith/Der", name := "next", desc := "(I)[B" } : Jvm.MethodName) prog_17_method_3_code (3 : Nat) (Option.some (Jvm.ClassFile.FieldType.array Jvm.ClassFile.FieldType.byte)), Jvm.Cond.code ({ cls := "java/util/Arrays", name := "copyOfRange", desc := "([BII)[B" } : Jvm.MethodName) jdk_65_method_132_code (3 : Nat) (Option.some (Jvm.ClassFile.FieldType.array Jvm.ClassFile.FieldType.byte)), Jvm.Cond.code ({ cls := "java/util/Arrays", name := "copyOfRangeByte", desc := "([BII)[B" } : Jvm.MethodName) jdk_65_method_133_code (5 : Nat) (Option.some (Jvm.ClassFile.FieldType.array Jvm.ClassFile.FieldType.byte)), Jvm.Cond.code ({ cls := "java/util/Arrays", name := "checkLength", desc := "(II)V" } : Jvm.MethodName) jdk_65_method_131_code (2 : Nat) (Option.none : Option Jvm.ClassFile.FieldType), Jvm.Cond.code ({ cls := "java/lang/Math", name := "min", desc := "(II)I" } : Jvm.MethodName) jdk_29_method_69_code (2 : Nat) (Option.some Jvm.ClassFile.FieldType.int)]
set_option maxRecDepth 65536 in
theorem codes_eq : words1.filter isCode = codes1 := rfl
theorem w_codes : ∀ c ∈ words1.filter isCode, c.before args0 about1 = true := by
  rw [codes_eq]
  intro c hc
  simp only [codes1, List.mem_cons, List.not_mem_nil, or_false] at hc
  rcases hc with rfl | rfl | rfl | rfl | rfl | rfl | rfl | rfl | rfl | rfl | rfl | rfl
  · exact w_c0
  · exact w_c1
  · exact w_c2
  · exact w_c3
  · exact w_c4
  · exact w_c5
  · exact w_c6
  · exact w_c7
  · exact w_c8
  · exact w_c9
  · exact w_c10
  · exact w_c11
set_option maxRecDepth 65536 in
theorem w_t1 : (words1.take 24).all (fun c => isCode c || c.before args0 about1) = true := by decide +kernel
set_option maxRecDepth 65536 in
theorem w_t2 : ((words1.drop 24).take 24).all (fun c => isCode c || c.before args0 about1) = true := by decide +kernel
set_option maxRecDepth 65536 in
theorem w_t3 : ((words1.drop 24).drop 24).all (fun c => isCode c || c.before args0 about1) = true := by decide +kernel
theorem w_tables : (allAtoms (Jvm.Cond.code x code maxLocals ret :: tables_1)).before args0 about1 = true := by
  rw [allAtoms_all]
  show words1.all (fun c => c.before args0 about1) = true
  refine all_split ?_ w_codes
  rw [← List.take_append_drop 24 words1, List.all_append, w_t1, ← List.take_append_drop 24 (words1.drop 24), List.all_append, w_t2, w_t3]
  rfl
set_option maxRecDepth 65536 in
theorem w_case : (Jvm.Cond.and given_1 narrow_1).before args0 about1 = true := by decide +kernel
theorem w_applies : (headSpec (Jvm.Cond.code x code maxLocals ret :: tables_1) room_1).applies x e0.platform about1 = true :=
  (Spec.applies_iff w_frames).mpr ⟨w_running, w_runnable, w_alone, w_named, w_hears, w_ripe, w_room, w_tables⟩
theorem atStart : AtStart classFile x code maxLocals ret World_1 tables_1 room_1 Calls_1 rest_1 Pre_1 launch0 p0 e0 about1 theMethod args0 below0 :=
  ⟨lists_1, trivial, launch0.admits_env _ _ _, launch0.least_env, fairChoices_fair.cas, fairChoices_fair.clock, w_frames, w_args, w_heap, w_applies, trivial, trivial, w_case⟩
end start1
theorem witness_1 : WitnessClaimed_1 := ⟨start1.p0, start1.e0, start1.about1, start1.theMethod, start1.args0, start1.below0, start1.atStart⟩
end Jvm.Pilot.@@N@@
