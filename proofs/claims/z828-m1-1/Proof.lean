import JvmDerived
import JvmDerived.Pilot.@@N@@Statement
import JvmDerived.Pilot.@@N@@Code
set_option linter.unusedVariables false
set_option linter.unusedSimpArgs false
@@BLOCK:NumsL.lean.txt@@
namespace Jvm.OwnGo
open Sem ClassFile Op Lib Jvm.Stand Jvm.Free Jvm.LawKit Jvm.RoadKit
/-- where a walk stands -/
def K (p : Program) (l : Launch) (e : Env) (R : Room) (s : State) (m : MethodId) (args : Array Value) (below : List Frame) (meth : Method) (c : Code) (bytes : ByteArray) (own : String) (maxL : Nat) (ret : Option FieldType) (nm : String) (T : State) (locs : List Loc) (cells slots : Nat) (Z : State) (h : Heap) (n0 : Nat) : Prop :=
  Stand p l e R s m args below meth c T locs cells slots ∧ p.tables.exec = Jvm.exec ∧ Z.Warmed39 s.vm ∧ T.heap = h ∧ Fr n0 locs ∧ c.code = bytes ∧ s.vm.findClass own = some m.cls ∧ c.maxLocals = maxL ∧ meth.sig.returnType = ret ∧ meth.name = nm ∧ meth.locks = false
/-- from here the run comes to an end that meets P -/
def Go (p : Program) (e : Env) (below : List Frame) (P : State → Outcome → Prop) (T : State) (g : JFrame) : Prop :=
  ∃ s₂ o, Steps p.tables e below (T.setTop g) s₂ ∧ s₂.status = .running ∧ Ended s₂ below o ∧ P s₂ o
/-- what a return pays -/
def Pay (s : State) (Q : Option Value → Heap → Prop) (n0 cc ss : Nat) (P : State → Outcome → Prop) : Prop :=
  ∀ v h L s₂, Q v h → s₂.heap = h → Fr n0 L → FrameEnd s (.returned v) s₂ L cc ss → P s₂ (.returned v)
section Own
variable {p : Program} {l : Launch} {e : Env} {R : Room} {s : State} {m : MethodId} {args : Array Value} {below : List Frame} {meth : Method} {c : Code} {bytes : ByteArray} {own : String} {maxL : Nat} {ret : Option FieldType} {nm : String} {T : State} {locs : List Loc} {cells slots : Nat} {Z : State} {h : Heap} {n0 : Nat} {Q : Option Value → Heap → Prop} {P : State → Outcome → Prop} {cc ss : Nat} {a0 : Array Value} {Ls : Array Slot} {st rest : List Value} {pc pc' pc3 : Nat}
theorem Go.to {T' : State} {g g' : JFrame} (h1 : ∀ target, Steps p.tables e below (T'.setTop g') target → Steps p.tables e below (T.setTop g) target) (k : Go p e below P T' g') : Go p e below P T g := by
  obtain ⟨s₂, o, h2, h3⟩ := k; exact ⟨s₂, o, h1 _ h2, h3⟩
theorem Go.tr {T' : State} {g g' : JFrame} (h1 : Steps p.tables e below (T.setTop g) (T'.setTop g')) (k : Go p e below P T' g') : Go p e below P T g := by
  obtain ⟨s₂, o, h2, h3⟩ := k; exact ⟨s₂, o, h1.trans h2, h3⟩
theorem Go.weak {P' : State → Outcome → Prop} {g : JFrame} (k : Go p e below P T g) (h1 : ∀ s o, P s o → P' s o) : Go p e below P' T g := by
  obtain ⟨s₂, o, h2, h3, h4, h5⟩ := k; exact ⟨s₂, o, h2, h3, h4, h1 _ _ h5⟩
theorem nar_ref {C : String} {v : Value} (h : v.isRef = true) : narrow (.object C) v = v := by cases v <;> first | rfl | (simp [Value.isRef] at h)
theorem fit_ref {C : String} {v : Value} (h : v.isRef = true) : fits (.object C) v = true := by cases v <;> first | rfl | (simp [Value.isRef] at h)
theorem k_hp (k : K p l e R s m args below meth c bytes own maxL ret nm T locs cells slots Z h n0) {T' : State} {h' : Heap} {locs' : List Loc} {cells' slots' : Nat} (X : Stand p l e R s m args below meth c T' locs' cells' slots') (eT : T'.heap = h') (N : Fr n0 locs') : K p l e R s m args below meth c bytes own maxL ret nm T' locs' cells' slots' Z h' n0 :=
  ⟨X, k.2.1, k.2.2.1, eT, N, k.2.2.2.2.2⟩
theorem k_more (k : K p l e R s m args below meth c bytes own maxL ret nm T locs cells slots Z h n0) {cells' slots' : Nat} (h1 : cells ≤ cells') (h2 : slots ≤ slots') : K p l e R s m args below meth c bytes own maxL ret nm T locs cells' slots' Z h n0 :=
  ⟨k.1.more h1 h2, k.2⟩

theorem s_iloadN (k : K p l e R s m args below meth c bytes own maxL ret nm T locs cells slots Z h n0) {i : Fin 4} {v : Int32} (hd : decode bytes pc = .ok (.iload_n i, 1)) (hl : Ls[i.val]? = some (.val (.int v))) (hp : pc + 1 = pc') (g : Go p e below P T (mkF m pc' Ls (.int v :: st))) : Go p e below P T (mkF m pc Ls st) := by
  subst hp
  exact Go.to (fun _ q => XS.iloadN k.1.here k.2.1 rfl (hb k.2.2.2.2.2.1 hd) hl q) g
theorem s_istoreN (k : K p l e R s m args below meth c bytes own maxL ret nm T locs cells slots Z h n0) {i : Fin 4} {x : Int32} {l' : Array Slot} (hd : decode bytes pc = .ok (.istore_n i, 1)) (hl : storeLocals Ls i.val (.int x) = some l') (hp : pc + 1 = pc') (g : Go p e below P T (mkF m pc' l' st)) : Go p e below P T (mkF m pc Ls (.int x :: st)) := by
  subst hp
  exact Go.to (fun _ q => XS.istoreN k.1.here k.2.1 rfl (hb k.2.2.2.2.2.1 hd) rfl hl q) g
theorem s_iload (k : K p l e R s m args below meth c bytes own maxL ret nm T locs cells slots Z h n0) {i : Nat} {v : Int32} (hd : decode bytes pc = .ok (.iload i, 2)) (hl : Ls[i]? = some (.val (.int v))) (hp : pc + 2 = pc') (g : Go p e below P T (mkF m pc' Ls (.int v :: st))) : Go p e below P T (mkF m pc Ls st) := by
  subst hp
  exact Go.to (fun _ q => XS.iload k.1.here k.2.1 rfl (hb k.2.2.2.2.2.1 hd) hl q) g
theorem s_istore (k : K p l e R s m args below meth c bytes own maxL ret nm T locs cells slots Z h n0) {i : Nat} {x : Int32} {l' : Array Slot} (hd : decode bytes pc = .ok (.istore i, 2)) (hl : storeLocals Ls i (.int x) = some l') (hp : pc + 2 = pc') (g : Go p e below P T (mkF m pc' l' st)) : Go p e below P T (mkF m pc Ls (.int x :: st)) := by
  subst hp
  exact Go.to (fun _ q => XS.istore k.1.here k.2.1 rfl (hb k.2.2.2.2.2.1 hd) rfl hl q) g
theorem s_lloadN (k : K p l e R s m args below meth c bytes own maxL ret nm T locs cells slots Z h n0) {i : Fin 4} {v : Int64} (hd : decode bytes pc = .ok (.lload_n i, 1)) (hl : Ls[i.val]? = some (.val (.long v))) (hp : pc + 1 = pc') (g : Go p e below P T (mkF m pc' Ls (.long v :: st))) : Go p e below P T (mkF m pc Ls st) := by
  subst hp
  exact Go.to (fun _ q => XT.lloadN k.1.here k.2.1 rfl (hb k.2.2.2.2.2.1 hd) hl q) g
theorem s_lstoreN (k : K p l e R s m args below meth c bytes own maxL ret nm T locs cells slots Z h n0) {i : Fin 4} {x : Int64} {l' : Array Slot} (hd : decode bytes pc = .ok (.lstore_n i, 1)) (hl : storeLocals Ls i.val (.long x) = some l') (hp : pc + 1 = pc') (g : Go p e below P T (mkF m pc' l' st)) : Go p e below P T (mkF m pc Ls (.long x :: st)) := by
  subst hp
  exact Go.to (fun _ q => XT.lstoreN k.1.here k.2.1 rfl (hb k.2.2.2.2.2.1 hd) rfl hl q) g
theorem s_lload (k : K p l e R s m args below meth c bytes own maxL ret nm T locs cells slots Z h n0) {i : Nat} {v : Int64} (hd : decode bytes pc = .ok (.lload i, 2)) (hl : Ls[i]? = some (.val (.long v))) (hp : pc + 2 = pc') (g : Go p e below P T (mkF m pc' Ls (.long v :: st))) : Go p e below P T (mkF m pc Ls st) := by
  subst hp
  exact Go.to (fun _ q => XT.lload k.1.here k.2.1 rfl (hb k.2.2.2.2.2.1 hd) hl q) g
theorem s_lstore (k : K p l e R s m args below meth c bytes own maxL ret nm T locs cells slots Z h n0) {i : Nat} {x : Int64} {l' : Array Slot} (hd : decode bytes pc = .ok (.lstore i, 2)) (hl : storeLocals Ls i (.long x) = some l') (hp : pc + 2 = pc') (g : Go p e below P T (mkF m pc' l' st)) : Go p e below P T (mkF m pc Ls (.long x :: st)) := by
  subst hp
  exact Go.to (fun _ q => XT.lstore k.1.here k.2.1 rfl (hb k.2.2.2.2.2.1 hd) rfl hl q) g
theorem s_aloadN (k : K p l e R s m args below meth c bytes own maxL ret nm T locs cells slots Z h n0) {i : Fin 4} {v : Value} (hd : decode bytes pc = .ok (.aload_n i, 1)) (hl : Ls[i.val]? = some (.val v)) (hv : v.isRef = true) (hp : pc + 1 = pc') (g : Go p e below P T (mkF m pc' Ls (v :: st))) : Go p e below P T (mkF m pc Ls st) := by
  subst hp
  exact Go.to (fun _ q => XS.aloadN k.1.here k.2.1 rfl (hb k.2.2.2.2.2.1 hd) hl hv q) g
theorem s_astoreN (k : K p l e R s m args below meth c bytes own maxL ret nm T locs cells slots Z h n0) {i : Fin 4} {x : Value} {l' : Array Slot} (hd : decode bytes pc = .ok (.astore_n i, 1)) (hv : x.isRef = true) (hl : storeLocals Ls i.val x = some l') (hp : pc + 1 = pc') (g : Go p e below P T (mkF m pc' l' st)) : Go p e below P T (mkF m pc Ls (x :: st)) := by
  subst hp
  exact Go.to (fun _ q => XS.astoreN k.1.here k.2.1 rfl (hb k.2.2.2.2.2.1 hd) rfl hv hl q) g
theorem s_aload (k : K p l e R s m args below meth c bytes own maxL ret nm T locs cells slots Z h n0) {i : Nat} {v : Value} (hd : decode bytes pc = .ok (.aload i, 2)) (hl : Ls[i]? = some (.val v)) (hv : v.isRef = true) (hp : pc + 2 = pc') (g : Go p e below P T (mkF m pc' Ls (v :: st))) : Go p e below P T (mkF m pc Ls st) := by
  subst hp
  exact Go.to (fun _ q => XS.aload k.1.here k.2.1 rfl (hb k.2.2.2.2.2.1 hd) hl hv q) g
theorem s_astore (k : K p l e R s m args below meth c bytes own maxL ret nm T locs cells slots Z h n0) {i : Nat} {x : Value} {l' : Array Slot} (hd : decode bytes pc = .ok (.astore i, 2)) (hv : x.isRef = true) (hl : storeLocals Ls i x = some l') (hp : pc + 2 = pc') (g : Go p e below P T (mkF m pc' l' st)) : Go p e below P T (mkF m pc Ls (x :: st)) := by
  subst hp
  exact Go.to (fun _ q => XS.astore k.1.here k.2.1 rfl (hb k.2.2.2.2.2.1 hd) rfl hv hl q) g
theorem s_iconst (k : K p l e R s m args below meth c bytes own maxL ret nm T locs cells slots Z h n0) {i : Int} {z : Int32} (hd : decode bytes pc = .ok (.iconst i, 1)) (hz : Int32.ofInt i = z) (hp : pc + 1 = pc') (g : Go p e below P T (mkF m pc' Ls (.int z :: st))) : Go p e below P T (mkF m pc Ls st) := by
  subst hp hz
  exact Go.to (fun _ q => XS.iconst k.1.here k.2.1 rfl (hb k.2.2.2.2.2.1 hd) q) g
theorem s_bipush (k : K p l e R s m args below meth c bytes own maxL ret nm T locs cells slots Z h n0) {i : Int} {z : Int32} (hd : decode bytes pc = .ok (.bipush i, 2)) (hz : (Int8.ofInt i).toInt32 = z) (hp : pc + 2 = pc') (g : Go p e below P T (mkF m pc' Ls (.int z :: st))) : Go p e below P T (mkF m pc Ls st) := by
  subst hp hz
  exact Go.to (fun _ q => XS.bipush k.1.here k.2.1 rfl (hb k.2.2.2.2.2.1 hd) q) g
theorem s_sipush (k : K p l e R s m args below meth c bytes own maxL ret nm T locs cells slots Z h n0) {i : Int} {z : Int32} (hd : decode bytes pc = .ok (.sipush i, 3)) (hz : (Int16.ofInt i).toInt32 = z) (hp : pc + 3 = pc') (g : Go p e below P T (mkF m pc' Ls (.int z :: st))) : Go p e below P T (mkF m pc Ls st) := by
  subst hp hz
  exact Go.to (fun _ q => XS.sipush k.1.here k.2.1 rfl (hb k.2.2.2.2.2.1 hd) q) g
theorem s_lconst (k : K p l e R s m args below meth c bytes own maxL ret nm T locs cells slots Z h n0) {i : Fin 2} {z : Int64} (hd : decode bytes pc = .ok (.lconst i, 1)) (hz : Int64.ofNat i = z) (hp : pc + 1 = pc') (g : Go p e below P T (mkF m pc' Ls (.long z :: st))) : Go p e below P T (mkF m pc Ls st) := by
  subst hp hz
  exact Go.to (fun _ q => XT.lconst k.1.here k.2.1 rfl (hb k.2.2.2.2.2.1 hd) q) g
theorem s_null (k : K p l e R s m args below meth c bytes own maxL ret nm T locs cells slots Z h n0)  (hd : decode bytes pc = .ok (.aconst_null, 1))  (hp : pc + 1 = pc') (g : Go p e below P T (mkF m pc' Ls (.null :: st))) : Go p e below P T (mkF m pc Ls st) := by
  subst hp
  exact Go.to (fun _ q => XS.aconstNull k.1.here k.2.1 rfl (hb k.2.2.2.2.2.1 hd)  q) g
theorem s_iadd (k : K p l e R s m args below meth c bytes own maxL ret nm T locs cells slots Z h n0) {x y : Int32} {z : Int32} (hd : decode bytes pc = .ok (.iadd, 1))  (hz : x + y = z) (hp : pc + 1 = pc') (g : Go p e below P T (mkF m pc' Ls (.int z :: st))) : Go p e below P T (mkF m pc Ls (.int y :: .int x :: st)) := by
  subst hp hz
  exact Go.to (fun _ q => XS.iadd k.1.here k.2.1 rfl (hb k.2.2.2.2.2.1 hd) rfl q) g
theorem s_ladd (k : K p l e R s m args below meth c bytes own maxL ret nm T locs cells slots Z h n0) {x y : Int64} {z : Int64} (hd : decode bytes pc = .ok (.ladd, 1))  (hz : x + y = z) (hp : pc + 1 = pc') (g : Go p e below P T (mkF m pc' Ls (.long z :: st))) : Go p e below P T (mkF m pc Ls (.long y :: .long x :: st)) := by
  subst hp hz
  exact Go.to (fun _ q => XT.ladd k.1.here k.2.1 rfl (hb k.2.2.2.2.2.1 hd) rfl q) g
theorem s_isub (k : K p l e R s m args below meth c bytes own maxL ret nm T locs cells slots Z h n0) {x y : Int32} {z : Int32} (hd : decode bytes pc = .ok (.isub, 1))  (hz : x - y = z) (hp : pc + 1 = pc') (g : Go p e below P T (mkF m pc' Ls (.int z :: st))) : Go p e below P T (mkF m pc Ls (.int y :: .int x :: st)) := by
  subst hp hz
  exact Go.to (fun _ q => XS.isub k.1.here k.2.1 rfl (hb k.2.2.2.2.2.1 hd) rfl q) g
theorem s_lsub (k : K p l e R s m args below meth c bytes own maxL ret nm T locs cells slots Z h n0) {x y : Int64} {z : Int64} (hd : decode bytes pc = .ok (.lsub, 1))  (hz : x - y = z) (hp : pc + 1 = pc') (g : Go p e below P T (mkF m pc' Ls (.long z :: st))) : Go p e below P T (mkF m pc Ls (.long y :: .long x :: st)) := by
  subst hp hz
  exact Go.to (fun _ q => XT.lsub k.1.here k.2.1 rfl (hb k.2.2.2.2.2.1 hd) rfl q) g
theorem s_imul (k : K p l e R s m args below meth c bytes own maxL ret nm T locs cells slots Z h n0) {x y : Int32} {z : Int32} (hd : decode bytes pc = .ok (.imul, 1))  (hz : x * y = z) (hp : pc + 1 = pc') (g : Go p e below P T (mkF m pc' Ls (.int z :: st))) : Go p e below P T (mkF m pc Ls (.int y :: .int x :: st)) := by
  subst hp hz
  exact Go.to (fun _ q => XS.imul k.1.here k.2.1 rfl (hb k.2.2.2.2.2.1 hd) rfl q) g
theorem s_lmul (k : K p l e R s m args below meth c bytes own maxL ret nm T locs cells slots Z h n0) {x y : Int64} {z : Int64} (hd : decode bytes pc = .ok (.lmul, 1))  (hz : x * y = z) (hp : pc + 1 = pc') (g : Go p e below P T (mkF m pc' Ls (.long z :: st))) : Go p e below P T (mkF m pc Ls (.long y :: .long x :: st)) := by
  subst hp hz
  exact Go.to (fun _ q => XT.lmul k.1.here k.2.1 rfl (hb k.2.2.2.2.2.1 hd) rfl q) g
theorem s_iand (k : K p l e R s m args below meth c bytes own maxL ret nm T locs cells slots Z h n0) {x y : Int32} {z : Int32} (hd : decode bytes pc = .ok (.iand, 1))  (hz : x &&& y = z) (hp : pc + 1 = pc') (g : Go p e below P T (mkF m pc' Ls (.int z :: st))) : Go p e below P T (mkF m pc Ls (.int y :: .int x :: st)) := by
  subst hp hz
  exact Go.to (fun _ q => XS.iand k.1.here k.2.1 rfl (hb k.2.2.2.2.2.1 hd) rfl q) g
theorem s_land (k : K p l e R s m args below meth c bytes own maxL ret nm T locs cells slots Z h n0) {x y : Int64} {z : Int64} (hd : decode bytes pc = .ok (.land, 1))  (hz : x &&& y = z) (hp : pc + 1 = pc') (g : Go p e below P T (mkF m pc' Ls (.long z :: st))) : Go p e below P T (mkF m pc Ls (.long y :: .long x :: st)) := by
  subst hp hz
  exact Go.to (fun _ q => XT.land k.1.here k.2.1 rfl (hb k.2.2.2.2.2.1 hd) rfl q) g
theorem s_ior (k : K p l e R s m args below meth c bytes own maxL ret nm T locs cells slots Z h n0) {x y : Int32} {z : Int32} (hd : decode bytes pc = .ok (.ior, 1))  (hz : x ||| y = z) (hp : pc + 1 = pc') (g : Go p e below P T (mkF m pc' Ls (.int z :: st))) : Go p e below P T (mkF m pc Ls (.int y :: .int x :: st)) := by
  subst hp hz
  exact Go.to (fun _ q => XT.ior k.1.here k.2.1 rfl (hb k.2.2.2.2.2.1 hd) rfl q) g
theorem s_lor (k : K p l e R s m args below meth c bytes own maxL ret nm T locs cells slots Z h n0) {x y : Int64} {z : Int64} (hd : decode bytes pc = .ok (.lor, 1))  (hz : x ||| y = z) (hp : pc + 1 = pc') (g : Go p e below P T (mkF m pc' Ls (.long z :: st))) : Go p e below P T (mkF m pc Ls (.long y :: .long x :: st)) := by
  subst hp hz
  exact Go.to (fun _ q => XT.lor k.1.here k.2.1 rfl (hb k.2.2.2.2.2.1 hd) rfl q) g
theorem s_ixor (k : K p l e R s m args below meth c bytes own maxL ret nm T locs cells slots Z h n0) {x y : Int32} {z : Int32} (hd : decode bytes pc = .ok (.ixor, 1))  (hz : x ^^^ y = z) (hp : pc + 1 = pc') (g : Go p e below P T (mkF m pc' Ls (.int z :: st))) : Go p e below P T (mkF m pc Ls (.int y :: .int x :: st)) := by
  subst hp hz
  exact Go.to (fun _ q => XT.ixor k.1.here k.2.1 rfl (hb k.2.2.2.2.2.1 hd) rfl q) g
theorem s_lxor (k : K p l e R s m args below meth c bytes own maxL ret nm T locs cells slots Z h n0) {x y : Int64} {z : Int64} (hd : decode bytes pc = .ok (.lxor, 1))  (hz : x ^^^ y = z) (hp : pc + 1 = pc') (g : Go p e below P T (mkF m pc' Ls (.long z :: st))) : Go p e below P T (mkF m pc Ls (.long y :: .long x :: st)) := by
  subst hp hz
  exact Go.to (fun _ q => XT.lxor k.1.here k.2.1 rfl (hb k.2.2.2.2.2.1 hd) rfl q) g
theorem s_iushr (k : K p l e R s m args below meth c bytes own maxL ret nm T locs cells slots Z h n0) {x y : Int32} {z : Int32} (hd : decode bytes pc = .ok (.iushr, 1))  (hz : XT.ushr x y = z) (hp : pc + 1 = pc') (g : Go p e below P T (mkF m pc' Ls (.int z :: st))) : Go p e below P T (mkF m pc Ls (.int y :: .int x :: st)) := by
  subst hp hz
  exact Go.to (fun _ q => XT.iushr k.1.here k.2.1 rfl (hb k.2.2.2.2.2.1 hd) rfl q) g
theorem s_ishr (k : K p l e R s m args below meth c bytes own maxL ret nm T locs cells slots Z h n0) {x y : Int32} {z : Int32} (hd : decode bytes pc = .ok (.ishr, 1))  (hz : x >>> (y &&& 31) = z) (hp : pc + 1 = pc') (g : Go p e below P T (mkF m pc' Ls (.int z :: st))) : Go p e below P T (mkF m pc Ls (.int y :: .int x :: st)) := by
  subst hp hz
  exact Go.to (fun _ q => XT.ishr k.1.here k.2.1 rfl (hb k.2.2.2.2.2.1 hd) rfl q) g
theorem s_ishl (k : K p l e R s m args below meth c bytes own maxL ret nm T locs cells slots Z h n0) {x y : Int32} {z : Int32} (hd : decode bytes pc = .ok (.ishl, 1))  (hz : x <<< (y &&& 31) = z) (hp : pc + 1 = pc') (g : Go p e below P T (mkF m pc' Ls (.int z :: st))) : Go p e below P T (mkF m pc Ls (.int y :: .int x :: st)) := by
  subst hp hz
  exact Go.to (fun _ q => XT.ishl k.1.here k.2.1 rfl (hb k.2.2.2.2.2.1 hd) rfl q) g
theorem s_lushr (k : K p l e R s m args below meth c bytes own maxL ret nm T locs cells slots Z h n0) {x : Int64} {y : Int32} {z : Int64} (hd : decode bytes pc = .ok (.lushr, 1))  (hz : XT.ushrL x y = z) (hp : pc + 1 = pc') (g : Go p e below P T (mkF m pc' Ls (.long z :: st))) : Go p e below P T (mkF m pc Ls (.int y :: .long x :: st)) := by
  subst hp hz
  exact Go.to (fun _ q => XT.lushr k.1.here k.2.1 rfl (hb k.2.2.2.2.2.1 hd) rfl q) g
theorem s_lshl (k : K p l e R s m args below meth c bytes own maxL ret nm T locs cells slots Z h n0) {x : Int64} {y : Int32} {z : Int64} (hd : decode bytes pc = .ok (.lshl, 1))  (hz : x <<< (y.toInt64 &&& 63) = z) (hp : pc + 1 = pc') (g : Go p e below P T (mkF m pc' Ls (.long z :: st))) : Go p e below P T (mkF m pc Ls (.int y :: .long x :: st)) := by
  subst hp hz
  exact Go.to (fun _ q => XT.lshl k.1.here k.2.1 rfl (hb k.2.2.2.2.2.1 hd) rfl q) g
theorem s_lshr (k : K p l e R s m args below meth c bytes own maxL ret nm T locs cells slots Z h n0) {x : Int64} {y : Int32} {z : Int64} (hd : decode bytes pc = .ok (.lshr, 1))  (hz : x >>> (y.toInt64 &&& 63) = z) (hp : pc + 1 = pc') (g : Go p e below P T (mkF m pc' Ls (.long z :: st))) : Go p e below P T (mkF m pc Ls (.int y :: .long x :: st)) := by
  subst hp hz
  exact Go.to (fun _ q => XT.lshr k.1.here k.2.1 rfl (hb k.2.2.2.2.2.1 hd) rfl q) g
theorem s_idiv (k : K p l e R s m args below meth c bytes own maxL ret nm T locs cells slots Z h n0) {x y : Int32} {z : Int32} (hd : decode bytes pc = .ok (.idiv, 1)) (hy : y ≠ 0) (hz : x / y = z) (hp : pc + 1 = pc') (g : Go p e below P T (mkF m pc' Ls (.int z :: st))) : Go p e below P T (mkF m pc Ls (.int y :: .int x :: st)) := by
  subst hp hz
  exact Go.to (fun _ q => XS.idiv k.1.here k.2.1 rfl (hb k.2.2.2.2.2.1 hd) rfl hy q) g
theorem s_ldiv (k : K p l e R s m args below meth c bytes own maxL ret nm T locs cells slots Z h n0) {x y : Int64} {z : Int64} (hd : decode bytes pc = .ok (.ldiv, 1)) (hy : y ≠ 0) (hz : x / y = z) (hp : pc + 1 = pc') (g : Go p e below P T (mkF m pc' Ls (.long z :: st))) : Go p e below P T (mkF m pc Ls (.long y :: .long x :: st)) := by
  subst hp hz
  exact Go.to (fun _ q => XT.ldiv k.1.here k.2.1 rfl (hb k.2.2.2.2.2.1 hd) rfl hy q) g
theorem s_irem (k : K p l e R s m args below meth c bytes own maxL ret nm T locs cells slots Z h n0) {x y : Int32} {z : Int32} (hd : decode bytes pc = .ok (.irem, 1)) (hy : y ≠ 0) (hz : x % y = z) (hp : pc + 1 = pc') (g : Go p e below P T (mkF m pc' Ls (.int z :: st))) : Go p e below P T (mkF m pc Ls (.int y :: .int x :: st)) := by
  subst hp hz
  exact Go.to (fun _ q => iremM k.1 k.2.1 rfl (hb k.2.2.2.2.2.1 hd) rfl hy q) g
theorem s_lrem (k : K p l e R s m args below meth c bytes own maxL ret nm T locs cells slots Z h n0) {x y : Int64} {z : Int64} (hd : decode bytes pc = .ok (.lrem, 1)) (hy : y ≠ 0) (hz : x - x / y * y = z) (hp : pc + 1 = pc') (g : Go p e below P T (mkF m pc' Ls (.long z :: st))) : Go p e below P T (mkF m pc Ls (.long y :: .long x :: st)) := by
  subst hp hz
  exact Go.to (fun _ q => XT.lrem k.1.here k.2.1 rfl (hb k.2.2.2.2.2.1 hd) rfl hy q) g
theorem s_lneg (k : K p l e R s m args below meth c bytes own maxL ret nm T locs cells slots Z h n0) {x : Int64} {z : Int64} (hd : decode bytes pc = .ok (.lneg, 1))  (hz : -x = z) (hp : pc + 1 = pc') (g : Go p e below P T (mkF m pc' Ls (.long z :: st))) : Go p e below P T (mkF m pc Ls (.long x :: st)) := by
  subst hp hz
  exact Go.to (fun _ q => XT.lneg k.1.here k.2.1 rfl (hb k.2.2.2.2.2.1 hd) rfl q) g
theorem s_ineg (k : K p l e R s m args below meth c bytes own maxL ret nm T locs cells slots Z h n0) {x : Int32} {z : Int32} (hd : decode bytes pc = .ok (.ineg, 1))  (hz : -x = z) (hp : pc + 1 = pc') (g : Go p e below P T (mkF m pc' Ls (.int z :: st))) : Go p e below P T (mkF m pc Ls (.int x :: st)) := by
  subst hp hz
  exact Go.to (fun _ q => XS.ineg k.1.here k.2.1 rfl (hb k.2.2.2.2.2.1 hd) rfl q) g
theorem s_i2l (k : K p l e R s m args below meth c bytes own maxL ret nm T locs cells slots Z h n0) {x : Int32} {z : Int64} (hd : decode bytes pc = .ok (.i2l, 1))  (hz : x.toInt64 = z) (hp : pc + 1 = pc') (g : Go p e below P T (mkF m pc' Ls (.long z :: st))) : Go p e below P T (mkF m pc Ls (.int x :: st)) := by
  subst hp hz
  exact Go.to (fun _ q => XT.i2l k.1.here k.2.1 rfl (hb k.2.2.2.2.2.1 hd) rfl q) g
theorem s_l2i (k : K p l e R s m args below meth c bytes own maxL ret nm T locs cells slots Z h n0) {x : Int64} {z : Int32} (hd : decode bytes pc = .ok (.l2i, 1))  (hz : x.toInt32 = z) (hp : pc + 1 = pc') (g : Go p e below P T (mkF m pc' Ls (.int z :: st))) : Go p e below P T (mkF m pc Ls (.long x :: st)) := by
  subst hp hz
  exact Go.to (fun _ q => XT.l2i k.1.here k.2.1 rfl (hb k.2.2.2.2.2.1 hd) rfl q) g
theorem s_i2b (k : K p l e R s m args below meth c bytes own maxL ret nm T locs cells slots Z h n0) {x : Int32} {z : Int32} (hd : decode bytes pc = .ok (.i2b, 1))  (hz : x.toInt8.toInt32 = z) (hp : pc + 1 = pc') (g : Go p e below P T (mkF m pc' Ls (.int z :: st))) : Go p e below P T (mkF m pc Ls (.int x :: st)) := by
  subst hp hz
  exact Go.to (fun _ q => XT.i2b k.1.here k.2.1 rfl (hb k.2.2.2.2.2.1 hd) rfl q) g
theorem s_i2c (k : K p l e R s m args below meth c bytes own maxL ret nm T locs cells slots Z h n0) {x : Int32} {z : Int32} (hd : decode bytes pc = .ok (.i2c, 1))  (hz : x.toUInt32.toUInt16.toUInt32.toInt32 = z) (hp : pc + 1 = pc') (g : Go p e below P T (mkF m pc' Ls (.int z :: st))) : Go p e below P T (mkF m pc Ls (.int x :: st)) := by
  subst hp hz
  exact Go.to (fun _ q => XT.i2c k.1.here k.2.1 rfl (hb k.2.2.2.2.2.1 hd) rfl q) g
theorem s_dup (k : K p l e R s m args below meth c bytes own maxL ret nm T locs cells slots Z h n0) {x : Value} (hd : decode bytes pc = .ok (.dup, 1)) (hc : x.category = 1) (hp : pc + 1 = pc') (g : Go p e below P T (mkF m pc' Ls (x :: x :: st))) : Go p e below P T (mkF m pc Ls (x :: st)) := by
  subst hp
  exact Go.to (fun _ q => XS.dup k.1.here k.2.1 rfl (hb k.2.2.2.2.2.1 hd) rfl hc q) g
theorem s_pop (k : K p l e R s m args below meth c bytes own maxL ret nm T locs cells slots Z h n0) {x : Value} (hd : decode bytes pc = .ok (.pop, 1)) (hc : x.category = 1) (hp : pc + 1 = pc') (g : Go p e below P T (mkF m pc' Ls st)) : Go p e below P T (mkF m pc Ls (x :: st)) := by
  subst hp
  exact Go.to (fun _ q => XT.pop k.1.here k.2.1 rfl (hb k.2.2.2.2.2.1 hd) rfl hc q) g
theorem s_dupx1 (k : K p l e R s m args below meth c bytes own maxL ret nm T locs cells slots Z h n0) {x y : Value} (hd : decode bytes pc = .ok (.dup_x1, 1)) (hc : x.category = 1) (hc' : y.category = 1) (hp : pc + 1 = pc') (g : Go p e below P T (mkF m pc' Ls (x :: y :: x :: st))) : Go p e below P T (mkF m pc Ls (x :: y :: st)) := by
  subst hp
  exact Go.to (fun _ q => XT.dupX1 k.1.here k.2.1 rfl (hb k.2.2.2.2.2.1 hd) rfl hc hc' q) g
theorem s_dup2 (k : K p l e R s m args below meth c bytes own maxL ret nm T locs cells slots Z h n0) {x y : Value} (hd : decode bytes pc = .ok (.dup2, 1)) (hc : x.category = 1) (hc' : y.category = 1) (hp : pc + 1 = pc') (g : Go p e below P T (mkF m pc' Ls (x :: y :: x :: y :: st))) : Go p e below P T (mkF m pc Ls (x :: y :: st)) := by
  subst hp
  exact Go.to (fun _ q => XT.dup2 k.1.here k.2.1 rfl (hb k.2.2.2.2.2.1 hd) rfl hc hc' q) g
theorem s_iinc (k : K p l e R s m args below meth c bytes own maxL ret nm T locs cells slots Z h n0) {i : Nat} {d : Int} {x z : Int32} {l' : Array Slot} (hd : decode bytes pc = .ok (.iinc i d, 3)) (hl : Ls[i]? = some (.val (.int x))) (hz : x + Int32.ofInt d = z) (hl' : storeLocals Ls i (.int z) = some l') (hp : pc + 3 = pc') (g : Go p e below P T (mkF m pc' l' st)) : Go p e below P T (mkF m pc Ls st) := by
  subst hp
  exact Go.to (fun _ q => XS.iinc k.1.here k.2.1 rfl (hb k.2.2.2.2.2.1 hd) hl (hz ▸ hl') q) g
theorem s_goto (k : K p l e R s m args below meth c bytes own maxL ret nm T locs cells slots Z h n0) {o : Int} (hd : decode bytes pc = .ok (.goto o, 3)) (ho : 0 ≤ (pc : Int) + o) (hp : ((pc : Int) + o).toNat = pc') (g : Go p e below P T (mkF m pc' Ls st)) : Go p e below P T (mkF m pc Ls st) :=
  Go.to (fun _ q => XS.goto k.1.here k.2.1 rfl rfl (hb k.2.2.2.2.2.1 hd) ho hp q) g
theorem s_icmp_eq (k : K p l e R s m args below meth c bytes own maxL ret nm T locs cells slots Z h n0) {x y : Int32} {o : Int} (hd : decode bytes pc = .ok (.if_icmp .eq o, 3)) (ho : 0 ≤ (pc : Int) + o) (hp : ((pc : Int) + o).toNat = pc') (h3 : pc + 3 = pc3) (gt : x = y → Go p e below P T (mkF m pc' Ls st)) (gf : ¬ (x = y) → Go p e below P T (mkF m pc3 Ls st)) : Go p e below P T (mkF m pc Ls (.int y :: .int x :: st)) := by
  subst h3
  by_cases hc : x = y
  · exact Go.to (fun _ q => XS.icmpYes k.1.here k.2.1 rfl rfl (hb k.2.2.2.2.2.1 hd) rfl (teq hc).1 ho hp q) (gt hc)
  · exact Go.to (fun _ q => XS.icmpNo k.1.here k.2.1 rfl (hb k.2.2.2.2.2.1 hd) rfl (feq hc).1 q) (gf hc)
theorem s_if_eq (k : K p l e R s m args below meth c bytes own maxL ret nm T locs cells slots Z h n0) {x : Int32} {o : Int} (hd : decode bytes pc = .ok (.ifCond .eq o, 3)) (ho : 0 ≤ (pc : Int) + o) (hp : ((pc : Int) + o).toNat = pc') (h3 : pc + 3 = pc3) (gt : x = 0 → Go p e below P T (mkF m pc' Ls st)) (gf : ¬ (x = 0) → Go p e below P T (mkF m pc3 Ls st)) : Go p e below P T (mkF m pc Ls (.int x :: st)) := by
  subst h3
  by_cases hc : x = 0
  · exact Go.to (fun _ q => XS.ifYes k.1.here k.2.1 rfl rfl (hb k.2.2.2.2.2.1 hd) rfl ((if0 _ _).trans (teq hc).1) ho hp q) (gt hc)
  · exact Go.to (fun _ q => XS.ifNo k.1.here k.2.1 rfl (hb k.2.2.2.2.2.1 hd) rfl ((if0 _ _).trans (feq hc).1) q) (gf hc)
theorem s_icmp_ne (k : K p l e R s m args below meth c bytes own maxL ret nm T locs cells slots Z h n0) {x y : Int32} {o : Int} (hd : decode bytes pc = .ok (.if_icmp .ne o, 3)) (ho : 0 ≤ (pc : Int) + o) (hp : ((pc : Int) + o).toNat = pc') (h3 : pc + 3 = pc3) (gt : x = y → Go p e below P T (mkF m pc3 Ls st)) (gf : ¬ (x = y) → Go p e below P T (mkF m pc' Ls st)) : Go p e below P T (mkF m pc Ls (.int y :: .int x :: st)) := by
  subst h3
  by_cases hc : x = y
  · exact Go.to (fun _ q => XS.icmpNo k.1.here k.2.1 rfl (hb k.2.2.2.2.2.1 hd) rfl (teq hc).2 q) (gt hc)
  · exact Go.to (fun _ q => XS.icmpYes k.1.here k.2.1 rfl rfl (hb k.2.2.2.2.2.1 hd) rfl (feq hc).2 ho hp q) (gf hc)
theorem s_if_ne (k : K p l e R s m args below meth c bytes own maxL ret nm T locs cells slots Z h n0) {x : Int32} {o : Int} (hd : decode bytes pc = .ok (.ifCond .ne o, 3)) (ho : 0 ≤ (pc : Int) + o) (hp : ((pc : Int) + o).toNat = pc') (h3 : pc + 3 = pc3) (gt : x = 0 → Go p e below P T (mkF m pc3 Ls st)) (gf : ¬ (x = 0) → Go p e below P T (mkF m pc' Ls st)) : Go p e below P T (mkF m pc Ls (.int x :: st)) := by
  subst h3
  by_cases hc : x = 0
  · exact Go.to (fun _ q => XS.ifNo k.1.here k.2.1 rfl (hb k.2.2.2.2.2.1 hd) rfl ((if0 _ _).trans (teq hc).2) q) (gt hc)
  · exact Go.to (fun _ q => XS.ifYes k.1.here k.2.1 rfl rfl (hb k.2.2.2.2.2.1 hd) rfl ((if0 _ _).trans (feq hc).2) ho hp q) (gf hc)
theorem s_icmp_lt (k : K p l e R s m args below meth c bytes own maxL ret nm T locs cells slots Z h n0) {x y : Int32} {o : Int} (hd : decode bytes pc = .ok (.if_icmp .lt o, 3)) (ho : 0 ≤ (pc : Int) + o) (hp : ((pc : Int) + o).toNat = pc') (h3 : pc + 3 = pc3) (gt : x < y → Go p e below P T (mkF m pc' Ls st)) (gf : ¬ (x < y) → Go p e below P T (mkF m pc3 Ls st)) : Go p e below P T (mkF m pc Ls (.int y :: .int x :: st)) := by
  subst h3
  by_cases hc : x < y
  · exact Go.to (fun _ q => XS.icmpYes k.1.here k.2.1 rfl rfl (hb k.2.2.2.2.2.1 hd) rfl (tlt hc).1 ho hp q) (gt hc)
  · exact Go.to (fun _ q => XS.icmpNo k.1.here k.2.1 rfl (hb k.2.2.2.2.2.1 hd) rfl (flt hc).1 q) (gf hc)
theorem s_if_lt (k : K p l e R s m args below meth c bytes own maxL ret nm T locs cells slots Z h n0) {x : Int32} {o : Int} (hd : decode bytes pc = .ok (.ifCond .lt o, 3)) (ho : 0 ≤ (pc : Int) + o) (hp : ((pc : Int) + o).toNat = pc') (h3 : pc + 3 = pc3) (gt : x < 0 → Go p e below P T (mkF m pc' Ls st)) (gf : ¬ (x < 0) → Go p e below P T (mkF m pc3 Ls st)) : Go p e below P T (mkF m pc Ls (.int x :: st)) := by
  subst h3
  by_cases hc : x < 0
  · exact Go.to (fun _ q => XS.ifYes k.1.here k.2.1 rfl rfl (hb k.2.2.2.2.2.1 hd) rfl ((if0 _ _).trans (tlt hc).1) ho hp q) (gt hc)
  · exact Go.to (fun _ q => XS.ifNo k.1.here k.2.1 rfl (hb k.2.2.2.2.2.1 hd) rfl ((if0 _ _).trans (flt hc).1) q) (gf hc)
theorem s_icmp_ge (k : K p l e R s m args below meth c bytes own maxL ret nm T locs cells slots Z h n0) {x y : Int32} {o : Int} (hd : decode bytes pc = .ok (.if_icmp .ge o, 3)) (ho : 0 ≤ (pc : Int) + o) (hp : ((pc : Int) + o).toNat = pc') (h3 : pc + 3 = pc3) (gt : x < y → Go p e below P T (mkF m pc3 Ls st)) (gf : ¬ (x < y) → Go p e below P T (mkF m pc' Ls st)) : Go p e below P T (mkF m pc Ls (.int y :: .int x :: st)) := by
  subst h3
  by_cases hc : x < y
  · exact Go.to (fun _ q => XS.icmpNo k.1.here k.2.1 rfl (hb k.2.2.2.2.2.1 hd) rfl (tlt hc).2.1 q) (gt hc)
  · exact Go.to (fun _ q => XS.icmpYes k.1.here k.2.1 rfl rfl (hb k.2.2.2.2.2.1 hd) rfl (flt hc).2.1 ho hp q) (gf hc)
theorem s_if_ge (k : K p l e R s m args below meth c bytes own maxL ret nm T locs cells slots Z h n0) {x : Int32} {o : Int} (hd : decode bytes pc = .ok (.ifCond .ge o, 3)) (ho : 0 ≤ (pc : Int) + o) (hp : ((pc : Int) + o).toNat = pc') (h3 : pc + 3 = pc3) (gt : x < 0 → Go p e below P T (mkF m pc3 Ls st)) (gf : ¬ (x < 0) → Go p e below P T (mkF m pc' Ls st)) : Go p e below P T (mkF m pc Ls (.int x :: st)) := by
  subst h3
  by_cases hc : x < 0
  · exact Go.to (fun _ q => XS.ifNo k.1.here k.2.1 rfl (hb k.2.2.2.2.2.1 hd) rfl ((if0 _ _).trans (tlt hc).2.1) q) (gt hc)
  · exact Go.to (fun _ q => XS.ifYes k.1.here k.2.1 rfl rfl (hb k.2.2.2.2.2.1 hd) rfl ((if0 _ _).trans (flt hc).2.1) ho hp q) (gf hc)
theorem s_icmp_gt (k : K p l e R s m args below meth c bytes own maxL ret nm T locs cells slots Z h n0) {x y : Int32} {o : Int} (hd : decode bytes pc = .ok (.if_icmp .gt o, 3)) (ho : 0 ≤ (pc : Int) + o) (hp : ((pc : Int) + o).toNat = pc') (h3 : pc + 3 = pc3) (gt : y < x → Go p e below P T (mkF m pc' Ls st)) (gf : ¬ (y < x) → Go p e below P T (mkF m pc3 Ls st)) : Go p e below P T (mkF m pc Ls (.int y :: .int x :: st)) := by
  subst h3
  by_cases hc : y < x
  · exact Go.to (fun _ q => XS.icmpYes k.1.here k.2.1 rfl rfl (hb k.2.2.2.2.2.1 hd) rfl (tlt hc).2.2.1 ho hp q) (gt hc)
  · exact Go.to (fun _ q => XS.icmpNo k.1.here k.2.1 rfl (hb k.2.2.2.2.2.1 hd) rfl (flt hc).2.2.1 q) (gf hc)
theorem s_if_gt (k : K p l e R s m args below meth c bytes own maxL ret nm T locs cells slots Z h n0) {x : Int32} {o : Int} (hd : decode bytes pc = .ok (.ifCond .gt o, 3)) (ho : 0 ≤ (pc : Int) + o) (hp : ((pc : Int) + o).toNat = pc') (h3 : pc + 3 = pc3) (gt : 0 < x → Go p e below P T (mkF m pc' Ls st)) (gf : ¬ (0 < x) → Go p e below P T (mkF m pc3 Ls st)) : Go p e below P T (mkF m pc Ls (.int x :: st)) := by
  subst h3
  by_cases hc : 0 < x
  · exact Go.to (fun _ q => XS.ifYes k.1.here k.2.1 rfl rfl (hb k.2.2.2.2.2.1 hd) rfl ((if0 _ _).trans (tlt hc).2.2.1) ho hp q) (gt hc)
  · exact Go.to (fun _ q => XS.ifNo k.1.here k.2.1 rfl (hb k.2.2.2.2.2.1 hd) rfl ((if0 _ _).trans (flt hc).2.2.1) q) (gf hc)
theorem s_icmp_le (k : K p l e R s m args below meth c bytes own maxL ret nm T locs cells slots Z h n0) {x y : Int32} {o : Int} (hd : decode bytes pc = .ok (.if_icmp .le o, 3)) (ho : 0 ≤ (pc : Int) + o) (hp : ((pc : Int) + o).toNat = pc') (h3 : pc + 3 = pc3) (gt : y < x → Go p e below P T (mkF m pc3 Ls st)) (gf : ¬ (y < x) → Go p e below P T (mkF m pc' Ls st)) : Go p e below P T (mkF m pc Ls (.int y :: .int x :: st)) := by
  subst h3
  by_cases hc : y < x
  · exact Go.to (fun _ q => XS.icmpNo k.1.here k.2.1 rfl (hb k.2.2.2.2.2.1 hd) rfl (tlt hc).2.2.2 q) (gt hc)
  · exact Go.to (fun _ q => XS.icmpYes k.1.here k.2.1 rfl rfl (hb k.2.2.2.2.2.1 hd) rfl (flt hc).2.2.2 ho hp q) (gf hc)
theorem s_if_le (k : K p l e R s m args below meth c bytes own maxL ret nm T locs cells slots Z h n0) {x : Int32} {o : Int} (hd : decode bytes pc = .ok (.ifCond .le o, 3)) (ho : 0 ≤ (pc : Int) + o) (hp : ((pc : Int) + o).toNat = pc') (h3 : pc + 3 = pc3) (gt : 0 < x → Go p e below P T (mkF m pc3 Ls st)) (gf : ¬ (0 < x) → Go p e below P T (mkF m pc' Ls st)) : Go p e below P T (mkF m pc Ls (.int x :: st)) := by
  subst h3
  by_cases hc : 0 < x
  · exact Go.to (fun _ q => XS.ifNo k.1.here k.2.1 rfl (hb k.2.2.2.2.2.1 hd) rfl ((if0 _ _).trans (tlt hc).2.2.2) q) (gt hc)
  · exact Go.to (fun _ q => XS.ifYes k.1.here k.2.1 rfl rfl (hb k.2.2.2.2.2.1 hd) rfl ((if0 _ _).trans (flt hc).2.2.2) ho hp q) (gf hc)
theorem cmpL_lt (x y : Int64) : XT.cmpL x y < 0 ↔ x < y := by unfold XT.cmpL; split <;> (try split) <;> simp_all [Int64.lt_iff_toInt_lt, ← Int64.toInt_inj] <;> omega
theorem cmpL_gt (x y : Int64) : 0 < XT.cmpL x y ↔ y < x := by unfold XT.cmpL; split <;> (try split) <;> simp_all [Int64.lt_iff_toInt_lt, ← Int64.toInt_inj] <;> omega
theorem cmpL_eq (x y : Int64) : XT.cmpL x y = 0 ↔ x = y := by unfold XT.cmpL; split <;> (try split) <;> simp_all [Int64.lt_iff_toInt_lt, ← Int64.toInt_inj] <;> omega
theorem s_lcmp_eq (k : K p l e R s m args below meth c bytes own maxL ret nm T locs cells slots Z h n0) {x y : Int64} {o : Int} {pc1 : Nat} (hd1 : decode bytes pc = .ok (.lcmp, 1)) (h1 : pc + 1 = pc1) (hd : decode bytes pc1 = .ok (.ifCond .eq o, 3)) (ho : 0 ≤ (pc1 : Int) + o) (hp : ((pc1 : Int) + o).toNat = pc') (h3 : pc1 + 3 = pc3) (gt : x = y → Go p e below P T (mkF m pc' Ls st)) (gf : ¬ (x = y) → Go p e below P T (mkF m pc3 Ls st)) : Go p e below P T (mkF m pc Ls (.long y :: .long x :: st)) := by
  subst h1
  refine Go.to (fun _ q => XT.lcmp k.1.here k.2.1 rfl (hb k.2.2.2.2.2.1 hd1) rfl q) ?_
  exact s_if_eq k hd ho hp h3 (fun q => gt ((cmpL_eq x y).mp q)) (fun q => gf fun z => q ((cmpL_eq x y).mpr z))
theorem s_lcmp_ne (k : K p l e R s m args below meth c bytes own maxL ret nm T locs cells slots Z h n0) {x y : Int64} {o : Int} {pc1 : Nat} (hd1 : decode bytes pc = .ok (.lcmp, 1)) (h1 : pc + 1 = pc1) (hd : decode bytes pc1 = .ok (.ifCond .ne o, 3)) (ho : 0 ≤ (pc1 : Int) + o) (hp : ((pc1 : Int) + o).toNat = pc') (h3 : pc1 + 3 = pc3) (gt : x = y → Go p e below P T (mkF m pc3 Ls st)) (gf : ¬ (x = y) → Go p e below P T (mkF m pc' Ls st)) : Go p e below P T (mkF m pc Ls (.long y :: .long x :: st)) := by
  subst h1
  refine Go.to (fun _ q => XT.lcmp k.1.here k.2.1 rfl (hb k.2.2.2.2.2.1 hd1) rfl q) ?_
  exact s_if_ne k hd ho hp h3 (fun q => gt ((cmpL_eq x y).mp q)) (fun q => gf fun z => q ((cmpL_eq x y).mpr z))
theorem s_lcmp_lt (k : K p l e R s m args below meth c bytes own maxL ret nm T locs cells slots Z h n0) {x y : Int64} {o : Int} {pc1 : Nat} (hd1 : decode bytes pc = .ok (.lcmp, 1)) (h1 : pc + 1 = pc1) (hd : decode bytes pc1 = .ok (.ifCond .lt o, 3)) (ho : 0 ≤ (pc1 : Int) + o) (hp : ((pc1 : Int) + o).toNat = pc') (h3 : pc1 + 3 = pc3) (gt : x < y → Go p e below P T (mkF m pc' Ls st)) (gf : ¬ (x < y) → Go p e below P T (mkF m pc3 Ls st)) : Go p e below P T (mkF m pc Ls (.long y :: .long x :: st)) := by
  subst h1
  refine Go.to (fun _ q => XT.lcmp k.1.here k.2.1 rfl (hb k.2.2.2.2.2.1 hd1) rfl q) ?_
  exact s_if_lt k hd ho hp h3 (fun q => gt ((cmpL_lt x y).mp q)) (fun q => gf fun z => q ((cmpL_lt x y).mpr z))
theorem s_lcmp_ge (k : K p l e R s m args below meth c bytes own maxL ret nm T locs cells slots Z h n0) {x y : Int64} {o : Int} {pc1 : Nat} (hd1 : decode bytes pc = .ok (.lcmp, 1)) (h1 : pc + 1 = pc1) (hd : decode bytes pc1 = .ok (.ifCond .ge o, 3)) (ho : 0 ≤ (pc1 : Int) + o) (hp : ((pc1 : Int) + o).toNat = pc') (h3 : pc1 + 3 = pc3) (gt : x < y → Go p e below P T (mkF m pc3 Ls st)) (gf : ¬ (x < y) → Go p e below P T (mkF m pc' Ls st)) : Go p e below P T (mkF m pc Ls (.long y :: .long x :: st)) := by
  subst h1
  refine Go.to (fun _ q => XT.lcmp k.1.here k.2.1 rfl (hb k.2.2.2.2.2.1 hd1) rfl q) ?_
  exact s_if_ge k hd ho hp h3 (fun q => gt ((cmpL_lt x y).mp q)) (fun q => gf fun z => q ((cmpL_lt x y).mpr z))
theorem s_lcmp_gt (k : K p l e R s m args below meth c bytes own maxL ret nm T locs cells slots Z h n0) {x y : Int64} {o : Int} {pc1 : Nat} (hd1 : decode bytes pc = .ok (.lcmp, 1)) (h1 : pc + 1 = pc1) (hd : decode bytes pc1 = .ok (.ifCond .gt o, 3)) (ho : 0 ≤ (pc1 : Int) + o) (hp : ((pc1 : Int) + o).toNat = pc') (h3 : pc1 + 3 = pc3) (gt : y < x → Go p e below P T (mkF m pc' Ls st)) (gf : ¬ (y < x) → Go p e below P T (mkF m pc3 Ls st)) : Go p e below P T (mkF m pc Ls (.long y :: .long x :: st)) := by
  subst h1
  refine Go.to (fun _ q => XT.lcmp k.1.here k.2.1 rfl (hb k.2.2.2.2.2.1 hd1) rfl q) ?_
  exact s_if_gt k hd ho hp h3 (fun q => gt ((cmpL_gt x y).mp q)) (fun q => gf fun z => q ((cmpL_gt x y).mpr z))
theorem s_lcmp_le (k : K p l e R s m args below meth c bytes own maxL ret nm T locs cells slots Z h n0) {x y : Int64} {o : Int} {pc1 : Nat} (hd1 : decode bytes pc = .ok (.lcmp, 1)) (h1 : pc + 1 = pc1) (hd : decode bytes pc1 = .ok (.ifCond .le o, 3)) (ho : 0 ≤ (pc1 : Int) + o) (hp : ((pc1 : Int) + o).toNat = pc') (h3 : pc1 + 3 = pc3) (gt : y < x → Go p e below P T (mkF m pc3 Ls st)) (gf : ¬ (y < x) → Go p e below P T (mkF m pc' Ls st)) : Go p e below P T (mkF m pc Ls (.long y :: .long x :: st)) := by
  subst h1
  refine Go.to (fun _ q => XT.lcmp k.1.here k.2.1 rfl (hb k.2.2.2.2.2.1 hd1) rfl q) ?_
  exact s_if_le k hd ho hp h3 (fun q => gt ((cmpL_gt x y).mp q)) (fun q => gf fun z => q ((cmpL_gt x y).mpr z))
theorem s_ldcI (k : K p l e R s m args below meth c bytes own maxL ret nm T locs cells slots Z h n0) {index : Nat} {v : Int32} (hd : decode bytes pc = .ok (.ldc index, 2)) (w : (Cond.constant own index v).before a0 Z = true) (hp : pc + 2 = pc') (g : Go p e below P T (mkF m pc' Ls (.int v :: st))) : Go p e below P T (mkF m pc Ls st) := by
  subst hp
  exact Go.to (k.1.ldcInt k.2.1 k.2.2.2.2.2.2.1 (mvT k.2.2.1 w) (g := mkF m pc Ls st) rfl (hb k.2.2.2.2.2.1 hd)) g
theorem s_ldcwI (k : K p l e R s m args below meth c bytes own maxL ret nm T locs cells slots Z h n0) {index : Nat} {v : Int32} (hd : decode bytes pc = .ok (.ldc_w index, 3)) (w : (Cond.constant own index v).before a0 Z = true) (hp : pc + 3 = pc') (g : Go p e below P T (mkF m pc' Ls (.int v :: st))) : Go p e below P T (mkF m pc Ls st) := by
  subst hp
  exact Go.to (k.1.ldcwInt k.2.1 k.2.2.2.2.2.2.1 (mvT k.2.2.1 w) (g := mkF m pc Ls st) rfl (hb k.2.2.2.2.2.1 hd)) g
theorem s_ldcL (k : K p l e R s m args below meth c bytes own maxL ret nm T locs cells slots Z h n0) {index : Nat} {v : Int64} (hd : decode bytes pc = .ok (.ldc2_w index, 3)) (w : (Cond.constantLong own index v).before a0 Z = true) (hp : pc + 3 = pc') (g : Go p e below P T (mkF m pc' Ls (.long v :: st))) : Go p e below P T (mkF m pc Ls st) := by
  subst hp
  exact Go.to (k.1.ldc2Long k.2.1 k.2.2.2.2.2.2.1 (mvT k.2.2.1 w) (g := mkF m pc Ls st) rfl (hb k.2.2.2.2.2.1 hd)) g
/-- a null test -/
theorem s_nullY (k : K p l e R s m args below meth c bytes own maxL ret nm T locs cells slots Z h n0) {o : Int} (hd : decode bytes pc = .ok (.ifnull o, 3)) (ho : 0 ≤ (pc : Int) + o) (hp : ((pc : Int) + o).toNat = pc') (g : Go p e below P T (mkF m pc' Ls st)) : Go p e below P T (mkF m pc Ls (.null :: st)) :=
  Go.to (fun _ q => XS.ifnullYes k.1.here k.2.1 rfl rfl (hb k.2.2.2.2.2.1 hd) rfl ho hp q) g
theorem s_nullN (k : K p l e R s m args below meth c bytes own maxL ret nm T locs cells slots Z h n0) {o : Int} {b : Addr} (hd : decode bytes pc = .ok (.ifnull o, 3)) (hp : pc + 3 = pc') (g : Go p e below P T (mkF m pc' Ls st)) : Go p e below P T (mkF m pc Ls (.ref b :: st)) := by
  subst hp
  exact Go.to (fun _ q => XS.ifnullNo k.1.here k.2.1 rfl (hb k.2.2.2.2.2.1 hd) rfl q) g
theorem s_nonnullY (k : K p l e R s m args below meth c bytes own maxL ret nm T locs cells slots Z h n0) {o : Int} {b : Addr} (hd : decode bytes pc = .ok (.ifnonnull o, 3)) (ho : 0 ≤ (pc : Int) + o) (hp : ((pc : Int) + o).toNat = pc') (g : Go p e below P T (mkF m pc' Ls st)) : Go p e below P T (mkF m pc Ls (.ref b :: st)) :=
  Go.to (fun _ q => XT.ifnonnullYes k.1.here k.2.1 rfl rfl (hb k.2.2.2.2.2.1 hd) rfl ho hp q) g
theorem s_nonnullN (k : K p l e R s m args below meth c bytes own maxL ret nm T locs cells slots Z h n0) {o : Int} (hd : decode bytes pc = .ok (.ifnonnull o, 3)) (hp : pc + 3 = pc') (g : Go p e below P T (mkF m pc' Ls st)) : Go p e below P T (mkF m pc Ls (.null :: st)) := by
  subst hp
  exact Go.to (fun _ q => XT.ifnonnullNo k.1.here k.2.1 rfl (hb k.2.2.2.2.2.1 hd) rfl q) g
theorem s_acmp_ne (k : K p l e R s m args below meth c bytes own maxL ret nm T locs cells slots Z h n0) {x y : Value} {o : Int} (hd : decode bytes pc = .ok (.if_acmp .ne o, 3)) (hx : x.isRef = true) (hy : y.isRef = true) (ho : 0 ≤ (pc : Int) + o) (hp : ((pc : Int) + o).toNat = pc') (h3 : pc + 3 = pc3) (gt : x = y → Go p e below P T (mkF m pc3 Ls st)) (gf : ¬ (x = y) → Go p e below P T (mkF m pc' Ls st)) : Go p e below P T (mkF m pc Ls (y :: x :: st)) := by
  by_cases hc : x = y
  · exact Go.to (fun _ q => Jvm.RoadKit.acmp (g := mkF m pc Ls (y :: x :: st)) k.1 k.2.1 rfl hx hy (pc' := pc3) (same := true) rfl (hb k.2.2.2.2.2.1 hd) rfl (decide_eq_true hc) ho h3.symm q) (gt hc)
  · exact Go.to (fun _ q => Jvm.RoadKit.acmp (g := mkF m pc Ls (y :: x :: st)) k.1 k.2.1 rfl hx hy (pc' := pc') (same := false) rfl (hb k.2.2.2.2.2.1 hd) rfl (decide_eq_false hc) ho hp.symm q) (gf hc)
/-- getfield -/
theorem s_get (k : K p l e R s m args below meth c bytes own maxL ret nm T locs cells slots Z h n0) {R0 O n d host : String} {index : Nat} {a : Addr} {v : Value} (hd : decode bytes pc = .ok (.getfield index, 3)) (w : (Cond.fieldLink own index R0 n d).before a0 Z = true ∨ (Cond.fieldLinkNest own index R0 n d host).before a0 Z = true) (via : Via Z R0 O n d) (F : Fld Z h a O n d v) (hp : pc + 3 = pc')
    (g : ∀ T', K p l e R s m args below meth c bytes own maxL ret nm T' locs cells slots Z h n0 → Go p e below P T' (mkF m pc' Ls (v :: st))) : Go p e below P T (mkF m pc Ls (.ref a :: st)) := by
  subst hp
  obtain ⟨T', X', e', q⟩ := getF k.1 k.2.1 k.2.2.1 k.2.2.2.2.2.2.1 w via k.2.2.2.1 F (g := mkF m pc Ls (.ref a :: st)) rfl rfl (hb k.2.2.2.2.2.1 hd)
  exact Go.to q (g T' (k_hp k X' e' k.2.2.2.2.1))
/-- putfield -/
theorem s_put (k : K p l e R s m args below meth c bytes own maxL ret nm T locs cells slots Z h n0) {R0 O n d host C : String} {index kk : Nat} {ty : FieldType} {a : Addr} {v old : Value} (hd : decode bytes pc = .ok (.putfield index, 3)) (w : (Cond.fieldLink own index R0 n d).before a0 Z = true ∨ (Cond.fieldLinkNest own index R0 n d host).before a0 Z = true) (via : Via Z R0 O n d) (F : Fld Z h a O n d old) (E : Exa Z h a C) (L : (Cond.lays C O n d).before a0 Z = true ∨ ((Cond.laysFinal C O n d).before a0 Z = true ∧ own = O ∧ nm = "<init>")) (wi : (Cond.instantiable C kk).before a0 Z = true)
    (hty : parseFieldDescriptor d = some ty) (hn : narrow ty v = v) (hf : fits ty v = true) (ha : n0 ≤ a) (hp : pc + 3 = pc')
    (g : ∀ T' h' L', K p l e R s m args below meth c bytes own maxL ret nm T' L' cells slots Z h' n0 → Wr h h' a (Jvm.RoadKit.slotOf Z O n d) v → Go p e below P T' (mkF m pc' Ls st)) : Go p e below P T (mkF m pc Ls (v :: .ref a :: st)) := by
  subst hp
  obtain ⟨T', h', X', e', W, q⟩ := putF k.1 k.2.1 k.2.2.1 k.2.2.2.2.2.2.1 w via k.2.2.2.1 F E (L.imp id fun z => ⟨z.1, z.2.1, k.2.2.2.2.2.2.2.2.2.1.trans z.2.2⟩) wi hty hn hf (g := mkF m pc Ls (v :: .ref a :: st)) rfl rfl (hb k.2.2.2.2.2.1 hd)
  exact Go.to q (g T' h' _ (k_hp k X' e' (Fr.snoc X' k.2.2.2.2.1 ha)) W)
/-- getfield by an entry that is resolved -/
theorem ready_of (k : K p l e R s m args below meth c bytes own maxL ret nm T locs cells slots Z h n0) {R0 O n d : String} {index : Nat} (w : (Cond.fieldRef own index R0 n d).before a0 Z = true) (via : Via Z R0 O n d) {cf i : Nat} {kk : Class} {f : Field} (h2 : Z.fieldFound? O n d = some (cf, kk, i, f)) : T.vm.fieldReady m.cls index cf f := by
  have hU : Z.Warmed39 T.vm := wtrans k.2.2.1 k.1.warmed
  have hw := Cond.fieldRef_warmed39 hU w
  have hcur : (Z.setVm T.vm).vm.findClass own = some m.cls := by
    show T.vm.findClass own = _
    rw [k.1.warmed.alike.findClass]; exact k.2.2.2.2.2.2.1
  obtain ⟨c1, k1, i1, f1, hi1, hr1⟩ := Cond.fieldRef_spec hcur hw
  obtain ⟨k', hi', -⟩ := State.fieldFound?_setVm (s := Z) hU.alike (via _ h2)
  cases hi1.symm.trans hi'
  exact hr1
theorem s_getR (k : K p l e R s m args below meth c bytes own maxL ret nm T locs cells slots Z h n0) {R0 O n d : String} {index : Nat} {a : Addr} {v : Value} (hd : decode bytes pc = .ok (.getfield index, 3)) (w : (Cond.fieldRef own index R0 n d).before a0 Z = true) (via : Via Z R0 O n d) (F : Fld Z h a O n d v) (hp : pc + 3 = pc') (g : Go p e below P T (mkF m pc' Ls (v :: st))) : Go p e below P T (mkF m pc Ls (.ref a :: st)) := by
  subst hp
  obtain ⟨cell, cf, kk, i, f, h1, h2, h3, h4, -, -, h7⟩ := F
  have hr1 := ready_of k w via h2
  have hcell : T.heap[a]? = some cell := by rw [k.2.2.2.1]; exact h1
  refine Go.to (fun target q => ?_) g
  jvm_step k.1.here [k.2.1, hb k.2.2.2.2.2.1 hd, getfield.wp_ready (e := e) (s := T) (f := mkF m pc Ls (.ref a :: st)) k.1.here.top hr1 h3 rfl hcell h4 h7]
  exact q
/-- putfield by an entry that is resolved -/
theorem s_putR (k : K p l e R s m args below meth c bytes own maxL ret nm T locs cells slots Z h n0) {R0 O n d C : String} {index kk : Nat} {ty : FieldType} {a : Addr} {v old : Value} (hd : decode bytes pc = .ok (.putfield index, 3)) (w : (Cond.fieldRef own index R0 n d).before a0 Z = true) (via : Via Z R0 O n d) (F : Fld Z h a O n d old) (E : Exa Z h a C) (L : (Cond.lays C O n d).before a0 Z = true) (wi : (Cond.instantiable C kk).before a0 Z = true)
    (hty : parseFieldDescriptor d = some ty) (hn : narrow ty v = v) (hf : fits ty v = true) (ha : n0 ≤ a) (hp : pc + 3 = pc')
    (g : ∀ T' h' L', K p l e R s m args below meth c bytes own maxL ret nm T' L' cells slots Z h' n0 → Wr h h' a (Jvm.RoadKit.slotOf Z O n d) v → Go p e below P T' (mkF m pc' Ls st)) : Go p e below P T (mkF m pc Ls (v :: .ref a :: st)) := by
  subst hp
  obtain ⟨cell, cf, kf, i, f, h1, h2, h3, h4, h5, -, h7⟩ := F
  obtain ⟨cell', kc, e1, e2, e3, -⟩ := E
  cases h1.symm.trans e1
  obtain ⟨c1, k1, cf1, kf1, i1, f1, a1, a2, a3, -, -, a6, -⟩ := Laid.spec (Or.inl L)
  cases h2.symm.trans a3
  cases e2.symm.trans a1
  obtain ⟨c2, k2, i1, i2, i3, -⟩ := Cond.instantiable_spec wi
  cases e2.symm.trans i1
  cases a2.symm.trans i2
  have ht := (State.fieldFound?_type h2 hty).2
  have hfit : Z.fitsSlot cell.cls cell.vm f.slot v = true := by
    have q : Z.slotType? cell.cls cell.vm f.slot = some ty := by
      simp only [State.slotType?, a2, Option.bind_eq_bind, Option.bind_some, i3]
      cases hq : cell.vm <;> first | (rw [hq] at h5; exact Bool.noConfusion h5) | (rw [a6, ht])
    simp [State.fitsSlot, q, hf]
  have hU : Z.Warmed39 T.vm := wtrans k.2.2.1 k.1.warmed
  have hfit' : T.fitsSlot cell.cls cell.vm f.slot v = true := by rw [← State.fitsSlot_setVm hU.alike] at hfit; exact hfit
  have hfin : hasFlag f.accessFlags Acc.final = false := by
    obtain ⟨_, _, _, _, _, _, -, -, b3, -, b5, -⟩ := Cond.lays_spec L
    cases h2.symm.trans b3
    exact b5
  have hr1 := ready_of k w via h2
  have hlt := (Array.getElem?_eq_some_iff.mp h7).1
  have es : Jvm.RoadKit.slotOf Z O n d = f.slot := by simp [Jvm.RoadKit.slotOf, h2]
  have hcell : T.heap[a]? = some cell := by rw [k.2.2.2.1]; exact h1
  obtain ⟨X', q⟩ := k.1.putfieldReady k.2.1 hr1 h3 (Or.inl hfin) hcell h4 hlt (by rw [ht]; exact hn) hfit' (g := mkF m pc Ls (v :: .ref a :: st)) rfl rfl (hb k.2.2.2.2.2.1 hd)
  refine Go.to q (g _ _ _ (k_hp k X' rfl (Fr.snoc X' k.2.2.2.2.1 ha)) ?_)
  rw [es]
  exact ⟨cell, h1, h5, hlt, by rw [← k.2.2.2.1]; rfl⟩
/-- new -/
theorem s_new (k : K p l e R s m args below meth c bytes own maxL ret nm T locs cells slots Z h n0) {C : String} {index n : Nat} (hd : decode bytes pc = .ok (.new index, 3)) (w : (Cond.classLink own index C).before a0 Z = true) (wi : (Cond.instantiable C n).before a0 Z = true) (wz : (Cond.initialized C).before a0 Z = true) (hc : cells + 1 ≤ R.cells) (hl : slots + n ≤ R.slots) (hp : pc + 3 = pc')
    (g : ∀ T' h' b, b = h.size → K p l e R s m args below meth c bytes own maxL ret nm T' locs (cells + 1) (slots + n) Z h' n0 → Ext h h' → Exa Z h' b C → (∀ {O nm d : String} {ty : FieldType}, Laid Z a0 C O nm d → parseFieldDescriptor d = some ty → Fld Z h' b O nm d (defaultValue ty)) → Go p e below P T' (mkF m pc' Ls (.ref b :: st))) : Go p e below P T (mkF m pc Ls st) := by
  subst hp
  obtain ⟨T', h', X', e', E, A, D, -, q⟩ := newO k.1 k.2.1 k.2.2.1 k.2.2.2.2.2.2.1 w wi wz k.2.2.2.1 (g := mkF m pc Ls st) rfl (hb k.2.2.2.2.2.1 hd) hc hl
  exact Go.to q (g T' h' _ rfl (k_hp k X' e' k.2.2.2.2.1) E A D)
/-- newarray of a primitive kind -/
theorem s_newP (k : K p l e R s m args below meth c bytes own maxL ret nm T locs cells slots Z h n0) {aty : ArrayType} {n : Int32} {cap : Nat} (hd : decode bytes pc = .ok (.newarray aty, 2)) (w : (Cond.arrayClass (newarray.typeOf aty)).before a0 Z = true) (hn : ¬ n < 0) (hcap : n.toNatClampNeg ≤ cap) (hb' : cap * 8 ≤ 536870912) (hc : cells + 1 ≤ R.cells) (hl : slots + cap ≤ R.slots) (hp : pc + 2 = pc')
    (g : ∀ T' h' b cA, b = h.size → K p l e R s m args below meth c bytes own maxL ret nm T' locs (cells + 1) (slots + cap) Z h' n0 → Ext h h' → Arv Z h' b cA (newarray.typeOf aty) n [] (defaultValue (newarray.typeOf aty)) → Go p e below P T' (mkF m pc' Ls (.ref b :: st))) : Go p e below P T (mkF m pc Ls (.int n :: st)) := by
  subst hp
  obtain ⟨T', h', cA, X', e', E, A, q⟩ := newP k.1 k.2.1 k.2.2.1 w k.2.2.2.1 (g := mkF m pc Ls (.int n :: st)) rfl (hb k.2.2.2.2.2.1 hd) rfl hn hcap hb' hc hl
  exact Go.to q (g T' h' _ cA rfl (k_hp k X' e' k.2.2.2.2.1) E (Arv.new A hn))
/-- anewarray -/
theorem s_newR (k : K p l e R s m args below meth c bytes own maxL ret nm T locs cells slots Z h n0) {C : String} {index : Nat} {n : Int32} {cap : Nat} (hd : decode bytes pc = .ok (.anewarray index, 3)) (w1 : (Cond.classLink own index C).before a0 Z = true) (w2 : (Cond.arrayOver (.object C)).before a0 Z = true) (hn : ¬ n < 0) (hcap : n.toNatClampNeg ≤ cap) (hb' : cap * 8 ≤ 536870912) (hc : cells + 1 ≤ R.cells) (hl : slots + cap ≤ R.slots) (hp : pc + 3 = pc')
    (g : ∀ T' h' b cA, b = h.size → K p l e R s m args below meth c bytes own maxL ret nm T' locs (cells + 1) (slots + cap) Z h' n0 → Ext h h' → Arv Z h' b cA (.object C) n [] .null → Ovr Z cA C → Go p e below P T' (mkF m pc' Ls (.ref b :: st))) : Go p e below P T (mkF m pc Ls (.int n :: st)) := by
  subst hp
  obtain ⟨T', h', cA, X', e', E, A, O, q⟩ := newR k.1 k.2.1 k.2.2.1 k.2.2.2.2.2.2.1 w1 w2 k.2.2.2.1 (g := mkF m pc Ls (.int n :: st)) rfl (hb k.2.2.2.2.2.1 hd) rfl hn hcap hb' hc hl
  exact Go.to q (g T' h' _ cA rfl (k_hp k X' e' k.2.2.2.2.1) E (Arv.new A hn) O)
/-- arraylength -/
theorem s_len (k : K p l e R s m args below meth c bytes own maxL ret nm T locs cells slots Z h n0) {a : Addr} {kc : ClassId} {ty : FieldType} {z : Int32} {vs : List Value} {dv : Value} (hd : decode bytes pc = .ok (.arraylength, 1)) (A : Arv Z h a kc ty z vs dv) (hp : pc + 1 = pc') (g : Go p e below P T (mkF m pc' Ls (.int z :: st))) : Go p e below P T (mkF m pc Ls (.ref a :: st)) := by
  subst hp
  obtain ⟨cl, A1, -, S, N, -⟩ := A
  rw [← len_of S N] at g
  exact Go.to (fun _ q => k.1.arraylength k.2.1 (by rw [k.2.2.2.1]; exact A1.1) (State.isArrayOf_alike k.2.2.1.alike A1.2.1) (g := mkF m pc Ls (.ref a :: st)) rfl rfl (hb k.2.2.2.2.2.1 hd) _ q) g

theorem s_laload (k : K p l e R s m args below meth c bytes own maxL ret nm T locs cells slots Z h n0) {a : Addr} {kc : ClassId} {z j : Int32} {vs : List Value} {dv v : Value} (hd : decode bytes pc = .ok (.laload, 1)) (A : Arv Z h a kc .long z vs dv) (hj : ¬ j < 0 ∧ j < z) (hv : vs.getD j.toNatClampNeg dv = v) (hp : pc + 1 = pc') (g : Go p e below P T (mkF m pc' Ls (v :: st))) : Go p e below P T (mkF m pc Ls (.int j :: .ref a :: st)) := by
  subst hp
  obtain ⟨cl, A1, -, S, N, H, -⟩ := A
  exact Go.to (fun _ q => k.1.laload k.2.1 (by rw [k.2.2.2.1]; exact A1.1) (State.isArrayOf_alike k.2.2.1.alike A1.2.1) A1.2.2 (inb_of S hj) (H.at (inb_of S hj) hv) (g := mkF m pc Ls (.int j :: .ref a :: st)) rfl rfl (hb k.2.2.2.2.2.1 hd) _ q) g
theorem s_baload (k : K p l e R s m args below meth c bytes own maxL ret nm T locs cells slots Z h n0) {a : Addr} {kc : ClassId} {z j : Int32} {vs : List Value} {dv v : Value} (hd : decode bytes pc = .ok (.baload, 1)) (A : Arv Z h a kc .byte z vs dv) (hj : ¬ j < 0 ∧ j < z) (hv : vs.getD j.toNatClampNeg dv = v) (hp : pc + 1 = pc') (g : Go p e below P T (mkF m pc' Ls (v :: st))) : Go p e below P T (mkF m pc Ls (.int j :: .ref a :: st)) := by
  subst hp
  obtain ⟨cl, A1, -, S, N, H, -⟩ := A
  exact Go.to (fun _ q => k.1.baloadBytes k.2.1 (by rw [k.2.2.2.1]; exact A1.1) (State.isArrayOf_alike k.2.2.1.alike A1.2.1) A1.2.2 (inb_of S hj) (H.at (inb_of S hj) hv) (g := mkF m pc Ls (.int j :: .ref a :: st)) rfl rfl (hb k.2.2.2.2.2.1 hd) _ q) g
theorem s_iaload (k : K p l e R s m args below meth c bytes own maxL ret nm T locs cells slots Z h n0) {a : Addr} {kc : ClassId} {z j : Int32} {vs : List Value} {dv v : Value} (hd : decode bytes pc = .ok (.iaload, 1)) (A : Arv Z h a kc .int z vs dv) (hj : ¬ j < 0 ∧ j < z) (hv : vs.getD j.toNatClampNeg dv = v) (hp : pc + 1 = pc') (g : Go p e below P T (mkF m pc' Ls (v :: st))) : Go p e below P T (mkF m pc Ls (.int j :: .ref a :: st)) := by
  subst hp
  obtain ⟨cl, A1, -, S, N, H, -⟩ := A
  exact Go.to (fun _ q => k.1.iaload k.2.1 (by rw [k.2.2.2.1]; exact A1.1) (State.isArrayOf_alike k.2.2.1.alike A1.2.1) A1.2.2 (inb_of S hj) (H.at (inb_of S hj) hv) (g := mkF m pc Ls (.int j :: .ref a :: st)) rfl rfl (hb k.2.2.2.2.2.1 hd) _ q) g
theorem s_aaload (k : K p l e R s m args below meth c bytes own maxL ret nm T locs cells slots Z h n0) {a : Addr} {kc : ClassId} {ty : FieldType} {z j : Int32} {vs : List Value} {dv v : Value} (hd : decode bytes pc = .ok (.aaload, 1)) (A : Arv Z h a kc ty z vs dv) (hty : ty.isReference = true) (hj : ¬ j < 0 ∧ j < z) (hv : vs.getD j.toNatClampNeg dv = v) (hp : pc + 1 = pc') (g : Go p e below P T (mkF m pc' Ls (v :: st))) : Go p e below P T (mkF m pc Ls (.int j :: .ref a :: st)) := by
  subst hp
  obtain ⟨cl, A1, -, S, N, H, -⟩ := A
  exact Go.to (fun _ q => k.1.aaload k.2.1 (by rw [k.2.2.2.1]; exact A1.1) (State.isArrayOf_alike k.2.2.1.alike A1.2.1) hty A1.2.2 (inb_of S hj) (H.at (inb_of S hj) hv) (g := mkF m pc Ls (.int j :: .ref a :: st)) rfl rfl (hb k.2.2.2.2.2.1 hd) _ q) g
theorem s_lastore (k : K p l e R s m args below meth c bytes own maxL ret nm T locs cells slots Z h n0) {a : Addr} {kc : ClassId} {z j : Int32} {vs : List Value} {dv : Value} {x : Int64} {i : Nat} (hd : decode bytes pc = .ok (.lastore, 1)) (A : Arv Z h a kc .long z vs dv) (hj : ¬ j < 0 ∧ j < z) (hi : j.toNatClampNeg = i) (hl : i < vs.length) (ha : n0 ≤ a) (hp : pc + 1 = pc')
    (g : ∀ T' h' L', K p l e R s m args below meth c bytes own maxL ret nm T' L' cells slots Z h' n0 → Wr h h' a i (.long x) → Arv Z h' a kc .long z (vs.set i (.long x)) dv → Go p e below P T' (mkF m pc' Ls st)) : Go p e below P T (mkF m pc Ls (.long x :: .int j :: .ref a :: st)) := by
  subst hp hi
  obtain ⟨cl, A1, q1, S, N, H, Gf⟩ := A
  obtain ⟨T', h', X', e', W, q⟩ := stJ k.1 k.2.1 k.2.2.1 k.2.2.2.1 A1 (inb_of S hj) (g := mkF m pc Ls (.long x :: .int j :: .ref a :: st)) rfl rfl (hb k.2.2.2.2.2.1 hd)
  exact Go.to q (g T' h' _ (k_hp k X' e' (Fr.snoc X' k.2.2.2.2.1 ha)) W (Arv.set A1 q1 S N H Gf rfl W _ rfl hl))
theorem s_iastore (k : K p l e R s m args below meth c bytes own maxL ret nm T locs cells slots Z h n0) {a : Addr} {kc : ClassId} {z j : Int32} {vs : List Value} {dv : Value} {x : Int32} {i : Nat} (hd : decode bytes pc = .ok (.iastore, 1)) (A : Arv Z h a kc .int z vs dv) (hj : ¬ j < 0 ∧ j < z) (hi : j.toNatClampNeg = i) (hl : i < vs.length) (ha : n0 ≤ a) (hp : pc + 1 = pc')
    (g : ∀ T' h' L', K p l e R s m args below meth c bytes own maxL ret nm T' L' cells slots Z h' n0 → Wr h h' a i (.int x) → Arv Z h' a kc .int z (vs.set i (.int x)) dv → Go p e below P T' (mkF m pc' Ls st)) : Go p e below P T (mkF m pc Ls (.int x :: .int j :: .ref a :: st)) := by
  subst hp hi
  obtain ⟨cl, A1, q1, S, N, H, Gf⟩ := A
  obtain ⟨T', h', X', e', W, q⟩ := stI k.1 k.2.1 k.2.2.1 k.2.2.2.1 A1 (inb_of S hj) (g := mkF m pc Ls (.int x :: .int j :: .ref a :: st)) rfl rfl (hb k.2.2.2.2.2.1 hd)
  exact Go.to q (g T' h' _ (k_hp k X' e' (Fr.snoc X' k.2.2.2.2.1 ha)) W (Arv.set A1 q1 S N H Gf rfl W _ rfl hl))
theorem s_bastore0 (k : K p l e R s m args below meth c bytes own maxL ret nm T locs cells slots Z h n0) {a : Addr} {kc : ClassId} {z j : Int32} {vs : List Value} {dv : Value} {x : Int32} {i : Nat} (hd : decode bytes pc = .ok (.bastore, 1)) (A : Arv Z h a kc .byte z vs dv) (hj : ¬ j < 0 ∧ j < z) (hi : j.toNatClampNeg = i) (hl : i < vs.length) (ha : n0 ≤ a) (hp : pc + 1 = pc')
    (g : ∀ T' h' L', K p l e R s m args below meth c bytes own maxL ret nm T' L' cells slots Z h' n0 → Wr h h' a i (.int x.toInt8.toInt32) → Arv Z h' a kc .byte z (vs.set i (.int x.toInt8.toInt32)) dv → Go p e below P T' (mkF m pc' Ls st)) : Go p e below P T (mkF m pc Ls (.int x :: .int j :: .ref a :: st)) := by
  subst hp hi
  obtain ⟨cl, A1, q1, S, N, H, Gf⟩ := A
  obtain ⟨T', h', X', e', W, q⟩ := stB k.1 k.2.1 k.2.2.1 k.2.2.2.1 A1 (inb_of S hj) (g := mkF m pc Ls (.int x :: .int j :: .ref a :: st)) rfl rfl (hb k.2.2.2.2.2.1 hd)
  exact Go.to q (g T' h' _ (k_hp k X' e' (Fr.snoc X' k.2.2.2.2.1 ha)) W (Arv.set A1 q1 S N H Gf (fits_nar_byte x) W _ rfl hl))
theorem s_bastore (k : K p l e R s m args below meth c bytes own maxL ret nm T locs cells slots Z h n0) {a : Addr} {kc : ClassId} {z j : Int32} {vs : List Value} {dv : Value} {x y : Int32} {i : Nat} (hd : decode bytes pc = .ok (.bastore, 1)) (A : Arv Z h a kc .byte z vs dv) (hj : ¬ j < 0 ∧ j < z) (hi : j.toNatClampNeg = i) (hl : i < vs.length) (hy : x.toInt8.toInt32 = y) (ha : n0 ≤ a) (hp : pc + 1 = pc')
    (g : ∀ T' h' L', K p l e R s m args below meth c bytes own maxL ret nm T' L' cells slots Z h' n0 → Wr h h' a i (.int y) → Arv Z h' a kc .byte z (vs.set i (.int y)) dv → Go p e below P T' (mkF m pc' Ls st)) : Go p e below P T (mkF m pc Ls (.int x :: .int j :: .ref a :: st)) := by
  subst hy
  exact s_bastore0 k hd A hj hi hl ha hp g
theorem s_aastore (k : K p l e R s m args below meth c bytes own maxL ret nm T locs cells slots Z h n0) {a : Addr} {kc : ClassId} {C : String} {z j : Int32} {vs : List Value} {dv v : Value} {i : Nat} (hd : decode bytes pc = .ok (.aastore, 1)) (A : Arv Z h a kc (.object C) z vs dv) (hj : ¬ j < 0 ∧ j < z) (hi : j.toNatClampNeg = i) (hl : i < vs.length) (O : Ovr Z kc C) (I : v = .null ∨ ∃ y, v = .ref y ∧ Ins Z h y C true) (ha : n0 ≤ a) (hp : pc + 1 = pc')
    (g : ∀ T' h' L', K p l e R s m args below meth c bytes own maxL ret nm T' L' cells slots Z h' n0 → Wr h h' a i v → Arv Z h' a kc (.object C) z (vs.set i v) dv → Go p e below P T' (mkF m pc' Ls st)) : Go p e below P T (mkF m pc Ls (v :: .int j :: .ref a :: st)) := by
  subst hp hi
  obtain ⟨cl, A1, q1, S, N, H, Gf⟩ := A
  have hs : Sto Z h a v := by
    rcases I with rfl | ⟨y, rfl, I⟩
    · exact Or.inl rfl
    · exact Sto.ofV A1 q1 O I
  have hfv : fits (.object C) v = true := by
    rcases I with rfl | ⟨y, rfl, I⟩ <;> rfl
  obtain ⟨T', h', X', e', W, q⟩ := stR k.1 k.2.1 k.2.2.1 k.2.2.2.1 A1 (inb_of S hj) rfl hs (g := mkF m pc Ls (v :: .int j :: .ref a :: st)) rfl rfl (hb k.2.2.2.2.2.1 hd)
  exact Go.to q (g T' h' _ (k_hp k X' e' (Fr.snoc X' k.2.2.2.2.1 ha)) W (Arv.set A1 q1 S N H Gf hfv W _ rfl hl))
theorem s_cast (k : K p l e R s m args below meth c bytes own maxL ret nm T locs cells slots Z h n0) {C : String} {index : Nat} {a : Addr} (hd : decode bytes pc = .ok (.checkcast index, 3)) (w : (Cond.classLink own index C).before a0 Z = true) (I : Ins Z h a C true) (hp : pc + 3 = pc')
    (g : ∀ T', K p l e R s m args below meth c bytes own maxL ret nm T' locs cells slots Z h n0 → Go p e below P T' (mkF m pc' Ls (.ref a :: st))) : Go p e below P T (mkF m pc Ls (.ref a :: st)) := by
  subst hp
  obtain ⟨T', X', e', q⟩ := castY k.1 k.2.1 k.2.2.1 k.2.2.2.2.2.2.1 w k.2.2.2.1 I (g := mkF m pc Ls (.ref a :: st)) rfl rfl (hb k.2.2.2.2.2.1 hd)
  exact Go.to q (g T' (k_hp k X' e' k.2.2.2.2.1))
theorem s_castNull (k : K p l e R s m args below meth c bytes own maxL ret nm T locs cells slots Z h n0) {index : Nat} (hd : decode bytes pc = .ok (.checkcast index, 3)) (hp : pc + 3 = pc') (g : Go p e below P T (mkF m pc' Ls (.null :: st))) : Go p e below P T (mkF m pc Ls (.null :: st)) := by
  subst hp
  exact Go.to (k.1.checkcastNull k.2.1 (g := mkF m pc Ls (.null :: st)) rfl rfl (hb k.2.2.2.2.2.1 hd)) g
theorem s_instY (k : K p l e R s m args below meth c bytes own maxL ret nm T locs cells slots Z h n0) {C : String} {index : Nat} {a : Addr} (hd : decode bytes pc = .ok (.instanceof index, 3)) (w : (Cond.classLink own index C).before a0 Z = true) (I : Ins Z h a C true) (hp : pc + 3 = pc')
    (g : ∀ T', K p l e R s m args below meth c bytes own maxL ret nm T' locs cells slots Z h n0 → Go p e below P T' (mkF m pc' Ls (.int 1 :: st))) : Go p e below P T (mkF m pc Ls (.ref a :: st)) := by
  subst hp
  obtain ⟨T', X', e', q⟩ := instY k.1 k.2.1 k.2.2.1 k.2.2.2.2.2.2.1 w k.2.2.2.1 I (g := mkF m pc Ls (.ref a :: st)) rfl rfl (hb k.2.2.2.2.2.1 hd)
  exact Go.to q (g T' (k_hp k X' e' k.2.2.2.2.1))
/-- the returns -/
theorem s_retV (k : K p l e R s m args below meth c bytes own maxL ret nm T locs cells slots Z h n0) {w : Value} {t : FieldType} {i : Instr} (hd : decode bytes pc = .ok (i, 1)) (hr : ret = some t) (hn : narrow t w = w)
    (hi : (i = .ireturn ∧ (t = .int ∨ t = .boolean ∨ t = .byte ∨ t = .char ∨ t = .short) ∧ ∃ z, w = .int z) ∨ (i = .lreturn ∧ t = .long ∧ ∃ z, w = .long z) ∨ (i = .dreturn ∧ t = .double ∧ ∃ z, w = .double z) ∨ (i = .freturn ∧ t = .float ∧ ∃ z, w = .float z) ∨ (i = .areturn ∧ t.isReference = true ∧ w.isRef = true))
    (hP : Pay s Q n0 cc ss P) (hc : cells ≤ cc) (hs : slots ≤ ss) (q : Q (some w) h) : Go p e below P T (mkF m pc Ls (w :: st)) := by
  obtain ⟨fs, hr', hrun, hended, hW, hsame⟩ := k.1.leave (v := some w) (fun z => by rw [k.2.2.2.2.2.2.2.2.1, hr] at z; cases z) k.2.2.2.2.2.2.2.2.2.2
  exact ⟨_, _, retOut k.1 k.2.1 (k.2.2.2.2.2.2.2.2.1.trans hr) hn hi (hb k.2.2.2.2.2.1 hd) hr', hrun, hended, hP _ _ _ _ q (show T.heap = h from k.2.2.2.1) k.2.2.2.2.1 ⟨⟨_, rfl⟩, hW, hsame.mono hc hs⟩⟩
theorem s_retI (k : K p l e R s m args below meth c bytes own maxL ret nm T locs cells slots Z h n0) {z : Int32} (hd : decode bytes pc = .ok (.ireturn, 1)) (hr : ret = some .int) (hP : Pay s Q n0 cc ss P) (hc : cells ≤ cc) (hs : slots ≤ ss) (q : Q (some (.int z)) h) : Go p e below P T (mkF m pc Ls (.int z :: st)) :=
  s_retV k hd hr rfl (Or.inl ⟨rfl, Or.inl rfl, z, rfl⟩) hP hc hs q
theorem s_retL (k : K p l e R s m args below meth c bytes own maxL ret nm T locs cells slots Z h n0) {z : Int64} (hd : decode bytes pc = .ok (.lreturn, 1)) (hr : ret = some .long) (hP : Pay s Q n0 cc ss P) (hc : cells ≤ cc) (hs : slots ≤ ss) (q : Q (some (.long z)) h) : Go p e below P T (mkF m pc Ls (.long z :: st)) :=
  s_retV k hd hr rfl (Or.inr (Or.inl ⟨rfl, rfl, z, rfl⟩)) hP hc hs q
theorem s_retA (k : K p l e R s m args below meth c bytes own maxL ret nm T locs cells slots Z h n0) {w : Value} {t : FieldType} (hd : decode bytes pc = .ok (.areturn, 1)) (hr : ret = some t) (ht : t.isReference = true) (hw : w.isRef = true) (hP : Pay s Q n0 cc ss P) (hc : cells ≤ cc) (hs : slots ≤ ss) (q : Q (some w) h) : Go p e below P T (mkF m pc Ls (w :: st)) :=
  s_retV k hd hr (by cases t <;> simp [FieldType.isReference] at ht <;> rfl) (Or.inr (Or.inr (Or.inr (Or.inr ⟨rfl, ht, hw⟩)))) hP hc hs q
theorem s_retZ (k : K p l e R s m args below meth c bytes own maxL ret nm T locs cells slots Z h n0) {z : Int32} (hd : decode bytes pc = .ok (.ireturn, 1)) (hr : ret = some .boolean) (hz : z &&& 1 = z) (hP : Pay s Q n0 cc ss P) (hc : cells ≤ cc) (hs : slots ≤ ss) (q : Q (some (.int z)) h) : Go p e below P T (mkF m pc Ls (.int z :: st)) :=
  s_retV k hd hr (show Value.int (z &&& 1) = .int z by rw [hz]) (Or.inl ⟨rfl, Or.inr (Or.inl rfl), z, rfl⟩) hP hc hs q
theorem s_ret (k : K p l e R s m args below meth c bytes own maxL ret nm T locs cells slots Z h n0) (hd : decode bytes pc = .ok (.return_, 1)) (hr : ret = none) (hP : Pay s Q n0 cc ss P) (hc : cells ≤ cc) (hs : slots ≤ ss) (q : Q none h) : Go p e below P T (mkF m pc Ls []) := by
  obtain ⟨fs, hr', hrun, hended, hW, hsame⟩ := k.1.leave (v := none) (fun _ => rfl) k.2.2.2.2.2.2.2.2.2.2
  exact ⟨_, _, k.1.returnOut k.2.1 (k.2.2.2.2.2.2.2.2.1.trans hr) (hb k.2.2.2.2.2.1 hd) hr', hrun, hended, hP _ _ _ _ q (show T.heap = h from k.2.2.2.1) k.2.2.2.2.1 ⟨⟨_, rfl⟩, hW, hsame.mono hc hs⟩⟩
end Own

/-- a method's contract at one array of arguments and one heap -/
def Met (l : Launch) (Z : State) (y : MethodName) (bytes : ByteArray) (maxL : Nat) (ret : Option FieldType) (rm : Room) (n0 : Nat) (as' : Array Value) (h : Heap) (Q : Option Value → Heap → Prop) : Prop :=
  ∀ ws : List Jvm.Cond, MetFree l y (head1 (Jvm.Cond.code y bytes maxL ret :: ws) rm) (fun a U => a = as' ∧ Z.Warmed39 U.vm ∧ U.heap = h) (fun _ _ _ _ _ => True) (fun _ U o U' => ∃ v L, o = .returned v ∧ (Q v U'.heap ∧ Fr n0 L) ∧ FrameEnd U o U' L rm.cells rm.slots)
theorem Met.of {l : Launch} {Z : State} {y : MethodName} {bytes : ByteArray} {maxL : Nat} {ret : Option FieldType} {rm : Room} {n0 : Nat} {as' : Array Value} {h : Heap} {Q : Option Value → Heap → Prop} {Ls : Array Slot} (hpl : plainFor y = true) (hef : ∀ m, entryFrame m as' maxL = mkF m 0 Ls [])
    (body : ∀ p e s m below meth c T P, Pay s Q n0 rm.cells rm.slots P → K p l e rm s m as' below meth c bytes y.cls maxL ret y.name T [] 0 0 Z h n0 → Go p e below P T (mkF m 0 Ls [])) : Met l Z y bytes maxL ret rm n0 as' h Q := by
  intro ws
  refine MetFree.of_bodySF hpl hisR ?_
  intro p e s m args below meth c s₁ Bd hml0 hP hK
  obtain ⟨rfl, hZ, hh⟩ := hP
  have X0 : Stand p l e rm s m args below meth c s₁ [] 0 0 := Stand.of_body Bd
  rw [hef m]
  exact body p e s m below meth c s₁ _ (fun v h L s₂ q1 q2 q3 q4 => ⟨v, L, rfl, ⟨q2.symm ▸ q1, q3⟩, q4⟩) ⟨X0, Bd.exec, hZ, by rw [← hh, Bd.state]; rfl, Fr.nil n0, Bd.bytes, findClass_of_methodNamed Bd.named, hml0, Bd.returns, (name_of_methodNamed Bd.named Bd.method).1, BodyLoose.notSynchronized Bd⟩
section Calls
variable {p : Program} {l : Launch} {e : Env} {R : Room} {s : State} {m : MethodId} {args : Array Value} {below : List Frame} {meth : Method} {c : Code} {bytes : ByteArray} {own : String} {maxL : Nat} {ret : Option FieldType} {nm : String} {T : State} {locs : List Loc} {cells slots : Nat} {Z : State} {h : Heap} {n0 : Nat} {Q : Option Value → Heap → Prop} {P : State → Outcome → Prop} {cc ss : Nat} {a0 : Array Value} {Ls : Array Slot} {st rest : List Value} {pc pc' : Nat}
theorem wsum (W : Nat) (st : List Value) (hW : (st.map fun v => v.category).sum ≤ W) : 2 * 0 + (st.map fun v => v.category).sum ≤ W := by omega
/-- a static call -/
theorem s_callS (k : K p l e R s m args below meth c bytes own maxL ret nm T locs cells slots Z h n0) {index : Nat} {y : MethodName} {yb : ByteArray} {ym : Nat} {yr : Option FieldType} {rm : Room} {Qy : Option Value → Heap → Prop} {ps : List FieldType} (argsL : List Value) (W : Nat) (hd : decode bytes pc = .ok (.invokestatic index, 3)) (w1 : (Cond.methodLink own index y).before a0 Z = true) (w2 : (Cond.static y).before a0 Z = true) (w3 : (Cond.initialized y.cls).before a0 Z = true) (w4 : (Cond.code y yb ym yr).before a0 Z = true)
    (hy : y.cls ≠ "java/lang/invoke/MethodHandle" ∧ y.cls ≠ "java/lang/invoke/VarHandle") (M : Met l Z y yb ym yr rm n0 argsL.toArray h Qy) (hf : rm.frames + 1 ≤ R.frames) (hl : W + (ym + 11) + rm.locals ≤ R.locals) (hpd : parseMethodDescriptor y.desc = some ⟨ps, yr⟩) (hlen : argsL.length = ps.length) (hW : (st.map fun v => v.category).sum ≤ W) (hsz : Ls.size = maxL) (hc : cells + rm.cells ≤ R.cells) (hs : slots + rm.slots ≤ R.slots) (hst : rest = argsL.reverse ++ st) (hp : pc + 3 = pc')
    (g : ∀ v T' h' L', K p l e R s m args below meth c bytes own maxL ret nm T' L' (cells + rm.cells) (slots + rm.slots) Z h' n0 → Qy v h' → Go p e below P T' (mkF m pc' Ls (v.toList ++ st))) : Go p e below P T (mkF m pc Ls rest) := by
  subst hp hst
  obtain ⟨v, vm1, ⟨T', L', k', n'⟩, -, X', ⟨L, hQ, l1, l2, l3⟩, q⟩ := Jvm.LawKit.callS k.1 k.2.1 k.2.2.2.2.2.2.1 (mvT k.2.2.1 w1) (mvT k.2.2.1 w2) (mvT k.2.2.1 w3) (mvT k.2.2.1 w4) hy (backOf (W := W) (Q := fun v h L => Qy v h ∧ Fr n0 L) (M []) k.2.2.1 w4 w3 hf hl) (g := mkF m pc Ls (argsL.reverse ++ st)) rfl (hsz.trans k.2.2.2.2.2.2.2.1.symm) (argsL := argsL) (rest := st) (lenOf hpd hlen) rfl (wsum W st hW) (hb k.2.2.2.2.2.1 hd) (fun _ _ => ⟨rfl, k.2.2.2.1, hc, hs⟩)
  dsimp only [Pt.U, Pt.locs, Pt.cells, Pt.slots] at X' l1 l2 l3 q hQ
  subst l1 l2 l3
  exact Go.to q (g v T' _ _ (k_hp k X' rfl (Fr.app k.2.2.2.2.1 hQ.2)) hQ.1)
/-- a constructor -/
theorem s_callI (k : K p l e R s m args below meth c bytes own maxL ret nm T locs cells slots Z h n0) {index : Nat} {y : MethodName} {yb : ByteArray} {ym : Nat} {rm : Room} {Qy : Option Value → Heap → Prop} {ps : List FieldType} {a : Addr} (argsL : List Value) (W : Nat) (hd : decode bytes pc = .ok (.invokespecial index, 3)) (hy1 : y.name = "<init>") (w1 : (Cond.methodLink own index y).before a0 Z = true) (w2 : (Cond.instanceMethod y).before a0 Z = true) (w3 : (Cond.initialized y.cls).before a0 Z = true) (w4 : (Cond.code y yb ym none).before a0 Z = true)
    (hy : y.cls ≠ "java/lang/invoke/MethodHandle" ∧ y.cls ≠ "java/lang/invoke/VarHandle") (M : Met l Z y yb ym none rm n0 (.ref a :: argsL).toArray h Qy) (hf : rm.frames + 1 ≤ R.frames) (hl : W + (ym + 11) + rm.locals ≤ R.locals) (hpd : parseMethodDescriptor y.desc = some ⟨ps, none⟩) (hlen : argsL.length = ps.length) (hW : (st.map fun v => v.category).sum ≤ W) (hsz : Ls.size = maxL) (hc : cells + rm.cells ≤ R.cells) (hs : slots + rm.slots ≤ R.slots) (hst : rest = argsL.reverse ++ .ref a :: st) (hp : pc + 3 = pc')
    (g : ∀ v T' h' L', K p l e R s m args below meth c bytes own maxL ret nm T' L' (cells + rm.cells) (slots + rm.slots) Z h' n0 → Qy v h' → Go p e below P T' (mkF m pc' Ls (v.toList ++ st))) : Go p e below P T (mkF m pc Ls rest) := by
  subst hp hst
  obtain ⟨v, vm1, ⟨T', L', k', n'⟩, -, X', ⟨L, hQ, l1, l2, l3⟩, q⟩ := k.1.specialBack k.2.1 hy1 k.2.2.2.2.2.2.1 (mvT k.2.2.1 w1) (mvT k.2.2.1 w2) (mvT k.2.2.1 w4) hy (backOf (W := W) (Q := fun v h L => Qy v h ∧ Fr n0 L) (M []) k.2.2.1 w4 w3 hf hl) (g := mkF m pc Ls (argsL.reverse ++ .ref a :: st)) rfl (hsz.trans k.2.2.2.2.2.2.2.1.symm) (Steps.refl _) (a := a) (argsL := argsL) (rest := st) (lenOf hpd hlen) rfl (wsum W st hW) (hb k.2.2.2.2.2.1 hd) (fun _ _ => ⟨rfl, k.2.2.2.1, hc, hs⟩)
  dsimp only [Pt.U, Pt.locs, Pt.cells, Pt.slots] at X' l1 l2 l3 q hQ
  subst l1 l2 l3
  exact Go.tr q (g v T' _ _ (k_hp k X' rfl (Fr.app k.2.2.2.2.1 hQ.2)) hQ.1)
/-- an instance method -/
theorem s_callV (k : K p l e R s m args below meth c bytes own maxL ret nm T locs cells slots Z h n0) {index : Nat} {C : String} {y : MethodName} {yb : ByteArray} {ym : Nat} {yr : Option FieldType} {rm : Room} {Qy : Option Value → Heap → Prop} {ps : List FieldType} {a : Addr} (argsL : List Value) (W : Nat) (hd : decode bytes pc = .ok (.invokevirtual index, 3)) (w1 : (Cond.methodLink own index y).before a0 Z = true) (w2 : (Cond.declares y).before a0 Z = true) (w5 : (Cond.selects C y y).before a0 Z = true) (w6 : (Cond.instanceMethod y).before a0 Z = true) (w3 : (Cond.initialized y.cls).before a0 Z = true) (w4 : (Cond.code y yb ym yr).before a0 Z = true)
    (hy : y.cls ≠ "java/lang/invoke/MethodHandle" ∧ y.cls ≠ "java/lang/invoke/VarHandle") (E : Exa Z h a C) (M : Met l Z y yb ym yr rm n0 (.ref a :: argsL).toArray h Qy) (hf : rm.frames + 1 ≤ R.frames) (hl : W + (ym + 11) + rm.locals ≤ R.locals) (hpd : parseMethodDescriptor y.desc = some ⟨ps, yr⟩) (hlen : argsL.length = ps.length) (hW : (st.map fun v => v.category).sum ≤ W) (hsz : Ls.size = maxL) (hc : cells + rm.cells ≤ R.cells) (hs : slots + rm.slots ≤ R.slots) (hst : rest = argsL.reverse ++ .ref a :: st) (hp : pc + 3 = pc')
    (g : ∀ v T' h' L', K p l e R s m args below meth c bytes own maxL ret nm T' L' (cells + rm.cells) (slots + rm.slots) Z h' n0 → Qy v h' → Go p e below P T' (mkF m pc' Ls (v.toList ++ st))) : Go p e below P T (mkF m pc Ls rest) := by
  subst hp hst
  obtain ⟨cq, kq, qa, qb, qc⟩ := isOf k.2.2.1 k.2.2.2.1 E
  obtain ⟨v, vm1, ⟨T', L', k', n'⟩, -, X', ⟨L, hQ, l1, l2, l3⟩, q⟩ := k.1.virtualBack k.2.1 (y := y) (z := y) k.2.2.2.2.2.2.1 (mvT k.2.2.1 w1) (mvT k.2.2.1 w2) (notFace_of_selects (args := #[]) (mvT k.2.2.1 w5)) (mvT k.2.2.1 w5) (mvT k.2.2.1 w6) hy (backOf (W := W) (Q := fun v h L => Qy v h ∧ Fr n0 L) (M []) k.2.2.1 w4 w3 hf hl) qa qc (g := mkF m pc Ls (argsL.reverse ++ .ref a :: st)) rfl (hsz.trans k.2.2.2.2.2.2.2.1.symm) (Steps.refl _) (argsL := argsL) (rest := st) (lenOf hpd hlen) rfl (wsum W st hW) (hb k.2.2.2.2.2.1 hd) (fun _ _ => ⟨rfl, k.2.2.2.1, hc, hs⟩)
  dsimp only [Pt.U, Pt.locs, Pt.cells, Pt.slots] at X' l1 l2 l3 q hQ
  subst l1 l2 l3
  exact Go.tr q (g v T' _ _ (k_hp k X' rfl (Fr.app k.2.2.2.2.1 hQ.2)) hQ.1)
/-- a private method, called by invokevirtual -/
theorem s_callP (k : K p l e R s m args below meth c bytes own maxL ret nm T locs cells slots Z h n0) {index : Nat} {y : MethodName} {yb : ByteArray} {ym : Nat} {yr : Option FieldType} {rm : Room} {Qy : Option Value → Heap → Prop} {ps : List FieldType} {a : Addr} (argsL : List Value) (W : Nat) (hd : decode bytes pc = .ok (.invokevirtual index, 3)) (w1 : (Cond.methodLink own index y).before a0 Z = true) (w5 : (Cond.selects y.cls y y).before a0 Z = true) (w6 : (Cond.instanceMethod y).before a0 Z = true) (w7 : (Cond.privateMethod y).before a0 Z = true) (w3 : (Cond.initialized y.cls).before a0 Z = true) (w4 : (Cond.code y yb ym yr).before a0 Z = true)
    (hy : y.cls ≠ "java/lang/invoke/MethodHandle" ∧ y.cls ≠ "java/lang/invoke/VarHandle") (E : Exa Z h a y.cls) (M : Met l Z y yb ym yr rm n0 (.ref a :: argsL).toArray h Qy) (hf : rm.frames + 1 ≤ R.frames) (hl : W + (ym + 11) + rm.locals ≤ R.locals) (hpd : parseMethodDescriptor y.desc = some ⟨ps, yr⟩) (hlen : argsL.length = ps.length) (hW : (st.map fun v => v.category).sum ≤ W) (hsz : Ls.size = maxL) (hc : cells + rm.cells ≤ R.cells) (hs : slots + rm.slots ≤ R.slots) (hst : rest = argsL.reverse ++ .ref a :: st) (hp : pc + 3 = pc')
    (g : ∀ v T' h' L', K p l e R s m args below meth c bytes own maxL ret nm T' L' (cells + rm.cells) (slots + rm.slots) Z h' n0 → Qy v h' → Go p e below P T' (mkF m pc' Ls (v.toList ++ st))) : Go p e below P T (mkF m pc Ls rest) := by
  subst hp hst
  obtain ⟨cq, qa, qb⟩ := E.cell
  obtain ⟨v, vm1, ⟨T', L', k', n'⟩, -, X', ⟨L, hQ, l1, l2, l3⟩, q⟩ := k.1.privateBack k.2.1 (y := y) k.2.2.2.2.2.2.1 (mvT k.2.2.1 w1) (mvT k.2.2.1 w6) (mvT k.2.2.1 w5) (Cond.privateMethod_at (mvP k.2.2.1 w7 (args := #[]))) (mvT k.2.2.1 w4) hy (backOf (W := W) (Q := fun v h L => Qy v h ∧ Fr n0 L) (M []) k.2.2.1 w4 w3 hf hl) (g := mkF m pc Ls (argsL.reverse ++ .ref a :: st)) rfl (hsz.trans k.2.2.2.2.2.2.2.1.symm) (Steps.refl _) (a := a) (by rw [k.2.2.2.1]; exact qa) qb (argsL := argsL) (rest := st) (lenOf hpd hlen) rfl (wsum W st hW) (hb k.2.2.2.2.2.1 hd) (fun _ _ => ⟨rfl, k.2.2.2.1, hc, hs⟩)
  dsimp only [Pt.U, Pt.locs, Pt.cells, Pt.slots] at X' l1 l2 l3 q hQ
  subst l1 l2 l3
  exact Go.tr q (g v T' _ _ (k_hp k X' rfl (Fr.app k.2.2.2.2.1 hQ.2)) hQ.1)
end Calls
end Jvm.OwnGo
namespace Jvm.OwnGo
open Sem ClassFile Op Lib Jvm.Stand Jvm.Free Jvm.LawKit Jvm.RoadKit
def PayW (s : State) (Q : Option Value → Heap → Prop) (n0 cc ss : Nat) (P : State → Outcome → Prop) : Prop :=
  ∀ v h L s₂, Q v h → s₂.heap = h → Fr n0 L → ReturnedEndW s (.returned v) s₂ L cc ss → P s₂ (.returned v)
theorem pay_w {s : State} {Q : Option Value → Heap → Prop} {n0 cc ss n : Nat} {P : State → Outcome → Prop} {vm0 : Vm} (hS : s.Since vm0 n) (hP : PayW s Q n0 cc ss P) : Pay (s.setVm vm0) (fun v h => Q v h ∧ n ≤ h.size) n0 cc ss P := by
  intro v h L s₂ q1 q2 q3 q4
  obtain ⟨-, hW, hs⟩ := q4
  obtain ⟨a, b, c⟩ := hS.ended (U := s₂) hW (by rw [q2]; exact q1.2) hs
  exact hP v h L s₂ q1.1 q2 q3 ⟨⟨v, rfl⟩, a, b, c⟩
def MetW (l : Launch) (Z : State) (y : MethodName) (bytes : ByteArray) (maxL : Nat) (ret : Option FieldType) (rm : Room) (n0 : Nat) (as' : Array Value) (h : Heap) (Q : Option Value → Heap → Prop) : Prop :=
  ∀ ws : List Jvm.Cond, MetFree l y (head1 (Jvm.Cond.code y bytes maxL ret :: ws) rm) (fun a U => a = as' ∧ Z.Warmed39 U.vm ∧ U.heap = h) (fun _ _ _ _ _ => True) (fun _ U o U' => ∃ v L, o = .returned v ∧ (Q v U'.heap ∧ Fr n0 L) ∧ ReturnedEndW U o U' L rm.cells rm.slots)
theorem MetW.of {l : Launch} {Z : State} {y : MethodName} {bytes : ByteArray} {maxL : Nat} {ret : Option FieldType} {rm : Room} {n0 : Nat} {as' : Array Value} {h : Heap} {Q : Option Value → Heap → Prop} {Ls : Array Slot} (hpl : plainFor y = true) (hef : ∀ m, entryFrame m as' maxL = mkF m 0 Ls [])
    (body : ∀ p e s m below meth c T P, PayW s Q n0 rm.cells rm.slots P → K p l e rm s m as' below meth c bytes y.cls maxL ret y.name T [] 0 0 Z h n0 → Go p e below P T (mkF m 0 Ls [])) : MetW l Z y bytes maxL ret rm n0 as' h Q := by
  intro ws
  refine MetFree.of_bodySF hpl hisR ?_
  intro p e s m args below meth c s₁ Bd hml0 hP hK
  obtain ⟨rfl, hZ, hh⟩ := hP
  have X0 : Stand p l e rm s m args below meth c s₁ [] 0 0 := Stand.of_body Bd
  rw [hef m]
  exact body p e s m below meth c s₁ _ (fun v h L s₂ q1 q2 q3 q4 => ⟨v, L, rfl, ⟨q2.symm ▸ q1, q3⟩, q4⟩) ⟨X0, Bd.exec, hZ, by rw [← hh, Bd.state]; rfl, Fr.nil n0, Bd.bytes, findClass_of_methodNamed Bd.named, hml0, Bd.returns, (name_of_methodNamed Bd.named Bd.method).1, BodyLoose.notSynchronized Bd⟩
end Jvm.OwnGo
namespace Jvm.Pilot.@@N@@
open Jvm Jvm.ClassFile Sem Op Lib Jvm.Free Jvm.Stand Jvm.LawKit Jvm.RoadKit Bundle Jvm.OwnGo Jvm.Pilot.@@N@@.Jvm.D
theorem d2_0 : decode jdk_30_method_1_code 0 = .ok (.aload_n 0, 1) := by decide +kernel
theorem d2_1 : decode jdk_30_method_1_code 1 = .ok (.invokespecial 1, 3) := by decide +kernel
theorem d2_4 : decode jdk_30_method_1_code 4 = .ok (.return_, 1) := by decide +kernel
theorem pn_2_rmr : plainFor (⟨"java/lang/Record", "<init>", "()V"⟩ : MethodName) = true := plainFor_of_name (by first | (simp [plainName, overriddenIn]; done) | decide +kernel)
theorem ef_rmr {a : Addr} (m : MethodId) : entryFrame m #[.ref a] 1 = mkF m 0 #[.val (.ref a)] [] := by first | (simp [entryFrame, mkF, argsToLocals, Value.category]; done) | rfl
set_option maxRecDepth 65536 in
set_option maxHeartbeats 40000000 in
theorem rmr (l : Launch) (Z : State) (a0 : Array Value) (hw : ∀ d ∈ tables_1, d.before a0 Z = true) (a : Addr) (h0 : Heap) (n0 : Nat) (Z0 : n0 ≤ h0.size)  :
    Met l Z (⟨"java/lang/Record", "<init>", "()V"⟩ : MethodName) jdk_30_method_1_code 1 none ({ frames := 1, cells := 0, slots := 0, locals := 16 } : Room) n0 #[.ref a] h0 (fun v h => v = none ∧ h0 = h) := by
  refine Met.of (Ls := #[.val (.ref a)]) pn_2_rmr (fun m => ef_rmr m) fun p e s m below meth c T0 P hP k0 => ?_
  refine s_aloadN k0 d2_0 rfl rfl (pc' := 1) rfl ?_
  obtain ⟨T1, X1, e1, q1⟩ := initO k0.1 k0.2.1 k0.2.2.1 k0.2.2.2.2.2.2.1 (hw _ (List.mem_of_getElem? (i := 20) rfl)) (hw _ (List.mem_of_getElem? (i := 21) rfl)) (hw _ (List.mem_of_getElem? (i := 22) rfl)) k0.2.2.2.1 (g := (mkF m 1 #[.val (.ref a)] [.ref a])) rfl k0.2.2.2.2.2.2.2.1.symm rfl (hb k0.2.2.2.2.2.1 d2_1) (by decide) (W := 0) (by show 2 * 0 + _ ≤ _; exact Nat.le_of_eq rfl) (by decide)
  refine Go.to q1 ?_
  have k1 := k_hp k0 X1 e1 k0.2.2.2.2.1
  show Go p e below P T1 (mkF m 4 #[.val (.ref a)] [])
  exact s_ret k1 d2_4 rfl hP (by decide) (by decide) ⟨rfl, rfl⟩
theorem d1_0 : decode prog_66_method_1_code 0 = .ok (.aload_n 0, 1) := by decide +kernel
theorem d1_1 : decode prog_66_method_1_code 1 = .ok (.invokespecial 1, 3) := by decide +kernel
theorem d1_4 : decode prog_66_method_1_code 4 = .ok (.iload_n 2, 1) := by decide +kernel
theorem d1_5 : decode prog_66_method_1_code 5 = .ok (.ifCond .lt 8, 3) := by decide +kernel
theorem d1_8 : decode prog_66_method_1_code 8 = .ok (.iload_n 2, 1) := by decide +kernel
theorem d1_9 : decode prog_66_method_1_code 9 = .ok (.iload_n 3, 1) := by decide +kernel
theorem d1_10 : decode prog_66_method_1_code 10 = .ok (.if_icmp .lt 18, 3) := by decide +kernel
theorem d1_28 : decode prog_66_method_1_code 28 = .ok (.aload_n 0, 1) := by decide +kernel
theorem d1_29 : decode prog_66_method_1_code 29 = .ok (.aload_n 1, 1) := by decide +kernel
theorem d1_30 : decode prog_66_method_1_code 30 = .ok (.putfield 16, 3) := by decide +kernel
theorem d1_33 : decode prog_66_method_1_code 33 = .ok (.aload_n 0, 1) := by decide +kernel
theorem d1_34 : decode prog_66_method_1_code 34 = .ok (.iload_n 2, 1) := by decide +kernel
theorem d1_35 : decode prog_66_method_1_code 35 = .ok (.putfield 22, 3) := by decide +kernel
theorem d1_38 : decode prog_66_method_1_code 38 = .ok (.aload_n 0, 1) := by decide +kernel
theorem d1_39 : decode prog_66_method_1_code 39 = .ok (.iload_n 3, 1) := by decide +kernel
theorem d1_40 : decode prog_66_method_1_code 40 = .ok (.putfield 26, 3) := by decide +kernel
theorem d1_43 : decode prog_66_method_1_code 43 = .ok (.return_, 1) := by decide +kernel
theorem pd__28_29V : parseMethodDescriptor "()V" = some ⟨[], none⟩ := by decide +kernel
theorem pn_1_rmi : plainFor (⟨"com/example/distill/distill/spec/StepCounter", "<init>", "(Ljava/lang/String;II)V"⟩ : MethodName) = true := plainFor_of_name (by first | (simp [plainName, overriddenIn]; done) | decide +kernel)
theorem ef_rmi {a : Addr} {b : Addr} {p1 : Int32} {p2 : Int32} (m : MethodId) : entryFrame m #[.ref a, .ref b, .int p1, .int p2] 4 = mkF m 0 #[.val (.ref a), .val (.ref b), .val (.int p1), .val (.int p2)] [] := by first | (simp [entryFrame, mkF, argsToLocals, Value.category]; done) | rfl
set_option maxRecDepth 65536 in
set_option maxHeartbeats 40000000 in
theorem rmi (l : Launch) (Z : State) (a0 : Array Value) (hw : ∀ d ∈ tables_1, d.before a0 Z = true) (a b : Addr) (p1 p2 : Int32) (h0 : Heap) (n0 : Nat) (Z0 : n0 ≤ h0.size) (E_a : Exa Z h0 a "com/example/distill/distill/spec/StepCounter") (F_prefix : Fld Z h0 a "com/example/distill/distill/spec/StepCounter" "prefix" "Ljava/lang/String;" .null) (F_stemSize : Fld Z h0 a "com/example/distill/distill/spec/StepCounter" "stemSize" "I" (.int (0 : Int32))) (F_size : Fld Z h0 a "com/example/distill/distill/spec/StepCounter" "size" "I" (.int (0 : Int32))) (g_a : n0 ≤ a) (hp0 : ¬ p1 < (0 : Int32)) (hp1 : p1 < p2) :
    Met l Z (⟨"com/example/distill/distill/spec/StepCounter", "<init>", "(Ljava/lang/String;II)V"⟩ : MethodName) prog_66_method_1_code 4 none ({ frames := 2, cells := 0, slots := 0, locals := 32 } : Room) n0 #[.ref a, .ref b, .int p1, .int p2] h0 (fun v h => v = none ∧ Keep h0 h [a] ∧ Fld Z h a "com/example/distill/distill/spec/StepCounter" "stemSize" "I" (.int p1) ∧ Fld Z h a "com/example/distill/distill/spec/StepCounter" "size" "I" (.int p2)) := by
  have Kp0 := Keep.refl h0 [a]
  refine Met.of (Ls := #[.val (.ref a), .val (.ref b), .val (.int p1), .val (.int p2)]) pn_1_rmi (fun m => ef_rmi m) fun p e s m below meth c T0 P hP k0 => ?_
  refine s_aloadN k0 d1_0 rfl rfl (pc' := 1) rfl ?_
  refine s_callI k0 [] 0 d1_1 rfl (hw _ (List.mem_of_getElem? (i := 15) rfl)) (hw _ (List.mem_of_getElem? (i := 16) rfl)) (hw _ (List.mem_of_getElem? (i := 18) rfl)) (hw _ (List.mem_of_getElem? (i := 19) rfl)) (by decide) (rmr l Z a0 hw a h0 n0 Z0 ) (by decide) (by decide) pd__28_29V rfl (Nat.le_of_eq rfl) rfl (by decide) (by decide) rfl (pc' := 4) rfl fun v1 T1 h1 L1 k1 Qv1 => ?_
  obtain ⟨rfl, rfl⟩ := Qv1
  show Go p e below P T1 (mkF m 4 #[.val (.ref a), .val (.ref b), .val (.int p1), .val (.int p2)] [])
  refine s_iloadN k1 d1_4 rfl (pc' := 5) rfl ?_
  refine s_if_lt k1 d1_5 (by decide) (pc' := 13) (by decide) (pc3 := 8) rfl (fun hc5 => absurd hc5 hp0) (fun hc5 => ?_)
  refine s_iloadN k1 d1_8 rfl (pc' := 9) rfl ?_
  refine s_iloadN k1 d1_9 rfl (pc' := 10) rfl ?_
  refine s_icmp_lt k1 d1_10 (by decide) (pc' := 28) (by decide) (pc3 := 13) rfl (fun hc10 => ?_) (fun hc10 => absurd hp1 hc10)
  refine s_aloadN k1 d1_28 rfl rfl (pc' := 29) rfl ?_
  refine s_aloadN k1 d1_29 rfl rfl (pc' := 30) rfl ?_
  refine s_put k1 d1_30 (host := "") (Or.inl (hw _ (List.mem_of_getElem? (i := 23) rfl))) Via.refl F_prefix E_a (Or.inr ⟨(hw _ (List.mem_of_getElem? (i := 24) rfl)), rfl, rfl⟩) (hw _ (List.mem_of_getElem? (i := 2) rfl)) (ty := (.object "java/lang/String")) (by decide) rfl rfl g_a (pc' := 33) rfl fun T2 h2 L2 k2 W2 => ?_
  have F3_a_prefix := F_prefix.same W2
  have F4_a_stemSize := F_stemSize.other W2 (Or.inr (slot_ne (Or.inr (hw _ (List.mem_of_getElem? (i := 26) rfl))) (Or.inr (hw _ (List.mem_of_getElem? (i := 24) rfl))) (by decide) (t := .int) (t' := (.object "java/lang/String")) (by decide) (by decide)))
  have F5_a_size := F_size.other W2 (Or.inr (slot_ne (Or.inr (hw _ (List.mem_of_getElem? (i := 28) rfl))) (Or.inr (hw _ (List.mem_of_getElem? (i := 24) rfl))) (by decide) (t := .int) (t' := (.object "java/lang/String")) (by decide) (by decide)))
  have E6_a := E_a.wr W2
  have Z7 := Nat.le_trans Z0 (Keep.of_wr W2).1
  have Kp8 := Kp0.wr W2 (Or.inl (List.mem_of_getElem? (i := 0) rfl))
  refine s_aloadN k2 d1_33 rfl rfl (pc' := 34) rfl ?_
  refine s_iloadN k2 d1_34 rfl (pc' := 35) rfl ?_
  refine s_put k2 d1_35 (host := "") (Or.inl (hw _ (List.mem_of_getElem? (i := 25) rfl))) Via.refl F4_a_stemSize E6_a (Or.inr ⟨(hw _ (List.mem_of_getElem? (i := 26) rfl)), rfl, rfl⟩) (hw _ (List.mem_of_getElem? (i := 2) rfl)) (ty := .int) (by decide) rfl rfl g_a (pc' := 38) rfl fun T9 h9 L9 k9 W9 => ?_
  have F10_a_prefix := F3_a_prefix.other W9 (Or.inr (slot_ne (Or.inr (hw _ (List.mem_of_getElem? (i := 24) rfl))) (Or.inr (hw _ (List.mem_of_getElem? (i := 26) rfl))) (by decide) (t := (.object "java/lang/String")) (t' := .int) (by decide) (by decide)))
  have F11_a_stemSize := F4_a_stemSize.same W9
  have F12_a_size := F5_a_size.other W9 (Or.inr (slot_ne (Or.inr (hw _ (List.mem_of_getElem? (i := 28) rfl))) (Or.inr (hw _ (List.mem_of_getElem? (i := 26) rfl))) (by decide) (t := .int) (t' := .int) (by decide) (by decide)))
  have E13_a := E6_a.wr W9
  have Z14 := Nat.le_trans Z7 (Keep.of_wr W9).1
  have Kp15 := Kp8.wr W9 (Or.inl (List.mem_of_getElem? (i := 0) rfl))
  refine s_aloadN k9 d1_38 rfl rfl (pc' := 39) rfl ?_
  refine s_iloadN k9 d1_39 rfl (pc' := 40) rfl ?_
  refine s_put k9 d1_40 (host := "") (Or.inl (hw _ (List.mem_of_getElem? (i := 27) rfl))) Via.refl F12_a_size E13_a (Or.inr ⟨(hw _ (List.mem_of_getElem? (i := 28) rfl)), rfl, rfl⟩) (hw _ (List.mem_of_getElem? (i := 2) rfl)) (ty := .int) (by decide) rfl rfl g_a (pc' := 43) rfl fun T16 h16 L16 k16 W16 => ?_
  have F17_a_prefix := F10_a_prefix.other W16 (Or.inr (slot_ne (Or.inr (hw _ (List.mem_of_getElem? (i := 24) rfl))) (Or.inr (hw _ (List.mem_of_getElem? (i := 28) rfl))) (by decide) (t := (.object "java/lang/String")) (t' := .int) (by decide) (by decide)))
  have F18_a_stemSize := F11_a_stemSize.other W16 (Or.inr (slot_ne (Or.inr (hw _ (List.mem_of_getElem? (i := 26) rfl))) (Or.inr (hw _ (List.mem_of_getElem? (i := 28) rfl))) (by decide) (t := .int) (t' := .int) (by decide) (by decide)))
  have F19_a_size := F12_a_size.same W16
  have E20_a := E13_a.wr W16
  have Z21 := Nat.le_trans Z14 (Keep.of_wr W16).1
  have Kp22 := Kp15.wr W16 (Or.inl (List.mem_of_getElem? (i := 0) rfl))
  exact s_ret k16 d1_43 rfl hP (by decide) (by decide) ⟨rfl, Kp22, F18_a_stemSize, F19_a_size⟩
def fs (p1 u t : Int32) : Int32 := if (p1 + (1 : Int32)) < t then (p1 + (1 : Int32)) else u
theorem fs_eq (p1 u t : Int32) : fs p1 u t = if (p1 + (1 : Int32)) < t then (p1 + (1 : Int32)) else u := rfl
theorem d4_0 : decode prog_66_method_3_code 0 = .ok (.iload_n 1, 1) := by decide +kernel
theorem d4_1 : decode prog_66_method_3_code 1 = .ok (.iconst 1, 1) := by decide +kernel
theorem d4_2 : decode prog_66_method_3_code 2 = .ok (.iadd, 1) := by decide +kernel
theorem d4_3 : decode prog_66_method_3_code 3 = .ok (.aload_n 0, 1) := by decide +kernel
theorem d4_4 : decode prog_66_method_3_code 4 = .ok (.getfield 26, 3) := by decide +kernel
theorem d4_7 : decode prog_66_method_3_code 7 = .ok (.if_icmp .ge 9, 3) := by decide +kernel
theorem d4_10 : decode prog_66_method_3_code 10 = .ok (.iload_n 1, 1) := by decide +kernel
theorem d4_11 : decode prog_66_method_3_code 11 = .ok (.iconst 1, 1) := by decide +kernel
theorem d4_12 : decode prog_66_method_3_code 12 = .ok (.iadd, 1) := by decide +kernel
theorem d4_13 : decode prog_66_method_3_code 13 = .ok (.goto 7, 3) := by decide +kernel
theorem d4_16 : decode prog_66_method_3_code 16 = .ok (.aload_n 0, 1) := by decide +kernel
theorem d4_17 : decode prog_66_method_3_code 17 = .ok (.getfield 22, 3) := by decide +kernel
theorem d4_20 : decode prog_66_method_3_code 20 = .ok (.ireturn, 1) := by decide +kernel
theorem pn_4_rms : plainFor (⟨"com/example/distill/distill/spec/StepCounter", "successor", "(I)I"⟩ : MethodName) = true := plainFor_of_name (by first | (simp [plainName, overriddenIn]; done) | decide +kernel)
theorem ef_rms {a : Addr} {p1 : Int32} (m : MethodId) : entryFrame m #[.ref a, .int p1] 2 = mkF m 0 #[.val (.ref a), .val (.int p1)] [] := by first | (simp [entryFrame, mkF, argsToLocals, Value.category]; done) | rfl
set_option maxRecDepth 65536 in
set_option maxHeartbeats 40000000 in
theorem rms (l : Launch) (Z : State) (a0 : Array Value) (hw : ∀ d ∈ tables_1, d.before a0 Z = true) (a : Addr) (p1 u t : Int32) (h0 : Heap) (n0 : Nat) (Z0 : n0 ≤ h0.size) (F_u : Fld Z h0 a "com/example/distill/distill/spec/StepCounter" "stemSize" "I" (.int u)) (F_t : Fld Z h0 a "com/example/distill/distill/spec/StepCounter" "size" "I" (.int t)) :
    Met l Z (⟨"com/example/distill/distill/spec/StepCounter", "successor", "(I)I"⟩ : MethodName) prog_66_method_3_code 2 (some .int) ({ frames := 0, cells := 0, slots := 0, locals := 0 } : Room) n0 #[.ref a, .int p1] h0 (fun v h => v = some (.int (fs p1 u t)) ∧ h0 = h) := by
  refine Met.of (Ls := #[.val (.ref a), .val (.int p1)]) pn_4_rms (fun m => ef_rms m) fun p e s m below meth c T0 P hP k0 => ?_
  refine s_iloadN k0 d4_0 rfl (pc' := 1) rfl ?_
  refine s_iconst k0 (z := 1) d4_1 (by decide) (pc' := 2) rfl ?_
  refine s_iadd k0 d4_2 rfl (pc' := 3) rfl ?_
  refine s_aloadN k0 d4_3 rfl rfl (pc' := 4) rfl ?_
  refine s_get k0 d4_4 (host := "") (Or.inl (hw _ (List.mem_of_getElem? (i := 27) rfl))) Via.refl F_t (pc' := 7) rfl fun T1 k1 => ?_
  refine s_icmp_ge k1 d4_7 (by decide) (pc' := 16) (by decide) (pc3 := 10) rfl (fun hc7 => ?_) (fun hc7 => ?_)
  · refine s_iloadN k1 d4_10 rfl (pc' := 11) rfl ?_
    refine s_iconst k1 (z := 1) d4_11 (by decide) (pc' := 12) rfl ?_
    refine s_iadd k1 d4_12 rfl (pc' := 13) rfl ?_
    refine s_goto k1 d4_13 (by decide) (pc' := 20) (by decide) ?_
    exact s_retI k1 d4_20 rfl hP (by decide) (by decide) ⟨by rw [fs_eq, if_pos hc7], rfl⟩
  · refine s_aloadN k1 d4_16 rfl rfl (pc' := 17) rfl ?_
    refine s_get k1 d4_17 (host := "") (Or.inl (hw _ (List.mem_of_getElem? (i := 25) rfl))) Via.refl F_u (pc' := 20) rfl fun T2 k2 => ?_
    exact s_retI k2 d4_20 rfl hP (by decide) (by decide) ⟨by rw [fs_eq, if_neg hc7], rfl⟩
theorem own_r (x : Int32) : (x &&& (2147483647 : Int32)).toInt = x.toInt % 2 ^ 31 := Jvm.Kit.i32_mask x 2147483647 (k := 31) (by decide) (by decide)
theorem own_N (i0 : Int32) : 1 ≤ (((1 : Int32) + ((i0 &&& (2147483647 : Int32)) % (2147483647 : Int32)))).toInt := by
  have d1 : (1 : Int32).toInt = 1 := by decide
  have dm : (2147483647 : Int32).toInt = 2147483647 := by decide
  have m := Jvm.Kit.i32_rem_nonneg (x := i0 &&& (2147483647 : Int32)) (y := (2147483647 : Int32)) (by rw [own_r i0]; omega)
  rw [own_r i0, dm] at m
  rw [Jvm.Kit.i32_add (by rw [d1, m]; omega) (by rw [d1, m]; omega), d1, m]
  omega
theorem own_nz (i0 : Int32) : ((1 : Int32) + ((i0 &&& (2147483647 : Int32)) % (2147483647 : Int32))) ≠ 0 := by
  have h := own_N i0
  have d0 : (0 : Int32).toInt = 0 := by decide
  intro q
  rw [q, d0] at h
  omega
theorem own_rem (i0 x : Int32) : 0 ≤ ((x &&& (2147483647 : Int32)) % ((1 : Int32) + ((i0 &&& (2147483647 : Int32)) % (2147483647 : Int32)))).toInt ∧ ((x &&& (2147483647 : Int32)) % ((1 : Int32) + ((i0 &&& (2147483647 : Int32)) % (2147483647 : Int32)))).toInt < (((1 : Int32) + ((i0 &&& (2147483647 : Int32)) % (2147483647 : Int32)))).toInt := by
  have h := own_N i0
  rw [Jvm.Kit.i32_rem_nonneg (by rw [own_r x]; omega)]
  exact ⟨Int.emod_nonneg _ (by omega), Int.emod_lt_of_pos _ (by omega)⟩
theorem own_st (i0 i1 : Int32) : ¬ ((i1 &&& (2147483647 : Int32)) % ((1 : Int32) + ((i0 &&& (2147483647 : Int32)) % (2147483647 : Int32)))) < (0 : Int32) ∧ ((i1 &&& (2147483647 : Int32)) % ((1 : Int32) + ((i0 &&& (2147483647 : Int32)) % (2147483647 : Int32)))) < ((1 : Int32) + ((i0 &&& (2147483647 : Int32)) % (2147483647 : Int32))) := by
  have h := own_rem i0 i1
  have d0 : (0 : Int32).toInt = 0 := by decide
  rw [Int32.lt_iff_toInt_lt, Int32.lt_iff_toInt_lt, d0]
  omega
theorem own_step (i0 i2 : Int32) (c : Prop) [Decidable c] (q : Int32) (e : q = (if c then ((i2 &&& (2147483647 : Int32)) % ((1 : Int32) + ((i0 &&& (2147483647 : Int32)) % (2147483647 : Int32)))) else (((1 : Int32) + ((i0 &&& (2147483647 : Int32)) % (2147483647 : Int32))) - (1 : Int32)))) : 0 ≤ q.toInt ∧ q.toInt < (((1 : Int32) + ((i0 &&& (2147483647 : Int32)) % (2147483647 : Int32)))).toInt := by
  have h := own_rem i0 i2
  have hN := own_N i0
  have d1 : (1 : Int32).toInt = 1 := by decide
  rw [e]
  split
  · exact h
  · have hl := (((1 : Int32) + ((i0 &&& (2147483647 : Int32)) % (2147483647 : Int32)))).toInt_lt
    rw [Jvm.Kit.i32_sub (by rw [d1]; omega) (by rw [d1]; omega), d1]
    omega
theorem own_law (i0 i1 q w : Int32) (hq : 0 ≤ q.toInt ∧ q.toInt < (((1 : Int32) + ((i0 &&& (2147483647 : Int32)) % (2147483647 : Int32)))).toInt) (e : w = (if q = (((1 : Int32) + ((i0 &&& (2147483647 : Int32)) % (2147483647 : Int32))) - (1 : Int32)) then ((i1 &&& (2147483647 : Int32)) % ((1 : Int32) + ((i0 &&& (2147483647 : Int32)) % (2147483647 : Int32)))) else (q + (1 : Int32)))) : ¬ (fs q ((i1 &&& (2147483647 : Int32)) % ((1 : Int32) + ((i0 &&& (2147483647 : Int32)) % (2147483647 : Int32)))) ((1 : Int32) + ((i0 &&& (2147483647 : Int32)) % (2147483647 : Int32)))) < (0 : Int32) ∧ (fs q ((i1 &&& (2147483647 : Int32)) % ((1 : Int32) + ((i0 &&& (2147483647 : Int32)) % (2147483647 : Int32)))) ((1 : Int32) + ((i0 &&& (2147483647 : Int32)) % (2147483647 : Int32)))) < ((1 : Int32) + ((i0 &&& (2147483647 : Int32)) % (2147483647 : Int32))) ∧ (fs q ((i1 &&& (2147483647 : Int32)) % ((1 : Int32) + ((i0 &&& (2147483647 : Int32)) % (2147483647 : Int32)))) ((1 : Int32) + ((i0 &&& (2147483647 : Int32)) % (2147483647 : Int32)))) = w := by
  have hs := own_rem i0 i1
  have d0 : (0 : Int32).toInt = 0 := by decide
  have d1 : (1 : Int32).toInt = 1 := by decide
  generalize ((i1 &&& (2147483647 : Int32)) % ((1 : Int32) + ((i0 &&& (2147483647 : Int32)) % (2147483647 : Int32)))) = u at hs e ⊢
  generalize ((1 : Int32) + ((i0 &&& (2147483647 : Int32)) % (2147483647 : Int32))) = t at hs hq e ⊢
  have hl := t.toInt_lt
  have ea : (q + (1 : Int32)).toInt = q.toInt + 1 := by rw [Jvm.Kit.i32_add (by rw [d1]; omega) (by rw [d1]; omega), d1]
  have es : (t - (1 : Int32)).toInt = t.toInt - 1 := by rw [Jvm.Kit.i32_sub (by rw [d1]; omega) (by rw [d1]; omega), d1]
  rw [e, fs_eq]
  by_cases c1 : q = (t - (1 : Int32))
  · have c2 : ¬ (q + (1 : Int32)) < t := by
      rw [← Int32.toInt_inj, es] at c1
      rw [Int32.lt_iff_toInt_lt, ea]; omega
    rw [if_neg c2, if_pos c1, Int32.lt_iff_toInt_lt, Int32.lt_iff_toInt_lt, d0]
    exact ⟨by omega, hs.2, rfl⟩
  · have c2 : (q + (1 : Int32)) < t := by
      rw [← Int32.toInt_inj, es] at c1
      rw [Int32.lt_iff_toInt_lt, ea]; omega
    rw [if_pos c2, if_neg c1, Int32.lt_iff_toInt_lt, Int32.lt_iff_toInt_lt, d0, ea]
    rw [Int32.lt_iff_toInt_lt, ea] at c2
    exact ⟨by omega, c2, rfl⟩
theorem pd__28Ljava_2flang_2fString_3bII_29V : parseMethodDescriptor "(Ljava/lang/String;II)V" = some ⟨[(.object "java/lang/String"), .int, .int], none⟩ := by decide +kernel
theorem pd__28I_29I : parseMethodDescriptor "(I)I" = some ⟨[.int], some .int⟩ := by decide +kernel
theorem pn_0_rm0 : plainFor (⟨"com/example/distill/distill/spec/StepCounterSuccessorPinLaw", "law", "(IIII)Z"⟩ : MethodName) = true := plainFor_of_name (by first | (simp [plainName, overriddenIn]; done) | decide +kernel)
theorem ef_rm0 {i0 : Int32} {i1 : Int32} {i2 : Int32} {i3 : Int32} (m : MethodId) : entryFrame m #[.int i0, .int i1, .int i2, .int i3] maxLocals = mkF m 0 #[.val (.int i0), .val (.int i1), .val (.int i2), .val (.int i3), .unset, .unset, .unset, .unset, .unset, .unset, .unset, .unset] [] := by first | (simp [entryFrame, mkF, argsToLocals, Value.category, maxLocals]; done) | rfl
set_option maxRecDepth 65536 in
set_option maxHeartbeats 40000000 in
theorem rm0 (l : Launch) (Z : State) (a0 : Array Value) (hw : ∀ d ∈ tables_1, d.before a0 Z = true) (i0 i1 i2 i3 : Int32) (h0 : Heap) (n0 : Nat) (Z0 : n0 ≤ h0.size)  :
    MetW l Z x code maxLocals ret room_1 n0 #[.int i0, .int i1, .int i2, .int i3] h0 (fun v h => v = some (.int 1)) := by
  refine MetW.of (Ls := #[.val (.int i0), .val (.int i1), .val (.int i2), .val (.int i3), .unset, .unset, .unset, .unset, .unset, .unset, .unset, .unset]) pn_0_rm0 (fun m => ef_rm0 m) fun p e s m below meth c T0 P hP k0 => ?_
  refine s_iconst k0 (z := 1) at_0 (by decide) (pc' := 1) rfl ?_
  refine s_iloadN k0 at_1 rfl (pc' := 2) rfl ?_
  refine s_ldcI k0 at_2 (hw _ (List.mem_of_getElem? (i := 0) rfl)) (pc' := 4) rfl ?_
  refine s_iand k0 at_4 rfl (pc' := 5) rfl ?_
  refine s_ldcI k0 at_5 (hw _ (List.mem_of_getElem? (i := 0) rfl)) (pc' := 7) rfl ?_
  refine s_irem k0 at_7 (by decide) rfl (pc' := 8) rfl ?_
  refine s_iadd k0 at_8 rfl (pc' := 9) rfl ?_
  refine s_istore k0 at_9 (l' := #[.val (.int i0), .val (.int i1), .val (.int i2), .val (.int i3), .val (.int ((1 : Int32) + ((i0 &&& (2147483647 : Int32)) % (2147483647 : Int32)))), .unset, .unset, .unset, .unset, .unset, .unset, .unset]) rfl (pc' := 11) rfl ?_
  refine s_iloadN k0 at_11 rfl (pc' := 12) rfl ?_
  refine s_ldcI k0 at_12 (hw _ (List.mem_of_getElem? (i := 0) rfl)) (pc' := 14) rfl ?_
  refine s_iand k0 at_14 rfl (pc' := 15) rfl ?_
  refine s_iload k0 at_15 rfl (pc' := 17) rfl ?_
  refine s_irem k0 at_17 (own_nz i0) rfl (pc' := 18) rfl ?_
  refine s_istore k0 at_18 (l' := #[.val (.int i0), .val (.int i1), .val (.int i2), .val (.int i3), .val (.int ((1 : Int32) + ((i0 &&& (2147483647 : Int32)) % (2147483647 : Int32)))), .val (.int ((i1 &&& (2147483647 : Int32)) % ((1 : Int32) + ((i0 &&& (2147483647 : Int32)) % (2147483647 : Int32))))), .unset, .unset, .unset, .unset, .unset, .unset]) rfl (pc' := 20) rfl ?_
  refine s_iloadN k0 at_20 rfl (pc' := 21) rfl ?_
  refine s_ldcI k0 at_21 (hw _ (List.mem_of_getElem? (i := 0) rfl)) (pc' := 23) rfl ?_
  refine s_iand k0 at_23 rfl (pc' := 24) rfl ?_
  refine s_iload k0 at_24 rfl (pc' := 26) rfl ?_
  refine s_irem k0 at_26 (own_nz i0) rfl (pc' := 27) rfl ?_
  refine s_istore k0 at_27 (l' := #[.val (.int i0), .val (.int i1), .val (.int i2), .val (.int i3), .val (.int ((1 : Int32) + ((i0 &&& (2147483647 : Int32)) % (2147483647 : Int32)))), .val (.int ((i1 &&& (2147483647 : Int32)) % ((1 : Int32) + ((i0 &&& (2147483647 : Int32)) % (2147483647 : Int32))))), .val (.int ((i2 &&& (2147483647 : Int32)) % ((1 : Int32) + ((i0 &&& (2147483647 : Int32)) % (2147483647 : Int32))))), .unset, .unset, .unset, .unset, .unset]) rfl (pc' := 29) rfl ?_
  refine s_iloadN k0 at_29 rfl (pc' := 30) rfl ?_
  refine s_iconst k0 (z := 1) at_30 (by decide) (pc' := 31) rfl ?_
  refine s_iand k0 at_31 rfl (pc' := 32) rfl ?_
  have J1 : ∀ (w32 : Int32) (e_w32 : w32 = (if (i3 &&& (1 : Int32)) = (0 : Int32) then ((i2 &&& (2147483647 : Int32)) % ((1 : Int32) + ((i0 &&& (2147483647 : Int32)) % (2147483647 : Int32)))) else (((1 : Int32) + ((i0 &&& (2147483647 : Int32)) % (2147483647 : Int32))) - (1 : Int32)))), Go p e below P T0 (mkF m 44 #[.val (.int i0), .val (.int i1), .val (.int i2), .val (.int i3), .val (.int ((1 : Int32) + ((i0 &&& (2147483647 : Int32)) % (2147483647 : Int32)))), .val (.int ((i1 &&& (2147483647 : Int32)) % ((1 : Int32) + ((i0 &&& (2147483647 : Int32)) % (2147483647 : Int32))))), .val (.int ((i2 &&& (2147483647 : Int32)) % ((1 : Int32) + ((i0 &&& (2147483647 : Int32)) % (2147483647 : Int32))))), .unset, .unset, .unset, .unset, .unset] [.int w32]) := by
    intro w32 e_w32
    have hs32 := own_step i0 i2 _ w32 e_w32
    refine s_istore k0 at_44 (l' := #[.val (.int i0), .val (.int i1), .val (.int i2), .val (.int i3), .val (.int ((1 : Int32) + ((i0 &&& (2147483647 : Int32)) % (2147483647 : Int32)))), .val (.int ((i1 &&& (2147483647 : Int32)) % ((1 : Int32) + ((i0 &&& (2147483647 : Int32)) % (2147483647 : Int32))))), .val (.int ((i2 &&& (2147483647 : Int32)) % ((1 : Int32) + ((i0 &&& (2147483647 : Int32)) % (2147483647 : Int32))))), .val (.int w32), .unset, .unset, .unset, .unset]) rfl (pc' := 46) rfl ?_
    refine s_new k0 at_46 (hw _ (List.mem_of_getElem? (i := 1) rfl)) (hw _ (List.mem_of_getElem? (i := 2) rfl)) (hw _ (List.mem_of_getElem? (i := 3) rfl)) (by decide) (by decide) (pc' := 49) rfl fun T2 h2 b2 q2 k2 X2 E2 D2 => ?_
    have g_b2 : n0 ≤ b2 := Nat.le_trans Z0 (Nat.le_of_eq q2.symm)
    have Z3 := Nat.le_trans Z0 X2.1
    have F2_b2_prefix : Fld Z h2 b2 "com/example/distill/distill/spec/StepCounter" "prefix" "Ljava/lang/String;" .null := D2 (Or.inr (hw _ (List.mem_of_getElem? (i := 24) rfl))) (ty := (.object "java/lang/String")) (by decide)
    have F2_b2_stemSize : Fld Z h2 b2 "com/example/distill/distill/spec/StepCounter" "stemSize" "I" (.int (0 : Int32)) := D2 (Or.inr (hw _ (List.mem_of_getElem? (i := 26) rfl))) (ty := .int) (by decide)
    have F2_b2_size : Fld Z h2 b2 "com/example/distill/distill/spec/StepCounter" "size" "I" (.int (0 : Int32)) := D2 (Or.inr (hw _ (List.mem_of_getElem? (i := 28) rfl))) (ty := .int) (by decide)
    refine s_dup k2 at_49 rfl (pc' := 50) rfl ?_
    have wS : ∀ d ∈ Bundle.stringAtoms, d.before a0 Z = true := by
      intro d hd
      simp only [Bundle.stringAtoms, List.mem_cons, List.not_mem_nil, or_false] at hd
      rcases hd with rfl | rfl | rfl | rfl | rfl | rfl | rfl
      · exact (hw _ (List.mem_of_getElem? (i := 5) rfl))
      · exact (hw _ (List.mem_of_getElem? (i := 6) rfl))
      · exact (hw _ (List.mem_of_getElem? (i := 7) rfl))
      · exact (hw _ (List.mem_of_getElem? (i := 8) rfl))
      · exact (hw _ (List.mem_of_getElem? (i := 9) rfl))
      · exact (hw _ (List.mem_of_getElem? (i := 10) rfl))
      · exact (hw _ (List.mem_of_getElem? (i := 11) rfl))
    obtain ⟨b4, T4, h4, n4, X4, e4, E4, S4, y4, Z4, O4, q4⟩ := ldcS (s := s) (vm0 := s.vm) (own := "com/example/distill/distill/spec/StepCounterSuccessorPinLaw") (show Stand p l e room_1 (s.setVm s.vm) m _ below meth c T2 _ _ _ from k2.1) k2.2.1 k2.2.2.1 k2.2.2.2.2.2.2.1 (hw _ (List.mem_of_getElem? (i := 4) rfl)) wS k2.2.2.2.1 ((State.WarmedH.refl s).since h2.size) (Nat.le_refl _) (g := (mkF m 50 #[.val (.int i0), .val (.int i1), .val (.int i2), .val (.int i3), .val (.int ((1 : Int32) + ((i0 &&& (2147483647 : Int32)) % (2147483647 : Int32)))), .val (.int ((i1 &&& (2147483647 : Int32)) % ((1 : Int32) + ((i0 &&& (2147483647 : Int32)) % (2147483647 : Int32))))), .val (.int ((i2 &&& (2147483647 : Int32)) % ((1 : Int32) + ((i0 &&& (2147483647 : Int32)) % (2147483647 : Int32))))), .val (.int w32), .unset, .unset, .unset, .unset] [.ref b2, .ref b2])) rfl (hb k2.2.2.2.2.2.1 at_50) (n := 4) (by decide) (by decide) (by decide) (by decide)
    refine Go.to q4 ?_
    have F5_b2_prefix := F2_b2_prefix.ext E4
    have F6_b2_stemSize := F2_b2_stemSize.ext E4
    have F7_b2_size := F2_b2_size.ext E4
    have E8_b2 := E2.ext E4
    have Z9 := Nat.le_trans Z3 E4.1
    have k4 : K p l e room_1 (s.setVm T4.vm) m #[.int i0, .int i1, .int i2, .int i3] below meth c code "com/example/distill/distill/spec/StepCounterSuccessorPinLaw" maxLocals ret "law" T4 [] ((0 + 1) + 2) ((0 + 3) + (4 + 4)) Z h4 n0 := ⟨X4, k2.2.1, Z4, e4, k2.2.2.2.2.1, k2.2.2.2.2.2.1, O4, k2.2.2.2.2.2.2.2⟩
    have hP := pay_w S4 hP
    show Go p e below P T4 (mkF m 52 #[.val (.int i0), .val (.int i1), .val (.int i2), .val (.int i3), .val (.int ((1 : Int32) + ((i0 &&& (2147483647 : Int32)) % (2147483647 : Int32)))), .val (.int ((i1 &&& (2147483647 : Int32)) % ((1 : Int32) + ((i0 &&& (2147483647 : Int32)) % (2147483647 : Int32))))), .val (.int ((i2 &&& (2147483647 : Int32)) % ((1 : Int32) + ((i0 &&& (2147483647 : Int32)) % (2147483647 : Int32))))), .val (.int w32), .unset, .unset, .unset, .unset] [.ref b4, .ref b2, .ref b2])
    refine s_iload k4 at_52 rfl (pc' := 54) rfl ?_
    refine s_iload k4 at_54 rfl (pc' := 56) rfl ?_
    refine s_callI k4 [.ref b4, .int ((i1 &&& (2147483647 : Int32)) % ((1 : Int32) + ((i0 &&& (2147483647 : Int32)) % (2147483647 : Int32)))), .int ((1 : Int32) + ((i0 &&& (2147483647 : Int32)) % (2147483647 : Int32)))] 1 at_56 rfl (hw _ (List.mem_of_getElem? (i := 12) rfl)) (hw _ (List.mem_of_getElem? (i := 13) rfl)) (hw _ (List.mem_of_getElem? (i := 3) rfl)) (hw _ (List.mem_of_getElem? (i := 14) rfl)) (by decide) (rmi l Z a0 hw b2 b4 ((i1 &&& (2147483647 : Int32)) % ((1 : Int32) + ((i0 &&& (2147483647 : Int32)) % (2147483647 : Int32)))) ((1 : Int32) + ((i0 &&& (2147483647 : Int32)) % (2147483647 : Int32))) h4 n0 Z9 E8_b2 F5_b2_prefix F6_b2_stemSize F7_b2_size g_b2 (own_st i0 i1).1 (own_st i0 i1).2) (by decide) (by decide) pd__28Ljava_2flang_2fString_3bII_29V rfl (Nat.le_of_eq rfl) rfl (by decide) (by decide) rfl (pc' := 59) rfl fun v10 T10 h10 L10 k10 Qv10 => ?_
    obtain ⟨rfl, Kc10, G10_0, G10_1⟩ := Qv10
    have E11_b2 := E8_b2.keep Kc10
    have Y12 := Nat.le_trans y4 Kc10.1
    have Z13 := Nat.le_trans Z9 Kc10.1
    show Go p e below P T10 (mkF m 59 #[.val (.int i0), .val (.int i1), .val (.int i2), .val (.int i3), .val (.int ((1 : Int32) + ((i0 &&& (2147483647 : Int32)) % (2147483647 : Int32)))), .val (.int ((i1 &&& (2147483647 : Int32)) % ((1 : Int32) + ((i0 &&& (2147483647 : Int32)) % (2147483647 : Int32))))), .val (.int ((i2 &&& (2147483647 : Int32)) % ((1 : Int32) + ((i0 &&& (2147483647 : Int32)) % (2147483647 : Int32))))), .val (.int w32), .unset, .unset, .unset, .unset] [.ref b2])
    refine s_astore k10 at_59 rfl (l' := #[.val (.int i0), .val (.int i1), .val (.int i2), .val (.int i3), .val (.int ((1 : Int32) + ((i0 &&& (2147483647 : Int32)) % (2147483647 : Int32)))), .val (.int ((i1 &&& (2147483647 : Int32)) % ((1 : Int32) + ((i0 &&& (2147483647 : Int32)) % (2147483647 : Int32))))), .val (.int ((i2 &&& (2147483647 : Int32)) % ((1 : Int32) + ((i0 &&& (2147483647 : Int32)) % (2147483647 : Int32))))), .val (.int w32), .val (.ref b2), .unset, .unset, .unset]) rfl (pc' := 61) rfl ?_
    refine s_aload k10 at_61 rfl rfl (pc' := 63) rfl ?_
    refine s_iload k10 at_63 rfl (pc' := 65) rfl ?_
    refine s_callV k10 [.int w32] 0 at_65 (hw _ (List.mem_of_getElem? (i := 29) rfl)) (hw _ (List.mem_of_getElem? (i := 30) rfl)) (hw _ (List.mem_of_getElem? (i := 32) rfl)) (hw _ (List.mem_of_getElem? (i := 31) rfl)) (hw _ (List.mem_of_getElem? (i := 3) rfl)) (hw _ (List.mem_of_getElem? (i := 33) rfl)) (by decide) E11_b2 (rms l Z a0 hw b2 w32 ((i1 &&& (2147483647 : Int32)) % ((1 : Int32) + ((i0 &&& (2147483647 : Int32)) % (2147483647 : Int32)))) ((1 : Int32) + ((i0 &&& (2147483647 : Int32)) % (2147483647 : Int32))) h10 n0 Z13 G10_0 G10_1) (by decide) (by decide) pd__28I_29I rfl (Nat.le_of_eq rfl) rfl (by decide) (by decide) rfl (pc' := 68) rfl fun v14 T14 h14 L14 k14 Qv14 => ?_
    obtain ⟨rfl, rfl⟩ := Qv14
    show Go p e below P T14 (mkF m 68 #[.val (.int i0), .val (.int i1), .val (.int i2), .val (.int i3), .val (.int ((1 : Int32) + ((i0 &&& (2147483647 : Int32)) % (2147483647 : Int32)))), .val (.int ((i1 &&& (2147483647 : Int32)) % ((1 : Int32) + ((i0 &&& (2147483647 : Int32)) % (2147483647 : Int32))))), .val (.int ((i2 &&& (2147483647 : Int32)) % ((1 : Int32) + ((i0 &&& (2147483647 : Int32)) % (2147483647 : Int32))))), .val (.int w32), .val (.ref b2), .unset, .unset, .unset] [.int (fs w32 ((i1 &&& (2147483647 : Int32)) % ((1 : Int32) + ((i0 &&& (2147483647 : Int32)) % (2147483647 : Int32)))) ((1 : Int32) + ((i0 &&& (2147483647 : Int32)) % (2147483647 : Int32))))])
    refine s_istore k14 at_68 (l' := #[.val (.int i0), .val (.int i1), .val (.int i2), .val (.int i3), .val (.int ((1 : Int32) + ((i0 &&& (2147483647 : Int32)) % (2147483647 : Int32)))), .val (.int ((i1 &&& (2147483647 : Int32)) % ((1 : Int32) + ((i0 &&& (2147483647 : Int32)) % (2147483647 : Int32))))), .val (.int ((i2 &&& (2147483647 : Int32)) % ((1 : Int32) + ((i0 &&& (2147483647 : Int32)) % (2147483647 : Int32))))), .val (.int w32), .val (.ref b2), .val (.int (fs w32 ((i1 &&& (2147483647 : Int32)) % ((1 : Int32) + ((i0 &&& (2147483647 : Int32)) % (2147483647 : Int32)))) ((1 : Int32) + ((i0 &&& (2147483647 : Int32)) % (2147483647 : Int32))))), .unset, .unset]) rfl (pc' := 70) rfl ?_
    refine s_iload k14 at_70 rfl (pc' := 72) rfl ?_
    refine s_iload k14 at_72 rfl (pc' := 74) rfl ?_
    refine s_iconst k14 (z := 1) at_74 (by decide) (pc' := 75) rfl ?_
    refine s_isub k14 at_75 rfl (pc' := 76) rfl ?_
    have J15 : ∀ (w76 : Int32) (e_w76 : w76 = (if w32 = (((1 : Int32) + ((i0 &&& (2147483647 : Int32)) % (2147483647 : Int32))) - (1 : Int32)) then ((i1 &&& (2147483647 : Int32)) % ((1 : Int32) + ((i0 &&& (2147483647 : Int32)) % (2147483647 : Int32)))) else (w32 + (1 : Int32)))), Go p e below P T14 (mkF m 92 #[.val (.int i0), .val (.int i1), .val (.int i2), .val (.int i3), .val (.int ((1 : Int32) + ((i0 &&& (2147483647 : Int32)) % (2147483647 : Int32)))), .val (.int ((i1 &&& (2147483647 : Int32)) % ((1 : Int32) + ((i0 &&& (2147483647 : Int32)) % (2147483647 : Int32))))), .val (.int ((i2 &&& (2147483647 : Int32)) % ((1 : Int32) + ((i0 &&& (2147483647 : Int32)) % (2147483647 : Int32))))), .val (.int w32), .val (.ref b2), .val (.int (fs w32 ((i1 &&& (2147483647 : Int32)) % ((1 : Int32) + ((i0 &&& (2147483647 : Int32)) % (2147483647 : Int32)))) ((1 : Int32) + ((i0 &&& (2147483647 : Int32)) % (2147483647 : Int32))))), .val (.int w76), .unset] []) := by
      intro w76 e_w76
      refine s_iload k14 at_92 rfl (pc' := 94) rfl ?_
      refine s_if_lt k14 at_94 (by decide) (pc' := 108) (by decide) (pc3 := 97) rfl (fun hc94 => absurd hc94 (own_law i0 i1 w32 w76 hs32 e_w76).1) (fun hc94 => ?_)
      refine s_iload k14 at_97 rfl (pc' := 99) rfl ?_
      refine s_iload k14 at_99 rfl (pc' := 101) rfl ?_
      refine s_icmp_ge k14 at_101 (by decide) (pc' := 108) (by decide) (pc3 := 104) rfl (fun hc101 => ?_) (fun hc101 => absurd (own_law i0 i1 w32 w76 hs32 e_w76).2.1 hc101)
      refine s_iconst k14 (z := 1) at_104 (by decide) (pc' := 105) rfl ?_
      refine s_goto k14 at_105 (by decide) (pc' := 109) (by decide) ?_
      refine s_istore k14 at_109 (l' := #[.val (.int i0), .val (.int i1), .val (.int i2), .val (.int i3), .val (.int ((1 : Int32) + ((i0 &&& (2147483647 : Int32)) % (2147483647 : Int32)))), .val (.int ((i1 &&& (2147483647 : Int32)) % ((1 : Int32) + ((i0 &&& (2147483647 : Int32)) % (2147483647 : Int32))))), .val (.int ((i2 &&& (2147483647 : Int32)) % ((1 : Int32) + ((i0 &&& (2147483647 : Int32)) % (2147483647 : Int32))))), .val (.int w32), .val (.ref b2), .val (.int (fs w32 ((i1 &&& (2147483647 : Int32)) % ((1 : Int32) + ((i0 &&& (2147483647 : Int32)) % (2147483647 : Int32)))) ((1 : Int32) + ((i0 &&& (2147483647 : Int32)) % (2147483647 : Int32))))), .val (.int w76), .val (.int (1 : Int32))]) rfl (pc' := 111) rfl ?_
      refine s_iload k14 at_111 rfl (pc' := 113) rfl ?_
      refine s_if_eq k14 at_113 (by decide) (pc' := 127) (by decide) (pc3 := 116) rfl (fun hc113 => absurd hc113 (by decide)) (fun hc113 => ?_)
      refine s_iload k14 at_116 rfl (pc' := 118) rfl ?_
      refine s_iload k14 at_118 rfl (pc' := 120) rfl ?_
      refine s_icmp_ne k14 at_120 (by decide) (pc' := 127) (by decide) (pc3 := 123) rfl (fun hc120 => ?_) (fun hc120 => absurd (own_law i0 i1 w32 w76 hs32 e_w76).2.2 hc120)
      refine s_iconst k14 (z := 1) at_123 (by decide) (pc' := 124) rfl ?_
      refine s_goto k14 at_124 (by decide) (pc' := 128) (by decide) ?_
      exact s_retZ k14 at_128 rfl (by decide) hP (by decide) (by decide) ⟨rfl, Y12⟩
    refine s_icmp_ne k14 at_76 (by decide) (pc' := 86) (by decide) (pc3 := 79) rfl (fun hc76 => ?_) (fun hc76 => ?_)
    · refine s_iload k14 at_79 rfl (pc' := 81) rfl ?_
      refine s_istore k14 at_81 (l' := #[.val (.int i0), .val (.int i1), .val (.int i2), .val (.int i3), .val (.int ((1 : Int32) + ((i0 &&& (2147483647 : Int32)) % (2147483647 : Int32)))), .val (.int ((i1 &&& (2147483647 : Int32)) % ((1 : Int32) + ((i0 &&& (2147483647 : Int32)) % (2147483647 : Int32))))), .val (.int ((i2 &&& (2147483647 : Int32)) % ((1 : Int32) + ((i0 &&& (2147483647 : Int32)) % (2147483647 : Int32))))), .val (.int w32), .val (.ref b2), .val (.int (fs w32 ((i1 &&& (2147483647 : Int32)) % ((1 : Int32) + ((i0 &&& (2147483647 : Int32)) % (2147483647 : Int32)))) ((1 : Int32) + ((i0 &&& (2147483647 : Int32)) % (2147483647 : Int32))))), .val (.int ((i1 &&& (2147483647 : Int32)) % ((1 : Int32) + ((i0 &&& (2147483647 : Int32)) % (2147483647 : Int32))))), .unset]) rfl (pc' := 83) rfl ?_
      refine s_goto k14 at_83 (by decide) (pc' := 92) (by decide) ?_
      exact J15 _ (by rw [if_pos hc76])
    · refine s_iload k14 at_86 rfl (pc' := 88) rfl ?_
      refine s_iconst k14 (z := 1) at_88 (by decide) (pc' := 89) rfl ?_
      refine s_iadd k14 at_89 rfl (pc' := 90) rfl ?_
      refine s_istore k14 at_90 (l' := #[.val (.int i0), .val (.int i1), .val (.int i2), .val (.int i3), .val (.int ((1 : Int32) + ((i0 &&& (2147483647 : Int32)) % (2147483647 : Int32)))), .val (.int ((i1 &&& (2147483647 : Int32)) % ((1 : Int32) + ((i0 &&& (2147483647 : Int32)) % (2147483647 : Int32))))), .val (.int ((i2 &&& (2147483647 : Int32)) % ((1 : Int32) + ((i0 &&& (2147483647 : Int32)) % (2147483647 : Int32))))), .val (.int w32), .val (.ref b2), .val (.int (fs w32 ((i1 &&& (2147483647 : Int32)) % ((1 : Int32) + ((i0 &&& (2147483647 : Int32)) % (2147483647 : Int32)))) ((1 : Int32) + ((i0 &&& (2147483647 : Int32)) % (2147483647 : Int32))))), .val (.int (w32 + (1 : Int32))), .unset]) rfl (pc' := 92) rfl ?_
      exact J15 _ (by rw [if_neg hc76])
  refine s_if_eq k0 at_32 (by decide) (pc' := 42) (by decide) (pc3 := 35) rfl (fun hc32 => ?_) (fun hc32 => ?_)
  · refine s_iload k0 at_42 rfl (pc' := 44) rfl ?_
    exact J1 _ (by rw [if_pos hc32])
  · refine s_iload k0 at_35 rfl (pc' := 37) rfl ?_
    refine s_iconst k0 (z := 1) at_37 (by decide) (pc' := 38) rfl ?_
    refine s_isub k0 at_38 rfl (pc' := 39) rfl ?_
    refine s_goto k0 at_39 (by decide) (pc' := 44) (by decide) ?_
    exact J1 _ (by rw [if_neg hc32])
set_option maxRecDepth 65536 in
set_option maxHeartbeats 40000000 in
theorem comes_1 {Post : Tables → Env → Array Value → State → Outcome → State → Prop} (hpost : ∀ tb e args s v u, (limb_1_1.after args s (.returned v) u = true ∧ limb_1_2.after args s (.returned v) u = true ∧ True) → ReturnedEndW s (.returned v) u (Jvm.fieldLocs frame_1_writes args s ++ Jvm.arrayLocs frame_1_arrays args s ++ Jvm.staticLocs frame_1_statics s) 16 1152 → Post tb e args s (.returned v) u) :
    ArmFor flags0 classFile x code maxLocals ret World_1 tables_1 room_1 Calls_1 rest_1 Pre_1 Post := by
  intro l hfl _ _ p e ha hc hk s m args below hf hA hF happ hP
  obtain ⟨hcalls, hrest, hpre⟩ := hP
  obtain ⟨-, -, -, hnamed, -, -, -, hat⟩ := (Spec.applies_iff hf).mp happ
  obtain ⟨hg, hn⟩ := and_e (Cond.before_iff.mp (show (Jvm.Cond.and given_1 narrow_1).before args s = true from hpre))
  obtain ⟨gc, gr0⟩ := and_e hg
  obtain ⟨w0, w1, w2, w3, rfl⟩ : ∃ w0 w1 w2 w3 : Value, args = #[w0, w1, w2, w3] := by
    have hs : args.size = 4 := by simpa [Cond.value, given_1] using gc
    obtain ⟨L⟩ := args
    match L, hs with
    | [w0, w1, w2, w3], _ => exact ⟨w0, w1, w2, w3, rfl⟩
  have hw := fun d (hd : d ∈ tables_1) => atoms_spec (ws := Jvm.Cond.code x code maxLocals ret :: tables_1) hat d (List.mem_cons_of_mem _ hd)
  obtain ⟨ga0, gr1⟩ := and_e gr0
  obtain ⟨i0, ei0⟩ := is_v ga0
  obtain rfl : w0 = (.int i0) := Option.some.inj ei0
  obtain ⟨ga1, gr2⟩ := and_e gr1
  obtain ⟨i1, ei1⟩ := is_v ga1
  obtain rfl : w1 = (.int i1) := Option.some.inj ei1
  obtain ⟨ga2, gr3⟩ := and_e gr2
  obtain ⟨i2, ei2⟩ := is_v ga2
  obtain rfl : w2 = (.int i2) := Option.some.inj ei2
  have ga3 := gr3
  obtain ⟨i3, ei3⟩ := is_v ga3
  obtain rfl : w3 = (.int i3) := Option.some.inj ei3
  obtain ⟨n, o, h1, h2, h3, _, L, rfl, ⟨rfl, N⟩, hq⟩ := rm0 l s _ hw i0 i1 i2 i3 s.heap s.heap.size (Nat.le_refl _)  tables_1 p e ha hc hk s m _ below hf ((Spec.applies_iff_loose hf).mp happ).1 ⟨rfl, State.Warmed39.refl s, rfl⟩ trivial
  refine ⟨n, _, h1, h2, h3, hpost _ _ _ _ _ _ ⟨Cond.after_iff.mpr rfl, Cond.after_iff.mpr (eq_i res_at (Term.int_eval (1)) rfl), trivial⟩ ⟨hq.1, hq.2.1, hq.2.2.1, (hq.2.2.2.sift fun y hy => Or.inr (N y hy)).mono (by decide) (by decide)⟩⟩
theorem main_1_1 : Claimed_1_1 := comes_1 fun _ _ _ _ _ _ h hF => ⟨h.1, hF⟩
theorem main_1_2 : Claimed_1_2 := comes_1 fun _ _ _ _ _ _ h hF => ⟨h.2.1, hF⟩
end Jvm.Pilot.@@N@@
namespace Jvm.Pilot.@@N@@
open Jvm Jvm.ClassFile Sem Op Lib Jvm.Free Jvm.Stand Jvm.Pilot.@@N@@.Jvm.D
/-! MADE BY PROGRAM (witnessworld.py) out of the Statement's table words and the real class files: 15 classes; the members and pool entries that the words name. The judged class is class 1, her method 1. -/
namespace start1
open Jvm.ClassFile
def u (s : String) : CpInfo := .utf8 (stringToUtf16 s)
/-- a pool by its gaps: so many unusable entries, then the entry; so many at the end -/
def gap : Nat → List CpInfo → List CpInfo
  | 0, r => r
  | n + 1, r => .unusable :: gap n r
def poolList (es : List (Nat × CpInfo)) (last : Nat) : List CpInfo := es.foldr (fun e r => gap e.1 (e.2 :: r)) (gap last [])
def pool (es : List (Nat × CpInfo)) (last : Nat) : Array CpInfo := ⟨poolList es last⟩
def fileOf (pool : Array CpInfo) (this : Nat) (attrs : Array Attribute := #[]) (ms : Array MethodInfo := #[]) (fl : Nat := 33) (sup : Nat := 0) (ifs : Array Nat := #[]) (fds : Array FieldInfo := #[]) : ClassFile where
  minorVersion := 0
  majorVersion := 65
  constantPool := pool
  accessFlags := fl
  thisClass := this
  superClass := sup
  interfaces := ifs
  fields := fds
  methods := ms
  attributes := attrs
def plain (name : String) (sup : Option ClassId) : Class where
  name := name
  kind := .ordinary
  loader := none
  accessFlags := 33
  super := sup
  interfaces := #[]
  cf := none
  fields := #[]
  methods := #[]
  instanceTypes := #[]
  staticTypes := #[]
  resolved := #[]
  callSites := []
  init := .initialized
  statics := none
  mirror := none

def pool0 : Array CpInfo := pool [(5, u "<init>"), (0, u "()V"), (1, .class_ 10), (1, u "java/lang/Object")] 113

def k0c0 : Code := { maxStack := 0, maxLocals := 1, code := object_method_1_code, exceptionTable := #[], attributes := #[] }
def k0m0 : Method := { name := "<init>", desc := "()V", sig := { parameters := [], returnType := none }, accessFlags := 1, code := some k0c0 }
/-- java/lang/Object -/
def k0 : Class := { plain "java/lang/Object" none with
  accessFlags := 33
  interfaces := #[]
  cf := some (fileOf pool0 8 #[] #[{ accessFlags := 1, nameIndex := 5, descriptorIndex := 6, attributes := #[] }] 33 0 #[] #[])
  fields := #[]
  methods := #[k0m0]
  instanceTypes := #[]
  staticTypes := #[]
  resolved := Array.replicate 124 none
  statics := none }

def pool1 : Array CpInfo := pool [(2, .class_ 4), (1, u "java/lang/Object"), (0, u "<init>"), (0, u "()V"), (0, .integer 2147483647), (0, .class_ 9), (0, u "com/example/distill/distill/spec/StepCounter"), (0, .string 11), (0, u "s"), (0, .methodref 8 13), (0, .nameAndType 5 14), (0, u "(Ljava/lang/String;II)V"), (0, .methodref 8 16), (0, .nameAndType 17 18), (0, u "successor"), (0, u "(I)I"), (0, .class_ 20), (0, u "com/example/distill/distill/spec/StepCounterSuccessorPinLaw"), (2, u "law"), (0, u "(IIII)Z")] 3

def k1m0 : Method := { name := "<init>", desc := "()V", sig := { parameters := [], returnType := none }, accessFlags := 1, code := none }
def k1c1 : Code := { maxStack := 5, maxLocals := 12, code := code, exceptionTable := #[], attributes := #[] }
def k1m1 : Method := { name := "law", desc := "(IIII)Z", sig := { parameters := [.int, .int, .int, .int], returnType := some .boolean }, accessFlags := 9, code := some k1c1 }
/-- com/example/distill/distill/spec/StepCounterSuccessorPinLaw -/
def k1 : Class := { plain "com/example/distill/distill/spec/StepCounterSuccessorPinLaw" (some 0) with
  accessFlags := 49
  interfaces := #[]
  cf := some (fileOf pool1 19 #[] #[{ accessFlags := 1, nameIndex := 5, descriptorIndex := 6, attributes := #[] }, { accessFlags := 9, nameIndex := 23, descriptorIndex := 24, attributes := #[] }] 49 2 #[] #[])
  fields := #[]
  methods := #[k1m0, k1m1]
  instanceTypes := #[]
  staticTypes := #[]
  resolved := Array.replicate 28 none
  statics := none }

def pool2 : Array CpInfo := pool [(1, .methodref 2 3), (0, .class_ 4), (0, .nameAndType 5 6), (0, u "java/lang/Object"), (0, u "<init>"), (0, u "()V"), (0, .class_ 8), (0, u "java/lang/Record")] 13

def k2c0 : Code := { maxStack := 1, maxLocals := 1, code := jdk_30_method_1_code, exceptionTable := #[], attributes := #[] }
def k2m0 : Method := { name := "<init>", desc := "()V", sig := { parameters := [], returnType := none }, accessFlags := 4, code := some k2c0 }
/-- java/lang/Record -/
def k2 : Class := { plain "java/lang/Record" (some 0) with
  accessFlags := 1057
  interfaces := #[]
  cf := some (fileOf pool2 7 #[] #[{ accessFlags := 4, nameIndex := 5, descriptorIndex := 6, attributes := #[] }] 1057 2 #[] #[])
  fields := #[]
  methods := #[k2m0]
  instanceTypes := #[]
  staticTypes := #[]
  resolved := Array.replicate 22 none
  statics := none }

def pool3 : Array CpInfo := pool [(1, .methodref 2 3), (0, .class_ 4), (0, .nameAndType 5 6), (0, u "java/lang/Record"), (0, u "<init>"), (0, u "()V"), (9, .fieldref 17 18), (0, .class_ 19), (0, .nameAndType 20 21), (0, u "com/example/distill/distill/spec/StepCounter"), (0, u "prefix"), (0, u "Ljava/lang/String;"), (0, .fieldref 17 23), (0, .nameAndType 24 25), (0, u "stemSize"), (0, u "I"), (0, .fieldref 17 27), (0, .nameAndType 28 25), (0, u "size"), (55, u "successor"), (0, u "(I)I"), (31, u "(Ljava/lang/String;II)V")] 50

def k3c0 : Code := { maxStack := 4, maxLocals := 4, code := prog_66_method_1_code, exceptionTable := #[], attributes := #[] }
def k3m0 : Method := { name := "<init>", desc := "(Ljava/lang/String;II)V", sig := { parameters := [(.object "java/lang/String"), .int, .int], returnType := none }, accessFlags := 1, code := some k3c0 }
def k3c1 : Code := { maxStack := 2, maxLocals := 2, code := prog_66_method_3_code, exceptionTable := #[], attributes := #[] }
def k3m1 : Method := { name := "successor", desc := "(I)I", sig := { parameters := [.int], returnType := some .int }, accessFlags := 1, code := some k3c1 }
/-- com/example/distill/distill/spec/StepCounter -/
def k3 : Class := { plain "com/example/distill/distill/spec/StepCounter" (some 2) with
  accessFlags := 49
  interfaces := #[]
  cf := some (fileOf pool3 17 #[] #[{ accessFlags := 1, nameIndex := 5, descriptorIndex := 117, attributes := #[] }, { accessFlags := 1, nameIndex := 84, descriptorIndex := 85, attributes := #[] }] 49 2 #[] #[{ accessFlags := 18, nameIndex := 20, descriptorIndex := 21, attributes := #[] }, { accessFlags := 18, nameIndex := 24, descriptorIndex := 25, attributes := #[] }, { accessFlags := 18, nameIndex := 28, descriptorIndex := 25, attributes := #[] }])
  fields := #[{ name := "prefix", type := (.object "java/lang/String"), accessFlags := 18, slot := 0, constantValue := 0 }, { name := "stemSize", type := .int, accessFlags := 18, slot := 1, constantValue := 0 }, { name := "size", type := .int, accessFlags := 18, slot := 2, constantValue := 0 }]
  methods := #[k3m0, k3m1]
  instanceTypes := #[(.object "java/lang/String"), .int, .int]
  staticTypes := #[]
  resolved := Array.replicate 168 none
  statics := none }

def pool4 : Array CpInfo := pool [(1, .class_ 2), (0, u "java/io/Serializable"), (0, .class_ 4), (0, u "java/lang/Object")] 2

/-- java/io/Serializable -/
def k4 : Class := { plain "java/io/Serializable" (some 0) with
  accessFlags := 1537
  interfaces := #[]
  cf := some (fileOf pool4 1 #[] #[] 1537 3 #[] #[])
  fields := #[]
  methods := #[]
  instanceTypes := #[]
  staticTypes := #[]
  resolved := Array.replicate 7 none
  statics := none }

def pool5 : Array CpInfo := pool [(1, .class_ 2), (0, u "java/lang/Comparable"), (0, .class_ 4), (0, u "java/lang/Object")] 7

/-- java/lang/Comparable -/
def k5 : Class := { plain "java/lang/Comparable" (some 0) with
  accessFlags := 1537
  interfaces := #[]
  cf := some (fileOf pool5 1 #[] #[] 1537 3 #[] #[])
  fields := #[]
  methods := #[]
  instanceTypes := #[]
  staticTypes := #[]
  resolved := Array.replicate 12 none
  statics := none }

def pool6 : Array CpInfo := pool [(2, .class_ 4), (1, u "java/lang/CharSequence"), (42, .class_ 48), (0, u "java/lang/CharSequence$1CodePointIterator"), (10, .class_ 60), (0, u "java/lang/CharSequence$1CharIterator"), (5, .class_ 67), (0, u "java/lang/Object")] 63

/-- java/lang/CharSequence -/
def k6 : Class := { plain "java/lang/CharSequence" (some 0) with
  accessFlags := 1537
  interfaces := #[]
  cf := some (fileOf pool6 2 #[.nestMembers #[47, 59]] #[] 1537 66 #[] #[])
  fields := #[]
  methods := #[]
  instanceTypes := #[]
  staticTypes := #[]
  resolved := Array.replicate 131 none
  statics := none }

def pool7 : Array CpInfo := pool [(1, .class_ 2), (0, u "java/lang/constant/Constable"), (0, .class_ 4), (0, u "java/lang/Object")] 6

/-- java/lang/constant/Constable -/
def k7 : Class := { plain "java/lang/constant/Constable" (some 0) with
  accessFlags := 1537
  interfaces := #[]
  cf := some (fileOf pool7 1 #[] #[] 1537 3 #[] #[])
  fields := #[]
  methods := #[]
  instanceTypes := #[]
  staticTypes := #[]
  resolved := Array.replicate 11 none
  statics := none }

def pool8 : Array CpInfo := pool [(1, .class_ 2), (0, u "java/lang/constant/ConstantDesc"), (0, .class_ 4), (0, u "java/lang/Object")] 32

/-- java/lang/constant/ConstantDesc -/
def k8 : Class := { plain "java/lang/constant/ConstantDesc" (some 0) with
  accessFlags := 1537
  interfaces := #[]
  cf := some (fileOf pool8 1 #[] #[] 1537 3 #[] #[])
  fields := #[]
  methods := #[]
  instanceTypes := #[]
  staticTypes := #[]
  resolved := Array.replicate 37 none
  statics := none }

def pool9 : Array CpInfo := pool [(2, .class_ 4), (1, u "java/lang/Object"), (0, u "<init>"), (0, u "()V"), (3, .class_ 12), (1, u "java/lang/String"), (0, u "value"), (0, u "[B"), (2, u "coder"), (0, u "B"), (2, u "hash"), (0, u "I"), (2, u "hashIsZero"), (0, u "Z"), (13, u "COMPACT_STRINGS"), (534, .class_ 576), (0, u "java/lang/CharSequence"), (22, u "CASE_INSENSITIVE_ORDER"), (0, u "Ljava/util/Comparator;"), (500, u "serialPersistentFields"), (0, u "[Ljava/io/ObjectStreamField;"), (0, .class_ 1104), (0, u "java/lang/String$CaseInsensitiveComparator"), (1, .class_ 1107), (0, u "java/io/Serializable"), (0, .class_ 1109), (0, u "java/lang/Comparable"), (0, .class_ 1111), (0, u "java/lang/constant/Constable"), (0, .class_ 1113), (0, u "java/lang/constant/ConstantDesc"), (2, u "serialVersionUID"), (0, u "J"), (3, u "REPL"), (0, u "C"), (2, u "LATIN1"), (1, u "UTF16")] 323

def k9m0 : Method := { name := "<init>", desc := "()V", sig := { parameters := [], returnType := none }, accessFlags := 1, code := none }
/-- java/lang/String -/
def k9 : Class := { plain "java/lang/String" (some 0) with
  accessFlags := 49
  interfaces := #[4, 5, 6, 7, 8]
  cf := some (fileOf pool9 10 #[.nestMembers #[1103]] #[{ accessFlags := 1, nameIndex := 5, descriptorIndex := 6, attributes := #[] }] 49 2 #[1106, 1108, 575, 1110, 1112] #[{ accessFlags := 18, nameIndex := 13, descriptorIndex := 14, attributes := #[] }, { accessFlags := 18, nameIndex := 17, descriptorIndex := 18, attributes := #[] }, { accessFlags := 2, nameIndex := 21, descriptorIndex := 22, attributes := #[] }, { accessFlags := 2, nameIndex := 25, descriptorIndex := 26, attributes := #[] }, { accessFlags := 26, nameIndex := 1116, descriptorIndex := 1117, attributes := #[] }, { accessFlags := 24, nameIndex := 40, descriptorIndex := 26, attributes := #[] }, { accessFlags := 26, nameIndex := 1101, descriptorIndex := 1102, attributes := #[] }, { accessFlags := 26, nameIndex := 1121, descriptorIndex := 1122, attributes := #[] }, { accessFlags := 25, nameIndex := 599, descriptorIndex := 600, attributes := #[] }, { accessFlags := 24, nameIndex := 1125, descriptorIndex := 18, attributes := #[] }, { accessFlags := 24, nameIndex := 1127, descriptorIndex := 18, attributes := #[] }])
  fields := #[{ name := "value", type := (.array .byte), accessFlags := 18, slot := 0, constantValue := 0 }, { name := "coder", type := .byte, accessFlags := 18, slot := 1, constantValue := 0 }, { name := "hash", type := .int, accessFlags := 2, slot := 2, constantValue := 0 }, { name := "hashIsZero", type := .boolean, accessFlags := 2, slot := 3, constantValue := 0 }, { name := "serialVersionUID", type := .long, accessFlags := 26, slot := 0, constantValue := 0 }, { name := "COMPACT_STRINGS", type := .boolean, accessFlags := 24, slot := 1, constantValue := 0 }, { name := "serialPersistentFields", type := (.array (.object "java/io/ObjectStreamField")), accessFlags := 26, slot := 2, constantValue := 0 }, { name := "REPL", type := .char, accessFlags := 26, slot := 3, constantValue := 0 }, { name := "CASE_INSENSITIVE_ORDER", type := (.object "java/util/Comparator"), accessFlags := 25, slot := 4, constantValue := 0 }, { name := "LATIN1", type := .byte, accessFlags := 24, slot := 5, constantValue := 0 }, { name := "UTF16", type := .byte, accessFlags := 24, slot := 6, constantValue := 0 }]
  methods := #[k9m0]
  instanceTypes := #[(.array .byte), .byte, .int, .boolean]
  staticTypes := #[.long, .boolean, (.array (.object "java/io/ObjectStreamField")), .char, (.object "java/util/Comparator"), .byte, .byte]
  resolved := Array.replicate 1451 none
  statics := none }

def pool10 : Array CpInfo := pool [(1, u "java/lang/Cloneable"), (0, .class_ 1), (0, u "java/lang/Object"), (0, .class_ 3)] 3

/-- java/lang/Cloneable -/
def k10 : Class := { plain "java/lang/Cloneable" (some 0) with
  accessFlags := 1537
  interfaces := #[]
  cf := some (fileOf pool10 2 #[] #[] 1537 4 #[] #[])
  fields := #[]
  methods := #[]
  instanceTypes := #[]
  staticTypes := #[]
  resolved := Array.replicate 8 none
  statics := none }

/-- the primitive byte -/
def k11 : Class := { plain "byte" none with kind := .primitive 'B', accessFlags := 0x411 }
/-- [B -/
def k12 : Class := { plain "[B" (some 0) with kind := .array 11 .byte, interfaces := #[10, 4], accessFlags := 1041 }

/-- the primitive int -/
def k13 : Class := { plain "int" none with kind := .primitive 'I', accessFlags := 0x411 }
/-- [I -/
def k14 : Class := { plain "[I" (some 0) with kind := .array 13 .int, interfaces := #[10, 4], accessFlags := 1041 }

def heap : Heap := #[]
def classes : Array Class := #[k0, k1, k2, k3, k4, k5, k6, k7, k8, k9, k10, k11, k12, k13, k14]
def interned : List (Array UInt16 × Addr) := []
def slotsUsed : Nat := 0
def theMethod : MethodId := ⟨1, 1⟩
def args0 : Array Value := #[.int 5, .int 6, .int 7, .int 8]
def aboutOver (below : List Frame) : State where
  vm := { classes := classes, interned := interned.toArray }
  heap := heap
  slotsUsed := slotsUsed
  threads := #[{ frames := .invoking theMethod args0 :: below }]
def below0 : List Frame := [.native { method := ⟨0, 0⟩, args := #[] }]
def about1 : State := aboutOver below0
def p0 : Program := .bare "" "" ""
def e0 : Env := launch0.env 0 0 0
theorem w_frames : about1.frames = Frame.invoking theMethod args0 :: below0 := rfl
set_option maxRecDepth 65536 in
theorem w_args : argsFit about1.vm theMethod args0 = true := by decide +kernel
set_option maxRecDepth 65536 in
theorem w_heap : heapFits about1 = true := by decide +kernel
set_option maxRecDepth 65536 in
theorem w_runnable : about1.curStatus? = some .runnable := by decide +kernel
set_option maxRecDepth 65536 in
theorem w_alone : about1.alone = true := by decide +kernel
set_option maxRecDepth 65536 in
theorem w_named : about1.methodNamed? x = some theMethod := by decide +kernel
set_option maxRecDepth 65536 in
theorem w_hears : about1.hears theMethod below0 = true := by decide +kernel
set_option maxRecDepth 65536 in
theorem w_ripe : about1.ripe theMethod args0 below0 = true := by decide +kernel
theorem w_running : about1.status = .running := rfl
set_option maxRecDepth 65536 in
theorem w_room : about1.hasRoom e0.platform room_1 = true :=
  launch0.hasRoom_least _ room_1 (by decide +kernel) (by decide +kernel) (by decide +kernel) (by decide +kernel) (by decide +kernel) (by decide +kernel)
theorem allAtoms_all (ts : List Jvm.Cond) (a : Array Jvm.Value) (st : Jvm.State) : (allAtoms ts).before a st = ts.all (fun c => c.before a st) := by
  induction ts with
  | nil => rfl
  | cons c t ih =>
    show (Jvm.Cond.and c (allAtoms t)).before a st = _
    rw [Jvm.Cond.before_and, ih, List.all_cons]
def words1 : List Jvm.Cond := Jvm.Cond.code x code maxLocals ret :: tables_1
/-- a 'code' word, met by the world's own term for the bytes: nothing is compared byte by byte -/
theorem code_word {y : MethodName} {bytes : ByteArray} {mx : Nat} {rt : Option FieldType} {a : Array Value} {s : State} {m : MethodId} {meth : Method} {c : Code} (h1 : s.methodNamed? y = some m) (h2 : s.vm.method? m = some meth) (h3 : meth.code = some c) (h4 : c.code = bytes)
    (h5 : (c.maxLocals == mx && c.exceptionTable.isEmpty && decide (c.maxStack ≤ mostOperands) && decide (meth.sig.returnType = rt) && !meth.locks && decide (parseMethodDescriptor y.desc = some meth.sig)) = true) : (Jvm.Cond.code y bytes mx rt).before a s = true := by
  simp only [Bool.and_eq_true, beq_iff_eq, Bool.not_eq_true', decide_eq_true_eq] at h5
  obtain ⟨⟨⟨⟨⟨g1, g2⟩, g3⟩, g4⟩, g5⟩, g6⟩ := h5
  simp [Cond.before, Cond.holds, Cond.value, h1, h2, h3, h4, g1, g2, g3, g4, g5, g6]
def isCode : Jvm.Cond → Bool
  | .code _ _ _ _ => true
  | _ => false
theorem all_split {L : List Jvm.Cond} {P : Jvm.Cond → Bool} (h1 : L.all (fun c => isCode c || P c) = true) (h2 : ∀ c ∈ L.filter isCode, P c = true) : L.all P = true := by
  refine List.all_eq_true.mpr fun c hc => ?_
  have h := List.all_eq_true.mp h1 c hc
  rcases Bool.eq_false_or_eq_true (isCode c) with hi | hi
  · exact h2 c (List.mem_filter.mpr ⟨hc, hi⟩)
  · simpa [hi] using h
set_option maxRecDepth 65536 in
theorem w_c0 : (Jvm.Cond.code x code maxLocals ret).before args0 about1 = true := code_word (m := ⟨1, 1⟩) (meth := k1m1) (c := k1c1) (by decide +kernel) rfl rfl rfl (by decide +kernel)
set_option maxRecDepth 65536 in
theorem w_c1 : (Jvm.Cond.code ({ cls := "com/example/distill/distill/spec/StepCounter", name := "<init>", desc := "(Ljava/lang/String;II)V" } : Jvm.MethodName) prog_66_method_1_code (4 : Nat) (Option.none : Option Jvm.ClassFile.FieldType)).before args0 about1 = true := code_word (m := ⟨3, 0⟩) (meth := k3m0) (c := k3c0) (by decide +kernel) rfl rfl rfl (by decide +kernel)
set_option maxRecDepth 65536 in
theorem w_c2 : (Jvm.Cond.code ({ cls := "java/lang/Record", name := "<init>", desc := "()V" } : Jvm.MethodName) jdk_30_method_1_code (1 : Nat) (Option.none : Option Jvm.ClassFile.FieldType)).before args0 about1 = true := code_word (m := ⟨2, 0⟩) (meth := k2m0) (c := k2c0) (by decide +kernel) rfl rfl rfl (by decide +kernel)
set_option maxRecDepth 65536 in
theorem w_c3 : (Jvm.Cond.code ({ cls := "java/lang/Object", name := "<init>", desc := "()V" } : Jvm.MethodName) object_method_1_code (1 : Nat) (Option.none : Option Jvm.ClassFile.FieldType)).before args0 about1 = true := code_word (m := ⟨0, 0⟩) (meth := k0m0) (c := k0c0) (by decide +kernel) rfl rfl rfl (by decide +kernel)
set_option maxRecDepth 65536 in
theorem w_c4 : (Jvm.Cond.code ({ cls := "com/example/distill/distill/spec/StepCounter", name := "successor", desc := "(I)I" } : Jvm.MethodName) prog_66_method_3_code (2 : Nat) (Option.some Jvm.ClassFile.FieldType.int)).before args0 about1 = true := code_word (m := ⟨3, 1⟩) (meth := k3m1) (c := k3c1) (by decide +kernel) rfl rfl rfl (by decide +kernel)
def codes1 : List Jvm.Cond := [Jvm.Cond.code x code maxLocals ret, Jvm.Cond.code ({ cls := "com/example/distill/distill/spec/StepCounter", name := "<init>", desc := "(Ljava/lang/String;II)V" } : Jvm.MethodName) prog_66_method_1_code (4 : Nat) (Option.none : Option Jvm.ClassFile.FieldType), Jvm.Cond.code ({ cls := "java/lang/Record", name := "<init>", desc := "()V" } : Jvm.MethodName) jdk_30_method_1_code (1 : Nat) (Option.none : Option Jvm.ClassFile.FieldType), Jvm.Cond.code ({ cls := "java/lang/Object", name := "<init>", desc := "()V" } : Jvm.MethodName) object_method_1_code (1 : Nat) (Option.none : Option Jvm.ClassFile.FieldType), Jvm.Cond.code ({ cls := "com/example/distill/distill/spec/StepCounter", name := "successor", desc := "(I)I" } : Jvm.MethodName) prog_66_method_3_code (2 : Nat) (Option.some Jvm.ClassFile.FieldType.int)]
set_option maxRecDepth 65536 in
theorem codes_eq : words1.filter isCode = codes1 := rfl
theorem w_codes : ∀ c ∈ words1.filter isCode, c.before args0 about1 = true := by
  rw [codes_eq]
  intro c hc
  simp only [codes1, List.mem_cons, List.not_mem_nil, or_false] at hc
  rcases hc with rfl | rfl | rfl | rfl | rfl
  · exact w_c0
  · exact w_c1
  · exact w_c2
  · exact w_c3
  · exact w_c4
set_option maxRecDepth 65536 in
theorem w_t1 : (words1.take 24).all (fun c => isCode c || c.before args0 about1) = true := by decide +kernel
set_option maxRecDepth 65536 in
theorem w_t2 : (words1.drop 24).all (fun c => isCode c || c.before args0 about1) = true := by decide +kernel
theorem w_tables : (allAtoms (Jvm.Cond.code x code maxLocals ret :: tables_1)).before args0 about1 = true := by
  rw [allAtoms_all]
  show words1.all (fun c => c.before args0 about1) = true
  refine all_split ?_ w_codes
  rw [← List.take_append_drop 24 words1, List.all_append, w_t1, w_t2]
  rfl
set_option maxRecDepth 65536 in
theorem w_case : (Jvm.Cond.and given_1 narrow_1).before args0 about1 = true := by decide +kernel
theorem w_applies : (headSpec (Jvm.Cond.code x code maxLocals ret :: tables_1) room_1).applies x e0.platform about1 = true :=
  (Spec.applies_iff w_frames).mpr ⟨w_running, w_runnable, w_alone, w_named, w_hears, w_ripe, w_room, w_tables⟩
theorem atStart : AtStart classFile x code maxLocals ret World_1 tables_1 room_1 Calls_1 rest_1 Pre_1 launch0 p0 e0 about1 theMethod args0 below0 :=
  ⟨lists_1, trivial, launch0.admits_env _ _ _, launch0.least_env, fairChoices_fair.cas, fairChoices_fair.clock, w_frames, w_args, w_heap, w_applies, trivial, trivial, w_case⟩
end start1
theorem witness_1 : WitnessClaimed_1 := ⟨start1.p0, start1.e0, start1.about1, start1.theMethod, start1.args0, start1.below0, start1.atStart⟩
end Jvm.Pilot.@@N@@
