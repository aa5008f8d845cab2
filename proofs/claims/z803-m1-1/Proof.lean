import JvmDerived
import JvmDerived.Pilot.@@N@@Statement
import JvmDerived.Pilot.@@N@@Code
set_option linter.unusedVariables false
set_option linter.unusedSimpArgs false
namespace Jvm.OwnGo
open Sem ClassFile Op Lib Jvm.Stand Jvm.Free Jvm.LawKit Jvm.RoadKit
/-- where a walk stands -/
def K (p : Program) (l : Launch) (e : Env) (R : Room) (s : State) (m : MethodId) (args : Array Value) (below : List Frame) (meth : Method) (c : Code) (bytes : ByteArray) (own : String) (maxL : Nat) (ret : Option FieldType) (nm : String) (T : State) (locs : List Loc) (cells slots : Nat) (Z : State) (h : Heap) (n0 : Nat) : Prop :=
  Stand p l e R s m args below meth c T locs cells slots ∧ p.tables.exec = Jvm.exec ∧ Z.Warmed39 s.vm ∧ T.heap = h ∧ Fr n0 locs ∧ c.code = bytes ∧ s.vm.findClass own = some m.cls ∧ c.maxLocals = maxL ∧ meth.sig.returnType = ret ∧ meth.name = nm ∧ meth.locks = false
/-- from here the run comes to an end that meets P -/
def Go (p : Program) (e : Env) (below : List Frame) (P : State → Outcome → Prop) (T : State) (g : JFrame) : Prop :=
  ∃ s₂ o, Steps p.tables e below (T.setTop g) s₂ ∧ s₂.status = .running ∧ Ended s₂ below o ∧ P s₂ o
/-- what a return pays -/
def Pay (s : State) (Q : Option Value → Heap → Prop) (n0 cc ss : Nat) (P : State → Outcome → Prop) : Prop :=
  ∀ v h L s₂, Q v h → s₂.heap = h → Fr n0 L → FrameEnd s (.returned v) s₂ L cc ss → P s₂ (.returned v)
section Own
variable {p : Program} {l : Launch} {e : Env} {R : Room} {s : State} {m : MethodId} {args : Array Value} {below : List Frame} {meth : Method} {c : Code} {bytes : ByteArray} {own : String} {maxL : Nat} {ret : Option FieldType} {nm : String} {T : State} {locs : List Loc} {cells slots : Nat} {Z : State} {h : Heap} {n0 : Nat} {Q : Option Value → Heap → Prop} {P : State → Outcome → Prop} {cc ss : Nat} {a0 : Array Value} {Ls : Array Slot} {st rest : List Value} {pc pc' pc3 : Nat}
theorem Go.to {T' : State} {g g' : JFrame} (h1 : ∀ target, Steps p.tables e below (T'.setTop g') target → Steps p.tables e below (T.setTop g) target) (k : Go p e below P T' g') : Go p e below P T g := by
  obtain ⟨s₂, o, h2, h3⟩ := k; exact ⟨s₂, o, h1 _ h2, h3⟩
theorem Go.tr {T' : State} {g g' : JFrame} (h1 : Steps p.tables e below (T.setTop g) (T'.setTop g')) (k : Go p e below P T' g') : Go p e below P T g := by
  obtain ⟨s₂, o, h2, h3⟩ := k; exact ⟨s₂, o, h1.trans h2, h3⟩
theorem Go.weak {P' : State → Outcome → Prop} {g : JFrame} (k : Go p e below P T g) (h1 : ∀ s o, P s o → P' s o) : Go p e below P' T g := by
  obtain ⟨s₂, o, h2, h3, h4, h5⟩ := k; exact ⟨s₂, o, h2, h3, h4, h1 _ _ h5⟩
theorem nar_ref {C : String} {v : Value} (h : v.isRef = true) : narrow (.object C) v = v := by cases v <;> first | rfl | (simp [Value.isRef] at h)
theorem fit_ref {C : String} {v : Value} (h : v.isRef = true) : fits (.object C) v = true := by cases v <;> first | rfl | (simp [Value.isRef] at h)
theorem k_hp (k : K p l e R s m args below meth c bytes own maxL ret nm T locs cells slots Z h n0) {T' : State} {h' : Heap} {locs' : List Loc} {cells' slots' : Nat} (X : Stand p l e R s m args below meth c T' locs' cells' slots') (eT : T'.heap = h') (N : Fr n0 locs') : K p l e R s m args below meth c bytes own maxL ret nm T' locs' cells' slots' Z h' n0 :=
  ⟨X, k.2.1, k.2.2.1, eT, N, k.2.2.2.2.2⟩
theorem k_more (k : K p l e R s m args below meth c bytes own maxL ret nm T locs cells slots Z h n0) {cells' slots' : Nat} (h1 : cells ≤ cells') (h2 : slots ≤ slots') : K p l e R s m args below meth c bytes own maxL ret nm T locs cells' slots' Z h n0 :=
  ⟨k.1.more h1 h2, k.2⟩

theorem s_iloadN (k : K p l e R s m args below meth c bytes own maxL ret nm T locs cells slots Z h n0) {i : Fin 4} {v : Int32} (hd : decode bytes pc = .ok (.iload_n i, 1)) (hl : Ls[i.val]? = some (.val (.int v))) (hp : pc + 1 = pc') (g : Go p e below P T (mkF m pc' Ls (.int v :: st))) : Go p e below P T (mkF m pc Ls st) := by
  subst hp
  exact Go.to (fun _ q => XS.iloadN k.1.here k.2.1 rfl (hb k.2.2.2.2.2.1 hd) hl q) g
theorem s_istoreN (k : K p l e R s m args below meth c bytes own maxL ret nm T locs cells slots Z h n0) {i : Fin 4} {x : Int32} {l' : Array Slot} (hd : decode bytes pc = .ok (.istore_n i, 1)) (hl : storeLocals Ls i.val (.int x) = some l') (hp : pc + 1 = pc') (g : Go p e below P T (mkF m pc' l' st)) : Go p e below P T (mkF m pc Ls (.int x :: st)) := by
  subst hp
  exact Go.to (fun _ q => XS.istoreN k.1.here k.2.1 rfl (hb k.2.2.2.2.2.1 hd) rfl hl q) g
theorem s_iload (k : K p l e R s m args below meth c bytes own maxL ret nm T locs cells slots Z h n0) {i : Nat} {v : Int32} (hd : decode bytes pc = .ok (.iload i, 2)) (hl : Ls[i]? = some (.val (.int v))) (hp : pc + 2 = pc') (g : Go p e below P T (mkF m pc' Ls (.int v :: st))) : Go p e below P T (mkF m pc Ls st) := by
  subst hp
  exact Go.to (fun _ q => XS.iload k.1.here k.2.1 rfl (hb k.2.2.2.2.2.1 hd) hl q) g
theorem s_istore (k : K p l e R s m args below meth c bytes own maxL ret nm T locs cells slots Z h n0) {i : Nat} {x : Int32} {l' : Array Slot} (hd : decode bytes pc = .ok (.istore i, 2)) (hl : storeLocals Ls i (.int x) = some l') (hp : pc + 2 = pc') (g : Go p e below P T (mkF m pc' l' st)) : Go p e below P T (mkF m pc Ls (.int x :: st)) := by
  subst hp
  exact Go.to (fun _ q => XS.istore k.1.here k.2.1 rfl (hb k.2.2.2.2.2.1 hd) rfl hl q) g
theorem s_lloadN (k : K p l e R s m args below meth c bytes own maxL ret nm T locs cells slots Z h n0) {i : Fin 4} {v : Int64} (hd : decode bytes pc = .ok (.lload_n i, 1)) (hl : Ls[i.val]? = some (.val (.long v))) (hp : pc + 1 = pc') (g : Go p e below P T (mkF m pc' Ls (.long v :: st))) : Go p e below P T (mkF m pc Ls st) := by
  subst hp
  exact Go.to (fun _ q => XT.lloadN k.1.here k.2.1 rfl (hb k.2.2.2.2.2.1 hd) hl q) g
theorem s_lstoreN (k : K p l e R s m args below meth c bytes own maxL ret nm T locs cells slots Z h n0) {i : Fin 4} {x : Int64} {l' : Array Slot} (hd : decode bytes pc = .ok (.lstore_n i, 1)) (hl : storeLocals Ls i.val (.long x) = some l') (hp : pc + 1 = pc') (g : Go p e below P T (mkF m pc' l' st)) : Go p e below P T (mkF m pc Ls (.long x :: st)) := by
  subst hp
  exact Go.to (fun _ q => XT.lstoreN k.1.here k.2.1 rfl (hb k.2.2.2.2.2.1 hd) rfl hl q) g
theorem s_lload (k : K p l e R s m args below meth c bytes own maxL ret nm T locs cells slots Z h n0) {i : Nat} {v : Int64} (hd : decode bytes pc = .ok (.lload i, 2)) (hl : Ls[i]? = some (.val (.long v))) (hp : pc + 2 = pc') (g : Go p e below P T (mkF m pc' Ls (.long v :: st))) : Go p e below P T (mkF m pc Ls st) := by
  subst hp
  exact Go.to (fun _ q => XT.lload k.1.here k.2.1 rfl (hb k.2.2.2.2.2.1 hd) hl q) g
theorem s_lstore (k : K p l e R s m args below meth c bytes own maxL ret nm T locs cells slots Z h n0) {i : Nat} {x : Int64} {l' : Array Slot} (hd : decode bytes pc = .ok (.lstore i, 2)) (hl : storeLocals Ls i (.long x) = some l') (hp : pc + 2 = pc') (g : Go p e below P T (mkF m pc' l' st)) : Go p e below P T (mkF m pc Ls (.long x :: st)) := by
  subst hp
  exact Go.to (fun _ q => XT.lstore k.1.here k.2.1 rfl (hb k.2.2.2.2.2.1 hd) rfl hl q) g
theorem s_aloadN (k : K p l e R s m args below meth c bytes own maxL ret nm T locs cells slots Z h n0) {i : Fin 4} {v : Value} (hd : decode bytes pc = .ok (.aload_n i, 1)) (hl : Ls[i.val]? = some (.val v)) (hv : v.isRef = true) (hp : pc + 1 = pc') (g : Go p e below P T (mkF m pc' Ls (v :: st))) : Go p e below P T (mkF m pc Ls st) := by
  subst hp
  exact Go.to (fun _ q => XS.aloadN k.1.here k.2.1 rfl (hb k.2.2.2.2.2.1 hd) hl hv q) g
theorem s_astoreN (k : K p l e R s m args below meth c bytes own maxL ret nm T locs cells slots Z h n0) {i : Fin 4} {x : Value} {l' : Array Slot} (hd : decode bytes pc = .ok (.astore_n i, 1)) (hv : x.isRef = true) (hl : storeLocals Ls i.val x = some l') (hp : pc + 1 = pc') (g : Go p e below P T (mkF m pc' l' st)) : Go p e below P T (mkF m pc Ls (x :: st)) := by
  subst hp
  exact Go.to (fun _ q => XS.astoreN k.1.here k.2.1 rfl (hb k.2.2.2.2.2.1 hd) rfl hv hl q) g
theorem s_aload (k : K p l e R s m args below meth c bytes own maxL ret nm T locs cells slots Z h n0) {i : Nat} {v : Value} (hd : decode bytes pc = .ok (.aload i, 2)) (hl : Ls[i]? = some (.val v)) (hv : v.isRef = true) (hp : pc + 2 = pc') (g : Go p e below P T (mkF m pc' Ls (v :: st))) : Go p e below P T (mkF m pc Ls st) := by
  subst hp
  exact Go.to (fun _ q => XS.aload k.1.here k.2.1 rfl (hb k.2.2.2.2.2.1 hd) hl hv q) g
theorem s_astore (k : K p l e R s m args below meth c bytes own maxL ret nm T locs cells slots Z h n0) {i : Nat} {x : Value} {l' : Array Slot} (hd : decode bytes pc = .ok (.astore i, 2)) (hv : x.isRef = true) (hl : storeLocals Ls i x = some l') (hp : pc + 2 = pc') (g : Go p e below P T (mkF m pc' l' st)) : Go p e below P T (mkF m pc Ls (x :: st)) := by
  subst hp
  exact Go.to (fun _ q => XS.astore k.1.here k.2.1 rfl (hb k.2.2.2.2.2.1 hd) rfl hv hl q) g
theorem s_iconst (k : K p l e R s m args below meth c bytes own maxL ret nm T locs cells slots Z h n0) {i : Int} {z : Int32} (hd : decode bytes pc = .ok (.iconst i, 1)) (hz : Int32.ofInt i = z) (hp : pc + 1 = pc') (g : Go p e below P T (mkF m pc' Ls (.int z :: st))) : Go p e below P T (mkF m pc Ls st) := by
  subst hp hz
  exact Go.to (fun _ q => XS.iconst k.1.here k.2.1 rfl (hb k.2.2.2.2.2.1 hd) q) g
theorem s_bipush (k : K p l e R s m args below meth c bytes own maxL ret nm T locs cells slots Z h n0) {i : Int} {z : Int32} (hd : decode bytes pc = .ok (.bipush i, 2)) (hz : (Int8.ofInt i).toInt32 = z) (hp : pc + 2 = pc') (g : Go p e below P T (mkF m pc' Ls (.int z :: st))) : Go p e below P T (mkF m pc Ls st) := by
  subst hp hz
  exact Go.to (fun _ q => XS.bipush k.1.here k.2.1 rfl (hb k.2.2.2.2.2.1 hd) q) g
theorem s_sipush (k : K p l e R s m args below meth c bytes own maxL ret nm T locs cells slots Z h n0) {i : Int} {z : Int32} (hd : decode bytes pc = .ok (.sipush i, 3)) (hz : (Int16.ofInt i).toInt32 = z) (hp : pc + 3 = pc') (g : Go p e below P T (mkF m pc' Ls (.int z :: st))) : Go p e below P T (mkF m pc Ls st) := by
  subst hp hz
  exact Go.to (fun _ q => XS.sipush k.1.here k.2.1 rfl (hb k.2.2.2.2.2.1 hd) q) g
theorem s_lconst (k : K p l e R s m args below meth c bytes own maxL ret nm T locs cells slots Z h n0) {i : Fin 2} {z : Int64} (hd : decode bytes pc = .ok (.lconst i, 1)) (hz : Int64.ofNat i = z) (hp : pc + 1 = pc') (g : Go p e below P T (mkF m pc' Ls (.long z :: st))) : Go p e below P T (mkF m pc Ls st) := by
  subst hp hz
  exact Go.to (fun _ q => XT.lconst k.1.here k.2.1 rfl (hb k.2.2.2.2.2.1 hd) q) g
theorem s_null (k : K p l e R s m args below meth c bytes own maxL ret nm T locs cells slots Z h n0)  (hd : decode bytes pc = .ok (.aconst_null, 1))  (hp : pc + 1 = pc') (g : Go p e below P T (mkF m pc' Ls (.null :: st))) : Go p e below P T (mkF m pc Ls st) := by
  subst hp
  exact Go.to (fun _ q => XS.aconstNull k.1.here k.2.1 rfl (hb k.2.2.2.2.2.1 hd)  q) g
theorem s_iadd (k : K p l e R s m args below meth c bytes own maxL ret nm T locs cells slots Z h n0) {x y : Int32} {z : Int32} (hd : decode bytes pc = .ok (.iadd, 1))  (hz : x + y = z) (hp : pc + 1 = pc') (g : Go p e below P T (mkF m pc' Ls (.int z :: st))) : Go p e below P T (mkF m pc Ls (.int y :: .int x :: st)) := by
  subst hp hz
  exact Go.to (fun _ q => XS.iadd k.1.here k.2.1 rfl (hb k.2.2.2.2.2.1 hd) rfl q) g
theorem s_ladd (k : K p l e R s m args below meth c bytes own maxL ret nm T locs cells slots Z h n0) {x y : Int64} {z : Int64} (hd : decode bytes pc = .ok (.ladd, 1))  (hz : x + y = z) (hp : pc + 1 = pc') (g : Go p e below P T (mkF m pc' Ls (.long z :: st))) : Go p e below P T (mkF m pc Ls (.long y :: .long x :: st)) := by
  subst hp hz
  exact Go.to (fun _ q => XT.ladd k.1.here k.2.1 rfl (hb k.2.2.2.2.2.1 hd) rfl q) g
theorem s_isub (k : K p l e R s m args below meth c bytes own maxL ret nm T locs cells slots Z h n0) {x y : Int32} {z : Int32} (hd : decode bytes pc = .ok (.isub, 1))  (hz : x - y = z) (hp : pc + 1 = pc') (g : Go p e below P T (mkF m pc' Ls (.int z :: st))) : Go p e below P T (mkF m pc Ls (.int y :: .int x :: st)) := by
  subst hp hz
  exact Go.to (fun _ q => XS.isub k.1.here k.2.1 rfl (hb k.2.2.2.2.2.1 hd) rfl q) g
theorem s_lsub (k : K p l e R s m args below meth c bytes own maxL ret nm T locs cells slots Z h n0) {x y : Int64} {z : Int64} (hd : decode bytes pc = .ok (.lsub, 1))  (hz : x - y = z) (hp : pc + 1 = pc') (g : Go p e below P T (mkF m pc' Ls (.long z :: st))) : Go p e below P T (mkF m pc Ls (.long y :: .long x :: st)) := by
  subst hp hz
  exact Go.to (fun _ q => XT.lsub k.1.here k.2.1 rfl (hb k.2.2.2.2.2.1 hd) rfl q) g
theorem s_imul (k : K p l e R s m args below meth c bytes own maxL ret nm T locs cells slots Z h n0) {x y : Int32} {z : Int32} (hd : decode bytes pc = .ok (.imul, 1))  (hz : x * y = z) (hp : pc + 1 = pc') (g : Go p e below P T (mkF m pc' Ls (.int z :: st))) : Go p e below P T (mkF m pc Ls (.int y :: .int x :: st)) := by
  subst hp hz
  exact Go.to (fun _ q => XS.imul k.1.here k.2.1 rfl (hb k.2.2.2.2.2.1 hd) rfl q) g
theorem s_lmul (k : K p l e R s m args below meth c bytes own maxL ret nm T locs cells slots Z h n0) {x y : Int64} {z : Int64} (hd : decode bytes pc = .ok (.lmul, 1))  (hz : x * y = z) (hp : pc + 1 = pc') (g : Go p e below P T (mkF m pc' Ls (.long z :: st))) : Go p e below P T (mkF m pc Ls (.long y :: .long x :: st)) := by
  subst hp hz
  exact Go.to (fun _ q => XT.lmul k.1.here k.2.1 rfl (hb k.2.2.2.2.2.1 hd) rfl q) g
theorem s_iand (k : K p l e R s m args below meth c bytes own maxL ret nm T locs cells slots Z h n0) {x y : Int32} {z : Int32} (hd : decode bytes pc = .ok (.iand, 1))  (hz : x &&& y = z) (hp : pc + 1 = pc') (g : Go p e below P T (mkF m pc' Ls (.int z :: st))) : Go p e below P T (mkF m pc Ls (.int y :: .int x :: st)) := by
  subst hp hz
  exact Go.to (fun _ q => XS.iand k.1.here k.2.1 rfl (hb k.2.2.2.2.2.1 hd) rfl q) g
theorem s_land (k : K p l e R s m args below meth c bytes own maxL ret nm T locs cells slots Z h n0) {x y : Int64} {z : Int64} (hd : decode bytes pc = .ok (.land, 1))  (hz : x &&& y = z) (hp : pc + 1 = pc') (g : Go p e below P T (mkF m pc' Ls (.long z :: st))) : Go p e below P T (mkF m pc Ls (.long y :: .long x :: st)) := by
  subst hp hz
  exact Go.to (fun _ q => XT.land k.1.here k.2.1 rfl (hb k.2.2.2.2.2.1 hd) rfl q) g
theorem s_ior (k : K p l e R s m args below meth c bytes own maxL ret nm T locs cells slots Z h n0) {x y : Int32} {z : Int32} (hd : decode bytes pc = .ok (.ior, 1))  (hz : x ||| y = z) (hp : pc + 1 = pc') (g : Go p e below P T (mkF m pc' Ls (.int z :: st))) : Go p e below P T (mkF m pc Ls (.int y :: .int x :: st)) := by
  subst hp hz
  exact Go.to (fun _ q => XT.ior k.1.here k.2.1 rfl (hb k.2.2.2.2.2.1 hd) rfl q) g
theorem s_lor (k : K p l e R s m args below meth c bytes own maxL ret nm T locs cells slots Z h n0) {x y : Int64} {z : Int64} (hd : decode bytes pc = .ok (.lor, 1))  (hz : x ||| y = z) (hp : pc + 1 = pc') (g : Go p e below P T (mkF m pc' Ls (.long z :: st))) : Go p e below P T (mkF m pc Ls (.long y :: .long x :: st)) := by
  subst hp hz
  exact Go.to (fun _ q => XT.lor k.1.here k.2.1 rfl (hb k.2.2.2.2.2.1 hd) rfl q) g
theorem s_ixor (k : K p l e R s m args below meth c bytes own maxL ret nm T locs cells slots Z h n0) {x y : Int32} {z : Int32} (hd : decode bytes pc = .ok (.ixor, 1))  (hz : x ^^^ y = z) (hp : pc + 1 = pc') (g : Go p e below P T (mkF m pc' Ls (.int z :: st))) : Go p e below P T (mkF m pc Ls (.int y :: .int x :: st)) := by
  subst hp hz
  exact Go.to (fun _ q => XT.ixor k.1.here k.2.1 rfl (hb k.2.2.2.2.2.1 hd) rfl q) g
theorem s_lxor (k : K p l e R s m args below meth c bytes own maxL ret nm T locs cells slots Z h n0) {x y : Int64} {z : Int64} (hd : decode bytes pc = .ok (.lxor, 1))  (hz : x ^^^ y = z) (hp : pc + 1 = pc') (g : Go p e below P T (mkF m pc' Ls (.long z :: st))) : Go p e below P T (mkF m pc Ls (.long y :: .long x :: st)) := by
  subst hp hz
  exact Go.to (fun _ q => XT.lxor k.1.here k.2.1 rfl (hb k.2.2.2.2.2.1 hd) rfl q) g
theorem s_iushr (k : K p l e R s m args below meth c bytes own maxL ret nm T locs cells slots Z h n0) {x y : Int32} {z : Int32} (hd : decode bytes pc = .ok (.iushr, 1))  (hz : XT.ushr x y = z) (hp : pc + 1 = pc') (g : Go p e below P T (mkF m pc' Ls (.int z :: st))) : Go p e below P T (mkF m pc Ls (.int y :: .int x :: st)) := by
  subst hp hz
  exact Go.to (fun _ q => XT.iushr k.1.here k.2.1 rfl (hb k.2.2.2.2.2.1 hd) rfl q) g
theorem s_ishr (k : K p l e R s m args below meth c bytes own maxL ret nm T locs cells slots Z h n0) {x y : Int32} {z : Int32} (hd : decode bytes pc = .ok (.ishr, 1))  (hz : x >>> (y &&& 31) = z) (hp : pc + 1 = pc') (g : Go p e below P T (mkF m pc' Ls (.int z :: st))) : Go p e below P T (mkF m pc Ls (.int y :: .int x :: st)) := by
  subst hp hz
  exact Go.to (fun _ q => XT.ishr k.1.here k.2.1 rfl (hb k.2.2.2.2.2.1 hd) rfl q) g
theorem s_ishl (k : K p l e R s m args below meth c bytes own maxL ret nm T locs cells slots Z h n0) {x y : Int32} {z : Int32} (hd : decode bytes pc = .ok (.ishl, 1))  (hz : x <<< (y &&& 31) = z) (hp : pc + 1 = pc') (g : Go p e below P T (mkF m pc' Ls (.int z :: st))) : Go p e below P T (mkF m pc Ls (.int y :: .int x :: st)) := by
  subst hp hz
  exact Go.to (fun _ q => XT.ishl k.1.here k.2.1 rfl (hb k.2.2.2.2.2.1 hd) rfl q) g
theorem s_lushr (k : K p l e R s m args below meth c bytes own maxL ret nm T locs cells slots Z h n0) {x : Int64} {y : Int32} {z : Int64} (hd : decode bytes pc = .ok (.lushr, 1))  (hz : XT.ushrL x y = z) (hp : pc + 1 = pc') (g : Go p e below P T (mkF m pc' Ls (.long z :: st))) : Go p e below P T (mkF m pc Ls (.int y :: .long x :: st)) := by
  subst hp hz
  exact Go.to (fun _ q => XT.lushr k.1.here k.2.1 rfl (hb k.2.2.2.2.2.1 hd) rfl q) g
theorem s_lshl (k : K p l e R s m args below meth c bytes own maxL ret nm T locs cells slots Z h n0) {x : Int64} {y : Int32} {z : Int64} (hd : decode bytes pc = .ok (.lshl, 1))  (hz : x <<< (y.toInt64 &&& 63) = z) (hp : pc + 1 = pc') (g : Go p e below P T (mkF m pc' Ls (.long z :: st))) : Go p e below P T (mkF m pc Ls (.int y :: .long x :: st)) := by
  subst hp hz
  exact Go.to (fun _ q => XT.lshl k.1.here k.2.1 rfl (hb k.2.2.2.2.2.1 hd) rfl q) g
theorem s_lshr (k : K p l e R s m args below meth c bytes own maxL ret nm T locs cells slots Z h n0) {x : Int64} {y : Int32} {z : Int64} (hd : decode bytes pc = .ok (.lshr, 1))  (hz : x >>> (y.toInt64 &&& 63) = z) (hp : pc + 1 = pc') (g : Go p e below P T (mkF m pc' Ls (.long z :: st))) : Go p e below P T (mkF m pc Ls (.int y :: .long x :: st)) := by
  subst hp hz
  exact Go.to (fun _ q => XT.lshr k.1.here k.2.1 rfl (hb k.2.2.2.2.2.1 hd) rfl q) g
theorem s_idiv (k : K p l e R s m args below meth c bytes own maxL ret nm T locs cells slots Z h n0) {x y : Int32} {z : Int32} (hd : decode bytes pc = .ok (.idiv, 1)) (hy : y ≠ 0) (hz : x / y = z) (hp : pc + 1 = pc') (g : Go p e below P T (mkF m pc' Ls (.int z :: st))) : Go p e below P T (mkF m pc Ls (.int y :: .int x :: st)) := by
  subst hp hz
  exact Go.to (fun _ q => XS.idiv k.1.here k.2.1 rfl (hb k.2.2.2.2.2.1 hd) rfl hy q) g
theorem s_ldiv (k : K p l e R s m args below meth c bytes own maxL ret nm T locs cells slots Z h n0) {x y : Int64} {z : Int64} (hd : decode bytes pc = .ok (.ldiv, 1)) (hy : y ≠ 0) (hz : x / y = z) (hp : pc + 1 = pc') (g : Go p e below P T (mkF m pc' Ls (.long z :: st))) : Go p e below P T (mkF m pc Ls (.long y :: .long x :: st)) := by
  subst hp hz
  exact Go.to (fun _ q => XT.ldiv k.1.here k.2.1 rfl (hb k.2.2.2.2.2.1 hd) rfl hy q) g
theorem s_irem (k : K p l e R s m args below meth c bytes own maxL ret nm T locs cells slots Z h n0) {x y : Int32} {z : Int32} (hd : decode bytes pc = .ok (.irem, 1)) (hy : y ≠ 0) (hz : x % y = z) (hp : pc + 1 = pc') (g : Go p e below P T (mkF m pc' Ls (.int z :: st))) : Go p e below P T (mkF m pc Ls (.int y :: .int x :: st)) := by
  subst hp hz
  exact Go.to (fun _ q => iremM k.1 k.2.1 rfl (hb k.2.2.2.2.2.1 hd) rfl hy q) g
theorem s_lrem (k : K p l e R s m args below meth c bytes own maxL ret nm T locs cells slots Z h n0) {x y : Int64} {z : Int64} (hd : decode bytes pc = .ok (.lrem, 1)) (hy : y ≠ 0) (hz : x - x / y * y = z) (hp : pc + 1 = pc') (g : Go p e below P T (mkF m pc' Ls (.long z :: st))) : Go p e below P T (mkF m pc Ls (.long y :: .long x :: st)) := by
  subst hp hz
  exact Go.to (fun _ q => XT.lrem k.1.here k.2.1 rfl (hb k.2.2.2.2.2.1 hd) rfl hy q) g
theorem s_lneg (k : K p l e R s m args below meth c bytes own maxL ret nm T locs cells slots Z h n0) {x : Int64} {z : Int64} (hd : decode bytes pc = .ok (.lneg, 1))  (hz : -x = z) (hp : pc + 1 = pc') (g : Go p e below P T (mkF m pc' Ls (.long z :: st))) : Go p e below P T (mkF m pc Ls (.long x :: st)) := by
  subst hp hz
  exact Go.to (fun _ q => XT.lneg k.1.here k.2.1 rfl (hb k.2.2.2.2.2.1 hd) rfl q) g
theorem s_ineg (k : K p l e R s m args below meth c bytes own maxL ret nm T locs cells slots Z h n0) {x : Int32} {z : Int32} (hd : decode bytes pc = .ok (.ineg, 1))  (hz : -x = z) (hp : pc + 1 = pc') (g : Go p e below P T (mkF m pc' Ls (.int z :: st))) : Go p e below P T (mkF m pc Ls (.int x :: st)) := by
  subst hp hz
  exact Go.to (fun _ q => XS.ineg k.1.here k.2.1 rfl (hb k.2.2.2.2.2.1 hd) rfl q) g
theorem s_i2l (k : K p l e R s m args below meth c bytes own maxL ret nm T locs cells slots Z h n0) {x : Int32} {z : Int64} (hd : decode bytes pc = .ok (.i2l, 1))  (hz : x.toInt64 = z) (hp : pc + 1 = pc') (g : Go p e below P T (mkF m pc' Ls (.long z :: st))) : Go p e below P T (mkF m pc Ls (.int x :: st)) := by
  subst hp hz
  exact Go.to (fun _ q => XT.i2l k.1.here k.2.1 rfl (hb k.2.2.2.2.2.1 hd) rfl q) g
theorem s_l2i (k : K p l e R s m args below meth c bytes own maxL ret nm T locs cells slots Z h n0) {x : Int64} {z : Int32} (hd : decode bytes pc = .ok (.l2i, 1))  (hz : x.toInt32 = z) (hp : pc + 1 = pc') (g : Go p e below P T (mkF m pc' Ls (.int z :: st))) : Go p e below P T (mkF m pc Ls (.long x :: st)) := by
  subst hp hz
  exact Go.to (fun _ q => XT.l2i k.1.here k.2.1 rfl (hb k.2.2.2.2.2.1 hd) rfl q) g
theorem s_i2b (k : K p l e R s m args below meth c bytes own maxL ret nm T locs cells slots Z h n0) {x : Int32} {z : Int32} (hd : decode bytes pc = .ok (.i2b, 1))  (hz : x.toInt8.toInt32 = z) (hp : pc + 1 = pc') (g : Go p e below P T (mkF m pc' Ls (.int z :: st))) : Go p e below P T (mkF m pc Ls (.int x :: st)) := by
  subst hp hz
  exact Go.to (fun _ q => XT.i2b k.1.here k.2.1 rfl (hb k.2.2.2.2.2.1 hd) rfl q) g
theorem s_i2c (k : K p l e R s m args below meth c bytes own maxL ret nm T locs cells slots Z h n0) {x : Int32} {z : Int32} (hd : decode bytes pc = .ok (.i2c, 1))  (hz : x.toUInt32.toUInt16.toUInt32.toInt32 = z) (hp : pc + 1 = pc') (g : Go p e below P T (mkF m pc' Ls (.int z :: st))) : Go p e below P T (mkF m pc Ls (.int x :: st)) := by
  subst hp hz
  exact Go.to (fun _ q => XT.i2c k.1.here k.2.1 rfl (hb k.2.2.2.2.2.1 hd) rfl q) g
theorem s_dup (k : K p l e R s m args below meth c bytes own maxL ret nm T locs cells slots Z h n0) {x : Value} (hd : decode bytes pc = .ok (.dup, 1)) (hc : x.category = 1) (hp : pc + 1 = pc') (g : Go p e below P T (mkF m pc' Ls (x :: x :: st))) : Go p e below P T (mkF m pc Ls (x :: st)) := by
  subst hp
  exact Go.to (fun _ q => XS.dup k.1.here k.2.1 rfl (hb k.2.2.2.2.2.1 hd) rfl hc q) g
theorem s_pop (k : K p l e R s m args below meth c bytes own maxL ret nm T locs cells slots Z h n0) {x : Value} (hd : decode bytes pc = .ok (.pop, 1)) (hc : x.category = 1) (hp : pc + 1 = pc') (g : Go p e below P T (mkF m pc' Ls st)) : Go p e below P T (mkF m pc Ls (x :: st)) := by
  subst hp
  exact Go.to (fun _ q => XT.pop k.1.here k.2.1 rfl (hb k.2.2.2.2.2.1 hd) rfl hc q) g
theorem s_dupx1 (k : K p l e R s m args below meth c bytes own maxL ret nm T locs cells slots Z h n0) {x y : Value} (hd : decode bytes pc = .ok (.dup_x1, 1)) (hc : x.category = 1) (hc' : y.category = 1) (hp : pc + 1 = pc') (g : Go p e below P T (mkF m pc' Ls (x :: y :: x :: st))) : Go p e below P T (mkF m pc Ls (x :: y :: st)) := by
  subst hp
  exact Go.to (fun _ q => XT.dupX1 k.1.here k.2.1 rfl (hb k.2.2.2.2.2.1 hd) rfl hc hc' q) g
theorem s_dup2 (k : K p l e R s m args below meth c bytes own maxL ret nm T locs cells slots Z h n0) {x y : Value} (hd : decode bytes pc = .ok (.dup2, 1)) (hc : x.category = 1) (hc' : y.category = 1) (hp : pc + 1 = pc') (g : Go p e below P T (mkF m pc' Ls (x :: y :: x :: y :: st))) : Go p e below P T (mkF m pc Ls (x :: y :: st)) := by
  subst hp
  exact Go.to (fun _ q => XT.dup2 k.1.here k.2.1 rfl (hb k.2.2.2.2.2.1 hd) rfl hc hc' q) g
theorem s_iinc (k : K p l e R s m args below meth c bytes own maxL ret nm T locs cells slots Z h n0) {i : Nat} {d : Int} {x z : Int32} {l' : Array Slot} (hd : decode bytes pc = .ok (.iinc i d, 3)) (hl : Ls[i]? = some (.val (.int x))) (hz : x + Int32.ofInt d = z) (hl' : storeLocals Ls i (.int z) = some l') (hp : pc + 3 = pc') (g : Go p e below P T (mkF m pc' l' st)) : Go p e below P T (mkF m pc Ls st) := by
  subst hp
  exact Go.to (fun _ q => XS.iinc k.1.here k.2.1 rfl (hb k.2.2.2.2.2.1 hd) hl (hz ▸ hl') q) g
theorem s_goto (k : K p l e R s m args below meth c bytes own maxL ret nm T locs cells slots Z h n0) {o : Int} (hd : decode bytes pc = .ok (.goto o, 3)) (ho : 0 ≤ (pc : Int) + o) (hp : ((pc : Int) + o).toNat = pc') (g : Go p e below P T (mkF m pc' Ls st)) : Go p e below P T (mkF m pc Ls st) :=
  Go.to (fun _ q => XS.goto k.1.here k.2.1 rfl rfl (hb k.2.2.2.2.2.1 hd) ho hp q) g
theorem s_icmp_eq (k : K p l e R s m args below meth c bytes own maxL ret nm T locs cells slots Z h n0) {x y : Int32} {o : Int} (hd : decode bytes pc = .ok (.if_icmp .eq o, 3)) (ho : 0 ≤ (pc : Int) + o) (hp : ((pc : Int) + o).toNat = pc') (h3 : pc + 3 = pc3) (gt : x = y → Go p e below P T (mkF m pc' Ls st)) (gf : ¬ (x = y) → Go p e below P T (mkF m pc3 Ls st)) : Go p e below P T (mkF m pc Ls (.int y :: .int x :: st)) := by
  subst h3
  by_cases hc : x = y
  · exact Go.to (fun _ q => XS.icmpYes k.1.here k.2.1 rfl rfl (hb k.2.2.2.2.2.1 hd) rfl (teq hc).1 ho hp q) (gt hc)
  · exact Go.to (fun _ q => XS.icmpNo k.1.here k.2.1 rfl (hb k.2.2.2.2.2.1 hd) rfl (feq hc).1 q) (gf hc)
theorem s_if_eq (k : K p l e R s m args below meth c bytes own maxL ret nm T locs cells slots Z h n0) {x : Int32} {o : Int} (hd : decode bytes pc = .ok (.ifCond .eq o, 3)) (ho : 0 ≤ (pc : Int) + o) (hp : ((pc : Int) + o).toNat = pc') (h3 : pc + 3 = pc3) (gt : x = 0 → Go p e below P T (mkF m pc' Ls st)) (gf : ¬ (x = 0) → Go p e below P T (mkF m pc3 Ls st)) : Go p e below P T (mkF m pc Ls (.int x :: st)) := by
  subst h3
  by_cases hc : x = 0
  · exact Go.to (fun _ q => XS.ifYes k.1.here k.2.1 rfl rfl (hb k.2.2.2.2.2.1 hd) rfl ((if0 _ _).trans (teq hc).1) ho hp q) (gt hc)
  · exact Go.to (fun _ q => XS.ifNo k.1.here k.2.1 rfl (hb k.2.2.2.2.2.1 hd) rfl ((if0 _ _).trans (feq hc).1) q) (gf hc)
theorem s_icmp_ne (k : K p l e R s m args below meth c bytes own maxL ret nm T locs cells slots Z h n0) {x y : Int32} {o : Int} (hd : decode bytes pc = .ok (.if_icmp .ne o, 3)) (ho : 0 ≤ (pc : Int) + o) (hp : ((pc : Int) + o).toNat = pc') (h3 : pc + 3 = pc3) (gt : x = y → Go p e below P T (mkF m pc3 Ls st)) (gf : ¬ (x = y) → Go p e below P T (mkF m pc' Ls st)) : Go p e below P T (mkF m pc Ls (.int y :: .int x :: st)) := by
  subst h3
  by_cases hc : x = y
  · exact Go.to (fun _ q => XS.icmpNo k.1.here k.2.1 rfl (hb k.2.2.2.2.2.1 hd) rfl (teq hc).2 q) (gt hc)
  · exact Go.to (fun _ q => XS.icmpYes k.1.here k.2.1 rfl rfl (hb k.2.2.2.2.2.1 hd) rfl (feq hc).2 ho hp q) (gf hc)
theorem s_if_ne (k : K p l e R s m args below meth c bytes own maxL ret nm T locs cells slots Z h n0) {x : Int32} {o : Int} (hd : decode bytes pc = .ok (.ifCond .ne o, 3)) (ho : 0 ≤ (pc : Int) + o) (hp : ((pc : Int) + o).toNat = pc') (h3 : pc + 3 = pc3) (gt : x = 0 → Go p e below P T (mkF m pc3 Ls st)) (gf : ¬ (x = 0) → Go p e below P T (mkF m pc' Ls st)) : Go p e below P T (mkF m pc Ls (.int x :: st)) := by
  subst h3
  by_cases hc : x = 0
  · exact Go.to (fun _ q => XS.ifNo k.1.here k.2.1 rfl (hb k.2.2.2.2.2.1 hd) rfl ((if0 _ _).trans (teq hc).2) q) (gt hc)
  · exact Go.to (fun _ q => XS.ifYes k.1.here k.2.1 rfl rfl (hb k.2.2.2.2.2.1 hd) rfl ((if0 _ _).trans (feq hc).2) ho hp q) (gf hc)
theorem s_icmp_lt (k : K p l e R s m args below meth c bytes own maxL ret nm T locs cells slots Z h n0) {x y : Int32} {o : Int} (hd : decode bytes pc = .ok (.if_icmp .lt o, 3)) (ho : 0 ≤ (pc : Int) + o) (hp : ((pc : Int) + o).toNat = pc') (h3 : pc + 3 = pc3) (gt : x < y → Go p e below P T (mkF m pc' Ls st)) (gf : ¬ (x < y) → Go p e below P T (mkF m pc3 Ls st)) : Go p e below P T (mkF m pc Ls (.int y :: .int x :: st)) := by
  subst h3
  by_cases hc : x < y
  · exact Go.to (fun _ q => XS.icmpYes k.1.here k.2.1 rfl rfl (hb k.2.2.2.2.2.1 hd) rfl (tlt hc).1 ho hp q) (gt hc)
  · exact Go.to (fun _ q => XS.icmpNo k.1.here k.2.1 rfl (hb k.2.2.2.2.2.1 hd) rfl (flt hc).1 q) (gf hc)
theorem s_if_lt (k : K p l e R s m args below meth c bytes own maxL ret nm T locs cells slots Z h n0) {x : Int32} {o : Int} (hd : decode bytes pc = .ok (.ifCond .lt o, 3)) (ho : 0 ≤ (pc : Int) + o) (hp : ((pc : Int) + o).toNat = pc') (h3 : pc + 3 = pc3) (gt : x < 0 → Go p e below P T (mkF m pc' Ls st)) (gf : ¬ (x < 0) → Go p e below P T (mkF m pc3 Ls st)) : Go p e below P T (mkF m pc Ls (.int x :: st)) := by
  subst h3
  by_cases hc : x < 0
  · exact Go.to (fun _ q => XS.ifYes k.1.here k.2.1 rfl rfl (hb k.2.2.2.2.2.1 hd) rfl ((if0 _ _).trans (tlt hc).1) ho hp q) (gt hc)
  · exact Go.to (fun _ q => XS.ifNo k.1.here k.2.1 rfl (hb k.2.2.2.2.2.1 hd) rfl ((if0 _ _).trans (flt hc).1) q) (gf hc)
theorem s_icmp_ge (k : K p l e R s m args below meth c bytes own maxL ret nm T locs cells slots Z h n0) {x y : Int32} {o : Int} (hd : decode bytes pc = .ok (.if_icmp .ge o, 3)) (ho : 0 ≤ (pc : Int) + o) (hp : ((pc : Int) + o).toNat = pc') (h3 : pc + 3 = pc3) (gt : x < y → Go p e below P T (mkF m pc3 Ls st)) (gf : ¬ (x < y) → Go p e below P T (mkF m pc' Ls st)) : Go p e below P T (mkF m pc Ls (.int y :: .int x :: st)) := by
  subst h3
  by_cases hc : x < y
  · exact Go.to (fun _ q => XS.icmpNo k.1.here k.2.1 rfl (hb k.2.2.2.2.2.1 hd) rfl (tlt hc).2.1 q) (gt hc)
  · exact Go.to (fun _ q => XS.icmpYes k.1.here k.2.1 rfl rfl (hb k.2.2.2.2.2.1 hd) rfl (flt hc).2.1 ho hp q) (gf hc)
theorem s_if_ge (k : K p l e R s m args below meth c bytes own maxL ret nm T locs cells slots Z h n0) {x : Int32} {o : Int} (hd : decode bytes pc = .ok (.ifCond .ge o, 3)) (ho : 0 ≤ (pc : Int) + o) (hp : ((pc : Int) + o).toNat = pc') (h3 : pc + 3 = pc3) (gt : x < 0 → Go p e below P T (mkF m pc3 Ls st)) (gf : ¬ (x < 0) → Go p e below P T (mkF m pc' Ls st)) : Go p e below P T (mkF m pc Ls (.int x :: st)) := by
  subst h3
  by_cases hc : x < 0
  · exact Go.to (fun _ q => XS.ifNo k.1.here k.2.1 rfl (hb k.2.2.2.2.2.1 hd) rfl ((if0 _ _).trans (tlt hc).2.1) q) (gt hc)
  · exact Go.to (fun _ q => XS.ifYes k.1.here k.2.1 rfl rfl (hb k.2.2.2.2.2.1 hd) rfl ((if0 _ _).trans (flt hc).2.1) ho hp q) (gf hc)
theorem s_icmp_gt (k : K p l e R s m args below meth c bytes own maxL ret nm T locs cells slots Z h n0) {x y : Int32} {o : Int} (hd : decode bytes pc = .ok (.if_icmp .gt o, 3)) (ho : 0 ≤ (pc : Int) + o) (hp : ((pc : Int) + o).toNat = pc') (h3 : pc + 3 = pc3) (gt : y < x → Go p e below P T (mkF m pc' Ls st)) (gf : ¬ (y < x) → Go p e below P T (mkF m pc3 Ls st)) : Go p e below P T (mkF m pc Ls (.int y :: .int x :: st)) := by
  subst h3
  by_cases hc : y < x
  · exact Go.to (fun _ q => XS.icmpYes k.1.here k.2.1 rfl rfl (hb k.2.2.2.2.2.1 hd) rfl (tlt hc).2.2.1 ho hp q) (gt hc)
  · exact Go.to (fun _ q => XS.icmpNo k.1.here k.2.1 rfl (hb k.2.2.2.2.2.1 hd) rfl (flt hc).2.2.1 q) (gf hc)
theorem s_if_gt (k : K p l e R s m args below meth c bytes own maxL ret nm T locs cells slots Z h n0) {x : Int32} {o : Int} (hd : decode bytes pc = .ok (.ifCond .gt o, 3)) (ho : 0 ≤ (pc : Int) + o) (hp : ((pc : Int) + o).toNat = pc') (h3 : pc + 3 = pc3) (gt : 0 < x → Go p e below P T (mkF m pc' Ls st)) (gf : ¬ (0 < x) → Go p e below P T (mkF m pc3 Ls st)) : Go p e below P T (mkF m pc Ls (.int x :: st)) := by
  subst h3
  by_cases hc : 0 < x
  · exact Go.to (fun _ q => XS.ifYes k.1.here k.2.1 rfl rfl (hb k.2.2.2.2.2.1 hd) rfl ((if0 _ _).trans (tlt hc).2.2.1) ho hp q) (gt hc)
  · exact Go.to (fun _ q => XS.ifNo k.1.here k.2.1 rfl (hb k.2.2.2.2.2.1 hd) rfl ((if0 _ _).trans (flt hc).2.2.1) q) (gf hc)
theorem s_icmp_le (k : K p l e R s m args below meth c bytes own maxL ret nm T locs cells slots Z h n0) {x y : Int32} {o : Int} (hd : decode bytes pc = .ok (.if_icmp .le o, 3)) (ho : 0 ≤ (pc : Int) + o) (hp : ((pc : Int) + o).toNat = pc') (h3 : pc + 3 = pc3) (gt : y < x → Go p e below P T (mkF m pc3 Ls st)) (gf : ¬ (y < x) → Go p e below P T (mkF m pc' Ls st)) : Go p e below P T (mkF m pc Ls (.int y :: .int x :: st)) := by
  subst h3
  by_cases hc : y < x
  · exact Go.to (fun _ q => XS.icmpNo k.1.here k.2.1 rfl (hb k.2.2.2.2.2.1 hd) rfl (tlt hc).2.2.2 q) (gt hc)
  · exact Go.to (fun _ q => XS.icmpYes k.1.here k.2.1 rfl rfl (hb k.2.2.2.2.2.1 hd) rfl (flt hc).2.2.2 ho hp q) (gf hc)
theorem s_if_le (k : K p l e R s m args below meth c bytes own maxL ret nm T locs cells slots Z h n0) {x : Int32} {o : Int} (hd : decode bytes pc = .ok (.ifCond .le o, 3)) (ho : 0 ≤ (pc : Int) + o) (hp : ((pc : Int) + o).toNat = pc') (h3 : pc + 3 = pc3) (gt : 0 < x → Go p e below P T (mkF m pc3 Ls st)) (gf : ¬ (0 < x) → Go p e below P T (mkF m pc' Ls st)) : Go p e below P T (mkF m pc Ls (.int x :: st)) := by
  subst h3
  by_cases hc : 0 < x
  · exact Go.to (fun _ q => XS.ifNo k.1.here k.2.1 rfl (hb k.2.2.2.2.2.1 hd) rfl ((if0 _ _).trans (tlt hc).2.2.2) q) (gt hc)
  · exact Go.to (fun _ q => XS.ifYes k.1.here k.2.1 rfl rfl (hb k.2.2.2.2.2.1 hd) rfl ((if0 _ _).trans (flt hc).2.2.2) ho hp q) (gf hc)
theorem cmpL_lt (x y : Int64) : XT.cmpL x y < 0 ↔ x < y := by unfold XT.cmpL; split <;> (try split) <;> simp_all [Int64.lt_iff_toInt_lt, ← Int64.toInt_inj] <;> omega
theorem cmpL_gt (x y : Int64) : 0 < XT.cmpL x y ↔ y < x := by unfold XT.cmpL; split <;> (try split) <;> simp_all [Int64.lt_iff_toInt_lt, ← Int64.toInt_inj] <;> omega
theorem cmpL_eq (x y : Int64) : XT.cmpL x y = 0 ↔ x = y := by unfold XT.cmpL; split <;> (try split) <;> simp_all [Int64.lt_iff_toInt_lt, ← Int64.toInt_inj] <;> omega
theorem s_lcmp_eq (k : K p l e R s m args below meth c bytes own maxL ret nm T locs cells slots Z h n0) {x y : Int64} {o : Int} {pc1 : Nat} (hd1 : decode bytes pc = .ok (.lcmp, 1)) (h1 : pc + 1 = pc1) (hd : decode bytes pc1 = .ok (.ifCond .eq o, 3)) (ho : 0 ≤ (pc1 : Int) + o) (hp : ((pc1 : Int) + o).toNat = pc') (h3 : pc1 + 3 = pc3) (gt : x = y → Go p e below P T (mkF m pc' Ls st)) (gf : ¬ (x = y) → Go p e below P T (mkF m pc3 Ls st)) : Go p e below P T (mkF m pc Ls (.long y :: .long x :: st)) := by
  subst h1
  refine Go.to (fun _ q => XT.lcmp k.1.here k.2.1 rfl (hb k.2.2.2.2.2.1 hd1) rfl q) ?_
  exact s_if_eq k hd ho hp h3 (fun q => gt ((cmpL_eq x y).mp q)) (fun q => gf fun z => q ((cmpL_eq x y).mpr z))
theorem s_lcmp_ne (k : K p l e R s m args below meth c bytes own maxL ret nm T locs cells slots Z h n0) {x y : Int64} {o : Int} {pc1 : Nat} (hd1 : decode bytes pc = .ok (.lcmp, 1)) (h1 : pc + 1 = pc1) (hd : decode bytes pc1 = .ok (.ifCond .ne o, 3)) (ho : 0 ≤ (pc1 : Int) + o) (hp : ((pc1 : Int) + o).toNat = pc') (h3 : pc1 + 3 = pc3) (gt : x = y → Go p e below P T (mkF m pc3 Ls st)) (gf : ¬ (x = y) → Go p e below P T (mkF m pc' Ls st)) : Go p e below P T (mkF m pc Ls (.long y :: .long x :: st)) := by
  subst h1
  refine Go.to (fun _ q => XT.lcmp k.1.here k.2.1 rfl (hb k.2.2.2.2.2.1 hd1) rfl q) ?_
  exact s_if_ne k hd ho hp h3 (fun q => gt ((cmpL_eq x y).mp q)) (fun q => gf fun z => q ((cmpL_eq x y).mpr z))
theorem s_lcmp_lt (k : K p l e R s m args below meth c bytes own maxL ret nm T locs cells slots Z h n0) {x y : Int64} {o : Int} {pc1 : Nat} (hd1 : decode bytes pc = .ok (.lcmp, 1)) (h1 : pc + 1 = pc1) (hd : decode bytes pc1 = .ok (.ifCond .lt o, 3)) (ho : 0 ≤ (pc1 : Int) + o) (hp : ((pc1 : Int) + o).toNat = pc') (h3 : pc1 + 3 = pc3) (gt : x < y → Go p e below P T (mkF m pc' Ls st)) (gf : ¬ (x < y) → Go p e below P T (mkF m pc3 Ls st)) : Go p e below P T (mkF m pc Ls (.long y :: .long x :: st)) := by
  subst h1
  refine Go.to (fun _ q => XT.lcmp k.1.here k.2.1 rfl (hb k.2.2.2.2.2.1 hd1) rfl q) ?_
  exact s_if_lt k hd ho hp h3 (fun q => gt ((cmpL_lt x y).mp q)) (fun q => gf fun z => q ((cmpL_lt x y).mpr z))
theorem s_lcmp_ge (k : K p l e R s m args below meth c bytes own maxL ret nm T locs cells slots Z h n0) {x y : Int64} {o : Int} {pc1 : Nat} (hd1 : decode bytes pc = .ok (.lcmp, 1)) (h1 : pc + 1 = pc1) (hd : decode bytes pc1 = .ok (.ifCond .ge o, 3)) (ho : 0 ≤ (pc1 : Int) + o) (hp : ((pc1 : Int) + o).toNat = pc') (h3 : pc1 + 3 = pc3) (gt : x < y → Go p e below P T (mkF m pc3 Ls st)) (gf : ¬ (x < y) → Go p e below P T (mkF m pc' Ls st)) : Go p e below P T (mkF m pc Ls (.long y :: .long x :: st)) := by
  subst h1
  refine Go.to (fun _ q => XT.lcmp k.1.here k.2.1 rfl (hb k.2.2.2.2.2.1 hd1) rfl q) ?_
  exact s_if_ge k hd ho hp h3 (fun q => gt ((cmpL_lt x y).mp q)) (fun q => gf fun z => q ((cmpL_lt x y).mpr z))
theorem s_lcmp_gt (k : K p l e R s m args below meth c bytes own maxL ret nm T locs cells slots Z h n0) {x y : Int64} {o : Int} {pc1 : Nat} (hd1 : decode bytes pc = .ok (.lcmp, 1)) (h1 : pc + 1 = pc1) (hd : decode bytes pc1 = .ok (.ifCond .gt o, 3)) (ho : 0 ≤ (pc1 : Int) + o) (hp : ((pc1 : Int) + o).toNat = pc') (h3 : pc1 + 3 = pc3) (gt : y < x → Go p e below P T (mkF m pc' Ls st)) (gf : ¬ (y < x) → Go p e below P T (mkF m pc3 Ls st)) : Go p e below P T (mkF m pc Ls (.long y :: .long x :: st)) := by
  subst h1
  refine Go.to (fun _ q => XT.lcmp k.1.here k.2.1 rfl (hb k.2.2.2.2.2.1 hd1) rfl q) ?_
  exact s_if_gt k hd ho hp h3 (fun q => gt ((cmpL_gt x y).mp q)) (fun q => gf fun z => q ((cmpL_gt x y).mpr z))
theorem s_lcmp_le (k : K p l e R s m args below meth c bytes own maxL ret nm T locs cells slots Z h n0) {x y : Int64} {o : Int} {pc1 : Nat} (hd1 : decode bytes pc = .ok (.lcmp, 1)) (h1 : pc + 1 = pc1) (hd : decode bytes pc1 = .ok (.ifCond .le o, 3)) (ho : 0 ≤ (pc1 : Int) + o) (hp : ((pc1 : Int) + o).toNat = pc') (h3 : pc1 + 3 = pc3) (gt : y < x → Go p e below P T (mkF m pc3 Ls st)) (gf : ¬ (y < x) → Go p e below P T (mkF m pc' Ls st)) : Go p e below P T (mkF m pc Ls (.long y :: .long x :: st)) := by
  subst h1
  refine Go.to (fun _ q => XT.lcmp k.1.here k.2.1 rfl (hb k.2.2.2.2.2.1 hd1) rfl q) ?_
  exact s_if_le k hd ho hp h3 (fun q => gt ((cmpL_gt x y).mp q)) (fun q => gf fun z => q ((cmpL_gt x y).mpr z))
theorem s_ldcI (k : K p l e R s m args below meth c bytes own maxL ret nm T locs cells slots Z h n0) {index : Nat} {v : Int32} (hd : decode bytes pc = .ok (.ldc index, 2)) (w : (Cond.constant own index v).before a0 Z = true) (hp : pc + 2 = pc') (g : Go p e below P T (mkF m pc' Ls (.int v :: st))) : Go p e below P T (mkF m pc Ls st) := by
  subst hp
  exact Go.to (k.1.ldcInt k.2.1 k.2.2.2.2.2.2.1 (mvT k.2.2.1 w) (g := mkF m pc Ls st) rfl (hb k.2.2.2.2.2.1 hd)) g
theorem s_ldcwI (k : K p l e R s m args below meth c bytes own maxL ret nm T locs cells slots Z h n0) {index : Nat} {v : Int32} (hd : decode bytes pc = .ok (.ldc_w index, 3)) (w : (Cond.constant own index v).before a0 Z = true) (hp : pc + 3 = pc') (g : Go p e below P T (mkF m pc' Ls (.int v :: st))) : Go p e below P T (mkF m pc Ls st) := by
  subst hp
  exact Go.to (k.1.ldcwInt k.2.1 k.2.2.2.2.2.2.1 (mvT k.2.2.1 w) (g := mkF m pc Ls st) rfl (hb k.2.2.2.2.2.1 hd)) g
theorem s_ldcL (k : K p l e R s m args below meth c bytes own maxL ret nm T locs cells slots Z h n0) {index : Nat} {v : Int64} (hd : decode bytes pc = .ok (.ldc2_w index, 3)) (w : (Cond.constantLong own index v).before a0 Z = true) (hp : pc + 3 = pc') (g : Go p e below P T (mkF m pc' Ls (.long v :: st))) : Go p e below P T (mkF m pc Ls st) := by
  subst hp
  exact Go.to (k.1.ldc2Long k.2.1 k.2.2.2.2.2.2.1 (mvT k.2.2.1 w) (g := mkF m pc Ls st) rfl (hb k.2.2.2.2.2.1 hd)) g
/-- a null test -/
theorem s_nullY (k : K p l e R s m args below meth c bytes own maxL ret nm T locs cells slots Z h n0) {o : Int} (hd : decode bytes pc = .ok (.ifnull o, 3)) (ho : 0 ≤ (pc : Int) + o) (hp : ((pc : Int) + o).toNat = pc') (g : Go p e below P T (mkF m pc' Ls st)) : Go p e below P T (mkF m pc Ls (.null :: st)) :=
  Go.to (fun _ q => XS.ifnullYes k.1.here k.2.1 rfl rfl (hb k.2.2.2.2.2.1 hd) rfl ho hp q) g
theorem s_nullN (k : K p l e R s m args below meth c bytes own maxL ret nm T locs cells slots Z h n0) {o : Int} {b : Addr} (hd : decode bytes pc = .ok (.ifnull o, 3)) (hp : pc + 3 = pc') (g : Go p e below P T (mkF m pc' Ls st)) : Go p e below P T (mkF m pc Ls (.ref b :: st)) := by
  subst hp
  exact Go.to (fun _ q => XS.ifnullNo k.1.here k.2.1 rfl (hb k.2.2.2.2.2.1 hd) rfl q) g
theorem s_nonnullY (k : K p l e R s m args below meth c bytes own maxL ret nm T locs cells slots Z h n0) {o : Int} {b : Addr} (hd : decode bytes pc = .ok (.ifnonnull o, 3)) (ho : 0 ≤ (pc : Int) + o) (hp : ((pc : Int) + o).toNat = pc') (g : Go p e below P T (mkF m pc' Ls st)) : Go p e below P T (mkF m pc Ls (.ref b :: st)) :=
  Go.to (fun _ q => XT.ifnonnullYes k.1.here k.2.1 rfl rfl (hb k.2.2.2.2.2.1 hd) rfl ho hp q) g
theorem s_nonnullN (k : K p l e R s m args below meth c bytes own maxL ret nm T locs cells slots Z h n0) {o : Int} (hd : decode bytes pc = .ok (.ifnonnull o, 3)) (hp : pc + 3 = pc') (g : Go p e below P T (mkF m pc' Ls st)) : Go p e below P T (mkF m pc Ls (.null :: st)) := by
  subst hp
  exact Go.to (fun _ q => XT.ifnonnullNo k.1.here k.2.1 rfl (hb k.2.2.2.2.2.1 hd) rfl q) g
theorem s_acmp_ne (k : K p l e R s m args below meth c bytes own maxL ret nm T locs cells slots Z h n0) {x y : Value} {o : Int} (hd : decode bytes pc = .ok (.if_acmp .ne o, 3)) (hx : x.isRef = true) (hy : y.isRef = true) (ho : 0 ≤ (pc : Int) + o) (hp : ((pc : Int) + o).toNat = pc') (h3 : pc + 3 = pc3) (gt : x = y → Go p e below P T (mkF m pc3 Ls st)) (gf : ¬ (x = y) → Go p e below P T (mkF m pc' Ls st)) : Go p e below P T (mkF m pc Ls (y :: x :: st)) := by
  by_cases hc : x = y
  · exact Go.to (fun _ q => Jvm.RoadKit.acmp (g := mkF m pc Ls (y :: x :: st)) k.1 k.2.1 rfl hx hy (pc' := pc3) (same := true) rfl (hb k.2.2.2.2.2.1 hd) rfl (decide_eq_true hc) ho h3.symm q) (gt hc)
  · exact Go.to (fun _ q => Jvm.RoadKit.acmp (g := mkF m pc Ls (y :: x :: st)) k.1 k.2.1 rfl hx hy (pc' := pc') (same := false) rfl (hb k.2.2.2.2.2.1 hd) rfl (decide_eq_false hc) ho hp.symm q) (gf hc)
/-- getfield -/
theorem s_get (k : K p l e R s m args below meth c bytes own maxL ret nm T locs cells slots Z h n0) {R0 O n d host : String} {index : Nat} {a : Addr} {v : Value} (hd : decode bytes pc = .ok (.getfield index, 3)) (w : (Cond.fieldLink own index R0 n d).before a0 Z = true ∨ (Cond.fieldLinkNest own index R0 n d host).before a0 Z = true) (via : Via Z R0 O n d) (F : Fld Z h a O n d v) (hp : pc + 3 = pc')
    (g : ∀ T', K p l e R s m args below meth c bytes own maxL ret nm T' locs cells slots Z h n0 → Go p e below P T' (mkF m pc' Ls (v :: st))) : Go p e below P T (mkF m pc Ls (.ref a :: st)) := by
  subst hp
  obtain ⟨T', X', e', q⟩ := getF k.1 k.2.1 k.2.2.1 k.2.2.2.2.2.2.1 w via k.2.2.2.1 F (g := mkF m pc Ls (.ref a :: st)) rfl rfl (hb k.2.2.2.2.2.1 hd)
  exact Go.to q (g T' (k_hp k X' e' k.2.2.2.2.1))
/-- putfield -/
theorem s_put (k : K p l e R s m args below meth c bytes own maxL ret nm T locs cells slots Z h n0) {R0 O n d host C : String} {index kk : Nat} {ty : FieldType} {a : Addr} {v old : Value} (hd : decode bytes pc = .ok (.putfield index, 3)) (w : (Cond.fieldLink own index R0 n d).before a0 Z = true ∨ (Cond.fieldLinkNest own index R0 n d host).before a0 Z = true) (via : Via Z R0 O n d) (F : Fld Z h a O n d old) (E : Exa Z h a C) (L : (Cond.lays C O n d).before a0 Z = true ∨ ((Cond.laysFinal C O n d).before a0 Z = true ∧ own = O ∧ nm = "<init>")) (wi : (Cond.instantiable C kk).before a0 Z = true)
    (hty : parseFieldDescriptor d = some ty) (hn : narrow ty v = v) (hf : fits ty v = true) (ha : n0 ≤ a) (hp : pc + 3 = pc')
    (g : ∀ T' h' L', K p l e R s m args below meth c bytes own maxL ret nm T' L' cells slots Z h' n0 → Wr h h' a (Jvm.RoadKit.slotOf Z O n d) v → Go p e below P T' (mkF m pc' Ls st)) : Go p e below P T (mkF m pc Ls (v :: .ref a :: st)) := by
  subst hp
  obtain ⟨T', h', X', e', W, q⟩ := putF k.1 k.2.1 k.2.2.1 k.2.2.2.2.2.2.1 w via k.2.2.2.1 F E (L.imp id fun z => ⟨z.1, z.2.1, k.2.2.2.2.2.2.2.2.2.1.trans z.2.2⟩) wi hty hn hf (g := mkF m pc Ls (v :: .ref a :: st)) rfl rfl (hb k.2.2.2.2.2.1 hd)
  exact Go.to q (g T' h' _ (k_hp k X' e' (Fr.snoc X' k.2.2.2.2.1 ha)) W)
/-- getfield by an entry that is resolved -/
theorem ready_of (k : K p l e R s m args below meth c bytes own maxL ret nm T locs cells slots Z h n0) {R0 O n d : String} {index : Nat} (w : (Cond.fieldRef own index R0 n d).before a0 Z = true) (via : Via Z R0 O n d) {cf i : Nat} {kk : Class} {f : Field} (h2 : Z.fieldFound? O n d = some (cf, kk, i, f)) : T.vm.fieldReady m.cls index cf f := by
  have hU : Z.Warmed39 T.vm := wtrans k.2.2.1 k.1.warmed
  have hw := Cond.fieldRef_warmed39 hU w
  have hcur : (Z.setVm T.vm).vm.findClass own = some m.cls := by
    show T.vm.findClass own = _
    rw [k.1.warmed.alike.findClass]; exact k.2.2.2.2.2.2.1
  obtain ⟨c1, k1, i1, f1, hi1, hr1⟩ := Cond.fieldRef_spec hcur hw
  obtain ⟨k', hi', -⟩ := State.fieldFound?_setVm (s := Z) hU.alike (via _ h2)
  cases hi1.symm.trans hi'
  exact hr1
theorem s_getR (k : K p l e R s m args below meth c bytes own maxL ret nm T locs cells slots Z h n0) {R0 O n d : String} {index : Nat} {a : Addr} {v : Value} (hd : decode bytes pc = .ok (.getfield index, 3)) (w : (Cond.fieldRef own index R0 n d).before a0 Z = true) (via : Via Z R0 O n d) (F : Fld Z h a O n d v) (hp : pc + 3 = pc') (g : Go p e below P T (mkF m pc' Ls (v :: st))) : Go p e below P T (mkF m pc Ls (.ref a :: st)) := by
  subst hp
  obtain ⟨cell, cf, kk, i, f, h1, h2, h3, h4, -, -, h7⟩ := F
  have hr1 := ready_of k w via h2
  have hcell : T.heap[a]? = some cell := by rw [k.2.2.2.1]; exact h1
  refine Go.to (fun target q => ?_) g
  jvm_step k.1.here [k.2.1, hb k.2.2.2.2.2.1 hd, getfield.wp_ready (e := e) (s := T) (f := mkF m pc Ls (.ref a :: st)) k.1.here.top hr1 h3 rfl hcell h4 h7]
  exact q
/-- putfield by an entry that is resolved -/
theorem s_putR (k : K p l e R s m args below meth c bytes own maxL ret nm T locs cells slots Z h n0) {R0 O n d C : String} {index kk : Nat} {ty : FieldType} {a : Addr} {v old : Value} (hd : decode bytes pc = .ok (.putfield index, 3)) (w : (Cond.fieldRef own index R0 n d).before a0 Z = true) (via : Via Z R0 O n d) (F : Fld Z h a O n d old) (E : Exa Z h a C) (L : (Cond.lays C O n d).before a0 Z = true) (wi : (Cond.instantiable C kk).before a0 Z = true)
    (hty : parseFieldDescriptor d = some ty) (hn : narrow ty v = v) (hf : fits ty v = true) (ha : n0 ≤ a) (hp : pc + 3 = pc')
    (g : ∀ T' h' L', K p l e R s m args below meth c bytes own maxL ret nm T' L' cells slots Z h' n0 → Wr h h' a (Jvm.RoadKit.slotOf Z O n d) v → Go p e below P T' (mkF m pc' Ls st)) : Go p e below P T (mkF m pc Ls (v :: .ref a :: st)) := by
  subst hp
  obtain ⟨cell, cf, kf, i, f, h1, h2, h3, h4, h5, -, h7⟩ := F
  obtain ⟨cell', kc, e1, e2, e3, -⟩ := E
  cases h1.symm.trans e1
  obtain ⟨c1, k1, cf1, kf1, i1, f1, a1, a2, a3, -, -, a6, -⟩ := Laid.spec (Or.inl L)
  cases h2.symm.trans a3
  cases e2.symm.trans a1
  obtain ⟨c2, k2, i1, i2, i3, -⟩ := Cond.instantiable_spec wi
  cases e2.symm.trans i1
  cases a2.symm.trans i2
  have ht := (State.fieldFound?_type h2 hty).2
  have hfit : Z.fitsSlot cell.cls cell.vm f.slot v = true := by
    have q : Z.slotType? cell.cls cell.vm f.slot = some ty := by
      simp only [State.slotType?, a2, Option.bind_eq_bind, Option.bind_some, i3]
      cases hq : cell.vm <;> first | (rw [hq] at h5; exact Bool.noConfusion h5) | (rw [a6, ht])
    simp [State.fitsSlot, q, hf]
  have hU : Z.Warmed39 T.vm := wtrans k.2.2.1 k.1.warmed
  have hfit' : T.fitsSlot cell.cls cell.vm f.slot v = true := by rw [← State.fitsSlot_setVm hU.alike] at hfit; exact hfit
  have hfin : hasFlag f.accessFlags Acc.final = false := by
    obtain ⟨_, _, _, _, _, _, -, -, b3, -, b5, -⟩ := Cond.lays_spec L
    cases h2.symm.trans b3
    exact b5
  have hr1 := ready_of k w via h2
  have hlt := (Array.getElem?_eq_some_iff.mp h7).1
  have es : Jvm.RoadKit.slotOf Z O n d = f.slot := by simp [Jvm.RoadKit.slotOf, h2]
  have hcell : T.heap[a]? = some cell := by rw [k.2.2.2.1]; exact h1
  obtain ⟨X', q⟩ := k.1.putfieldReady k.2.1 hr1 h3 (Or.inl hfin) hcell h4 hlt (by rw [ht]; exact hn) hfit' (g := mkF m pc Ls (v :: .ref a :: st)) rfl rfl (hb k.2.2.2.2.2.1 hd)
  refine Go.to q (g _ _ _ (k_hp k X' rfl (Fr.snoc X' k.2.2.2.2.1 ha)) ?_)
  rw [es]
  exact ⟨cell, h1, h5, hlt, by rw [← k.2.2.2.1]; rfl⟩
/-- new -/
theorem s_new (k : K p l e R s m args below meth c bytes own maxL ret nm T locs cells slots Z h n0) {C : String} {index n : Nat} (hd : decode bytes pc = .ok (.new index, 3)) (w : (Cond.classLink own index C).before a0 Z = true) (wi : (Cond.instantiable C n).before a0 Z = true) (wz : (Cond.initialized C).before a0 Z = true) (hc : cells + 1 ≤ R.cells) (hl : slots + n ≤ R.slots) (hp : pc + 3 = pc')
    (g : ∀ T' h' b, b = h.size → K p l e R s m args below meth c bytes own maxL ret nm T' locs (cells + 1) (slots + n) Z h' n0 → Ext h h' → Exa Z h' b C → (∀ {O nm d : String} {ty : FieldType}, Laid Z a0 C O nm d → parseFieldDescriptor d = some ty → Fld Z h' b O nm d (defaultValue ty)) → Go p e below P T' (mkF m pc' Ls (.ref b :: st))) : Go p e below P T (mkF m pc Ls st) := by
  subst hp
  obtain ⟨T', h', X', e', E, A, D, -, q⟩ := newO k.1 k.2.1 k.2.2.1 k.2.2.2.2.2.2.1 w wi wz k.2.2.2.1 (g := mkF m pc Ls st) rfl (hb k.2.2.2.2.2.1 hd) hc hl
  exact Go.to q (g T' h' _ rfl (k_hp k X' e' k.2.2.2.2.1) E A D)
/-- newarray of a primitive kind -/
theorem s_newP (k : K p l e R s m args below meth c bytes own maxL ret nm T locs cells slots Z h n0) {aty : ArrayType} {n : Int32} {cap : Nat} (hd : decode bytes pc = .ok (.newarray aty, 2)) (w : (Cond.arrayClass (newarray.typeOf aty)).before a0 Z = true) (hn : ¬ n < 0) (hcap : n.toNatClampNeg ≤ cap) (hb' : cap * 8 ≤ 536870912) (hc : cells + 1 ≤ R.cells) (hl : slots + cap ≤ R.slots) (hp : pc + 2 = pc')
    (g : ∀ T' h' b cA, b = h.size → K p l e R s m args below meth c bytes own maxL ret nm T' locs (cells + 1) (slots + cap) Z h' n0 → Ext h h' → Arv Z h' b cA (newarray.typeOf aty) n [] (defaultValue (newarray.typeOf aty)) → Go p e below P T' (mkF m pc' Ls (.ref b :: st))) : Go p e below P T (mkF m pc Ls (.int n :: st)) := by
  subst hp
  obtain ⟨T', h', cA, X', e', E, A, q⟩ := newP k.1 k.2.1 k.2.2.1 w k.2.2.2.1 (g := mkF m pc Ls (.int n :: st)) rfl (hb k.2.2.2.2.2.1 hd) rfl hn hcap hb' hc hl
  exact Go.to q (g T' h' _ cA rfl (k_hp k X' e' k.2.2.2.2.1) E (Arv.new A hn))
/-- anewarray -/
theorem s_newR (k : K p l e R s m args below meth c bytes own maxL ret nm T locs cells slots Z h n0) {C : String} {index : Nat} {n : Int32} {cap : Nat} (hd : decode bytes pc = .ok (.anewarray index, 3)) (w1 : (Cond.classLink own index C).before a0 Z = true) (w2 : (Cond.arrayOver (.object C)).before a0 Z = true) (hn : ¬ n < 0) (hcap : n.toNatClampNeg ≤ cap) (hb' : cap * 8 ≤ 536870912) (hc : cells + 1 ≤ R.cells) (hl : slots + cap ≤ R.slots) (hp : pc + 3 = pc')
    (g : ∀ T' h' b cA, b = h.size → K p l e R s m args below meth c bytes own maxL ret nm T' locs (cells + 1) (slots + cap) Z h' n0 → Ext h h' → Arv Z h' b cA (.object C) n [] .null → Ovr Z cA C → Go p e below P T' (mkF m pc' Ls (.ref b :: st))) : Go p e below P T (mkF m pc Ls (.int n :: st)) := by
  subst hp
  obtain ⟨T', h', cA, X', e', E, A, O, q⟩ := newR k.1 k.2.1 k.2.2.1 k.2.2.2.2.2.2.1 w1 w2 k.2.2.2.1 (g := mkF m pc Ls (.int n :: st)) rfl (hb k.2.2.2.2.2.1 hd) rfl hn hcap hb' hc hl
  exact Go.to q (g T' h' _ cA rfl (k_hp k X' e' k.2.2.2.2.1) E (Arv.new A hn) O)
/-- arraylength -/
theorem s_len (k : K p l e R s m args below meth c bytes own maxL ret nm T locs cells slots Z h n0) {a : Addr} {kc : ClassId} {ty : FieldType} {z : Int32} {vs : List Value} {dv : Value} (hd : decode bytes pc = .ok (.arraylength, 1)) (A : Arv Z h a kc ty z vs dv) (hp : pc + 1 = pc') (g : Go p e below P T (mkF m pc' Ls (.int z :: st))) : Go p e below P T (mkF m pc Ls (.ref a :: st)) := by
  subst hp
  obtain ⟨cl, A1, -, S, N, -⟩ := A
  rw [← len_of S N] at g
  exact Go.to (fun _ q => k.1.arraylength k.2.1 (by rw [k.2.2.2.1]; exact A1.1) (State.isArrayOf_alike k.2.2.1.alike A1.2.1) (g := mkF m pc Ls (.ref a :: st)) rfl rfl (hb k.2.2.2.2.2.1 hd) _ q) g

theorem s_laload (k : K p l e R s m args below meth c bytes own maxL ret nm T locs cells slots Z h n0) {a : Addr} {kc : ClassId} {z j : Int32} {vs : List Value} {dv v : Value} (hd : decode bytes pc = .ok (.laload, 1)) (A : Arv Z h a kc .long z vs dv) (hj : ¬ j < 0 ∧ j < z) (hv : vs.getD j.toNatClampNeg dv = v) (hp : pc + 1 = pc') (g : Go p e below P T (mkF m pc' Ls (v :: st))) : Go p e below P T (mkF m pc Ls (.int j :: .ref a :: st)) := by
  subst hp
  obtain ⟨cl, A1, -, S, N, H, -⟩ := A
  exact Go.to (fun _ q => k.1.laload k.2.1 (by rw [k.2.2.2.1]; exact A1.1) (State.isArrayOf_alike k.2.2.1.alike A1.2.1) A1.2.2 (inb_of S hj) (H.at (inb_of S hj) hv) (g := mkF m pc Ls (.int j :: .ref a :: st)) rfl rfl (hb k.2.2.2.2.2.1 hd) _ q) g
theorem s_baload (k : K p l e R s m args below meth c bytes own maxL ret nm T locs cells slots Z h n0) {a : Addr} {kc : ClassId} {z j : Int32} {vs : List Value} {dv v : Value} (hd : decode bytes pc = .ok (.baload, 1)) (A : Arv Z h a kc .byte z vs dv) (hj : ¬ j < 0 ∧ j < z) (hv : vs.getD j.toNatClampNeg dv = v) (hp : pc + 1 = pc') (g : Go p e below P T (mkF m pc' Ls (v :: st))) : Go p e below P T (mkF m pc Ls (.int j :: .ref a :: st)) := by
  subst hp
  obtain ⟨cl, A1, -, S, N, H, -⟩ := A
  exact Go.to (fun _ q => k.1.baloadBytes k.2.1 (by rw [k.2.2.2.1]; exact A1.1) (State.isArrayOf_alike k.2.2.1.alike A1.2.1) A1.2.2 (inb_of S hj) (H.at (inb_of S hj) hv) (g := mkF m pc Ls (.int j :: .ref a :: st)) rfl rfl (hb k.2.2.2.2.2.1 hd) _ q) g
theorem s_iaload (k : K p l e R s m args below meth c bytes own maxL ret nm T locs cells slots Z h n0) {a : Addr} {kc : ClassId} {z j : Int32} {vs : List Value} {dv v : Value} (hd : decode bytes pc = .ok (.iaload, 1)) (A : Arv Z h a kc .int z vs dv) (hj : ¬ j < 0 ∧ j < z) (hv : vs.getD j.toNatClampNeg dv = v) (hp : pc + 1 = pc') (g : Go p e below P T (mkF m pc' Ls (v :: st))) : Go p e below P T (mkF m pc Ls (.int j :: .ref a :: st)) := by
  subst hp
  obtain ⟨cl, A1, -, S, N, H, -⟩ := A
  exact Go.to (fun _ q => k.1.iaload k.2.1 (by rw [k.2.2.2.1]; exact A1.1) (State.isArrayOf_alike k.2.2.1.alike A1.2.1) A1.2.2 (inb_of S hj) (H.at (inb_of S hj) hv) (g := mkF m pc Ls (.int j :: .ref a :: st)) rfl rfl (hb k.2.2.2.2.2.1 hd) _ q) g
theorem s_aaload (k : K p l e R s m args below meth c bytes own maxL ret nm T locs cells slots Z h n0) {a : Addr} {kc : ClassId} {ty : FieldType} {z j : Int32} {vs : List Value} {dv v : Value} (hd : decode bytes pc = .ok (.aaload, 1)) (A : Arv Z h a kc ty z vs dv) (hty : ty.isReference = true) (hj : ¬ j < 0 ∧ j < z) (hv : vs.getD j.toNatClampNeg dv = v) (hp : pc + 1 = pc') (g : Go p e below P T (mkF m pc' Ls (v :: st))) : Go p e below P T (mkF m pc Ls (.int j :: .ref a :: st)) := by
  subst hp
  obtain ⟨cl, A1, -, S, N, H, -⟩ := A
  exact Go.to (fun _ q => k.1.aaload k.2.1 (by rw [k.2.2.2.1]; exact A1.1) (State.isArrayOf_alike k.2.2.1.alike A1.2.1) hty A1.2.2 (inb_of S hj) (H.at (inb_of S hj) hv) (g := mkF m pc Ls (.int j :: .ref a :: st)) rfl rfl (hb k.2.2.2.2.2.1 hd) _ q) g
theorem s_lastore (k : K p l e R s m args below meth c bytes own maxL ret nm T locs cells slots Z h n0) {a : Addr} {kc : ClassId} {z j : Int32} {vs : List Value} {dv : Value} {x : Int64} {i : Nat} (hd : decode bytes pc = .ok (.lastore, 1)) (A : Arv Z h a kc .long z vs dv) (hj : ¬ j < 0 ∧ j < z) (hi : j.toNatClampNeg = i) (hl : i < vs.length) (ha : n0 ≤ a) (hp : pc + 1 = pc')
    (g : ∀ T' h' L', K p l e R s m args below meth c bytes own maxL ret nm T' L' cells slots Z h' n0 → Wr h h' a i (.long x) → Arv Z h' a kc .long z (vs.set i (.long x)) dv → Go p e below P T' (mkF m pc' Ls st)) : Go p e below P T (mkF m pc Ls (.long x :: .int j :: .ref a :: st)) := by
  subst hp hi
  obtain ⟨cl, A1, q1, S, N, H, Gf⟩ := A
  obtain ⟨T', h', X', e', W, q⟩ := stJ k.1 k.2.1 k.2.2.1 k.2.2.2.1 A1 (inb_of S hj) (g := mkF m pc Ls (.long x :: .int j :: .ref a :: st)) rfl rfl (hb k.2.2.2.2.2.1 hd)
  exact Go.to q (g T' h' _ (k_hp k X' e' (Fr.snoc X' k.2.2.2.2.1 ha)) W (Arv.set A1 q1 S N H Gf rfl W _ rfl hl))
theorem s_iastore (k : K p l e R s m args below meth c bytes own maxL ret nm T locs cells slots Z h n0) {a : Addr} {kc : ClassId} {z j : Int32} {vs : List Value} {dv : Value} {x : Int32} {i : Nat} (hd : decode bytes pc = .ok (.iastore, 1)) (A : Arv Z h a kc .int z vs dv) (hj : ¬ j < 0 ∧ j < z) (hi : j.toNatClampNeg = i) (hl : i < vs.length) (ha : n0 ≤ a) (hp : pc + 1 = pc')
    (g : ∀ T' h' L', K p l e R s m args below meth c bytes own maxL ret nm T' L' cells slots Z h' n0 → Wr h h' a i (.int x) → Arv Z h' a kc .int z (vs.set i (.int x)) dv → Go p e below P T' (mkF m pc' Ls st)) : Go p e below P T (mkF m pc Ls (.int x :: .int j :: .ref a :: st)) := by
  subst hp hi
  obtain ⟨cl, A1, q1, S, N, H, Gf⟩ := A
  obtain ⟨T', h', X', e', W, q⟩ := stI k.1 k.2.1 k.2.2.1 k.2.2.2.1 A1 (inb_of S hj) (g := mkF m pc Ls (.int x :: .int j :: .ref a :: st)) rfl rfl (hb k.2.2.2.2.2.1 hd)
  exact Go.to q (g T' h' _ (k_hp k X' e' (Fr.snoc X' k.2.2.2.2.1 ha)) W (Arv.set A1 q1 S N H Gf rfl W _ rfl hl))
theorem s_bastore0 (k : K p l e R s m args below meth c bytes own maxL ret nm T locs cells slots Z h n0) {a : Addr} {kc : ClassId} {z j : Int32} {vs : List Value} {dv : Value} {x : Int32} {i : Nat} (hd : decode bytes pc = .ok (.bastore, 1)) (A : Arv Z h a kc .byte z vs dv) (hj : ¬ j < 0 ∧ j < z) (hi : j.toNatClampNeg = i) (hl : i < vs.length) (ha : n0 ≤ a) (hp : pc + 1 = pc')
    (g : ∀ T' h' L', K p l e R s m args below meth c bytes own maxL ret nm T' L' cells slots Z h' n0 → Wr h h' a i (.int x.toInt8.toInt32) → Arv Z h' a kc .byte z (vs.set i (.int x.toInt8.toInt32)) dv → Go p e below P T' (mkF m pc' Ls st)) : Go p e below P T (mkF m pc Ls (.int x :: .int j :: .ref a :: st)) := by
  subst hp hi
  obtain ⟨cl, A1, q1, S, N, H, Gf⟩ := A
  obtain ⟨T', h', X', e', W, q⟩ := stB k.1 k.2.1 k.2.2.1 k.2.2.2.1 A1 (inb_of S hj) (g := mkF m pc Ls (.int x :: .int j :: .ref a :: st)) rfl rfl (hb k.2.2.2.2.2.1 hd)
  exact Go.to q (g T' h' _ (k_hp k X' e' (Fr.snoc X' k.2.2.2.2.1 ha)) W (Arv.set A1 q1 S N H Gf (fits_nar_byte x) W _ rfl hl))
theorem s_bastore (k : K p l e R s m args below meth c bytes own maxL ret nm T locs cells slots Z h n0) {a : Addr} {kc : ClassId} {z j : Int32} {vs : List Value} {dv : Value} {x y : Int32} {i : Nat} (hd : decode bytes pc = .ok (.bastore, 1)) (A : Arv Z h a kc .byte z vs dv) (hj : ¬ j < 0 ∧ j < z) (hi : j.toNatClampNeg = i) (hl : i < vs.length) (hy : x.toInt8.toInt32 = y) (ha : n0 ≤ a) (hp : pc + 1 = pc')
    (g : ∀ T' h' L', K p l e R s m args below meth c bytes own maxL ret nm T' L' cells slots Z h' n0 → Wr h h' a i (.int y) → Arv Z h' a kc .byte z (vs.set i (.int y)) dv → Go p e below P T' (mkF m pc' Ls st)) : Go p e below P T (mkF m pc Ls (.int x :: .int j :: .ref a :: st)) := by
  subst hy
  exact s_bastore0 k hd A hj hi hl ha hp g
theorem s_aastore (k : K p l e R s m args below meth c bytes own maxL ret nm T locs cells slots Z h n0) {a : Addr} {kc : ClassId} {C : String} {z j : Int32} {vs : List Value} {dv v : Value} {i : Nat} (hd : decode bytes pc = .ok (.aastore, 1)) (A : Arv Z h a kc (.object C) z vs dv) (hj : ¬ j < 0 ∧ j < z) (hi : j.toNatClampNeg = i) (hl : i < vs.length) (O : Ovr Z kc C) (I : v = .null ∨ ∃ y, v = .ref y ∧ Ins Z h y C true) (ha : n0 ≤ a) (hp : pc + 1 = pc')
    (g : ∀ T' h' L', K p l e R s m args below meth c bytes own maxL ret nm T' L' cells slots Z h' n0 → Wr h h' a i v → Arv Z h' a kc (.object C) z (vs.set i v) dv → Go p e below P T' (mkF m pc' Ls st)) : Go p e below P T (mkF m pc Ls (v :: .int j :: .ref a :: st)) := by
  subst hp hi
  obtain ⟨cl, A1, q1, S, N, H, Gf⟩ := A
  have hs : Sto Z h a v := by
    rcases I with rfl | ⟨y, rfl, I⟩
    · exact Or.inl rfl
    · exact Sto.ofV A1 q1 O I
  have hfv : fits (.object C) v = true := by
    rcases I with rfl | ⟨y, rfl, I⟩ <;> rfl
  obtain ⟨T', h', X', e', W, q⟩ := stR k.1 k.2.1 k.2.2.1 k.2.2.2.1 A1 (inb_of S hj) rfl hs (g := mkF m pc Ls (v :: .int j :: .ref a :: st)) rfl rfl (hb k.2.2.2.2.2.1 hd)
  exact Go.to q (g T' h' _ (k_hp k X' e' (Fr.snoc X' k.2.2.2.2.1 ha)) W (Arv.set A1 q1 S N H Gf hfv W _ rfl hl))
theorem s_cast (k : K p l e R s m args below meth c bytes own maxL ret nm T locs cells slots Z h n0) {C : String} {index : Nat} {a : Addr} (hd : decode bytes pc = .ok (.checkcast index, 3)) (w : (Cond.classLink own index C).before a0 Z = true) (I : Ins Z h a C true) (hp : pc + 3 = pc')
    (g : ∀ T', K p l e R s m args below meth c bytes own maxL ret nm T' locs cells slots Z h n0 → Go p e below P T' (mkF m pc' Ls (.ref a :: st))) : Go p e below P T (mkF m pc Ls (.ref a :: st)) := by
  subst hp
  obtain ⟨T', X', e', q⟩ := castY k.1 k.2.1 k.2.2.1 k.2.2.2.2.2.2.1 w k.2.2.2.1 I (g := mkF m pc Ls (.ref a :: st)) rfl rfl (hb k.2.2.2.2.2.1 hd)
  exact Go.to q (g T' (k_hp k X' e' k.2.2.2.2.1))
theorem s_castNull (k : K p l e R s m args below meth c bytes own maxL ret nm T locs cells slots Z h n0) {index : Nat} (hd : decode bytes pc = .ok (.checkcast index, 3)) (hp : pc + 3 = pc') (g : Go p e below P T (mkF m pc' Ls (.null :: st))) : Go p e below P T (mkF m pc Ls (.null :: st)) := by
  subst hp
  exact Go.to (k.1.checkcastNull k.2.1 (g := mkF m pc Ls (.null :: st)) rfl rfl (hb k.2.2.2.2.2.1 hd)) g
theorem s_instY (k : K p l e R s m args below meth c bytes own maxL ret nm T locs cells slots Z h n0) {C : String} {index : Nat} {a : Addr} (hd : decode bytes pc = .ok (.instanceof index, 3)) (w : (Cond.classLink own index C).before a0 Z = true) (I : Ins Z h a C true) (hp : pc + 3 = pc')
    (g : ∀ T', K p l e R s m args below meth c bytes own maxL ret nm T' locs cells slots Z h n0 → Go p e below P T' (mkF m pc' Ls (.int 1 :: st))) : Go p e below P T (mkF m pc Ls (.ref a :: st)) := by
  subst hp
  obtain ⟨T', X', e', q⟩ := instY k.1 k.2.1 k.2.2.1 k.2.2.2.2.2.2.1 w k.2.2.2.1 I (g := mkF m pc Ls (.ref a :: st)) rfl rfl (hb k.2.2.2.2.2.1 hd)
  exact Go.to q (g T' (k_hp k X' e' k.2.2.2.2.1))
/-- the returns -/
theorem s_retV (k : K p l e R s m args below meth c bytes own maxL ret nm T locs cells slots Z h n0) {w : Value} {t : FieldType} {i : Instr} (hd : decode bytes pc = .ok (i, 1)) (hr : ret = some t) (hn : narrow t w = w)
    (hi : (i = .ireturn ∧ (t = .int ∨ t = .boolean ∨ t = .byte ∨ t = .char ∨ t = .short) ∧ ∃ z, w = .int z) ∨ (i = .lreturn ∧ t = .long ∧ ∃ z, w = .long z) ∨ (i = .dreturn ∧ t = .double ∧ ∃ z, w = .double z) ∨ (i = .freturn ∧ t = .float ∧ ∃ z, w = .float z) ∨ (i = .areturn ∧ t.isReference = true ∧ w.isRef = true))
    (hP : Pay s Q n0 cc ss P) (hc : cells ≤ cc) (hs : slots ≤ ss) (q : Q (some w) h) : Go p e below P T (mkF m pc Ls (w :: st)) := by
  obtain ⟨fs, hr', hrun, hended, hW, hsame⟩ := k.1.leave (v := some w) (fun z => by rw [k.2.2.2.2.2.2.2.2.1, hr] at z; cases z) k.2.2.2.2.2.2.2.2.2.2
  exact ⟨_, _, retOut k.1 k.2.1 (k.2.2.2.2.2.2.2.2.1.trans hr) hn hi (hb k.2.2.2.2.2.1 hd) hr', hrun, hended, hP _ _ _ _ q (show T.heap = h from k.2.2.2.1) k.2.2.2.2.1 ⟨⟨_, rfl⟩, hW, hsame.mono hc hs⟩⟩
theorem s_retI (k : K p l e R s m args below meth c bytes own maxL ret nm T locs cells slots Z h n0) {z : Int32} (hd : decode bytes pc = .ok (.ireturn, 1)) (hr : ret = some .int) (hP : Pay s Q n0 cc ss P) (hc : cells ≤ cc) (hs : slots ≤ ss) (q : Q (some (.int z)) h) : Go p e below P T (mkF m pc Ls (.int z :: st)) :=
  s_retV k hd hr rfl (Or.inl ⟨rfl, Or.inl rfl, z, rfl⟩) hP hc hs q
theorem s_retL (k : K p l e R s m args below meth c bytes own maxL ret nm T locs cells slots Z h n0) {z : Int64} (hd : decode bytes pc = .ok (.lreturn, 1)) (hr : ret = some .long) (hP : Pay s Q n0 cc ss P) (hc : cells ≤ cc) (hs : slots ≤ ss) (q : Q (some (.long z)) h) : Go p e below P T (mkF m pc Ls (.long z :: st)) :=
  s_retV k hd hr rfl (Or.inr (Or.inl ⟨rfl, rfl, z, rfl⟩)) hP hc hs q
theorem s_retA (k : K p l e R s m args below meth c bytes own maxL ret nm T locs cells slots Z h n0) {w : Value} {t : FieldType} (hd : decode bytes pc = .ok (.areturn, 1)) (hr : ret = some t) (ht : t.isReference = true) (hw : w.isRef = true) (hP : Pay s Q n0 cc ss P) (hc : cells ≤ cc) (hs : slots ≤ ss) (q : Q (some w) h) : Go p e below P T (mkF m pc Ls (w :: st)) :=
  s_retV k hd hr (by cases t <;> simp [FieldType.isReference] at ht <;> rfl) (Or.inr (Or.inr (Or.inr (Or.inr ⟨rfl, ht, hw⟩)))) hP hc hs q
theorem s_retZ (k : K p l e R s m args below meth c bytes own maxL ret nm T locs cells slots Z h n0) {z : Int32} (hd : decode bytes pc = .ok (.ireturn, 1)) (hr : ret = some .boolean) (hz : z &&& 1 = z) (hP : Pay s Q n0 cc ss P) (hc : cells ≤ cc) (hs : slots ≤ ss) (q : Q (some (.int z)) h) : Go p e below P T (mkF m pc Ls (.int z :: st)) :=
  s_retV k hd hr (show Value.int (z &&& 1) = .int z by rw [hz]) (Or.inl ⟨rfl, Or.inr (Or.inl rfl), z, rfl⟩) hP hc hs q
theorem s_ret (k : K p l e R s m args below meth c bytes own maxL ret nm T locs cells slots Z h n0) (hd : decode bytes pc = .ok (.return_, 1)) (hr : ret = none) (hP : Pay s Q n0 cc ss P) (hc : cells ≤ cc) (hs : slots ≤ ss) (q : Q none h) : Go p e below P T (mkF m pc Ls []) := by
  obtain ⟨fs, hr', hrun, hended, hW, hsame⟩ := k.1.leave (v := none) (fun _ => rfl) k.2.2.2.2.2.2.2.2.2.2
  exact ⟨_, _, k.1.returnOut k.2.1 (k.2.2.2.2.2.2.2.2.1.trans hr) (hb k.2.2.2.2.2.1 hd) hr', hrun, hended, hP _ _ _ _ q (show T.heap = h from k.2.2.2.1) k.2.2.2.2.1 ⟨⟨_, rfl⟩, hW, hsame.mono hc hs⟩⟩
end Own

/-- a method's contract at one array of arguments and one heap -/
def Met (l : Launch) (Z : State) (y : MethodName) (bytes : ByteArray) (maxL : Nat) (ret : Option FieldType) (rm : Room) (n0 : Nat) (as' : Array Value) (h : Heap) (Q : Option Value → Heap → Prop) : Prop :=
  ∀ ws : List Jvm.Cond, MetFree l y (head1 (Jvm.Cond.code y bytes maxL ret :: ws) rm) (fun a U => a = as' ∧ Z.Warmed39 U.vm ∧ U.heap = h) (fun _ _ _ _ _ => True) (fun _ U o U' => ∃ v L, o = .returned v ∧ (Q v U'.heap ∧ Fr n0 L) ∧ FrameEnd U o U' L rm.cells rm.slots)
theorem Met.of {l : Launch} {Z : State} {y : MethodName} {bytes : ByteArray} {maxL : Nat} {ret : Option FieldType} {rm : Room} {n0 : Nat} {as' : Array Value} {h : Heap} {Q : Option Value → Heap → Prop} {Ls : Array Slot} (hpl : plainFor y = true) (hef : ∀ m, entryFrame m as' maxL = mkF m 0 Ls [])
    (body : ∀ p e s m below meth c T P, Pay s Q n0 rm.cells rm.slots P → K p l e rm s m as' below meth c bytes y.cls maxL ret y.name T [] 0 0 Z h n0 → Go p e below P T (mkF m 0 Ls [])) : Met l Z y bytes maxL ret rm n0 as' h Q := by
  intro ws
  refine MetFree.of_bodySF hpl hisR ?_
  intro p e s m args below meth c s₁ Bd hml0 hP hK
  obtain ⟨rfl, hZ, hh⟩ := hP
  have X0 : Stand p l e rm s m args below meth c s₁ [] 0 0 := Stand.of_body Bd
  rw [hef m]
  exact body p e s m below meth c s₁ _ (fun v h L s₂ q1 q2 q3 q4 => ⟨v, L, rfl, ⟨q2.symm ▸ q1, q3⟩, q4⟩) ⟨X0, Bd.exec, hZ, by rw [← hh, Bd.state]; rfl, Fr.nil n0, Bd.bytes, findClass_of_methodNamed Bd.named, hml0, Bd.returns, (name_of_methodNamed Bd.named Bd.method).1, BodyLoose.notSynchronized Bd⟩
section Calls
variable {p : Program} {l : Launch} {e : Env} {R : Room} {s : State} {m : MethodId} {args : Array Value} {below : List Frame} {meth : Method} {c : Code} {bytes : ByteArray} {own : String} {maxL : Nat} {ret : Option FieldType} {nm : String} {T : State} {locs : List Loc} {cells slots : Nat} {Z : State} {h : Heap} {n0 : Nat} {Q : Option Value → Heap → Prop} {P : State → Outcome → Prop} {cc ss : Nat} {a0 : Array Value} {Ls : Array Slot} {st rest : List Value} {pc pc' : Nat}
theorem wsum (W : Nat) (st : List Value) (hW : (st.map fun v => v.category).sum ≤ W) : 2 * 0 + (st.map fun v => v.category).sum ≤ W := by omega
/-- a static call -/
theorem s_callS (k : K p l e R s m args below meth c bytes own maxL ret nm T locs cells slots Z h n0) {index : Nat} {y : MethodName} {yb : ByteArray} {ym : Nat} {yr : Option FieldType} {rm : Room} {Qy : Option Value → Heap → Prop} {ps : List FieldType} (argsL : List Value) (W : Nat) (hd : decode bytes pc = .ok (.invokestatic index, 3)) (w1 : (Cond.methodLink own index y).before a0 Z = true) (w2 : (Cond.static y).before a0 Z = true) (w3 : (Cond.initialized y.cls).before a0 Z = true) (w4 : (Cond.code y yb ym yr).before a0 Z = true)
    (hy : y.cls ≠ "java/lang/invoke/MethodHandle" ∧ y.cls ≠ "java/lang/invoke/VarHandle") (M : Met l Z y yb ym yr rm n0 argsL.toArray h Qy) (hf : rm.frames + 1 ≤ R.frames) (hl : W + (ym + 11) + rm.locals ≤ R.locals) (hpd : parseMethodDescriptor y.desc = some ⟨ps, yr⟩) (hlen : argsL.length = ps.length) (hW : (st.map fun v => v.category).sum ≤ W) (hsz : Ls.size = maxL) (hc : cells + rm.cells ≤ R.cells) (hs : slots + rm.slots ≤ R.slots) (hst : rest = argsL.reverse ++ st) (hp : pc + 3 = pc')
    (g : ∀ v T' h' L', K p l e R s m args below meth c bytes own maxL ret nm T' L' (cells + rm.cells) (slots + rm.slots) Z h' n0 → Qy v h' → Go p e below P T' (mkF m pc' Ls (v.toList ++ st))) : Go p e below P T (mkF m pc Ls rest) := by
  subst hp hst
  obtain ⟨v, vm1, ⟨T', L', k', n'⟩, -, X', ⟨L, hQ, l1, l2, l3⟩, q⟩ := Jvm.LawKit.callS k.1 k.2.1 k.2.2.2.2.2.2.1 (mvT k.2.2.1 w1) (mvT k.2.2.1 w2) (mvT k.2.2.1 w3) (mvT k.2.2.1 w4) hy (backOf (W := W) (Q := fun v h L => Qy v h ∧ Fr n0 L) (M []) k.2.2.1 w4 w3 hf hl) (g := mkF m pc Ls (argsL.reverse ++ st)) rfl (hsz.trans k.2.2.2.2.2.2.2.1.symm) (argsL := argsL) (rest := st) (lenOf hpd hlen) rfl (wsum W st hW) (hb k.2.2.2.2.2.1 hd) (fun _ _ => ⟨rfl, k.2.2.2.1, hc, hs⟩)
  dsimp only [Pt.U, Pt.locs, Pt.cells, Pt.slots] at X' l1 l2 l3 q hQ
  subst l1 l2 l3
  exact Go.to q (g v T' _ _ (k_hp k X' rfl (Fr.app k.2.2.2.2.1 hQ.2)) hQ.1)
/-- a constructor -/
theorem s_callI (k : K p l e R s m args below meth c bytes own maxL ret nm T locs cells slots Z h n0) {index : Nat} {y : MethodName} {yb : ByteArray} {ym : Nat} {rm : Room} {Qy : Option Value → Heap → Prop} {ps : List FieldType} {a : Addr} (argsL : List Value) (W : Nat) (hd : decode bytes pc = .ok (.invokespecial index, 3)) (hy1 : y.name = "<init>") (w1 : (Cond.methodLink own index y).before a0 Z = true) (w2 : (Cond.instanceMethod y).before a0 Z = true) (w3 : (Cond.initialized y.cls).before a0 Z = true) (w4 : (Cond.code y yb ym none).before a0 Z = true)
    (hy : y.cls ≠ "java/lang/invoke/MethodHandle" ∧ y.cls ≠ "java/lang/invoke/VarHandle") (M : Met l Z y yb ym none rm n0 (.ref a :: argsL).toArray h Qy) (hf : rm.frames + 1 ≤ R.frames) (hl : W + (ym + 11) + rm.locals ≤ R.locals) (hpd : parseMethodDescriptor y.desc = some ⟨ps, none⟩) (hlen : argsL.length = ps.length) (hW : (st.map fun v => v.category).sum ≤ W) (hsz : Ls.size = maxL) (hc : cells + rm.cells ≤ R.cells) (hs : slots + rm.slots ≤ R.slots) (hst : rest = argsL.reverse ++ .ref a :: st) (hp : pc + 3 = pc')
    (g : ∀ v T' h' L', K p l e R s m args below meth c bytes own maxL ret nm T' L' (cells + rm.cells) (slots + rm.slots) Z h' n0 → Qy v h' → Go p e below P T' (mkF m pc' Ls (v.toList ++ st))) : Go p e below P T (mkF m pc Ls rest) := by
  subst hp hst
  obtain ⟨v, vm1, ⟨T', L', k', n'⟩, -, X', ⟨L, hQ, l1, l2, l3⟩, q⟩ := k.1.specialBack k.2.1 hy1 k.2.2.2.2.2.2.1 (mvT k.2.2.1 w1) (mvT k.2.2.1 w2) (mvT k.2.2.1 w4) hy (backOf (W := W) (Q := fun v h L => Qy v h ∧ Fr n0 L) (M []) k.2.2.1 w4 w3 hf hl) (g := mkF m pc Ls (argsL.reverse ++ .ref a :: st)) rfl (hsz.trans k.2.2.2.2.2.2.2.1.symm) (Steps.refl _) (a := a) (argsL := argsL) (rest := st) (lenOf hpd hlen) rfl (wsum W st hW) (hb k.2.2.2.2.2.1 hd) (fun _ _ => ⟨rfl, k.2.2.2.1, hc, hs⟩)
  dsimp only [Pt.U, Pt.locs, Pt.cells, Pt.slots] at X' l1 l2 l3 q hQ
  subst l1 l2 l3
  exact Go.tr q (g v T' _ _ (k_hp k X' rfl (Fr.app k.2.2.2.2.1 hQ.2)) hQ.1)
/-- an instance method -/
theorem s_callV (k : K p l e R s m args below meth c bytes own maxL ret nm T locs cells slots Z h n0) {index : Nat} {C : String} {y : MethodName} {yb : ByteArray} {ym : Nat} {yr : Option FieldType} {rm : Room} {Qy : Option Value → Heap → Prop} {ps : List FieldType} {a : Addr} (argsL : List Value) (W : Nat) (hd : decode bytes pc = .ok (.invokevirtual index, 3)) (w1 : (Cond.methodLink own index y).before a0 Z = true) (w2 : (Cond.declares y).before a0 Z = true) (w5 : (Cond.selects C y y).before a0 Z = true) (w6 : (Cond.instanceMethod y).before a0 Z = true) (w3 : (Cond.initialized y.cls).before a0 Z = true) (w4 : (Cond.code y yb ym yr).before a0 Z = true)
    (hy : y.cls ≠ "java/lang/invoke/MethodHandle" ∧ y.cls ≠ "java/lang/invoke/VarHandle") (E : Exa Z h a C) (M : Met l Z y yb ym yr rm n0 (.ref a :: argsL).toArray h Qy) (hf : rm.frames + 1 ≤ R.frames) (hl : W + (ym + 11) + rm.locals ≤ R.locals) (hpd : parseMethodDescriptor y.desc = some ⟨ps, yr⟩) (hlen : argsL.length = ps.length) (hW : (st.map fun v => v.category).sum ≤ W) (hsz : Ls.size = maxL) (hc : cells + rm.cells ≤ R.cells) (hs : slots + rm.slots ≤ R.slots) (hst : rest = argsL.reverse ++ .ref a :: st) (hp : pc + 3 = pc')
    (g : ∀ v T' h' L', K p l e R s m args below meth c bytes own maxL ret nm T' L' (cells + rm.cells) (slots + rm.slots) Z h' n0 → Qy v h' → Go p e below P T' (mkF m pc' Ls (v.toList ++ st))) : Go p e below P T (mkF m pc Ls rest) := by
  subst hp hst
  obtain ⟨cq, kq, qa, qb, qc⟩ := isOf k.2.2.1 k.2.2.2.1 E
  obtain ⟨v, vm1, ⟨T', L', k', n'⟩, -, X', ⟨L, hQ, l1, l2, l3⟩, q⟩ := k.1.virtualBack k.2.1 (y := y) (z := y) k.2.2.2.2.2.2.1 (mvT k.2.2.1 w1) (mvT k.2.2.1 w2) (notFace_of_selects (args := #[]) (mvT k.2.2.1 w5)) (mvT k.2.2.1 w5) (mvT k.2.2.1 w6) hy (backOf (W := W) (Q := fun v h L => Qy v h ∧ Fr n0 L) (M []) k.2.2.1 w4 w3 hf hl) qa qc (g := mkF m pc Ls (argsL.reverse ++ .ref a :: st)) rfl (hsz.trans k.2.2.2.2.2.2.2.1.symm) (Steps.refl _) (argsL := argsL) (rest := st) (lenOf hpd hlen) rfl (wsum W st hW) (hb k.2.2.2.2.2.1 hd) (fun _ _ => ⟨rfl, k.2.2.2.1, hc, hs⟩)
  dsimp only [Pt.U, Pt.locs, Pt.cells, Pt.slots] at X' l1 l2 l3 q hQ
  subst l1 l2 l3
  exact Go.tr q (g v T' _ _ (k_hp k X' rfl (Fr.app k.2.2.2.2.1 hQ.2)) hQ.1)
/-- a private method, called by invokevirtual -/
theorem s_callP (k : K p l e R s m args below meth c bytes own maxL ret nm T locs cells slots Z h n0) {index : Nat} {y : MethodName} {yb : ByteArray} {ym : Nat} {yr : Option FieldType} {rm : Room} {Qy : Option Value → Heap → Prop} {ps : List FieldType} {a : Addr} (argsL : List Value) (W : Nat) (hd : decode bytes pc = .ok (.invokevirtual index, 3)) (w1 : (Cond.methodLink own index y).before a0 Z = true) (w5 : (Cond.selects y.cls y y).before a0 Z = true) (w6 : (Cond.instanceMethod y).before a0 Z = true) (w7 : (Cond.privateMethod y).before a0 Z = true) (w3 : (Cond.initialized y.cls).before a0 Z = true) (w4 : (Cond.code y yb ym yr).before a0 Z = true)
    (hy : y.cls ≠ "java/lang/invoke/MethodHandle" ∧ y.cls ≠ "java/lang/invoke/VarHandle") (E : Exa Z h a y.cls) (M : Met l Z y yb ym yr rm n0 (.ref a :: argsL).toArray h Qy) (hf : rm.frames + 1 ≤ R.frames) (hl : W + (ym + 11) + rm.locals ≤ R.locals) (hpd : parseMethodDescriptor y.desc = some ⟨ps, yr⟩) (hlen : argsL.length = ps.length) (hW : (st.map fun v => v.category).sum ≤ W) (hsz : Ls.size = maxL) (hc : cells + rm.cells ≤ R.cells) (hs : slots + rm.slots ≤ R.slots) (hst : rest = argsL.reverse ++ .ref a :: st) (hp : pc + 3 = pc')
    (g : ∀ v T' h' L', K p l e R s m args below meth c bytes own maxL ret nm T' L' (cells + rm.cells) (slots + rm.slots) Z h' n0 → Qy v h' → Go p e below P T' (mkF m pc' Ls (v.toList ++ st))) : Go p e below P T (mkF m pc Ls rest) := by
  subst hp hst
  obtain ⟨cq, qa, qb⟩ := E.cell
  obtain ⟨v, vm1, ⟨T', L', k', n'⟩, -, X', ⟨L, hQ, l1, l2, l3⟩, q⟩ := k.1.privateBack k.2.1 (y := y) k.2.2.2.2.2.2.1 (mvT k.2.2.1 w1) (mvT k.2.2.1 w6) (mvT k.2.2.1 w5) (Cond.privateMethod_at (mvP k.2.2.1 w7 (args := #[]))) (mvT k.2.2.1 w4) hy (backOf (W := W) (Q := fun v h L => Qy v h ∧ Fr n0 L) (M []) k.2.2.1 w4 w3 hf hl) (g := mkF m pc Ls (argsL.reverse ++ .ref a :: st)) rfl (hsz.trans k.2.2.2.2.2.2.2.1.symm) (Steps.refl _) (a := a) (by rw [k.2.2.2.1]; exact qa) qb (argsL := argsL) (rest := st) (lenOf hpd hlen) rfl (wsum W st hW) (hb k.2.2.2.2.2.1 hd) (fun _ _ => ⟨rfl, k.2.2.2.1, hc, hs⟩)
  dsimp only [Pt.U, Pt.locs, Pt.cells, Pt.slots] at X' l1 l2 l3 q hQ
  subst l1 l2 l3
  exact Go.tr q (g v T' _ _ (k_hp k X' rfl (Fr.app k.2.2.2.2.1 hQ.2)) hQ.1)
end Calls
end Jvm.OwnGo
namespace Jvm.Pilot.@@N@@
open Jvm Jvm.ClassFile Sem Op Lib Jvm.Free Jvm.Stand Jvm.LawKit Jvm.RoadKit Bundle Jvm.OwnGo Jvm.Pilot.@@N@@.Jvm.D
theorem d1_0 : decode prog_28_method_13_code 0 = .ok (.iload_n 2, 1) := by decide +kernel
theorem d1_1 : decode prog_28_method_13_code 1 = .ok (.i2l, 1) := by decide +kernel
theorem d1_2 : decode prog_28_method_13_code 2 = .ok (.lneg, 1) := by decide +kernel
theorem d1_3 : decode prog_28_method_13_code 3 = .ok (.lstore 4, 2) := by decide +kernel
theorem d1_5 : decode prog_28_method_13_code 5 = .ok (.iconst 0, 1) := by decide +kernel
theorem d1_6 : decode prog_28_method_13_code 6 = .ok (.istore 6, 2) := by decide +kernel
theorem d1_8 : decode prog_28_method_13_code 8 = .ok (.iload 6, 2) := by decide +kernel
theorem d1_10 : decode prog_28_method_13_code 10 = .ok (.aload_n 3, 1) := by decide +kernel
theorem d1_11 : decode prog_28_method_13_code 11 = .ok (.arraylength, 1) := by decide +kernel
theorem d1_12 : decode prog_28_method_13_code 12 = .ok (.if_icmp .ge 30, 3) := by decide +kernel
theorem d1_15 : decode prog_28_method_13_code 15 = .ok (.aload_n 3, 1) := by decide +kernel
theorem d1_16 : decode prog_28_method_13_code 16 = .ok (.iload 6, 2) := by decide +kernel
theorem d1_18 : decode prog_28_method_13_code 18 = .ok (.aload_n 0, 1) := by decide +kernel
theorem d1_19 : decode prog_28_method_13_code 19 = .ok (.iload 6, 2) := by decide +kernel
theorem d1_21 : decode prog_28_method_13_code 21 = .ok (.laload, 1) := by decide +kernel
theorem d1_22 : decode prog_28_method_13_code 22 = .ok (.aload_n 0, 1) := by decide +kernel
theorem d1_23 : decode prog_28_method_13_code 23 = .ok (.iload 6, 2) := by decide +kernel
theorem d1_25 : decode prog_28_method_13_code 25 = .ok (.laload, 1) := by decide +kernel
theorem d1_26 : decode prog_28_method_13_code 26 = .ok (.aload_n 1, 1) := by decide +kernel
theorem d1_27 : decode prog_28_method_13_code 27 = .ok (.iload 6, 2) := by decide +kernel
theorem d1_29 : decode prog_28_method_13_code 29 = .ok (.laload, 1) := by decide +kernel
theorem d1_30 : decode prog_28_method_13_code 30 = .ok (.lxor, 1) := by decide +kernel
theorem d1_31 : decode prog_28_method_13_code 31 = .ok (.lload 4, 2) := by decide +kernel
theorem d1_33 : decode prog_28_method_13_code 33 = .ok (.land, 1) := by decide +kernel
theorem d1_34 : decode prog_28_method_13_code 34 = .ok (.lxor, 1) := by decide +kernel
theorem d1_35 : decode prog_28_method_13_code 35 = .ok (.lastore, 1) := by decide +kernel
theorem d1_36 : decode prog_28_method_13_code 36 = .ok (.iinc 6 1, 3) := by decide +kernel
theorem d1_39 : decode prog_28_method_13_code 39 = .ok (.goto (-31), 3) := by decide +kernel
theorem d1_42 : decode prog_28_method_13_code 42 = .ok (.return_, 1) := by decide +kernel
theorem pn_1_rmca : plainFor (⟨"io/credsmith/Montgomery", "choose", "([J[JI[J)V"⟩ : MethodName) = true := plainFor_of_name (by first | (simp [plainName, overriddenIn]; done) | decide +kernel)
theorem ef_rmca {a : Addr} {b : Addr} {t : Int32} (m : MethodId) : entryFrame m #[.ref a, .ref b, .int t, .ref a] 7 = mkF m 0 #[.val (.ref a), .val (.ref b), .val (.int t), .val (.ref a), .unset, .unset, .unset] [] := by first | (simp [entryFrame, mkF, argsToLocals, Value.category]; done) | rfl
set_option maxRecDepth 65536 in
set_option maxHeartbeats 40000000 in
theorem rmca (l : Launch) (Z : State) (a0 : Array Value) (hw : ∀ d ∈ tables_1, d.before a0 Z = true) (a : Addr) (ka : ClassId) (a0v a1v : Int64) (b : Addr) (kb : ClassId) (b0v b1v : Int64) (t : Int32) (h0 : Heap) (n0 : Nat) (Z0 : n0 ≤ h0.size) (A_a : Arv Z h0 a ka .long (2 : Int32) [.long a0v, .long a1v] (.long (0 : Int64))) (A_b : Arv Z h0 b kb .long (2 : Int32) [.long b0v, .long b1v] (.long (0 : Int64))) (g_i : n0 ≤ a) (ne_ab : a ≠ b) :
    Met l Z (⟨"io/credsmith/Montgomery", "choose", "([J[JI[J)V"⟩ : MethodName) prog_28_method_13_code 7 none ({ frames := 0, cells := 0, slots := 0, locals := 0 } : Room) n0 #[.ref a, .ref b, .int t, .ref a] h0 (fun v h => v = none ∧ Keep h0 h [a] ∧ Arv Z h a ka .long (2 : Int32) [.long (a0v ^^^ ((a0v ^^^ b0v) &&& (-t.toInt64))), .long (a1v ^^^ ((a1v ^^^ b1v) &&& (-t.toInt64)))] (.long (0 : Int64))) := by
  have Kp0 := Keep.refl h0 [a]
  refine Met.of (Ls := #[.val (.ref a), .val (.ref b), .val (.int t), .val (.ref a), .unset, .unset, .unset]) pn_1_rmca (fun m => ef_rmca m) fun p e s m below meth c T0 P hP k0 => ?_
  refine s_iloadN k0 d1_0 rfl (pc' := 1) rfl ?_
  refine s_i2l k0 d1_1 rfl (pc' := 2) rfl ?_
  refine s_lneg k0 d1_2 rfl (pc' := 3) rfl ?_
  refine s_lstore k0 d1_3 (l' := #[.val (.ref a), .val (.ref b), .val (.int t), .val (.ref a), .val (.long (-t.toInt64)), .second, .unset]) rfl (pc' := 5) rfl ?_
  refine s_iconst k0 (z := 0) d1_5 (by decide) (pc' := 6) rfl ?_
  refine s_istore k0 d1_6 (l' := #[.val (.ref a), .val (.ref b), .val (.int t), .val (.ref a), .val (.long (-t.toInt64)), .second, .val (.int (0 : Int32))]) rfl (pc' := 8) rfl ?_
  refine s_iload k0 d1_8 rfl (pc' := 10) rfl ?_
  refine s_aloadN k0 d1_10 rfl rfl (pc' := 11) rfl ?_
  refine s_len k0 d1_11 A_a (pc' := 12) rfl ?_
  refine s_icmp_ge k0 d1_12 (by decide) (pc' := 42) (by decide) (pc3 := 15) rfl (fun hc12 => ?_) (fun hc12 => absurd (by decide) hc12)
  refine s_aloadN k0 d1_15 rfl rfl (pc' := 16) rfl ?_
  refine s_iload k0 d1_16 rfl (pc' := 18) rfl ?_
  refine s_aloadN k0 d1_18 rfl rfl (pc' := 19) rfl ?_
  refine s_iload k0 d1_19 rfl (pc' := 21) rfl ?_
  refine s_laload k0 (v := .long a0v) d1_21 A_a ⟨by decide, by decide⟩ rfl (pc' := 22) rfl ?_
  refine s_aloadN k0 d1_22 rfl rfl (pc' := 23) rfl ?_
  refine s_iload k0 d1_23 rfl (pc' := 25) rfl ?_
  refine s_laload k0 (v := .long a0v) d1_25 A_a ⟨by decide, by decide⟩ rfl (pc' := 26) rfl ?_
  refine s_aloadN k0 d1_26 rfl rfl (pc' := 27) rfl ?_
  refine s_iload k0 d1_27 rfl (pc' := 29) rfl ?_
  refine s_laload k0 (v := .long b0v) d1_29 A_b ⟨by decide, by decide⟩ rfl (pc' := 30) rfl ?_
  refine s_lxor k0 d1_30 rfl (pc' := 31) rfl ?_
  refine s_lload k0 d1_31 rfl (pc' := 33) rfl ?_
  refine s_land k0 d1_33 rfl (pc' := 34) rfl ?_
  refine s_lxor k0 d1_34 rfl (pc' := 35) rfl ?_
  refine s_lastore k0 d1_35 A_a ⟨by decide, by decide⟩ (i := 0) rfl (Nat.le_of_ble_eq_true rfl) g_i (pc' := 36) rfl fun T1 h1 L1 k1 W1 A1 => ?_
  have A2_b := A_b.other W1 (Ne.symm ne_ab)
  have Z3 := Nat.le_trans Z0 (Keep.of_wr W1).1
  have Kp4 := Kp0.wr W1 (Or.inl (List.mem_of_getElem? (i := 0) rfl))
  refine s_iinc k1 (z := (1 : Int32)) d1_36 rfl (by decide) (l' := #[.val (.ref a), .val (.ref b), .val (.int t), .val (.ref a), .val (.long (-t.toInt64)), .second, .val (.int (1 : Int32))]) rfl (pc' := 39) rfl ?_
  refine s_goto k1 d1_39 (by decide) (pc' := 8) (by decide) ?_
  refine s_iload k1 d1_8 rfl (pc' := 10) rfl ?_
  refine s_aloadN k1 d1_10 rfl rfl (pc' := 11) rfl ?_
  refine s_len k1 d1_11 A1 (pc' := 12) rfl ?_
  refine s_icmp_ge k1 d1_12 (by decide) (pc' := 42) (by decide) (pc3 := 15) rfl (fun hc12 => ?_) (fun hc12 => absurd (by decide) hc12)
  refine s_aloadN k1 d1_15 rfl rfl (pc' := 16) rfl ?_
  refine s_iload k1 d1_16 rfl (pc' := 18) rfl ?_
  refine s_aloadN k1 d1_18 rfl rfl (pc' := 19) rfl ?_
  refine s_iload k1 d1_19 rfl (pc' := 21) rfl ?_
  refine s_laload k1 (v := .long a1v) d1_21 A1 ⟨by decide, by decide⟩ rfl (pc' := 22) rfl ?_
  refine s_aloadN k1 d1_22 rfl rfl (pc' := 23) rfl ?_
  refine s_iload k1 d1_23 rfl (pc' := 25) rfl ?_
  refine s_laload k1 (v := .long a1v) d1_25 A1 ⟨by decide, by decide⟩ rfl (pc' := 26) rfl ?_
  refine s_aloadN k1 d1_26 rfl rfl (pc' := 27) rfl ?_
  refine s_iload k1 d1_27 rfl (pc' := 29) rfl ?_
  refine s_laload k1 (v := .long b1v) d1_29 A2_b ⟨by decide, by decide⟩ rfl (pc' := 30) rfl ?_
  refine s_lxor k1 d1_30 rfl (pc' := 31) rfl ?_
  refine s_lload k1 d1_31 rfl (pc' := 33) rfl ?_
  refine s_land k1 d1_33 rfl (pc' := 34) rfl ?_
  refine s_lxor k1 d1_34 rfl (pc' := 35) rfl ?_
  refine s_lastore k1 d1_35 A1 ⟨by decide, by decide⟩ (i := 1) rfl (Nat.le_of_ble_eq_true rfl) g_i (pc' := 36) rfl fun T5 h5 L5 k5 W5 A5 => ?_
  have A6_b := A2_b.other W5 (Ne.symm ne_ab)
  have Z7 := Nat.le_trans Z3 (Keep.of_wr W5).1
  have Kp8 := Kp4.wr W5 (Or.inl (List.mem_of_getElem? (i := 0) rfl))
  refine s_iinc k5 (z := (2 : Int32)) d1_36 rfl (by decide) (l' := #[.val (.ref a), .val (.ref b), .val (.int t), .val (.ref a), .val (.long (-t.toInt64)), .second, .val (.int (2 : Int32))]) rfl (pc' := 39) rfl ?_
  refine s_goto k5 d1_39 (by decide) (pc' := 8) (by decide) ?_
  refine s_iload k5 d1_8 rfl (pc' := 10) rfl ?_
  refine s_aloadN k5 d1_10 rfl rfl (pc' := 11) rfl ?_
  refine s_len k5 d1_11 A5 (pc' := 12) rfl ?_
  refine s_icmp_ge k5 d1_12 (by decide) (pc' := 42) (by decide) (pc3 := 15) rfl (fun hc12 => absurd hc12 (by decide)) (fun hc12 => ?_)
  exact s_ret k5 d1_42 rfl hP (by decide) (by decide) ⟨rfl, Kp8, A5⟩
theorem pn_1_rmcb : plainFor (⟨"io/credsmith/Montgomery", "choose", "([J[JI[J)V"⟩ : MethodName) = true := plainFor_of_name (by first | (simp [plainName, overriddenIn]; done) | decide +kernel)
theorem ef_rmcb {a : Addr} {b : Addr} {t : Int32} (m : MethodId) : entryFrame m #[.ref a, .ref b, .int t, .ref b] 7 = mkF m 0 #[.val (.ref a), .val (.ref b), .val (.int t), .val (.ref b), .unset, .unset, .unset] [] := by first | (simp [entryFrame, mkF, argsToLocals, Value.category]; done) | rfl
set_option maxRecDepth 65536 in
set_option maxHeartbeats 40000000 in
theorem rmcb (l : Launch) (Z : State) (a0 : Array Value) (hw : ∀ d ∈ tables_1, d.before a0 Z = true) (a : Addr) (ka : ClassId) (a0v a1v : Int64) (b : Addr) (kb : ClassId) (b0v b1v : Int64) (t : Int32) (h0 : Heap) (n0 : Nat) (Z0 : n0 ≤ h0.size) (A_a : Arv Z h0 a ka .long (2 : Int32) [.long a0v, .long a1v] (.long (0 : Int64))) (A_b : Arv Z h0 b kb .long (2 : Int32) [.long b0v, .long b1v] (.long (0 : Int64))) (g_i : n0 ≤ b) (ne_ab : a ≠ b) :
    Met l Z (⟨"io/credsmith/Montgomery", "choose", "([J[JI[J)V"⟩ : MethodName) prog_28_method_13_code 7 none ({ frames := 0, cells := 0, slots := 0, locals := 0 } : Room) n0 #[.ref a, .ref b, .int t, .ref b] h0 (fun v h => v = none ∧ Keep h0 h [b] ∧ Arv Z h b kb .long (2 : Int32) [.long (a0v ^^^ ((a0v ^^^ b0v) &&& (-t.toInt64))), .long (a1v ^^^ ((a1v ^^^ b1v) &&& (-t.toInt64)))] (.long (0 : Int64))) := by
  have Kp0 := Keep.refl h0 [b]
  refine Met.of (Ls := #[.val (.ref a), .val (.ref b), .val (.int t), .val (.ref b), .unset, .unset, .unset]) pn_1_rmcb (fun m => ef_rmcb m) fun p e s m below meth c T0 P hP k0 => ?_
  refine s_iloadN k0 d1_0 rfl (pc' := 1) rfl ?_
  refine s_i2l k0 d1_1 rfl (pc' := 2) rfl ?_
  refine s_lneg k0 d1_2 rfl (pc' := 3) rfl ?_
  refine s_lstore k0 d1_3 (l' := #[.val (.ref a), .val (.ref b), .val (.int t), .val (.ref b), .val (.long (-t.toInt64)), .second, .unset]) rfl (pc' := 5) rfl ?_
  refine s_iconst k0 (z := 0) d1_5 (by decide) (pc' := 6) rfl ?_
  refine s_istore k0 d1_6 (l' := #[.val (.ref a), .val (.ref b), .val (.int t), .val (.ref b), .val (.long (-t.toInt64)), .second, .val (.int (0 : Int32))]) rfl (pc' := 8) rfl ?_
  refine s_iload k0 d1_8 rfl (pc' := 10) rfl ?_
  refine s_aloadN k0 d1_10 rfl rfl (pc' := 11) rfl ?_
  refine s_len k0 d1_11 A_b (pc' := 12) rfl ?_
  refine s_icmp_ge k0 d1_12 (by decide) (pc' := 42) (by decide) (pc3 := 15) rfl (fun hc12 => ?_) (fun hc12 => absurd (by decide) hc12)
  refine s_aloadN k0 d1_15 rfl rfl (pc' := 16) rfl ?_
  refine s_iload k0 d1_16 rfl (pc' := 18) rfl ?_
  refine s_aloadN k0 d1_18 rfl rfl (pc' := 19) rfl ?_
  refine s_iload k0 d1_19 rfl (pc' := 21) rfl ?_
  refine s_laload k0 (v := .long a0v) d1_21 A_a ⟨by decide, by decide⟩ rfl (pc' := 22) rfl ?_
  refine s_aloadN k0 d1_22 rfl rfl (pc' := 23) rfl ?_
  refine s_iload k0 d1_23 rfl (pc' := 25) rfl ?_
  refine s_laload k0 (v := .long a0v) d1_25 A_a ⟨by decide, by decide⟩ rfl (pc' := 26) rfl ?_
  refine s_aloadN k0 d1_26 rfl rfl (pc' := 27) rfl ?_
  refine s_iload k0 d1_27 rfl (pc' := 29) rfl ?_
  refine s_laload k0 (v := .long b0v) d1_29 A_b ⟨by decide, by decide⟩ rfl (pc' := 30) rfl ?_
  refine s_lxor k0 d1_30 rfl (pc' := 31) rfl ?_
  refine s_lload k0 d1_31 rfl (pc' := 33) rfl ?_
  refine s_land k0 d1_33 rfl (pc' := 34) rfl ?_
  refine s_lxor k0 d1_34 rfl (pc' := 35) rfl ?_
  refine s_lastore k0 d1_35 A_b ⟨by decide, by decide⟩ (i := 0) rfl (Nat.le_of_ble_eq_true rfl) g_i (pc' := 36) rfl fun T1 h1 L1 k1 W1 A1 => ?_
  have A2_a := A_a.other W1 ne_ab
  have Z3 := Nat.le_trans Z0 (Keep.of_wr W1).1
  have Kp4 := Kp0.wr W1 (Or.inl (List.mem_of_getElem? (i := 0) rfl))
  refine s_iinc k1 (z := (1 : Int32)) d1_36 rfl (by decide) (l' := #[.val (.ref a), .val (.ref b), .val (.int t), .val (.ref b), .val (.long (-t.toInt64)), .second, .val (.int (1 : Int32))]) rfl (pc' := 39) rfl ?_
  refine s_goto k1 d1_39 (by decide) (pc' := 8) (by decide) ?_
  refine s_iload k1 d1_8 rfl (pc' := 10) rfl ?_
  refine s_aloadN k1 d1_10 rfl rfl (pc' := 11) rfl ?_
  refine s_len k1 d1_11 A1 (pc' := 12) rfl ?_
  refine s_icmp_ge k1 d1_12 (by decide) (pc' := 42) (by decide) (pc3 := 15) rfl (fun hc12 => ?_) (fun hc12 => absurd (by decide) hc12)
  refine s_aloadN k1 d1_15 rfl rfl (pc' := 16) rfl ?_
  refine s_iload k1 d1_16 rfl (pc' := 18) rfl ?_
  refine s_aloadN k1 d1_18 rfl rfl (pc' := 19) rfl ?_
  refine s_iload k1 d1_19 rfl (pc' := 21) rfl ?_
  refine s_laload k1 (v := .long a1v) d1_21 A2_a ⟨by decide, by decide⟩ rfl (pc' := 22) rfl ?_
  refine s_aloadN k1 d1_22 rfl rfl (pc' := 23) rfl ?_
  refine s_iload k1 d1_23 rfl (pc' := 25) rfl ?_
  refine s_laload k1 (v := .long a1v) d1_25 A2_a ⟨by decide, by decide⟩ rfl (pc' := 26) rfl ?_
  refine s_aloadN k1 d1_26 rfl rfl (pc' := 27) rfl ?_
  refine s_iload k1 d1_27 rfl (pc' := 29) rfl ?_
  refine s_laload k1 (v := .long b1v) d1_29 A1 ⟨by decide, by decide⟩ rfl (pc' := 30) rfl ?_
  refine s_lxor k1 d1_30 rfl (pc' := 31) rfl ?_
  refine s_lload k1 d1_31 rfl (pc' := 33) rfl ?_
  refine s_land k1 d1_33 rfl (pc' := 34) rfl ?_
  refine s_lxor k1 d1_34 rfl (pc' := 35) rfl ?_
  refine s_lastore k1 d1_35 A1 ⟨by decide, by decide⟩ (i := 1) rfl (Nat.le_of_ble_eq_true rfl) g_i (pc' := 36) rfl fun T5 h5 L5 k5 W5 A5 => ?_
  have A6_a := A2_a.other W5 ne_ab
  have Z7 := Nat.le_trans Z3 (Keep.of_wr W5).1
  have Kp8 := Kp4.wr W5 (Or.inl (List.mem_of_getElem? (i := 0) rfl))
  refine s_iinc k5 (z := (2 : Int32)) d1_36 rfl (by decide) (l' := #[.val (.ref a), .val (.ref b), .val (.int t), .val (.ref b), .val (.long (-t.toInt64)), .second, .val (.int (2 : Int32))]) rfl (pc' := 39) rfl ?_
  refine s_goto k5 d1_39 (by decide) (pc' := 8) (by decide) ?_
  refine s_iload k5 d1_8 rfl (pc' := 10) rfl ?_
  refine s_aloadN k5 d1_10 rfl rfl (pc' := 11) rfl ?_
  refine s_len k5 d1_11 A5 (pc' := 12) rfl ?_
  refine s_icmp_ge k5 d1_12 (by decide) (pc' := 42) (by decide) (pc3 := 15) rfl (fun hc12 => absurd hc12 (by decide)) (fun hc12 => ?_)
  exact s_ret k5 d1_42 rfl hP (by decide) (by decide) ⟨rfl, Kp8, A5⟩
theorem pn_1_rmcd : plainFor (⟨"io/credsmith/Montgomery", "choose", "([J[JI[J)V"⟩ : MethodName) = true := plainFor_of_name (by first | (simp [plainName, overriddenIn]; done) | decide +kernel)
theorem ef_rmcd {a : Addr} {b : Addr} {t : Int32} {d : Addr} (m : MethodId) : entryFrame m #[.ref a, .ref b, .int t, .ref d] 7 = mkF m 0 #[.val (.ref a), .val (.ref b), .val (.int t), .val (.ref d), .unset, .unset, .unset] [] := by first | (simp [entryFrame, mkF, argsToLocals, Value.category]; done) | rfl
set_option maxRecDepth 65536 in
set_option maxHeartbeats 40000000 in
theorem rmcd (l : Launch) (Z : State) (a0 : Array Value) (hw : ∀ d ∈ tables_1, d.before a0 Z = true) (a : Addr) (ka : ClassId) (a0v a1v : Int64) (b : Addr) (kb : ClassId) (b0v b1v : Int64) (d : Addr) (kd : ClassId) (d0v d1v : Int64) (t : Int32) (h0 : Heap) (n0 : Nat) (Z0 : n0 ≤ h0.size) (A_a : Arv Z h0 a ka .long (2 : Int32) [.long a0v, .long a1v] (.long (0 : Int64))) (A_b : Arv Z h0 b kb .long (2 : Int32) [.long b0v, .long b1v] (.long (0 : Int64))) (A_d : Arv Z h0 d kd .long (2 : Int32) [.long d0v, .long d1v] (.long (0 : Int64))) (g_i : n0 ≤ d) (ne_ab : a ≠ b) (ne_ad : a ≠ d) (ne_bd : b ≠ d) :
    Met l Z (⟨"io/credsmith/Montgomery", "choose", "([J[JI[J)V"⟩ : MethodName) prog_28_method_13_code 7 none ({ frames := 0, cells := 0, slots := 0, locals := 0 } : Room) n0 #[.ref a, .ref b, .int t, .ref d] h0 (fun v h => v = none ∧ Keep h0 h [d] ∧ Arv Z h d kd .long (2 : Int32) [.long (a0v ^^^ ((a0v ^^^ b0v) &&& (-t.toInt64))), .long (a1v ^^^ ((a1v ^^^ b1v) &&& (-t.toInt64)))] (.long (0 : Int64))) := by
  have Kp0 := Keep.refl h0 [d]
  refine Met.of (Ls := #[.val (.ref a), .val (.ref b), .val (.int t), .val (.ref d), .unset, .unset, .unset]) pn_1_rmcd (fun m => ef_rmcd m) fun p e s m below meth c T0 P hP k0 => ?_
  refine s_iloadN k0 d1_0 rfl (pc' := 1) rfl ?_
  refine s_i2l k0 d1_1 rfl (pc' := 2) rfl ?_
  refine s_lneg k0 d1_2 rfl (pc' := 3) rfl ?_
  refine s_lstore k0 d1_3 (l' := #[.val (.ref a), .val (.ref b), .val (.int t), .val (.ref d), .val (.long (-t.toInt64)), .second, .unset]) rfl (pc' := 5) rfl ?_
  refine s_iconst k0 (z := 0) d1_5 (by decide) (pc' := 6) rfl ?_
  refine s_istore k0 d1_6 (l' := #[.val (.ref a), .val (.ref b), .val (.int t), .val (.ref d), .val (.long (-t.toInt64)), .second, .val (.int (0 : Int32))]) rfl (pc' := 8) rfl ?_
  refine s_iload k0 d1_8 rfl (pc' := 10) rfl ?_
  refine s_aloadN k0 d1_10 rfl rfl (pc' := 11) rfl ?_
  refine s_len k0 d1_11 A_d (pc' := 12) rfl ?_
  refine s_icmp_ge k0 d1_12 (by decide) (pc' := 42) (by decide) (pc3 := 15) rfl (fun hc12 => ?_) (fun hc12 => absurd (by decide) hc12)
  refine s_aloadN k0 d1_15 rfl rfl (pc' := 16) rfl ?_
  refine s_iload k0 d1_16 rfl (pc' := 18) rfl ?_
  refine s_aloadN k0 d1_18 rfl rfl (pc' := 19) rfl ?_
  refine s_iload k0 d1_19 rfl (pc' := 21) rfl ?_
  refine s_laload k0 (v := .long a0v) d1_21 A_a ⟨by decide, by decide⟩ rfl (pc' := 22) rfl ?_
  refine s_aloadN k0 d1_22 rfl rfl (pc' := 23) rfl ?_
  refine s_iload k0 d1_23 rfl (pc' := 25) rfl ?_
  refine s_laload k0 (v := .long a0v) d1_25 A_a ⟨by decide, by decide⟩ rfl (pc' := 26) rfl ?_
  refine s_aloadN k0 d1_26 rfl rfl (pc' := 27) rfl ?_
  refine s_iload k0 d1_27 rfl (pc' := 29) rfl ?_
  refine s_laload k0 (v := .long b0v) d1_29 A_b ⟨by decide, by decide⟩ rfl (pc' := 30) rfl ?_
  refine s_lxor k0 d1_30 rfl (pc' := 31) rfl ?_
  refine s_lload k0 d1_31 rfl (pc' := 33) rfl ?_
  refine s_land k0 d1_33 rfl (pc' := 34) rfl ?_
  refine s_lxor k0 d1_34 rfl (pc' := 35) rfl ?_
  refine s_lastore k0 d1_35 A_d ⟨by decide, by decide⟩ (i := 0) rfl (Nat.le_of_ble_eq_true rfl) g_i (pc' := 36) rfl fun T1 h1 L1 k1 W1 A1 => ?_
  have A2_a := A_a.other W1 ne_ad
  have A3_b := A_b.other W1 ne_bd
  have Z4 := Nat.le_trans Z0 (Keep.of_wr W1).1
  have Kp5 := Kp0.wr W1 (Or.inl (List.mem_of_getElem? (i := 0) rfl))
  refine s_iinc k1 (z := (1 : Int32)) d1_36 rfl (by decide) (l' := #[.val (.ref a), .val (.ref b), .val (.int t), .val (.ref d), .val (.long (-t.toInt64)), .second, .val (.int (1 : Int32))]) rfl (pc' := 39) rfl ?_
  refine s_goto k1 d1_39 (by decide) (pc' := 8) (by decide) ?_
  refine s_iload k1 d1_8 rfl (pc' := 10) rfl ?_
  refine s_aloadN k1 d1_10 rfl rfl (pc' := 11) rfl ?_
  refine s_len k1 d1_11 A1 (pc' := 12) rfl ?_
  refine s_icmp_ge k1 d1_12 (by decide) (pc' := 42) (by decide) (pc3 := 15) rfl (fun hc12 => ?_) (fun hc12 => absurd (by decide) hc12)
  refine s_aloadN k1 d1_15 rfl rfl (pc' := 16) rfl ?_
  refine s_iload k1 d1_16 rfl (pc' := 18) rfl ?_
  refine s_aloadN k1 d1_18 rfl rfl (pc' := 19) rfl ?_
  refine s_iload k1 d1_19 rfl (pc' := 21) rfl ?_
  refine s_laload k1 (v := .long a1v) d1_21 A2_a ⟨by decide, by decide⟩ rfl (pc' := 22) rfl ?_
  refine s_aloadN k1 d1_22 rfl rfl (pc' := 23) rfl ?_
  refine s_iload k1 d1_23 rfl (pc' := 25) rfl ?_
  refine s_laload k1 (v := .long a1v) d1_25 A2_a ⟨by decide, by decide⟩ rfl (pc' := 26) rfl ?_
  refine s_aloadN k1 d1_26 rfl rfl (pc' := 27) rfl ?_
  refine s_iload k1 d1_27 rfl (pc' := 29) rfl ?_
  refine s_laload k1 (v := .long b1v) d1_29 A3_b ⟨by decide, by decide⟩ rfl (pc' := 30) rfl ?_
  refine s_lxor k1 d1_30 rfl (pc' := 31) rfl ?_
  refine s_lload k1 d1_31 rfl (pc' := 33) rfl ?_
  refine s_land k1 d1_33 rfl (pc' := 34) rfl ?_
  refine s_lxor k1 d1_34 rfl (pc' := 35) rfl ?_
  refine s_lastore k1 d1_35 A1 ⟨by decide, by decide⟩ (i := 1) rfl (Nat.le_of_ble_eq_true rfl) g_i (pc' := 36) rfl fun T6 h6 L6 k6 W6 A6 => ?_
  have A7_a := A2_a.other W6 ne_ad
  have A8_b := A3_b.other W6 ne_bd
  have Z9 := Nat.le_trans Z4 (Keep.of_wr W6).1
  have Kp10 := Kp5.wr W6 (Or.inl (List.mem_of_getElem? (i := 0) rfl))
  refine s_iinc k6 (z := (2 : Int32)) d1_36 rfl (by decide) (l' := #[.val (.ref a), .val (.ref b), .val (.int t), .val (.ref d), .val (.long (-t.toInt64)), .second, .val (.int (2 : Int32))]) rfl (pc' := 39) rfl ?_
  refine s_goto k6 d1_39 (by decide) (pc' := 8) (by decide) ?_
  refine s_iload k6 d1_8 rfl (pc' := 10) rfl ?_
  refine s_aloadN k6 d1_10 rfl rfl (pc' := 11) rfl ?_
  refine s_len k6 d1_11 A6 (pc' := 12) rfl ?_
  refine s_icmp_ge k6 d1_12 (by decide) (pc' := 42) (by decide) (pc3 := 15) rfl (fun hc12 => absurd hc12 (by decide)) (fun hc12 => ?_)
  exact s_ret k6 d1_42 rfl hP (by decide) (by decide) ⟨rfl, Kp10, A6⟩
theorem own_0 (x y : Int64) : (x ^^^ ((x ^^^ y) &&& (-(0 : Int32).toInt64))) = x := by
  rw [show (-(0 : Int32).toInt64) = (0 : Int64) from by decide, Int64.and_zero, Int64.xor_zero]
theorem own_1 (x y : Int64) : (x ^^^ ((x ^^^ y) &&& (-(1 : Int32).toInt64))) = y := by
  rw [show (-(1 : Int32).toInt64) = (-1 : Int64) from by decide, Int64.and_neg_one, ← Int64.xor_assoc, Int64.xor_self, Int64.zero_xor]
theorem own_ne (z : Int32) (h : z = (1 : Int32)) : ¬ z = (2 : Int32) := by rw [h]; decide
theorem pd__28_5bJ_5bJI_5bJ_29V : parseMethodDescriptor "([J[JI[J)V" = some ⟨[(.array .long), (.array .long), .int, (.array .long)], none⟩ := by decide +kernel
theorem pn_0_rm0 : plainFor (⟨"io/credsmith/MontgomeryChoosePinLaw", "law", "(JJJJI)Z"⟩ : MethodName) = true := plainFor_of_name (by first | (simp [plainName, overriddenIn]; done) | decide +kernel)
theorem ef_rm0 {i0 : Int64} {i1 : Int64} {i2 : Int64} {i3 : Int64} {i4 : Int32} (m : MethodId) : entryFrame m #[.long i0, .long i1, .long i2, .long i3, .int i4] maxLocals = mkF m 0 #[.val (.long i0), .second, .val (.long i1), .second, .val (.long i2), .second, .val (.long i3), .second, .val (.int i4), .unset, .unset, .unset, .unset, .unset, .unset, .unset, .unset, .unset, .unset, .unset, .unset] [] := by first | (simp [entryFrame, mkF, argsToLocals, Value.category, maxLocals]; done) | rfl
set_option maxRecDepth 65536 in
set_option maxHeartbeats 40000000 in
theorem rm0 (l : Launch) (Z : State) (a0 : Array Value) (hw : ∀ d ∈ tables_1, d.before a0 Z = true) (i0 i1 i2 i3 : Int64) (i4 : Int32) (h0 : Heap) (n0 : Nat) (Z0 : n0 ≤ h0.size)  :
    Met l Z x code maxLocals ret room_1 n0 #[.long i0, .long i1, .long i2, .long i3, .int i4] h0 (fun v h => v = some (.int 1)) := by
  refine Met.of (Ls := #[.val (.long i0), .second, .val (.long i1), .second, .val (.long i2), .second, .val (.long i3), .second, .val (.int i4), .unset, .unset, .unset, .unset, .unset, .unset, .unset, .unset, .unset, .unset, .unset, .unset]) pn_0_rm0 (fun m => ef_rm0 m) fun p e s m below meth c T0 P hP k0 => ?_
  refine s_iload k0 at_0 rfl (pc' := 2) rfl ?_
  refine s_iconst k0 (z := 1) at_2 (by decide) (pc' := 3) rfl ?_
  refine s_iand k0 at_3 rfl (pc' := 4) rfl ?_
  refine s_if_eq k0 at_4 (by decide) (pc' := 11) (by decide) (pc3 := 7) rfl (fun hc4 => ?_) (fun hc4 => ?_)
  · refine s_iconst k0 (z := 0) at_11 (by decide) (pc' := 12) rfl ?_
    refine s_istore k0 at_12 (l' := #[.val (.long i0), .second, .val (.long i1), .second, .val (.long i2), .second, .val (.long i3), .second, .val (.int i4), .val (.int (0 : Int32)), .unset, .unset, .unset, .unset, .unset, .unset, .unset, .unset, .unset, .unset, .unset]) rfl (pc' := 14) rfl ?_
    refine s_iload k0 at_14 rfl (pc' := 16) rfl ?_
    refine s_if_eq k0 at_16 (by decide) (pc' := 23) (by decide) (pc3 := 19) rfl (fun hc16 => ?_) (fun hc16 => absurd (by decide) hc16)
    refine s_iconst k0 (z := 0) at_23 (by decide) (pc' := 24) rfl ?_
    refine s_istore k0 at_24 (l' := #[.val (.long i0), .second, .val (.long i1), .second, .val (.long i2), .second, .val (.long i3), .second, .val (.int i4), .val (.int (0 : Int32)), .val (.int (0 : Int32)), .unset, .unset, .unset, .unset, .unset, .unset, .unset, .unset, .unset, .unset]) rfl (pc' := 26) rfl ?_
    refine s_iload k0 at_26 rfl (pc' := 28) rfl ?_
    refine s_iconst k0 (z := 1) at_28 (by decide) (pc' := 29) rfl ?_
    refine s_iushr k0 at_29 rfl (pc' := 30) rfl ?_
    refine s_iconst k0 (z := 3) at_30 (by decide) (pc' := 31) rfl ?_
    refine s_irem k0 at_31 (by decide) rfl (pc' := 32) rfl ?_
    refine s_istore k0 at_32 (l' := #[.val (.long i0), .second, .val (.long i1), .second, .val (.long i2), .second, .val (.long i3), .second, .val (.int i4), .val (.int (0 : Int32)), .val (.int (0 : Int32)), .val (.int ((Jvm.Free.XT.ushr i4 (1 : Int32)) % (3 : Int32))), .unset, .unset, .unset, .unset, .unset, .unset, .unset, .unset, .unset]) rfl (pc' := 34) rfl ?_
    refine s_iconst k0 (z := 2) at_34 (by decide) (pc' := 35) rfl ?_
    refine s_newP k0 (cap := 2) at_35 (hw _ (List.mem_of_getElem? (i := 0) rfl)) (by decide) (by decide) (by decide) (by decide) (by decide) (pc' := 37) rfl fun T1 h1 b1 c1 q1 k1 X1 A1 => ?_
    have g_b1 : n0 ≤ b1 := Nat.le_trans Z0 (Nat.le_of_eq q1.symm)
    have Z2 := Nat.le_trans Z0 X1.1
    have A1p : Arv Z h1 b1 c1 .long (2 : Int32) [(.long (0 : Int64)), (.long (0 : Int64))] (.long (0 : Int64)) := (show Arv Z h1 b1 c1 .long (2 : Int32) [] (.long (0 : Int64)) from A1).pad (pad_rep [] _ 2)
    refine s_dup k1 at_37 rfl (pc' := 38) rfl ?_
    refine s_iconst k1 (z := 0) at_38 (by decide) (pc' := 39) rfl ?_
    refine s_lloadN k1 at_39 rfl (pc' := 40) rfl ?_
    refine s_lastore k1 at_40 A1p ⟨by decide, by decide⟩ (i := 0) rfl (Nat.le_of_ble_eq_true rfl) g_b1 (pc' := 41) rfl fun T3 h3 L3 k3 W3 A3 => ?_
    have Z4 := Nat.le_trans Z2 (Keep.of_wr W3).1
    refine s_dup k3 at_41 rfl (pc' := 42) rfl ?_
    refine s_iconst k3 (z := 1) at_42 (by decide) (pc' := 43) rfl ?_
    refine s_lloadN k3 at_43 rfl (pc' := 44) rfl ?_
    refine s_lastore k3 at_44 A3 ⟨by decide, by decide⟩ (i := 1) rfl (Nat.le_of_ble_eq_true rfl) g_b1 (pc' := 45) rfl fun T5 h5 L5 k5 W5 A5 => ?_
    have Z6 := Nat.le_trans Z4 (Keep.of_wr W5).1
    refine s_astore k5 at_45 rfl (l' := #[.val (.long i0), .second, .val (.long i1), .second, .val (.long i2), .second, .val (.long i3), .second, .val (.int i4), .val (.int (0 : Int32)), .val (.int (0 : Int32)), .val (.int ((Jvm.Free.XT.ushr i4 (1 : Int32)) % (3 : Int32))), .val (.ref b1), .unset, .unset, .unset, .unset, .unset, .unset, .unset, .unset]) rfl (pc' := 47) rfl ?_
    refine s_iconst k5 (z := 2) at_47 (by decide) (pc' := 48) rfl ?_
    refine s_newP k5 (cap := 2) at_48 (hw _ (List.mem_of_getElem? (i := 0) rfl)) (by decide) (by decide) (by decide) (by decide) (by decide) (pc' := 50) rfl fun T7 h7 b7 c7 q7 k7 X7 A7 => ?_
    have ne_b1_b7 : b1 ≠ b7 := Nat.ne_of_lt (Nat.lt_of_lt_of_eq A5.lt q7.symm)
    have g_b7 : n0 ≤ b7 := Nat.le_trans Z6 (Nat.le_of_eq q7.symm)
    have A8_b1 := A5.ext X7
    have Z9 := Nat.le_trans Z6 X7.1
    have A7p : Arv Z h7 b7 c7 .long (2 : Int32) [(.long (0 : Int64)), (.long (0 : Int64))] (.long (0 : Int64)) := (show Arv Z h7 b7 c7 .long (2 : Int32) [] (.long (0 : Int64)) from A7).pad (pad_rep [] _ 2)
    refine s_dup k7 at_50 rfl (pc' := 51) rfl ?_
    refine s_iconst k7 (z := 0) at_51 (by decide) (pc' := 52) rfl ?_
    refine s_lload k7 at_52 rfl (pc' := 54) rfl ?_
    refine s_lastore k7 at_54 A7p ⟨by decide, by decide⟩ (i := 0) rfl (Nat.le_of_ble_eq_true rfl) g_b7 (pc' := 55) rfl fun T10 h10 L10 k10 W10 A10 => ?_
    have A11_b1 := A8_b1.other W10 ne_b1_b7
    have Z12 := Nat.le_trans Z9 (Keep.of_wr W10).1
    refine s_dup k10 at_55 rfl (pc' := 56) rfl ?_
    refine s_iconst k10 (z := 1) at_56 (by decide) (pc' := 57) rfl ?_
    refine s_lload k10 at_57 rfl (pc' := 59) rfl ?_
    refine s_lastore k10 at_59 A10 ⟨by decide, by decide⟩ (i := 1) rfl (Nat.le_of_ble_eq_true rfl) g_b7 (pc' := 60) rfl fun T13 h13 L13 k13 W13 A13 => ?_
    have A14_b1 := A11_b1.other W13 ne_b1_b7
    have Z15 := Nat.le_trans Z12 (Keep.of_wr W13).1
    refine s_astore k13 at_60 rfl (l' := #[.val (.long i0), .second, .val (.long i1), .second, .val (.long i2), .second, .val (.long i3), .second, .val (.int i4), .val (.int (0 : Int32)), .val (.int (0 : Int32)), .val (.int ((Jvm.Free.XT.ushr i4 (1 : Int32)) % (3 : Int32))), .val (.ref b1), .val (.ref b7), .unset, .unset, .unset, .unset, .unset, .unset, .unset]) rfl (pc' := 62) rfl ?_
    refine s_iconst k13 (z := 2) at_62 (by decide) (pc' := 63) rfl ?_
    refine s_newP k13 (cap := 2) at_63 (hw _ (List.mem_of_getElem? (i := 0) rfl)) (by decide) (by decide) (by decide) (by decide) (by decide) (pc' := 65) rfl fun T16 h16 b16 c16 q16 k16 X16 A16 => ?_
    have ne_b1_b16 : b1 ≠ b16 := Nat.ne_of_lt (Nat.lt_of_lt_of_eq A14_b1.lt q16.symm)
    have ne_b7_b16 : b7 ≠ b16 := Nat.ne_of_lt (Nat.lt_of_lt_of_eq A13.lt q16.symm)
    have g_b16 : n0 ≤ b16 := Nat.le_trans Z15 (Nat.le_of_eq q16.symm)
    have A17_b1 := A14_b1.ext X16
    have A18_b7 := A13.ext X16
    have Z19 := Nat.le_trans Z15 X16.1
    have A16p : Arv Z h16 b16 c16 .long (2 : Int32) [(.long (0 : Int64)), (.long (0 : Int64))] (.long (0 : Int64)) := (show Arv Z h16 b16 c16 .long (2 : Int32) [] (.long (0 : Int64)) from A16).pad (pad_rep [] _ 2)
    refine s_dup k16 at_65 rfl (pc' := 66) rfl ?_
    refine s_iconst k16 (z := 0) at_66 (by decide) (pc' := 67) rfl ?_
    refine s_lloadN k16 at_67 rfl (pc' := 68) rfl ?_
    refine s_ldcL k16 at_68 (hw _ (List.mem_of_getElem? (i := 1) rfl)) (pc' := 71) rfl ?_
    refine s_lxor k16 at_71 rfl (pc' := 72) rfl ?_
    refine s_lload k16 at_72 rfl (pc' := 74) rfl ?_
    refine s_lxor k16 at_74 rfl (pc' := 75) rfl ?_
    refine s_lastore k16 at_75 A16p ⟨by decide, by decide⟩ (i := 0) rfl (Nat.le_of_ble_eq_true rfl) g_b16 (pc' := 76) rfl fun T20 h20 L20 k20 W20 A20 => ?_
    have A21_b1 := A17_b1.other W20 ne_b1_b16
    have A22_b7 := A18_b7.other W20 ne_b7_b16
    have Z23 := Nat.le_trans Z19 (Keep.of_wr W20).1
    refine s_dup k20 at_76 rfl (pc' := 77) rfl ?_
    refine s_iconst k20 (z := 1) at_77 (by decide) (pc' := 78) rfl ?_
    refine s_lload k20 at_78 rfl (pc' := 80) rfl ?_
    refine s_ldcL k20 at_80 (hw _ (List.mem_of_getElem? (i := 1) rfl)) (pc' := 83) rfl ?_
    refine s_lxor k20 at_83 rfl (pc' := 84) rfl ?_
    refine s_lloadN k20 at_84 rfl (pc' := 85) rfl ?_
    refine s_lxor k20 at_85 rfl (pc' := 86) rfl ?_
    refine s_lastore k20 at_86 A20 ⟨by decide, by decide⟩ (i := 1) rfl (Nat.le_of_ble_eq_true rfl) g_b16 (pc' := 87) rfl fun T24 h24 L24 k24 W24 A24 => ?_
    have A25_b1 := A21_b1.other W24 ne_b1_b16
    have A26_b7 := A22_b7.other W24 ne_b7_b16
    have Z27 := Nat.le_trans Z23 (Keep.of_wr W24).1
    refine s_astore k24 at_87 rfl (l' := #[.val (.long i0), .second, .val (.long i1), .second, .val (.long i2), .second, .val (.long i3), .second, .val (.int i4), .val (.int (0 : Int32)), .val (.int (0 : Int32)), .val (.int ((Jvm.Free.XT.ushr i4 (1 : Int32)) % (3 : Int32))), .val (.ref b1), .val (.ref b7), .val (.ref b16), .unset, .unset, .unset, .unset, .unset, .unset]) rfl (pc' := 89) rfl ?_
    refine s_iload k24 at_89 rfl (pc' := 91) rfl ?_
    refine s_iconst k24 (z := 1) at_91 (by decide) (pc' := 92) rfl ?_
    refine s_icmp_ne k24 at_92 (by decide) (pc' := 100) (by decide) (pc3 := 95) rfl (fun hc92 => ?_) (fun hc92 => ?_)
    · refine s_aload k24 at_95 rfl rfl (pc' := 97) rfl ?_
      refine s_goto k24 at_97 (by decide) (pc' := 113) (by decide) ?_
      refine s_astore k24 at_113 rfl (l' := #[.val (.long i0), .second, .val (.long i1), .second, .val (.long i2), .second, .val (.long i3), .second, .val (.int i4), .val (.int (0 : Int32)), .val (.int (0 : Int32)), .val (.int ((Jvm.Free.XT.ushr i4 (1 : Int32)) % (3 : Int32))), .val (.ref b1), .val (.ref b7), .val (.ref b16), .val (.ref b1), .unset, .unset, .unset, .unset, .unset]) rfl (pc' := 115) rfl ?_
      refine s_aload k24 at_115 rfl rfl (pc' := 117) rfl ?_
      refine s_aload k24 at_117 rfl rfl (pc' := 119) rfl ?_
      refine s_iload k24 at_119 rfl (pc' := 121) rfl ?_
      refine s_aload k24 at_121 rfl rfl (pc' := 123) rfl ?_
      refine s_callS k24 [.ref b1, .ref b7, .int (0 : Int32), .ref b1] 0 at_123 (hw _ (List.mem_of_getElem? (i := 2) rfl)) (hw _ (List.mem_of_getElem? (i := 3) rfl)) (hw _ (List.mem_of_getElem? (i := 4) rfl)) (hw _ (List.mem_of_getElem? (i := 5) rfl)) (by decide) (rmca l Z a0 hw b1 c1 i0 i1 b7 c7 i2 i3 (0 : Int32) h24 n0 Z27 A25_b1 A26_b7 g_b1 ne_b1_b7) (by decide) (by decide) pd__28_5bJ_5bJI_5bJ_29V rfl (Nat.le_of_eq rfl) rfl (by decide) (by decide) rfl (pc' := 126) rfl fun v28 T28 h28 L28 k28 Qv28 => ?_
      obtain ⟨rfl, Kc28, G28⟩ := Qv28
      have A29_b7 := A26_b7.keep Kc28 (ninS (Ne.symm ne_b1_b7) nin0)
      have A30_b16 := A24.keep Kc28 (ninS (Ne.symm ne_b1_b16) nin0)
      have Z31 := Nat.le_trans Z27 Kc28.1
      show Go p e below P T28 (mkF m 126 #[.val (.long i0), .second, .val (.long i1), .second, .val (.long i2), .second, .val (.long i3), .second, .val (.int i4), .val (.int (0 : Int32)), .val (.int (0 : Int32)), .val (.int ((Jvm.Free.XT.ushr i4 (1 : Int32)) % (3 : Int32))), .val (.ref b1), .val (.ref b7), .val (.ref b16), .val (.ref b1), .unset, .unset, .unset, .unset, .unset] [])
      refine s_iload k28 at_126 rfl (pc' := 128) rfl ?_
      refine s_if_eq k28 at_128 (by decide) (pc' := 136) (by decide) (pc3 := 131) rfl (fun hc128 => ?_) (fun hc128 => absurd (by decide) hc128)
      refine s_lloadN k28 at_136 rfl (pc' := 137) rfl ?_
      refine s_lstore k28 at_137 (l' := #[.val (.long i0), .second, .val (.long i1), .second, .val (.long i2), .second, .val (.long i3), .second, .val (.int i4), .val (.int (0 : Int32)), .val (.int (0 : Int32)), .val (.int ((Jvm.Free.XT.ushr i4 (1 : Int32)) % (3 : Int32))), .val (.ref b1), .val (.ref b7), .val (.ref b16), .val (.ref b1), .val (.long i0), .second, .unset, .unset, .unset]) rfl (pc' := 139) rfl ?_
      refine s_iload k28 at_139 rfl (pc' := 141) rfl ?_
      refine s_if_eq k28 at_141 (by decide) (pc' := 149) (by decide) (pc3 := 144) rfl (fun hc141 => ?_) (fun hc141 => absurd (by decide) hc141)
      refine s_lloadN k28 at_149 rfl (pc' := 150) rfl ?_
      refine s_lstore k28 at_150 (l' := #[.val (.long i0), .second, .val (.long i1), .second, .val (.long i2), .second, .val (.long i3), .second, .val (.int i4), .val (.int (0 : Int32)), .val (.int (0 : Int32)), .val (.int ((Jvm.Free.XT.ushr i4 (1 : Int32)) % (3 : Int32))), .val (.ref b1), .val (.ref b7), .val (.ref b16), .val (.ref b1), .val (.long i0), .second, .val (.long i1), .second, .unset]) rfl (pc' := 152) rfl ?_
      refine s_aload k28 at_152 rfl rfl (pc' := 154) rfl ?_
      refine s_iconst k28 (z := 0) at_154 (by decide) (pc' := 155) rfl ?_
      refine s_laload k28 (v := .long (i0 ^^^ ((i0 ^^^ i2) &&& (-(0 : Int32).toInt64)))) at_155 G28 ⟨by decide, by decide⟩ rfl (pc' := 156) rfl ?_
      refine s_lload k28 at_156 rfl (pc' := 158) rfl ?_
      refine s_lcmp_ne k28 at_158 rfl at_159 (by decide) (pc' := 176) (by decide) (pc3 := 162) rfl (fun hc158 => ?_) (fun hc158 => absurd (own_0 _ _) hc158)
      refine s_aload k28 at_162 rfl rfl (pc' := 164) rfl ?_
      refine s_iconst k28 (z := 1) at_164 (by decide) (pc' := 165) rfl ?_
      refine s_laload k28 (v := .long (i1 ^^^ ((i1 ^^^ i3) &&& (-(0 : Int32).toInt64)))) at_165 G28 ⟨by decide, by decide⟩ rfl (pc' := 166) rfl ?_
      refine s_lload k28 at_166 rfl (pc' := 168) rfl ?_
      refine s_lcmp_ne k28 at_168 rfl at_169 (by decide) (pc' := 176) (by decide) (pc3 := 172) rfl (fun hc168 => ?_) (fun hc168 => absurd (own_0 _ _) hc168)
      refine s_iconst k28 (z := 1) at_172 (by decide) (pc' := 173) rfl ?_
      refine s_goto k28 at_173 (by decide) (pc' := 177) (by decide) ?_
      refine s_istore k28 at_177 (l' := #[.val (.long i0), .second, .val (.long i1), .second, .val (.long i2), .second, .val (.long i3), .second, .val (.int i4), .val (.int (0 : Int32)), .val (.int (0 : Int32)), .val (.int ((Jvm.Free.XT.ushr i4 (1 : Int32)) % (3 : Int32))), .val (.ref b1), .val (.ref b7), .val (.ref b16), .val (.ref b1), .val (.long i0), .second, .val (.long i1), .second, .val (.int (1 : Int32))]) rfl (pc' := 179) rfl ?_
      refine s_iload k28 at_179 rfl (pc' := 181) rfl ?_
      refine s_iconst k28 (z := 1) at_181 (by decide) (pc' := 182) rfl ?_
      refine s_icmp_eq k28 at_182 (by decide) (pc' := 215) (by decide) (pc3 := 185) rfl (fun hc182 => ?_) (fun hc182 => absurd hc92 hc182)
      refine s_iload k28 at_215 rfl (pc' := 217) rfl ?_
      refine s_iconst k28 (z := 2) at_217 (by decide) (pc' := 218) rfl ?_
      refine s_icmp_eq k28 at_218 (by decide) (pc' := 253) (by decide) (pc3 := 221) rfl (fun hc218 => absurd hc218 (own_ne _ hc92)) (fun hc218 => ?_)
      refine s_iload k28 at_221 rfl (pc' := 223) rfl ?_
      refine s_if_eq k28 at_223 (by decide) (pc' := 250) (by decide) (pc3 := 226) rfl (fun hc223 => absurd hc223 (by decide)) (fun hc223 => ?_)
      refine s_aload k28 at_226 rfl rfl (pc' := 228) rfl ?_
      refine s_iconst k28 (z := 0) at_228 (by decide) (pc' := 229) rfl ?_
      refine s_laload k28 (v := .long i2) at_229 A29_b7 ⟨by decide, by decide⟩ rfl (pc' := 230) rfl ?_
      refine s_lload k28 at_230 rfl (pc' := 232) rfl ?_
      refine s_lcmp_ne k28 at_232 rfl at_233 (by decide) (pc' := 250) (by decide) (pc3 := 236) rfl (fun hc232 => ?_) (fun hc232 => absurd rfl hc232)
      refine s_aload k28 at_236 rfl rfl (pc' := 238) rfl ?_
      refine s_iconst k28 (z := 1) at_238 (by decide) (pc' := 239) rfl ?_
      refine s_laload k28 (v := .long i3) at_239 A29_b7 ⟨by decide, by decide⟩ rfl (pc' := 240) rfl ?_
      refine s_lload k28 at_240 rfl (pc' := 242) rfl ?_
      refine s_lcmp_ne k28 at_242 rfl at_243 (by decide) (pc' := 250) (by decide) (pc3 := 246) rfl (fun hc242 => ?_) (fun hc242 => absurd rfl hc242)
      refine s_iconst k28 (z := 1) at_246 (by decide) (pc' := 247) rfl ?_
      refine s_goto k28 at_247 (by decide) (pc' := 251) (by decide) ?_
      refine s_istore k28 at_251 (l' := #[.val (.long i0), .second, .val (.long i1), .second, .val (.long i2), .second, .val (.long i3), .second, .val (.int i4), .val (.int (0 : Int32)), .val (.int (0 : Int32)), .val (.int ((Jvm.Free.XT.ushr i4 (1 : Int32)) % (3 : Int32))), .val (.ref b1), .val (.ref b7), .val (.ref b16), .val (.ref b1), .val (.long i0), .second, .val (.long i1), .second, .val (.int (1 : Int32))]) rfl (pc' := 253) rfl ?_
      refine s_iload k28 at_253 rfl (pc' := 255) rfl ?_
      exact s_retZ k28 at_255 rfl (by decide) hP (by decide) (by decide) rfl
    · refine s_iload k24 at_100 rfl (pc' := 102) rfl ?_
      refine s_iconst k24 (z := 2) at_102 (by decide) (pc' := 103) rfl ?_
      refine s_icmp_ne k24 at_103 (by decide) (pc' := 111) (by decide) (pc3 := 106) rfl (fun hc103 => ?_) (fun hc103 => ?_)
      · refine s_aload k24 at_106 rfl rfl (pc' := 108) rfl ?_
        refine s_goto k24 at_108 (by decide) (pc' := 113) (by decide) ?_
        refine s_astore k24 at_113 rfl (l' := #[.val (.long i0), .second, .val (.long i1), .second, .val (.long i2), .second, .val (.long i3), .second, .val (.int i4), .val (.int (0 : Int32)), .val (.int (0 : Int32)), .val (.int ((Jvm.Free.XT.ushr i4 (1 : Int32)) % (3 : Int32))), .val (.ref b1), .val (.ref b7), .val (.ref b16), .val (.ref b7), .unset, .unset, .unset, .unset, .unset]) rfl (pc' := 115) rfl ?_
        refine s_aload k24 at_115 rfl rfl (pc' := 117) rfl ?_
        refine s_aload k24 at_117 rfl rfl (pc' := 119) rfl ?_
        refine s_iload k24 at_119 rfl (pc' := 121) rfl ?_
        refine s_aload k24 at_121 rfl rfl (pc' := 123) rfl ?_
        refine s_callS k24 [.ref b1, .ref b7, .int (0 : Int32), .ref b7] 0 at_123 (hw _ (List.mem_of_getElem? (i := 2) rfl)) (hw _ (List.mem_of_getElem? (i := 3) rfl)) (hw _ (List.mem_of_getElem? (i := 4) rfl)) (hw _ (List.mem_of_getElem? (i := 5) rfl)) (by decide) (rmcb l Z a0 hw b1 c1 i0 i1 b7 c7 i2 i3 (0 : Int32) h24 n0 Z27 A25_b1 A26_b7 g_b7 ne_b1_b7) (by decide) (by decide) pd__28_5bJ_5bJI_5bJ_29V rfl (Nat.le_of_eq rfl) rfl (by decide) (by decide) rfl (pc' := 126) rfl fun v32 T32 h32 L32 k32 Qv32 => ?_
        obtain ⟨rfl, Kc32, G32⟩ := Qv32
        have A33_b1 := A25_b1.keep Kc32 (ninS ne_b1_b7 nin0)
        have A34_b16 := A24.keep Kc32 (ninS (Ne.symm ne_b7_b16) nin0)
        have Z35 := Nat.le_trans Z27 Kc32.1
        show Go p e below P T32 (mkF m 126 #[.val (.long i0), .second, .val (.long i1), .second, .val (.long i2), .second, .val (.long i3), .second, .val (.int i4), .val (.int (0 : Int32)), .val (.int (0 : Int32)), .val (.int ((Jvm.Free.XT.ushr i4 (1 : Int32)) % (3 : Int32))), .val (.ref b1), .val (.ref b7), .val (.ref b16), .val (.ref b7), .unset, .unset, .unset, .unset, .unset] [])
        refine s_iload k32 at_126 rfl (pc' := 128) rfl ?_
        refine s_if_eq k32 at_128 (by decide) (pc' := 136) (by decide) (pc3 := 131) rfl (fun hc128 => ?_) (fun hc128 => absurd (by decide) hc128)
        refine s_lloadN k32 at_136 rfl (pc' := 137) rfl ?_
        refine s_lstore k32 at_137 (l' := #[.val (.long i0), .second, .val (.long i1), .second, .val (.long i2), .second, .val (.long i3), .second, .val (.int i4), .val (.int (0 : Int32)), .val (.int (0 : Int32)), .val (.int ((Jvm.Free.XT.ushr i4 (1 : Int32)) % (3 : Int32))), .val (.ref b1), .val (.ref b7), .val (.ref b16), .val (.ref b7), .val (.long i0), .second, .unset, .unset, .unset]) rfl (pc' := 139) rfl ?_
        refine s_iload k32 at_139 rfl (pc' := 141) rfl ?_
        refine s_if_eq k32 at_141 (by decide) (pc' := 149) (by decide) (pc3 := 144) rfl (fun hc141 => ?_) (fun hc141 => absurd (by decide) hc141)
        refine s_lloadN k32 at_149 rfl (pc' := 150) rfl ?_
        refine s_lstore k32 at_150 (l' := #[.val (.long i0), .second, .val (.long i1), .second, .val (.long i2), .second, .val (.long i3), .second, .val (.int i4), .val (.int (0 : Int32)), .val (.int (0 : Int32)), .val (.int ((Jvm.Free.XT.ushr i4 (1 : Int32)) % (3 : Int32))), .val (.ref b1), .val (.ref b7), .val (.ref b16), .val (.ref b7), .val (.long i0), .second, .val (.long i1), .second, .unset]) rfl (pc' := 152) rfl ?_
        refine s_aload k32 at_152 rfl rfl (pc' := 154) rfl ?_
        refine s_iconst k32 (z := 0) at_154 (by decide) (pc' := 155) rfl ?_
        refine s_laload k32 (v := .long (i0 ^^^ ((i0 ^^^ i2) &&& (-(0 : Int32).toInt64)))) at_155 G32 ⟨by decide, by decide⟩ rfl (pc' := 156) rfl ?_
        refine s_lload k32 at_156 rfl (pc' := 158) rfl ?_
        refine s_lcmp_ne k32 at_158 rfl at_159 (by decide) (pc' := 176) (by decide) (pc3 := 162) rfl (fun hc158 => ?_) (fun hc158 => absurd (own_0 _ _) hc158)
        refine s_aload k32 at_162 rfl rfl (pc' := 164) rfl ?_
        refine s_iconst k32 (z := 1) at_164 (by decide) (pc' := 165) rfl ?_
        refine s_laload k32 (v := .long (i1 ^^^ ((i1 ^^^ i3) &&& (-(0 : Int32).toInt64)))) at_165 G32 ⟨by decide, by decide⟩ rfl (pc' := 166) rfl ?_
        refine s_lload k32 at_166 rfl (pc' := 168) rfl ?_
        refine s_lcmp_ne k32 at_168 rfl at_169 (by decide) (pc' := 176) (by decide) (pc3 := 172) rfl (fun hc168 => ?_) (fun hc168 => absurd (own_0 _ _) hc168)
        refine s_iconst k32 (z := 1) at_172 (by decide) (pc' := 173) rfl ?_
        refine s_goto k32 at_173 (by decide) (pc' := 177) (by decide) ?_
        refine s_istore k32 at_177 (l' := #[.val (.long i0), .second, .val (.long i1), .second, .val (.long i2), .second, .val (.long i3), .second, .val (.int i4), .val (.int (0 : Int32)), .val (.int (0 : Int32)), .val (.int ((Jvm.Free.XT.ushr i4 (1 : Int32)) % (3 : Int32))), .val (.ref b1), .val (.ref b7), .val (.ref b16), .val (.ref b7), .val (.long i0), .second, .val (.long i1), .second, .val (.int (1 : Int32))]) rfl (pc' := 179) rfl ?_
        refine s_iload k32 at_179 rfl (pc' := 181) rfl ?_
        refine s_iconst k32 (z := 1) at_181 (by decide) (pc' := 182) rfl ?_
        refine s_icmp_eq k32 at_182 (by decide) (pc' := 215) (by decide) (pc3 := 185) rfl (fun hc182 => absurd hc182 hc92) (fun hc182 => ?_)
        refine s_iload k32 at_185 rfl (pc' := 187) rfl ?_
        refine s_if_eq k32 at_187 (by decide) (pc' := 212) (by decide) (pc3 := 190) rfl (fun hc187 => absurd hc187 (by decide)) (fun hc187 => ?_)
        refine s_aload k32 at_190 rfl rfl (pc' := 192) rfl ?_
        refine s_iconst k32 (z := 0) at_192 (by decide) (pc' := 193) rfl ?_
        refine s_laload k32 (v := .long i0) at_193 A33_b1 ⟨by decide, by decide⟩ rfl (pc' := 194) rfl ?_
        refine s_lloadN k32 at_194 rfl (pc' := 195) rfl ?_
        refine s_lcmp_ne k32 at_195 rfl at_196 (by decide) (pc' := 212) (by decide) (pc3 := 199) rfl (fun hc195 => ?_) (fun hc195 => absurd rfl hc195)
        refine s_aload k32 at_199 rfl rfl (pc' := 201) rfl ?_
        refine s_iconst k32 (z := 1) at_201 (by decide) (pc' := 202) rfl ?_
        refine s_laload k32 (v := .long i1) at_202 A33_b1 ⟨by decide, by decide⟩ rfl (pc' := 203) rfl ?_
        refine s_lloadN k32 at_203 rfl (pc' := 204) rfl ?_
        refine s_lcmp_ne k32 at_204 rfl at_205 (by decide) (pc' := 212) (by decide) (pc3 := 208) rfl (fun hc204 => ?_) (fun hc204 => absurd rfl hc204)
        refine s_iconst k32 (z := 1) at_208 (by decide) (pc' := 209) rfl ?_
        refine s_goto k32 at_209 (by decide) (pc' := 213) (by decide) ?_
        refine s_istore k32 at_213 (l' := #[.val (.long i0), .second, .val (.long i1), .second, .val (.long i2), .second, .val (.long i3), .second, .val (.int i4), .val (.int (0 : Int32)), .val (.int (0 : Int32)), .val (.int ((Jvm.Free.XT.ushr i4 (1 : Int32)) % (3 : Int32))), .val (.ref b1), .val (.ref b7), .val (.ref b16), .val (.ref b7), .val (.long i0), .second, .val (.long i1), .second, .val (.int (1 : Int32))]) rfl (pc' := 215) rfl ?_
        refine s_iload k32 at_215 rfl (pc' := 217) rfl ?_
        refine s_iconst k32 (z := 2) at_217 (by decide) (pc' := 218) rfl ?_
        refine s_icmp_eq k32 at_218 (by decide) (pc' := 253) (by decide) (pc3 := 221) rfl (fun hc218 => ?_) (fun hc218 => absurd hc103 hc218)
        refine s_iload k32 at_253 rfl (pc' := 255) rfl ?_
        exact s_retZ k32 at_255 rfl (by decide) hP (by decide) (by decide) rfl
      · refine s_aload k24 at_111 rfl rfl (pc' := 113) rfl ?_
        refine s_astore k24 at_113 rfl (l' := #[.val (.long i0), .second, .val (.long i1), .second, .val (.long i2), .second, .val (.long i3), .second, .val (.int i4), .val (.int (0 : Int32)), .val (.int (0 : Int32)), .val (.int ((Jvm.Free.XT.ushr i4 (1 : Int32)) % (3 : Int32))), .val (.ref b1), .val (.ref b7), .val (.ref b16), .val (.ref b16), .unset, .unset, .unset, .unset, .unset]) rfl (pc' := 115) rfl ?_
        refine s_aload k24 at_115 rfl rfl (pc' := 117) rfl ?_
        refine s_aload k24 at_117 rfl rfl (pc' := 119) rfl ?_
        refine s_iload k24 at_119 rfl (pc' := 121) rfl ?_
        refine s_aload k24 at_121 rfl rfl (pc' := 123) rfl ?_
        refine s_callS k24 [.ref b1, .ref b7, .int (0 : Int32), .ref b16] 0 at_123 (hw _ (List.mem_of_getElem? (i := 2) rfl)) (hw _ (List.mem_of_getElem? (i := 3) rfl)) (hw _ (List.mem_of_getElem? (i := 4) rfl)) (hw _ (List.mem_of_getElem? (i := 5) rfl)) (by decide) (rmcd l Z a0 hw b1 c1 i0 i1 b7 c7 i2 i3 b16 c16 ((i0 ^^^ (-1 : Int64)) ^^^ i3) ((i2 ^^^ (-1 : Int64)) ^^^ i1) (0 : Int32) h24 n0 Z27 A25_b1 A26_b7 A24 g_b16 ne_b1_b7 ne_b1_b16 ne_b7_b16) (by decide) (by decide) pd__28_5bJ_5bJI_5bJ_29V rfl (Nat.le_of_eq rfl) rfl (by decide) (by decide) rfl (pc' := 126) rfl fun v36 T36 h36 L36 k36 Qv36 => ?_
        obtain ⟨rfl, Kc36, G36⟩ := Qv36
        have A37_b1 := A25_b1.keep Kc36 (ninS ne_b1_b16 nin0)
        have A38_b7 := A26_b7.keep Kc36 (ninS ne_b7_b16 nin0)
        have Z39 := Nat.le_trans Z27 Kc36.1
        show Go p e below P T36 (mkF m 126 #[.val (.long i0), .second, .val (.long i1), .second, .val (.long i2), .second, .val (.long i3), .second, .val (.int i4), .val (.int (0 : Int32)), .val (.int (0 : Int32)), .val (.int ((Jvm.Free.XT.ushr i4 (1 : Int32)) % (3 : Int32))), .val (.ref b1), .val (.ref b7), .val (.ref b16), .val (.ref b16), .unset, .unset, .unset, .unset, .unset] [])
        refine s_iload k36 at_126 rfl (pc' := 128) rfl ?_
        refine s_if_eq k36 at_128 (by decide) (pc' := 136) (by decide) (pc3 := 131) rfl (fun hc128 => ?_) (fun hc128 => absurd (by decide) hc128)
        refine s_lloadN k36 at_136 rfl (pc' := 137) rfl ?_
        refine s_lstore k36 at_137 (l' := #[.val (.long i0), .second, .val (.long i1), .second, .val (.long i2), .second, .val (.long i3), .second, .val (.int i4), .val (.int (0 : Int32)), .val (.int (0 : Int32)), .val (.int ((Jvm.Free.XT.ushr i4 (1 : Int32)) % (3 : Int32))), .val (.ref b1), .val (.ref b7), .val (.ref b16), .val (.ref b16), .val (.long i0), .second, .unset, .unset, .unset]) rfl (pc' := 139) rfl ?_
        refine s_iload k36 at_139 rfl (pc' := 141) rfl ?_
        refine s_if_eq k36 at_141 (by decide) (pc' := 149) (by decide) (pc3 := 144) rfl (fun hc141 => ?_) (fun hc141 => absurd (by decide) hc141)
        refine s_lloadN k36 at_149 rfl (pc' := 150) rfl ?_
        refine s_lstore k36 at_150 (l' := #[.val (.long i0), .second, .val (.long i1), .second, .val (.long i2), .second, .val (.long i3), .second, .val (.int i4), .val (.int (0 : Int32)), .val (.int (0 : Int32)), .val (.int ((Jvm.Free.XT.ushr i4 (1 : Int32)) % (3 : Int32))), .val (.ref b1), .val (.ref b7), .val (.ref b16), .val (.ref b16), .val (.long i0), .second, .val (.long i1), .second, .unset]) rfl (pc' := 152) rfl ?_
        refine s_aload k36 at_152 rfl rfl (pc' := 154) rfl ?_
        refine s_iconst k36 (z := 0) at_154 (by decide) (pc' := 155) rfl ?_
        refine s_laload k36 (v := .long (i0 ^^^ ((i0 ^^^ i2) &&& (-(0 : Int32).toInt64)))) at_155 G36 ⟨by decide, by decide⟩ rfl (pc' := 156) rfl ?_
        refine s_lload k36 at_156 rfl (pc' := 158) rfl ?_
        refine s_lcmp_ne k36 at_158 rfl at_159 (by decide) (pc' := 176) (by decide) (pc3 := 162) rfl (fun hc158 => ?_) (fun hc158 => absurd (own_0 _ _) hc158)
        refine s_aload k36 at_162 rfl rfl (pc' := 164) rfl ?_
        refine s_iconst k36 (z := 1) at_164 (by decide) (pc' := 165) rfl ?_
        refine s_laload k36 (v := .long (i1 ^^^ ((i1 ^^^ i3) &&& (-(0 : Int32).toInt64)))) at_165 G36 ⟨by decide, by decide⟩ rfl (pc' := 166) rfl ?_
        refine s_lload k36 at_166 rfl (pc' := 168) rfl ?_
        refine s_lcmp_ne k36 at_168 rfl at_169 (by decide) (pc' := 176) (by decide) (pc3 := 172) rfl (fun hc168 => ?_) (fun hc168 => absurd (own_0 _ _) hc168)
        refine s_iconst k36 (z := 1) at_172 (by decide) (pc' := 173) rfl ?_
        refine s_goto k36 at_173 (by decide) (pc' := 177) (by decide) ?_
        refine s_istore k36 at_177 (l' := #[.val (.long i0), .second, .val (.long i1), .second, .val (.long i2), .second, .val (.long i3), .second, .val (.int i4), .val (.int (0 : Int32)), .val (.int (0 : Int32)), .val (.int ((Jvm.Free.XT.ushr i4 (1 : Int32)) % (3 : Int32))), .val (.ref b1), .val (.ref b7), .val (.ref b16), .val (.ref b16), .val (.long i0), .second, .val (.long i1), .second, .val (.int (1 : Int32))]) rfl (pc' := 179) rfl ?_
        refine s_iload k36 at_179 rfl (pc' := 181) rfl ?_
        refine s_iconst k36 (z := 1) at_181 (by decide) (pc' := 182) rfl ?_
        refine s_icmp_eq k36 at_182 (by decide) (pc' := 215) (by decide) (pc3 := 185) rfl (fun hc182 => absurd hc182 hc92) (fun hc182 => ?_)
        refine s_iload k36 at_185 rfl (pc' := 187) rfl ?_
        refine s_if_eq k36 at_187 (by decide) (pc' := 212) (by decide) (pc3 := 190) rfl (fun hc187 => absurd hc187 (by decide)) (fun hc187 => ?_)
        refine s_aload k36 at_190 rfl rfl (pc' := 192) rfl ?_
        refine s_iconst k36 (z := 0) at_192 (by decide) (pc' := 193) rfl ?_
        refine s_laload k36 (v := .long i0) at_193 A37_b1 ⟨by decide, by decide⟩ rfl (pc' := 194) rfl ?_
        refine s_lloadN k36 at_194 rfl (pc' := 195) rfl ?_
        refine s_lcmp_ne k36 at_195 rfl at_196 (by decide) (pc' := 212) (by decide) (pc3 := 199) rfl (fun hc195 => ?_) (fun hc195 => absurd rfl hc195)
        refine s_aload k36 at_199 rfl rfl (pc' := 201) rfl ?_
        refine s_iconst k36 (z := 1) at_201 (by decide) (pc' := 202) rfl ?_
        refine s_laload k36 (v := .long i1) at_202 A37_b1 ⟨by decide, by decide⟩ rfl (pc' := 203) rfl ?_
        refine s_lloadN k36 at_203 rfl (pc' := 204) rfl ?_
        refine s_lcmp_ne k36 at_204 rfl at_205 (by decide) (pc' := 212) (by decide) (pc3 := 208) rfl (fun hc204 => ?_) (fun hc204 => absurd rfl hc204)
        refine s_iconst k36 (z := 1) at_208 (by decide) (pc' := 209) rfl ?_
        refine s_goto k36 at_209 (by decide) (pc' := 213) (by decide) ?_
        refine s_istore k36 at_213 (l' := #[.val (.long i0), .second, .val (.long i1), .second, .val (.long i2), .second, .val (.long i3), .second, .val (.int i4), .val (.int (0 : Int32)), .val (.int (0 : Int32)), .val (.int ((Jvm.Free.XT.ushr i4 (1 : Int32)) % (3 : Int32))), .val (.ref b1), .val (.ref b7), .val (.ref b16), .val (.ref b16), .val (.long i0), .second, .val (.long i1), .second, .val (.int (1 : Int32))]) rfl (pc' := 215) rfl ?_
        refine s_iload k36 at_215 rfl (pc' := 217) rfl ?_
        refine s_iconst k36 (z := 2) at_217 (by decide) (pc' := 218) rfl ?_
        refine s_icmp_eq k36 at_218 (by decide) (pc' := 253) (by decide) (pc3 := 221) rfl (fun hc218 => absurd hc218 hc103) (fun hc218 => ?_)
        refine s_iload k36 at_221 rfl (pc' := 223) rfl ?_
        refine s_if_eq k36 at_223 (by decide) (pc' := 250) (by decide) (pc3 := 226) rfl (fun hc223 => absurd hc223 (by decide)) (fun hc223 => ?_)
        refine s_aload k36 at_226 rfl rfl (pc' := 228) rfl ?_
        refine s_iconst k36 (z := 0) at_228 (by decide) (pc' := 229) rfl ?_
        refine s_laload k36 (v := .long i2) at_229 A38_b7 ⟨by decide, by decide⟩ rfl (pc' := 230) rfl ?_
        refine s_lload k36 at_230 rfl (pc' := 232) rfl ?_
        refine s_lcmp_ne k36 at_232 rfl at_233 (by decide) (pc' := 250) (by decide) (pc3 := 236) rfl (fun hc232 => ?_) (fun hc232 => absurd rfl hc232)
        refine s_aload k36 at_236 rfl rfl (pc' := 238) rfl ?_
        refine s_iconst k36 (z := 1) at_238 (by decide) (pc' := 239) rfl ?_
        refine s_laload k36 (v := .long i3) at_239 A38_b7 ⟨by decide, by decide⟩ rfl (pc' := 240) rfl ?_
        refine s_lload k36 at_240 rfl (pc' := 242) rfl ?_
        refine s_lcmp_ne k36 at_242 rfl at_243 (by decide) (pc' := 250) (by decide) (pc3 := 246) rfl (fun hc242 => ?_) (fun hc242 => absurd rfl hc242)
        refine s_iconst k36 (z := 1) at_246 (by decide) (pc' := 247) rfl ?_
        refine s_goto k36 at_247 (by decide) (pc' := 251) (by decide) ?_
        refine s_istore k36 at_251 (l' := #[.val (.long i0), .second, .val (.long i1), .second, .val (.long i2), .second, .val (.long i3), .second, .val (.int i4), .val (.int (0 : Int32)), .val (.int (0 : Int32)), .val (.int ((Jvm.Free.XT.ushr i4 (1 : Int32)) % (3 : Int32))), .val (.ref b1), .val (.ref b7), .val (.ref b16), .val (.ref b16), .val (.long i0), .second, .val (.long i1), .second, .val (.int (1 : Int32))]) rfl (pc' := 253) rfl ?_
        refine s_iload k36 at_253 rfl (pc' := 255) rfl ?_
        exact s_retZ k36 at_255 rfl (by decide) hP (by decide) (by decide) rfl
  · refine s_iconst k0 (z := 1) at_7 (by decide) (pc' := 8) rfl ?_
    refine s_goto k0 at_8 (by decide) (pc' := 12) (by decide) ?_
    refine s_istore k0 at_12 (l' := #[.val (.long i0), .second, .val (.long i1), .second, .val (.long i2), .second, .val (.long i3), .second, .val (.int i4), .val (.int (1 : Int32)), .unset, .unset, .unset, .unset, .unset, .unset, .unset, .unset, .unset, .unset, .unset]) rfl (pc' := 14) rfl ?_
    refine s_iload k0 at_14 rfl (pc' := 16) rfl ?_
    refine s_if_eq k0 at_16 (by decide) (pc' := 23) (by decide) (pc3 := 19) rfl (fun hc16 => absurd hc16 (by decide)) (fun hc16 => ?_)
    refine s_iconst k0 (z := 1) at_19 (by decide) (pc' := 20) rfl ?_
    refine s_goto k0 at_20 (by decide) (pc' := 24) (by decide) ?_
    refine s_istore k0 at_24 (l' := #[.val (.long i0), .second, .val (.long i1), .second, .val (.long i2), .second, .val (.long i3), .second, .val (.int i4), .val (.int (1 : Int32)), .val (.int (1 : Int32)), .unset, .unset, .unset, .unset, .unset, .unset, .unset, .unset, .unset, .unset]) rfl (pc' := 26) rfl ?_
    refine s_iload k0 at_26 rfl (pc' := 28) rfl ?_
    refine s_iconst k0 (z := 1) at_28 (by decide) (pc' := 29) rfl ?_
    refine s_iushr k0 at_29 rfl (pc' := 30) rfl ?_
    refine s_iconst k0 (z := 3) at_30 (by decide) (pc' := 31) rfl ?_
    refine s_irem k0 at_31 (by decide) rfl (pc' := 32) rfl ?_
    refine s_istore k0 at_32 (l' := #[.val (.long i0), .second, .val (.long i1), .second, .val (.long i2), .second, .val (.long i3), .second, .val (.int i4), .val (.int (1 : Int32)), .val (.int (1 : Int32)), .val (.int ((Jvm.Free.XT.ushr i4 (1 : Int32)) % (3 : Int32))), .unset, .unset, .unset, .unset, .unset, .unset, .unset, .unset, .unset]) rfl (pc' := 34) rfl ?_
    refine s_iconst k0 (z := 2) at_34 (by decide) (pc' := 35) rfl ?_
    refine s_newP k0 (cap := 2) at_35 (hw _ (List.mem_of_getElem? (i := 0) rfl)) (by decide) (by decide) (by decide) (by decide) (by decide) (pc' := 37) rfl fun T40 h40 b40 c40 q40 k40 X40 A40 => ?_
    have g_b40 : n0 ≤ b40 := Nat.le_trans Z0 (Nat.le_of_eq q40.symm)
    have Z41 := Nat.le_trans Z0 X40.1
    have A40p : Arv Z h40 b40 c40 .long (2 : Int32) [(.long (0 : Int64)), (.long (0 : Int64))] (.long (0 : Int64)) := (show Arv Z h40 b40 c40 .long (2 : Int32) [] (.long (0 : Int64)) from A40).pad (pad_rep [] _ 2)
    refine s_dup k40 at_37 rfl (pc' := 38) rfl ?_
    refine s_iconst k40 (z := 0) at_38 (by decide) (pc' := 39) rfl ?_
    refine s_lloadN k40 at_39 rfl (pc' := 40) rfl ?_
    refine s_lastore k40 at_40 A40p ⟨by decide, by decide⟩ (i := 0) rfl (Nat.le_of_ble_eq_true rfl) g_b40 (pc' := 41) rfl fun T42 h42 L42 k42 W42 A42 => ?_
    have Z43 := Nat.le_trans Z41 (Keep.of_wr W42).1
    refine s_dup k42 at_41 rfl (pc' := 42) rfl ?_
    refine s_iconst k42 (z := 1) at_42 (by decide) (pc' := 43) rfl ?_
    refine s_lloadN k42 at_43 rfl (pc' := 44) rfl ?_
    refine s_lastore k42 at_44 A42 ⟨by decide, by decide⟩ (i := 1) rfl (Nat.le_of_ble_eq_true rfl) g_b40 (pc' := 45) rfl fun T44 h44 L44 k44 W44 A44 => ?_
    have Z45 := Nat.le_trans Z43 (Keep.of_wr W44).1
    refine s_astore k44 at_45 rfl (l' := #[.val (.long i0), .second, .val (.long i1), .second, .val (.long i2), .second, .val (.long i3), .second, .val (.int i4), .val (.int (1 : Int32)), .val (.int (1 : Int32)), .val (.int ((Jvm.Free.XT.ushr i4 (1 : Int32)) % (3 : Int32))), .val (.ref b40), .unset, .unset, .unset, .unset, .unset, .unset, .unset, .unset]) rfl (pc' := 47) rfl ?_
    refine s_iconst k44 (z := 2) at_47 (by decide) (pc' := 48) rfl ?_
    refine s_newP k44 (cap := 2) at_48 (hw _ (List.mem_of_getElem? (i := 0) rfl)) (by decide) (by decide) (by decide) (by decide) (by decide) (pc' := 50) rfl fun T46 h46 b46 c46 q46 k46 X46 A46 => ?_
    have ne_b40_b46 : b40 ≠ b46 := Nat.ne_of_lt (Nat.lt_of_lt_of_eq A44.lt q46.symm)
    have g_b46 : n0 ≤ b46 := Nat.le_trans Z45 (Nat.le_of_eq q46.symm)
    have A47_b40 := A44.ext X46
    have Z48 := Nat.le_trans Z45 X46.1
    have A46p : Arv Z h46 b46 c46 .long (2 : Int32) [(.long (0 : Int64)), (.long (0 : Int64))] (.long (0 : Int64)) := (show Arv Z h46 b46 c46 .long (2 : Int32) [] (.long (0 : Int64)) from A46).pad (pad_rep [] _ 2)
    refine s_dup k46 at_50 rfl (pc' := 51) rfl ?_
    refine s_iconst k46 (z := 0) at_51 (by decide) (pc' := 52) rfl ?_
    refine s_lload k46 at_52 rfl (pc' := 54) rfl ?_
    refine s_lastore k46 at_54 A46p ⟨by decide, by decide⟩ (i := 0) rfl (Nat.le_of_ble_eq_true rfl) g_b46 (pc' := 55) rfl fun T49 h49 L49 k49 W49 A49 => ?_
    have A50_b40 := A47_b40.other W49 ne_b40_b46
    have Z51 := Nat.le_trans Z48 (Keep.of_wr W49).1
    refine s_dup k49 at_55 rfl (pc' := 56) rfl ?_
    refine s_iconst k49 (z := 1) at_56 (by decide) (pc' := 57) rfl ?_
    refine s_lload k49 at_57 rfl (pc' := 59) rfl ?_
    refine s_lastore k49 at_59 A49 ⟨by decide, by decide⟩ (i := 1) rfl (Nat.le_of_ble_eq_true rfl) g_b46 (pc' := 60) rfl fun T52 h52 L52 k52 W52 A52 => ?_
    have A53_b40 := A50_b40.other W52 ne_b40_b46
    have Z54 := Nat.le_trans Z51 (Keep.of_wr W52).1
    refine s_astore k52 at_60 rfl (l' := #[.val (.long i0), .second, .val (.long i1), .second, .val (.long i2), .second, .val (.long i3), .second, .val (.int i4), .val (.int (1 : Int32)), .val (.int (1 : Int32)), .val (.int ((Jvm.Free.XT.ushr i4 (1 : Int32)) % (3 : Int32))), .val (.ref b40), .val (.ref b46), .unset, .unset, .unset, .unset, .unset, .unset, .unset]) rfl (pc' := 62) rfl ?_
    refine s_iconst k52 (z := 2) at_62 (by decide) (pc' := 63) rfl ?_
    refine s_newP k52 (cap := 2) at_63 (hw _ (List.mem_of_getElem? (i := 0) rfl)) (by decide) (by decide) (by decide) (by decide) (by decide) (pc' := 65) rfl fun T55 h55 b55 c55 q55 k55 X55 A55 => ?_
    have ne_b40_b55 : b40 ≠ b55 := Nat.ne_of_lt (Nat.lt_of_lt_of_eq A53_b40.lt q55.symm)
    have ne_b46_b55 : b46 ≠ b55 := Nat.ne_of_lt (Nat.lt_of_lt_of_eq A52.lt q55.symm)
    have g_b55 : n0 ≤ b55 := Nat.le_trans Z54 (Nat.le_of_eq q55.symm)
    have A56_b40 := A53_b40.ext X55
    have A57_b46 := A52.ext X55
    have Z58 := Nat.le_trans Z54 X55.1
    have A55p : Arv Z h55 b55 c55 .long (2 : Int32) [(.long (0 : Int64)), (.long (0 : Int64))] (.long (0 : Int64)) := (show Arv Z h55 b55 c55 .long (2 : Int32) [] (.long (0 : Int64)) from A55).pad (pad_rep [] _ 2)
    refine s_dup k55 at_65 rfl (pc' := 66) rfl ?_
    refine s_iconst k55 (z := 0) at_66 (by decide) (pc' := 67) rfl ?_
    refine s_lloadN k55 at_67 rfl (pc' := 68) rfl ?_
    refine s_ldcL k55 at_68 (hw _ (List.mem_of_getElem? (i := 1) rfl)) (pc' := 71) rfl ?_
    refine s_lxor k55 at_71 rfl (pc' := 72) rfl ?_
    refine s_lload k55 at_72 rfl (pc' := 74) rfl ?_
    refine s_lxor k55 at_74 rfl (pc' := 75) rfl ?_
    refine s_lastore k55 at_75 A55p ⟨by decide, by decide⟩ (i := 0) rfl (Nat.le_of_ble_eq_true rfl) g_b55 (pc' := 76) rfl fun T59 h59 L59 k59 W59 A59 => ?_
    have A60_b40 := A56_b40.other W59 ne_b40_b55
    have A61_b46 := A57_b46.other W59 ne_b46_b55
    have Z62 := Nat.le_trans Z58 (Keep.of_wr W59).1
    refine s_dup k59 at_76 rfl (pc' := 77) rfl ?_
    refine s_iconst k59 (z := 1) at_77 (by decide) (pc' := 78) rfl ?_
    refine s_lload k59 at_78 rfl (pc' := 80) rfl ?_
    refine s_ldcL k59 at_80 (hw _ (List.mem_of_getElem? (i := 1) rfl)) (pc' := 83) rfl ?_
    refine s_lxor k59 at_83 rfl (pc' := 84) rfl ?_
    refine s_lloadN k59 at_84 rfl (pc' := 85) rfl ?_
    refine s_lxor k59 at_85 rfl (pc' := 86) rfl ?_
    refine s_lastore k59 at_86 A59 ⟨by decide, by decide⟩ (i := 1) rfl (Nat.le_of_ble_eq_true rfl) g_b55 (pc' := 87) rfl fun T63 h63 L63 k63 W63 A63 => ?_
    have A64_b40 := A60_b40.other W63 ne_b40_b55
    have A65_b46 := A61_b46.other W63 ne_b46_b55
    have Z66 := Nat.le_trans Z62 (Keep.of_wr W63).1
    refine s_astore k63 at_87 rfl (l' := #[.val (.long i0), .second, .val (.long i1), .second, .val (.long i2), .second, .val (.long i3), .second, .val (.int i4), .val (.int (1 : Int32)), .val (.int (1 : Int32)), .val (.int ((Jvm.Free.XT.ushr i4 (1 : Int32)) % (3 : Int32))), .val (.ref b40), .val (.ref b46), .val (.ref b55), .unset, .unset, .unset, .unset, .unset, .unset]) rfl (pc' := 89) rfl ?_
    refine s_iload k63 at_89 rfl (pc' := 91) rfl ?_
    refine s_iconst k63 (z := 1) at_91 (by decide) (pc' := 92) rfl ?_
    refine s_icmp_ne k63 at_92 (by decide) (pc' := 100) (by decide) (pc3 := 95) rfl (fun hc92 => ?_) (fun hc92 => ?_)
    · refine s_aload k63 at_95 rfl rfl (pc' := 97) rfl ?_
      refine s_goto k63 at_97 (by decide) (pc' := 113) (by decide) ?_
      refine s_astore k63 at_113 rfl (l' := #[.val (.long i0), .second, .val (.long i1), .second, .val (.long i2), .second, .val (.long i3), .second, .val (.int i4), .val (.int (1 : Int32)), .val (.int (1 : Int32)), .val (.int ((Jvm.Free.XT.ushr i4 (1 : Int32)) % (3 : Int32))), .val (.ref b40), .val (.ref b46), .val (.ref b55), .val (.ref b40), .unset, .unset, .unset, .unset, .unset]) rfl (pc' := 115) rfl ?_
      refine s_aload k63 at_115 rfl rfl (pc' := 117) rfl ?_
      refine s_aload k63 at_117 rfl rfl (pc' := 119) rfl ?_
      refine s_iload k63 at_119 rfl (pc' := 121) rfl ?_
      refine s_aload k63 at_121 rfl rfl (pc' := 123) rfl ?_
      refine s_callS k63 [.ref b40, .ref b46, .int (1 : Int32), .ref b40] 0 at_123 (hw _ (List.mem_of_getElem? (i := 2) rfl)) (hw _ (List.mem_of_getElem? (i := 3) rfl)) (hw _ (List.mem_of_getElem? (i := 4) rfl)) (hw _ (List.mem_of_getElem? (i := 5) rfl)) (by decide) (rmca l Z a0 hw b40 c40 i0 i1 b46 c46 i2 i3 (1 : Int32) h63 n0 Z66 A64_b40 A65_b46 g_b40 ne_b40_b46) (by decide) (by decide) pd__28_5bJ_5bJI_5bJ_29V rfl (Nat.le_of_eq rfl) rfl (by decide) (by decide) rfl (pc' := 126) rfl fun v67 T67 h67 L67 k67 Qv67 => ?_
      obtain ⟨rfl, Kc67, G67⟩ := Qv67
      have A68_b46 := A65_b46.keep Kc67 (ninS (Ne.symm ne_b40_b46) nin0)
      have A69_b55 := A63.keep Kc67 (ninS (Ne.symm ne_b40_b55) nin0)
      have Z70 := Nat.le_trans Z66 Kc67.1
      show Go p e below P T67 (mkF m 126 #[.val (.long i0), .second, .val (.long i1), .second, .val (.long i2), .second, .val (.long i3), .second, .val (.int i4), .val (.int (1 : Int32)), .val (.int (1 : Int32)), .val (.int ((Jvm.Free.XT.ushr i4 (1 : Int32)) % (3 : Int32))), .val (.ref b40), .val (.ref b46), .val (.ref b55), .val (.ref b40), .unset, .unset, .unset, .unset, .unset] [])
      refine s_iload k67 at_126 rfl (pc' := 128) rfl ?_
      refine s_if_eq k67 at_128 (by decide) (pc' := 136) (by decide) (pc3 := 131) rfl (fun hc128 => absurd hc128 (by decide)) (fun hc128 => ?_)
      refine s_lload k67 at_131 rfl (pc' := 133) rfl ?_
      refine s_goto k67 at_133 (by decide) (pc' := 137) (by decide) ?_
      refine s_lstore k67 at_137 (l' := #[.val (.long i0), .second, .val (.long i1), .second, .val (.long i2), .second, .val (.long i3), .second, .val (.int i4), .val (.int (1 : Int32)), .val (.int (1 : Int32)), .val (.int ((Jvm.Free.XT.ushr i4 (1 : Int32)) % (3 : Int32))), .val (.ref b40), .val (.ref b46), .val (.ref b55), .val (.ref b40), .val (.long i2), .second, .unset, .unset, .unset]) rfl (pc' := 139) rfl ?_
      refine s_iload k67 at_139 rfl (pc' := 141) rfl ?_
      refine s_if_eq k67 at_141 (by decide) (pc' := 149) (by decide) (pc3 := 144) rfl (fun hc141 => absurd hc141 (by decide)) (fun hc141 => ?_)
      refine s_lload k67 at_144 rfl (pc' := 146) rfl ?_
      refine s_goto k67 at_146 (by decide) (pc' := 150) (by decide) ?_
      refine s_lstore k67 at_150 (l' := #[.val (.long i0), .second, .val (.long i1), .second, .val (.long i2), .second, .val (.long i3), .second, .val (.int i4), .val (.int (1 : Int32)), .val (.int (1 : Int32)), .val (.int ((Jvm.Free.XT.ushr i4 (1 : Int32)) % (3 : Int32))), .val (.ref b40), .val (.ref b46), .val (.ref b55), .val (.ref b40), .val (.long i2), .second, .val (.long i3), .second, .unset]) rfl (pc' := 152) rfl ?_
      refine s_aload k67 at_152 rfl rfl (pc' := 154) rfl ?_
      refine s_iconst k67 (z := 0) at_154 (by decide) (pc' := 155) rfl ?_
      refine s_laload k67 (v := .long (i0 ^^^ ((i0 ^^^ i2) &&& (-(1 : Int32).toInt64)))) at_155 G67 ⟨by decide, by decide⟩ rfl (pc' := 156) rfl ?_
      refine s_lload k67 at_156 rfl (pc' := 158) rfl ?_
      refine s_lcmp_ne k67 at_158 rfl at_159 (by decide) (pc' := 176) (by decide) (pc3 := 162) rfl (fun hc158 => ?_) (fun hc158 => absurd (own_1 _ _) hc158)
      refine s_aload k67 at_162 rfl rfl (pc' := 164) rfl ?_
      refine s_iconst k67 (z := 1) at_164 (by decide) (pc' := 165) rfl ?_
      refine s_laload k67 (v := .long (i1 ^^^ ((i1 ^^^ i3) &&& (-(1 : Int32).toInt64)))) at_165 G67 ⟨by decide, by decide⟩ rfl (pc' := 166) rfl ?_
      refine s_lload k67 at_166 rfl (pc' := 168) rfl ?_
      refine s_lcmp_ne k67 at_168 rfl at_169 (by decide) (pc' := 176) (by decide) (pc3 := 172) rfl (fun hc168 => ?_) (fun hc168 => absurd (own_1 _ _) hc168)
      refine s_iconst k67 (z := 1) at_172 (by decide) (pc' := 173) rfl ?_
      refine s_goto k67 at_173 (by decide) (pc' := 177) (by decide) ?_
      refine s_istore k67 at_177 (l' := #[.val (.long i0), .second, .val (.long i1), .second, .val (.long i2), .second, .val (.long i3), .second, .val (.int i4), .val (.int (1 : Int32)), .val (.int (1 : Int32)), .val (.int ((Jvm.Free.XT.ushr i4 (1 : Int32)) % (3 : Int32))), .val (.ref b40), .val (.ref b46), .val (.ref b55), .val (.ref b40), .val (.long i2), .second, .val (.long i3), .second, .val (.int (1 : Int32))]) rfl (pc' := 179) rfl ?_
      refine s_iload k67 at_179 rfl (pc' := 181) rfl ?_
      refine s_iconst k67 (z := 1) at_181 (by decide) (pc' := 182) rfl ?_
      refine s_icmp_eq k67 at_182 (by decide) (pc' := 215) (by decide) (pc3 := 185) rfl (fun hc182 => ?_) (fun hc182 => absurd hc92 hc182)
      refine s_iload k67 at_215 rfl (pc' := 217) rfl ?_
      refine s_iconst k67 (z := 2) at_217 (by decide) (pc' := 218) rfl ?_
      refine s_icmp_eq k67 at_218 (by decide) (pc' := 253) (by decide) (pc3 := 221) rfl (fun hc218 => absurd hc218 (own_ne _ hc92)) (fun hc218 => ?_)
      refine s_iload k67 at_221 rfl (pc' := 223) rfl ?_
      refine s_if_eq k67 at_223 (by decide) (pc' := 250) (by decide) (pc3 := 226) rfl (fun hc223 => absurd hc223 (by decide)) (fun hc223 => ?_)
      refine s_aload k67 at_226 rfl rfl (pc' := 228) rfl ?_
      refine s_iconst k67 (z := 0) at_228 (by decide) (pc' := 229) rfl ?_
      refine s_laload k67 (v := .long i2) at_229 A68_b46 ⟨by decide, by decide⟩ rfl (pc' := 230) rfl ?_
      refine s_lload k67 at_230 rfl (pc' := 232) rfl ?_
      refine s_lcmp_ne k67 at_232 rfl at_233 (by decide) (pc' := 250) (by decide) (pc3 := 236) rfl (fun hc232 => ?_) (fun hc232 => absurd rfl hc232)
      refine s_aload k67 at_236 rfl rfl (pc' := 238) rfl ?_
      refine s_iconst k67 (z := 1) at_238 (by decide) (pc' := 239) rfl ?_
      refine s_laload k67 (v := .long i3) at_239 A68_b46 ⟨by decide, by decide⟩ rfl (pc' := 240) rfl ?_
      refine s_lload k67 at_240 rfl (pc' := 242) rfl ?_
      refine s_lcmp_ne k67 at_242 rfl at_243 (by decide) (pc' := 250) (by decide) (pc3 := 246) rfl (fun hc242 => ?_) (fun hc242 => absurd rfl hc242)
      refine s_iconst k67 (z := 1) at_246 (by decide) (pc' := 247) rfl ?_
      refine s_goto k67 at_247 (by decide) (pc' := 251) (by decide) ?_
      refine s_istore k67 at_251 (l' := #[.val (.long i0), .second, .val (.long i1), .second, .val (.long i2), .second, .val (.long i3), .second, .val (.int i4), .val (.int (1 : Int32)), .val (.int (1 : Int32)), .val (.int ((Jvm.Free.XT.ushr i4 (1 : Int32)) % (3 : Int32))), .val (.ref b40), .val (.ref b46), .val (.ref b55), .val (.ref b40), .val (.long i2), .second, .val (.long i3), .second, .val (.int (1 : Int32))]) rfl (pc' := 253) rfl ?_
      refine s_iload k67 at_253 rfl (pc' := 255) rfl ?_
      exact s_retZ k67 at_255 rfl (by decide) hP (by decide) (by decide) rfl
    · refine s_iload k63 at_100 rfl (pc' := 102) rfl ?_
      refine s_iconst k63 (z := 2) at_102 (by decide) (pc' := 103) rfl ?_
      refine s_icmp_ne k63 at_103 (by decide) (pc' := 111) (by decide) (pc3 := 106) rfl (fun hc103 => ?_) (fun hc103 => ?_)
      · refine s_aload k63 at_106 rfl rfl (pc' := 108) rfl ?_
        refine s_goto k63 at_108 (by decide) (pc' := 113) (by decide) ?_
        refine s_astore k63 at_113 rfl (l' := #[.val (.long i0), .second, .val (.long i1), .second, .val (.long i2), .second, .val (.long i3), .second, .val (.int i4), .val (.int (1 : Int32)), .val (.int (1 : Int32)), .val (.int ((Jvm.Free.XT.ushr i4 (1 : Int32)) % (3 : Int32))), .val (.ref b40), .val (.ref b46), .val (.ref b55), .val (.ref b46), .unset, .unset, .unset, .unset, .unset]) rfl (pc' := 115) rfl ?_
        refine s_aload k63 at_115 rfl rfl (pc' := 117) rfl ?_
        refine s_aload k63 at_117 rfl rfl (pc' := 119) rfl ?_
        refine s_iload k63 at_119 rfl (pc' := 121) rfl ?_
        refine s_aload k63 at_121 rfl rfl (pc' := 123) rfl ?_
        refine s_callS k63 [.ref b40, .ref b46, .int (1 : Int32), .ref b46] 0 at_123 (hw _ (List.mem_of_getElem? (i := 2) rfl)) (hw _ (List.mem_of_getElem? (i := 3) rfl)) (hw _ (List.mem_of_getElem? (i := 4) rfl)) (hw _ (List.mem_of_getElem? (i := 5) rfl)) (by decide) (rmcb l Z a0 hw b40 c40 i0 i1 b46 c46 i2 i3 (1 : Int32) h63 n0 Z66 A64_b40 A65_b46 g_b46 ne_b40_b46) (by decide) (by decide) pd__28_5bJ_5bJI_5bJ_29V rfl (Nat.le_of_eq rfl) rfl (by decide) (by decide) rfl (pc' := 126) rfl fun v71 T71 h71 L71 k71 Qv71 => ?_
        obtain ⟨rfl, Kc71, G71⟩ := Qv71
        have A72_b40 := A64_b40.keep Kc71 (ninS ne_b40_b46 nin0)
        have A73_b55 := A63.keep Kc71 (ninS (Ne.symm ne_b46_b55) nin0)
        have Z74 := Nat.le_trans Z66 Kc71.1
        show Go p e below P T71 (mkF m 126 #[.val (.long i0), .second, .val (.long i1), .second, .val (.long i2), .second, .val (.long i3), .second, .val (.int i4), .val (.int (1 : Int32)), .val (.int (1 : Int32)), .val (.int ((Jvm.Free.XT.ushr i4 (1 : Int32)) % (3 : Int32))), .val (.ref b40), .val (.ref b46), .val (.ref b55), .val (.ref b46), .unset, .unset, .unset, .unset, .unset] [])
        refine s_iload k71 at_126 rfl (pc' := 128) rfl ?_
        refine s_if_eq k71 at_128 (by decide) (pc' := 136) (by decide) (pc3 := 131) rfl (fun hc128 => absurd hc128 (by decide)) (fun hc128 => ?_)
        refine s_lload k71 at_131 rfl (pc' := 133) rfl ?_
        refine s_goto k71 at_133 (by decide) (pc' := 137) (by decide) ?_
        refine s_lstore k71 at_137 (l' := #[.val (.long i0), .second, .val (.long i1), .second, .val (.long i2), .second, .val (.long i3), .second, .val (.int i4), .val (.int (1 : Int32)), .val (.int (1 : Int32)), .val (.int ((Jvm.Free.XT.ushr i4 (1 : Int32)) % (3 : Int32))), .val (.ref b40), .val (.ref b46), .val (.ref b55), .val (.ref b46), .val (.long i2), .second, .unset, .unset, .unset]) rfl (pc' := 139) rfl ?_
        refine s_iload k71 at_139 rfl (pc' := 141) rfl ?_
        refine s_if_eq k71 at_141 (by decide) (pc' := 149) (by decide) (pc3 := 144) rfl (fun hc141 => absurd hc141 (by decide)) (fun hc141 => ?_)
        refine s_lload k71 at_144 rfl (pc' := 146) rfl ?_
        refine s_goto k71 at_146 (by decide) (pc' := 150) (by decide) ?_
        refine s_lstore k71 at_150 (l' := #[.val (.long i0), .second, .val (.long i1), .second, .val (.long i2), .second, .val (.long i3), .second, .val (.int i4), .val (.int (1 : Int32)), .val (.int (1 : Int32)), .val (.int ((Jvm.Free.XT.ushr i4 (1 : Int32)) % (3 : Int32))), .val (.ref b40), .val (.ref b46), .val (.ref b55), .val (.ref b46), .val (.long i2), .second, .val (.long i3), .second, .unset]) rfl (pc' := 152) rfl ?_
        refine s_aload k71 at_152 rfl rfl (pc' := 154) rfl ?_
        refine s_iconst k71 (z := 0) at_154 (by decide) (pc' := 155) rfl ?_
        refine s_laload k71 (v := .long (i0 ^^^ ((i0 ^^^ i2) &&& (-(1 : Int32).toInt64)))) at_155 G71 ⟨by decide, by decide⟩ rfl (pc' := 156) rfl ?_
        refine s_lload k71 at_156 rfl (pc' := 158) rfl ?_
        refine s_lcmp_ne k71 at_158 rfl at_159 (by decide) (pc' := 176) (by decide) (pc3 := 162) rfl (fun hc158 => ?_) (fun hc158 => absurd (own_1 _ _) hc158)
        refine s_aload k71 at_162 rfl rfl (pc' := 164) rfl ?_
        refine s_iconst k71 (z := 1) at_164 (by decide) (pc' := 165) rfl ?_
        refine s_laload k71 (v := .long (i1 ^^^ ((i1 ^^^ i3) &&& (-(1 : Int32).toInt64)))) at_165 G71 ⟨by decide, by decide⟩ rfl (pc' := 166) rfl ?_
        refine s_lload k71 at_166 rfl (pc' := 168) rfl ?_
        refine s_lcmp_ne k71 at_168 rfl at_169 (by decide) (pc' := 176) (by decide) (pc3 := 172) rfl (fun hc168 => ?_) (fun hc168 => absurd (own_1 _ _) hc168)
        refine s_iconst k71 (z := 1) at_172 (by decide) (pc' := 173) rfl ?_
        refine s_goto k71 at_173 (by decide) (pc' := 177) (by decide) ?_
        refine s_istore k71 at_177 (l' := #[.val (.long i0), .second, .val (.long i1), .second, .val (.long i2), .second, .val (.long i3), .second, .val (.int i4), .val (.int (1 : Int32)), .val (.int (1 : Int32)), .val (.int ((Jvm.Free.XT.ushr i4 (1 : Int32)) % (3 : Int32))), .val (.ref b40), .val (.ref b46), .val (.ref b55), .val (.ref b46), .val (.long i2), .second, .val (.long i3), .second, .val (.int (1 : Int32))]) rfl (pc' := 179) rfl ?_
        refine s_iload k71 at_179 rfl (pc' := 181) rfl ?_
        refine s_iconst k71 (z := 1) at_181 (by decide) (pc' := 182) rfl ?_
        refine s_icmp_eq k71 at_182 (by decide) (pc' := 215) (by decide) (pc3 := 185) rfl (fun hc182 => absurd hc182 hc92) (fun hc182 => ?_)
        refine s_iload k71 at_185 rfl (pc' := 187) rfl ?_
        refine s_if_eq k71 at_187 (by decide) (pc' := 212) (by decide) (pc3 := 190) rfl (fun hc187 => absurd hc187 (by decide)) (fun hc187 => ?_)
        refine s_aload k71 at_190 rfl rfl (pc' := 192) rfl ?_
        refine s_iconst k71 (z := 0) at_192 (by decide) (pc' := 193) rfl ?_
        refine s_laload k71 (v := .long i0) at_193 A72_b40 ⟨by decide, by decide⟩ rfl (pc' := 194) rfl ?_
        refine s_lloadN k71 at_194 rfl (pc' := 195) rfl ?_
        refine s_lcmp_ne k71 at_195 rfl at_196 (by decide) (pc' := 212) (by decide) (pc3 := 199) rfl (fun hc195 => ?_) (fun hc195 => absurd rfl hc195)
        refine s_aload k71 at_199 rfl rfl (pc' := 201) rfl ?_
        refine s_iconst k71 (z := 1) at_201 (by decide) (pc' := 202) rfl ?_
        refine s_laload k71 (v := .long i1) at_202 A72_b40 ⟨by decide, by decide⟩ rfl (pc' := 203) rfl ?_
        refine s_lloadN k71 at_203 rfl (pc' := 204) rfl ?_
        refine s_lcmp_ne k71 at_204 rfl at_205 (by decide) (pc' := 212) (by decide) (pc3 := 208) rfl (fun hc204 => ?_) (fun hc204 => absurd rfl hc204)
        refine s_iconst k71 (z := 1) at_208 (by decide) (pc' := 209) rfl ?_
        refine s_goto k71 at_209 (by decide) (pc' := 213) (by decide) ?_
        refine s_istore k71 at_213 (l' := #[.val (.long i0), .second, .val (.long i1), .second, .val (.long i2), .second, .val (.long i3), .second, .val (.int i4), .val (.int (1 : Int32)), .val (.int (1 : Int32)), .val (.int ((Jvm.Free.XT.ushr i4 (1 : Int32)) % (3 : Int32))), .val (.ref b40), .val (.ref b46), .val (.ref b55), .val (.ref b46), .val (.long i2), .second, .val (.long i3), .second, .val (.int (1 : Int32))]) rfl (pc' := 215) rfl ?_
        refine s_iload k71 at_215 rfl (pc' := 217) rfl ?_
        refine s_iconst k71 (z := 2) at_217 (by decide) (pc' := 218) rfl ?_
        refine s_icmp_eq k71 at_218 (by decide) (pc' := 253) (by decide) (pc3 := 221) rfl (fun hc218 => ?_) (fun hc218 => absurd hc103 hc218)
        refine s_iload k71 at_253 rfl (pc' := 255) rfl ?_
        exact s_retZ k71 at_255 rfl (by decide) hP (by decide) (by decide) rfl
      · refine s_aload k63 at_111 rfl rfl (pc' := 113) rfl ?_
        refine s_astore k63 at_113 rfl (l' := #[.val (.long i0), .second, .val (.long i1), .second, .val (.long i2), .second, .val (.long i3), .second, .val (.int i4), .val (.int (1 : Int32)), .val (.int (1 : Int32)), .val (.int ((Jvm.Free.XT.ushr i4 (1 : Int32)) % (3 : Int32))), .val (.ref b40), .val (.ref b46), .val (.ref b55), .val (.ref b55), .unset, .unset, .unset, .unset, .unset]) rfl (pc' := 115) rfl ?_
        refine s_aload k63 at_115 rfl rfl (pc' := 117) rfl ?_
        refine s_aload k63 at_117 rfl rfl (pc' := 119) rfl ?_
        refine s_iload k63 at_119 rfl (pc' := 121) rfl ?_
        refine s_aload k63 at_121 rfl rfl (pc' := 123) rfl ?_
        refine s_callS k63 [.ref b40, .ref b46, .int (1 : Int32), .ref b55] 0 at_123 (hw _ (List.mem_of_getElem? (i := 2) rfl)) (hw _ (List.mem_of_getElem? (i := 3) rfl)) (hw _ (List.mem_of_getElem? (i := 4) rfl)) (hw _ (List.mem_of_getElem? (i := 5) rfl)) (by decide) (rmcd l Z a0 hw b40 c40 i0 i1 b46 c46 i2 i3 b55 c55 ((i0 ^^^ (-1 : Int64)) ^^^ i3) ((i2 ^^^ (-1 : Int64)) ^^^ i1) (1 : Int32) h63 n0 Z66 A64_b40 A65_b46 A63 g_b55 ne_b40_b46 ne_b40_b55 ne_b46_b55) (by decide) (by decide) pd__28_5bJ_5bJI_5bJ_29V rfl (Nat.le_of_eq rfl) rfl (by decide) (by decide) rfl (pc' := 126) rfl fun v75 T75 h75 L75 k75 Qv75 => ?_
        obtain ⟨rfl, Kc75, G75⟩ := Qv75
        have A76_b40 := A64_b40.keep Kc75 (ninS ne_b40_b55 nin0)
        have A77_b46 := A65_b46.keep Kc75 (ninS ne_b46_b55 nin0)
        have Z78 := Nat.le_trans Z66 Kc75.1
        show Go p e below P T75 (mkF m 126 #[.val (.long i0), .second, .val (.long i1), .second, .val (.long i2), .second, .val (.long i3), .second, .val (.int i4), .val (.int (1 : Int32)), .val (.int (1 : Int32)), .val (.int ((Jvm.Free.XT.ushr i4 (1 : Int32)) % (3 : Int32))), .val (.ref b40), .val (.ref b46), .val (.ref b55), .val (.ref b55), .unset, .unset, .unset, .unset, .unset] [])
        refine s_iload k75 at_126 rfl (pc' := 128) rfl ?_
        refine s_if_eq k75 at_128 (by decide) (pc' := 136) (by decide) (pc3 := 131) rfl (fun hc128 => absurd hc128 (by decide)) (fun hc128 => ?_)
        refine s_lload k75 at_131 rfl (pc' := 133) rfl ?_
        refine s_goto k75 at_133 (by decide) (pc' := 137) (by decide) ?_
        refine s_lstore k75 at_137 (l' := #[.val (.long i0), .second, .val (.long i1), .second, .val (.long i2), .second, .val (.long i3), .second, .val (.int i4), .val (.int (1 : Int32)), .val (.int (1 : Int32)), .val (.int ((Jvm.Free.XT.ushr i4 (1 : Int32)) % (3 : Int32))), .val (.ref b40), .val (.ref b46), .val (.ref b55), .val (.ref b55), .val (.long i2), .second, .unset, .unset, .unset]) rfl (pc' := 139) rfl ?_
        refine s_iload k75 at_139 rfl (pc' := 141) rfl ?_
        refine s_if_eq k75 at_141 (by decide) (pc' := 149) (by decide) (pc3 := 144) rfl (fun hc141 => absurd hc141 (by decide)) (fun hc141 => ?_)
        refine s_lload k75 at_144 rfl (pc' := 146) rfl ?_
        refine s_goto k75 at_146 (by decide) (pc' := 150) (by decide) ?_
        refine s_lstore k75 at_150 (l' := #[.val (.long i0), .second, .val (.long i1), .second, .val (.long i2), .second, .val (.long i3), .second, .val (.int i4), .val (.int (1 : Int32)), .val (.int (1 : Int32)), .val (.int ((Jvm.Free.XT.ushr i4 (1 : Int32)) % (3 : Int32))), .val (.ref b40), .val (.ref b46), .val (.ref b55), .val (.ref b55), .val (.long i2), .second, .val (.long i3), .second, .unset]) rfl (pc' := 152) rfl ?_
        refine s_aload k75 at_152 rfl rfl (pc' := 154) rfl ?_
        refine s_iconst k75 (z := 0) at_154 (by decide) (pc' := 155) rfl ?_
        refine s_laload k75 (v := .long (i0 ^^^ ((i0 ^^^ i2) &&& (-(1 : Int32).toInt64)))) at_155 G75 ⟨by decide, by decide⟩ rfl (pc' := 156) rfl ?_
        refine s_lload k75 at_156 rfl (pc' := 158) rfl ?_
        refine s_lcmp_ne k75 at_158 rfl at_159 (by decide) (pc' := 176) (by decide) (pc3 := 162) rfl (fun hc158 => ?_) (fun hc158 => absurd (own_1 _ _) hc158)
        refine s_aload k75 at_162 rfl rfl (pc' := 164) rfl ?_
        refine s_iconst k75 (z := 1) at_164 (by decide) (pc' := 165) rfl ?_
        refine s_laload k75 (v := .long (i1 ^^^ ((i1 ^^^ i3) &&& (-(1 : Int32).toInt64)))) at_165 G75 ⟨by decide, by decide⟩ rfl (pc' := 166) rfl ?_
        refine s_lload k75 at_166 rfl (pc' := 168) rfl ?_
        refine s_lcmp_ne k75 at_168 rfl at_169 (by decide) (pc' := 176) (by decide) (pc3 := 172) rfl (fun hc168 => ?_) (fun hc168 => absurd (own_1 _ _) hc168)
        refine s_iconst k75 (z := 1) at_172 (by decide) (pc' := 173) rfl ?_
        refine s_goto k75 at_173 (by decide) (pc' := 177) (by decide) ?_
        refine s_istore k75 at_177 (l' := #[.val (.long i0), .second, .val (.long i1), .second, .val (.long i2), .second, .val (.long i3), .second, .val (.int i4), .val (.int (1 : Int32)), .val (.int (1 : Int32)), .val (.int ((Jvm.Free.XT.ushr i4 (1 : Int32)) % (3 : Int32))), .val (.ref b40), .val (.ref b46), .val (.ref b55), .val (.ref b55), .val (.long i2), .second, .val (.long i3), .second, .val (.int (1 : Int32))]) rfl (pc' := 179) rfl ?_
        refine s_iload k75 at_179 rfl (pc' := 181) rfl ?_
        refine s_iconst k75 (z := 1) at_181 (by decide) (pc' := 182) rfl ?_
        refine s_icmp_eq k75 at_182 (by decide) (pc' := 215) (by decide) (pc3 := 185) rfl (fun hc182 => absurd hc182 hc92) (fun hc182 => ?_)
        refine s_iload k75 at_185 rfl (pc' := 187) rfl ?_
        refine s_if_eq k75 at_187 (by decide) (pc' := 212) (by decide) (pc3 := 190) rfl (fun hc187 => absurd hc187 (by decide)) (fun hc187 => ?_)
        refine s_aload k75 at_190 rfl rfl (pc' := 192) rfl ?_
        refine s_iconst k75 (z := 0) at_192 (by decide) (pc' := 193) rfl ?_
        refine s_laload k75 (v := .long i0) at_193 A76_b40 ⟨by decide, by decide⟩ rfl (pc' := 194) rfl ?_
        refine s_lloadN k75 at_194 rfl (pc' := 195) rfl ?_
        refine s_lcmp_ne k75 at_195 rfl at_196 (by decide) (pc' := 212) (by decide) (pc3 := 199) rfl (fun hc195 => ?_) (fun hc195 => absurd rfl hc195)
        refine s_aload k75 at_199 rfl rfl (pc' := 201) rfl ?_
        refine s_iconst k75 (z := 1) at_201 (by decide) (pc' := 202) rfl ?_
        refine s_laload k75 (v := .long i1) at_202 A76_b40 ⟨by decide, by decide⟩ rfl (pc' := 203) rfl ?_
        refine s_lloadN k75 at_203 rfl (pc' := 204) rfl ?_
        refine s_lcmp_ne k75 at_204 rfl at_205 (by decide) (pc' := 212) (by decide) (pc3 := 208) rfl (fun hc204 => ?_) (fun hc204 => absurd rfl hc204)
        refine s_iconst k75 (z := 1) at_208 (by decide) (pc' := 209) rfl ?_
        refine s_goto k75 at_209 (by decide) (pc' := 213) (by decide) ?_
        refine s_istore k75 at_213 (l' := #[.val (.long i0), .second, .val (.long i1), .second, .val (.long i2), .second, .val (.long i3), .second, .val (.int i4), .val (.int (1 : Int32)), .val (.int (1 : Int32)), .val (.int ((Jvm.Free.XT.ushr i4 (1 : Int32)) % (3 : Int32))), .val (.ref b40), .val (.ref b46), .val (.ref b55), .val (.ref b55), .val (.long i2), .second, .val (.long i3), .second, .val (.int (1 : Int32))]) rfl (pc' := 215) rfl ?_
        refine s_iload k75 at_215 rfl (pc' := 217) rfl ?_
        refine s_iconst k75 (z := 2) at_217 (by decide) (pc' := 218) rfl ?_
        refine s_icmp_eq k75 at_218 (by decide) (pc' := 253) (by decide) (pc3 := 221) rfl (fun hc218 => absurd hc218 hc103) (fun hc218 => ?_)
        refine s_iload k75 at_221 rfl (pc' := 223) rfl ?_
        refine s_if_eq k75 at_223 (by decide) (pc' := 250) (by decide) (pc3 := 226) rfl (fun hc223 => absurd hc223 (by decide)) (fun hc223 => ?_)
        refine s_aload k75 at_226 rfl rfl (pc' := 228) rfl ?_
        refine s_iconst k75 (z := 0) at_228 (by decide) (pc' := 229) rfl ?_
        refine s_laload k75 (v := .long i2) at_229 A77_b46 ⟨by decide, by decide⟩ rfl (pc' := 230) rfl ?_
        refine s_lload k75 at_230 rfl (pc' := 232) rfl ?_
        refine s_lcmp_ne k75 at_232 rfl at_233 (by decide) (pc' := 250) (by decide) (pc3 := 236) rfl (fun hc232 => ?_) (fun hc232 => absurd rfl hc232)
        refine s_aload k75 at_236 rfl rfl (pc' := 238) rfl ?_
        refine s_iconst k75 (z := 1) at_238 (by decide) (pc' := 239) rfl ?_
        refine s_laload k75 (v := .long i3) at_239 A77_b46 ⟨by decide, by decide⟩ rfl (pc' := 240) rfl ?_
        refine s_lload k75 at_240 rfl (pc' := 242) rfl ?_
        refine s_lcmp_ne k75 at_242 rfl at_243 (by decide) (pc' := 250) (by decide) (pc3 := 246) rfl (fun hc242 => ?_) (fun hc242 => absurd rfl hc242)
        refine s_iconst k75 (z := 1) at_246 (by decide) (pc' := 247) rfl ?_
        refine s_goto k75 at_247 (by decide) (pc' := 251) (by decide) ?_
        refine s_istore k75 at_251 (l' := #[.val (.long i0), .second, .val (.long i1), .second, .val (.long i2), .second, .val (.long i3), .second, .val (.int i4), .val (.int (1 : Int32)), .val (.int (1 : Int32)), .val (.int ((Jvm.Free.XT.ushr i4 (1 : Int32)) % (3 : Int32))), .val (.ref b40), .val (.ref b46), .val (.ref b55), .val (.ref b55), .val (.long i2), .second, .val (.long i3), .second, .val (.int (1 : Int32))]) rfl (pc' := 253) rfl ?_
        refine s_iload k75 at_253 rfl (pc' := 255) rfl ?_
        exact s_retZ k75 at_255 rfl (by decide) hP (by decide) (by decide) rfl
set_option maxRecDepth 65536 in
set_option maxHeartbeats 40000000 in
theorem comes_1 {Post : Tables → Env → Array Value → State → Outcome → State → Prop} (hpost : ∀ tb e args s v u, (limb_1_1.after args s (.returned v) u = true ∧ limb_1_2.after args s (.returned v) u = true ∧ True) → FrameEnd s (.returned v) u (Jvm.fieldLocs frame_1_writes args s ++ Jvm.arrayLocs frame_1_arrays args s ++ Jvm.staticLocs frame_1_statics s) 16 128 → Post tb e args s (.returned v) u) :
    ArmFor flags0 classFile x code maxLocals ret World_1 tables_1 room_1 Calls_1 rest_1 Pre_1 Post := by
  intro l hfl _ _ p e ha hc hk s m args below hf hA hF happ hP
  obtain ⟨hcalls, hrest, hpre⟩ := hP
  obtain ⟨-, -, -, hnamed, -, -, -, hat⟩ := (Spec.applies_iff hf).mp happ
  obtain ⟨hg, hn⟩ := and_e (Cond.before_iff.mp (show (Jvm.Cond.and given_1 narrow_1).before args s = true from hpre))
  obtain ⟨gc, gr0⟩ := and_e hg
  obtain ⟨w0, w1, w2, w3, w4, rfl⟩ : ∃ w0 w1 w2 w3 w4 : Value, args = #[w0, w1, w2, w3, w4] := by
    have hs : args.size = 5 := by simpa [Cond.value, given_1] using gc
    obtain ⟨L⟩ := args
    match L, hs with
    | [w0, w1, w2, w3, w4], _ => exact ⟨w0, w1, w2, w3, w4, rfl⟩
  have hw := fun d (hd : d ∈ tables_1) => atoms_spec (ws := Jvm.Cond.code x code maxLocals ret :: tables_1) hat d (List.mem_cons_of_mem _ hd)
  obtain ⟨ga0, gr1⟩ := and_e gr0
  obtain ⟨i0, ei0⟩ := isL_v ga0
  obtain rfl : w0 = (.long i0) := Option.some.inj ei0
  obtain ⟨ga1, gr2⟩ := and_e gr1
  obtain ⟨i1, ei1⟩ := isL_v ga1
  obtain rfl : w1 = (.long i1) := Option.some.inj ei1
  obtain ⟨ga2, gr3⟩ := and_e gr2
  obtain ⟨i2, ei2⟩ := isL_v ga2
  obtain rfl : w2 = (.long i2) := Option.some.inj ei2
  obtain ⟨ga3, gr4⟩ := and_e gr3
  obtain ⟨i3, ei3⟩ := isL_v ga3
  obtain rfl : w3 = (.long i3) := Option.some.inj ei3
  have ga4 := gr4
  obtain ⟨i4, ei4⟩ := is_v ga4
  obtain rfl : w4 = (.int i4) := Option.some.inj ei4
  obtain ⟨n, o, h1, h2, h3, _, L, rfl, ⟨rfl, N⟩, hq⟩ := rm0 l s _ hw i0 i1 i2 i3 i4 s.heap s.heap.size (Nat.le_refl _)  tables_1 p e ha hc hk s m _ below hf ((Spec.applies_iff_loose hf).mp happ).1 ⟨rfl, State.Warmed39.refl s, rfl⟩ trivial
  refine ⟨n, _, h1, h2, h3, hpost _ _ _ _ _ _ ⟨Cond.after_iff.mpr rfl, Cond.after_iff.mpr (eq_i res_at (Term.int_eval (1)) rfl), trivial⟩ ⟨hq.1, hq.2.1, (hq.2.2.sift fun y hy => Or.inr (N y hy)).mono (by decide) (by decide)⟩⟩
theorem main_1_1 : Claimed_1_1 := comes_1 fun _ _ _ _ _ _ h hF => ⟨h.1, hF⟩
theorem main_1_2 : Claimed_1_2 := comes_1 fun _ _ _ _ _ _ h hF => ⟨h.2.1, hF⟩
end Jvm.Pilot.@@N@@
namespace Jvm.Pilot.@@N@@
open Jvm Jvm.ClassFile Sem Op Lib Jvm.Free Jvm.Stand Jvm.Pilot.@@N@@.Jvm.D
/-! MADE BY PROGRAM (witnessworld.py) out of the Statement's table words and the real class files: 11 classes; the members and pool entries that the words name. The judged class is class 1, her method 1. -/
namespace start1
open Jvm.ClassFile
def u (s : String) : CpInfo := .utf8 (stringToUtf16 s)
/-- a pool by its gaps: so many unusable entries, then the entry; so many at the end -/
def gap : Nat → List CpInfo → List CpInfo
  | 0, r => r
  | n + 1, r => .unusable :: gap n r
def poolList (es : List (Nat × CpInfo)) (last : Nat) : List CpInfo := es.foldr (fun e r => gap e.1 (e.2 :: r)) (gap last [])
def pool (es : List (Nat × CpInfo)) (last : Nat) : Array CpInfo := ⟨poolList es last⟩
def fileOf (pool : Array CpInfo) (this : Nat) (attrs : Array Attribute := #[]) (ms : Array MethodInfo := #[]) (fl : Nat := 33) (sup : Nat := 0) (ifs : Array Nat := #[]) (fds : Array FieldInfo := #[]) : ClassFile where
  minorVersion := 0
  majorVersion := 65
  constantPool := pool
  accessFlags := fl
  thisClass := this
  superClass := sup
  interfaces := ifs
  fields := fds
  methods := ms
  attributes := attrs
def plain (name : String) (sup : Option ClassId) : Class where
  name := name
  kind := .ordinary
  loader := none
  accessFlags := 33
  super := sup
  interfaces := #[]
  cf := none
  fields := #[]
  methods := #[]
  instanceTypes := #[]
  staticTypes := #[]
  resolved := #[]
  callSites := []
  init := .initialized
  statics := none
  mirror := none

def pool0 : Array CpInfo := pool [(5, u "<init>"), (0, u "()V"), (1, .class_ 10), (1, u "java/lang/Object")] 113

def k0m0 : Method := { name := "<init>", desc := "()V", sig := { parameters := [], returnType := none }, accessFlags := 1, code := none }
/-- java/lang/Object -/
def k0 : Class := { plain "java/lang/Object" none with
  accessFlags := 33
  interfaces := #[]
  cf := some (fileOf pool0 8 #[] #[{ accessFlags := 1, nameIndex := 5, descriptorIndex := 6, attributes := #[] }] 33 0 #[] #[])
  fields := #[]
  methods := #[k0m0]
  instanceTypes := #[]
  staticTypes := #[]
  resolved := Array.replicate 124 none
  statics := none }

def pool1 : Array CpInfo := pool [(2, .class_ 4), (1, u "java/lang/Object"), (0, u "<init>"), (0, u "()V"), (0, .long 18446744073709551615), (1, .methodref 10 11), (0, .class_ 12), (0, .nameAndType 13 14), (0, u "io/credsmith/Montgomery"), (0, u "choose"), (0, u "([J[JI[J)V"), (0, .class_ 16), (0, u "io/credsmith/MontgomeryChoosePinLaw"), (2, u "law"), (0, u "(JJJJI)Z")] 5

def k1m0 : Method := { name := "<init>", desc := "()V", sig := { parameters := [], returnType := none }, accessFlags := 1, code := none }
def k1c1 : Code := { maxStack := 7, maxLocals := 21, code := code, exceptionTable := #[], attributes := #[] }
def k1m1 : Method := { name := "law", desc := "(JJJJI)Z", sig := { parameters := [.long, .long, .long, .long, .int], returnType := some .boolean }, accessFlags := 9, code := some k1c1 }
/-- io/credsmith/MontgomeryChoosePinLaw -/
def k1 : Class := { plain "io/credsmith/MontgomeryChoosePinLaw" (some 0) with
  accessFlags := 49
  interfaces := #[]
  cf := some (fileOf pool1 15 #[] #[{ accessFlags := 1, nameIndex := 5, descriptorIndex := 6, attributes := #[] }, { accessFlags := 9, nameIndex := 19, descriptorIndex := 20, attributes := #[] }] 49 2 #[] #[])
  fields := #[]
  methods := #[k1m0, k1m1]
  instanceTypes := #[]
  staticTypes := #[]
  resolved := Array.replicate 26 none
  statics := none }

def pool2 : Array CpInfo := pool [(1, .class_ 2), (0, u "io/credsmith/Montgomery"), (3, .class_ 8), (1, u "java/lang/Object"), (11, u "Ljava/math/BigInteger;"), (13, u "modulus"), (6, u "size"), (0, u "I"), (6, u "n"), (0, u "[J"), (2, u "shiftedN"), (6, u "inverse"), (0, u "J"), (2, u "work"), (2, u "factor"), (128, u "LIMB_BITS"), (2, u "LIMB_MASK"), (0, u "FACTOR_SHIFT"), (1, u "ROWS_BETWEEN_CARRIES"), (1, u "WINDOW_BITS"), (20, u "choose"), (0, u "([J[JI[J)V")] 2

def k2c0 : Code := { maxStack := 8, maxLocals := 7, code := prog_28_method_13_code, exceptionTable := #[], attributes := #[] }
def k2m0 : Method := { name := "choose", desc := "([J[JI[J)V", sig := { parameters := [(.array .long), (.array .long), .int, (.array .long)], returnType := none }, accessFlags := 8, code := some k2c0 }
/-- io/credsmith/Montgomery -/
def k2 : Class := { plain "io/credsmith/Montgomery" (some 0) with
  accessFlags := 48
  interfaces := #[]
  cf := some (fileOf pool2 1 #[] #[{ accessFlags := 8, nameIndex := 225, descriptorIndex := 226, attributes := #[] }] 48 6 #[] #[{ accessFlags := 26, nameIndex := 196, descriptorIndex := 42, attributes := #[] }, { accessFlags := 26, nameIndex := 199, descriptorIndex := 61, attributes := #[] }, { accessFlags := 26, nameIndex := 200, descriptorIndex := 42, attributes := #[] }, { accessFlags := 26, nameIndex := 202, descriptorIndex := 42, attributes := #[] }, { accessFlags := 26, nameIndex := 204, descriptorIndex := 42, attributes := #[] }, { accessFlags := 18, nameIndex := 34, descriptorIndex := 20, attributes := #[] }, { accessFlags := 18, nameIndex := 41, descriptorIndex := 42, attributes := #[] }, { accessFlags := 18, nameIndex := 49, descriptorIndex := 50, attributes := #[] }, { accessFlags := 18, nameIndex := 53, descriptorIndex := 50, attributes := #[] }, { accessFlags := 18, nameIndex := 60, descriptorIndex := 61, attributes := #[] }, { accessFlags := 18, nameIndex := 64, descriptorIndex := 50, attributes := #[] }, { accessFlags := 18, nameIndex := 67, descriptorIndex := 50, attributes := #[] }])
  fields := #[{ name := "LIMB_BITS", type := .int, accessFlags := 26, slot := 0, constantValue := 0 }, { name := "LIMB_MASK", type := .long, accessFlags := 26, slot := 1, constantValue := 0 }, { name := "FACTOR_SHIFT", type := .int, accessFlags := 26, slot := 2, constantValue := 0 }, { name := "ROWS_BETWEEN_CARRIES", type := .int, accessFlags := 26, slot := 3, constantValue := 0 }, { name := "WINDOW_BITS", type := .int, accessFlags := 26, slot := 4, constantValue := 0 }, { name := "modulus", type := (.object "java/math/BigInteger"), accessFlags := 18, slot := 0, constantValue := 0 }, { name := "size", type := .int, accessFlags := 18, slot := 1, constantValue := 0 }, { name := "n", type := (.array .long), accessFlags := 18, slot := 2, constantValue := 0 }, { name := "shiftedN", type := (.array .long), accessFlags := 18, slot := 3, constantValue := 0 }, { name := "inverse", type := .long, accessFlags := 18, slot := 4, constantValue := 0 }, { name := "work", type := (.array .long), accessFlags := 18, slot := 5, constantValue := 0 }, { name := "factor", type := (.array .long), accessFlags := 18, slot := 6, constantValue := 0 }]
  methods := #[k2m0]
  instanceTypes := #[(.object "java/math/BigInteger"), .int, (.array .long), (.array .long), .long, (.array .long), (.array .long)]
  staticTypes := #[.int, .long, .int, .int, .int]
  resolved := Array.replicate 229 none
  statics := none }

def pool3 : Array CpInfo := pool [(1, u "java/lang/Cloneable"), (0, .class_ 1), (0, u "java/lang/Object"), (0, .class_ 3)] 3

/-- java/lang/Cloneable -/
def k3 : Class := { plain "java/lang/Cloneable" (some 0) with
  accessFlags := 1537
  interfaces := #[]
  cf := some (fileOf pool3 2 #[] #[] 1537 4 #[] #[])
  fields := #[]
  methods := #[]
  instanceTypes := #[]
  staticTypes := #[]
  resolved := Array.replicate 8 none
  statics := none }

def pool4 : Array CpInfo := pool [(1, u "java/io/Serializable"), (0, .class_ 1), (0, u "java/lang/Object"), (0, .class_ 3)] 3

/-- java/io/Serializable -/
def k4 : Class := { plain "java/io/Serializable" (some 0) with
  accessFlags := 1537
  interfaces := #[]
  cf := some (fileOf pool4 2 #[] #[] 1537 4 #[] #[])
  fields := #[]
  methods := #[]
  instanceTypes := #[]
  staticTypes := #[]
  resolved := Array.replicate 8 none
  statics := none }

/-- the primitive byte -/
def k5 : Class := { plain "byte" none with kind := .primitive 'B', accessFlags := 0x411 }
/-- [B -/
def k6 : Class := { plain "[B" (some 0) with kind := .array 5 .byte, interfaces := #[3, 4], accessFlags := 1041 }

/-- the primitive int -/
def k7 : Class := { plain "int" none with kind := .primitive 'I', accessFlags := 0x411 }
/-- [I -/
def k8 : Class := { plain "[I" (some 0) with kind := .array 7 .int, interfaces := #[3, 4], accessFlags := 1041 }

/-- the primitive long -/
def k9 : Class := { plain "long" none with kind := .primitive 'J', accessFlags := 0x411 }
/-- [J -/
def k10 : Class := { plain "[J" (some 0) with kind := .array 9 .long, interfaces := #[3, 4], accessFlags := 1041 }

def heap : Heap := #[]
def classes : Array Class := #[k0, k1, k2, k3, k4, k5, k6, k7, k8, k9, k10]
def interned : List (Array UInt16 × Addr) := []
def slotsUsed : Nat := 0
def theMethod : MethodId := ⟨1, 1⟩
def args0 : Array Value := #[.long 5, .long 6, .long 7, .long 8, .int 3]
def aboutOver (below : List Frame) : State where
  vm := { classes := classes, interned := interned.toArray }
  heap := heap
  slotsUsed := slotsUsed
  threads := #[{ frames := .invoking theMethod args0 :: below }]
def below0 : List Frame := [.native { method := ⟨0, 0⟩, args := #[] }]
def about1 : State := aboutOver below0
def p0 : Program := .bare "" "" ""
def e0 : Env := launch0.env 0 0 0
theorem w_frames : about1.frames = Frame.invoking theMethod args0 :: below0 := rfl
set_option maxRecDepth 65536 in
theorem w_args : argsFit about1.vm theMethod args0 = true := by decide +kernel
set_option maxRecDepth 65536 in
theorem w_heap : heapFits about1 = true := by decide +kernel
set_option maxRecDepth 65536 in
theorem w_runnable : about1.curStatus? = some .runnable := by decide +kernel
set_option maxRecDepth 65536 in
theorem w_alone : about1.alone = true := by decide +kernel
set_option maxRecDepth 65536 in
theorem w_named : about1.methodNamed? x = some theMethod := by decide +kernel
set_option maxRecDepth 65536 in
theorem w_hears : about1.hears theMethod below0 = true := by decide +kernel
set_option maxRecDepth 65536 in
theorem w_ripe : about1.ripe theMethod args0 below0 = true := by decide +kernel
theorem w_running : about1.status = .running := rfl
set_option maxRecDepth 65536 in
theorem w_room : about1.hasRoom e0.platform room_1 = true :=
  launch0.hasRoom_least _ room_1 (by decide +kernel) (by decide +kernel) (by decide +kernel) (by decide +kernel) (by decide +kernel) (by decide +kernel)
theorem allAtoms_all (ts : List Jvm.Cond) (a : Array Jvm.Value) (st : Jvm.State) : (allAtoms ts).before a st = ts.all (fun c => c.before a st) := by
  induction ts with
  | nil => rfl
  | cons c t ih =>
    show (Jvm.Cond.and c (allAtoms t)).before a st = _
    rw [Jvm.Cond.before_and, ih, List.all_cons]
def words1 : List Jvm.Cond := Jvm.Cond.code x code maxLocals ret :: tables_1
/-- a 'code' word, met by the world's own term for the bytes: nothing is compared byte by byte -/
theorem code_word {y : MethodName} {bytes : ByteArray} {mx : Nat} {rt : Option FieldType} {a : Array Value} {s : State} {m : MethodId} {meth : Method} {c : Code} (h1 : s.methodNamed? y = some m) (h2 : s.vm.method? m = some meth) (h3 : meth.code = some c) (h4 : c.code = bytes)
    (h5 : (c.maxLocals == mx && c.exceptionTable.isEmpty && decide (c.maxStack ≤ mostOperands) && decide (meth.sig.returnType = rt) && !meth.locks && decide (parseMethodDescriptor y.desc = some meth.sig)) = true) : (Jvm.Cond.code y bytes mx rt).before a s = true := by
  simp only [Bool.and_eq_true, beq_iff_eq, Bool.not_eq_true', decide_eq_true_eq] at h5
  obtain ⟨⟨⟨⟨⟨g1, g2⟩, g3⟩, g4⟩, g5⟩, g6⟩ := h5
  simp [Cond.before, Cond.holds, Cond.value, h1, h2, h3, h4, g1, g2, g3, g4, g5, g6]
def isCode : Jvm.Cond → Bool
  | .code _ _ _ _ => true
  | _ => false
theorem all_split {L : List Jvm.Cond} {P : Jvm.Cond → Bool} (h1 : L.all (fun c => isCode c || P c) = true) (h2 : ∀ c ∈ L.filter isCode, P c = true) : L.all P = true := by
  refine List.all_eq_true.mpr fun c hc => ?_
  have h := List.all_eq_true.mp h1 c hc
  rcases Bool.eq_false_or_eq_true (isCode c) with hi | hi
  · exact h2 c (List.mem_filter.mpr ⟨hc, hi⟩)
  · simpa [hi] using h
set_option maxRecDepth 65536 in
theorem w_c0 : (Jvm.Cond.code x code maxLocals ret).before args0 about1 = true := code_word (m := ⟨1, 1⟩) (meth := k1m1) (c := k1c1) (by decide +kernel) rfl rfl rfl (by decide +kernel)
set_option maxRecDepth 65536 in
theorem w_c1 : (Jvm.Cond.code ({ cls := "io/credsmith/Montgomery", name := "choose", desc := "([J[JI[J)V" } : Jvm.MethodName) prog_28_method_13_code (7 : Nat) (Option.none : Option Jvm.ClassFile.FieldType)).before args0 about1 = true := code_word (m := ⟨2, 0⟩) (meth := k2m0) (c := k2c0) (by decide +kernel) rfl rfl rfl (by decide +kernel)
def codes1 : List Jvm.Cond := [Jvm.Cond.code x code maxLocals ret, Jvm.Cond.code ({ cls := "io/credsmith/Montgomery", name := "choose", desc := "([J[JI[J)V" } : Jvm.MethodName) prog_28_method_13_code (7 : Nat) (Option.none : Option Jvm.ClassFile.FieldType)]
set_option maxRecDepth 65536 in
theorem codes_eq : words1.filter isCode = codes1 := rfl
theorem w_codes : ∀ c ∈ words1.filter isCode, c.before args0 about1 = true := by
  rw [codes_eq]
  intro c hc
  simp only [codes1, List.mem_cons, List.not_mem_nil, or_false] at hc
  rcases hc with rfl | rfl
  · exact w_c0
  · exact w_c1
set_option maxRecDepth 65536 in
theorem w_t1 : words1.all (fun c => isCode c || c.before args0 about1) = true := by decide +kernel
theorem w_tables : (allAtoms (Jvm.Cond.code x code maxLocals ret :: tables_1)).before args0 about1 = true := by
  rw [allAtoms_all]
  show words1.all (fun c => c.before args0 about1) = true
  refine all_split ?_ w_codes
  rw [w_t1]
set_option maxRecDepth 65536 in
theorem w_case : (Jvm.Cond.and given_1 narrow_1).before args0 about1 = true := by decide +kernel
theorem w_applies : (headSpec (Jvm.Cond.code x code maxLocals ret :: tables_1) room_1).applies x e0.platform about1 = true :=
  (Spec.applies_iff w_frames).mpr ⟨w_running, w_runnable, w_alone, w_named, w_hears, w_ripe, w_room, w_tables⟩
theorem atStart : AtStart classFile x code maxLocals ret World_1 tables_1 room_1 Calls_1 rest_1 Pre_1 launch0 p0 e0 about1 theMethod args0 below0 :=
  ⟨lists_1, trivial, launch0.admits_env _ _ _, launch0.least_env, fairChoices_fair.cas, fairChoices_fair.clock, w_frames, w_args, w_heap, w_applies, trivial, trivial, w_case⟩
end start1
theorem witness_1 : WitnessClaimed_1 := ⟨start1.p0, start1.e0, start1.about1, start1.theMethod, start1.args0, start1.below0, start1.atStart⟩
end Jvm.Pilot.@@N@@
