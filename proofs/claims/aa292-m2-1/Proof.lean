import JvmDerived
import JvmDerived.Pilot.@@N@@Statement
import JvmDerived.Pilot.@@N@@Code
set_option linter.unusedVariables false
set_option linter.unusedSimpArgs false
namespace Jvm.GoKit
open Sem ClassFile Op Lib Jvm.Stand Jvm.Free Jvm.LawKit Jvm.RoadKit
abbrev GT := Heap → Nat → Nat → Nat → Array Slot → List Value → Prop
def Ctr (l : Launch) (Z : State) (y : MethodName) (bytes : ByteArray) (maxL : Nat) (ret : Option FieldType) (R : Room) (n0 : Nat) (as : Array Value) (h0 : Heap) (Q : Option Value → Heap → Prop) (wl : List Jvm.Cond) : Prop :=
  MetFree l y (head1 (Jvm.Cond.code y bytes maxL ret :: wl) R) (fun a U => a = as ∧ Z.Warmed39 U.vm ∧ U.heap = h0) (fun _ _ _ _ _ => True)
    (fun _ U o U' => ∃ v L, o = .returned v ∧ (Q v U'.heap ∧ Fr n0 L) ∧ FrameEnd U o U' L R.cells R.slots)
def Go (p : Program) (l : Launch) (e : Env) (R : Room) (s : State) (m : MethodId) (args : Array Value) (below : List Frame) (meth : Method) (c : Code) (n0 : Nat) (Q : Option Value → Heap → Prop) : GT :=
  fun h k n pc ls st => ∀ T locs, Stand p l e R s m args below meth c T locs k n → T.heap = h → Fr n0 locs →
    ∃ s₂ o, Steps p.tables e below (T.setTop (mkF m pc ls st)) s₂ ∧ s₂.status = .running ∧ Ended s₂ below o ∧ ∃ v L, o = .returned v ∧ (Q v s₂.heap ∧ Fr n0 L) ∧ FrameEnd s o s₂ L R.cells R.slots
def Cx (G : GT) (l : Launch) (Z : State) (a0 : Array Value) (ws : List Jvm.Cond) (R : Room) (y : MethodName) (bytes : ByteArray) (maxL : Nat) (ret : Option FieldType) (n0 : Nat) (Q : Option Value → Heap → Prop) : Prop :=
  ∃ p e s m args below meth c, p.tables.exec = Jvm.exec ∧ c.code = bytes ∧ c.maxLocals = maxL ∧ s.vm.findClass y.cls = some m.cls ∧ meth.name = y.name ∧ meth.sig.returnType = ret ∧ meth.locks = false ∧ Z.Warmed39 s.vm ∧ (∀ d ∈ ws, d.before a0 Z = true) ∧ G = Go p l e R s m args below meth c n0 Q
def lay : List Value → List Slot
  | [] => []
  | v :: vs => if v.category = 2 then .val v :: .second :: lay vs else .val v :: lay vs
theorem lay_fold : ∀ (vs : List Value) (acc : Array Slot), vs.foldl (fun (acc : Array Slot) v => if v.category = 2 then (acc.push (.val v)).push .second else acc.push (.val v)) acc = acc ++ (lay vs).toArray
  | [], acc => by simp [lay]
  | v :: vs, acc => by
    rw [List.foldl_cons, lay_fold vs, show lay (v :: vs) = (if v.category = 2 then Slot.val v :: .second :: lay vs else .val v :: lay vs) from rfl]
    split <;> simp
theorem entry_eq (m : MethodId) {as : Array Value} {maxL k : Nat} {L1 : List Slot} {ls : Array Slot} (h1 : lay as.toList = L1) (h2 : L1.length + k = maxL) (h3 : (L1 ++ List.replicate k Slot.unset).toArray = ls) : entryFrame m as maxL = mkF m 0 ls [] := by
  subst h1 h2 h3
  unfold entryFrame argsToLocals
  have e : as.foldl (init := #[]) (fun (acc : Array Slot) v => if v.category = 2 then (acc.push (.val v)).push .second else acc.push (.val v)) = (lay as.toList).toArray := by
    rw [← Array.foldl_toList, lay_fold]; simp
  simp only [e]
  simp [mkF]
theorem Ctr.of {l : Launch} {Z : State} {a0 : Array Value} {ws : List Jvm.Cond} {R : Room} {y : MethodName} {bytes : ByteArray} {maxL : Nat} {ret : Option FieldType} {n0 : Nat} {Q : Option Value → Heap → Prop} {as : Array Value} {h0 : Heap} {wl : List Jvm.Cond} {ls : Array Slot}
    (hn : plainFor y = true) (hw : ∀ d ∈ ws, d.before a0 Z = true) (he : ∀ m, entryFrame m as maxL = mkF m 0 ls []) (H : ∀ G, Cx G l Z a0 ws R y bytes maxL ret n0 Q → G h0 0 0 0 ls []) : Ctr l Z y bytes maxL ret R n0 as h0 Q wl := by
  refine MetFree.of_bodySF hn hisR ?_
  intro p e s m args below meth c s₁ Bd hml0 hP hK
  obtain ⟨rfl, hZ, hh⟩ := hP
  have X0 : Stand p l e R s m args below meth c s₁ [] 0 0 := Stand.of_body Bd
  have e0 : s₁.heap = h0 := by rw [← hh, Bd.state]; rfl
  obtain ⟨s₂, o, h1, h2, h3, h4⟩ := H (Go p l e R s m args below meth c n0 Q) ⟨p, e, s, m, args, below, meth, c, Bd.exec, Bd.bytes, hml0, findClass_of_methodNamed Bd.named, (name_of_methodNamed Bd.named Bd.method).1, Bd.returns, Bd.notSynchronized, hZ, hw, rfl⟩ s₁ [] X0 e0 (Fr.nil n0)
  exact ⟨s₂, o, castTop (he m) h1, h2, h3, h4⟩
theorem Ctr.mono {l : Launch} {Z : State} {R : Room} {y : MethodName} {bytes : ByteArray} {maxL : Nat} {ret : Option FieldType} {n0 : Nat} {Q Q' : Option Value → Heap → Prop} {as : Array Value} {h0 : Heap} {wl : List Jvm.Cond} (H : Ctr l Z y bytes maxL ret R n0 as h0 Q wl) (hq : ∀ v h, Q v h → Q' v h) : Ctr l Z y bytes maxL ret R n0 as h0 Q' wl := by
  intro p e ha hc hk s m args below hf happ hP hK
  obtain ⟨n, o, h1, h2, h3, v, L, h4, h5, h6⟩ := H p e ha hc hk s m args below hf happ hP hK
  exact ⟨n, o, h1, h2, h3, v, L, h4, ⟨hq _ _ h5.1, h5.2⟩, h6⟩
section Laws
variable {G : GT} {k' n' : Nat} {l : Launch} {Z : State} {a0 : Array Value} {ws : List Jvm.Cond} {R : Room} {y : MethodName} {bytes : ByteArray} {maxL : Nat} {ret : Option FieldType} {n0 : Nat} {Q : Option Value → Heap → Prop} {h : Heap} {k n pc pc' pc1 pc2 : Nat} {ls ls' : Array Slot} {st rest : List Value}
theorem lift {p : Program} {e : Env} {s : State} {m : MethodId} {args : Array Value} {below : List Frame} {meth : Method} {c : Code} {st' : List Value}
    (H : ∀ T locs, Stand p l e R s m args below meth c T locs k n → T.heap = h → ∀ target, Steps p.tables e below (T.setTop (mkF m pc' ls' st')) target → Steps p.tables e below (T.setTop (mkF m pc ls st)) target)
    (hr : Go p l e R s m args below meth c n0 Q h k n pc' ls' st') : Go p l e R s m args below meth c n0 Q h k n pc ls st := by
  intro T locs X hT hF
  obtain ⟨s₂, o, h1, h2⟩ := hr T locs X hT hF
  exact ⟨s₂, o, H T locs X hT s₂ h1, h2⟩
theorem word {d : Jvm.Cond} {i : Nat} (hw : ∀ d ∈ ws, d.before a0 Z = true) (hi : ws[i]? = some d) : d.before a0 Z = true := hw _ (List.mem_of_getElem? hi)
theorem Cx.iload (C : Cx G l Z a0 ws R y bytes maxL ret n0 Q) {j : Nat} {v : Int32} (hd : decode bytes pc = .ok (.iload j, 2)) (hl : ls[j]? = some (.val (.int v))) (hp : pc + 2 = pc') (hr : G h k n pc' ls (.int v :: st)) : G h k n pc ls (st) := by
  obtain ⟨p, e, s, m, args, below, meth, c, hx, hby, hml, hown, hnm, hret, hlk, hZ, hw, rfl⟩ := C
  subst hp
  exact lift (fun T locs X _ target q => XS.iload X.here hx rfl (hb hby hd) hl q) hr
theorem Cx.lload (C : Cx G l Z a0 ws R y bytes maxL ret n0 Q) {j : Nat} {v : Int64} (hd : decode bytes pc = .ok (.lload j, 2)) (hl : ls[j]? = some (.val (.long v))) (hp : pc + 2 = pc') (hr : G h k n pc' ls (.long v :: st)) : G h k n pc ls (st) := by
  obtain ⟨p, e, s, m, args, below, meth, c, hx, hby, hml, hown, hnm, hret, hlk, hZ, hw, rfl⟩ := C
  subst hp
  exact lift (fun T locs X _ target q => XT.lload X.here hx rfl (hb hby hd) hl q) hr
theorem Cx.aload (C : Cx G l Z a0 ws R y bytes maxL ret n0 Q) {j : Nat} {v : Addr} (hd : decode bytes pc = .ok (.aload j, 2)) (hl : ls[j]? = some (.val (.ref v))) (hp : pc + 2 = pc') (hr : G h k n pc' ls (.ref v :: st)) : G h k n pc ls (st) := by
  obtain ⟨p, e, s, m, args, below, meth, c, hx, hby, hml, hown, hnm, hret, hlk, hZ, hw, rfl⟩ := C
  subst hp
  exact lift (fun T locs X _ target q => XS.aload X.here hx rfl (hb hby hd) hl rfl q) hr
theorem Cx.istore (C : Cx G l Z a0 ws R y bytes maxL ret n0 Q) {j : Nat} {x : Int32} (hd : decode bytes pc = .ok (.istore j, 2)) (hl : storeLocals ls j (.int x) = some ls') (hp : pc + 2 = pc') (hr : G h k n pc' ls' (st)) : G h k n pc ls (.int x :: st) := by
  obtain ⟨p, e, s, m, args, below, meth, c, hx, hby, hml, hown, hnm, hret, hlk, hZ, hw, rfl⟩ := C
  subst hp
  exact lift (fun T locs X _ target q => XS.istore X.here hx rfl (hb hby hd) rfl hl q) hr
theorem Cx.lstore (C : Cx G l Z a0 ws R y bytes maxL ret n0 Q) {j : Nat} {x : Int64} (hd : decode bytes pc = .ok (.lstore j, 2)) (hl : storeLocals ls j (.long x) = some ls') (hp : pc + 2 = pc') (hr : G h k n pc' ls' (st)) : G h k n pc ls (.long x :: st) := by
  obtain ⟨p, e, s, m, args, below, meth, c, hx, hby, hml, hown, hnm, hret, hlk, hZ, hw, rfl⟩ := C
  subst hp
  exact lift (fun T locs X _ target q => XT.lstore X.here hx rfl (hb hby hd) rfl hl q) hr
theorem Cx.astore (C : Cx G l Z a0 ws R y bytes maxL ret n0 Q) {j : Nat} {x : Addr} (hd : decode bytes pc = .ok (.astore j, 2)) (hl : storeLocals ls j (.ref x) = some ls') (hp : pc + 2 = pc') (hr : G h k n pc' ls' (st)) : G h k n pc ls (.ref x :: st) := by
  obtain ⟨p, e, s, m, args, below, meth, c, hx, hby, hml, hown, hnm, hret, hlk, hZ, hw, rfl⟩ := C
  subst hp
  exact lift (fun T locs X _ target q => XS.astore X.here hx rfl (hb hby hd) rfl rfl hl q) hr
theorem Cx.iloadN (C : Cx G l Z a0 ws R y bytes maxL ret n0 Q) {j : Fin 4} {v : Int32} (hd : decode bytes pc = .ok (.iload_n j, 1)) (hl : ls[j.val]? = some (.val (.int v))) (hp : pc + 1 = pc') (hr : G h k n pc' ls (.int v :: st)) : G h k n pc ls (st) := by
  obtain ⟨p, e, s, m, args, below, meth, c, hx, hby, hml, hown, hnm, hret, hlk, hZ, hw, rfl⟩ := C
  subst hp
  exact lift (fun T locs X _ target q => XS.iloadN X.here hx rfl (hb hby hd) hl q) hr
theorem Cx.lloadN (C : Cx G l Z a0 ws R y bytes maxL ret n0 Q) {j : Fin 4} {v : Int64} (hd : decode bytes pc = .ok (.lload_n j, 1)) (hl : ls[j.val]? = some (.val (.long v))) (hp : pc + 1 = pc') (hr : G h k n pc' ls (.long v :: st)) : G h k n pc ls (st) := by
  obtain ⟨p, e, s, m, args, below, meth, c, hx, hby, hml, hown, hnm, hret, hlk, hZ, hw, rfl⟩ := C
  subst hp
  exact lift (fun T locs X _ target q => XT.lloadN X.here hx rfl (hb hby hd) hl q) hr
theorem Cx.aloadN (C : Cx G l Z a0 ws R y bytes maxL ret n0 Q) {j : Fin 4} {v : Addr} (hd : decode bytes pc = .ok (.aload_n j, 1)) (hl : ls[j.val]? = some (.val (.ref v))) (hp : pc + 1 = pc') (hr : G h k n pc' ls (.ref v :: st)) : G h k n pc ls (st) := by
  obtain ⟨p, e, s, m, args, below, meth, c, hx, hby, hml, hown, hnm, hret, hlk, hZ, hw, rfl⟩ := C
  subst hp
  exact lift (fun T locs X _ target q => XS.aloadN X.here hx rfl (hb hby hd) hl rfl q) hr
theorem Cx.istoreN (C : Cx G l Z a0 ws R y bytes maxL ret n0 Q) {j : Fin 4} {x : Int32} (hd : decode bytes pc = .ok (.istore_n j, 1)) (hl : storeLocals ls j.val (.int x) = some ls') (hp : pc + 1 = pc') (hr : G h k n pc' ls' (st)) : G h k n pc ls (.int x :: st) := by
  obtain ⟨p, e, s, m, args, below, meth, c, hx, hby, hml, hown, hnm, hret, hlk, hZ, hw, rfl⟩ := C
  subst hp
  exact lift (fun T locs X _ target q => XS.istoreN X.here hx rfl (hb hby hd) rfl hl q) hr
theorem Cx.lstoreN (C : Cx G l Z a0 ws R y bytes maxL ret n0 Q) {j : Fin 4} {x : Int64} (hd : decode bytes pc = .ok (.lstore_n j, 1)) (hl : storeLocals ls j.val (.long x) = some ls') (hp : pc + 1 = pc') (hr : G h k n pc' ls' (st)) : G h k n pc ls (.long x :: st) := by
  obtain ⟨p, e, s, m, args, below, meth, c, hx, hby, hml, hown, hnm, hret, hlk, hZ, hw, rfl⟩ := C
  subst hp
  exact lift (fun T locs X _ target q => XT.lstoreN X.here hx rfl (hb hby hd) rfl hl q) hr
theorem Cx.astoreN (C : Cx G l Z a0 ws R y bytes maxL ret n0 Q) {j : Fin 4} {x : Addr} (hd : decode bytes pc = .ok (.astore_n j, 1)) (hl : storeLocals ls j.val (.ref x) = some ls') (hp : pc + 1 = pc') (hr : G h k n pc' ls' (st)) : G h k n pc ls (.ref x :: st) := by
  obtain ⟨p, e, s, m, args, below, meth, c, hx, hby, hml, hown, hnm, hret, hlk, hZ, hw, rfl⟩ := C
  subst hp
  exact lift (fun T locs X _ target q => XS.astoreN X.here hx rfl (hb hby hd) rfl rfl hl q) hr
theorem Cx.iconst (C : Cx G l Z a0 ws R y bytes maxL ret n0 Q) {i : Int} {v : Int32} (hd : decode bytes pc = .ok (.iconst i, 1)) (hv : Int32.ofInt i = v) (hp : pc + 1 = pc') (hr : G h k n pc' ls (.int v :: st)) : G h k n pc ls (st) := by
  obtain ⟨p, e, s, m, args, below, meth, c, hx, hby, hml, hown, hnm, hret, hlk, hZ, hw, rfl⟩ := C
  subst hp
  exact lift (fun T locs X _ target q => XT.iconstV X.here hx rfl v (hb hby hd) hv q) hr
theorem Cx.bipush (C : Cx G l Z a0 ws R y bytes maxL ret n0 Q) {i : Int} {v : Int32} (hd : decode bytes pc = .ok (.bipush i, 2)) (hv : (Int8.ofInt i).toInt32 = v) (hp : pc + 2 = pc') (hr : G h k n pc' ls (.int v :: st)) : G h k n pc ls (st) := by
  obtain ⟨p, e, s, m, args, below, meth, c, hx, hby, hml, hown, hnm, hret, hlk, hZ, hw, rfl⟩ := C
  subst hp
  exact lift (fun T locs X _ target q => XT.bipushV X.here hx rfl v (hb hby hd) hv q) hr
theorem Cx.sipush (C : Cx G l Z a0 ws R y bytes maxL ret n0 Q) {i : Int} {v : Int32} (hd : decode bytes pc = .ok (.sipush i, 3)) (hv : (Int16.ofInt i).toInt32 = v) (hp : pc + 3 = pc') (hr : G h k n pc' ls (.int v :: st)) : G h k n pc ls (st) := by
  obtain ⟨p, e, s, m, args, below, meth, c, hx, hby, hml, hown, hnm, hret, hlk, hZ, hw, rfl⟩ := C
  subst hp
  exact lift (fun T locs X _ target q => XT.sipushV X.here hx rfl v (hb hby hd) hv q) hr
theorem Cx.lconst (C : Cx G l Z a0 ws R y bytes maxL ret n0 Q) {i : Fin 2} {v : Int64} (hd : decode bytes pc = .ok (.lconst i, 1)) (hv : Int64.ofNat i = v) (hp : pc + 1 = pc') (hr : G h k n pc' ls (.long v :: st)) : G h k n pc ls (st) := by
  obtain ⟨p, e, s, m, args, below, meth, c, hx, hby, hml, hown, hnm, hret, hlk, hZ, hw, rfl⟩ := C
  subst hp
  exact lift (fun T locs X _ target q => XT.lconstV X.here hx rfl v (hb hby hd) hv q) hr
theorem Cx.dconst0 (C : Cx G l Z a0 ws R y bytes maxL ret n0 Q)  (hd : decode bytes pc = .ok (.dconst 0, 1))  (hp : pc + 1 = pc') (hr : G h k n pc' ls (.double FP.dconst0 :: st)) : G h k n pc ls (st) := by
  obtain ⟨p, e, s, m, args, below, meth, c, hx, hby, hml, hown, hnm, hret, hlk, hZ, hw, rfl⟩ := C
  subst hp
  exact lift (fun T locs X _ target q => XS.dconst0 X.here hx rfl (hb hby hd) rfl q) hr
theorem Cx.dconst1 (C : Cx G l Z a0 ws R y bytes maxL ret n0 Q)  (hd : decode bytes pc = .ok (.dconst 1, 1))  (hp : pc + 1 = pc') (hr : G h k n pc' ls (.double FP.dconst1 :: st)) : G h k n pc ls (st) := by
  obtain ⟨p, e, s, m, args, below, meth, c, hx, hby, hml, hown, hnm, hret, hlk, hZ, hw, rfl⟩ := C
  subst hp
  exact lift (fun T locs X _ target q => XS.dconst1 X.here hx rfl (hb hby hd) rfl q) hr
theorem Cx.iadd (C : Cx G l Z a0 ws R y bytes maxL ret n0 Q) {a b : Int32} (hd : decode bytes pc = .ok (.iadd, 1))  (hp : pc + 1 = pc') (hr : G h k n pc' ls (.int (a + b) :: st)) : G h k n pc ls (.int b :: .int a :: st) := by
  obtain ⟨p, e, s, m, args, below, meth, c, hx, hby, hml, hown, hnm, hret, hlk, hZ, hw, rfl⟩ := C
  subst hp
  exact lift (fun T locs X _ target q => XS.iadd X.here hx rfl (hb hby hd) rfl q) hr
theorem Cx.isub (C : Cx G l Z a0 ws R y bytes maxL ret n0 Q) {a b : Int32} (hd : decode bytes pc = .ok (.isub, 1))  (hp : pc + 1 = pc') (hr : G h k n pc' ls (.int (a - b) :: st)) : G h k n pc ls (.int b :: .int a :: st) := by
  obtain ⟨p, e, s, m, args, below, meth, c, hx, hby, hml, hown, hnm, hret, hlk, hZ, hw, rfl⟩ := C
  subst hp
  exact lift (fun T locs X _ target q => XS.isub X.here hx rfl (hb hby hd) rfl q) hr
theorem Cx.imul (C : Cx G l Z a0 ws R y bytes maxL ret n0 Q) {a b : Int32} (hd : decode bytes pc = .ok (.imul, 1))  (hp : pc + 1 = pc') (hr : G h k n pc' ls (.int (a * b) :: st)) : G h k n pc ls (.int b :: .int a :: st) := by
  obtain ⟨p, e, s, m, args, below, meth, c, hx, hby, hml, hown, hnm, hret, hlk, hZ, hw, rfl⟩ := C
  subst hp
  exact lift (fun T locs X _ target q => XS.imul X.here hx rfl (hb hby hd) rfl q) hr
theorem Cx.iand (C : Cx G l Z a0 ws R y bytes maxL ret n0 Q) {a b : Int32} (hd : decode bytes pc = .ok (.iand, 1))  (hp : pc + 1 = pc') (hr : G h k n pc' ls (.int (a &&& b) :: st)) : G h k n pc ls (.int b :: .int a :: st) := by
  obtain ⟨p, e, s, m, args, below, meth, c, hx, hby, hml, hown, hnm, hret, hlk, hZ, hw, rfl⟩ := C
  subst hp
  exact lift (fun T locs X _ target q => XS.iand X.here hx rfl (hb hby hd) rfl q) hr
theorem Cx.ior (C : Cx G l Z a0 ws R y bytes maxL ret n0 Q) {a b : Int32} (hd : decode bytes pc = .ok (.ior, 1))  (hp : pc + 1 = pc') (hr : G h k n pc' ls (.int (a ||| b) :: st)) : G h k n pc ls (.int b :: .int a :: st) := by
  obtain ⟨p, e, s, m, args, below, meth, c, hx, hby, hml, hown, hnm, hret, hlk, hZ, hw, rfl⟩ := C
  subst hp
  exact lift (fun T locs X _ target q => XT.ior X.here hx rfl (hb hby hd) rfl q) hr
theorem Cx.ixor (C : Cx G l Z a0 ws R y bytes maxL ret n0 Q) {a b : Int32} (hd : decode bytes pc = .ok (.ixor, 1))  (hp : pc + 1 = pc') (hr : G h k n pc' ls (.int (a ^^^ b) :: st)) : G h k n pc ls (.int b :: .int a :: st) := by
  obtain ⟨p, e, s, m, args, below, meth, c, hx, hby, hml, hown, hnm, hret, hlk, hZ, hw, rfl⟩ := C
  subst hp
  exact lift (fun T locs X _ target q => XT.ixor X.here hx rfl (hb hby hd) rfl q) hr
theorem Cx.ladd (C : Cx G l Z a0 ws R y bytes maxL ret n0 Q) {a b : Int64} (hd : decode bytes pc = .ok (.ladd, 1))  (hp : pc + 1 = pc') (hr : G h k n pc' ls (.long (a + b) :: st)) : G h k n pc ls (.long b :: .long a :: st) := by
  obtain ⟨p, e, s, m, args, below, meth, c, hx, hby, hml, hown, hnm, hret, hlk, hZ, hw, rfl⟩ := C
  subst hp
  exact lift (fun T locs X _ target q => XT.ladd X.here hx rfl (hb hby hd) rfl q) hr
theorem Cx.lsub (C : Cx G l Z a0 ws R y bytes maxL ret n0 Q) {a b : Int64} (hd : decode bytes pc = .ok (.lsub, 1))  (hp : pc + 1 = pc') (hr : G h k n pc' ls (.long (a - b) :: st)) : G h k n pc ls (.long b :: .long a :: st) := by
  obtain ⟨p, e, s, m, args, below, meth, c, hx, hby, hml, hown, hnm, hret, hlk, hZ, hw, rfl⟩ := C
  subst hp
  exact lift (fun T locs X _ target q => XT.lsub X.here hx rfl (hb hby hd) rfl q) hr
theorem Cx.lmul (C : Cx G l Z a0 ws R y bytes maxL ret n0 Q) {a b : Int64} (hd : decode bytes pc = .ok (.lmul, 1))  (hp : pc + 1 = pc') (hr : G h k n pc' ls (.long (a * b) :: st)) : G h k n pc ls (.long b :: .long a :: st) := by
  obtain ⟨p, e, s, m, args, below, meth, c, hx, hby, hml, hown, hnm, hret, hlk, hZ, hw, rfl⟩ := C
  subst hp
  exact lift (fun T locs X _ target q => XT.lmul X.here hx rfl (hb hby hd) rfl q) hr
theorem Cx.land (C : Cx G l Z a0 ws R y bytes maxL ret n0 Q) {a b : Int64} (hd : decode bytes pc = .ok (.land, 1))  (hp : pc + 1 = pc') (hr : G h k n pc' ls (.long (a &&& b) :: st)) : G h k n pc ls (.long b :: .long a :: st) := by
  obtain ⟨p, e, s, m, args, below, meth, c, hx, hby, hml, hown, hnm, hret, hlk, hZ, hw, rfl⟩ := C
  subst hp
  exact lift (fun T locs X _ target q => XT.land X.here hx rfl (hb hby hd) rfl q) hr
theorem Cx.lor (C : Cx G l Z a0 ws R y bytes maxL ret n0 Q) {a b : Int64} (hd : decode bytes pc = .ok (.lor, 1))  (hp : pc + 1 = pc') (hr : G h k n pc' ls (.long (a ||| b) :: st)) : G h k n pc ls (.long b :: .long a :: st) := by
  obtain ⟨p, e, s, m, args, below, meth, c, hx, hby, hml, hown, hnm, hret, hlk, hZ, hw, rfl⟩ := C
  subst hp
  exact lift (fun T locs X _ target q => XT.lor X.here hx rfl (hb hby hd) rfl q) hr
theorem Cx.lxor (C : Cx G l Z a0 ws R y bytes maxL ret n0 Q) {a b : Int64} (hd : decode bytes pc = .ok (.lxor, 1))  (hp : pc + 1 = pc') (hr : G h k n pc' ls (.long (a ^^^ b) :: st)) : G h k n pc ls (.long b :: .long a :: st) := by
  obtain ⟨p, e, s, m, args, below, meth, c, hx, hby, hml, hown, hnm, hret, hlk, hZ, hw, rfl⟩ := C
  subst hp
  exact lift (fun T locs X _ target q => XT.lxor X.here hx rfl (hb hby hd) rfl q) hr
theorem Cx.ishl (C : Cx G l Z a0 ws R y bytes maxL ret n0 Q) {a b : Int32} (hd : decode bytes pc = .ok (.ishl, 1))  (hp : pc + 1 = pc') (hr : G h k n pc' ls (.int (a <<< (b &&& 31)) :: st)) : G h k n pc ls (.int b :: .int a :: st) := by
  obtain ⟨p, e, s, m, args, below, meth, c, hx, hby, hml, hown, hnm, hret, hlk, hZ, hw, rfl⟩ := C
  subst hp
  exact lift (fun T locs X _ target q => XT.ishl X.here hx rfl (hb hby hd) rfl q) hr
theorem Cx.ishr (C : Cx G l Z a0 ws R y bytes maxL ret n0 Q) {a b : Int32} (hd : decode bytes pc = .ok (.ishr, 1))  (hp : pc + 1 = pc') (hr : G h k n pc' ls (.int (a >>> (b &&& 31)) :: st)) : G h k n pc ls (.int b :: .int a :: st) := by
  obtain ⟨p, e, s, m, args, below, meth, c, hx, hby, hml, hown, hnm, hret, hlk, hZ, hw, rfl⟩ := C
  subst hp
  exact lift (fun T locs X _ target q => XT.ishr X.here hx rfl (hb hby hd) rfl q) hr
theorem Cx.iushr (C : Cx G l Z a0 ws R y bytes maxL ret n0 Q) {a b : Int32} (hd : decode bytes pc = .ok (.iushr, 1))  (hp : pc + 1 = pc') (hr : G h k n pc' ls (.int (XT.ushr a b) :: st)) : G h k n pc ls (.int b :: .int a :: st) := by
  obtain ⟨p, e, s, m, args, below, meth, c, hx, hby, hml, hown, hnm, hret, hlk, hZ, hw, rfl⟩ := C
  subst hp
  exact lift (fun T locs X _ target q => XT.iushr X.here hx rfl (hb hby hd) rfl q) hr
theorem Cx.lshl (C : Cx G l Z a0 ws R y bytes maxL ret n0 Q) {a : Int64} {b : Int32} (hd : decode bytes pc = .ok (.lshl, 1))  (hp : pc + 1 = pc') (hr : G h k n pc' ls (.long (a <<< (b.toInt64 &&& 63)) :: st)) : G h k n pc ls (.int b :: .long a :: st) := by
  obtain ⟨p, e, s, m, args, below, meth, c, hx, hby, hml, hown, hnm, hret, hlk, hZ, hw, rfl⟩ := C
  subst hp
  exact lift (fun T locs X _ target q => XT.lshl X.here hx rfl (hb hby hd) rfl q) hr
theorem Cx.lshr (C : Cx G l Z a0 ws R y bytes maxL ret n0 Q) {a : Int64} {b : Int32} (hd : decode bytes pc = .ok (.lshr, 1))  (hp : pc + 1 = pc') (hr : G h k n pc' ls (.long (a >>> (b.toInt64 &&& 63)) :: st)) : G h k n pc ls (.int b :: .long a :: st) := by
  obtain ⟨p, e, s, m, args, below, meth, c, hx, hby, hml, hown, hnm, hret, hlk, hZ, hw, rfl⟩ := C
  subst hp
  exact lift (fun T locs X _ target q => XT.lshr X.here hx rfl (hb hby hd) rfl q) hr
theorem Cx.lushr (C : Cx G l Z a0 ws R y bytes maxL ret n0 Q) {a : Int64} {b : Int32} (hd : decode bytes pc = .ok (.lushr, 1))  (hp : pc + 1 = pc') (hr : G h k n pc' ls (.long (XT.ushrL a b) :: st)) : G h k n pc ls (.int b :: .long a :: st) := by
  obtain ⟨p, e, s, m, args, below, meth, c, hx, hby, hml, hown, hnm, hret, hlk, hZ, hw, rfl⟩ := C
  subst hp
  exact lift (fun T locs X _ target q => XT.lushr X.here hx rfl (hb hby hd) rfl q) hr
theorem Cx.ineg (C : Cx G l Z a0 ws R y bytes maxL ret n0 Q) {a : Int32} (hd : decode bytes pc = .ok (.ineg, 1))  (hp : pc + 1 = pc') (hr : G h k n pc' ls (.int (-a) :: st)) : G h k n pc ls (.int a :: st) := by
  obtain ⟨p, e, s, m, args, below, meth, c, hx, hby, hml, hown, hnm, hret, hlk, hZ, hw, rfl⟩ := C
  subst hp
  exact lift (fun T locs X _ target q => XS.ineg X.here hx rfl (hb hby hd) rfl q) hr
theorem Cx.i2l (C : Cx G l Z a0 ws R y bytes maxL ret n0 Q) {a : Int32} (hd : decode bytes pc = .ok (.i2l, 1))  (hp : pc + 1 = pc') (hr : G h k n pc' ls (.long a.toInt64 :: st)) : G h k n pc ls (.int a :: st) := by
  obtain ⟨p, e, s, m, args, below, meth, c, hx, hby, hml, hown, hnm, hret, hlk, hZ, hw, rfl⟩ := C
  subst hp
  exact lift (fun T locs X _ target q => XT.i2l X.here hx rfl (hb hby hd) rfl q) hr
theorem Cx.l2i (C : Cx G l Z a0 ws R y bytes maxL ret n0 Q) {a : Int64} (hd : decode bytes pc = .ok (.l2i, 1))  (hp : pc + 1 = pc') (hr : G h k n pc' ls (.int a.toInt32 :: st)) : G h k n pc ls (.long a :: st) := by
  obtain ⟨p, e, s, m, args, below, meth, c, hx, hby, hml, hown, hnm, hret, hlk, hZ, hw, rfl⟩ := C
  subst hp
  exact lift (fun T locs X _ target q => XT.l2i X.here hx rfl (hb hby hd) rfl q) hr
theorem Cx.i2b (C : Cx G l Z a0 ws R y bytes maxL ret n0 Q) {a : Int32} (hd : decode bytes pc = .ok (.i2b, 1))  (hp : pc + 1 = pc') (hr : G h k n pc' ls (.int a.toInt8.toInt32 :: st)) : G h k n pc ls (.int a :: st) := by
  obtain ⟨p, e, s, m, args, below, meth, c, hx, hby, hml, hown, hnm, hret, hlk, hZ, hw, rfl⟩ := C
  subst hp
  exact lift (fun T locs X _ target q => XT.i2b X.here hx rfl (hb hby hd) rfl q) hr
theorem Cx.i2c (C : Cx G l Z a0 ws R y bytes maxL ret n0 Q) {a : Int32} (hd : decode bytes pc = .ok (.i2c, 1))  (hp : pc + 1 = pc') (hr : G h k n pc' ls (.int a.toUInt32.toUInt16.toUInt32.toInt32 :: st)) : G h k n pc ls (.int a :: st) := by
  obtain ⟨p, e, s, m, args, below, meth, c, hx, hby, hml, hown, hnm, hret, hlk, hZ, hw, rfl⟩ := C
  subst hp
  exact lift (fun T locs X _ target q => XT.i2c X.here hx rfl (hb hby hd) rfl q) hr
theorem Cx.lcmp (C : Cx G l Z a0 ws R y bytes maxL ret n0 Q) {a b : Int64} (hd : decode bytes pc = .ok (.lcmp, 1))  (hp : pc + 1 = pc') (hr : G h k n pc' ls (.int (XT.cmpL a b) :: st)) : G h k n pc ls (.long b :: .long a :: st) := by
  obtain ⟨p, e, s, m, args, below, meth, c, hx, hby, hml, hown, hnm, hret, hlk, hZ, hw, rfl⟩ := C
  subst hp
  exact lift (fun T locs X _ target q => XT.lcmp X.here hx rfl (hb hby hd) rfl q) hr
theorem Cx.dup (C : Cx G l Z a0 ws R y bytes maxL ret n0 Q) {x : Value} (hd : decode bytes pc = .ok (.dup, 1)) (hc : x.category = 1) (hp : pc + 1 = pc') (hr : G h k n pc' ls (x :: x :: st)) : G h k n pc ls (x :: st) := by
  obtain ⟨p, e, s, m, args, below, meth, c, hx, hby, hml, hown, hnm, hret, hlk, hZ, hw, rfl⟩ := C
  subst hp
  exact lift (fun T locs X _ target q => XS.dup X.here hx rfl (hb hby hd) rfl hc q) hr
theorem Cx.dup2 (C : Cx G l Z a0 ws R y bytes maxL ret n0 Q) {x z : Value} (hd : decode bytes pc = .ok (.dup2, 1)) (hc : x.category = 1) (hc' : z.category = 1) (hp : pc + 1 = pc') (hr : G h k n pc' ls (x :: z :: x :: z :: st)) : G h k n pc ls (x :: z :: st) := by
  obtain ⟨p, e, s, m, args, below, meth, c, hx, hby, hml, hown, hnm, hret, hlk, hZ, hw, rfl⟩ := C
  subst hp
  exact lift (fun T locs X _ target q => XT.dup2 X.here hx rfl (hb hby hd) rfl hc hc' q) hr
theorem Cx.iinc (C : Cx G l Z a0 ws R y bytes maxL ret n0 Q) {j : Nat} {i : Int} {v x : Int32} (hd : decode bytes pc = .ok (.iinc j i, 3)) (hv : Int32.ofInt i = v) (hl : ls[j]? = some (.val (.int x))) (hl' : storeLocals ls j (.int (x + v)) = some ls') (hp : pc + 3 = pc') (hr : G h k n pc' ls' st) : G h k n pc ls st := by
  obtain ⟨p, e, s, m, args, below, meth, c, hx, hby, hml, hown, hnm, hret, hlk, hZ, hw, rfl⟩ := C
  subst hp
  exact lift (fun T locs X _ target q => XT.iincV X.here hx rfl v (hb hby hd) hv hl hl' q) hr
theorem Cx.irem (C : Cx G l Z a0 ws R y bytes maxL ret n0 Q) {a b : Int32} (hd : decode bytes pc = .ok (.irem, 1)) (hb0 : b ≠ 0) (hp : pc + 1 = pc') (hr : G h k n pc' ls (.int (a % b) :: st)) : G h k n pc ls (.int b :: .int a :: st) := by
  obtain ⟨p, e, s, m, args, below, meth, c, hx, hby, hml, hown, hnm, hret, hlk, hZ, hw, rfl⟩ := C
  subst hp
  exact lift (fun T locs X _ target q => iremM X hx rfl (hb hby hd) rfl hb0 q) hr
theorem Cx.goto (C : Cx G l Z a0 ws R y bytes maxL ret n0 Q) {o : Int} (hd : decode bytes pc = .ok (.goto o, 3)) (ho : 0 ≤ (pc : Int) + o) (hp : ((pc : Int) + o).toNat = pc') (hr : G h k n pc' ls st) : G h k n pc ls st := by
  obtain ⟨p, e, s, m, args, below, meth, c, hx, hby, hml, hown, hnm, hret, hlk, hZ, hw, rfl⟩ := C
  exact lift (fun T locs X _ target q => XS.goto X.here hx rfl (pc0 := pc) rfl (hb hby hd) ho hp q) hr
theorem Cx.dupX2 (C : Cx G l Z a0 ws R y bytes maxL ret n0 Q) {x z w : Value} (hd : decode bytes pc = .ok (.dup_x2, 1)) (hc : x.category = 1) (hc' : z.category = 1) (hc'' : w.category = 1) (hp : pc + 1 = pc') (hr : G h k n pc' ls (x :: z :: w :: x :: st)) : G h k n pc ls (x :: z :: w :: st) := by
  obtain ⟨p, e, s, m, args, below, meth, c, hx, hby, hml, hown, hnm, hret, hlk, hZ, hw, rfl⟩ := C
  subst hp
  refine lift (fun T locs X _ target q => ?_) hr
  have h := X.here
  have hd' := hb hby hd
  show Steps p.tables e below (T.setTop { method := m, pc := pc, locals := ls, stack := x :: z :: w :: st, locked := none }) _
  jvm_step h [h.top, hx, hd', hc, hc', hc'']
  exact q
theorem Cx.icmp_eq_T (C : Cx G l Z a0 ws R y bytes maxL ret n0 Q) {a b : Int32} {o : Int} (hd : decode bytes pc = .ok (.if_icmp .eq o, 3)) (hc : a = b) (ho : 0 ≤ (pc : Int) + o) (hp : ((pc : Int) + o).toNat = pc') (hr : G h k n pc' ls st) : G h k n pc ls (.int b :: .int a :: st) := by
  obtain ⟨p, e, s, m, args, below, meth, c, hx, hby, hml, hown, hnm, hret, hlk, hZ, hw, rfl⟩ := C
  exact lift (fun T locs X _ target q => XS.icmpYes X.here hx rfl (pc0 := pc) rfl (hb hby hd) rfl (teq hc).1 ho hp q) hr
theorem Cx.icmp_eq_F (C : Cx G l Z a0 ws R y bytes maxL ret n0 Q) {a b : Int32} {o : Int} (hd : decode bytes pc = .ok (.if_icmp .eq o, 3)) (hc : ¬ a = b) (hp : pc + 3 = pc') (hr : G h k n pc' ls st) : G h k n pc ls (.int b :: .int a :: st) := by
  obtain ⟨p, e, s, m, args, below, meth, c, hx, hby, hml, hown, hnm, hret, hlk, hZ, hw, rfl⟩ := C
  subst hp
  exact lift (fun T locs X _ target q => XS.icmpNo X.here hx rfl (hb hby hd) rfl (feq hc).1 q) hr
theorem Cx.if_eq_T (C : Cx G l Z a0 ws R y bytes maxL ret n0 Q) {a : Int32} {o : Int} (hd : decode bytes pc = .ok (.ifCond .eq o, 3)) (hc : a = (0 : Int32)) (ho : 0 ≤ (pc : Int) + o) (hp : ((pc : Int) + o).toNat = pc') (hr : G h k n pc' ls st) : G h k n pc ls (.int a :: st) := by
  obtain ⟨p, e, s, m, args, below, meth, c, hx, hby, hml, hown, hnm, hret, hlk, hZ, hw, rfl⟩ := C
  exact lift (fun T locs X _ target q => XS.ifYes X.here hx rfl (pc0 := pc) rfl (hb hby hd) rfl (by rw [if0]; exact (teq hc).1) ho hp q) hr
theorem Cx.if_eq_F (C : Cx G l Z a0 ws R y bytes maxL ret n0 Q) {a : Int32} {o : Int} (hd : decode bytes pc = .ok (.ifCond .eq o, 3)) (hc : ¬ a = (0 : Int32)) (hp : pc + 3 = pc') (hr : G h k n pc' ls st) : G h k n pc ls (.int a :: st) := by
  obtain ⟨p, e, s, m, args, below, meth, c, hx, hby, hml, hown, hnm, hret, hlk, hZ, hw, rfl⟩ := C
  subst hp
  exact lift (fun T locs X _ target q => XS.ifNo X.here hx rfl (hb hby hd) rfl (by rw [if0]; exact (feq hc).1) q) hr
theorem Cx.icmp_eq (C : Cx G l Z a0 ws R y bytes maxL ret n0 Q) {a b : Int32} {o : Int} (hd : decode bytes pc = .ok (.if_icmp .eq o, 3)) (ho : 0 ≤ (pc : Int) + o) (hp : ((pc : Int) + o).toNat = pc1) (hq : pc + 3 = pc2) (h1 : a = b → G h k n pc1 ls st) (h2 : ¬ a = b → G h k n pc2 ls st) : G h k n pc ls (.int b :: .int a :: st) := by
  by_cases hc : a = b
  · exact C.icmp_eq_T hd hc ho hp (h1 hc)
  · exact C.icmp_eq_F hd hc hq (h2 hc)
theorem Cx.if_eq (C : Cx G l Z a0 ws R y bytes maxL ret n0 Q) {a : Int32} {o : Int} (hd : decode bytes pc = .ok (.ifCond .eq o, 3)) (ho : 0 ≤ (pc : Int) + o) (hp : ((pc : Int) + o).toNat = pc1) (hq : pc + 3 = pc2) (h1 : a = (0 : Int32) → G h k n pc1 ls st) (h2 : ¬ a = (0 : Int32) → G h k n pc2 ls st) : G h k n pc ls (.int a :: st) := by
  by_cases hc : a = (0 : Int32)
  · exact C.if_eq_T hd hc ho hp (h1 hc)
  · exact C.if_eq_F hd hc hq (h2 hc)
theorem Cx.icmp_ne_T (C : Cx G l Z a0 ws R y bytes maxL ret n0 Q) {a b : Int32} {o : Int} (hd : decode bytes pc = .ok (.if_icmp .ne o, 3)) (hc : ¬ a = b) (ho : 0 ≤ (pc : Int) + o) (hp : ((pc : Int) + o).toNat = pc') (hr : G h k n pc' ls st) : G h k n pc ls (.int b :: .int a :: st) := by
  obtain ⟨p, e, s, m, args, below, meth, c, hx, hby, hml, hown, hnm, hret, hlk, hZ, hw, rfl⟩ := C
  exact lift (fun T locs X _ target q => XS.icmpYes X.here hx rfl (pc0 := pc) rfl (hb hby hd) rfl (feq hc).2 ho hp q) hr
theorem Cx.icmp_ne_F (C : Cx G l Z a0 ws R y bytes maxL ret n0 Q) {a b : Int32} {o : Int} (hd : decode bytes pc = .ok (.if_icmp .ne o, 3)) (hc : a = b) (hp : pc + 3 = pc') (hr : G h k n pc' ls st) : G h k n pc ls (.int b :: .int a :: st) := by
  obtain ⟨p, e, s, m, args, below, meth, c, hx, hby, hml, hown, hnm, hret, hlk, hZ, hw, rfl⟩ := C
  subst hp
  exact lift (fun T locs X _ target q => XS.icmpNo X.here hx rfl (hb hby hd) rfl (teq hc).2 q) hr
theorem Cx.if_ne_T (C : Cx G l Z a0 ws R y bytes maxL ret n0 Q) {a : Int32} {o : Int} (hd : decode bytes pc = .ok (.ifCond .ne o, 3)) (hc : ¬ a = (0 : Int32)) (ho : 0 ≤ (pc : Int) + o) (hp : ((pc : Int) + o).toNat = pc') (hr : G h k n pc' ls st) : G h k n pc ls (.int a :: st) := by
  obtain ⟨p, e, s, m, args, below, meth, c, hx, hby, hml, hown, hnm, hret, hlk, hZ, hw, rfl⟩ := C
  exact lift (fun T locs X _ target q => XS.ifYes X.here hx rfl (pc0 := pc) rfl (hb hby hd) rfl (by rw [if0]; exact (feq hc).2) ho hp q) hr
theorem Cx.if_ne_F (C : Cx G l Z a0 ws R y bytes maxL ret n0 Q) {a : Int32} {o : Int} (hd : decode bytes pc = .ok (.ifCond .ne o, 3)) (hc : a = (0 : Int32)) (hp : pc + 3 = pc') (hr : G h k n pc' ls st) : G h k n pc ls (.int a :: st) := by
  obtain ⟨p, e, s, m, args, below, meth, c, hx, hby, hml, hown, hnm, hret, hlk, hZ, hw, rfl⟩ := C
  subst hp
  exact lift (fun T locs X _ target q => XS.ifNo X.here hx rfl (hb hby hd) rfl (by rw [if0]; exact (teq hc).2) q) hr
theorem Cx.icmp_ne (C : Cx G l Z a0 ws R y bytes maxL ret n0 Q) {a b : Int32} {o : Int} (hd : decode bytes pc = .ok (.if_icmp .ne o, 3)) (ho : 0 ≤ (pc : Int) + o) (hp : ((pc : Int) + o).toNat = pc1) (hq : pc + 3 = pc2) (h1 : ¬ a = b → G h k n pc1 ls st) (h2 : a = b → G h k n pc2 ls st) : G h k n pc ls (.int b :: .int a :: st) := by
  by_cases hc : a = b
  · exact C.icmp_ne_F hd hc hq (h2 hc)
  · exact C.icmp_ne_T hd hc ho hp (h1 hc)
theorem Cx.if_ne (C : Cx G l Z a0 ws R y bytes maxL ret n0 Q) {a : Int32} {o : Int} (hd : decode bytes pc = .ok (.ifCond .ne o, 3)) (ho : 0 ≤ (pc : Int) + o) (hp : ((pc : Int) + o).toNat = pc1) (hq : pc + 3 = pc2) (h1 : ¬ a = (0 : Int32) → G h k n pc1 ls st) (h2 : a = (0 : Int32) → G h k n pc2 ls st) : G h k n pc ls (.int a :: st) := by
  by_cases hc : a = (0 : Int32)
  · exact C.if_ne_F hd hc hq (h2 hc)
  · exact C.if_ne_T hd hc ho hp (h1 hc)
theorem Cx.icmp_lt_T (C : Cx G l Z a0 ws R y bytes maxL ret n0 Q) {a b : Int32} {o : Int} (hd : decode bytes pc = .ok (.if_icmp .lt o, 3)) (hc : a < b) (ho : 0 ≤ (pc : Int) + o) (hp : ((pc : Int) + o).toNat = pc') (hr : G h k n pc' ls st) : G h k n pc ls (.int b :: .int a :: st) := by
  obtain ⟨p, e, s, m, args, below, meth, c, hx, hby, hml, hown, hnm, hret, hlk, hZ, hw, rfl⟩ := C
  exact lift (fun T locs X _ target q => XS.icmpYes X.here hx rfl (pc0 := pc) rfl (hb hby hd) rfl (tlt hc).1 ho hp q) hr
theorem Cx.icmp_lt_F (C : Cx G l Z a0 ws R y bytes maxL ret n0 Q) {a b : Int32} {o : Int} (hd : decode bytes pc = .ok (.if_icmp .lt o, 3)) (hc : ¬ a < b) (hp : pc + 3 = pc') (hr : G h k n pc' ls st) : G h k n pc ls (.int b :: .int a :: st) := by
  obtain ⟨p, e, s, m, args, below, meth, c, hx, hby, hml, hown, hnm, hret, hlk, hZ, hw, rfl⟩ := C
  subst hp
  exact lift (fun T locs X _ target q => XS.icmpNo X.here hx rfl (hb hby hd) rfl (flt hc).1 q) hr
theorem Cx.if_lt_T (C : Cx G l Z a0 ws R y bytes maxL ret n0 Q) {a : Int32} {o : Int} (hd : decode bytes pc = .ok (.ifCond .lt o, 3)) (hc : a < (0 : Int32)) (ho : 0 ≤ (pc : Int) + o) (hp : ((pc : Int) + o).toNat = pc') (hr : G h k n pc' ls st) : G h k n pc ls (.int a :: st) := by
  obtain ⟨p, e, s, m, args, below, meth, c, hx, hby, hml, hown, hnm, hret, hlk, hZ, hw, rfl⟩ := C
  exact lift (fun T locs X _ target q => XS.ifYes X.here hx rfl (pc0 := pc) rfl (hb hby hd) rfl (by rw [if0]; exact (tlt hc).1) ho hp q) hr
theorem Cx.if_lt_F (C : Cx G l Z a0 ws R y bytes maxL ret n0 Q) {a : Int32} {o : Int} (hd : decode bytes pc = .ok (.ifCond .lt o, 3)) (hc : ¬ a < (0 : Int32)) (hp : pc + 3 = pc') (hr : G h k n pc' ls st) : G h k n pc ls (.int a :: st) := by
  obtain ⟨p, e, s, m, args, below, meth, c, hx, hby, hml, hown, hnm, hret, hlk, hZ, hw, rfl⟩ := C
  subst hp
  exact lift (fun T locs X _ target q => XS.ifNo X.here hx rfl (hb hby hd) rfl (by rw [if0]; exact (flt hc).1) q) hr
theorem Cx.icmp_lt (C : Cx G l Z a0 ws R y bytes maxL ret n0 Q) {a b : Int32} {o : Int} (hd : decode bytes pc = .ok (.if_icmp .lt o, 3)) (ho : 0 ≤ (pc : Int) + o) (hp : ((pc : Int) + o).toNat = pc1) (hq : pc + 3 = pc2) (h1 : a < b → G h k n pc1 ls st) (h2 : ¬ a < b → G h k n pc2 ls st) : G h k n pc ls (.int b :: .int a :: st) := by
  by_cases hc : a < b
  · exact C.icmp_lt_T hd hc ho hp (h1 hc)
  · exact C.icmp_lt_F hd hc hq (h2 hc)
theorem Cx.if_lt (C : Cx G l Z a0 ws R y bytes maxL ret n0 Q) {a : Int32} {o : Int} (hd : decode bytes pc = .ok (.ifCond .lt o, 3)) (ho : 0 ≤ (pc : Int) + o) (hp : ((pc : Int) + o).toNat = pc1) (hq : pc + 3 = pc2) (h1 : a < (0 : Int32) → G h k n pc1 ls st) (h2 : ¬ a < (0 : Int32) → G h k n pc2 ls st) : G h k n pc ls (.int a :: st) := by
  by_cases hc : a < (0 : Int32)
  · exact C.if_lt_T hd hc ho hp (h1 hc)
  · exact C.if_lt_F hd hc hq (h2 hc)
theorem Cx.icmp_ge_T (C : Cx G l Z a0 ws R y bytes maxL ret n0 Q) {a b : Int32} {o : Int} (hd : decode bytes pc = .ok (.if_icmp .ge o, 3)) (hc : ¬ a < b) (ho : 0 ≤ (pc : Int) + o) (hp : ((pc : Int) + o).toNat = pc') (hr : G h k n pc' ls st) : G h k n pc ls (.int b :: .int a :: st) := by
  obtain ⟨p, e, s, m, args, below, meth, c, hx, hby, hml, hown, hnm, hret, hlk, hZ, hw, rfl⟩ := C
  exact lift (fun T locs X _ target q => XS.icmpYes X.here hx rfl (pc0 := pc) rfl (hb hby hd) rfl (flt hc).2.1 ho hp q) hr
theorem Cx.icmp_ge_F (C : Cx G l Z a0 ws R y bytes maxL ret n0 Q) {a b : Int32} {o : Int} (hd : decode bytes pc = .ok (.if_icmp .ge o, 3)) (hc : a < b) (hp : pc + 3 = pc') (hr : G h k n pc' ls st) : G h k n pc ls (.int b :: .int a :: st) := by
  obtain ⟨p, e, s, m, args, below, meth, c, hx, hby, hml, hown, hnm, hret, hlk, hZ, hw, rfl⟩ := C
  subst hp
  exact lift (fun T locs X _ target q => XS.icmpNo X.here hx rfl (hb hby hd) rfl (tlt hc).2.1 q) hr
theorem Cx.if_ge_T (C : Cx G l Z a0 ws R y bytes maxL ret n0 Q) {a : Int32} {o : Int} (hd : decode bytes pc = .ok (.ifCond .ge o, 3)) (hc : ¬ a < (0 : Int32)) (ho : 0 ≤ (pc : Int) + o) (hp : ((pc : Int) + o).toNat = pc') (hr : G h k n pc' ls st) : G h k n pc ls (.int a :: st) := by
  obtain ⟨p, e, s, m, args, below, meth, c, hx, hby, hml, hown, hnm, hret, hlk, hZ, hw, rfl⟩ := C
  exact lift (fun T locs X _ target q => XS.ifYes X.here hx rfl (pc0 := pc) rfl (hb hby hd) rfl (by rw [if0]; exact (flt hc).2.1) ho hp q) hr
theorem Cx.if_ge_F (C : Cx G l Z a0 ws R y bytes maxL ret n0 Q) {a : Int32} {o : Int} (hd : decode bytes pc = .ok (.ifCond .ge o, 3)) (hc : a < (0 : Int32)) (hp : pc + 3 = pc') (hr : G h k n pc' ls st) : G h k n pc ls (.int a :: st) := by
  obtain ⟨p, e, s, m, args, below, meth, c, hx, hby, hml, hown, hnm, hret, hlk, hZ, hw, rfl⟩ := C
  subst hp
  exact lift (fun T locs X _ target q => XS.ifNo X.here hx rfl (hb hby hd) rfl (by rw [if0]; exact (tlt hc).2.1) q) hr
theorem Cx.icmp_ge (C : Cx G l Z a0 ws R y bytes maxL ret n0 Q) {a b : Int32} {o : Int} (hd : decode bytes pc = .ok (.if_icmp .ge o, 3)) (ho : 0 ≤ (pc : Int) + o) (hp : ((pc : Int) + o).toNat = pc1) (hq : pc + 3 = pc2) (h1 : ¬ a < b → G h k n pc1 ls st) (h2 : a < b → G h k n pc2 ls st) : G h k n pc ls (.int b :: .int a :: st) := by
  by_cases hc : a < b
  · exact C.icmp_ge_F hd hc hq (h2 hc)
  · exact C.icmp_ge_T hd hc ho hp (h1 hc)
theorem Cx.if_ge (C : Cx G l Z a0 ws R y bytes maxL ret n0 Q) {a : Int32} {o : Int} (hd : decode bytes pc = .ok (.ifCond .ge o, 3)) (ho : 0 ≤ (pc : Int) + o) (hp : ((pc : Int) + o).toNat = pc1) (hq : pc + 3 = pc2) (h1 : ¬ a < (0 : Int32) → G h k n pc1 ls st) (h2 : a < (0 : Int32) → G h k n pc2 ls st) : G h k n pc ls (.int a :: st) := by
  by_cases hc : a < (0 : Int32)
  · exact C.if_ge_F hd hc hq (h2 hc)
  · exact C.if_ge_T hd hc ho hp (h1 hc)
theorem Cx.icmp_gt_T (C : Cx G l Z a0 ws R y bytes maxL ret n0 Q) {a b : Int32} {o : Int} (hd : decode bytes pc = .ok (.if_icmp .gt o, 3)) (hc : b < a) (ho : 0 ≤ (pc : Int) + o) (hp : ((pc : Int) + o).toNat = pc') (hr : G h k n pc' ls st) : G h k n pc ls (.int b :: .int a :: st) := by
  obtain ⟨p, e, s, m, args, below, meth, c, hx, hby, hml, hown, hnm, hret, hlk, hZ, hw, rfl⟩ := C
  exact lift (fun T locs X _ target q => XS.icmpYes X.here hx rfl (pc0 := pc) rfl (hb hby hd) rfl (tlt hc).2.2.1 ho hp q) hr
theorem Cx.icmp_gt_F (C : Cx G l Z a0 ws R y bytes maxL ret n0 Q) {a b : Int32} {o : Int} (hd : decode bytes pc = .ok (.if_icmp .gt o, 3)) (hc : ¬ b < a) (hp : pc + 3 = pc') (hr : G h k n pc' ls st) : G h k n pc ls (.int b :: .int a :: st) := by
  obtain ⟨p, e, s, m, args, below, meth, c, hx, hby, hml, hown, hnm, hret, hlk, hZ, hw, rfl⟩ := C
  subst hp
  exact lift (fun T locs X _ target q => XS.icmpNo X.here hx rfl (hb hby hd) rfl (flt hc).2.2.1 q) hr
theorem Cx.if_gt_T (C : Cx G l Z a0 ws R y bytes maxL ret n0 Q) {a : Int32} {o : Int} (hd : decode bytes pc = .ok (.ifCond .gt o, 3)) (hc : (0 : Int32) < a) (ho : 0 ≤ (pc : Int) + o) (hp : ((pc : Int) + o).toNat = pc') (hr : G h k n pc' ls st) : G h k n pc ls (.int a :: st) := by
  obtain ⟨p, e, s, m, args, below, meth, c, hx, hby, hml, hown, hnm, hret, hlk, hZ, hw, rfl⟩ := C
  exact lift (fun T locs X _ target q => XS.ifYes X.here hx rfl (pc0 := pc) rfl (hb hby hd) rfl (by rw [if0]; exact (tlt hc).2.2.1) ho hp q) hr
theorem Cx.if_gt_F (C : Cx G l Z a0 ws R y bytes maxL ret n0 Q) {a : Int32} {o : Int} (hd : decode bytes pc = .ok (.ifCond .gt o, 3)) (hc : ¬ (0 : Int32) < a) (hp : pc + 3 = pc') (hr : G h k n pc' ls st) : G h k n pc ls (.int a :: st) := by
  obtain ⟨p, e, s, m, args, below, meth, c, hx, hby, hml, hown, hnm, hret, hlk, hZ, hw, rfl⟩ := C
  subst hp
  exact lift (fun T locs X _ target q => XS.ifNo X.here hx rfl (hb hby hd) rfl (by rw [if0]; exact (flt hc).2.2.1) q) hr
theorem Cx.icmp_gt (C : Cx G l Z a0 ws R y bytes maxL ret n0 Q) {a b : Int32} {o : Int} (hd : decode bytes pc = .ok (.if_icmp .gt o, 3)) (ho : 0 ≤ (pc : Int) + o) (hp : ((pc : Int) + o).toNat = pc1) (hq : pc + 3 = pc2) (h1 : b < a → G h k n pc1 ls st) (h2 : ¬ b < a → G h k n pc2 ls st) : G h k n pc ls (.int b :: .int a :: st) := by
  by_cases hc : b < a
  · exact C.icmp_gt_T hd hc ho hp (h1 hc)
  · exact C.icmp_gt_F hd hc hq (h2 hc)
theorem Cx.if_gt (C : Cx G l Z a0 ws R y bytes maxL ret n0 Q) {a : Int32} {o : Int} (hd : decode bytes pc = .ok (.ifCond .gt o, 3)) (ho : 0 ≤ (pc : Int) + o) (hp : ((pc : Int) + o).toNat = pc1) (hq : pc + 3 = pc2) (h1 : (0 : Int32) < a → G h k n pc1 ls st) (h2 : ¬ (0 : Int32) < a → G h k n pc2 ls st) : G h k n pc ls (.int a :: st) := by
  by_cases hc : (0 : Int32) < a
  · exact C.if_gt_T hd hc ho hp (h1 hc)
  · exact C.if_gt_F hd hc hq (h2 hc)
theorem Cx.icmp_le_T (C : Cx G l Z a0 ws R y bytes maxL ret n0 Q) {a b : Int32} {o : Int} (hd : decode bytes pc = .ok (.if_icmp .le o, 3)) (hc : ¬ b < a) (ho : 0 ≤ (pc : Int) + o) (hp : ((pc : Int) + o).toNat = pc') (hr : G h k n pc' ls st) : G h k n pc ls (.int b :: .int a :: st) := by
  obtain ⟨p, e, s, m, args, below, meth, c, hx, hby, hml, hown, hnm, hret, hlk, hZ, hw, rfl⟩ := C
  exact lift (fun T locs X _ target q => XS.icmpYes X.here hx rfl (pc0 := pc) rfl (hb hby hd) rfl (flt hc).2.2.2 ho hp q) hr
theorem Cx.icmp_le_F (C : Cx G l Z a0 ws R y bytes maxL ret n0 Q) {a b : Int32} {o : Int} (hd : decode bytes pc = .ok (.if_icmp .le o, 3)) (hc : b < a) (hp : pc + 3 = pc') (hr : G h k n pc' ls st) : G h k n pc ls (.int b :: .int a :: st) := by
  obtain ⟨p, e, s, m, args, below, meth, c, hx, hby, hml, hown, hnm, hret, hlk, hZ, hw, rfl⟩ := C
  subst hp
  exact lift (fun T locs X _ target q => XS.icmpNo X.here hx rfl (hb hby hd) rfl (tlt hc).2.2.2 q) hr
theorem Cx.if_le_T (C : Cx G l Z a0 ws R y bytes maxL ret n0 Q) {a : Int32} {o : Int} (hd : decode bytes pc = .ok (.ifCond .le o, 3)) (hc : ¬ (0 : Int32) < a) (ho : 0 ≤ (pc : Int) + o) (hp : ((pc : Int) + o).toNat = pc') (hr : G h k n pc' ls st) : G h k n pc ls (.int a :: st) := by
  obtain ⟨p, e, s, m, args, below, meth, c, hx, hby, hml, hown, hnm, hret, hlk, hZ, hw, rfl⟩ := C
  exact lift (fun T locs X _ target q => XS.ifYes X.here hx rfl (pc0 := pc) rfl (hb hby hd) rfl (by rw [if0]; exact (flt hc).2.2.2) ho hp q) hr
theorem Cx.if_le_F (C : Cx G l Z a0 ws R y bytes maxL ret n0 Q) {a : Int32} {o : Int} (hd : decode bytes pc = .ok (.ifCond .le o, 3)) (hc : (0 : Int32) < a) (hp : pc + 3 = pc') (hr : G h k n pc' ls st) : G h k n pc ls (.int a :: st) := by
  obtain ⟨p, e, s, m, args, below, meth, c, hx, hby, hml, hown, hnm, hret, hlk, hZ, hw, rfl⟩ := C
  subst hp
  exact lift (fun T locs X _ target q => XS.ifNo X.here hx rfl (hb hby hd) rfl (by rw [if0]; exact (tlt hc).2.2.2) q) hr
theorem Cx.icmp_le (C : Cx G l Z a0 ws R y bytes maxL ret n0 Q) {a b : Int32} {o : Int} (hd : decode bytes pc = .ok (.if_icmp .le o, 3)) (ho : 0 ≤ (pc : Int) + o) (hp : ((pc : Int) + o).toNat = pc1) (hq : pc + 3 = pc2) (h1 : ¬ b < a → G h k n pc1 ls st) (h2 : b < a → G h k n pc2 ls st) : G h k n pc ls (.int b :: .int a :: st) := by
  by_cases hc : b < a
  · exact C.icmp_le_F hd hc hq (h2 hc)
  · exact C.icmp_le_T hd hc ho hp (h1 hc)
theorem Cx.if_le (C : Cx G l Z a0 ws R y bytes maxL ret n0 Q) {a : Int32} {o : Int} (hd : decode bytes pc = .ok (.ifCond .le o, 3)) (ho : 0 ≤ (pc : Int) + o) (hp : ((pc : Int) + o).toNat = pc1) (hq : pc + 3 = pc2) (h1 : ¬ (0 : Int32) < a → G h k n pc1 ls st) (h2 : (0 : Int32) < a → G h k n pc2 ls st) : G h k n pc ls (.int a :: st) := by
  by_cases hc : (0 : Int32) < a
  · exact C.if_le_F hd hc hq (h2 hc)
  · exact C.if_le_T hd hc ho hp (h1 hc)
theorem Cx.ldcI (C : Cx G l Z a0 ws R y bytes maxL ret n0 Q) {i idx : Nat} {v : Int32} (w : ws[i]? = some (Jvm.Cond.constant y.cls idx v)) (hd : decode bytes pc = .ok (.ldc idx, 2)) (hp : pc + 2 = pc') (hr : G h k n pc' ls (.int v :: st)) : G h k n pc ls st := by
  obtain ⟨p, e, s, m, args, below, meth, c, hx, hby, hml, hown, hnm, hret, hlk, hZ, hw, rfl⟩ := C
  subst hp
  exact lift (fun T locs X _ target q => X.ldcInt hx hown (mvT hZ (word hw w)) (g := mkF m pc ls st) rfl (hb hby hd) target q) hr
theorem Cx.ldcJ (C : Cx G l Z a0 ws R y bytes maxL ret n0 Q) {i idx : Nat} {v : Int64} (w : ws[i]? = some (Jvm.Cond.constantLong y.cls idx v)) (hd : decode bytes pc = .ok (.ldc2_w idx, 3)) (hp : pc + 3 = pc') (hr : G h k n pc' ls (.long v :: st)) : G h k n pc ls st := by
  obtain ⟨p, e, s, m, args, below, meth, c, hx, hby, hml, hown, hnm, hret, hlk, hZ, hw, rfl⟩ := C
  subst hp
  exact lift (fun T locs X _ target q => X.ldc2Long hx hown (mvT hZ (word hw w)) (g := mkF m pc ls st) rfl (hb hby hd) target q) hr
theorem Cx.ldcD (C : Cx G l Z a0 ws R y bytes maxL ret n0 Q) {i idx : Nat} {v : UInt64} (w : ws[i]? = some (Jvm.Cond.constantDouble y.cls idx v)) (hd : decode bytes pc = .ok (.ldc2_w idx, 3)) (hp : pc + 3 = pc') (hr : G h k n pc' ls (.double v :: st)) : G h k n pc ls st := by
  obtain ⟨p, e, s, m, args, below, meth, c, hx, hby, hml, hown, hnm, hret, hlk, hZ, hw, rfl⟩ := C
  subst hp
  exact lift (fun T locs X _ target q => X.ldc2DoubleC hx hown (mvT hZ (word hw w)) (g := mkF m pc ls st) rfl (hb hby hd) target q) hr
theorem castI {a b : Int32} (q : a = b) (hr : G h k n pc ls (.int b :: st)) : G h k n pc ls (.int a :: st) := by rw [q]; exact hr
theorem castJ {a b : Int64} (q : a = b) (hr : G h k n pc ls (.long b :: st)) : G h k n pc ls (.long a :: st) := by rw [q]; exact hr
theorem cmpL_lt {a b : Int64} : XT.cmpL a b < 0 ↔ a < b := by
  unfold XT.cmpL
  split
  · rename_i q; constructor
    · intro r; exact absurd r (by decide)
    · intro r; rw [Int64.lt_iff_toInt_lt] at q r; omega
  · split
    · rename_i q; subst q; constructor
      · intro r; exact absurd r (by decide)
      · intro r; rw [Int64.lt_iff_toInt_lt] at r; omega
    · rename_i p q; constructor
      · intro _; rw [Int64.lt_iff_toInt_lt] at p ⊢; have : a.toInt ≠ b.toInt := fun r => q (Int64.toInt_inj.mp r); omega
      · intro _; decide
theorem cmpL_gt {a b : Int64} : 0 < XT.cmpL a b ↔ b < a := by
  unfold XT.cmpL
  split
  · rename_i q; exact ⟨fun _ => q, fun _ => by decide⟩
  · rename_i p
    split
    · exact ⟨fun r => absurd r (by decide), fun r => absurd r p⟩
    · exact ⟨fun r => absurd r (by decide), fun r => absurd r p⟩
theorem cmpL_eq {a b : Int64} : XT.cmpL a b = 0 ↔ a = b := by
  unfold XT.cmpL
  split
  · rename_i q; constructor
    · intro r; exact absurd r (by decide)
    · intro r; subst r; rw [Int64.lt_iff_toInt_lt] at q; omega
  · split
    · rename_i q; exact ⟨fun _ => q, fun _ => rfl⟩
    · rename_i q; exact ⟨fun r => absurd r (by decide), fun r => absurd r q⟩
def b2i (b : Bool) : Int32 := match b with | true => 1 | false => 0
theorem b2i_f {b : Bool} (q : b2i b = 0) : b = false := by cases b with | false => rfl | true => exact absurd q (by decide)
theorem b2i_t {b : Bool} (q : ¬ b2i b = 0) : b = true := by cases b with | true => rfl | false => exact absurd rfl q
theorem nar_b (x : Int32) : nar .byte x.toInt8.toInt32 = x.toInt8.toInt32 := by simp [nar]
theorem Cx.ireturn (C : Cx G l Z a0 ws R y bytes maxL ret n0 Q) {a : Int32} (hd : decode bytes pc = .ok (.ireturn, 1)) (ht : ret = some .int) (hk : k ≤ R.cells) (hn : n ≤ R.slots) (hq : Q (some (.int a)) h) : G h k n pc ls (.int a :: st) := by
  obtain ⟨p, e, s, m, args, below, meth, c, hx, hby, hml, hown, hnm, hret, hlk, hZ, hw, rfl⟩ := C
  subst ht
  intro T locs X hT hF
  obtain ⟨fs, hr, hrun, hended, hW, hsame⟩ := X.leave (v := some (.int a)) (fun q => by rw [hret] at q; cases q) hlk
  refine ⟨_, _, retOut X hx hret rfl (Or.inl ⟨rfl, Or.inl rfl, a, rfl⟩) (hb hby hd) hr, hrun, hended, _, locs, rfl, ⟨?_, hF⟩, ⟨_, rfl⟩, hW, hsame.mono hk hn⟩
  show Q _ T.heap
  rw [hT]; exact hq
theorem Cx.nreturn (C : Cx G l Z a0 ws R y bytes maxL ret n0 Q) {a b : Int32} {t : FieldType} (hd : decode bytes pc = .ok (.ireturn, 1)) (ht : ret = some t) (ht' : t = .boolean ∨ t = .byte ∨ t = .char ∨ t = .short) (hk : k ≤ R.cells) (hn : n ≤ R.slots) (hb' : nar t a = b) (hq : Q (some (.int b)) h) : G h k n pc ls (.int a :: st) := by
  obtain ⟨p, e, s, m, args, below, meth, c, hx, hby, hml, hown, hnm, hret, hlk, hZ, hw, rfl⟩ := C
  subst ht hb'
  intro T locs X hT hF
  obtain ⟨fs, hr, hrun, hended, hW, hsame⟩ := X.leave (v := some (.int (nar t a))) (fun q => by rw [hret] at q; cases q) hlk
  refine ⟨_, _, retN X hx hret ht' (hb hby hd) hr, hrun, hended, _, locs, rfl, ⟨?_, hF⟩, ⟨_, rfl⟩, hW, hsame.mono hk hn⟩
  show Q _ T.heap
  rw [hT]; exact hq
theorem Cx.lreturn (C : Cx G l Z a0 ws R y bytes maxL ret n0 Q) {a : Int64} (hd : decode bytes pc = .ok (.lreturn, 1)) (ht : ret = some .long) (hk : k ≤ R.cells) (hn : n ≤ R.slots) (hq : Q (some (.long a)) h) : G h k n pc ls (.long a :: st) := by
  obtain ⟨p, e, s, m, args, below, meth, c, hx, hby, hml, hown, hnm, hret, hlk, hZ, hw, rfl⟩ := C
  subst ht
  intro T locs X hT hF
  obtain ⟨fs, hr, hrun, hended, hW, hsame⟩ := X.leave (v := some (.long a)) (fun q => by rw [hret] at q; cases q) hlk
  refine ⟨_, _, retOut X hx hret rfl (Or.inr (Or.inl ⟨rfl, rfl, a, rfl⟩)) (hb hby hd) hr, hrun, hended, _, locs, rfl, ⟨?_, hF⟩, ⟨_, rfl⟩, hW, hsame.mono hk hn⟩
  show Q _ T.heap
  rw [hT]; exact hq
theorem Cx.areturn (C : Cx G l Z a0 ws R y bytes maxL ret n0 Q) {a : Addr} {t : FieldType} (hd : decode bytes pc = .ok (.areturn, 1)) (ht : ret = some t) (ht' : t.isReference = true) (hnr : narrow t (.ref a) = .ref a) (hk : k ≤ R.cells) (hn : n ≤ R.slots) (hq : Q (some (.ref a)) h) : G h k n pc ls (.ref a :: st) := by
  obtain ⟨p, e, s, m, args, below, meth, c, hx, hby, hml, hown, hnm, hret, hlk, hZ, hw, rfl⟩ := C
  subst ht
  intro T locs X hT hF
  obtain ⟨fs, hr, hrun, hended, hW, hsame⟩ := X.leave (v := some (.ref a)) (fun q => by rw [hret] at q; cases q) hlk
  refine ⟨_, _, retOut X hx hret hnr (Or.inr (Or.inr (Or.inr (Or.inr ⟨rfl, ht', rfl⟩)))) (hb hby hd) hr, hrun, hended, _, locs, rfl, ⟨?_, hF⟩, ⟨_, rfl⟩, hW, hsame.mono hk hn⟩
  show Q _ T.heap
  rw [hT]; exact hq
theorem Cx.vreturn (C : Cx G l Z a0 ws R y bytes maxL ret n0 Q) (hd : decode bytes pc = .ok (.return_, 1)) (ht : ret = none) (hk : k ≤ R.cells) (hn : n ≤ R.slots) (hq : Q none h) : G h k n pc ls [] := by
  obtain ⟨p, e, s, m, args, below, meth, c, hx, hby, hml, hown, hnm, hret, hlk, hZ, hw, rfl⟩ := C
  subst ht
  intro T locs X hT hF
  obtain ⟨fs, hr, hrun, hended, hW, hsame⟩ := X.leave (v := none) (fun _ => rfl) hlk
  refine ⟨_, _, X.returnOut hx hret (hb hby hd) hr, hrun, hended, _, locs, rfl, ⟨?_, hF⟩, ⟨_, rfl⟩, hW, hsame.mono hk hn⟩
  show Q _ T.heap
  rw [hT]; exact hq
def Lst (Z : State) (h : Heap) (a : Addr) (ty : FieldType) (vs : List Value) : Prop := ∃ c : Cell, Arr Z h a c ty ∧ c.slots = vs.toArray
theorem Lst.lt {Z : State} {h : Heap} {a : Addr} {ty : FieldType} {vs : List Value} (F : Lst Z h a ty vs) : a < h.size := by obtain ⟨c, A, -⟩ := F; exact A.lt
theorem Lst.ext {Z : State} {h h' : Heap} {a : Addr} {ty : FieldType} {vs : List Value} (F : Lst Z h a ty vs) (E : Ext h h') : Lst Z h' a ty vs := by obtain ⟨c, A, r⟩ := F; exact ⟨c, A.ext E, r⟩
theorem Lst.other {Z : State} {h h' : Heap} {a b : Addr} {sl : Nat} {v : Value} {ty : FieldType} {vs : List Value} (F : Lst Z h b ty vs) (W : Wr h h' a sl v) (q : b ≠ a) : Lst Z h' b ty vs := by obtain ⟨c, A, r⟩ := F; exact ⟨c, A.other W q, r⟩
theorem Lst.keep {Z : State} {h h' : Heap} {a : Addr} {wr : List Addr} {ty : FieldType} {vs : List Value} (F : Lst Z h a ty vs) (K : Keep h h' wr) (q : a ∉ wr) : Lst Z h' a ty vs := by obtain ⟨c, A, r⟩ := F; exact ⟨c, ⟨K.2.1 a c A.1 q, A.2⟩, r⟩
def Idx (j : Int32) (i : Nat) : Prop := ¬ j < 0 ∧ j.toNatClampNeg = i
theorem Idx.of {j : Int32} {i : Nat} (h : j.toInt = (i : Int)) : Idx j i := by
  refine ⟨fun q => ?_, ?_⟩
  · rw [Int32.lt_iff_toInt_lt] at q; have : (0 : Int32).toInt = 0 := rfl; omega
  · simp only [Int32.toNatClampNeg]; omega
theorem Idx.int {j : Int32} {i : Nat} (h : Idx j i) : j.toInt = (i : Int) := by rw [nat_of h.1, h.2]
theorem Idx.bound {j : Int32} {i : Nat} {c : Cell} {vs : List Value} (h : Idx j i) (r : c.slots = vs.toArray) (hi : i < vs.length) : ¬ (j < 0 ∨ c.slots.size ≤ j.toNatClampNeg) := by
  rintro (q | q)
  · exact h.1 q
  · rw [h.2, r] at q; simp at q; omega
theorem Cx.arraylength (C : Cx G l Z a0 ws R y bytes maxL ret n0 Q) {a : Addr} {ty : FieldType} {vs : List Value} {N : Int32} (A : Lst Z h a ty vs) (hN : vs.length.toInt32 = N) (hd : decode bytes pc = .ok (.arraylength, 1)) (hp : pc + 1 = pc') (hr : G h k n pc' ls (.int N :: st)) : G h k n pc ls (.ref a :: st) := by
  obtain ⟨p, e, s, m, args, below, meth, c, hx, hby, hml, hown, hnm, hret, hlk, hZ, hw, rfl⟩ := C
  subst hp hN
  obtain ⟨cl, A, r⟩ := A
  refine lift (fun T locs X hT target q => X.arraylength hx (by rw [hT]; exact A.1) (State.isArrayOf_alike hZ.alike A.2.1) (g := mkF m pc ls (.ref a :: st)) rfl rfl (hb hby hd) target ?_) hr
  rw [r]; exact q
theorem Cx.iaload (C : Cx G l Z a0 ws R y bytes maxL ret n0 Q) {a : Addr} {vs : List Value} {j : Int32} {i : Nat} {v : Value} (A : Lst Z h a .int vs) (hj : Idx j i) (hv : vs[i]? = some v) (hd : decode bytes pc = .ok (.iaload, 1)) (hp : pc + 1 = pc') (hr : G h k n pc' ls (v :: st)) : G h k n pc ls (.int j :: .ref a :: st) := by
  obtain ⟨p, e, s, m, args, below, meth, c, hx, hby, hml, hown, hnm, hret, hlk, hZ, hw, rfl⟩ := C
  subst hp
  obtain ⟨cl, A, r⟩ := A
  exact lift (fun T locs X hT target q => X.iaload hx (by rw [hT]; exact A.1) (State.isArrayOf_alike hZ.alike A.2.1) A.2.2 (hj.bound r (List.getElem?_eq_some_iff.mp hv).1) (by rw [hj.2, r]; simpa using hv) (g := mkF m pc ls (.int j :: .ref a :: st)) rfl rfl (hb hby hd) target q) hr
theorem Cx.baload (C : Cx G l Z a0 ws R y bytes maxL ret n0 Q) {a : Addr} {vs : List Value} {j : Int32} {i : Nat} {v : Value} (A : Lst Z h a .byte vs) (hj : Idx j i) (hv : vs[i]? = some v) (hd : decode bytes pc = .ok (.baload, 1)) (hp : pc + 1 = pc') (hr : G h k n pc' ls (v :: st)) : G h k n pc ls (.int j :: .ref a :: st) := by
  obtain ⟨p, e, s, m, args, below, meth, c, hx, hby, hml, hown, hnm, hret, hlk, hZ, hw, rfl⟩ := C
  subst hp
  obtain ⟨cl, A, r⟩ := A
  exact lift (fun T locs X hT target q => X.baloadBytes hx (by rw [hT]; exact A.1) (State.isArrayOf_alike hZ.alike A.2.1) A.2.2 (hj.bound r (List.getElem?_eq_some_iff.mp hv).1) (by rw [hj.2, r]; simpa using hv) (g := mkF m pc ls (.int j :: .ref a :: st)) rfl rfl (hb hby hd) target q) hr
theorem Lst.same {Z : State} {h h' : Heap} {a : Addr} {i : Nat} {v : Value} {ty : FieldType} {vs : List Value} (F : Lst Z h a ty vs) (W : Wr h h' a i v) : Lst Z h' a ty (vs.set i v) := by
  obtain ⟨c, A, r⟩ := F
  exact ⟨_, A.same W, by simp [Cell.setSlot, r]⟩
theorem Cx.iastore (C : Cx G l Z a0 ws R y bytes maxL ret n0 Q) {a : Addr} {vs vs' : List Value} {j x : Int32} {i : Nat} (A : Lst Z h a .int vs) (hj : Idx j i) (hi : i < vs.length) (hs : vs.set i (.int x) = vs') (ga : n0 ≤ a) (hd : decode bytes pc = .ok (.iastore, 1)) (hp : pc + 1 = pc') (hr : ∀ h', Wr h h' a i (.int x) → Lst Z h' a .int vs' → G h' k n pc' ls st) : G h k n pc ls (.int x :: .int j :: .ref a :: st) := by
  obtain ⟨p, e, s, m, args, below, meth, c, hx, hby, hml, hown, hnm, hret, hlk, hZ, hw, rfl⟩ := C
  subst hp hs
  have A' := A
  obtain ⟨cl, A, r⟩ := A
  intro T locs X hT hF
  obtain ⟨T', h', X', e', W', s'⟩ := stI X hx hZ hT A (hj.bound r hi) (g := mkF m pc ls (.int x :: .int j :: .ref a :: st)) rfl rfl (hb hby hd)
  rw [hj.2] at W'
  obtain ⟨s₂, o, h1, h2⟩ := hr h' W' (A'.same W') T' _ X' e' (Fr.snoc X' hF ga)
  exact ⟨s₂, o, s' _ h1, h2⟩
theorem Cx.bastore (C : Cx G l Z a0 ws R y bytes maxL ret n0 Q) {a : Addr} {vs vs' : List Value} {j x x' : Int32} {i : Nat} (A : Lst Z h a .byte vs) (hj : Idx j i) (hi : i < vs.length) (hx' : nar .byte x = x') (hs : vs.set i (.int x') = vs') (ga : n0 ≤ a) (hd : decode bytes pc = .ok (.bastore, 1)) (hp : pc + 1 = pc') (hr : ∀ h', Wr h h' a i (.int x') → Lst Z h' a .byte vs' → G h' k n pc' ls st) : G h k n pc ls (.int x :: .int j :: .ref a :: st) := by
  obtain ⟨p, e, s, m, args, below, meth, c, hx, hby, hml, hown, hnm, hret, hlk, hZ, hw, rfl⟩ := C
  subst hp hs hx'
  have A' := A
  obtain ⟨cl, A, r⟩ := A
  intro T locs X hT hF
  obtain ⟨T', h', X', e', W', s'⟩ := stB X hx hZ hT A (hj.bound r hi) (g := mkF m pc ls (.int x :: .int j :: .ref a :: st)) rfl rfl (hb hby hd)
  rw [hj.2] at W'
  obtain ⟨s₂, o, h1, h2⟩ := hr h' W' (A'.same W') T' _ X' e' (Fr.snoc X' hF ga)
  exact ⟨s₂, o, s' _ h1, h2⟩
theorem Cx.dastore (C : Cx G l Z a0 ws R y bytes maxL ret n0 Q) {a : Addr} {vs : List Value} {j : Int32} {x : UInt64} {i : Nat} (A : Lst Z h a .double vs) (hj : Idx j i) (hi : i < vs.length) (ga : n0 ≤ a) (hd : decode bytes pc = .ok (.dastore, 1)) (hp : pc + 1 = pc') (hr : ∀ h', Wr h h' a i (.double x) → Lst Z h' a .double (vs.set i (.double x)) → G h' k n pc' ls st) : G h k n pc ls (.double x :: .int j :: .ref a :: st) := by
  obtain ⟨p, e, s, m, args, below, meth, c, hx, hby, hml, hown, hnm, hret, hlk, hZ, hw, rfl⟩ := C
  subst hp
  have A' := A
  obtain ⟨cl, A, r⟩ := A
  intro T locs X hT hF
  obtain ⟨T', h', X', e', W', s'⟩ := stD X hx hZ hT A (hj.bound r hi) (g := mkF m pc ls (.double x :: .int j :: .ref a :: st)) rfl rfl (hb hby hd)
  rw [hj.2] at W'
  obtain ⟨s₂, o, h1, h2⟩ := hr h' W' (A'.same W') T' _ X' e' (Fr.snoc X' hF ga)
  exact ⟨s₂, o, s' _ h1, h2⟩
theorem Cx.newarray (C : Cx G l Z a0 ws R y bytes maxL ret n0 Q) {w : Nat} {aty : ArrayType} {ty : FieldType} {d : Value} {vs : List Value} {len : Int32} {N cap : Nat} (hty : newarray.typeOf aty = ty) (hwd : ws[w]? = some (Jvm.Cond.arrayClass ty)) (hj : Idx len N) (hdv : defaultValue ty = d) (hvs : List.replicate N d = vs) (hcap : N ≤ cap) (hb8 : cap * 8 ≤ 536870912) (hc : k + 1 ≤ R.cells) (hl : n + cap ≤ R.slots) (hd : decode bytes pc = .ok (.newarray aty, 2)) (hp : pc + 2 = pc')
    (hr : ∀ h' a, a = h.size → Ext h h' → Lst Z h' a ty vs → G h' (k + 1) (n + cap) pc' ls (.ref a :: st)) : G h k n pc ls (.int len :: st) := by
  obtain ⟨p, e, s, m, args, below, meth, c, hx, hby, hml, hown, hnm, hret, hlk, hZ, hw, rfl⟩ := C
  subst hp hty hdv hvs
  intro T locs X hT hF
  obtain ⟨T', h', cA, X', e', E', A', s'⟩ := newP X hx hZ (word hw hwd) hT (g := mkF m pc ls (.int len :: st)) rfl (hb hby hd) rfl hj.1 (cap := cap) (by rw [hj.2]; exact hcap) hb8 hc hl
  obtain ⟨s₂, o, h1, h2⟩ := hr h' h.size rfl E' ⟨_, A', by simp [newA, hj.2]⟩ T' _ X' e' hF
  exact ⟨s₂, o, s' _ h1, h2⟩
theorem Cx.newO (C : Cx G l Z a0 ws R y bytes maxL ret n0 Q) {i1 i2 i3 idx nn : Nat} {K : String} (w1 : ws[i1]? = some (Jvm.Cond.classLink y.cls idx K)) (w2 : ws[i2]? = some (Jvm.Cond.instantiable K nn)) (w3 : ws[i3]? = some (Jvm.Cond.initialized K)) (hc : k + 1 ≤ R.cells) (hl : n + nn ≤ R.slots) (hd : decode bytes pc = .ok (.new idx, 3)) (hp : pc + 3 = pc')
    (hr : ∀ h' a, a = h.size → Ext h h' → Exa Z h' a K → (∀ {O nm d : String} {ty : FieldType}, Laid Z a0 K O nm d → parseFieldDescriptor d = some ty → Fld Z h' a O nm d (defaultValue ty)) → G h' (k + 1) (n + nn) pc' ls (.ref a :: st)) : G h k n pc ls st := by
  obtain ⟨p, e, s, m, args, below, meth, c, hx, hby, hml, hown, hnm, hret, hlk, hZ, hw, rfl⟩ := C
  subst hp
  intro T locs X hT hF
  obtain ⟨T', h', X', e', E', A', D', -, s'⟩ := RoadKit.newO X hx hZ hown (word hw w1) (word hw w2) (word hw w3) hT (g := mkF m pc ls st) rfl (hb hby hd) hc hl
  obtain ⟨s₂, o, h1, h2⟩ := hr h' h.size rfl E' A' D' T' _ X' e' hF
  exact ⟨s₂, o, s' _ h1, h2⟩
theorem Cx.getfield (C : Cx G l Z a0 ws R y bytes maxL ret n0 Q) {i idx : Nat} {O f d : String} {a : Addr} {v : Value} (w : ws[i]? = some (Jvm.Cond.fieldLink y.cls idx O f d)) (F : Fld Z h a O f d v) (hd : decode bytes pc = .ok (.getfield idx, 3)) (hp : pc + 3 = pc') (hr : G h k n pc' ls (v :: st)) : G h k n pc ls (.ref a :: st) := by
  obtain ⟨p, e, s, m, args, below, meth, c, hx, hby, hml, hown, hnm, hret, hlk, hZ, hw, rfl⟩ := C
  subst hp
  intro T locs X hT hF
  obtain ⟨T', X', e', s'⟩ := getF X hx hZ hown (host := "") (Or.inl (word hw w)) Via.refl hT F (g := mkF m pc ls (.ref a :: st)) rfl rfl (hb hby hd)
  obtain ⟨s₂, o, h1, h2⟩ := hr T' _ X' e' hF
  exact ⟨s₂, o, s' _ h1, h2⟩
theorem Cx.getstatic (C : Cx G l Z a0 ws R y bytes maxL ret n0 Q) {i idx : Nat} {O f d : String} {v : Value} (w : ws[i]? = some (Jvm.Cond.fieldLink y.cls idx O f d)) (F : Sta Z h O f d v) (hd : decode bytes pc = .ok (.getstatic idx, 3)) (hp : pc + 3 = pc') (hr : G h k n pc' ls (v :: st)) : G h k n pc ls st := by
  obtain ⟨p, e, s, m, args, below, meth, c, hx, hby, hml, hown, hnm, hret, hlk, hZ, hw, rfl⟩ := C
  subst hp
  intro T locs X hT hF
  obtain ⟨T', X', e', s'⟩ := getS X hx hZ (host := "") hown (word hw w) Via.refl hT F (g := mkF m pc ls st) rfl (hb hby hd)
  obtain ⟨s₂, o, h1, h2⟩ := hr T' _ X' e' hF
  exact ⟨s₂, o, s' _ h1, h2⟩
theorem Cx.putfield (C : Cx G l Z a0 ws R y bytes maxL ret n0 Q) {i i2 i3 idx kk : Nat} {O f d K : String} {a : Addr} {v v' old : Value} {ty : FieldType} (w : ws[i]? = some (Jvm.Cond.fieldLink y.cls idx O f d)) (w2 : ws[i2]? = some (Jvm.Cond.lays K O f d) ∨ (ws[i2]? = some (Jvm.Cond.laysFinal K O f d) ∧ y.cls = O ∧ y.name = "<init>")) (w3 : ws[i3]? = some (Jvm.Cond.instantiable K kk)) (F : Fld Z h a O f d old) (E : Exa Z h a K) (hty : parseFieldDescriptor d = some ty) (hnv : narrow ty v = v') (hfv : fits ty v' = true) (ga : n0 ≤ a) (hd : decode bytes pc = .ok (.putfield idx, 3)) (hp : pc + 3 = pc')
    (hr : ∀ h', Wr h h' a (Jvm.RoadKit.slotOf Z O f d) v' → G h' k n pc' ls st) : G h k n pc ls (v :: .ref a :: st) := by
  obtain ⟨p, e, s, m, args, below, meth, c, hx, hby, hml, hown, hnm, hret, hlk, hZ, hw, rfl⟩ := C
  subst hp
  intro T locs X hT hF
  obtain ⟨T', h', X', e', W', s'⟩ := putFN X hx hZ hown (word hw w) Via.refl hT F E (w2.elim (fun q => Or.inl (word hw q)) (fun q => Or.inr ⟨word hw q.1, q.2.1, hnm.trans q.2.2⟩)) (word hw w3) hty hnv hfv (g := mkF m pc ls (v :: .ref a :: st)) rfl rfl (hb hby hd)
  obtain ⟨s₂, o, h1, h2⟩ := hr h' W' T' _ X' e' (Fr.snoc X' hF ga)
  exact ⟨s₂, o, s' _ h1, h2⟩
theorem Cx.initO (C : Cx G l Z a0 ws R y bytes maxL ret n0 Q) {i1 i2 i3 idx W : Nat} {a : Addr} (w1 : ws[i1]? = some (Jvm.Cond.methodLink y.cls idx Lib.objectInit)) (w2 : ws[i2]? = some (Jvm.Cond.instanceMethod Lib.objectInit)) (w3 : ws[i3]? = some (Jvm.Cond.code Lib.objectInit Jvm.LibCode.Object.Init0.code 1 none)) (hsz : ls.size = maxL) (hf : 1 ≤ R.frames) (hW : (st.map fun v => v.category).sum = W) (hl : W + 12 ≤ R.locals) (hd : decode bytes pc = .ok (.invokespecial idx, 3)) (hp : pc + 3 = pc') (hr : G h k n pc' ls st) : G h k n pc ls (.ref a :: st) := by
  obtain ⟨p, e, s, m, args, below, meth, c, hx, hby, hml, hown, hnm, hret, hlk, hZ, hw, rfl⟩ := C
  subst hp
  intro T locs X hT hF
  obtain ⟨T', X', e', s'⟩ := RoadKit.initO X hx hZ hown (word hw w1) (word hw w2) (word hw w3) hT (g := mkF m pc ls (.ref a :: st)) rfl (by rw [hml]; exact hsz) rfl (hb hby hd) hf (W := W) (by rw [← hW]; show 2 * 0 + _ ≤ _; omega) hl
  obtain ⟨s₂, o, h1, h2⟩ := hr T' _ X' e' hF
  exact ⟨s₂, o, s' _ h1, h2⟩
theorem Cx.callS (C : Cx G l Z a0 ws R y bytes maxL ret n0 Q) {y' : MethodName} {bytes' : ByteArray} {maxL' : Nat} {ret' : Option FieldType} {rm : Room} {as : Array Value} {Q' : Option Value → Heap → Prop} (hM : Ctr l Z y' bytes' maxL' ret' rm n0 as h Q' []) {i1 i2 i3 i4 idx W : Nat} (w1 : ws[i1]? = some (Jvm.Cond.methodLink y.cls idx y')) (w2 : ws[i2]? = some (Jvm.Cond.static y')) (w3 : ws[i3]? = some (Jvm.Cond.initialized y'.cls)) (w4 : ws[i4]? = some (Jvm.Cond.code y' bytes' maxL' ret'))
    (hy : y'.cls ≠ "java/lang/invoke/MethodHandle" ∧ y'.cls ≠ "java/lang/invoke/VarHandle") {argsL : List Value} {ps : List FieldType} {rt : Option FieldType} (hps : parseMethodDescriptor y'.desc = some ⟨ps, rt⟩) (hln : argsL.length = ps.length) (has : argsL.toArray = as) (hst : st = argsL.reverse ++ rest) (hsz : ls.size = maxL) (hW : (rest.map fun v => v.category).sum = W) (hf : rm.frames + 1 ≤ R.frames) (hl : W + (maxL' + 11) + rm.locals ≤ R.locals) (hc : k + rm.cells ≤ R.cells) (hn : n + rm.slots ≤ R.slots) (hd : decode bytes pc = .ok (.invokestatic idx, 3)) (hp : pc + 3 = pc') (hk' : k + rm.cells = k') (hn' : n + rm.slots = n')
    (hr : ∀ v h', Q' v h' → G h' k' n' pc' ls (v.toList ++ rest)) : G h k n pc ls st := by
  obtain ⟨p, e, s, m, args, below, meth, c, hx, hby, hml, hown, hnm, hret, hlk, hZ, hw, rfl⟩ := C
  subst hp has hst hk' hn'
  intro T locs X hT hF
  obtain ⟨v, _, ⟨T', L', k9, n9⟩, -, X', ⟨Lc, hQ, e1, e2, e3⟩, s'⟩ := Jvm.LawKit.callS X hx (y := y') hown (mvT hZ (word hw w1)) (mvT hZ (word hw w2)) (mvT hZ (word hw w3)) (mvT hZ (word hw w4)) hy (backOf (Q := fun v h L => Q' v h ∧ Fr n0 L) (W := W) hM hZ (word hw w4) (word hw w3) hf hl) (g := mkF m pc ls (argsL.reverse ++ rest)) rfl (by rw [hml]; exact hsz) (argsL := argsL) (rest := rest) (lenOf hps hln) rfl (by rw [← hW]; show 2 * 0 + _ ≤ _; omega) (hb hby hd) (fun _ _ => ⟨rfl, hT, hc, hn⟩)
  dsimp only [Pt.U, Pt.locs, Pt.cells, Pt.slots] at X' e1 e2 e3 s' hQ
  subst e1 e2 e3
  obtain ⟨s₂, o, h1, h2⟩ := hr v T'.heap hQ.1 T' _ X' rfl (Fr.app hF hQ.2)
  exact ⟨s₂, o, s' _ h1, h2⟩
theorem Cx.callI (C : Cx G l Z a0 ws R y bytes maxL ret n0 Q) {y' : MethodName} {bytes' : ByteArray} {maxL' : Nat} {rm : Room} {as : Array Value} {Q' : Option Value → Heap → Prop} {a : Addr} (hM : Ctr l Z y' bytes' maxL' none rm n0 as h Q' []) {i1 i2 i3 i4 idx W : Nat} (w1 : ws[i1]? = some (Jvm.Cond.methodLink y.cls idx y')) (w2 : ws[i2]? = some (Jvm.Cond.instanceMethod y')) (w3 : ws[i3]? = some (Jvm.Cond.initialized y'.cls)) (w4 : ws[i4]? = some (Jvm.Cond.code y' bytes' maxL' none)) (hi : y'.name = "<init>")
    (hy : y'.cls ≠ "java/lang/invoke/MethodHandle" ∧ y'.cls ≠ "java/lang/invoke/VarHandle") {argsL : List Value} {ps : List FieldType} {rt : Option FieldType} (hps : parseMethodDescriptor y'.desc = some ⟨ps, rt⟩) (hln : argsL.length = ps.length) (has : (.ref a :: argsL).toArray = as) (hst : st = argsL.reverse ++ .ref a :: rest) (hsz : ls.size = maxL) (hW : (rest.map fun v => v.category).sum = W) (hf : rm.frames + 1 ≤ R.frames) (hl : W + (maxL' + 11) + rm.locals ≤ R.locals) (hc : k + rm.cells ≤ R.cells) (hn : n + rm.slots ≤ R.slots) (hd : decode bytes pc = .ok (.invokespecial idx, 3)) (hp : pc + 3 = pc') (hk' : k + rm.cells = k') (hn' : n + rm.slots = n')
    (hr : ∀ v h', Q' v h' → G h' k' n' pc' ls (v.toList ++ rest)) : G h k n pc ls st := by
  obtain ⟨p, e, s, m, args, below, meth, c, hx, hby, hml, hown, hnm, hret, hlk, hZ, hw, rfl⟩ := C
  subst hp has hst hk' hn'
  intro T locs X hT hF
  obtain ⟨v, _, ⟨T', L', k9, n9⟩, -, X', ⟨Lc, hQ, e1, e2, e3⟩, s'⟩ := X.specialBack hx (y := y') hi hown (mvT hZ (word hw w1)) (mvT hZ (word hw w2)) (mvT hZ (word hw w4)) hy (backOf (Q := fun v h L => Q' v h ∧ Fr n0 L) (W := W) hM hZ (word hw w4) (word hw w3) hf hl) (g := mkF m pc ls (argsL.reverse ++ .ref a :: rest)) rfl (by rw [hml]; exact hsz) (Steps.refl _) (a := a) (argsL := argsL) (rest := rest) (lenOf hps hln) rfl (by rw [← hW]; show 2 * 0 + _ ≤ _; omega) (hb hby hd) (fun _ _ => ⟨rfl, hT, hc, hn⟩)
  dsimp only [Pt.U, Pt.locs, Pt.cells, Pt.slots] at X' e1 e2 e3 s' hQ
  subst e1 e2 e3
  obtain ⟨s₂, o, h1, h2⟩ := hr v T'.heap hQ.1 T' _ X' rfl (Fr.app hF hQ.2)
  exact ⟨s₂, o, s'.trans h1, h2⟩
theorem Cx.callV (C : Cx G l Z a0 ws R y bytes maxL ret n0 Q) {y' : MethodName} {bytes' : ByteArray} {maxL' : Nat} {ret' : Option FieldType} {rm : Room} {as : Array Value} {Q' : Option Value → Heap → Prop} {a : Addr} {K : String} (hM : Ctr l Z y' bytes' maxL' ret' rm n0 as h Q' []) (hE : Exa Z h a K) {i1 i2 i3 i4 i5 i6 idx W : Nat} (w1 : ws[i1]? = some (Jvm.Cond.methodLink y.cls idx y')) (w2 : ws[i2]? = some (Jvm.Cond.declares y')) (w3 : ws[i3]? = some (Jvm.Cond.instanceMethod y')) (w4 : ws[i4]? = some (Jvm.Cond.selects K y' y')) (w5 : ws[i5]? = some (Jvm.Cond.code y' bytes' maxL' ret')) (w6 : ws[i6]? = some (Jvm.Cond.initialized y'.cls))
    (hy : y'.cls ≠ "java/lang/invoke/MethodHandle" ∧ y'.cls ≠ "java/lang/invoke/VarHandle") {argsL : List Value} {ps : List FieldType} {rt : Option FieldType} (hps : parseMethodDescriptor y'.desc = some ⟨ps, rt⟩) (hln : argsL.length = ps.length) (has : (.ref a :: argsL).toArray = as) (hst : st = argsL.reverse ++ .ref a :: rest) (hsz : ls.size = maxL) (hW : (rest.map fun v => v.category).sum = W) (hf : rm.frames + 1 ≤ R.frames) (hl : W + (maxL' + 11) + rm.locals ≤ R.locals) (hc : k + rm.cells ≤ R.cells) (hn : n + rm.slots ≤ R.slots) (hd : decode bytes pc = .ok (.invokevirtual idx, 3)) (hp : pc + 3 = pc') (hk' : k + rm.cells = k') (hn' : n + rm.slots = n')
    (hr : ∀ v h', Q' v h' → G h' k' n' pc' ls (v.toList ++ rest)) : G h k n pc ls st := by
  obtain ⟨p, e, s, m, args, below, meth, c, hx, hby, hml, hown, hnm, hret, hlk, hZ, hw, rfl⟩ := C
  subst hp has hst hk' hn'
  intro T locs X hT hF
  obtain ⟨cq, kq, qa, qb, qc⟩ := isOf hZ hT hE
  obtain ⟨v, _, ⟨T', L', k9, n9⟩, -, X', ⟨Lc, hQ, e1, e2, e3⟩, s'⟩ := X.virtualBack hx (y := y') (z := y') hown (mvT hZ (word hw w1)) (mvT hZ (word hw w2)) (notFace_of_selects (args := #[]) (mvT hZ (word hw w4))) (mvT hZ (word hw w4)) (mvT hZ (word hw w3)) hy (backOf (Q := fun v h L => Q' v h ∧ Fr n0 L) (W := W) hM hZ (word hw w5) (word hw w6) hf hl) qa qc (g := mkF m pc ls (argsL.reverse ++ .ref a :: rest)) rfl (by rw [hml]; exact hsz) (Steps.refl _) (argsL := argsL) (rest := rest) (lenOf hps hln) rfl (by rw [← hW]; show 2 * 0 + _ ≤ _; omega) (hb hby hd) (fun _ _ => ⟨rfl, hT, hc, hn⟩)
  dsimp only [Pt.U, Pt.locs, Pt.cells, Pt.slots] at X' e1 e2 e3 s' hQ
  subst e1 e2 e3
  obtain ⟨s₂, o, h1, h2⟩ := hr v T'.heap hQ.1 T' _ X' rfl (Fr.app hF hQ.2)
  exact ⟨s₂, o, s'.trans h1, h2⟩
theorem Cx.callSP (C : Cx G l Z a0 ws R y bytes maxL ret n0 Q) {y' : MethodName} {bytes' : ByteArray} {maxL' : Nat} {ret' : Option FieldType} {rm : Room} {as : Array Value} {r : Value} (hM : Ctr l Z y' bytes' maxL' ret' rm n0 as h (fun v h' => v = some r ∧ h' = h) []) {i1 i2 i3 i4 idx W : Nat} (w1 : ws[i1]? = some (Jvm.Cond.methodLink y.cls idx y')) (w2 : ws[i2]? = some (Jvm.Cond.static y')) (w3 : ws[i3]? = some (Jvm.Cond.initialized y'.cls)) (w4 : ws[i4]? = some (Jvm.Cond.code y' bytes' maxL' ret'))
    (hy : y'.cls ≠ "java/lang/invoke/MethodHandle" ∧ y'.cls ≠ "java/lang/invoke/VarHandle") {argsL : List Value} {ps : List FieldType} {rt : Option FieldType} (hps : parseMethodDescriptor y'.desc = some ⟨ps, rt⟩) (hln : argsL.length = ps.length) (has : argsL.toArray = as) (hst : st = argsL.reverse ++ rest) (hsz : ls.size = maxL) (hW : (rest.map fun v => v.category).sum = W) (hf : rm.frames + 1 ≤ R.frames) (hl : W + (maxL' + 11) + rm.locals ≤ R.locals) (hc : k + rm.cells ≤ R.cells) (hn : n + rm.slots ≤ R.slots) (hd : decode bytes pc = .ok (.invokestatic idx, 3)) (hp : pc + 3 = pc') (hk' : k + rm.cells = k') (hn' : n + rm.slots = n')
    (hr : G h k' n' pc' ls (r :: rest)) : G h k n pc ls st :=
  C.callS hM w1 w2 w3 w4 hy hps hln has hst hsz hW hf hl hc hn hd hp hk' hn' (fun v h' q => by obtain ⟨rfl, rfl⟩ := q; exact hr)
theorem Cx.callVP (C : Cx G l Z a0 ws R y bytes maxL ret n0 Q) {y' : MethodName} {bytes' : ByteArray} {maxL' : Nat} {ret' : Option FieldType} {rm : Room} {as : Array Value} {r : Value} {a : Addr} {K : String} (hM : Ctr l Z y' bytes' maxL' ret' rm n0 as h (fun v h' => v = some r ∧ h' = h) []) (hE : Exa Z h a K) {i1 i2 i3 i4 i5 i6 idx W : Nat} (w1 : ws[i1]? = some (Jvm.Cond.methodLink y.cls idx y')) (w2 : ws[i2]? = some (Jvm.Cond.declares y')) (w3 : ws[i3]? = some (Jvm.Cond.instanceMethod y')) (w4 : ws[i4]? = some (Jvm.Cond.selects K y' y')) (w5 : ws[i5]? = some (Jvm.Cond.code y' bytes' maxL' ret')) (w6 : ws[i6]? = some (Jvm.Cond.initialized y'.cls))
    (hy : y'.cls ≠ "java/lang/invoke/MethodHandle" ∧ y'.cls ≠ "java/lang/invoke/VarHandle") {argsL : List Value} {ps : List FieldType} {rt : Option FieldType} (hps : parseMethodDescriptor y'.desc = some ⟨ps, rt⟩) (hln : argsL.length = ps.length) (has : (.ref a :: argsL).toArray = as) (hst : st = argsL.reverse ++ .ref a :: rest) (hsz : ls.size = maxL) (hW : (rest.map fun v => v.category).sum = W) (hf : rm.frames + 1 ≤ R.frames) (hl : W + (maxL' + 11) + rm.locals ≤ R.locals) (hc : k + rm.cells ≤ R.cells) (hn : n + rm.slots ≤ R.slots) (hd : decode bytes pc = .ok (.invokevirtual idx, 3)) (hp : pc + 3 = pc') (hk' : k + rm.cells = k') (hn' : n + rm.slots = n')
    (hr : G h k' n' pc' ls (r :: rest)) : G h k n pc ls st :=
  C.callV hM hE w1 w2 w3 w4 w5 w6 hy hps hln has hst hsz hW hf hl hc hn hd hp hk' hn' (fun v h' q => by obtain ⟨rfl, rfl⟩ := q; exact hr)
theorem Lst.arv {h : Heap} {a : Addr} {ty : FieldType} {vs : List Value} {z : Int32} {dv : Value} (F : Lst Z h a ty vs) (hz : Idx z vs.length) (hf : ∀ i, i < vs.length → fits ty (vs.getD i dv) = true) : ∃ kk, Arv Z h a kk ty z vs dv := by
  obtain ⟨c, A, r⟩ := F
  have hs : c.slots.size = vs.length := by rw [r]; simp
  refine ⟨c.cls, c, A, rfl, by rw [hs, hz.2], hz.1, fun i hi => ?_, fun i hi => hf i (by omega)⟩
  rw [r, List.getElem?_toArray, List.getD_eq_getElem?_getD, List.getElem?_eq_getElem (by omega)]; rfl
theorem Lst.of_arv {h : Heap} {a : Addr} {ty : FieldType} {vs : List Value} {z : Int32} {dv : Value} {kk : ClassId} (F : Arv Z h a kk ty z vs dv) (hz : Idx z vs.length) : Lst Z h a ty vs := by
  obtain ⟨c, A, -, hs, -, hh, -⟩ := F
  refine ⟨c, A, ?_⟩
  have hl : c.slots.size = vs.length := by rw [hs, hz.2]
  apply Array.ext
  · simpa using hl
  · intro i h1 h2
    have q := hh i h1
    rw [Array.getElem?_eq_getElem h1, List.getD_eq_getElem?_getD, List.getElem?_eq_getElem (by omega)] at q
    simpa using q
theorem Cx.arraycopy (C : Cx G l Z a0 ws R y bytes maxL ret n0 Q) {a b : Addr} {ty : FieldType} {vs vd us vs' : List Value} {sp dp nn za zb : Int32} {i j N W i1 i2 i3 i4 idx : Nat} {dv : Value} (w1 : ws[i1]? = some (Jvm.Cond.methodLink y.cls idx Jvm.Stand.acN)) (w2 : ws[i2]? = some (Jvm.Cond.native Jvm.Stand.acN)) (w3 : ws[i3]? = some (Jvm.Cond.static Jvm.Stand.acN)) (w4 : ws[i4]? = some (Jvm.Cond.initialized "java/lang/System"))
    (A : Lst Z h a ty vs) (B : Lst Z h b ty vd) (hA : Idx za vs.length) (hB : Idx zb vd.length) (fA : ∀ i, i < vs.length → fits ty (vs.getD i dv) = true) (fB : ∀ i, i < vd.length → fits ty (vd.getD i dv) = true) (hty : refKind ty = false) (hi : Idx sp i) (hj : Idx dp j) (hN : Idx nn N) (hl1 : i + N ≤ vs.length) (hl2 : j + N ≤ vd.length) (hus : (List.range N).map (fun x => vs.getD (i + x) dv) = us) (hvs : vd.take j ++ us ++ vd.drop (j + N) = vs') (ga : n0 ≤ b) (hsz : ls.size = maxL) (hf : 1 ≤ R.frames) (hW : (st.map fun v => v.category).sum = W) (hlo : W + (nativeFrameWords "java/lang/System" "arraycopy" 5 + 11) ≤ R.locals) (hd : decode bytes pc = .ok (.invokestatic idx, 3)) (hp : pc + 3 = pc')
    (hr : ∀ h', Keep h h' [b] → Lst Z h' b ty vs' → G h' k n pc' ls st) : G h k n pc ls (.int nn :: .int dp :: .ref b :: .int sp :: .ref a :: st) := by
  obtain ⟨p, e, s, m, args, below, meth, c, hx, hby, hml, hown, hnm, hret, hlk, hZ, hw, rfl⟩ := C
  subst hp hus hvs
  intro T locs X hT hF
  obtain ⟨ka, A'⟩ := A.arv hA fA
  obtain ⟨kb, B'⟩ := B.arv hB fB
  obtain ⟨T', h', L', X', e', F', K', V', s'⟩ := cpA X hx hZ hown (word hw w1) (word hw w2) (word hw w3) (word hw w4) hT A' B' (Or.inl ⟨rfl, hty⟩) hi.1 hj.1 hN.1 (by rw [hi.2, hN.2, hA.2]; exact hl1) (by rw [hj.2, hN.2, hB.2]; exact hl2) (us := (List.range N).map (fun x => vs.getD (i + x) dv)) (by rw [hi.2, hN.2]) (by rw [hj.2, hN.2]; exact hl2) hF ga (g := mkF m pc ls (.int nn :: .int dp :: .ref b :: .int sp :: .ref a :: st)) rfl (by rw [hml]; exact hsz) rfl (hb hby hd) hf (W := W) (by rw [← hW]; show 2 * 0 + _ ≤ _; omega) hlo
  rw [hj.2, hN.2] at V'
  obtain ⟨s₂, o, h1, h2⟩ := hr h' K' (Lst.of_arv V' ⟨hB.1, by rw [hB.2]; simp; omega⟩) T' _ X' e' F'
  exact ⟨s₂, o, s' _ h1, h2⟩
end Laws
end Jvm.GoKit
namespace Jvm.Pilot.@@N@@
open Jvm Jvm.ClassFile Sem Op Lib Jvm.Free Jvm.Stand Jvm.LawKit Jvm.RoadKit Jvm.GoKit Bundle Jvm.Pilot.@@N@@.Jvm.D
abbrev own_n (w : Int64) : Nat := w.toBitVec.toNat
theorem own_ushr (w : Int64) (q : Int32) (k : Nat) (hk : (q.toInt64.toUInt64 &&& Int64.toUInt64 63).toNat % 64 = k) : own_n (XT.ushrL w q) = own_n w / 2 ^ k := by
  show (w.toUInt64 >>> (q.toInt64.toUInt64 &&& Int64.toUInt64 63)).toNat = _
  rw [UInt64.toNat_shiftRight, hk, Nat.shiftRight_eq_div_pow]; rfl
theorem own_zero (w : Int64) : w = 0 ↔ own_n w = 0 := by
  constructor
  · rintro rfl; rfl
  · intro h; exact Int64.toBitVec_inj.mp (BitVec.eq_of_toNat_eq (show own_n w = 0 from h))
def own_lk (N : Nat) : Nat → Nat
  | 0 => 1
  | k + 1 => if N / 2 ^ (7 * (k + 1)) = 0 then own_lk N k else k + 2
/-- the byte with its top bit set, as an int; the last byte -/
def own_hib (N : Nat) : Int32 := Int32.ofInt ((N % 128 : Nat) - 128 : Int)
def own_lob (N : Nat) : Int32 := Int32.ofNat (N % 128)
def own_rb (N i : Nat) : Int32 := if i < 9 ∧ N / 2 ^ (7 * i + 7) ≠ 0 then own_hib (N / 2 ^ (7 * i)) else own_lob (N / 2 ^ (7 * i))
def own_ex (N a L : Nat) (f : Int32) (k : Nat) : Int32 := if k < a ∨ a + L ≤ k then f else own_rb N (k - a)
theorem own_and127 (w : Int64) : own_n (w &&& 127) = own_n w % 128 := by
  show (w.toBitVec &&& (127 : Int64).toBitVec).toNat = _
  rw [BitVec.toNat_and, show (127 : Int64).toBitVec.toNat = 2 ^ 7 - 1 from rfl, Nat.and_two_pow_sub_one_eq_mod]
theorem own_lo7 (w : Int64) : w &&& 127 = Int64.ofNat (own_n w % 128) := by
  apply Int64.toBitVec_inj.mp
  apply BitVec.eq_of_toNat_eq
  show own_n (w &&& 127) = (BitVec.ofNat 64 (own_n w % 128)).toNat
  rw [own_and127, BitVec.toNat_ofNat]
  change own_n w % 128 = own_n w % 128 % 18446744073709551616
  omega
theorem own_split (w : Int64) : w &&& (-128) = 0 ↔ own_n w / 128 = 0 := by
  rw [own_zero]
  show (w.toBitVec &&& (-128 : Int64).toBitVec).toNat = 0 ↔ _
  rw [BitVec.toNat_and, show (-128 : Int64).toBitVec.toNat = 128 * 144115188075855871 from rfl]
  have lt : own_n w < 18446744073709551616 := w.toBitVec.isLt
  have a := Nat.and_mod_two_pow (a := own_n w) (b := 128 * 144115188075855871) (n := 7)
  have b := Nat.and_div_two_pow (a := own_n w) (b := 128 * 144115188075855871) (n := 7)
  rw [show (2 : Nat) ^ 7 = 128 from rfl] at a b
  rw [show 128 * 144115188075855871 % 128 = 0 from rfl, Nat.and_zero] at a
  rw [show 128 * 144115188075855871 / 128 = 2 ^ 57 - 1 from rfl, Nat.and_two_pow_sub_one_eq_mod, show (2 : Nat) ^ 57 = 144115188075855872 from rfl] at b
  show own_n w &&& 128 * 144115188075855871 = 0 ↔ _
  omega
theorem own_f1 : ∀ k : Fin 128, ((Int64.ofNat k.val) ||| 128).toInt32.toInt8.toInt32 = Int32.ofInt ((k.val : Int) - 128) ∧ ((Int64.ofNat k.val).toInt32 ||| 128).toInt8.toInt32 = Int32.ofInt ((k.val : Int) - 128) ∧ (Int64.ofNat k.val).toInt32.toInt8.toInt32 = Int32.ofNat k.val ∧ nar .byte (Int32.ofInt ((k.val : Int) - 128)) = Int32.ofInt ((k.val : Int) - 128) ∧ nar .byte (Int32.ofNat k.val) = Int32.ofNat k.val := by decide +kernel
theorem own_hibE (w : Int64) : ((w &&& 127) ||| 128).toInt32.toInt8.toInt32 = own_hib (own_n w) := by
  rw [own_lo7]; exact (own_f1 ⟨own_n w % 128, Nat.mod_lt _ (by decide)⟩).1
theorem own_narH (N : Nat) : nar .byte (own_hib N) = own_hib N := (own_f1 ⟨N % 128, Nat.mod_lt _ (by decide)⟩).2.2.2.1
theorem own_narL (N : Nat) : nar .byte (own_lob N) = own_lob N := (own_f1 ⟨N % 128, Nat.mod_lt _ (by decide)⟩).2.2.2.2
theorem own_lobE {w : Int64} (h : own_n w / 128 = 0) : w.toInt32.toInt8.toInt32 = own_lob (own_n w) := by
  have e : w = Int64.ofNat (own_n w % 128) := by
    apply Int64.toBitVec_inj.mp
    apply BitVec.eq_of_toNat_eq
    show own_n w = (BitVec.ofNat 64 (own_n w % 128)).toNat
    rw [BitVec.toNat_ofNat]
    change own_n w = own_n w % 128 % 18446744073709551616
    omega
  have := (own_f1 ⟨own_n w % 128, Nat.mod_lt _ (by decide)⟩).2.2.1
  dsimp only at this
  rw [← e] at this; exact this
theorem own_low (w : Int64) : ((w &&& 127).toInt32 ||| 128).toInt8.toInt32 = own_hib (own_n w) ∧ (w &&& 127).toInt32.toInt8.toInt32 = own_lob (own_n w) := by
  rw [own_lo7]; exact ⟨(own_f1 ⟨own_n w % 128, Nat.mod_lt _ (by decide)⟩).2.1, (own_f1 ⟨own_n w % 128, Nat.mod_lt _ (by decide)⟩).2.2.1⟩
theorem own_sh9 : ∀ i : Fin 10, ((7 * Int32.ofNat i.val).toInt64.toUInt64 &&& Int64.toUInt64 63).toNat % 64 = 7 * i.val := by decide +kernel
theorem own_sh8 : ∀ i : Fin 9, (((7 * Int32.ofNat i.val) + 7).toInt64.toUInt64 &&& Int64.toUInt64 63).toNat % 64 = 7 * i.val + 7 := by decide +kernel
theorem own_idx {i : Nat} (h : i < 2147483648) : Idx (Int32.ofNat i) i := Idx.of (by rw [Int32.toInt_ofNat_of_lt (by omega)])
theorem own_lt {i j : Nat} (hi : i < 2147483648) (hj : j < 2147483648) : Int32.ofNat i < Int32.ofNat j ↔ i < j := by
  rw [Int32.lt_iff_toInt_lt, (own_idx hi).int, (own_idx hj).int]; omega
theorem own_sub {i j : Nat} (h : j ≤ i) (hi : i < 2147483648) : Int32.ofNat i - Int32.ofNat j = Int32.ofNat (i - j) := by
  apply Int32.toInt_inj.mp
  have a := c_isub (Int32.ofNat i) (Int32.ofNat j); have b := rng32 (Int32.ofNat i - Int32.ofNat j)
  have c := (own_idx hi).int; have d := (own_idx (show j < 2147483648 by omega)).int; have e := (own_idx (show i - j < 2147483648 by omega)).int
  omega
theorem own_at3 (x : Int32) : ∃ a : Nat, x &&& 3 = Int32.ofNat a ∧ a < 4 := by
  have a := c_mask x 3 2 (by decide) (by decide)
  refine ⟨(x &&& 3).toInt.toNat, Int32.toInt_inj.mp ?_, by omega⟩
  rw [(own_idx (by omega)).int]; omega
/-! the list behind i turns and at the end -/
def own_mid (N a i : Nat) (f : Int32) : List Value := (List.range 14).map fun k => .int (if a ≤ k ∧ k < a + i then own_hib (N / 2 ^ (7 * (k - a))) else f)
def own_end (N a L : Nat) (f : Int32) : List Value := (List.range 14).map fun k => .int (own_ex N a L f k)
theorem own_set {n j : Nat} {v : Value} (g : Nat → Value) : ((List.range n).map g).set j v = (List.range n).map (fun k => if k = j then v else g k) := by
  apply List.ext_getElem
  · simp
  · intro i h1 h2
    simp only [List.getElem_set, List.getElem_map, List.getElem_range]
    by_cases e : i = j
    · simp [e]
    · rw [if_neg (fun q => e q.symm), if_neg e]
theorem own_step {N a i : Nat} {f : Int32} (hi : i ≤ 9) : (own_mid N a i f).set (a + i) (.int (own_hib (N / 2 ^ (7 * i)))) = own_mid N a (i + 1) f := by
  unfold own_mid; rw [own_set]
  refine List.map_congr_left fun k _ => ?_
  by_cases e : k = a + i
  · subst e; rw [if_pos rfl, if_pos ⟨by omega, by omega⟩, show a + i - a = i by omega]
  · rw [if_neg e]
    by_cases q : a ≤ k ∧ k < a + i
    · rw [if_pos q, if_pos ⟨by omega, by omega⟩]
    · rw [if_neg q, if_neg (by omega)]
theorem own_dv (N i : Nat) : N / 2 ^ (7 * i) / 128 = N / 2 ^ (7 * i + 7) := by
  rw [Nat.div_div_eq_div_mul, Nat.pow_add]
theorem own_mono {N i j : Nat} (h : i ≤ j) (hj : N / 2 ^ (7 * j) ≠ 0) : N / 2 ^ (7 * i) ≠ 0 := fun q => hj (by
  have hp : 2 ^ (7 * i) ≤ 2 ^ (7 * j) := Nat.pow_le_pow_right (by decide) (by omega)
  have : N < 2 ^ (7 * i) := (Nat.div_eq_zero_iff.mp q).resolve_left (Nat.ne_of_gt (Nat.pow_pos (by decide)))
  exact Nat.div_eq_of_lt (by omega))
theorem own_fin {N a i : Nat} {f : Int32} (hi : i ≤ 9) (h1 : i = 0 ∨ N / 2 ^ (7 * i) ≠ 0) (h2 : N / 2 ^ (7 * i) / 128 = 0) : (own_mid N a i f).set (a + i) (.int (own_lob (N / 2 ^ (7 * i)))) = own_end N a (i + 1) f := by
  unfold own_mid own_end; rw [own_set]
  refine List.map_congr_left fun k _ => ?_
  unfold own_ex
  by_cases e : k = a + i
  · subst e
    rw [if_pos rfl, if_neg (by omega), show a + i - a = i by omega]
    unfold own_rb
    rw [if_neg (fun q => q.2 (by rw [← own_dv]; exact h2))]
  · rw [if_neg e]
    by_cases q : a ≤ k ∧ k < a + i
    · rw [if_pos q, if_neg (by omega)]
      unfold own_rb
      have hne := own_mono (N := N) (i := k - a + 1) (j := i) (by omega) (h1.resolve_left (by omega))
      rw [show 7 * (k - a + 1) = 7 * (k - a) + 7 by omega] at hne
      rw [if_pos ⟨by omega, hne⟩]
    · rw [if_neg q, if_pos (by omega)]
theorem own_lkE {N i : Nat} (h1 : i = 0 ∨ N / 2 ^ (7 * i) ≠ 0) (h2 : N / 2 ^ (7 * i) / 128 = 0) : ∀ k, i ≤ k → own_lk N k = i + 1
  | 0, h => by have : i = 0 := by omega
               subst this; rfl
  | k + 1, h => by
    by_cases e : i = k + 1
    · subst e
      show (if N / 2 ^ (7 * (k + 1)) = 0 then own_lk N k else k + 2) = _
      rw [if_neg (h1.resolve_left (by omega))]
    · have z : N / 2 ^ (7 * (k + 1)) = 0 := by
        rw [own_dv] at h2
        refine Classical.byContradiction fun q => ?_
        have := own_mono (N := N) (i := i + 1) (j := k + 1) (by omega) q
        rw [show 7 * (i + 1) = 7 * i + 7 by omega] at this
        exact this h2
      show (if N / 2 ^ (7 * (k + 1)) = 0 then own_lk N k else k + 2) = _
      rw [if_pos z]
      exact own_lkE h1 h2 k (by omega)
theorem own_getE {N a L k : Nat} {f : Int32} (hk : k < 14) : (own_end N a L f)[k]? = some (.int (own_ex N a L f k)) := by
  unfold own_end; rw [List.getElem?_map, List.getElem?_range hk]; rfl
theorem own_lk_le (N : Nat) : ∀ k, own_lk N k ≤ k + 1
  | 0 => Nat.le_refl _
  | k + 1 => by
    show (if N / 2 ^ (7 * (k + 1)) = 0 then own_lk N k else k + 2) ≤ _
    have := own_lk_le N k
    split <;> omega
theorem d1_0 : decode method_3_code 0 = .ok (.iconst 1, 1) := by decide +kernel
theorem d1_1 : decode method_3_code 1 = .ok (.istore_n 2, 1) := by decide +kernel
theorem d1_2 : decode method_3_code 2 = .ok (.lload_n 0, 1) := by decide +kernel
theorem d1_3 : decode method_3_code 3 = .ok (.bipush 7, 2) := by decide +kernel
theorem d1_5 : decode method_3_code 5 = .ok (.lushr, 1) := by decide +kernel
theorem d1_6 : decode method_3_code 6 = .ok (.lconst 0, 1) := by decide +kernel
theorem d1_7 : decode method_3_code 7 = .ok (.lcmp, 1) := by decide +kernel
theorem d1_8 : decode method_3_code 8 = .ok (.ifCond .eq 5, 3) := by decide +kernel
theorem d1_11 : decode method_3_code 11 = .ok (.iconst 2, 1) := by decide +kernel
theorem d1_12 : decode method_3_code 12 = .ok (.istore_n 2, 1) := by decide +kernel
theorem d1_13 : decode method_3_code 13 = .ok (.lload_n 0, 1) := by decide +kernel
theorem d1_14 : decode method_3_code 14 = .ok (.bipush 14, 2) := by decide +kernel
theorem d1_16 : decode method_3_code 16 = .ok (.lushr, 1) := by decide +kernel
theorem d1_17 : decode method_3_code 17 = .ok (.lconst 0, 1) := by decide +kernel
theorem d1_18 : decode method_3_code 18 = .ok (.lcmp, 1) := by decide +kernel
theorem d1_19 : decode method_3_code 19 = .ok (.ifCond .eq 5, 3) := by decide +kernel
theorem d1_22 : decode method_3_code 22 = .ok (.iconst 3, 1) := by decide +kernel
theorem d1_23 : decode method_3_code 23 = .ok (.istore_n 2, 1) := by decide +kernel
theorem d1_24 : decode method_3_code 24 = .ok (.lload_n 0, 1) := by decide +kernel
theorem d1_25 : decode method_3_code 25 = .ok (.bipush 21, 2) := by decide +kernel
theorem d1_27 : decode method_3_code 27 = .ok (.lushr, 1) := by decide +kernel
theorem d1_28 : decode method_3_code 28 = .ok (.lconst 0, 1) := by decide +kernel
theorem d1_29 : decode method_3_code 29 = .ok (.lcmp, 1) := by decide +kernel
theorem d1_30 : decode method_3_code 30 = .ok (.ifCond .eq 5, 3) := by decide +kernel
theorem d1_33 : decode method_3_code 33 = .ok (.iconst 4, 1) := by decide +kernel
theorem d1_34 : decode method_3_code 34 = .ok (.istore_n 2, 1) := by decide +kernel
theorem d1_35 : decode method_3_code 35 = .ok (.lload_n 0, 1) := by decide +kernel
theorem d1_36 : decode method_3_code 36 = .ok (.bipush 28, 2) := by decide +kernel
theorem d1_38 : decode method_3_code 38 = .ok (.lushr, 1) := by decide +kernel
theorem d1_39 : decode method_3_code 39 = .ok (.lconst 0, 1) := by decide +kernel
theorem d1_40 : decode method_3_code 40 = .ok (.lcmp, 1) := by decide +kernel
theorem d1_41 : decode method_3_code 41 = .ok (.ifCond .eq 5, 3) := by decide +kernel
theorem d1_44 : decode method_3_code 44 = .ok (.iconst 5, 1) := by decide +kernel
theorem d1_45 : decode method_3_code 45 = .ok (.istore_n 2, 1) := by decide +kernel
theorem d1_46 : decode method_3_code 46 = .ok (.lload_n 0, 1) := by decide +kernel
theorem d1_47 : decode method_3_code 47 = .ok (.bipush 35, 2) := by decide +kernel
theorem d1_49 : decode method_3_code 49 = .ok (.lushr, 1) := by decide +kernel
theorem d1_50 : decode method_3_code 50 = .ok (.lconst 0, 1) := by decide +kernel
theorem d1_51 : decode method_3_code 51 = .ok (.lcmp, 1) := by decide +kernel
theorem d1_52 : decode method_3_code 52 = .ok (.ifCond .eq 6, 3) := by decide +kernel
theorem d1_55 : decode method_3_code 55 = .ok (.bipush 6, 2) := by decide +kernel
theorem d1_57 : decode method_3_code 57 = .ok (.istore_n 2, 1) := by decide +kernel
theorem d1_58 : decode method_3_code 58 = .ok (.lload_n 0, 1) := by decide +kernel
theorem d1_59 : decode method_3_code 59 = .ok (.bipush 42, 2) := by decide +kernel
theorem d1_61 : decode method_3_code 61 = .ok (.lushr, 1) := by decide +kernel
theorem d1_62 : decode method_3_code 62 = .ok (.lconst 0, 1) := by decide +kernel
theorem d1_63 : decode method_3_code 63 = .ok (.lcmp, 1) := by decide +kernel
theorem d1_64 : decode method_3_code 64 = .ok (.ifCond .eq 6, 3) := by decide +kernel
theorem d1_67 : decode method_3_code 67 = .ok (.bipush 7, 2) := by decide +kernel
theorem d1_69 : decode method_3_code 69 = .ok (.istore_n 2, 1) := by decide +kernel
theorem d1_70 : decode method_3_code 70 = .ok (.lload_n 0, 1) := by decide +kernel
theorem d1_71 : decode method_3_code 71 = .ok (.bipush 49, 2) := by decide +kernel
theorem d1_73 : decode method_3_code 73 = .ok (.lushr, 1) := by decide +kernel
theorem d1_74 : decode method_3_code 74 = .ok (.lconst 0, 1) := by decide +kernel
theorem d1_75 : decode method_3_code 75 = .ok (.lcmp, 1) := by decide +kernel
theorem d1_76 : decode method_3_code 76 = .ok (.ifCond .eq 6, 3) := by decide +kernel
theorem d1_79 : decode method_3_code 79 = .ok (.bipush 8, 2) := by decide +kernel
theorem d1_81 : decode method_3_code 81 = .ok (.istore_n 2, 1) := by decide +kernel
theorem d1_82 : decode method_3_code 82 = .ok (.lload_n 0, 1) := by decide +kernel
theorem d1_83 : decode method_3_code 83 = .ok (.bipush 56, 2) := by decide +kernel
theorem d1_85 : decode method_3_code 85 = .ok (.lushr, 1) := by decide +kernel
theorem d1_86 : decode method_3_code 86 = .ok (.lconst 0, 1) := by decide +kernel
theorem d1_87 : decode method_3_code 87 = .ok (.lcmp, 1) := by decide +kernel
theorem d1_88 : decode method_3_code 88 = .ok (.ifCond .eq 6, 3) := by decide +kernel
theorem d1_91 : decode method_3_code 91 = .ok (.bipush 9, 2) := by decide +kernel
theorem d1_93 : decode method_3_code 93 = .ok (.istore_n 2, 1) := by decide +kernel
theorem d1_94 : decode method_3_code 94 = .ok (.lload_n 0, 1) := by decide +kernel
theorem d1_95 : decode method_3_code 95 = .ok (.bipush 63, 2) := by decide +kernel
theorem d1_97 : decode method_3_code 97 = .ok (.lushr, 1) := by decide +kernel
theorem d1_98 : decode method_3_code 98 = .ok (.lconst 0, 1) := by decide +kernel
theorem d1_99 : decode method_3_code 99 = .ok (.lcmp, 1) := by decide +kernel
theorem d1_100 : decode method_3_code 100 = .ok (.ifCond .eq 6, 3) := by decide +kernel
theorem d1_103 : decode method_3_code 103 = .ok (.bipush 10, 2) := by decide +kernel
theorem d1_105 : decode method_3_code 105 = .ok (.istore_n 2, 1) := by decide +kernel
theorem d1_106 : decode method_3_code 106 = .ok (.iload_n 2, 1) := by decide +kernel
theorem d1_107 : decode method_3_code 107 = .ok (.ireturn, 1) := by decide +kernel
theorem d2_0 : decode prog_195_method_3_code 0 = .ok (.iload_n 1, 1) := by decide +kernel
theorem d2_1 : decode prog_195_method_3_code 1 = .ok (.istore 4, 2) := by decide +kernel
theorem d2_3 : decode prog_195_method_3_code 3 = .ok (.lload_n 2, 1) := by decide +kernel
theorem d2_4 : decode prog_195_method_3_code 4 = .ok (.lstore 5, 2) := by decide +kernel
theorem d2_6 : decode prog_195_method_3_code 6 = .ok (.lload 5, 2) := by decide +kernel
theorem d2_8 : decode prog_195_method_3_code 8 = .ok (.ldc2_w 7, 3) := by decide +kernel
theorem d2_11 : decode prog_195_method_3_code 11 = .ok (.land, 1) := by decide +kernel
theorem d2_12 : decode prog_195_method_3_code 12 = .ok (.lconst 0, 1) := by decide +kernel
theorem d2_13 : decode prog_195_method_3_code 13 = .ok (.lcmp, 1) := by decide +kernel
theorem d2_14 : decode prog_195_method_3_code 14 = .ok (.ifCond .eq 32, 3) := by decide +kernel
theorem d2_17 : decode prog_195_method_3_code 17 = .ok (.aload_n 0, 1) := by decide +kernel
theorem d2_18 : decode prog_195_method_3_code 18 = .ok (.iload 4, 2) := by decide +kernel
theorem d2_20 : decode prog_195_method_3_code 20 = .ok (.iinc 4 1, 3) := by decide +kernel
theorem d2_23 : decode prog_195_method_3_code 23 = .ok (.lload 5, 2) := by decide +kernel
theorem d2_25 : decode prog_195_method_3_code 25 = .ok (.ldc2_w 9, 3) := by decide +kernel
theorem d2_28 : decode prog_195_method_3_code 28 = .ok (.land, 1) := by decide +kernel
theorem d2_29 : decode prog_195_method_3_code 29 = .ok (.ldc2_w 11, 3) := by decide +kernel
theorem d2_32 : decode prog_195_method_3_code 32 = .ok (.lor, 1) := by decide +kernel
theorem d2_33 : decode prog_195_method_3_code 33 = .ok (.l2i, 1) := by decide +kernel
theorem d2_34 : decode prog_195_method_3_code 34 = .ok (.i2b, 1) := by decide +kernel
theorem d2_35 : decode prog_195_method_3_code 35 = .ok (.bastore, 1) := by decide +kernel
theorem d2_36 : decode prog_195_method_3_code 36 = .ok (.lload 5, 2) := by decide +kernel
theorem d2_38 : decode prog_195_method_3_code 38 = .ok (.bipush 7, 2) := by decide +kernel
theorem d2_40 : decode prog_195_method_3_code 40 = .ok (.lushr, 1) := by decide +kernel
theorem d2_41 : decode prog_195_method_3_code 41 = .ok (.lstore 5, 2) := by decide +kernel
theorem d2_43 : decode prog_195_method_3_code 43 = .ok (.goto (-37), 3) := by decide +kernel
theorem d2_46 : decode prog_195_method_3_code 46 = .ok (.aload_n 0, 1) := by decide +kernel
theorem d2_47 : decode prog_195_method_3_code 47 = .ok (.iload 4, 2) := by decide +kernel
theorem d2_49 : decode prog_195_method_3_code 49 = .ok (.iinc 4 1, 3) := by decide +kernel
theorem d2_52 : decode prog_195_method_3_code 52 = .ok (.lload 5, 2) := by decide +kernel
theorem d2_54 : decode prog_195_method_3_code 54 = .ok (.l2i, 1) := by decide +kernel
theorem d2_55 : decode prog_195_method_3_code 55 = .ok (.i2b, 1) := by decide +kernel
theorem d2_56 : decode prog_195_method_3_code 56 = .ok (.bastore, 1) := by decide +kernel
theorem d2_57 : decode prog_195_method_3_code 57 = .ok (.iload 4, 2) := by decide +kernel
theorem d2_59 : decode prog_195_method_3_code 59 = .ok (.ireturn, 1) := by decide +kernel
theorem d3_0 : decode method_4_code 0 = .ok (.iload_n 1, 1) := by decide +kernel
theorem d3_1 : decode method_4_code 1 = .ok (.iload_n 2, 1) := by decide +kernel
theorem d3_2 : decode method_4_code 2 = .ok (.if_icmp .lt 10, 3) := by decide +kernel
theorem d3_5 : decode method_4_code 5 = .ok (.iload_n 1, 1) := by decide +kernel
theorem d3_6 : decode method_4_code 6 = .ok (.iload_n 2, 1) := by decide +kernel
theorem d3_7 : decode method_4_code 7 = .ok (.iload_n 3, 1) := by decide +kernel
theorem d3_8 : decode method_4_code 8 = .ok (.iadd, 1) := by decide +kernel
theorem d3_9 : decode method_4_code 9 = .ok (.if_icmp .lt 10, 3) := by decide +kernel
theorem d3_12 : decode method_4_code 12 = .ok (.iload 6, 2) := by decide +kernel
theorem d3_14 : decode method_4_code 14 = .ok (.istore 7, 2) := by decide +kernel
theorem d3_16 : decode method_4_code 16 = .ok (.goto 13, 3) := by decide +kernel
theorem d3_19 : decode method_4_code 19 = .ok (.lload 4, 2) := by decide +kernel
theorem d3_21 : decode method_4_code 21 = .ok (.iload_n 1, 1) := by decide +kernel
theorem d3_22 : decode method_4_code 22 = .ok (.iload_n 2, 1) := by decide +kernel
theorem d3_23 : decode method_4_code 23 = .ok (.isub, 1) := by decide +kernel
theorem d3_24 : decode method_4_code 24 = .ok (.invokestatic 23, 3) := by decide +kernel
theorem d3_27 : decode method_4_code 27 = .ok (.istore 7, 2) := by decide +kernel
theorem d3_29 : decode method_4_code 29 = .ok (.aload_n 0, 1) := by decide +kernel
theorem d3_30 : decode method_4_code 30 = .ok (.iload_n 1, 1) := by decide +kernel
theorem d3_31 : decode method_4_code 31 = .ok (.baload, 1) := by decide +kernel
theorem d3_32 : decode method_4_code 32 = .ok (.iload 7, 2) := by decide +kernel
theorem d3_34 : decode method_4_code 34 = .ok (.if_icmp .ne 7, 3) := by decide +kernel
theorem d3_37 : decode method_4_code 37 = .ok (.iconst 1, 1) := by decide +kernel
theorem d3_38 : decode method_4_code 38 = .ok (.goto 4, 3) := by decide +kernel
theorem d3_41 : decode method_4_code 41 = .ok (.iconst 0, 1) := by decide +kernel
theorem d3_42 : decode method_4_code 42 = .ok (.ireturn, 1) := by decide +kernel
theorem d4_0 : decode method_5_code 0 = .ok (.lload_n 0, 1) := by decide +kernel
theorem d4_1 : decode method_5_code 1 = .ok (.bipush 7, 2) := by decide +kernel
theorem d4_3 : decode method_5_code 3 = .ok (.iload_n 2, 1) := by decide +kernel
theorem d4_4 : decode method_5_code 4 = .ok (.imul, 1) := by decide +kernel
theorem d4_5 : decode method_5_code 5 = .ok (.lushr, 1) := by decide +kernel
theorem d4_6 : decode method_5_code 6 = .ok (.ldc2_w 27, 3) := by decide +kernel
theorem d4_9 : decode method_5_code 9 = .ok (.land, 1) := by decide +kernel
theorem d4_10 : decode method_5_code 10 = .ok (.l2i, 1) := by decide +kernel
theorem d4_11 : decode method_5_code 11 = .ok (.istore_n 3, 1) := by decide +kernel
theorem d4_12 : decode method_5_code 12 = .ok (.iload_n 2, 1) := by decide +kernel
theorem d4_13 : decode method_5_code 13 = .ok (.bipush 9, 2) := by decide +kernel
theorem d4_15 : decode method_5_code 15 = .ok (.if_icmp .ge 21, 3) := by decide +kernel
theorem d4_18 : decode method_5_code 18 = .ok (.lload_n 0, 1) := by decide +kernel
theorem d4_19 : decode method_5_code 19 = .ok (.bipush 7, 2) := by decide +kernel
theorem d4_21 : decode method_5_code 21 = .ok (.iload_n 2, 1) := by decide +kernel
theorem d4_22 : decode method_5_code 22 = .ok (.imul, 1) := by decide +kernel
theorem d4_23 : decode method_5_code 23 = .ok (.bipush 7, 2) := by decide +kernel
theorem d4_25 : decode method_5_code 25 = .ok (.iadd, 1) := by decide +kernel
theorem d4_26 : decode method_5_code 26 = .ok (.lushr, 1) := by decide +kernel
theorem d4_27 : decode method_5_code 27 = .ok (.lconst 0, 1) := by decide +kernel
theorem d4_28 : decode method_5_code 28 = .ok (.lcmp, 1) := by decide +kernel
theorem d4_29 : decode method_5_code 29 = .ok (.ifCond .eq 7, 3) := by decide +kernel
theorem d4_32 : decode method_5_code 32 = .ok (.iconst 1, 1) := by decide +kernel
theorem d4_33 : decode method_5_code 33 = .ok (.goto 4, 3) := by decide +kernel
theorem d4_36 : decode method_5_code 36 = .ok (.iconst 0, 1) := by decide +kernel
theorem d4_37 : decode method_5_code 37 = .ok (.istore 4, 2) := by decide +kernel
theorem d4_39 : decode method_5_code 39 = .ok (.iload 4, 2) := by decide +kernel
theorem d4_41 : decode method_5_code 41 = .ok (.ifCond .eq 10, 3) := by decide +kernel
theorem d4_44 : decode method_5_code 44 = .ok (.iload_n 3, 1) := by decide +kernel
theorem d4_45 : decode method_5_code 45 = .ok (.sipush 128, 3) := by decide +kernel
theorem d4_48 : decode method_5_code 48 = .ok (.ior, 1) := by decide +kernel
theorem d4_49 : decode method_5_code 49 = .ok (.i2b, 1) := by decide +kernel
theorem d4_50 : decode method_5_code 50 = .ok (.ireturn, 1) := by decide +kernel
theorem d4_51 : decode method_5_code 51 = .ok (.iload_n 3, 1) := by decide +kernel
theorem d4_52 : decode method_5_code 52 = .ok (.i2b, 1) := by decide +kernel
theorem d4_53 : decode method_5_code 53 = .ok (.ireturn, 1) := by decide +kernel
theorem pd_0 : parseMethodDescriptor "(JI)B" = some ⟨[.long, .int], some .byte⟩ := by decide +kernel
theorem pd_1 : parseMethodDescriptor "(J)I" = some ⟨[.long], some .int⟩ := by decide +kernel
theorem pd_2 : parseMethodDescriptor "([BIJ)I" = some ⟨[(.array .byte), .int, .long], some .int⟩ := by decide +kernel
theorem pd_3 : parseMethodDescriptor "([BIIIJB)Z" = some ⟨[(.array .byte), .int, .int, .int, .long, .byte], some .boolean⟩ := by decide +kernel
set_option maxRecDepth 65536 in
set_option maxHeartbeats 4000000 in
theorem c_len (l : Launch) (Z : State) (a0 : Array Value) (hw : ∀ d ∈ tables_1, d.before a0 Z = true) (wl : List Jvm.Cond) (n0 : Nat) (h : Heap) (w : Int64) :
    Ctr l Z (⟨"com/example/slotwright/slotwright/formats/PackedNumbersWritePinLaw", "refLength", "(J)I"⟩ : MethodName) method_3_code 3 (some .int) ({ frames := 0, cells := 0, slots := 0, locals := 0 } : Room) n0 #[(.long w)] h (fun v h' => v = some (.int (Int32.ofNat (own_lk (own_n w) 9))) ∧ h' = h) wl := by
  refine Ctr.of (ls := #[.val (.long w), .second, .unset]) (by first | (exact plainFor_of_name (by first | (simp [plainName, overriddenIn]; done) | decide +kernel)) | decide +kernel) hw (fun m => entry_eq m (L1 := [.val (.long w), .second]) (k := 1) rfl rfl rfl) (fun G C => ?_)
  refine C.iconst d1_0 (v := 1) rfl (pc' := 1) rfl ?_
  refine C.istoreN d1_1 (ls' := #[.val (.long w), .second, .val (.int (1 : Int32))]) rfl (pc' := 2) rfl ?_
  refine C.lloadN d1_2 rfl (pc' := 3) rfl ?_
  refine C.bipush d1_3 (v := 7) rfl (pc' := 5) rfl ?_
  refine C.lushr d1_5 (pc' := 6) rfl ?_
  refine C.lconst d1_6 (v := 0) rfl (pc' := 7) rfl ?_
  refine C.lcmp d1_7 (pc' := 8) rfl ?_
  suffices t13 : G h 0 0 13 #[.val (.long w), .second, .val (.int (Int32.ofNat (own_lk (own_n w) 1)))] [] by
    refine C.if_eq d1_8 (by decide) (pc1 := 13) rfl (pc2 := 11) rfl (fun hc => ?_) (fun hc => ?_)
    · have z : own_n w / 2 ^ (7 * (0 + 1)) = 0 := by have q := (own_zero _).mp (cmpL_eq.mp hc); rw [(own_ushr w 7 7 (by decide))] at q; exact q
      rw [show own_lk (own_n w) 1 = own_lk (own_n w) 0 from if_pos z] at t13
      exact t13
    · have z : ¬ own_n w / 2 ^ (7 * (0 + 1)) = 0 := fun q => hc (cmpL_eq.mpr ((own_zero _).mpr (by rw [(own_ushr w 7 7 (by decide))]; exact q)))
      refine C.iconst d1_11 (v := 2) rfl (pc' := 12) rfl ?_
      refine C.istoreN d1_12 (ls' := #[.val (.long w), .second, .val (.int (2 : Int32))]) rfl (pc' := 13) rfl ?_
      rw [show own_lk (own_n w) 1 = 2 from if_neg z] at t13
      exact t13
  refine C.lloadN d1_13 rfl (pc' := 14) rfl ?_
  refine C.bipush d1_14 (v := 14) rfl (pc' := 16) rfl ?_
  refine C.lushr d1_16 (pc' := 17) rfl ?_
  refine C.lconst d1_17 (v := 0) rfl (pc' := 18) rfl ?_
  refine C.lcmp d1_18 (pc' := 19) rfl ?_
  suffices t24 : G h 0 0 24 #[.val (.long w), .second, .val (.int (Int32.ofNat (own_lk (own_n w) 2)))] [] by
    refine C.if_eq d1_19 (by decide) (pc1 := 24) rfl (pc2 := 22) rfl (fun hc => ?_) (fun hc => ?_)
    · have z : own_n w / 2 ^ (7 * (1 + 1)) = 0 := by have q := (own_zero _).mp (cmpL_eq.mp hc); rw [(own_ushr w 14 14 (by decide))] at q; exact q
      rw [show own_lk (own_n w) 2 = own_lk (own_n w) 1 from if_pos z] at t24
      exact t24
    · have z : ¬ own_n w / 2 ^ (7 * (1 + 1)) = 0 := fun q => hc (cmpL_eq.mpr ((own_zero _).mpr (by rw [(own_ushr w 14 14 (by decide))]; exact q)))
      refine C.iconst d1_22 (v := 3) rfl (pc' := 23) rfl ?_
      refine C.istoreN d1_23 (ls' := #[.val (.long w), .second, .val (.int (3 : Int32))]) rfl (pc' := 24) rfl ?_
      rw [show own_lk (own_n w) 2 = 3 from if_neg z] at t24
      exact t24
  refine C.lloadN d1_24 rfl (pc' := 25) rfl ?_
  refine C.bipush d1_25 (v := 21) rfl (pc' := 27) rfl ?_
  refine C.lushr d1_27 (pc' := 28) rfl ?_
  refine C.lconst d1_28 (v := 0) rfl (pc' := 29) rfl ?_
  refine C.lcmp d1_29 (pc' := 30) rfl ?_
  suffices t35 : G h 0 0 35 #[.val (.long w), .second, .val (.int (Int32.ofNat (own_lk (own_n w) 3)))] [] by
    refine C.if_eq d1_30 (by decide) (pc1 := 35) rfl (pc2 := 33) rfl (fun hc => ?_) (fun hc => ?_)
    · have z : own_n w / 2 ^ (7 * (2 + 1)) = 0 := by have q := (own_zero _).mp (cmpL_eq.mp hc); rw [(own_ushr w 21 21 (by decide))] at q; exact q
      rw [show own_lk (own_n w) 3 = own_lk (own_n w) 2 from if_pos z] at t35
      exact t35
    · have z : ¬ own_n w / 2 ^ (7 * (2 + 1)) = 0 := fun q => hc (cmpL_eq.mpr ((own_zero _).mpr (by rw [(own_ushr w 21 21 (by decide))]; exact q)))
      refine C.iconst d1_33 (v := 4) rfl (pc' := 34) rfl ?_
      refine C.istoreN d1_34 (ls' := #[.val (.long w), .second, .val (.int (4 : Int32))]) rfl (pc' := 35) rfl ?_
      rw [show own_lk (own_n w) 3 = 4 from if_neg z] at t35
      exact t35
  refine C.lloadN d1_35 rfl (pc' := 36) rfl ?_
  refine C.bipush d1_36 (v := 28) rfl (pc' := 38) rfl ?_
  refine C.lushr d1_38 (pc' := 39) rfl ?_
  refine C.lconst d1_39 (v := 0) rfl (pc' := 40) rfl ?_
  refine C.lcmp d1_40 (pc' := 41) rfl ?_
  suffices t46 : G h 0 0 46 #[.val (.long w), .second, .val (.int (Int32.ofNat (own_lk (own_n w) 4)))] [] by
    refine C.if_eq d1_41 (by decide) (pc1 := 46) rfl (pc2 := 44) rfl (fun hc => ?_) (fun hc => ?_)
    · have z : own_n w / 2 ^ (7 * (3 + 1)) = 0 := by have q := (own_zero _).mp (cmpL_eq.mp hc); rw [(own_ushr w 28 28 (by decide))] at q; exact q
      rw [show own_lk (own_n w) 4 = own_lk (own_n w) 3 from if_pos z] at t46
      exact t46
    · have z : ¬ own_n w / 2 ^ (7 * (3 + 1)) = 0 := fun q => hc (cmpL_eq.mpr ((own_zero _).mpr (by rw [(own_ushr w 28 28 (by decide))]; exact q)))
      refine C.iconst d1_44 (v := 5) rfl (pc' := 45) rfl ?_
      refine C.istoreN d1_45 (ls' := #[.val (.long w), .second, .val (.int (5 : Int32))]) rfl (pc' := 46) rfl ?_
      rw [show own_lk (own_n w) 4 = 5 from if_neg z] at t46
      exact t46
  refine C.lloadN d1_46 rfl (pc' := 47) rfl ?_
  refine C.bipush d1_47 (v := 35) rfl (pc' := 49) rfl ?_
  refine C.lushr d1_49 (pc' := 50) rfl ?_
  refine C.lconst d1_50 (v := 0) rfl (pc' := 51) rfl ?_
  refine C.lcmp d1_51 (pc' := 52) rfl ?_
  suffices t58 : G h 0 0 58 #[.val (.long w), .second, .val (.int (Int32.ofNat (own_lk (own_n w) 5)))] [] by
    refine C.if_eq d1_52 (by decide) (pc1 := 58) rfl (pc2 := 55) rfl (fun hc => ?_) (fun hc => ?_)
    · have z : own_n w / 2 ^ (7 * (4 + 1)) = 0 := by have q := (own_zero _).mp (cmpL_eq.mp hc); rw [(own_ushr w 35 35 (by decide))] at q; exact q
      rw [show own_lk (own_n w) 5 = own_lk (own_n w) 4 from if_pos z] at t58
      exact t58
    · have z : ¬ own_n w / 2 ^ (7 * (4 + 1)) = 0 := fun q => hc (cmpL_eq.mpr ((own_zero _).mpr (by rw [(own_ushr w 35 35 (by decide))]; exact q)))
      refine C.bipush d1_55 (v := 6) rfl (pc' := 57) rfl ?_
      refine C.istoreN d1_57 (ls' := #[.val (.long w), .second, .val (.int (6 : Int32))]) rfl (pc' := 58) rfl ?_
      rw [show own_lk (own_n w) 5 = 6 from if_neg z] at t58
      exact t58
  refine C.lloadN d1_58 rfl (pc' := 59) rfl ?_
  refine C.bipush d1_59 (v := 42) rfl (pc' := 61) rfl ?_
  refine C.lushr d1_61 (pc' := 62) rfl ?_
  refine C.lconst d1_62 (v := 0) rfl (pc' := 63) rfl ?_
  refine C.lcmp d1_63 (pc' := 64) rfl ?_
  suffices t70 : G h 0 0 70 #[.val (.long w), .second, .val (.int (Int32.ofNat (own_lk (own_n w) 6)))] [] by
    refine C.if_eq d1_64 (by decide) (pc1 := 70) rfl (pc2 := 67) rfl (fun hc => ?_) (fun hc => ?_)
    · have z : own_n w / 2 ^ (7 * (5 + 1)) = 0 := by have q := (own_zero _).mp (cmpL_eq.mp hc); rw [(own_ushr w 42 42 (by decide))] at q; exact q
      rw [show own_lk (own_n w) 6 = own_lk (own_n w) 5 from if_pos z] at t70
      exact t70
    · have z : ¬ own_n w / 2 ^ (7 * (5 + 1)) = 0 := fun q => hc (cmpL_eq.mpr ((own_zero _).mpr (by rw [(own_ushr w 42 42 (by decide))]; exact q)))
      refine C.bipush d1_67 (v := 7) rfl (pc' := 69) rfl ?_
      refine C.istoreN d1_69 (ls' := #[.val (.long w), .second, .val (.int (7 : Int32))]) rfl (pc' := 70) rfl ?_
      rw [show own_lk (own_n w) 6 = 7 from if_neg z] at t70
      exact t70
  refine C.lloadN d1_70 rfl (pc' := 71) rfl ?_
  refine C.bipush d1_71 (v := 49) rfl (pc' := 73) rfl ?_
  refine C.lushr d1_73 (pc' := 74) rfl ?_
  refine C.lconst d1_74 (v := 0) rfl (pc' := 75) rfl ?_
  refine C.lcmp d1_75 (pc' := 76) rfl ?_
  suffices t82 : G h 0 0 82 #[.val (.long w), .second, .val (.int (Int32.ofNat (own_lk (own_n w) 7)))] [] by
    refine C.if_eq d1_76 (by decide) (pc1 := 82) rfl (pc2 := 79) rfl (fun hc => ?_) (fun hc => ?_)
    · have z : own_n w / 2 ^ (7 * (6 + 1)) = 0 := by have q := (own_zero _).mp (cmpL_eq.mp hc); rw [(own_ushr w 49 49 (by decide))] at q; exact q
      rw [show own_lk (own_n w) 7 = own_lk (own_n w) 6 from if_pos z] at t82
      exact t82
    · have z : ¬ own_n w / 2 ^ (7 * (6 + 1)) = 0 := fun q => hc (cmpL_eq.mpr ((own_zero _).mpr (by rw [(own_ushr w 49 49 (by decide))]; exact q)))
      refine C.bipush d1_79 (v := 8) rfl (pc' := 81) rfl ?_
      refine C.istoreN d1_81 (ls' := #[.val (.long w), .second, .val (.int (8 : Int32))]) rfl (pc' := 82) rfl ?_
      rw [show own_lk (own_n w) 7 = 8 from if_neg z] at t82
      exact t82
  refine C.lloadN d1_82 rfl (pc' := 83) rfl ?_
  refine C.bipush d1_83 (v := 56) rfl (pc' := 85) rfl ?_
  refine C.lushr d1_85 (pc' := 86) rfl ?_
  refine C.lconst d1_86 (v := 0) rfl (pc' := 87) rfl ?_
  refine C.lcmp d1_87 (pc' := 88) rfl ?_
  suffices t94 : G h 0 0 94 #[.val (.long w), .second, .val (.int (Int32.ofNat (own_lk (own_n w) 8)))] [] by
    refine C.if_eq d1_88 (by decide) (pc1 := 94) rfl (pc2 := 91) rfl (fun hc => ?_) (fun hc => ?_)
    · have z : own_n w / 2 ^ (7 * (7 + 1)) = 0 := by have q := (own_zero _).mp (cmpL_eq.mp hc); rw [(own_ushr w 56 56 (by decide))] at q; exact q
      rw [show own_lk (own_n w) 8 = own_lk (own_n w) 7 from if_pos z] at t94
      exact t94
    · have z : ¬ own_n w / 2 ^ (7 * (7 + 1)) = 0 := fun q => hc (cmpL_eq.mpr ((own_zero _).mpr (by rw [(own_ushr w 56 56 (by decide))]; exact q)))
      refine C.bipush d1_91 (v := 9) rfl (pc' := 93) rfl ?_
      refine C.istoreN d1_93 (ls' := #[.val (.long w), .second, .val (.int (9 : Int32))]) rfl (pc' := 94) rfl ?_
      rw [show own_lk (own_n w) 8 = 9 from if_neg z] at t94
      exact t94
  refine C.lloadN d1_94 rfl (pc' := 95) rfl ?_
  refine C.bipush d1_95 (v := 63) rfl (pc' := 97) rfl ?_
  refine C.lushr d1_97 (pc' := 98) rfl ?_
  refine C.lconst d1_98 (v := 0) rfl (pc' := 99) rfl ?_
  refine C.lcmp d1_99 (pc' := 100) rfl ?_
  suffices t106 : G h 0 0 106 #[.val (.long w), .second, .val (.int (Int32.ofNat (own_lk (own_n w) 9)))] [] by
    refine C.if_eq d1_100 (by decide) (pc1 := 106) rfl (pc2 := 103) rfl (fun hc => ?_) (fun hc => ?_)
    · have z : own_n w / 2 ^ (7 * (8 + 1)) = 0 := by have q := (own_zero _).mp (cmpL_eq.mp hc); rw [(own_ushr w 63 63 (by decide))] at q; exact q
      rw [show own_lk (own_n w) 9 = own_lk (own_n w) 8 from if_pos z] at t106
      exact t106
    · have z : ¬ own_n w / 2 ^ (7 * (8 + 1)) = 0 := fun q => hc (cmpL_eq.mpr ((own_zero _).mpr (by rw [(own_ushr w 63 63 (by decide))]; exact q)))
      refine C.bipush d1_103 (v := 10) rfl (pc' := 105) rfl ?_
      refine C.istoreN d1_105 (ls' := #[.val (.long w), .second, .val (.int (10 : Int32))]) rfl (pc' := 106) rfl ?_
      rw [show own_lk (own_n w) 9 = 10 from if_neg z] at t106
      exact t106
  refine C.iloadN d1_106 rfl (pc' := 107) rfl ?_
  exact C.ireturn d1_107 rfl (by decide) (by decide) ⟨rfl, rfl⟩
set_option maxRecDepth 65536 in
set_option maxHeartbeats 4000000 in
theorem c_rb (l : Launch) (Z : State) (a0 : Array Value) (hw : ∀ d ∈ tables_1, d.before a0 Z = true) (wl : List Jvm.Cond) (n0 : Nat) (h : Heap) (w : Int64) (i : Nat) (hi : i < 10) :
    Ctr l Z (⟨"com/example/slotwright/slotwright/formats/PackedNumbersWritePinLaw", "refByte", "(JI)B"⟩ : MethodName) method_5_code 5 (some .byte) ({ frames := 0, cells := 0, slots := 0, locals := 0 } : Room) n0 #[(.long w), (.int (Int32.ofNat i))] h (fun v h' => v = some (.int (own_rb (own_n w) i)) ∧ h' = h) wl := by
  refine Ctr.of (ls := #[.val (.long w), .second, .val (.int (Int32.ofNat i)), .unset, .unset]) (by first | (exact plainFor_of_name (by first | (simp [plainName, overriddenIn]; done) | decide +kernel)) | decide +kernel) hw (fun m => entry_eq m (L1 := [.val (.long w), .second, .val (.int (Int32.ofNat i))]) (k := 2) rfl rfl rfl) (fun G C => ?_)
  refine C.lloadN d4_0 rfl (pc' := 1) rfl ?_
  refine C.bipush d4_1 (v := 7) rfl (pc' := 3) rfl ?_
  refine C.iloadN d4_3 rfl (pc' := 4) rfl ?_
  refine C.imul d4_4 (pc' := 5) rfl ?_
  refine C.lushr d4_5 (pc' := 6) rfl ?_
  refine C.ldcJ (i := 16) rfl d4_6 (pc' := 9) rfl ?_
  refine C.land d4_9 (pc' := 10) rfl ?_
  refine C.l2i d4_10 (pc' := 11) rfl ?_
  generalize hL : (XT.ushrL w (7 * (Int32.ofNat i)) &&& 127).toInt32 = low
  have L := own_low (XT.ushrL w (7 * (Int32.ofNat i)))
  rw [hL, own_ushr w _ (7 * i) (own_sh9 ⟨i, hi⟩)] at L
  refine C.istoreN d4_11 (ls' := #[.val (.long w), .second, .val (.int (Int32.ofNat i)), .val (.int low), .unset]) rfl (pc' := 12) rfl ?_
  refine C.iloadN d4_12 rfl (pc' := 13) rfl ?_
  refine C.bipush d4_13 (v := 9) rfl (pc' := 15) rfl ?_
  suffices t37 : ∀ q : Bool, (q = decide (i < 9 ∧ own_n w / 2 ^ (7 * i + 7) ≠ 0)) → G h 0 0 37 #[.val (.long w), .second, .val (.int (Int32.ofNat i)), .val (.int low), .unset] [(.int (b2i q))] by
    refine C.icmp_ge d4_15 (by decide) (pc1 := 36) rfl (pc2 := 18) rfl (fun h1 => ?_) (fun h1 => ?_)
    · refine C.iconst d4_36 (v := 0) rfl (pc' := 37) rfl ?_
      exact t37 false (by rw [decide_eq_false]; exact fun q => h1 ((own_lt (i := i) (j := 9) (by omega) (by decide)).mpr q.1))
    · have h1' : i < 9 := (own_lt (i := i) (j := 9) (by omega) (by decide)).mp h1
      refine C.lloadN d4_18 rfl (pc' := 19) rfl ?_
      refine C.bipush d4_19 (v := 7) rfl (pc' := 21) rfl ?_
      refine C.iloadN d4_21 rfl (pc' := 22) rfl ?_
      refine C.imul d4_22 (pc' := 23) rfl ?_
      refine C.bipush d4_23 (v := 7) rfl (pc' := 25) rfl ?_
      refine C.iadd d4_25 (pc' := 26) rfl ?_
      refine C.lushr d4_26 (pc' := 27) rfl ?_
      refine C.lconst d4_27 (v := 0) rfl (pc' := 28) rfl ?_
      refine C.lcmp d4_28 (pc' := 29) rfl ?_
      refine C.if_eq d4_29 (by decide) (pc1 := 36) rfl (pc2 := 32) rfl (fun h2 => ?_) (fun h2 => ?_)
      · refine C.iconst d4_36 (v := 0) rfl (pc' := 37) rfl ?_
        exact t37 false (by rw [decide_eq_false]; exact fun q => q.2 (by have z := (own_zero _).mp (cmpL_eq.mp h2); rw [(own_ushr w _ (7 * i + 7) (own_sh8 ⟨i, h1'⟩))] at z; exact z))
      · refine C.iconst d4_32 (v := 1) rfl (pc' := 33) rfl ?_
        refine C.goto d4_33 (by decide) (pc' := 37) rfl ?_
        exact t37 true (by rw [decide_eq_true]; exact ⟨h1', fun q => h2 (cmpL_eq.mpr ((own_zero _).mpr (by rw [(own_ushr w _ (7 * i + 7) (own_sh8 ⟨i, h1'⟩))]; exact q)))⟩)
  intro q hq
  refine C.istore d4_37 (ls' := #[.val (.long w), .second, .val (.int (Int32.ofNat i)), .val (.int low), .val (.int (b2i q))]) rfl (pc' := 39) rfl ?_
  refine C.iload d4_39 rfl (pc' := 41) rfl ?_
  refine C.if_eq d4_41 (by decide) (pc1 := 51) rfl (pc2 := 44) rfl (fun h3 => ?_) (fun h3 => ?_)
  · refine C.iloadN d4_51 rfl (pc' := 52) rfl ?_
    refine C.i2b d4_52 (pc' := 53) rfl ?_
    exact C.nreturn (b := (low).toInt8.toInt32) d4_53 rfl (by simp) (by decide) (by decide) (nar_b _) ⟨by rw [L.2]; unfold own_rb; rw [if_neg (of_decide_eq_false (hq ▸ b2i_f h3))], rfl⟩
  · refine C.iloadN d4_44 rfl (pc' := 45) rfl ?_
    refine C.sipush d4_45 (v := 128) rfl (pc' := 48) rfl ?_
    refine C.ior d4_48 (pc' := 49) rfl ?_
    refine C.i2b d4_49 (pc' := 50) rfl ?_
    exact C.nreturn (b := ((low ||| (128 : Int32))).toInt8.toInt32) d4_50 rfl (by simp) (by decide) (by decide) (nar_b _) ⟨by rw [L.1]; unfold own_rb; rw [if_pos (of_decide_eq_true (hq ▸ b2i_t h3))], rfl⟩
set_option maxRecDepth 65536 in
set_option maxHeartbeats 4000000 in
theorem c_same (l : Launch) (Z : State) (a0 : Array Value) (hw : ∀ d ∈ tables_1, d.before a0 Z = true) (wl : List Jvm.Cond) (n0 : Nat) (h : Heap) (t : Addr) (vs : List Value) (k a L : Nat) (w : Int64) (f x : Int32) (V_t : Lst Z h t .byte vs) (hk : k < 14) (ha : a < 4) (hL : L ≤ 10) (hx : vs[k]? = some (.int x)) :
    Ctr l Z (⟨"com/example/slotwright/slotwright/formats/PackedNumbersWritePinLaw", "same", "([BIIIJB)Z"⟩ : MethodName) method_4_code 8 (some .boolean) ({ frames := 1, cells := 0, slots := 0, locals := 16 } : Room) n0 #[(.ref t), (.int (Int32.ofNat k)), (.int (Int32.ofNat a)), (.int (Int32.ofNat L)), (.long w), (.int f)] h (fun v h' => v = some (.int (b2i (decide (x = own_ex (own_n w) a L f k)))) ∧ h' = h) wl := by
  refine Ctr.of (ls := #[.val (.ref t), .val (.int (Int32.ofNat k)), .val (.int (Int32.ofNat a)), .val (.int (Int32.ofNat L)), .val (.long w), .second, .val (.int f), .unset]) (by first | (exact plainFor_of_name (by first | (simp [plainName, overriddenIn]; done) | decide +kernel)) | decide +kernel) hw (fun m => entry_eq m (L1 := [.val (.ref t), .val (.int (Int32.ofNat k)), .val (.int (Int32.ofNat a)), .val (.int (Int32.ofNat L)), .val (.long w), .second, .val (.int f)]) (k := 1) rfl rfl rfl) (fun G C => ?_)
  refine C.iloadN d3_0 rfl (pc' := 1) rfl ?_
  refine C.iloadN d3_1 rfl (pc' := 2) rfl ?_
  suffices t29 : G h 0 0 29 #[.val (.ref t), .val (.int (Int32.ofNat k)), .val (.int (Int32.ofNat a)), .val (.int (Int32.ofNat L)), .val (.long w), .second, .val (.int f), .val (.int (own_ex (own_n w) a L f k))] [] by
    refine C.icmp_lt d3_2 (by decide) (pc1 := 12) rfl (pc2 := 5) rfl (fun h1 => ?_) (fun h1 => ?_)
    · refine C.iload d3_12 rfl (pc' := 14) rfl ?_
      refine C.istore d3_14 (ls' := #[.val (.ref t), .val (.int (Int32.ofNat k)), .val (.int (Int32.ofNat a)), .val (.int (Int32.ofNat L)), .val (.long w), .second, .val (.int f), .val (.int f)]) rfl (pc' := 16) rfl ?_
      refine C.goto d3_16 (by decide) (pc' := 29) rfl ?_
      rw [show own_ex (own_n w) a L f k = f from if_pos (Or.inl ((own_lt (by omega) (by omega)).mp h1))] at t29
      exact t29
    · have h1' : a ≤ k := Nat.not_lt.mp fun q => h1 ((own_lt (by omega) (by omega)).mpr q)
      refine C.iloadN d3_5 rfl (pc' := 6) rfl ?_
      refine C.iloadN d3_6 rfl (pc' := 7) rfl ?_
      refine C.iloadN d3_7 rfl (pc' := 8) rfl ?_
      refine C.iadd d3_8 (pc' := 9) rfl ?_
      refine castI (show ((Int32.ofNat a) + (Int32.ofNat L)) = (Int32.ofNat (a + L)) from (Int32.ofNat_add a L).symm) ?_
      refine C.icmp_lt d3_9 (by decide) (pc1 := 19) rfl (pc2 := 12) rfl (fun h2 => ?_) (fun h2 => ?_)
      · have h2' : k < a + L := (own_lt (by omega) (by omega)).mp h2
        refine C.lload d3_19 rfl (pc' := 21) rfl ?_
        refine C.iloadN d3_21 rfl (pc' := 22) rfl ?_
        refine C.iloadN d3_22 rfl (pc' := 23) rfl ?_
        refine C.isub d3_23 (pc' := 24) rfl ?_
        refine castI (show ((Int32.ofNat k) - (Int32.ofNat a)) = (Int32.ofNat (k - a)) from own_sub h1' (by omega)) ?_
        refine C.callSP (c_rb l Z a0 hw [] n0 h w (k - a) (by omega)) (i1 := 13) (i2 := 14) (i3 := 3) (i4 := 15) rfl rfl rfl rfl (by decide) pd_0 rfl (argsL := [(.long w), (.int (Int32.ofNat (k - a)))]) rfl (rest := []) rfl rfl (W := 0) rfl (by decide) (by decide) (by decide) (by decide) d3_24 (pc' := 27) rfl (k' := 0) rfl (n' := 0) rfl ?_
        refine C.istore d3_27 (ls' := #[.val (.ref t), .val (.int (Int32.ofNat k)), .val (.int (Int32.ofNat a)), .val (.int (Int32.ofNat L)), .val (.long w), .second, .val (.int f), .val (.int (own_rb (own_n w) (k - a)))]) rfl (pc' := 29) rfl ?_
        rw [show own_ex (own_n w) a L f k = own_rb (own_n w) (k - a) from if_neg (by omega)] at t29
        exact t29
      · refine C.iload d3_12 rfl (pc' := 14) rfl ?_
        refine C.istore d3_14 (ls' := #[.val (.ref t), .val (.int (Int32.ofNat k)), .val (.int (Int32.ofNat a)), .val (.int (Int32.ofNat L)), .val (.long w), .second, .val (.int f), .val (.int f)]) rfl (pc' := 16) rfl ?_
        refine C.goto d3_16 (by decide) (pc' := 29) rfl ?_
        rw [show own_ex (own_n w) a L f k = f from if_pos (Or.inr (Nat.not_lt.mp fun q => h2 ((own_lt (by omega) (by omega)).mpr q)))] at t29
        exact t29
  refine C.aloadN d3_29 rfl (pc' := 30) rfl ?_
  refine C.iloadN d3_30 rfl (pc' := 31) rfl ?_
  refine C.baload V_t (i := k) (own_idx (by omega)) (v := (.int x)) hx d3_31 (pc' := 32) rfl ?_
  refine C.iload d3_32 rfl (pc' := 34) rfl ?_
  refine C.icmp_ne d3_34 (by decide) (pc1 := 41) rfl (pc2 := 37) rfl (fun h3 => ?_) (fun h3 => ?_)
  · refine C.iconst d3_41 (v := 0) rfl (pc' := 42) rfl ?_
    exact C.nreturn (b := (0 : Int32)) d3_42 rfl (by simp) (by decide) (by decide) rfl ⟨by rw [show decide (x = (own_ex (own_n w) a L f k)) = false from decide_eq_false h3]; rfl, rfl⟩
  · refine C.iconst d3_37 (v := 1) rfl (pc' := 38) rfl ?_
    refine C.goto d3_38 (by decide) (pc' := 42) rfl ?_
    exact C.nreturn (b := (1 : Int32)) d3_42 rfl (by simp) (by decide) (by decide) rfl ⟨by rw [show decide (x = (own_ex (own_n w) a L f k)) = true from decide_eq_true h3]; rfl, rfl⟩
set_option maxRecDepth 65536 in
set_option maxHeartbeats 4000000 in
theorem c_write (l : Launch) (Z : State) (a0 : Array Value) (hw : ∀ d ∈ tables_1, d.before a0 Z = true) (wl : List Jvm.Cond) (n0 : Nat) (h : Heap) (t : Addr) (a : Nat) (w : Int64) (f : Int32) (hz : n0 ≤ h.size) (g_t : n0 ≤ t) (ha : a < 4) (V_t : Lst Z h t .byte (own_mid (own_n w) a 0 f)) :
    Ctr l Z (⟨"com/example/slotwright/slotwright/formats/PackedNumbers", "write", "([BIJ)I"⟩ : MethodName) prog_195_method_3_code 7 (some .int) ({ frames := 0, cells := 0, slots := 0, locals := 0 } : Room) n0 #[(.ref t), (.int (Int32.ofNat a)), (.long w)] h (fun v h' => v = some (.int (Int32.ofNat (a + own_lk (own_n w) 9))) ∧ Keep h h' [t] ∧ Lst Z h' t .byte (own_end (own_n w) a (own_lk (own_n w) 9) f)) wl := by
  refine Ctr.of (ls := #[.val (.ref t), .val (.int (Int32.ofNat a)), .val (.long w), .second, .unset, .unset, .unset]) (by first | (exact plainFor_of_name (by first | (simp [plainName, overriddenIn]; done) | decide +kernel)) | decide +kernel) hw (fun m => entry_eq m (L1 := [.val (.ref t), .val (.int (Int32.ofNat a)), .val (.long w), .second]) (k := 3) rfl rfl rfl) (fun G C => ?_)
  refine C.iloadN d2_0 rfl (pc' := 1) rfl ?_
  refine C.istore d2_1 (ls' := #[.val (.ref t), .val (.int (Int32.ofNat a)), .val (.long w), .second, .val (.int (Int32.ofNat a)), .unset, .unset]) rfl (pc' := 3) rfl ?_
  refine C.lloadN d2_3 rfl (pc' := 4) rfl ?_
  refine C.lstore d2_4 (ls' := #[.val (.ref t), .val (.int (Int32.ofNat a)), .val (.long w), .second, .val (.int (Int32.ofNat a)), .val (.long w), .second]) rfl (pc' := 6) rfl ?_
  have loop : ∀ (m i : Nat) (r : Int64) (hh : Heap), 9 - i = m → i ≤ 9 → own_n r = own_n w / 2 ^ (7 * i) → (i = 0 ∨ own_n w / 2 ^ (7 * i) ≠ 0) → n0 ≤ hh.size → Keep h hh [t] → Lst Z hh t .byte (own_mid (own_n w) a i f) → G hh 0 0 6 #[.val (.ref t), .val (.int (Int32.ofNat a)), .val (.long w), .second, .val (.int (Int32.ofNat (a + i))), .val (.long r), .second] [] := by
    intro m
    induction m with
    | zero =>
      intro i r hh hm hi hr hne hz K V_t
      have hlen : (own_mid (own_n w) a i f).length = 14 := by simp [own_mid]
      refine C.lload d2_6 rfl (pc' := 8) rfl ?_
      refine C.ldcJ (i := 9) rfl d2_8 (pc' := 11) rfl ?_
      refine C.land d2_11 (pc' := 12) rfl ?_
      refine C.lconst d2_12 (v := 0) rfl (pc' := 13) rfl ?_
      refine C.lcmp d2_13 (pc' := 14) rfl ?_
      refine C.if_eq d2_14 (by decide) (pc1 := 46) rfl (pc2 := 17) rfl (fun hc => ?_) (fun hc => ?_)
      · have q0 := (own_split r).mp (cmpL_eq.mp hc)
        refine C.aloadN d2_46 rfl (pc' := 47) rfl ?_
        refine C.iload d2_47 rfl (pc' := 49) rfl ?_
        refine C.iinc d2_49 (v := 1) rfl rfl (ls' := #[.val (.ref t), .val (.int (Int32.ofNat a)), .val (.long w), .second, .val (.int (Int32.ofNat (a + i + 1))), .val (.long r), .second]) (by rw [show Int32.ofNat (a + i) + 1 = Int32.ofNat (a + i + 1) from (Int32.ofNat_add (a + i) 1).symm]; rfl) (pc' := 52) rfl ?_
        refine C.lload d2_52 rfl (pc' := 54) rfl ?_
        refine C.l2i d2_54 (pc' := 55) rfl ?_
        refine C.i2b d2_55 (pc' := 56) rfl ?_
        refine castI (show ((r).toInt32).toInt8.toInt32 = (own_lob (own_n r)) from own_lobE q0) ?_
        rw [hr] at q0 ⊢
        refine C.bastore V_t (i := (a + i)) (own_idx (by omega)) (by rw [hlen]; omega) (x' := (own_lob (own_n w / 2 ^ (7 * i)))) (own_narL _) (vs' := (own_end (own_n w) a (i + 1) f)) (own_fin hi hne q0) g_t d2_56 (pc' := 57) rfl ?_
        intro h1 W2 V_t
        have hz : n0 ≤ _ := Nat.le_trans hz (Nat.le_of_eq W2.size.symm)
        have K := K.wr W2 (Or.inl (by simp))
        refine C.iload d2_57 rfl (pc' := 59) rfl ?_
        exact C.ireturn d2_59 rfl (by decide) (by decide) ⟨by rw [own_lkE hne q0 9 hi]; rfl, K, by rw [own_lkE hne q0 9 hi]; exact V_t⟩
      · have q0 : own_n r / 128 ≠ 0 := fun q => hc (cmpL_eq.mpr ((own_split r).mpr q))
        exact absurd (show own_n r / 128 = 0 by rw [hr, show i = 9 by omega]; have lt : own_n w < 18446744073709551616 := w.toBitVec.isLt; omega) q0
    | succ m ih =>
      intro i r hh hm hi hr hne hz K V_t
      have hlen : (own_mid (own_n w) a i f).length = 14 := by simp [own_mid]
      refine C.lload d2_6 rfl (pc' := 8) rfl ?_
      refine C.ldcJ (i := 9) rfl d2_8 (pc' := 11) rfl ?_
      refine C.land d2_11 (pc' := 12) rfl ?_
      refine C.lconst d2_12 (v := 0) rfl (pc' := 13) rfl ?_
      refine C.lcmp d2_13 (pc' := 14) rfl ?_
      refine C.if_eq d2_14 (by decide) (pc1 := 46) rfl (pc2 := 17) rfl (fun hc => ?_) (fun hc => ?_)
      · have q0 := (own_split r).mp (cmpL_eq.mp hc)
        refine C.aloadN d2_46 rfl (pc' := 47) rfl ?_
        refine C.iload d2_47 rfl (pc' := 49) rfl ?_
        refine C.iinc d2_49 (v := 1) rfl rfl (ls' := #[.val (.ref t), .val (.int (Int32.ofNat a)), .val (.long w), .second, .val (.int (Int32.ofNat (a + i + 1))), .val (.long r), .second]) (by rw [show Int32.ofNat (a + i) + 1 = Int32.ofNat (a + i + 1) from (Int32.ofNat_add (a + i) 1).symm]; rfl) (pc' := 52) rfl ?_
        refine C.lload d2_52 rfl (pc' := 54) rfl ?_
        refine C.l2i d2_54 (pc' := 55) rfl ?_
        refine C.i2b d2_55 (pc' := 56) rfl ?_
        refine castI (show ((r).toInt32).toInt8.toInt32 = (own_lob (own_n r)) from own_lobE q0) ?_
        rw [hr] at q0 ⊢
        refine C.bastore V_t (i := (a + i)) (own_idx (by omega)) (by rw [hlen]; omega) (x' := (own_lob (own_n w / 2 ^ (7 * i)))) (own_narL _) (vs' := (own_end (own_n w) a (i + 1) f)) (own_fin hi hne q0) g_t d2_56 (pc' := 57) rfl ?_
        intro h3 W4 V_t
        have hz : n0 ≤ _ := Nat.le_trans hz (Nat.le_of_eq W4.size.symm)
        have K := K.wr W4 (Or.inl (by simp))
        refine C.iload d2_57 rfl (pc' := 59) rfl ?_
        exact C.ireturn d2_59 rfl (by decide) (by decide) ⟨by rw [own_lkE hne q0 9 hi]; rfl, K, by rw [own_lkE hne q0 9 hi]; exact V_t⟩
      · have q0 : own_n r / 128 ≠ 0 := fun q => hc (cmpL_eq.mpr ((own_split r).mpr q))
        refine C.aloadN d2_17 rfl (pc' := 18) rfl ?_
        refine C.iload d2_18 rfl (pc' := 20) rfl ?_
        refine C.iinc d2_20 (v := 1) rfl rfl (ls' := #[.val (.ref t), .val (.int (Int32.ofNat a)), .val (.long w), .second, .val (.int (Int32.ofNat (a + i + 1))), .val (.long r), .second]) (by rw [show Int32.ofNat (a + i) + 1 = Int32.ofNat (a + i + 1) from (Int32.ofNat_add (a + i) 1).symm]; rfl) (pc' := 23) rfl ?_
        refine C.lload d2_23 rfl (pc' := 25) rfl ?_
        refine C.ldcJ (i := 17) rfl d2_25 (pc' := 28) rfl ?_
        refine C.land d2_28 (pc' := 29) rfl ?_
        refine C.ldcJ (i := 18) rfl d2_29 (pc' := 32) rfl ?_
        refine C.lor d2_32 (pc' := 33) rfl ?_
        refine C.l2i d2_33 (pc' := 34) rfl ?_
        refine C.i2b d2_34 (pc' := 35) rfl ?_
        refine castI (show ((((r &&& (127 : Int64)) ||| (128 : Int64))).toInt32).toInt8.toInt32 = (own_hib (own_n r)) from own_hibE r) ?_
        rw [show own_n r = own_n w / 2 ^ (7 * i) from hr] at q0 ⊢
        refine C.bastore V_t (i := (a + i)) (own_idx (by omega)) (by rw [hlen]; omega) (x' := (own_hib (own_n w / 2 ^ (7 * i)))) (own_narH _) (vs' := (own_mid (own_n w) a (i + 1) f)) (own_step hi) g_t d2_35 (pc' := 36) rfl ?_
        intro h5 W6 V_t
        have hz : n0 ≤ _ := Nat.le_trans hz (Nat.le_of_eq W6.size.symm)
        have K := K.wr W6 (Or.inl (by simp))
        refine C.lload d2_36 rfl (pc' := 38) rfl ?_
        refine C.bipush d2_38 (v := 7) rfl (pc' := 40) rfl ?_
        refine C.lushr d2_40 (pc' := 41) rfl ?_
        refine C.lstore d2_41 (ls' := #[.val (.ref t), .val (.int (Int32.ofNat a)), .val (.long w), .second, .val (.int (Int32.ofNat (a + i + 1))), .val (.long (XT.ushrL r (7 : Int32))), .second]) rfl (pc' := 43) rfl ?_
        refine C.goto d2_43 (by decide) (pc' := 6) rfl ?_
        rw [own_dv] at q0
        have i9 : i < 9 := by
          refine Classical.byContradiction fun q => q0 ?_
          rw [show i = 9 by omega]; have lt : own_n w < 18446744073709551616 := w.toBitVec.isLt; omega
        exact ih (i + 1) _ _ (by omega) (by omega) (by rw [own_ushr r 7 7 (by decide), hr, show 7 * (i + 1) = 7 * i + 7 by omega]; exact own_dv _ _) (Or.inr q0) hz K V_t
  exact loop _ 0 w h rfl (by omega) (by rw [Nat.mul_zero, Nat.pow_zero, Nat.div_one]) (Or.inl rfl) hz (Keep.refl h [t]) V_t
set_option maxRecDepth 65536 in
set_option maxHeartbeats 4000000 in
theorem c_law (l : Launch) (Z : State) (a0 : Array Value) (hw : ∀ d ∈ tables_1, d.before a0 Z = true) (wl : List Jvm.Cond) (n0 : Nat) (h : Heap) (nn : Int64) (s aa ff : Int32) (hz : n0 ≤ h.size) :
    Ctr l Z x code maxLocals ret room_1 n0 #[(.long nn), (.int s), (.int aa), (.int ff)] h (fun v _ => v = some (.int 1)) wl := by
  refine Ctr.of (ls := #[.val (.long nn), .second, .val (.int s), .val (.int aa), .val (.int ff), .unset, .unset, .unset, .unset, .unset, .unset, .unset, .unset]) (by first | (exact plainFor_of_name (by first | (simp [plainName, overriddenIn]; done) | decide +kernel)) | decide +kernel) hw (fun m => entry_eq m (L1 := [.val (.long nn), .second, .val (.int s), .val (.int aa), .val (.int ff)]) (k := 8) rfl rfl rfl) (fun G C => ?_)
  refine C.lloadN at_0 rfl (pc' := 1) rfl ?_
  refine C.iloadN at_1 rfl (pc' := 2) rfl ?_
  refine C.bipush at_2 (v := 63) rfl (pc' := 4) rfl ?_
  refine C.iand at_4 (pc' := 5) rfl ?_
  refine C.lushr at_5 (pc' := 6) rfl ?_
  generalize XT.ushrL nn (s &&& 63) = w
  obtain ⟨a, ha, ha4⟩ := own_at3 aa
  obtain ⟨f, hf, nf⟩ : ∃ v, ff.toInt8.toInt32 = v ∧ nar .byte v = v := ⟨_, rfl, nar_b _⟩
  refine C.lstore at_6 (ls' := #[.val (.long nn), .second, .val (.int s), .val (.int aa), .val (.int ff), .val (.long w), .second, .unset, .unset, .unset, .unset, .unset, .unset]) rfl (pc' := 8) rfl ?_
  refine C.iloadN at_8 rfl (pc' := 9) rfl ?_
  refine C.iconst at_9 (v := 3) rfl (pc' := 10) rfl ?_
  refine C.iand at_10 (pc' := 11) rfl ?_
  refine castI (show (aa &&& (3 : Int32)) = (Int32.ofNat a) from ha) ?_
  refine C.istore at_11 (ls' := #[.val (.long nn), .second, .val (.int s), .val (.int aa), .val (.int ff), .val (.long w), .second, .val (.int (Int32.ofNat a)), .unset, .unset, .unset, .unset, .unset]) rfl (pc' := 13) rfl ?_
  refine C.iload at_13 rfl (pc' := 15) rfl ?_
  refine C.i2b at_15 (pc' := 16) rfl ?_
  refine castI (show (ff).toInt8.toInt32 = f from hf) ?_
  refine C.istore at_16 (ls' := #[.val (.long nn), .second, .val (.int s), .val (.int aa), .val (.int ff), .val (.long w), .second, .val (.int (Int32.ofNat a)), .val (.int f), .unset, .unset, .unset, .unset]) rfl (pc' := 18) rfl ?_
  refine C.bipush at_18 (v := 14) rfl (pc' := 20) rfl ?_
  refine C.newarray (w := 0) (ty := .byte) rfl rfl (N := 14) ⟨by decide, by decide⟩ (d := (.int (0 : Int32))) rfl (vs := [(.int (0 : Int32)), (.int (0 : Int32)), (.int (0 : Int32)), (.int (0 : Int32)), (.int (0 : Int32)), (.int (0 : Int32)), (.int (0 : Int32)), (.int (0 : Int32)), (.int (0 : Int32)), (.int (0 : Int32)), (.int (0 : Int32)), (.int (0 : Int32)), (.int (0 : Int32)), (.int (0 : Int32))]) rfl (cap := 14) (by decide) (by decide) (by decide) (by decide) at_20 (pc' := 22) rfl ?_
  intro h7 o8 q9 E10 V_o8
  have g_o8 : n0 ≤ o8 := Nat.le_trans hz (Nat.le_of_eq q9.symm)
  have hz := Nat.le_trans hz E10.1
  refine C.astore at_22 (ls' := #[.val (.long nn), .second, .val (.int s), .val (.int aa), .val (.int ff), .val (.long w), .second, .val (.int (Int32.ofNat a)), .val (.int f), .val (.ref o8), .unset, .unset, .unset]) rfl (pc' := 24) rfl ?_
  refine C.aload at_24 rfl (pc' := 26) rfl ?_
  refine C.iconst at_26 (v := 0) rfl (pc' := 27) rfl ?_
  refine C.iload at_27 rfl (pc' := 29) rfl ?_
  refine C.bastore V_o8 (i := 0) ⟨by decide, by decide⟩ (by simp) (x' := f) nf (vs' := [(.int f), (.int (0 : Int32)), (.int (0 : Int32)), (.int (0 : Int32)), (.int (0 : Int32)), (.int (0 : Int32)), (.int (0 : Int32)), (.int (0 : Int32)), (.int (0 : Int32)), (.int (0 : Int32)), (.int (0 : Int32)), (.int (0 : Int32)), (.int (0 : Int32)), (.int (0 : Int32))]) rfl g_o8 at_29 (pc' := 30) rfl ?_
  intro h11 W12 V_o8
  have hz : n0 ≤ _ := Nat.le_trans hz (Nat.le_of_eq W12.size.symm)
  refine C.aload at_30 rfl (pc' := 32) rfl ?_
  refine C.iconst at_32 (v := 1) rfl (pc' := 33) rfl ?_
  refine C.iload at_33 rfl (pc' := 35) rfl ?_
  refine C.bastore V_o8 (i := 1) ⟨by decide, by decide⟩ (by simp) (x' := f) nf (vs' := [(.int f), (.int f), (.int (0 : Int32)), (.int (0 : Int32)), (.int (0 : Int32)), (.int (0 : Int32)), (.int (0 : Int32)), (.int (0 : Int32)), (.int (0 : Int32)), (.int (0 : Int32)), (.int (0 : Int32)), (.int (0 : Int32)), (.int (0 : Int32)), (.int (0 : Int32))]) rfl g_o8 at_35 (pc' := 36) rfl ?_
  intro h13 W14 V_o8
  have hz : n0 ≤ _ := Nat.le_trans hz (Nat.le_of_eq W14.size.symm)
  refine C.aload at_36 rfl (pc' := 38) rfl ?_
  refine C.iconst at_38 (v := 2) rfl (pc' := 39) rfl ?_
  refine C.iload at_39 rfl (pc' := 41) rfl ?_
  refine C.bastore V_o8 (i := 2) ⟨by decide, by decide⟩ (by simp) (x' := f) nf (vs' := [(.int f), (.int f), (.int f), (.int (0 : Int32)), (.int (0 : Int32)), (.int (0 : Int32)), (.int (0 : Int32)), (.int (0 : Int32)), (.int (0 : Int32)), (.int (0 : Int32)), (.int (0 : Int32)), (.int (0 : Int32)), (.int (0 : Int32)), (.int (0 : Int32))]) rfl g_o8 at_41 (pc' := 42) rfl ?_
  intro h15 W16 V_o8
  have hz : n0 ≤ _ := Nat.le_trans hz (Nat.le_of_eq W16.size.symm)
  refine C.aload at_42 rfl (pc' := 44) rfl ?_
  refine C.iconst at_44 (v := 3) rfl (pc' := 45) rfl ?_
  refine C.iload at_45 rfl (pc' := 47) rfl ?_
  refine C.bastore V_o8 (i := 3) ⟨by decide, by decide⟩ (by simp) (x' := f) nf (vs' := [(.int f), (.int f), (.int f), (.int f), (.int (0 : Int32)), (.int (0 : Int32)), (.int (0 : Int32)), (.int (0 : Int32)), (.int (0 : Int32)), (.int (0 : Int32)), (.int (0 : Int32)), (.int (0 : Int32)), (.int (0 : Int32)), (.int (0 : Int32))]) rfl g_o8 at_47 (pc' := 48) rfl ?_
  intro h17 W18 V_o8
  have hz : n0 ≤ _ := Nat.le_trans hz (Nat.le_of_eq W18.size.symm)
  refine C.aload at_48 rfl (pc' := 50) rfl ?_
  refine C.iconst at_50 (v := 4) rfl (pc' := 51) rfl ?_
  refine C.iload at_51 rfl (pc' := 53) rfl ?_
  refine C.bastore V_o8 (i := 4) ⟨by decide, by decide⟩ (by simp) (x' := f) nf (vs' := [(.int f), (.int f), (.int f), (.int f), (.int f), (.int (0 : Int32)), (.int (0 : Int32)), (.int (0 : Int32)), (.int (0 : Int32)), (.int (0 : Int32)), (.int (0 : Int32)), (.int (0 : Int32)), (.int (0 : Int32)), (.int (0 : Int32))]) rfl g_o8 at_53 (pc' := 54) rfl ?_
  intro h19 W20 V_o8
  have hz : n0 ≤ _ := Nat.le_trans hz (Nat.le_of_eq W20.size.symm)
  refine C.aload at_54 rfl (pc' := 56) rfl ?_
  refine C.iconst at_56 (v := 5) rfl (pc' := 57) rfl ?_
  refine C.iload at_57 rfl (pc' := 59) rfl ?_
  refine C.bastore V_o8 (i := 5) ⟨by decide, by decide⟩ (by simp) (x' := f) nf (vs' := [(.int f), (.int f), (.int f), (.int f), (.int f), (.int f), (.int (0 : Int32)), (.int (0 : Int32)), (.int (0 : Int32)), (.int (0 : Int32)), (.int (0 : Int32)), (.int (0 : Int32)), (.int (0 : Int32)), (.int (0 : Int32))]) rfl g_o8 at_59 (pc' := 60) rfl ?_
  intro h21 W22 V_o8
  have hz : n0 ≤ _ := Nat.le_trans hz (Nat.le_of_eq W22.size.symm)
  refine C.aload at_60 rfl (pc' := 62) rfl ?_
  refine C.bipush at_62 (v := 6) rfl (pc' := 64) rfl ?_
  refine C.iload at_64 rfl (pc' := 66) rfl ?_
  refine C.bastore V_o8 (i := 6) ⟨by decide, by decide⟩ (by simp) (x' := f) nf (vs' := [(.int f), (.int f), (.int f), (.int f), (.int f), (.int f), (.int f), (.int (0 : Int32)), (.int (0 : Int32)), (.int (0 : Int32)), (.int (0 : Int32)), (.int (0 : Int32)), (.int (0 : Int32)), (.int (0 : Int32))]) rfl g_o8 at_66 (pc' := 67) rfl ?_
  intro h23 W24 V_o8
  have hz : n0 ≤ _ := Nat.le_trans hz (Nat.le_of_eq W24.size.symm)
  refine C.aload at_67 rfl (pc' := 69) rfl ?_
  refine C.bipush at_69 (v := 7) rfl (pc' := 71) rfl ?_
  refine C.iload at_71 rfl (pc' := 73) rfl ?_
  refine C.bastore V_o8 (i := 7) ⟨by decide, by decide⟩ (by simp) (x' := f) nf (vs' := [(.int f), (.int f), (.int f), (.int f), (.int f), (.int f), (.int f), (.int f), (.int (0 : Int32)), (.int (0 : Int32)), (.int (0 : Int32)), (.int (0 : Int32)), (.int (0 : Int32)), (.int (0 : Int32))]) rfl g_o8 at_73 (pc' := 74) rfl ?_
  intro h25 W26 V_o8
  have hz : n0 ≤ _ := Nat.le_trans hz (Nat.le_of_eq W26.size.symm)
  refine C.aload at_74 rfl (pc' := 76) rfl ?_
  refine C.bipush at_76 (v := 8) rfl (pc' := 78) rfl ?_
  refine C.iload at_78 rfl (pc' := 80) rfl ?_
  refine C.bastore V_o8 (i := 8) ⟨by decide, by decide⟩ (by simp) (x' := f) nf (vs' := [(.int f), (.int f), (.int f), (.int f), (.int f), (.int f), (.int f), (.int f), (.int f), (.int (0 : Int32)), (.int (0 : Int32)), (.int (0 : Int32)), (.int (0 : Int32)), (.int (0 : Int32))]) rfl g_o8 at_80 (pc' := 81) rfl ?_
  intro h27 W28 V_o8
  have hz : n0 ≤ _ := Nat.le_trans hz (Nat.le_of_eq W28.size.symm)
  refine C.aload at_81 rfl (pc' := 83) rfl ?_
  refine C.bipush at_83 (v := 9) rfl (pc' := 85) rfl ?_
  refine C.iload at_85 rfl (pc' := 87) rfl ?_
  refine C.bastore V_o8 (i := 9) ⟨by decide, by decide⟩ (by simp) (x' := f) nf (vs' := [(.int f), (.int f), (.int f), (.int f), (.int f), (.int f), (.int f), (.int f), (.int f), (.int f), (.int (0 : Int32)), (.int (0 : Int32)), (.int (0 : Int32)), (.int (0 : Int32))]) rfl g_o8 at_87 (pc' := 88) rfl ?_
  intro h29 W30 V_o8
  have hz : n0 ≤ _ := Nat.le_trans hz (Nat.le_of_eq W30.size.symm)
  refine C.aload at_88 rfl (pc' := 90) rfl ?_
  refine C.bipush at_90 (v := 10) rfl (pc' := 92) rfl ?_
  refine C.iload at_92 rfl (pc' := 94) rfl ?_
  refine C.bastore V_o8 (i := 10) ⟨by decide, by decide⟩ (by simp) (x' := f) nf (vs' := [(.int f), (.int f), (.int f), (.int f), (.int f), (.int f), (.int f), (.int f), (.int f), (.int f), (.int f), (.int (0 : Int32)), (.int (0 : Int32)), (.int (0 : Int32))]) rfl g_o8 at_94 (pc' := 95) rfl ?_
  intro h31 W32 V_o8
  have hz : n0 ≤ _ := Nat.le_trans hz (Nat.le_of_eq W32.size.symm)
  refine C.aload at_95 rfl (pc' := 97) rfl ?_
  refine C.bipush at_97 (v := 11) rfl (pc' := 99) rfl ?_
  refine C.iload at_99 rfl (pc' := 101) rfl ?_
  refine C.bastore V_o8 (i := 11) ⟨by decide, by decide⟩ (by simp) (x' := f) nf (vs' := [(.int f), (.int f), (.int f), (.int f), (.int f), (.int f), (.int f), (.int f), (.int f), (.int f), (.int f), (.int f), (.int (0 : Int32)), (.int (0 : Int32))]) rfl g_o8 at_101 (pc' := 102) rfl ?_
  intro h33 W34 V_o8
  have hz : n0 ≤ _ := Nat.le_trans hz (Nat.le_of_eq W34.size.symm)
  refine C.aload at_102 rfl (pc' := 104) rfl ?_
  refine C.bipush at_104 (v := 12) rfl (pc' := 106) rfl ?_
  refine C.iload at_106 rfl (pc' := 108) rfl ?_
  refine C.bastore V_o8 (i := 12) ⟨by decide, by decide⟩ (by simp) (x' := f) nf (vs' := [(.int f), (.int f), (.int f), (.int f), (.int f), (.int f), (.int f), (.int f), (.int f), (.int f), (.int f), (.int f), (.int f), (.int (0 : Int32))]) rfl g_o8 at_108 (pc' := 109) rfl ?_
  intro h35 W36 V_o8
  have hz : n0 ≤ _ := Nat.le_trans hz (Nat.le_of_eq W36.size.symm)
  refine C.aload at_109 rfl (pc' := 111) rfl ?_
  refine C.bipush at_111 (v := 13) rfl (pc' := 113) rfl ?_
  refine C.iload at_113 rfl (pc' := 115) rfl ?_
  refine C.bastore V_o8 (i := 13) ⟨by decide, by decide⟩ (by simp) (x' := f) nf (vs' := [(.int f), (.int f), (.int f), (.int f), (.int f), (.int f), (.int f), (.int f), (.int f), (.int f), (.int f), (.int f), (.int f), (.int f)]) rfl g_o8 at_115 (pc' := 116) rfl ?_
  intro h37 W38 V_o8
  have hz : n0 ≤ _ := Nat.le_trans hz (Nat.le_of_eq W38.size.symm)
  refine C.lload at_116 rfl (pc' := 118) rfl ?_
  refine C.callSP (c_len l Z a0 hw [] n0 h37 w) (i1 := 1) (i2 := 2) (i3 := 3) (i4 := 4) rfl rfl rfl rfl (by decide) pd_1 rfl (argsL := [(.long w)]) rfl (rest := []) rfl rfl (W := 0) rfl (by decide) (by decide) (by decide) (by decide) at_118 (pc' := 121) rfl (k' := 1) rfl (n' := 14) rfl ?_
  refine C.istore at_121 (ls' := #[.val (.long nn), .second, .val (.int s), .val (.int aa), .val (.int ff), .val (.long w), .second, .val (.int (Int32.ofNat a)), .val (.int f), .val (.ref o8), .val (.int (Int32.ofNat (own_lk (own_n w) 9))), .unset, .unset]) rfl (pc' := 123) rfl ?_
  refine C.aload at_123 rfl (pc' := 125) rfl ?_
  refine C.iload at_125 rfl (pc' := 127) rfl ?_
  refine C.lload at_127 rfl (pc' := 129) rfl ?_
  have VM : Lst Z h37 o8 .byte (own_mid (own_n w) a 0 f) := by
    have e : own_mid (own_n w) a 0 f = [(.int f), (.int f), (.int f), (.int f), (.int f), (.int f), (.int f), (.int f), (.int f), (.int f), (.int f), (.int f), (.int f), (.int f)] := by
      unfold own_mid
      rw [show (fun k => Value.int (if a ≤ k ∧ k < a + 0 then own_hib (own_n w / 2 ^ (7 * (k - a))) else f)) = (fun _ => Value.int f) from funext fun k => by rw [if_neg (by omega)]]
      rfl
    rw [e]; exact V_o8
  refine C.callS (c_write l Z a0 hw [] n0 h37 o8 a w f hz g_o8 ha4 VM) (i1 := 5) (i2 := 6) (i3 := 7) (i4 := 8) rfl rfl rfl rfl (by decide) pd_2 rfl (argsL := [(.ref o8), (.int (Int32.ofNat a)), (.long w)]) rfl (rest := []) rfl rfl (W := 0) rfl (by decide) (by decide) (by decide) (by decide) at_129 (pc' := 132) rfl (k' := 1) rfl (n' := 14) rfl ?_
  rintro _ h39 ⟨rfl, K40, VE⟩
  have hz := Nat.le_trans hz K40.1
  refine C.istore at_132 (ls' := #[.val (.long nn), .second, .val (.int s), .val (.int aa), .val (.int ff), .val (.long w), .second, .val (.int (Int32.ofNat a)), .val (.int f), .val (.ref o8), .val (.int (Int32.ofNat (own_lk (own_n w) 9))), .val (.int (Int32.ofNat (a + (own_lk (own_n w) 9)))), .unset]) rfl (pc' := 134) rfl ?_
  refine C.iload at_134 rfl (pc' := 136) rfl ?_
  refine C.iload at_136 rfl (pc' := 138) rfl ?_
  refine C.iload at_138 rfl (pc' := 140) rfl ?_
  refine C.iadd at_140 (pc' := 141) rfl ?_
  refine castI (show ((Int32.ofNat a) + (Int32.ofNat (own_lk (own_n w) 9))) = (Int32.ofNat (a + (own_lk (own_n w) 9))) from (Int32.ofNat_add a (own_lk (own_n w) 9)).symm) ?_
  refine C.icmp_ne_F at_141 rfl (pc' := 144) rfl ?_
  refine C.iconst at_144 (v := 1) rfl (pc' := 145) rfl ?_
  refine C.goto at_145 (by decide) (pc' := 149) rfl ?_
  refine C.istore at_149 (ls' := #[.val (.long nn), .second, .val (.int s), .val (.int aa), .val (.int ff), .val (.long w), .second, .val (.int (Int32.ofNat a)), .val (.int f), .val (.ref o8), .val (.int (Int32.ofNat (own_lk (own_n w) 9))), .val (.int (Int32.ofNat (a + (own_lk (own_n w) 9)))), .val (.int (1 : Int32))]) rfl (pc' := 151) rfl ?_
  refine C.iload at_151 rfl (pc' := 153) rfl ?_
  refine C.aload at_153 rfl (pc' := 155) rfl ?_
  refine C.iconst at_155 (v := 0) rfl (pc' := 156) rfl ?_
  refine C.iload at_156 rfl (pc' := 158) rfl ?_
  refine C.iload at_158 rfl (pc' := 160) rfl ?_
  refine C.lload at_160 rfl (pc' := 162) rfl ?_
  refine C.iload at_162 rfl (pc' := 164) rfl ?_
  refine C.callSP (c_same l Z a0 hw [] n0 h39 o8 _ 0 a (own_lk (own_n w) 9) w f _ VE (by decide) ha4 (own_lk_le _ 9) (own_getE (by decide))) (i1 := 10) (i2 := 11) (i3 := 3) (i4 := 12) rfl rfl rfl rfl (by decide) pd_3 rfl (argsL := [(.ref o8), (.int (0 : Int32)), (.int (Int32.ofNat a)), (.int (Int32.ofNat (own_lk (own_n w) 9))), (.long w), (.int f)]) rfl (rest := [(.int (1 : Int32))]) rfl rfl (W := 1) rfl (by decide) (by decide) (by decide) (by decide) at_164 (pc' := 167) rfl (k' := 1) rfl (n' := 14) rfl ?_
  refine castI (show (b2i (decide (own_ex (own_n w) a (own_lk (own_n w) 9) f 0 = own_ex (own_n w) a (own_lk (own_n w) 9) f 0))) = (1 : Int32) from by rw [decide_eq_true rfl]; rfl) ?_
  refine C.iand at_167 (pc' := 168) rfl ?_
  refine castI (show ((1 : Int32) &&& (1 : Int32)) = (1 : Int32) from by decide) ?_
  refine C.istore at_168 (ls' := #[.val (.long nn), .second, .val (.int s), .val (.int aa), .val (.int ff), .val (.long w), .second, .val (.int (Int32.ofNat a)), .val (.int f), .val (.ref o8), .val (.int (Int32.ofNat (own_lk (own_n w) 9))), .val (.int (Int32.ofNat (a + (own_lk (own_n w) 9)))), .val (.int (1 : Int32))]) rfl (pc' := 170) rfl ?_
  refine C.iload at_170 rfl (pc' := 172) rfl ?_
  refine C.aload at_172 rfl (pc' := 174) rfl ?_
  refine C.iconst at_174 (v := 1) rfl (pc' := 175) rfl ?_
  refine C.iload at_175 rfl (pc' := 177) rfl ?_
  refine C.iload at_177 rfl (pc' := 179) rfl ?_
  refine C.lload at_179 rfl (pc' := 181) rfl ?_
  refine C.iload at_181 rfl (pc' := 183) rfl ?_
  refine C.callSP (c_same l Z a0 hw [] n0 h39 o8 _ 1 a (own_lk (own_n w) 9) w f _ VE (by decide) ha4 (own_lk_le _ 9) (own_getE (by decide))) (i1 := 10) (i2 := 11) (i3 := 3) (i4 := 12) rfl rfl rfl rfl (by decide) pd_3 rfl (argsL := [(.ref o8), (.int (1 : Int32)), (.int (Int32.ofNat a)), (.int (Int32.ofNat (own_lk (own_n w) 9))), (.long w), (.int f)]) rfl (rest := [(.int (1 : Int32))]) rfl rfl (W := 1) rfl (by decide) (by decide) (by decide) (by decide) at_183 (pc' := 186) rfl (k' := 1) rfl (n' := 14) rfl ?_
  refine castI (show (b2i (decide (own_ex (own_n w) a (own_lk (own_n w) 9) f 1 = own_ex (own_n w) a (own_lk (own_n w) 9) f 1))) = (1 : Int32) from by rw [decide_eq_true rfl]; rfl) ?_
  refine C.iand at_186 (pc' := 187) rfl ?_
  refine castI (show ((1 : Int32) &&& (1 : Int32)) = (1 : Int32) from by decide) ?_
  refine C.istore at_187 (ls' := #[.val (.long nn), .second, .val (.int s), .val (.int aa), .val (.int ff), .val (.long w), .second, .val (.int (Int32.ofNat a)), .val (.int f), .val (.ref o8), .val (.int (Int32.ofNat (own_lk (own_n w) 9))), .val (.int (Int32.ofNat (a + (own_lk (own_n w) 9)))), .val (.int (1 : Int32))]) rfl (pc' := 189) rfl ?_
  refine C.iload at_189 rfl (pc' := 191) rfl ?_
  refine C.aload at_191 rfl (pc' := 193) rfl ?_
  refine C.iconst at_193 (v := 2) rfl (pc' := 194) rfl ?_
  refine C.iload at_194 rfl (pc' := 196) rfl ?_
  refine C.iload at_196 rfl (pc' := 198) rfl ?_
  refine C.lload at_198 rfl (pc' := 200) rfl ?_
  refine C.iload at_200 rfl (pc' := 202) rfl ?_
  refine C.callSP (c_same l Z a0 hw [] n0 h39 o8 _ 2 a (own_lk (own_n w) 9) w f _ VE (by decide) ha4 (own_lk_le _ 9) (own_getE (by decide))) (i1 := 10) (i2 := 11) (i3 := 3) (i4 := 12) rfl rfl rfl rfl (by decide) pd_3 rfl (argsL := [(.ref o8), (.int (2 : Int32)), (.int (Int32.ofNat a)), (.int (Int32.ofNat (own_lk (own_n w) 9))), (.long w), (.int f)]) rfl (rest := [(.int (1 : Int32))]) rfl rfl (W := 1) rfl (by decide) (by decide) (by decide) (by decide) at_202 (pc' := 205) rfl (k' := 1) rfl (n' := 14) rfl ?_
  refine castI (show (b2i (decide (own_ex (own_n w) a (own_lk (own_n w) 9) f 2 = own_ex (own_n w) a (own_lk (own_n w) 9) f 2))) = (1 : Int32) from by rw [decide_eq_true rfl]; rfl) ?_
  refine C.iand at_205 (pc' := 206) rfl ?_
  refine castI (show ((1 : Int32) &&& (1 : Int32)) = (1 : Int32) from by decide) ?_
  refine C.istore at_206 (ls' := #[.val (.long nn), .second, .val (.int s), .val (.int aa), .val (.int ff), .val (.long w), .second, .val (.int (Int32.ofNat a)), .val (.int f), .val (.ref o8), .val (.int (Int32.ofNat (own_lk (own_n w) 9))), .val (.int (Int32.ofNat (a + (own_lk (own_n w) 9)))), .val (.int (1 : Int32))]) rfl (pc' := 208) rfl ?_
  refine C.iload at_208 rfl (pc' := 210) rfl ?_
  refine C.aload at_210 rfl (pc' := 212) rfl ?_
  refine C.iconst at_212 (v := 3) rfl (pc' := 213) rfl ?_
  refine C.iload at_213 rfl (pc' := 215) rfl ?_
  refine C.iload at_215 rfl (pc' := 217) rfl ?_
  refine C.lload at_217 rfl (pc' := 219) rfl ?_
  refine C.iload at_219 rfl (pc' := 221) rfl ?_
  refine C.callSP (c_same l Z a0 hw [] n0 h39 o8 _ 3 a (own_lk (own_n w) 9) w f _ VE (by decide) ha4 (own_lk_le _ 9) (own_getE (by decide))) (i1 := 10) (i2 := 11) (i3 := 3) (i4 := 12) rfl rfl rfl rfl (by decide) pd_3 rfl (argsL := [(.ref o8), (.int (3 : Int32)), (.int (Int32.ofNat a)), (.int (Int32.ofNat (own_lk (own_n w) 9))), (.long w), (.int f)]) rfl (rest := [(.int (1 : Int32))]) rfl rfl (W := 1) rfl (by decide) (by decide) (by decide) (by decide) at_221 (pc' := 224) rfl (k' := 1) rfl (n' := 14) rfl ?_
  refine castI (show (b2i (decide (own_ex (own_n w) a (own_lk (own_n w) 9) f 3 = own_ex (own_n w) a (own_lk (own_n w) 9) f 3))) = (1 : Int32) from by rw [decide_eq_true rfl]; rfl) ?_
  refine C.iand at_224 (pc' := 225) rfl ?_
  refine castI (show ((1 : Int32) &&& (1 : Int32)) = (1 : Int32) from by decide) ?_
  refine C.istore at_225 (ls' := #[.val (.long nn), .second, .val (.int s), .val (.int aa), .val (.int ff), .val (.long w), .second, .val (.int (Int32.ofNat a)), .val (.int f), .val (.ref o8), .val (.int (Int32.ofNat (own_lk (own_n w) 9))), .val (.int (Int32.ofNat (a + (own_lk (own_n w) 9)))), .val (.int (1 : Int32))]) rfl (pc' := 227) rfl ?_
  refine C.iload at_227 rfl (pc' := 229) rfl ?_
  refine C.aload at_229 rfl (pc' := 231) rfl ?_
  refine C.iconst at_231 (v := 4) rfl (pc' := 232) rfl ?_
  refine C.iload at_232 rfl (pc' := 234) rfl ?_
  refine C.iload at_234 rfl (pc' := 236) rfl ?_
  refine C.lload at_236 rfl (pc' := 238) rfl ?_
  refine C.iload at_238 rfl (pc' := 240) rfl ?_
  refine C.callSP (c_same l Z a0 hw [] n0 h39 o8 _ 4 a (own_lk (own_n w) 9) w f _ VE (by decide) ha4 (own_lk_le _ 9) (own_getE (by decide))) (i1 := 10) (i2 := 11) (i3 := 3) (i4 := 12) rfl rfl rfl rfl (by decide) pd_3 rfl (argsL := [(.ref o8), (.int (4 : Int32)), (.int (Int32.ofNat a)), (.int (Int32.ofNat (own_lk (own_n w) 9))), (.long w), (.int f)]) rfl (rest := [(.int (1 : Int32))]) rfl rfl (W := 1) rfl (by decide) (by decide) (by decide) (by decide) at_240 (pc' := 243) rfl (k' := 1) rfl (n' := 14) rfl ?_
  refine castI (show (b2i (decide (own_ex (own_n w) a (own_lk (own_n w) 9) f 4 = own_ex (own_n w) a (own_lk (own_n w) 9) f 4))) = (1 : Int32) from by rw [decide_eq_true rfl]; rfl) ?_
  refine C.iand at_243 (pc' := 244) rfl ?_
  refine castI (show ((1 : Int32) &&& (1 : Int32)) = (1 : Int32) from by decide) ?_
  refine C.istore at_244 (ls' := #[.val (.long nn), .second, .val (.int s), .val (.int aa), .val (.int ff), .val (.long w), .second, .val (.int (Int32.ofNat a)), .val (.int f), .val (.ref o8), .val (.int (Int32.ofNat (own_lk (own_n w) 9))), .val (.int (Int32.ofNat (a + (own_lk (own_n w) 9)))), .val (.int (1 : Int32))]) rfl (pc' := 246) rfl ?_
  refine C.iload at_246 rfl (pc' := 248) rfl ?_
  refine C.aload at_248 rfl (pc' := 250) rfl ?_
  refine C.iconst at_250 (v := 5) rfl (pc' := 251) rfl ?_
  refine C.iload at_251 rfl (pc' := 253) rfl ?_
  refine C.iload at_253 rfl (pc' := 255) rfl ?_
  refine C.lload at_255 rfl (pc' := 257) rfl ?_
  refine C.iload at_257 rfl (pc' := 259) rfl ?_
  refine C.callSP (c_same l Z a0 hw [] n0 h39 o8 _ 5 a (own_lk (own_n w) 9) w f _ VE (by decide) ha4 (own_lk_le _ 9) (own_getE (by decide))) (i1 := 10) (i2 := 11) (i3 := 3) (i4 := 12) rfl rfl rfl rfl (by decide) pd_3 rfl (argsL := [(.ref o8), (.int (5 : Int32)), (.int (Int32.ofNat a)), (.int (Int32.ofNat (own_lk (own_n w) 9))), (.long w), (.int f)]) rfl (rest := [(.int (1 : Int32))]) rfl rfl (W := 1) rfl (by decide) (by decide) (by decide) (by decide) at_259 (pc' := 262) rfl (k' := 1) rfl (n' := 14) rfl ?_
  refine castI (show (b2i (decide (own_ex (own_n w) a (own_lk (own_n w) 9) f 5 = own_ex (own_n w) a (own_lk (own_n w) 9) f 5))) = (1 : Int32) from by rw [decide_eq_true rfl]; rfl) ?_
  refine C.iand at_262 (pc' := 263) rfl ?_
  refine castI (show ((1 : Int32) &&& (1 : Int32)) = (1 : Int32) from by decide) ?_
  refine C.istore at_263 (ls' := #[.val (.long nn), .second, .val (.int s), .val (.int aa), .val (.int ff), .val (.long w), .second, .val (.int (Int32.ofNat a)), .val (.int f), .val (.ref o8), .val (.int (Int32.ofNat (own_lk (own_n w) 9))), .val (.int (Int32.ofNat (a + (own_lk (own_n w) 9)))), .val (.int (1 : Int32))]) rfl (pc' := 265) rfl ?_
  refine C.iload at_265 rfl (pc' := 267) rfl ?_
  refine C.aload at_267 rfl (pc' := 269) rfl ?_
  refine C.bipush at_269 (v := 6) rfl (pc' := 271) rfl ?_
  refine C.iload at_271 rfl (pc' := 273) rfl ?_
  refine C.iload at_273 rfl (pc' := 275) rfl ?_
  refine C.lload at_275 rfl (pc' := 277) rfl ?_
  refine C.iload at_277 rfl (pc' := 279) rfl ?_
  refine C.callSP (c_same l Z a0 hw [] n0 h39 o8 _ 6 a (own_lk (own_n w) 9) w f _ VE (by decide) ha4 (own_lk_le _ 9) (own_getE (by decide))) (i1 := 10) (i2 := 11) (i3 := 3) (i4 := 12) rfl rfl rfl rfl (by decide) pd_3 rfl (argsL := [(.ref o8), (.int (6 : Int32)), (.int (Int32.ofNat a)), (.int (Int32.ofNat (own_lk (own_n w) 9))), (.long w), (.int f)]) rfl (rest := [(.int (1 : Int32))]) rfl rfl (W := 1) rfl (by decide) (by decide) (by decide) (by decide) at_279 (pc' := 282) rfl (k' := 1) rfl (n' := 14) rfl ?_
  refine castI (show (b2i (decide (own_ex (own_n w) a (own_lk (own_n w) 9) f 6 = own_ex (own_n w) a (own_lk (own_n w) 9) f 6))) = (1 : Int32) from by rw [decide_eq_true rfl]; rfl) ?_
  refine C.iand at_282 (pc' := 283) rfl ?_
  refine castI (show ((1 : Int32) &&& (1 : Int32)) = (1 : Int32) from by decide) ?_
  refine C.istore at_283 (ls' := #[.val (.long nn), .second, .val (.int s), .val (.int aa), .val (.int ff), .val (.long w), .second, .val (.int (Int32.ofNat a)), .val (.int f), .val (.ref o8), .val (.int (Int32.ofNat (own_lk (own_n w) 9))), .val (.int (Int32.ofNat (a + (own_lk (own_n w) 9)))), .val (.int (1 : Int32))]) rfl (pc' := 285) rfl ?_
  refine C.iload at_285 rfl (pc' := 287) rfl ?_
  refine C.aload at_287 rfl (pc' := 289) rfl ?_
  refine C.bipush at_289 (v := 7) rfl (pc' := 291) rfl ?_
  refine C.iload at_291 rfl (pc' := 293) rfl ?_
  refine C.iload at_293 rfl (pc' := 295) rfl ?_
  refine C.lload at_295 rfl (pc' := 297) rfl ?_
  refine C.iload at_297 rfl (pc' := 299) rfl ?_
  refine C.callSP (c_same l Z a0 hw [] n0 h39 o8 _ 7 a (own_lk (own_n w) 9) w f _ VE (by decide) ha4 (own_lk_le _ 9) (own_getE (by decide))) (i1 := 10) (i2 := 11) (i3 := 3) (i4 := 12) rfl rfl rfl rfl (by decide) pd_3 rfl (argsL := [(.ref o8), (.int (7 : Int32)), (.int (Int32.ofNat a)), (.int (Int32.ofNat (own_lk (own_n w) 9))), (.long w), (.int f)]) rfl (rest := [(.int (1 : Int32))]) rfl rfl (W := 1) rfl (by decide) (by decide) (by decide) (by decide) at_299 (pc' := 302) rfl (k' := 1) rfl (n' := 14) rfl ?_
  refine castI (show (b2i (decide (own_ex (own_n w) a (own_lk (own_n w) 9) f 7 = own_ex (own_n w) a (own_lk (own_n w) 9) f 7))) = (1 : Int32) from by rw [decide_eq_true rfl]; rfl) ?_
  refine C.iand at_302 (pc' := 303) rfl ?_
  refine castI (show ((1 : Int32) &&& (1 : Int32)) = (1 : Int32) from by decide) ?_
  refine C.istore at_303 (ls' := #[.val (.long nn), .second, .val (.int s), .val (.int aa), .val (.int ff), .val (.long w), .second, .val (.int (Int32.ofNat a)), .val (.int f), .val (.ref o8), .val (.int (Int32.ofNat (own_lk (own_n w) 9))), .val (.int (Int32.ofNat (a + (own_lk (own_n w) 9)))), .val (.int (1 : Int32))]) rfl (pc' := 305) rfl ?_
  refine C.iload at_305 rfl (pc' := 307) rfl ?_
  refine C.aload at_307 rfl (pc' := 309) rfl ?_
  refine C.bipush at_309 (v := 8) rfl (pc' := 311) rfl ?_
  refine C.iload at_311 rfl (pc' := 313) rfl ?_
  refine C.iload at_313 rfl (pc' := 315) rfl ?_
  refine C.lload at_315 rfl (pc' := 317) rfl ?_
  refine C.iload at_317 rfl (pc' := 319) rfl ?_
  refine C.callSP (c_same l Z a0 hw [] n0 h39 o8 _ 8 a (own_lk (own_n w) 9) w f _ VE (by decide) ha4 (own_lk_le _ 9) (own_getE (by decide))) (i1 := 10) (i2 := 11) (i3 := 3) (i4 := 12) rfl rfl rfl rfl (by decide) pd_3 rfl (argsL := [(.ref o8), (.int (8 : Int32)), (.int (Int32.ofNat a)), (.int (Int32.ofNat (own_lk (own_n w) 9))), (.long w), (.int f)]) rfl (rest := [(.int (1 : Int32))]) rfl rfl (W := 1) rfl (by decide) (by decide) (by decide) (by decide) at_319 (pc' := 322) rfl (k' := 1) rfl (n' := 14) rfl ?_
  refine castI (show (b2i (decide (own_ex (own_n w) a (own_lk (own_n w) 9) f 8 = own_ex (own_n w) a (own_lk (own_n w) 9) f 8))) = (1 : Int32) from by rw [decide_eq_true rfl]; rfl) ?_
  refine C.iand at_322 (pc' := 323) rfl ?_
  refine castI (show ((1 : Int32) &&& (1 : Int32)) = (1 : Int32) from by decide) ?_
  refine C.istore at_323 (ls' := #[.val (.long nn), .second, .val (.int s), .val (.int aa), .val (.int ff), .val (.long w), .second, .val (.int (Int32.ofNat a)), .val (.int f), .val (.ref o8), .val (.int (Int32.ofNat (own_lk (own_n w) 9))), .val (.int (Int32.ofNat (a + (own_lk (own_n w) 9)))), .val (.int (1 : Int32))]) rfl (pc' := 325) rfl ?_
  refine C.iload at_325 rfl (pc' := 327) rfl ?_
  refine C.aload at_327 rfl (pc' := 329) rfl ?_
  refine C.bipush at_329 (v := 9) rfl (pc' := 331) rfl ?_
  refine C.iload at_331 rfl (pc' := 333) rfl ?_
  refine C.iload at_333 rfl (pc' := 335) rfl ?_
  refine C.lload at_335 rfl (pc' := 337) rfl ?_
  refine C.iload at_337 rfl (pc' := 339) rfl ?_
  refine C.callSP (c_same l Z a0 hw [] n0 h39 o8 _ 9 a (own_lk (own_n w) 9) w f _ VE (by decide) ha4 (own_lk_le _ 9) (own_getE (by decide))) (i1 := 10) (i2 := 11) (i3 := 3) (i4 := 12) rfl rfl rfl rfl (by decide) pd_3 rfl (argsL := [(.ref o8), (.int (9 : Int32)), (.int (Int32.ofNat a)), (.int (Int32.ofNat (own_lk (own_n w) 9))), (.long w), (.int f)]) rfl (rest := [(.int (1 : Int32))]) rfl rfl (W := 1) rfl (by decide) (by decide) (by decide) (by decide) at_339 (pc' := 342) rfl (k' := 1) rfl (n' := 14) rfl ?_
  refine castI (show (b2i (decide (own_ex (own_n w) a (own_lk (own_n w) 9) f 9 = own_ex (own_n w) a (own_lk (own_n w) 9) f 9))) = (1 : Int32) from by rw [decide_eq_true rfl]; rfl) ?_
  refine C.iand at_342 (pc' := 343) rfl ?_
  refine castI (show ((1 : Int32) &&& (1 : Int32)) = (1 : Int32) from by decide) ?_
  refine C.istore at_343 (ls' := #[.val (.long nn), .second, .val (.int s), .val (.int aa), .val (.int ff), .val (.long w), .second, .val (.int (Int32.ofNat a)), .val (.int f), .val (.ref o8), .val (.int (Int32.ofNat (own_lk (own_n w) 9))), .val (.int (Int32.ofNat (a + (own_lk (own_n w) 9)))), .val (.int (1 : Int32))]) rfl (pc' := 345) rfl ?_
  refine C.iload at_345 rfl (pc' := 347) rfl ?_
  refine C.aload at_347 rfl (pc' := 349) rfl ?_
  refine C.bipush at_349 (v := 10) rfl (pc' := 351) rfl ?_
  refine C.iload at_351 rfl (pc' := 353) rfl ?_
  refine C.iload at_353 rfl (pc' := 355) rfl ?_
  refine C.lload at_355 rfl (pc' := 357) rfl ?_
  refine C.iload at_357 rfl (pc' := 359) rfl ?_
  refine C.callSP (c_same l Z a0 hw [] n0 h39 o8 _ 10 a (own_lk (own_n w) 9) w f _ VE (by decide) ha4 (own_lk_le _ 9) (own_getE (by decide))) (i1 := 10) (i2 := 11) (i3 := 3) (i4 := 12) rfl rfl rfl rfl (by decide) pd_3 rfl (argsL := [(.ref o8), (.int (10 : Int32)), (.int (Int32.ofNat a)), (.int (Int32.ofNat (own_lk (own_n w) 9))), (.long w), (.int f)]) rfl (rest := [(.int (1 : Int32))]) rfl rfl (W := 1) rfl (by decide) (by decide) (by decide) (by decide) at_359 (pc' := 362) rfl (k' := 1) rfl (n' := 14) rfl ?_
  refine castI (show (b2i (decide (own_ex (own_n w) a (own_lk (own_n w) 9) f 10 = own_ex (own_n w) a (own_lk (own_n w) 9) f 10))) = (1 : Int32) from by rw [decide_eq_true rfl]; rfl) ?_
  refine C.iand at_362 (pc' := 363) rfl ?_
  refine castI (show ((1 : Int32) &&& (1 : Int32)) = (1 : Int32) from by decide) ?_
  refine C.istore at_363 (ls' := #[.val (.long nn), .second, .val (.int s), .val (.int aa), .val (.int ff), .val (.long w), .second, .val (.int (Int32.ofNat a)), .val (.int f), .val (.ref o8), .val (.int (Int32.ofNat (own_lk (own_n w) 9))), .val (.int (Int32.ofNat (a + (own_lk (own_n w) 9)))), .val (.int (1 : Int32))]) rfl (pc' := 365) rfl ?_
  refine C.iload at_365 rfl (pc' := 367) rfl ?_
  refine C.aload at_367 rfl (pc' := 369) rfl ?_
  refine C.bipush at_369 (v := 11) rfl (pc' := 371) rfl ?_
  refine C.iload at_371 rfl (pc' := 373) rfl ?_
  refine C.iload at_373 rfl (pc' := 375) rfl ?_
  refine C.lload at_375 rfl (pc' := 377) rfl ?_
  refine C.iload at_377 rfl (pc' := 379) rfl ?_
  refine C.callSP (c_same l Z a0 hw [] n0 h39 o8 _ 11 a (own_lk (own_n w) 9) w f _ VE (by decide) ha4 (own_lk_le _ 9) (own_getE (by decide))) (i1 := 10) (i2 := 11) (i3 := 3) (i4 := 12) rfl rfl rfl rfl (by decide) pd_3 rfl (argsL := [(.ref o8), (.int (11 : Int32)), (.int (Int32.ofNat a)), (.int (Int32.ofNat (own_lk (own_n w) 9))), (.long w), (.int f)]) rfl (rest := [(.int (1 : Int32))]) rfl rfl (W := 1) rfl (by decide) (by decide) (by decide) (by decide) at_379 (pc' := 382) rfl (k' := 1) rfl (n' := 14) rfl ?_
  refine castI (show (b2i (decide (own_ex (own_n w) a (own_lk (own_n w) 9) f 11 = own_ex (own_n w) a (own_lk (own_n w) 9) f 11))) = (1 : Int32) from by rw [decide_eq_true rfl]; rfl) ?_
  refine C.iand at_382 (pc' := 383) rfl ?_
  refine castI (show ((1 : Int32) &&& (1 : Int32)) = (1 : Int32) from by decide) ?_
  refine C.istore at_383 (ls' := #[.val (.long nn), .second, .val (.int s), .val (.int aa), .val (.int ff), .val (.long w), .second, .val (.int (Int32.ofNat a)), .val (.int f), .val (.ref o8), .val (.int (Int32.ofNat (own_lk (own_n w) 9))), .val (.int (Int32.ofNat (a + (own_lk (own_n w) 9)))), .val (.int (1 : Int32))]) rfl (pc' := 385) rfl ?_
  refine C.iload at_385 rfl (pc' := 387) rfl ?_
  refine C.aload at_387 rfl (pc' := 389) rfl ?_
  refine C.bipush at_389 (v := 12) rfl (pc' := 391) rfl ?_
  refine C.iload at_391 rfl (pc' := 393) rfl ?_
  refine C.iload at_393 rfl (pc' := 395) rfl ?_
  refine C.lload at_395 rfl (pc' := 397) rfl ?_
  refine C.iload at_397 rfl (pc' := 399) rfl ?_
  refine C.callSP (c_same l Z a0 hw [] n0 h39 o8 _ 12 a (own_lk (own_n w) 9) w f _ VE (by decide) ha4 (own_lk_le _ 9) (own_getE (by decide))) (i1 := 10) (i2 := 11) (i3 := 3) (i4 := 12) rfl rfl rfl rfl (by decide) pd_3 rfl (argsL := [(.ref o8), (.int (12 : Int32)), (.int (Int32.ofNat a)), (.int (Int32.ofNat (own_lk (own_n w) 9))), (.long w), (.int f)]) rfl (rest := [(.int (1 : Int32))]) rfl rfl (W := 1) rfl (by decide) (by decide) (by decide) (by decide) at_399 (pc' := 402) rfl (k' := 1) rfl (n' := 14) rfl ?_
  refine castI (show (b2i (decide (own_ex (own_n w) a (own_lk (own_n w) 9) f 12 = own_ex (own_n w) a (own_lk (own_n w) 9) f 12))) = (1 : Int32) from by rw [decide_eq_true rfl]; rfl) ?_
  refine C.iand at_402 (pc' := 403) rfl ?_
  refine castI (show ((1 : Int32) &&& (1 : Int32)) = (1 : Int32) from by decide) ?_
  refine C.istore at_403 (ls' := #[.val (.long nn), .second, .val (.int s), .val (.int aa), .val (.int ff), .val (.long w), .second, .val (.int (Int32.ofNat a)), .val (.int f), .val (.ref o8), .val (.int (Int32.ofNat (own_lk (own_n w) 9))), .val (.int (Int32.ofNat (a + (own_lk (own_n w) 9)))), .val (.int (1 : Int32))]) rfl (pc' := 405) rfl ?_
  refine C.iload at_405 rfl (pc' := 407) rfl ?_
  refine C.aload at_407 rfl (pc' := 409) rfl ?_
  refine C.bipush at_409 (v := 13) rfl (pc' := 411) rfl ?_
  refine C.iload at_411 rfl (pc' := 413) rfl ?_
  refine C.iload at_413 rfl (pc' := 415) rfl ?_
  refine C.lload at_415 rfl (pc' := 417) rfl ?_
  refine C.iload at_417 rfl (pc' := 419) rfl ?_
  refine C.callSP (c_same l Z a0 hw [] n0 h39 o8 _ 13 a (own_lk (own_n w) 9) w f _ VE (by decide) ha4 (own_lk_le _ 9) (own_getE (by decide))) (i1 := 10) (i2 := 11) (i3 := 3) (i4 := 12) rfl rfl rfl rfl (by decide) pd_3 rfl (argsL := [(.ref o8), (.int (13 : Int32)), (.int (Int32.ofNat a)), (.int (Int32.ofNat (own_lk (own_n w) 9))), (.long w), (.int f)]) rfl (rest := [(.int (1 : Int32))]) rfl rfl (W := 1) rfl (by decide) (by decide) (by decide) (by decide) at_419 (pc' := 422) rfl (k' := 1) rfl (n' := 14) rfl ?_
  refine castI (show (b2i (decide (own_ex (own_n w) a (own_lk (own_n w) 9) f 13 = own_ex (own_n w) a (own_lk (own_n w) 9) f 13))) = (1 : Int32) from by rw [decide_eq_true rfl]; rfl) ?_
  refine C.iand at_422 (pc' := 423) rfl ?_
  refine castI (show ((1 : Int32) &&& (1 : Int32)) = (1 : Int32) from by decide) ?_
  refine C.istore at_423 (ls' := #[.val (.long nn), .second, .val (.int s), .val (.int aa), .val (.int ff), .val (.long w), .second, .val (.int (Int32.ofNat a)), .val (.int f), .val (.ref o8), .val (.int (Int32.ofNat (own_lk (own_n w) 9))), .val (.int (Int32.ofNat (a + (own_lk (own_n w) 9)))), .val (.int (1 : Int32))]) rfl (pc' := 425) rfl ?_
  refine C.iload at_425 rfl (pc' := 427) rfl ?_
  exact C.nreturn (b := (1 : Int32)) at_427 rfl (by simp) (by decide) (by decide) rfl rfl
set_option maxRecDepth 65536 in
set_option maxHeartbeats 4000000 in
theorem comes_1 {Post : Tables → Env → Array Value → State → Outcome → State → Prop} (hpost : ∀ tb e args s v u, (limb_1_1.after args s (.returned v) u = true ∧ limb_1_2.after args s (.returned v) u = true ∧ True) → FrameEnd s (.returned v) u (Jvm.fieldLocs frame_1_writes args s ++ Jvm.arrayLocs frame_1_arrays args s ++ Jvm.staticLocs frame_1_statics s) 16 128 → Post tb e args s (.returned v) u) :
    ArmFor flags0 classFile x code maxLocals ret World_1 tables_1 room_1 Calls_1 rest_1 Pre_1 Post := by
  intro l hfl _ _ p e ha hc hk s m args below hf hA hF happ hP
  obtain ⟨hcalls, hrest, hpre⟩ := hP
  obtain ⟨-, -, -, hnamed, -, -, -, hat⟩ := (Spec.applies_iff hf).mp happ
  obtain ⟨hg, hn⟩ := and_e (Cond.before_iff.mp (show (Jvm.Cond.and given_1 narrow_1).before args s = true from hpre))
  obtain ⟨hcount, hb0⟩ := and_e hg
  obtain ⟨ha0, hb1⟩ := and_e hb0
  obtain ⟨ha1, hb2⟩ := and_e hb1
  obtain ⟨ha2, hb3⟩ := and_e hb2
  obtain ⟨w0, w1, w2, w3, rfl⟩ : ∃ w0 w1 w2 w3 : Value, args = #[w0, w1, w2, w3] := by
    have hs : args.size = 4 := by simpa [Cond.value, given_1] using hcount
    obtain ⟨L⟩ := args
    match L, hs with
    | [w0, w1, w2, w3], _ => exact ⟨w0, w1, w2, w3, rfl⟩
  have hw := fun d (hd : d ∈ tables_1) => atoms_spec (ws := Jvm.Cond.code x code maxLocals ret :: tables_1) hat d (List.mem_cons_of_mem _ hd)
  obtain ⟨i0, e0⟩ := isL_v ha0
  obtain rfl : w0 = (.long i0) := Option.some.inj e0
  obtain ⟨i1, e1⟩ := is_v ha1
  obtain rfl : w1 = (.int i1) := Option.some.inj e1
  obtain ⟨i2, e2⟩ := is_v ha2
  obtain rfl : w2 = (.int i2) := Option.some.inj e2
  obtain ⟨i3, e3⟩ := is_v hb3
  obtain rfl : w3 = (.int i3) := Option.some.inj e3
  obtain ⟨n, o, h1, h2, h3, _, L, rfl, ⟨rfl, N⟩, hq⟩ := c_law l s _ hw tables_1 s.heap.size s.heap i0 i1 i2 i3 (Nat.le_refl _) p e ha hc hk s m _ below hf ((Spec.applies_iff_loose hf).mp happ).1 ⟨rfl, State.Warmed39.refl s, rfl⟩ trivial
  refine ⟨n, _, h1, h2, h3, hpost _ _ _ _ _ _ ⟨Cond.after_iff.mpr rfl, Cond.after_iff.mpr (eq_i res_at (Term.int_eval (1)) rfl), trivial⟩ ⟨hq.1, hq.2.1, (hq.2.2.sift fun y hy => Or.inr (N y hy)).mono (by decide) (by decide)⟩⟩
theorem main_1_1 : Claimed_1_1 := comes_1 fun _ _ _ _ _ _ h hF => ⟨h.1, hF⟩
theorem main_1_2 : Claimed_1_2 := comes_1 fun _ _ _ _ _ _ h hF => ⟨h.2.1, hF⟩
end Jvm.Pilot.@@N@@
namespace Jvm.Pilot.@@N@@
open Jvm Jvm.ClassFile Sem Op Lib Jvm.Free Jvm.Stand Jvm.Pilot.@@N@@.Jvm.D
/-! MADE BY PROGRAM (witnessworld.py) out of the Statement's table words and the real class files: 9 classes; the members and pool entries that the words name. The judged class is class 1, her method 1. -/
namespace start1
open Jvm.ClassFile
def u (s : String) : CpInfo := .utf8 (stringToUtf16 s)
/-- a pool by its gaps: so many unusable entries, then the entry; so many at the end -/
def gap : Nat → List CpInfo → List CpInfo
  | 0, r => r
  | n + 1, r => .unusable :: gap n r
def poolList (es : List (Nat × CpInfo)) (last : Nat) : List CpInfo := es.foldr (fun e r => gap e.1 (e.2 :: r)) (gap last [])
def pool (es : List (Nat × CpInfo)) (last : Nat) : Array CpInfo := ⟨poolList es last⟩
def fileOf (pool : Array CpInfo) (this : Nat) (attrs : Array Attribute := #[]) (ms : Array MethodInfo := #[]) (fl : Nat := 33) (sup : Nat := 0) (ifs : Array Nat := #[]) (fds : Array FieldInfo := #[]) : ClassFile where
  minorVersion := 0
  majorVersion := 65
  constantPool := pool
  accessFlags := fl
  thisClass := this
  superClass := sup
  interfaces := ifs
  fields := fds
  methods := ms
  attributes := attrs
def plain (name : String) (sup : Option ClassId) : Class where
  name := name
  kind := .ordinary
  loader := none
  accessFlags := 33
  super := sup
  interfaces := #[]
  cf := none
  fields := #[]
  methods := #[]
  instanceTypes := #[]
  staticTypes := #[]
  resolved := #[]
  callSites := []
  init := .initialized
  statics := none
  mirror := none

def pool0 : Array CpInfo := pool [(5, u "<init>"), (0, u "()V"), (1, .class_ 10), (1, u "java/lang/Object")] 113

def k0m0 : Method := { name := "<init>", desc := "()V", sig := { parameters := [], returnType := none }, accessFlags := 1, code := none }
/-- java/lang/Object -/
def k0 : Class := { plain "java/lang/Object" none with
  accessFlags := 33
  interfaces := #[]
  cf := some (fileOf pool0 8 #[] #[{ accessFlags := 1, nameIndex := 5, descriptorIndex := 6, attributes := #[] }] 33 0 #[] #[])
  fields := #[]
  methods := #[k0m0]
  instanceTypes := #[]
  staticTypes := #[]
  resolved := Array.replicate 124 none
  statics := none }

def pool1 : Array CpInfo := pool [(2, .class_ 4), (1, u "java/lang/Object"), (0, u "<init>"), (0, u "()V"), (0, .methodref 8 9), (0, .class_ 10), (0, .nameAndType 11 12), (0, u "com/example/slotwright/slotwright/formats/PackedNumbersWritePinLaw"), (0, u "refLength"), (0, u "(J)I"), (0, .methodref 14 15), (0, .class_ 16), (0, .nameAndType 17 18), (0, u "com/example/slotwright/slotwright/formats/PackedNumbers"), (0, u "write"), (0, u "([BIJ)I"), (0, .methodref 8 20), (0, .nameAndType 21 22), (0, u "same"), (0, u "([BIIIJB)Z"), (0, .methodref 8 24), (0, .nameAndType 25 26), (0, u "refByte"), (0, u "(JI)B"), (0, .long 127), (3, u "law"), (0, u "(JIII)Z")] 5

def k1m0 : Method := { name := "<init>", desc := "()V", sig := { parameters := [], returnType := none }, accessFlags := 1, code := none }
def k1c1 : Code := { maxStack := 8, maxLocals := 13, code := code, exceptionTable := #[], attributes := #[] }
def k1m1 : Method := { name := "law", desc := "(JIII)Z", sig := { parameters := [.long, .int, .int, .int], returnType := some .boolean }, accessFlags := 9, code := some k1c1 }
def k1c2 : Code := { maxStack := 4, maxLocals := 3, code := method_3_code, exceptionTable := #[], attributes := #[] }
def k1m2 : Method := { name := "refLength", desc := "(J)I", sig := { parameters := [.long], returnType := some .int }, accessFlags := 10, code := some k1c2 }
def k1c3 : Code := { maxStack := 4, maxLocals := 8, code := method_4_code, exceptionTable := #[], attributes := #[] }
def k1m3 : Method := { name := "same", desc := "([BIIIJB)Z", sig := { parameters := [(.array .byte), .int, .int, .int, .long, .byte], returnType := some .boolean }, accessFlags := 10, code := some k1c3 }
def k1c4 : Code := { maxStack := 4, maxLocals := 5, code := method_5_code, exceptionTable := #[], attributes := #[] }
def k1m4 : Method := { name := "refByte", desc := "(JI)B", sig := { parameters := [.long, .int], returnType := some .byte }, accessFlags := 10, code := some k1c4 }
/-- com/example/slotwright/slotwright/formats/PackedNumbersWritePinLaw -/
def k1 : Class := { plain "com/example/slotwright/slotwright/formats/PackedNumbersWritePinLaw" (some 0) with
  accessFlags := 49
  interfaces := #[]
  cf := some (fileOf pool1 8 #[] #[{ accessFlags := 1, nameIndex := 5, descriptorIndex := 6, attributes := #[] }, { accessFlags := 9, nameIndex := 31, descriptorIndex := 32, attributes := #[] }, { accessFlags := 10, nameIndex := 11, descriptorIndex := 12, attributes := #[] }, { accessFlags := 10, nameIndex := 21, descriptorIndex := 22, attributes := #[] }, { accessFlags := 10, nameIndex := 25, descriptorIndex := 26, attributes := #[] }] 49 2 #[] #[])
  fields := #[]
  methods := #[k1m0, k1m1, k1m2, k1m3, k1m4]
  instanceTypes := #[]
  staticTypes := #[]
  resolved := Array.replicate 38 none
  statics := none }

def pool2 : Array CpInfo := pool [(2, .class_ 4), (1, u "java/lang/Object"), (0, u "<init>"), (0, u "()V"), (0, .long 18446744073709551488), (1, .long 127), (1, .long 128), (1, .class_ 14), (0, u "com/example/slotwright/slotwright/formats/PackedNumbers"), (0, u "MOST_BYTES"), (0, u "I"), (7, u "write"), (0, u "([BIJ)I"), (6, .class_ 33), (0, u "com/example/slotwright/slotwright/formats/PackedNumbers$Reader")] 2

def k2m0 : Method := { name := "<init>", desc := "()V", sig := { parameters := [], returnType := none }, accessFlags := 2, code := none }
def k2c1 : Code := { maxStack := 6, maxLocals := 7, code := prog_195_method_3_code, exceptionTable := #[], attributes := #[] }
def k2m1 : Method := { name := "write", desc := "([BIJ)I", sig := { parameters := [(.array .byte), .int, .long], returnType := some .int }, accessFlags := 9, code := some k2c1 }
/-- com/example/slotwright/slotwright/formats/PackedNumbers -/
def k2 : Class := { plain "com/example/slotwright/slotwright/formats/PackedNumbers" (some 0) with
  accessFlags := 49
  interfaces := #[]
  cf := some (fileOf pool2 13 #[.nestMembers #[32]] #[{ accessFlags := 2, nameIndex := 5, descriptorIndex := 6, attributes := #[] }, { accessFlags := 9, nameIndex := 24, descriptorIndex := 25, attributes := #[] }] 49 2 #[] #[{ accessFlags := 25, nameIndex := 15, descriptorIndex := 16, attributes := #[] }])
  fields := #[{ name := "MOST_BYTES", type := .int, accessFlags := 25, slot := 0, constantValue := 0 }]
  methods := #[k2m0, k2m1]
  instanceTypes := #[]
  staticTypes := #[.int]
  resolved := Array.replicate 36 none
  statics := none }

def pool3 : Array CpInfo := pool [(1, u "java/lang/Cloneable"), (0, .class_ 1), (0, u "java/lang/Object"), (0, .class_ 3)] 3

/-- java/lang/Cloneable -/
def k3 : Class := { plain "java/lang/Cloneable" (some 0) with
  accessFlags := 1537
  interfaces := #[]
  cf := some (fileOf pool3 2 #[] #[] 1537 4 #[] #[])
  fields := #[]
  methods := #[]
  instanceTypes := #[]
  staticTypes := #[]
  resolved := Array.replicate 8 none
  statics := none }

def pool4 : Array CpInfo := pool [(1, u "java/io/Serializable"), (0, .class_ 1), (0, u "java/lang/Object"), (0, .class_ 3)] 3

/-- java/io/Serializable -/
def k4 : Class := { plain "java/io/Serializable" (some 0) with
  accessFlags := 1537
  interfaces := #[]
  cf := some (fileOf pool4 2 #[] #[] 1537 4 #[] #[])
  fields := #[]
  methods := #[]
  instanceTypes := #[]
  staticTypes := #[]
  resolved := Array.replicate 8 none
  statics := none }

/-- the primitive byte -/
def k5 : Class := { plain "byte" none with kind := .primitive 'B', accessFlags := 0x411 }
/-- [B -/
def k6 : Class := { plain "[B" (some 0) with kind := .array 5 .byte, interfaces := #[3, 4], accessFlags := 1041 }

/-- the primitive int -/
def k7 : Class := { plain "int" none with kind := .primitive 'I', accessFlags := 0x411 }
/-- [I -/
def k8 : Class := { plain "[I" (some 0) with kind := .array 7 .int, interfaces := #[3, 4], accessFlags := 1041 }

def heap : Heap := #[]
def classes : Array Class := #[k0, k1, k2, k3, k4, k5, k6, k7, k8]
def interned : List (Array UInt16 × Addr) := []
def slotsUsed : Nat := 0
def theMethod : MethodId := ⟨1, 1⟩
def args0 : Array Value := #[.long 1234567, .int 3, .int 2, .int 9]
def aboutOver (below : List Frame) : State where
  vm := { classes := classes, interned := interned.toArray }
  heap := heap
  slotsUsed := slotsUsed
  threads := #[{ frames := .invoking theMethod args0 :: below }]
def below0 : List Frame := [.native { method := ⟨0, 0⟩, args := #[] }]
def about1 : State := aboutOver below0
def p0 : Program := .bare "" "" ""
def e0 : Env := launch0.env 0 0 0
theorem w_frames : about1.frames = Frame.invoking theMethod args0 :: below0 := rfl
set_option maxRecDepth 65536 in
theorem w_args : argsFit about1.vm theMethod args0 = true := by decide +kernel
set_option maxRecDepth 65536 in
theorem w_heap : heapFits about1 = true := by decide +kernel
set_option maxRecDepth 65536 in
theorem w_runnable : about1.curStatus? = some .runnable := by decide +kernel
set_option maxRecDepth 65536 in
theorem w_alone : about1.alone = true := by decide +kernel
set_option maxRecDepth 65536 in
theorem w_named : about1.methodNamed? x = some theMethod := by decide +kernel
set_option maxRecDepth 65536 in
theorem w_hears : about1.hears theMethod below0 = true := by decide +kernel
set_option maxRecDepth 65536 in
theorem w_ripe : about1.ripe theMethod args0 below0 = true := by decide +kernel
theorem w_running : about1.status = .running := rfl
set_option maxRecDepth 65536 in
theorem w_room : about1.hasRoom e0.platform room_1 = true :=
  launch0.hasRoom_least _ room_1 (by decide +kernel) (by decide +kernel) (by decide +kernel) (by decide +kernel) (by decide +kernel) (by decide +kernel)
theorem allAtoms_all (ts : List Jvm.Cond) (a : Array Jvm.Value) (st : Jvm.State) : (allAtoms ts).before a st = ts.all (fun c => c.before a st) := by
  induction ts with
  | nil => rfl
  | cons c t ih =>
    show (Jvm.Cond.and c (allAtoms t)).before a st = _
    rw [Jvm.Cond.before_and, ih, List.all_cons]
def words1 : List Jvm.Cond := Jvm.Cond.code x code maxLocals ret :: tables_1
/-- a 'code' word, met by the world's own term for the bytes: nothing is compared byte by byte -/
theorem code_word {y : MethodName} {bytes : ByteArray} {mx : Nat} {rt : Option FieldType} {a : Array Value} {s : State} {m : MethodId} {meth : Method} {c : Code} (h1 : s.methodNamed? y = some m) (h2 : s.vm.method? m = some meth) (h3 : meth.code = some c) (h4 : c.code = bytes)
    (h5 : (c.maxLocals == mx && c.exceptionTable.isEmpty && decide (c.maxStack ≤ mostOperands) && decide (meth.sig.returnType = rt) && !meth.locks && decide (parseMethodDescriptor y.desc = some meth.sig)) = true) : (Jvm.Cond.code y bytes mx rt).before a s = true := by
  simp only [Bool.and_eq_true, beq_iff_eq, Bool.not_eq_true', decide_eq_true_eq] at h5
  obtain ⟨⟨⟨⟨⟨g1, g2⟩, g3⟩, g4⟩, g5⟩, g6⟩ := h5
  simp [Cond.before, Cond.holds, Cond.value, h1, h2, h3, h4, g1, g2, g3, g4, g5, g6]
def isCode : Jvm.Cond → Bool
  | .code _ _ _ _ => true
  | _ => false
theorem all_split {L : List Jvm.Cond} {P : Jvm.Cond → Bool} (h1 : L.all (fun c => isCode c || P c) = true) (h2 : ∀ c ∈ L.filter isCode, P c = true) : L.all P = true := by
  refine List.all_eq_true.mpr fun c hc => ?_
  have h := List.all_eq_true.mp h1 c hc
  rcases Bool.eq_false_or_eq_true (isCode c) with hi | hi
  · exact h2 c (List.mem_filter.mpr ⟨hc, hi⟩)
  · simpa [hi] using h
set_option maxRecDepth 65536 in
theorem w_c0 : (Jvm.Cond.code x code maxLocals ret).before args0 about1 = true := code_word (m := ⟨1, 1⟩) (meth := k1m1) (c := k1c1) (by decide +kernel) rfl rfl rfl (by decide +kernel)
set_option maxRecDepth 65536 in
theorem w_c1 : (Jvm.Cond.code ({ cls := "com/example/slotwright/slotwright/formats/PackedNumbersWritePinLaw", name := "refLength", desc := "(J)I" } : Jvm.MethodName) method_3_code (3 : Nat) (Option.some Jvm.ClassFile.FieldType.int)).before args0 about1 = true := code_word (m := ⟨1, 2⟩) (meth := k1m2) (c := k1c2) (by decide +kernel) rfl rfl rfl (by decide +kernel)
set_option maxRecDepth 65536 in
theorem w_c2 : (Jvm.Cond.code ({ cls := "com/example/slotwright/slotwright/formats/PackedNumbers", name := "write", desc := "([BIJ)I" } : Jvm.MethodName) prog_195_method_3_code (7 : Nat) (Option.some Jvm.ClassFile.FieldType.int)).before args0 about1 = true := code_word (m := ⟨2, 1⟩) (meth := k2m1) (c := k2c1) (by decide +kernel) rfl rfl rfl (by decide +kernel)
set_option maxRecDepth 65536 in
theorem w_c3 : (Jvm.Cond.code ({ cls := "com/example/slotwright/slotwright/formats/PackedNumbersWritePinLaw", name := "same", desc := "([BIIIJB)Z" } : Jvm.MethodName) method_4_code (8 : Nat) (Option.some Jvm.ClassFile.FieldType.boolean)).before args0 about1 = true := code_word (m := ⟨1, 3⟩) (meth := k1m3) (c := k1c3) (by decide +kernel) rfl rfl rfl (by decide +kernel)
set_option maxRecDepth 65536 in
theorem w_c4 : (Jvm.Cond.code ({ cls := "com/example/slotwright/slotwright/formats/PackedNumbersWritePinLaw", name := "refByte", desc := "(JI)B" } : Jvm.MethodName) method_5_code (5 : Nat) (Option.some Jvm.ClassFile.FieldType.byte)).before args0 about1 = true := code_word (m := ⟨1, 4⟩) (meth := k1m4) (c := k1c4) (by decide +kernel) rfl rfl rfl (by decide +kernel)
def codes1 : List Jvm.Cond := [Jvm.Cond.code x code maxLocals ret, Jvm.Cond.code ({ cls := "com/example/slotwright/slotwright/formats/PackedNumbersWritePinLaw", name := "refLength", desc := "(J)I" } : Jvm.MethodName) method_3_code (3 : Nat) (Option.some Jvm.ClassFile.FieldType.int), Jvm.Cond.code ({ cls := "com/example/slotwright/slotwright/formats/PackedNumbers", name := "write", desc := "([BIJ)I" } : Jvm.MethodName) prog_195_method_3_code (7 : Nat) (Option.some Jvm.ClassFile.FieldType.int), Jvm.Cond.code ({ cls := "com/example/slotwright/slotwright/formats/PackedNumbersWritePinLaw", name := "same", desc := "([BIIIJB)Z" } : Jvm.MethodName) method_4_code (8 : Nat) (Option.some Jvm.ClassFile.FieldType.boolean), Jvm.Cond.code ({ cls := "com/example/slotwright/slotwright/formats/PackedNumbersWritePinLaw", name := "refByte", desc := "(JI)B" } : Jvm.MethodName) method_5_code (5 : Nat) (Option.some Jvm.ClassFile.FieldType.byte)]
set_option maxRecDepth 65536 in
theorem codes_eq : words1.filter isCode = codes1 := rfl
theorem w_codes : ∀ c ∈ words1.filter isCode, c.before args0 about1 = true := by
  rw [codes_eq]
  intro c hc
  simp only [codes1, List.mem_cons, List.not_mem_nil, or_false] at hc
  rcases hc with rfl | rfl | rfl | rfl | rfl
  · exact w_c0
  · exact w_c1
  · exact w_c2
  · exact w_c3
  · exact w_c4
set_option maxRecDepth 65536 in
theorem w_t1 : words1.all (fun c => isCode c || c.before args0 about1) = true := by decide +kernel
theorem w_tables : (allAtoms (Jvm.Cond.code x code maxLocals ret :: tables_1)).before args0 about1 = true := by
  rw [allAtoms_all]
  show words1.all (fun c => c.before args0 about1) = true
  refine all_split ?_ w_codes
  rw [w_t1]
set_option maxRecDepth 65536 in
theorem w_case : (Jvm.Cond.and given_1 narrow_1).before args0 about1 = true := by decide +kernel
theorem w_applies : (headSpec (Jvm.Cond.code x code maxLocals ret :: tables_1) room_1).applies x e0.platform about1 = true :=
  (Spec.applies_iff w_frames).mpr ⟨w_running, w_runnable, w_alone, w_named, w_hears, w_ripe, w_room, w_tables⟩
theorem atStart : AtStart classFile x code maxLocals ret World_1 tables_1 room_1 Calls_1 rest_1 Pre_1 launch0 p0 e0 about1 theMethod args0 below0 :=
  ⟨lists_1, trivial, launch0.admits_env _ _ _, launch0.least_env, fairChoices_fair.cas, fairChoices_fair.clock, w_frames, w_args, w_heap, w_applies, trivial, trivial, w_case⟩
end start1
theorem witness_1 : WitnessClaimed_1 := ⟨start1.p0, start1.e0, start1.about1, start1.theMethod, start1.args0, start1.below0, start1.atStart⟩
end Jvm.Pilot.@@N@@
