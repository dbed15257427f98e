import JvmDerived
import JvmDerived.Pilot.@@N@@Statement
import JvmDerived.Pilot.@@N@@Code
set_option linter.unusedVariables false
set_option linter.unusedSimpArgs false
namespace Jvm.GoKit
open Sem ClassFile Op Lib Jvm.Stand Jvm.Free Jvm.LawKit Jvm.RoadKit
abbrev GT := Heap → Nat → Nat → Nat → Array Slot → List Value → Prop
def Ctr (l : Launch) (Z : State) (y : MethodName) (bytes : ByteArray) (maxL : Nat) (ret : Option FieldType) (R : Room) (n0 : Nat) (as : Array Value) (h0 : Heap) (Q : Option Value → Heap → Prop) (wl : List Jvm.Cond) : Prop :=
  MetFree l y (head1 (Jvm.Cond.code y bytes maxL ret :: wl) R) (fun a U => a = as ∧ Z.Warmed39 U.vm ∧ U.heap = h0) (fun _ _ _ _ _ => True)
    (fun _ U o U' => ∃ v L, o = .returned v ∧ (Q v U'.heap ∧ Fr n0 L) ∧ FrameEnd U o U' L R.cells R.slots)
def Go (p : Program) (l : Launch) (e : Env) (R : Room) (s : State) (m : MethodId) (args : Array Value) (below : List Frame) (meth : Method) (c : Code) (n0 : Nat) (Q : Option Value → Heap → Prop) : GT :=
  fun h k n pc ls st => ∀ T locs, Stand p l e R s m args below meth c T locs k n → T.heap = h → Fr n0 locs →
    ∃ s₂ o, Steps p.tables e below (T.setTop (mkF m pc ls st)) s₂ ∧ s₂.status = .running ∧ Ended s₂ below o ∧ ∃ v L, o = .returned v ∧ (Q v s₂.heap ∧ Fr n0 L) ∧ FrameEnd s o s₂ L R.cells R.slots
def Cx (G : GT) (l : Launch) (Z : State) (a0 : Array Value) (ws : List Jvm.Cond) (R : Room) (y : MethodName) (bytes : ByteArray) (maxL : Nat) (ret : Option FieldType) (n0 : Nat) (Q : Option Value → Heap → Prop) : Prop :=
  ∃ p e s m args below meth c, p.tables.exec = Jvm.exec ∧ c.code = bytes ∧ c.maxLocals = maxL ∧ s.vm.findClass y.cls = some m.cls ∧ meth.name = y.name ∧ meth.sig.returnType = ret ∧ meth.locks = false ∧ Z.Warmed39 s.vm ∧ (∀ d ∈ ws, d.before a0 Z = true) ∧ G = Go p l e R s m args below meth c n0 Q
def lay : List Value → List Slot
  | [] => []
  | v :: vs => if v.category = 2 then .val v :: .second :: lay vs else .val v :: lay vs
theorem lay_fold : ∀ (vs : List Value) (acc : Array Slot), vs.foldl (fun (acc : Array Slot) v => if v.category = 2 then (acc.push (.val v)).push .second else acc.push (.val v)) acc = acc ++ (lay vs).toArray
  | [], acc => by simp [lay]
  | v :: vs, acc => by
    rw [List.foldl_cons, lay_fold vs, show lay (v :: vs) = (if v.category = 2 then Slot.val v :: .second :: lay vs else .val v :: lay vs) from rfl]
    split <;> simp
theorem entry_eq (m : MethodId) {as : Array Value} {maxL k : Nat} {L1 : List Slot} {ls : Array Slot} (h1 : lay as.toList = L1) (h2 : L1.length + k = maxL) (h3 : (L1 ++ List.replicate k Slot.unset).toArray = ls) : entryFrame m as maxL = mkF m 0 ls [] := by
  subst h1 h2 h3
  unfold entryFrame argsToLocals
  have e : as.foldl (init := #[]) (fun (acc : Array Slot) v => if v.category = 2 then (acc.push (.val v)).push .second else acc.push (.val v)) = (lay as.toList).toArray := by
    rw [← Array.foldl_toList, lay_fold]; simp
  simp only [e]
  simp [mkF]
theorem Ctr.of {l : Launch} {Z : State} {a0 : Array Value} {ws : List Jvm.Cond} {R : Room} {y : MethodName} {bytes : ByteArray} {maxL : Nat} {ret : Option FieldType} {n0 : Nat} {Q : Option Value → Heap → Prop} {as : Array Value} {h0 : Heap} {wl : List Jvm.Cond} {ls : Array Slot}
    (hn : plainFor y = true) (hw : ∀ d ∈ ws, d.before a0 Z = true) (he : ∀ m, entryFrame m as maxL = mkF m 0 ls []) (H : ∀ G, Cx G l Z a0 ws R y bytes maxL ret n0 Q → G h0 0 0 0 ls []) : Ctr l Z y bytes maxL ret R n0 as h0 Q wl := by
  refine MetFree.of_bodySF hn hisR ?_
  intro p e s m args below meth c s₁ Bd hml0 hP hK
  obtain ⟨rfl, hZ, hh⟩ := hP
  have X0 : Stand p l e R s m args below meth c s₁ [] 0 0 := Stand.of_body Bd
  have e0 : s₁.heap = h0 := by rw [← hh, Bd.state]; rfl
  obtain ⟨s₂, o, h1, h2, h3, h4⟩ := H (Go p l e R s m args below meth c n0 Q) ⟨p, e, s, m, args, below, meth, c, Bd.exec, Bd.bytes, hml0, findClass_of_methodNamed Bd.named, (name_of_methodNamed Bd.named Bd.method).1, Bd.returns, Bd.notSynchronized, hZ, hw, rfl⟩ s₁ [] X0 e0 (Fr.nil n0)
  exact ⟨s₂, o, castTop (he m) h1, h2, h3, h4⟩
theorem Ctr.mono {l : Launch} {Z : State} {R : Room} {y : MethodName} {bytes : ByteArray} {maxL : Nat} {ret : Option FieldType} {n0 : Nat} {Q Q' : Option Value → Heap → Prop} {as : Array Value} {h0 : Heap} {wl : List Jvm.Cond} (H : Ctr l Z y bytes maxL ret R n0 as h0 Q wl) (hq : ∀ v h, Q v h → Q' v h) : Ctr l Z y bytes maxL ret R n0 as h0 Q' wl := by
  intro p e ha hc hk s m args below hf happ hP hK
  obtain ⟨n, o, h1, h2, h3, v, L, h4, h5, h6⟩ := H p e ha hc hk s m args below hf happ hP hK
  exact ⟨n, o, h1, h2, h3, v, L, h4, ⟨hq _ _ h5.1, h5.2⟩, h6⟩
section Laws
variable {G : GT} {k' n' : Nat} {l : Launch} {Z : State} {a0 : Array Value} {ws : List Jvm.Cond} {R : Room} {y : MethodName} {bytes : ByteArray} {maxL : Nat} {ret : Option FieldType} {n0 : Nat} {Q : Option Value → Heap → Prop} {h : Heap} {k n pc pc' pc1 pc2 : Nat} {ls ls' : Array Slot} {st rest : List Value}
theorem lift {p : Program} {e : Env} {s : State} {m : MethodId} {args : Array Value} {below : List Frame} {meth : Method} {c : Code} {st' : List Value}
    (H : ∀ T locs, Stand p l e R s m args below meth c T locs k n → T.heap = h → ∀ target, Steps p.tables e below (T.setTop (mkF m pc' ls' st')) target → Steps p.tables e below (T.setTop (mkF m pc ls st)) target)
    (hr : Go p l e R s m args below meth c n0 Q h k n pc' ls' st') : Go p l e R s m args below meth c n0 Q h k n pc ls st := by
  intro T locs X hT hF
  obtain ⟨s₂, o, h1, h2⟩ := hr T locs X hT hF
  exact ⟨s₂, o, H T locs X hT s₂ h1, h2⟩
theorem word {d : Jvm.Cond} {i : Nat} (hw : ∀ d ∈ ws, d.before a0 Z = true) (hi : ws[i]? = some d) : d.before a0 Z = true := hw _ (List.mem_of_getElem? hi)
theorem Cx.iload (C : Cx G l Z a0 ws R y bytes maxL ret n0 Q) {j : Nat} {v : Int32} (hd : decode bytes pc = .ok (.iload j, 2)) (hl : ls[j]? = some (.val (.int v))) (hp : pc + 2 = pc') (hr : G h k n pc' ls (.int v :: st)) : G h k n pc ls (st) := by
  obtain ⟨p, e, s, m, args, below, meth, c, hx, hby, hml, hown, hnm, hret, hlk, hZ, hw, rfl⟩ := C
  subst hp
  exact lift (fun T locs X _ target q => XS.iload X.here hx rfl (hb hby hd) hl q) hr
theorem Cx.lload (C : Cx G l Z a0 ws R y bytes maxL ret n0 Q) {j : Nat} {v : Int64} (hd : decode bytes pc = .ok (.lload j, 2)) (hl : ls[j]? = some (.val (.long v))) (hp : pc + 2 = pc') (hr : G h k n pc' ls (.long v :: st)) : G h k n pc ls (st) := by
  obtain ⟨p, e, s, m, args, below, meth, c, hx, hby, hml, hown, hnm, hret, hlk, hZ, hw, rfl⟩ := C
  subst hp
  exact lift (fun T locs X _ target q => XT.lload X.here hx rfl (hb hby hd) hl q) hr
theorem Cx.aload (C : Cx G l Z a0 ws R y bytes maxL ret n0 Q) {j : Nat} {v : Addr} (hd : decode bytes pc = .ok (.aload j, 2)) (hl : ls[j]? = some (.val (.ref v))) (hp : pc + 2 = pc') (hr : G h k n pc' ls (.ref v :: st)) : G h k n pc ls (st) := by
  obtain ⟨p, e, s, m, args, below, meth, c, hx, hby, hml, hown, hnm, hret, hlk, hZ, hw, rfl⟩ := C
  subst hp
  exact lift (fun T locs X _ target q => XS.aload X.here hx rfl (hb hby hd) hl rfl q) hr
theorem Cx.istore (C : Cx G l Z a0 ws R y bytes maxL ret n0 Q) {j : Nat} {x : Int32} (hd : decode bytes pc = .ok (.istore j, 2)) (hl : storeLocals ls j (.int x) = some ls') (hp : pc + 2 = pc') (hr : G h k n pc' ls' (st)) : G h k n pc ls (.int x :: st) := by
  obtain ⟨p, e, s, m, args, below, meth, c, hx, hby, hml, hown, hnm, hret, hlk, hZ, hw, rfl⟩ := C
  subst hp
  exact lift (fun T locs X _ target q => XS.istore X.here hx rfl (hb hby hd) rfl hl q) hr
theorem Cx.lstore (C : Cx G l Z a0 ws R y bytes maxL ret n0 Q) {j : Nat} {x : Int64} (hd : decode bytes pc = .ok (.lstore j, 2)) (hl : storeLocals ls j (.long x) = some ls') (hp : pc + 2 = pc') (hr : G h k n pc' ls' (st)) : G h k n pc ls (.long x :: st) := by
  obtain ⟨p, e, s, m, args, below, meth, c, hx, hby, hml, hown, hnm, hret, hlk, hZ, hw, rfl⟩ := C
  subst hp
  exact lift (fun T locs X _ target q => XT.lstore X.here hx rfl (hb hby hd) rfl hl q) hr
theorem Cx.astore (C : Cx G l Z a0 ws R y bytes maxL ret n0 Q) {j : Nat} {x : Addr} (hd : decode bytes pc = .ok (.astore j, 2)) (hl : storeLocals ls j (.ref x) = some ls') (hp : pc + 2 = pc') (hr : G h k n pc' ls' (st)) : G h k n pc ls (.ref x :: st) := by
  obtain ⟨p, e, s, m, args, below, meth, c, hx, hby, hml, hown, hnm, hret, hlk, hZ, hw, rfl⟩ := C
  subst hp
  exact lift (fun T locs X _ target q => XS.astore X.here hx rfl (hb hby hd) rfl rfl hl q) hr
theorem Cx.iloadN (C : Cx G l Z a0 ws R y bytes maxL ret n0 Q) {j : Fin 4} {v : Int32} (hd : decode bytes pc = .ok (.iload_n j, 1)) (hl : ls[j.val]? = some (.val (.int v))) (hp : pc + 1 = pc') (hr : G h k n pc' ls (.int v :: st)) : G h k n pc ls (st) := by
  obtain ⟨p, e, s, m, args, below, meth, c, hx, hby, hml, hown, hnm, hret, hlk, hZ, hw, rfl⟩ := C
  subst hp
  exact lift (fun T locs X _ target q => XS.iloadN X.here hx rfl (hb hby hd) hl q) hr
theorem Cx.lloadN (C : Cx G l Z a0 ws R y bytes maxL ret n0 Q) {j : Fin 4} {v : Int64} (hd : decode bytes pc = .ok (.lload_n j, 1)) (hl : ls[j.val]? = some (.val (.long v))) (hp : pc + 1 = pc') (hr : G h k n pc' ls (.long v :: st)) : G h k n pc ls (st) := by
  obtain ⟨p, e, s, m, args, below, meth, c, hx, hby, hml, hown, hnm, hret, hlk, hZ, hw, rfl⟩ := C
  subst hp
  exact lift (fun T locs X _ target q => XT.lloadN X.here hx rfl (hb hby hd) hl q) hr
theorem Cx.aloadN (C : Cx G l Z a0 ws R y bytes maxL ret n0 Q) {j : Fin 4} {v : Addr} (hd : decode bytes pc = .ok (.aload_n j, 1)) (hl : ls[j.val]? = some (.val (.ref v))) (hp : pc + 1 = pc') (hr : G h k n pc' ls (.ref v :: st)) : G h k n pc ls (st) := by
  obtain ⟨p, e, s, m, args, below, meth, c, hx, hby, hml, hown, hnm, hret, hlk, hZ, hw, rfl⟩ := C
  subst hp
  exact lift (fun T locs X _ target q => XS.aloadN X.here hx rfl (hb hby hd) hl rfl q) hr
theorem Cx.istoreN (C : Cx G l Z a0 ws R y bytes maxL ret n0 Q) {j : Fin 4} {x : Int32} (hd : decode bytes pc = .ok (.istore_n j, 1)) (hl : storeLocals ls j.val (.int x) = some ls') (hp : pc + 1 = pc') (hr : G h k n pc' ls' (st)) : G h k n pc ls (.int x :: st) := by
  obtain ⟨p, e, s, m, args, below, meth, c, hx, hby, hml, hown, hnm, hret, hlk, hZ, hw, rfl⟩ := C
  subst hp
  exact lift (fun T locs X _ target q => XS.istoreN X.here hx rfl (hb hby hd) rfl hl q) hr
theorem Cx.lstoreN (C : Cx G l Z a0 ws R y bytes maxL ret n0 Q) {j : Fin 4} {x : Int64} (hd : decode bytes pc = .ok (.lstore_n j, 1)) (hl : storeLocals ls j.val (.long x) = some ls') (hp : pc + 1 = pc') (hr : G h k n pc' ls' (st)) : G h k n pc ls (.long x :: st) := by
  obtain ⟨p, e, s, m, args, below, meth, c, hx, hby, hml, hown, hnm, hret, hlk, hZ, hw, rfl⟩ := C
  subst hp
  exact lift (fun T locs X _ target q => XT.lstoreN X.here hx rfl (hb hby hd) rfl hl q) hr
theorem Cx.astoreN (C : Cx G l Z a0 ws R y bytes maxL ret n0 Q) {j : Fin 4} {x : Addr} (hd : decode bytes pc = .ok (.astore_n j, 1)) (hl : storeLocals ls j.val (.ref x) = some ls') (hp : pc + 1 = pc') (hr : G h k n pc' ls' (st)) : G h k n pc ls (.ref x :: st) := by
  obtain ⟨p, e, s, m, args, below, meth, c, hx, hby, hml, hown, hnm, hret, hlk, hZ, hw, rfl⟩ := C
  subst hp
  exact lift (fun T locs X _ target q => XS.astoreN X.here hx rfl (hb hby hd) rfl rfl hl q) hr
theorem Cx.iconst (C : Cx G l Z a0 ws R y bytes maxL ret n0 Q) {i : Int} {v : Int32} (hd : decode bytes pc = .ok (.iconst i, 1)) (hv : Int32.ofInt i = v) (hp : pc + 1 = pc') (hr : G h k n pc' ls (.int v :: st)) : G h k n pc ls (st) := by
  obtain ⟨p, e, s, m, args, below, meth, c, hx, hby, hml, hown, hnm, hret, hlk, hZ, hw, rfl⟩ := C
  subst hp
  exact lift (fun T locs X _ target q => XT.iconstV X.here hx rfl v (hb hby hd) hv q) hr
theorem Cx.bipush (C : Cx G l Z a0 ws R y bytes maxL ret n0 Q) {i : Int} {v : Int32} (hd : decode bytes pc = .ok (.bipush i, 2)) (hv : (Int8.ofInt i).toInt32 = v) (hp : pc + 2 = pc') (hr : G h k n pc' ls (.int v :: st)) : G h k n pc ls (st) := by
  obtain ⟨p, e, s, m, args, below, meth, c, hx, hby, hml, hown, hnm, hret, hlk, hZ, hw, rfl⟩ := C
  subst hp
  exact lift (fun T locs X _ target q => XT.bipushV X.here hx rfl v (hb hby hd) hv q) hr
theorem Cx.sipush (C : Cx G l Z a0 ws R y bytes maxL ret n0 Q) {i : Int} {v : Int32} (hd : decode bytes pc = .ok (.sipush i, 3)) (hv : (Int16.ofInt i).toInt32 = v) (hp : pc + 3 = pc') (hr : G h k n pc' ls (.int v :: st)) : G h k n pc ls (st) := by
  obtain ⟨p, e, s, m, args, below, meth, c, hx, hby, hml, hown, hnm, hret, hlk, hZ, hw, rfl⟩ := C
  subst hp
  exact lift (fun T locs X _ target q => XT.sipushV X.here hx rfl v (hb hby hd) hv q) hr
theorem Cx.lconst (C : Cx G l Z a0 ws R y bytes maxL ret n0 Q) {i : Fin 2} {v : Int64} (hd : decode bytes pc = .ok (.lconst i, 1)) (hv : Int64.ofNat i = v) (hp : pc + 1 = pc') (hr : G h k n pc' ls (.long v :: st)) : G h k n pc ls (st) := by
  obtain ⟨p, e, s, m, args, below, meth, c, hx, hby, hml, hown, hnm, hret, hlk, hZ, hw, rfl⟩ := C
  subst hp
  exact lift (fun T locs X _ target q => XT.lconstV X.here hx rfl v (hb hby hd) hv q) hr
theorem Cx.dconst0 (C : Cx G l Z a0 ws R y bytes maxL ret n0 Q)  (hd : decode bytes pc = .ok (.dconst 0, 1))  (hp : pc + 1 = pc') (hr : G h k n pc' ls (.double FP.dconst0 :: st)) : G h k n pc ls (st) := by
  obtain ⟨p, e, s, m, args, below, meth, c, hx, hby, hml, hown, hnm, hret, hlk, hZ, hw, rfl⟩ := C
  subst hp
  exact lift (fun T locs X _ target q => XS.dconst0 X.here hx rfl (hb hby hd) rfl q) hr
theorem Cx.dconst1 (C : Cx G l Z a0 ws R y bytes maxL ret n0 Q)  (hd : decode bytes pc = .ok (.dconst 1, 1))  (hp : pc + 1 = pc') (hr : G h k n pc' ls (.double FP.dconst1 :: st)) : G h k n pc ls (st) := by
  obtain ⟨p, e, s, m, args, below, meth, c, hx, hby, hml, hown, hnm, hret, hlk, hZ, hw, rfl⟩ := C
  subst hp
  exact lift (fun T locs X _ target q => XS.dconst1 X.here hx rfl (hb hby hd) rfl q) hr
theorem Cx.iadd (C : Cx G l Z a0 ws R y bytes maxL ret n0 Q) {a b : Int32} (hd : decode bytes pc = .ok (.iadd, 1))  (hp : pc + 1 = pc') (hr : G h k n pc' ls (.int (a + b) :: st)) : G h k n pc ls (.int b :: .int a :: st) := by
  obtain ⟨p, e, s, m, args, below, meth, c, hx, hby, hml, hown, hnm, hret, hlk, hZ, hw, rfl⟩ := C
  subst hp
  exact lift (fun T locs X _ target q => XS.iadd X.here hx rfl (hb hby hd) rfl q) hr
theorem Cx.isub (C : Cx G l Z a0 ws R y bytes maxL ret n0 Q) {a b : Int32} (hd : decode bytes pc = .ok (.isub, 1))  (hp : pc + 1 = pc') (hr : G h k n pc' ls (.int (a - b) :: st)) : G h k n pc ls (.int b :: .int a :: st) := by
  obtain ⟨p, e, s, m, args, below, meth, c, hx, hby, hml, hown, hnm, hret, hlk, hZ, hw, rfl⟩ := C
  subst hp
  exact lift (fun T locs X _ target q => XS.isub X.here hx rfl (hb hby hd) rfl q) hr
theorem Cx.imul (C : Cx G l Z a0 ws R y bytes maxL ret n0 Q) {a b : Int32} (hd : decode bytes pc = .ok (.imul, 1))  (hp : pc + 1 = pc') (hr : G h k n pc' ls (.int (a * b) :: st)) : G h k n pc ls (.int b :: .int a :: st) := by
  obtain ⟨p, e, s, m, args, below, meth, c, hx, hby, hml, hown, hnm, hret, hlk, hZ, hw, rfl⟩ := C
  subst hp
  exact lift (fun T locs X _ target q => XS.imul X.here hx rfl (hb hby hd) rfl q) hr
theorem Cx.iand (C : Cx G l Z a0 ws R y bytes maxL ret n0 Q) {a b : Int32} (hd : decode bytes pc = .ok (.iand, 1))  (hp : pc + 1 = pc') (hr : G h k n pc' ls (.int (a &&& b) :: st)) : G h k n pc ls (.int b :: .int a :: st) := by
  obtain ⟨p, e, s, m, args, below, meth, c, hx, hby, hml, hown, hnm, hret, hlk, hZ, hw, rfl⟩ := C
  subst hp
  exact lift (fun T locs X _ target q => XS.iand X.here hx rfl (hb hby hd) rfl q) hr
theorem Cx.ior (C : Cx G l Z a0 ws R y bytes maxL ret n0 Q) {a b : Int32} (hd : decode bytes pc = .ok (.ior, 1))  (hp : pc + 1 = pc') (hr : G h k n pc' ls (.int (a ||| b) :: st)) : G h k n pc ls (.int b :: .int a :: st) := by
  obtain ⟨p, e, s, m, args, below, meth, c, hx, hby, hml, hown, hnm, hret, hlk, hZ, hw, rfl⟩ := C
  subst hp
  exact lift (fun T locs X _ target q => XT.ior X.here hx rfl (hb hby hd) rfl q) hr
theorem Cx.ixor (C : Cx G l Z a0 ws R y bytes maxL ret n0 Q) {a b : Int32} (hd : decode bytes pc = .ok (.ixor, 1))  (hp : pc + 1 = pc') (hr : G h k n pc' ls (.int (a ^^^ b) :: st)) : G h k n pc ls (.int b :: .int a :: st) := by
  obtain ⟨p, e, s, m, args, below, meth, c, hx, hby, hml, hown, hnm, hret, hlk, hZ, hw, rfl⟩ := C
  subst hp
  exact lift (fun T locs X _ target q => XT.ixor X.here hx rfl (hb hby hd) rfl q) hr
theorem Cx.ladd (C : Cx G l Z a0 ws R y bytes maxL ret n0 Q) {a b : Int64} (hd : decode bytes pc = .ok (.ladd, 1))  (hp : pc + 1 = pc') (hr : G h k n pc' ls (.long (a + b) :: st)) : G h k n pc ls (.long b :: .long a :: st) := by
  obtain ⟨p, e, s, m, args, below, meth, c, hx, hby, hml, hown, hnm, hret, hlk, hZ, hw, rfl⟩ := C
  subst hp
  exact lift (fun T locs X _ target q => XT.ladd X.here hx rfl (hb hby hd) rfl q) hr
theorem Cx.lsub (C : Cx G l Z a0 ws R y bytes maxL ret n0 Q) {a b : Int64} (hd : decode bytes pc = .ok (.lsub, 1))  (hp : pc + 1 = pc') (hr : G h k n pc' ls (.long (a - b) :: st)) : G h k n pc ls (.long b :: .long a :: st) := by
  obtain ⟨p, e, s, m, args, below, meth, c, hx, hby, hml, hown, hnm, hret, hlk, hZ, hw, rfl⟩ := C
  subst hp
  exact lift (fun T locs X _ target q => XT.lsub X.here hx rfl (hb hby hd) rfl q) hr
theorem Cx.lmul (C : Cx G l Z a0 ws R y bytes maxL ret n0 Q) {a b : Int64} (hd : decode bytes pc = .ok (.lmul, 1))  (hp : pc + 1 = pc') (hr : G h k n pc' ls (.long (a * b) :: st)) : G h k n pc ls (.long b :: .long a :: st) := by
  obtain ⟨p, e, s, m, args, below, meth, c, hx, hby, hml, hown, hnm, hret, hlk, hZ, hw, rfl⟩ := C
  subst hp
  exact lift (fun T locs X _ target q => XT.lmul X.here hx rfl (hb hby hd) rfl q) hr
theorem Cx.land (C : Cx G l Z a0 ws R y bytes maxL ret n0 Q) {a b : Int64} (hd : decode bytes pc = .ok (.land, 1))  (hp : pc + 1 = pc') (hr : G h k n pc' ls (.long (a &&& b) :: st)) : G h k n pc ls (.long b :: .long a :: st) := by
  obtain ⟨p, e, s, m, args, below, meth, c, hx, hby, hml, hown, hnm, hret, hlk, hZ, hw, rfl⟩ := C
  subst hp
  exact lift (fun T locs X _ target q => XT.land X.here hx rfl (hb hby hd) rfl q) hr
theorem Cx.lor (C : Cx G l Z a0 ws R y bytes maxL ret n0 Q) {a b : Int64} (hd : decode bytes pc = .ok (.lor, 1))  (hp : pc + 1 = pc') (hr : G h k n pc' ls (.long (a ||| b) :: st)) : G h k n pc ls (.long b :: .long a :: st) := by
  obtain ⟨p, e, s, m, args, below, meth, c, hx, hby, hml, hown, hnm, hret, hlk, hZ, hw, rfl⟩ := C
  subst hp
  exact lift (fun T locs X _ target q => XT.lor X.here hx rfl (hb hby hd) rfl q) hr
theorem Cx.lxor (C : Cx G l Z a0 ws R y bytes maxL ret n0 Q) {a b : Int64} (hd : decode bytes pc = .ok (.lxor, 1))  (hp : pc + 1 = pc') (hr : G h k n pc' ls (.long (a ^^^ b) :: st)) : G h k n pc ls (.long b :: .long a :: st) := by
  obtain ⟨p, e, s, m, args, below, meth, c, hx, hby, hml, hown, hnm, hret, hlk, hZ, hw, rfl⟩ := C
  subst hp
  exact lift (fun T locs X _ target q => XT.lxor X.here hx rfl (hb hby hd) rfl q) hr
theorem Cx.ishl (C : Cx G l Z a0 ws R y bytes maxL ret n0 Q) {a b : Int32} (hd : decode bytes pc = .ok (.ishl, 1))  (hp : pc + 1 = pc') (hr : G h k n pc' ls (.int (a <<< (b &&& 31)) :: st)) : G h k n pc ls (.int b :: .int a :: st) := by
  obtain ⟨p, e, s, m, args, below, meth, c, hx, hby, hml, hown, hnm, hret, hlk, hZ, hw, rfl⟩ := C
  subst hp
  exact lift (fun T locs X _ target q => XT.ishl X.here hx rfl (hb hby hd) rfl q) hr
theorem Cx.ishr (C : Cx G l Z a0 ws R y bytes maxL ret n0 Q) {a b : Int32} (hd : decode bytes pc = .ok (.ishr, 1))  (hp : pc + 1 = pc') (hr : G h k n pc' ls (.int (a >>> (b &&& 31)) :: st)) : G h k n pc ls (.int b :: .int a :: st) := by
  obtain ⟨p, e, s, m, args, below, meth, c, hx, hby, hml, hown, hnm, hret, hlk, hZ, hw, rfl⟩ := C
  subst hp
  exact lift (fun T locs X _ target q => XT.ishr X.here hx rfl (hb hby hd) rfl q) hr
theorem Cx.iushr (C : Cx G l Z a0 ws R y bytes maxL ret n0 Q) {a b : Int32} (hd : decode bytes pc = .ok (.iushr, 1))  (hp : pc + 1 = pc') (hr : G h k n pc' ls (.int (XT.ushr a b) :: st)) : G h k n pc ls (.int b :: .int a :: st) := by
  obtain ⟨p, e, s, m, args, below, meth, c, hx, hby, hml, hown, hnm, hret, hlk, hZ, hw, rfl⟩ := C
  subst hp
  exact lift (fun T locs X _ target q => XT.iushr X.here hx rfl (hb hby hd) rfl q) hr
theorem Cx.lshl (C : Cx G l Z a0 ws R y bytes maxL ret n0 Q) {a : Int64} {b : Int32} (hd : decode bytes pc = .ok (.lshl, 1))  (hp : pc + 1 = pc') (hr : G h k n pc' ls (.long (a <<< (b.toInt64 &&& 63)) :: st)) : G h k n pc ls (.int b :: .long a :: st) := by
  obtain ⟨p, e, s, m, args, below, meth, c, hx, hby, hml, hown, hnm, hret, hlk, hZ, hw, rfl⟩ := C
  subst hp
  exact lift (fun T locs X _ target q => XT.lshl X.here hx rfl (hb hby hd) rfl q) hr
theorem Cx.lshr (C : Cx G l Z a0 ws R y bytes maxL ret n0 Q) {a : Int64} {b : Int32} (hd : decode bytes pc = .ok (.lshr, 1))  (hp : pc + 1 = pc') (hr : G h k n pc' ls (.long (a >>> (b.toInt64 &&& 63)) :: st)) : G h k n pc ls (.int b :: .long a :: st) := by
  obtain ⟨p, e, s, m, args, below, meth, c, hx, hby, hml, hown, hnm, hret, hlk, hZ, hw, rfl⟩ := C
  subst hp
  exact lift (fun T locs X _ target q => XT.lshr X.here hx rfl (hb hby hd) rfl q) hr
theorem Cx.lushr (C : Cx G l Z a0 ws R y bytes maxL ret n0 Q) {a : Int64} {b : Int32} (hd : decode bytes pc = .ok (.lushr, 1))  (hp : pc + 1 = pc') (hr : G h k n pc' ls (.long (XT.ushrL a b) :: st)) : G h k n pc ls (.int b :: .long a :: st) := by
  obtain ⟨p, e, s, m, args, below, meth, c, hx, hby, hml, hown, hnm, hret, hlk, hZ, hw, rfl⟩ := C
  subst hp
  exact lift (fun T locs X _ target q => XT.lushr X.here hx rfl (hb hby hd) rfl q) hr
theorem Cx.ineg (C : Cx G l Z a0 ws R y bytes maxL ret n0 Q) {a : Int32} (hd : decode bytes pc = .ok (.ineg, 1))  (hp : pc + 1 = pc') (hr : G h k n pc' ls (.int (-a) :: st)) : G h k n pc ls (.int a :: st) := by
  obtain ⟨p, e, s, m, args, below, meth, c, hx, hby, hml, hown, hnm, hret, hlk, hZ, hw, rfl⟩ := C
  subst hp
  exact lift (fun T locs X _ target q => XS.ineg X.here hx rfl (hb hby hd) rfl q) hr
theorem Cx.i2l (C : Cx G l Z a0 ws R y bytes maxL ret n0 Q) {a : Int32} (hd : decode bytes pc = .ok (.i2l, 1))  (hp : pc + 1 = pc') (hr : G h k n pc' ls (.long a.toInt64 :: st)) : G h k n pc ls (.int a :: st) := by
  obtain ⟨p, e, s, m, args, below, meth, c, hx, hby, hml, hown, hnm, hret, hlk, hZ, hw, rfl⟩ := C
  subst hp
  exact lift (fun T locs X _ target q => XT.i2l X.here hx rfl (hb hby hd) rfl q) hr
theorem Cx.l2i (C : Cx G l Z a0 ws R y bytes maxL ret n0 Q) {a : Int64} (hd : decode bytes pc = .ok (.l2i, 1))  (hp : pc + 1 = pc') (hr : G h k n pc' ls (.int a.toInt32 :: st)) : G h k n pc ls (.long a :: st) := by
  obtain ⟨p, e, s, m, args, below, meth, c, hx, hby, hml, hown, hnm, hret, hlk, hZ, hw, rfl⟩ := C
  subst hp
  exact lift (fun T locs X _ target q => XT.l2i X.here hx rfl (hb hby hd) rfl q) hr
theorem Cx.i2b (C : Cx G l Z a0 ws R y bytes maxL ret n0 Q) {a : Int32} (hd : decode bytes pc = .ok (.i2b, 1))  (hp : pc + 1 = pc') (hr : G h k n pc' ls (.int a.toInt8.toInt32 :: st)) : G h k n pc ls (.int a :: st) := by
  obtain ⟨p, e, s, m, args, below, meth, c, hx, hby, hml, hown, hnm, hret, hlk, hZ, hw, rfl⟩ := C
  subst hp
  exact lift (fun T locs X _ target q => XT.i2b X.here hx rfl (hb hby hd) rfl q) hr
theorem Cx.i2c (C : Cx G l Z a0 ws R y bytes maxL ret n0 Q) {a : Int32} (hd : decode bytes pc = .ok (.i2c, 1))  (hp : pc + 1 = pc') (hr : G h k n pc' ls (.int a.toUInt32.toUInt16.toUInt32.toInt32 :: st)) : G h k n pc ls (.int a :: st) := by
  obtain ⟨p, e, s, m, args, below, meth, c, hx, hby, hml, hown, hnm, hret, hlk, hZ, hw, rfl⟩ := C
  subst hp
  exact lift (fun T locs X _ target q => XT.i2c X.here hx rfl (hb hby hd) rfl q) hr
theorem Cx.lcmp (C : Cx G l Z a0 ws R y bytes maxL ret n0 Q) {a b : Int64} (hd : decode bytes pc = .ok (.lcmp, 1))  (hp : pc + 1 = pc') (hr : G h k n pc' ls (.int (XT.cmpL a b) :: st)) : G h k n pc ls (.long b :: .long a :: st) := by
  obtain ⟨p, e, s, m, args, below, meth, c, hx, hby, hml, hown, hnm, hret, hlk, hZ, hw, rfl⟩ := C
  subst hp
  exact lift (fun T locs X _ target q => XT.lcmp X.here hx rfl (hb hby hd) rfl q) hr
theorem Cx.dup (C : Cx G l Z a0 ws R y bytes maxL ret n0 Q) {x : Value} (hd : decode bytes pc = .ok (.dup, 1)) (hc : x.category = 1) (hp : pc + 1 = pc') (hr : G h k n pc' ls (x :: x :: st)) : G h k n pc ls (x :: st) := by
  obtain ⟨p, e, s, m, args, below, meth, c, hx, hby, hml, hown, hnm, hret, hlk, hZ, hw, rfl⟩ := C
  subst hp
  exact lift (fun T locs X _ target q => XS.dup X.here hx rfl (hb hby hd) rfl hc q) hr
theorem Cx.dup2 (C : Cx G l Z a0 ws R y bytes maxL ret n0 Q) {x z : Value} (hd : decode bytes pc = .ok (.dup2, 1)) (hc : x.category = 1) (hc' : z.category = 1) (hp : pc + 1 = pc') (hr : G h k n pc' ls (x :: z :: x :: z :: st)) : G h k n pc ls (x :: z :: st) := by
  obtain ⟨p, e, s, m, args, below, meth, c, hx, hby, hml, hown, hnm, hret, hlk, hZ, hw, rfl⟩ := C
  subst hp
  exact lift (fun T locs X _ target q => XT.dup2 X.here hx rfl (hb hby hd) rfl hc hc' q) hr
theorem Cx.iinc (C : Cx G l Z a0 ws R y bytes maxL ret n0 Q) {j : Nat} {i : Int} {v x : Int32} (hd : decode bytes pc = .ok (.iinc j i, 3)) (hv : Int32.ofInt i = v) (hl : ls[j]? = some (.val (.int x))) (hl' : storeLocals ls j (.int (x + v)) = some ls') (hp : pc + 3 = pc') (hr : G h k n pc' ls' st) : G h k n pc ls st := by
  obtain ⟨p, e, s, m, args, below, meth, c, hx, hby, hml, hown, hnm, hret, hlk, hZ, hw, rfl⟩ := C
  subst hp
  exact lift (fun T locs X _ target q => XT.iincV X.here hx rfl v (hb hby hd) hv hl hl' q) hr
theorem Cx.irem (C : Cx G l Z a0 ws R y bytes maxL ret n0 Q) {a b : Int32} (hd : decode bytes pc = .ok (.irem, 1)) (hb0 : b ≠ 0) (hp : pc + 1 = pc') (hr : G h k n pc' ls (.int (a % b) :: st)) : G h k n pc ls (.int b :: .int a :: st) := by
  obtain ⟨p, e, s, m, args, below, meth, c, hx, hby, hml, hown, hnm, hret, hlk, hZ, hw, rfl⟩ := C
  subst hp
  exact lift (fun T locs X _ target q => iremM X hx rfl (hb hby hd) rfl hb0 q) hr
theorem Cx.goto (C : Cx G l Z a0 ws R y bytes maxL ret n0 Q) {o : Int} (hd : decode bytes pc = .ok (.goto o, 3)) (ho : 0 ≤ (pc : Int) + o) (hp : ((pc : Int) + o).toNat = pc') (hr : G h k n pc' ls st) : G h k n pc ls st := by
  obtain ⟨p, e, s, m, args, below, meth, c, hx, hby, hml, hown, hnm, hret, hlk, hZ, hw, rfl⟩ := C
  exact lift (fun T locs X _ target q => XS.goto X.here hx rfl (pc0 := pc) rfl (hb hby hd) ho hp q) hr
theorem Cx.dupX2 (C : Cx G l Z a0 ws R y bytes maxL ret n0 Q) {x z w : Value} (hd : decode bytes pc = .ok (.dup_x2, 1)) (hc : x.category = 1) (hc' : z.category = 1) (hc'' : w.category = 1) (hp : pc + 1 = pc') (hr : G h k n pc' ls (x :: z :: w :: x :: st)) : G h k n pc ls (x :: z :: w :: st) := by
  obtain ⟨p, e, s, m, args, below, meth, c, hx, hby, hml, hown, hnm, hret, hlk, hZ, hw, rfl⟩ := C
  subst hp
  refine lift (fun T locs X _ target q => ?_) hr
  have h := X.here
  have hd' := hb hby hd
  show Steps p.tables e below (T.setTop { method := m, pc := pc, locals := ls, stack := x :: z :: w :: st, locked := none }) _
  jvm_step h [h.top, hx, hd', hc, hc', hc'']
  exact q
theorem Cx.icmp_eq_T (C : Cx G l Z a0 ws R y bytes maxL ret n0 Q) {a b : Int32} {o : Int} (hd : decode bytes pc = .ok (.if_icmp .eq o, 3)) (hc : a = b) (ho : 0 ≤ (pc : Int) + o) (hp : ((pc : Int) + o).toNat = pc') (hr : G h k n pc' ls st) : G h k n pc ls (.int b :: .int a :: st) := by
  obtain ⟨p, e, s, m, args, below, meth, c, hx, hby, hml, hown, hnm, hret, hlk, hZ, hw, rfl⟩ := C
  exact lift (fun T locs X _ target q => XS.icmpYes X.here hx rfl (pc0 := pc) rfl (hb hby hd) rfl (teq hc).1 ho hp q) hr
theorem Cx.icmp_eq_F (C : Cx G l Z a0 ws R y bytes maxL ret n0 Q) {a b : Int32} {o : Int} (hd : decode bytes pc = .ok (.if_icmp .eq o, 3)) (hc : ¬ a = b) (hp : pc + 3 = pc') (hr : G h k n pc' ls st) : G h k n pc ls (.int b :: .int a :: st) := by
  obtain ⟨p, e, s, m, args, below, meth, c, hx, hby, hml, hown, hnm, hret, hlk, hZ, hw, rfl⟩ := C
  subst hp
  exact lift (fun T locs X _ target q => XS.icmpNo X.here hx rfl (hb hby hd) rfl (feq hc).1 q) hr
theorem Cx.if_eq_T (C : Cx G l Z a0 ws R y bytes maxL ret n0 Q) {a : Int32} {o : Int} (hd : decode bytes pc = .ok (.ifCond .eq o, 3)) (hc : a = (0 : Int32)) (ho : 0 ≤ (pc : Int) + o) (hp : ((pc : Int) + o).toNat = pc') (hr : G h k n pc' ls st) : G h k n pc ls (.int a :: st) := by
  obtain ⟨p, e, s, m, args, below, meth, c, hx, hby, hml, hown, hnm, hret, hlk, hZ, hw, rfl⟩ := C
  exact lift (fun T locs X _ target q => XS.ifYes X.here hx rfl (pc0 := pc) rfl (hb hby hd) rfl (by rw [if0]; exact (teq hc).1) ho hp q) hr
theorem Cx.if_eq_F (C : Cx G l Z a0 ws R y bytes maxL ret n0 Q) {a : Int32} {o : Int} (hd : decode bytes pc = .ok (.ifCond .eq o, 3)) (hc : ¬ a = (0 : Int32)) (hp : pc + 3 = pc') (hr : G h k n pc' ls st) : G h k n pc ls (.int a :: st) := by
  obtain ⟨p, e, s, m, args, below, meth, c, hx, hby, hml, hown, hnm, hret, hlk, hZ, hw, rfl⟩ := C
  subst hp
  exact lift (fun T locs X _ target q => XS.ifNo X.here hx rfl (hb hby hd) rfl (by rw [if0]; exact (feq hc).1) q) hr
theorem Cx.icmp_eq (C : Cx G l Z a0 ws R y bytes maxL ret n0 Q) {a b : Int32} {o : Int} (hd : decode bytes pc = .ok (.if_icmp .eq o, 3)) (ho : 0 ≤ (pc : Int) + o) (hp : ((pc : Int) + o).toNat = pc1) (hq : pc + 3 = pc2) (h1 : a = b → G h k n pc1 ls st) (h2 : ¬ a = b → G h k n pc2 ls st) : G h k n pc ls (.int b :: .int a :: st) := by
  by_cases hc : a = b
  · exact C.icmp_eq_T hd hc ho hp (h1 hc)
  · exact C.icmp_eq_F hd hc hq (h2 hc)
theorem Cx.if_eq (C : Cx G l Z a0 ws R y bytes maxL ret n0 Q) {a : Int32} {o : Int} (hd : decode bytes pc = .ok (.ifCond .eq o, 3)) (ho : 0 ≤ (pc : Int) + o) (hp : ((pc : Int) + o).toNat = pc1) (hq : pc + 3 = pc2) (h1 : a = (0 : Int32) → G h k n pc1 ls st) (h2 : ¬ a = (0 : Int32) → G h k n pc2 ls st) : G h k n pc ls (.int a :: st) := by
  by_cases hc : a = (0 : Int32)
  · exact C.if_eq_T hd hc ho hp (h1 hc)
  · exact C.if_eq_F hd hc hq (h2 hc)
theorem Cx.icmp_ne_T (C : Cx G l Z a0 ws R y bytes maxL ret n0 Q) {a b : Int32} {o : Int} (hd : decode bytes pc = .ok (.if_icmp .ne o, 3)) (hc : ¬ a = b) (ho : 0 ≤ (pc : Int) + o) (hp : ((pc : Int) + o).toNat = pc') (hr : G h k n pc' ls st) : G h k n pc ls (.int b :: .int a :: st) := by
  obtain ⟨p, e, s, m, args, below, meth, c, hx, hby, hml, hown, hnm, hret, hlk, hZ, hw, rfl⟩ := C
  exact lift (fun T locs X _ target q => XS.icmpYes X.here hx rfl (pc0 := pc) rfl (hb hby hd) rfl (feq hc).2 ho hp q) hr
theorem Cx.icmp_ne_F (C : Cx G l Z a0 ws R y bytes maxL ret n0 Q) {a b : Int32} {o : Int} (hd : decode bytes pc = .ok (.if_icmp .ne o, 3)) (hc : a = b) (hp : pc + 3 = pc') (hr : G h k n pc' ls st) : G h k n pc ls (.int b :: .int a :: st) := by
  obtain ⟨p, e, s, m, args, below, meth, c, hx, hby, hml, hown, hnm, hret, hlk, hZ, hw, rfl⟩ := C
  subst hp
  exact lift (fun T locs X _ target q => XS.icmpNo X.here hx rfl (hb hby hd) rfl (teq hc).2 q) hr
theorem Cx.if_ne_T (C : Cx G l Z a0 ws R y bytes maxL ret n0 Q) {a : Int32} {o : Int} (hd : decode bytes pc = .ok (.ifCond .ne o, 3)) (hc : ¬ a = (0 : Int32)) (ho : 0 ≤ (pc : Int) + o) (hp : ((pc : Int) + o).toNat = pc') (hr : G h k n pc' ls st) : G h k n pc ls (.int a :: st) := by
  obtain ⟨p, e, s, m, args, below, meth, c, hx, hby, hml, hown, hnm, hret, hlk, hZ, hw, rfl⟩ := C
  exact lift (fun T locs X _ target q => XS.ifYes X.here hx rfl (pc0 := pc) rfl (hb hby hd) rfl (by rw [if0]; exact (feq hc).2) ho hp q) hr
theorem Cx.if_ne_F (C : Cx G l Z a0 ws R y bytes maxL ret n0 Q) {a : Int32} {o : Int} (hd : decode bytes pc = .ok (.ifCond .ne o, 3)) (hc : a = (0 : Int32)) (hp : pc + 3 = pc') (hr : G h k n pc' ls st) : G h k n pc ls (.int a :: st) := by
  obtain ⟨p, e, s, m, args, below, meth, c, hx, hby, hml, hown, hnm, hret, hlk, hZ, hw, rfl⟩ := C
  subst hp
  exact lift (fun T locs X _ target q => XS.ifNo X.here hx rfl (hb hby hd) rfl (by rw [if0]; exact (teq hc).2) q) hr
theorem Cx.icmp_ne (C : Cx G l Z a0 ws R y bytes maxL ret n0 Q) {a b : Int32} {o : Int} (hd : decode bytes pc = .ok (.if_icmp .ne o, 3)) (ho : 0 ≤ (pc : Int) + o) (hp : ((pc : Int) + o).toNat = pc1) (hq : pc + 3 = pc2) (h1 : ¬ a = b → G h k n pc1 ls st) (h2 : a = b → G h k n pc2 ls st) : G h k n pc ls (.int b :: .int a :: st) := by
  by_cases hc : a = b
  · exact C.icmp_ne_F hd hc hq (h2 hc)
  · exact C.icmp_ne_T hd hc ho hp (h1 hc)
theorem Cx.if_ne (C : Cx G l Z a0 ws R y bytes maxL ret n0 Q) {a : Int32} {o : Int} (hd : decode bytes pc = .ok (.ifCond .ne o, 3)) (ho : 0 ≤ (pc : Int) + o) (hp : ((pc : Int) + o).toNat = pc1) (hq : pc + 3 = pc2) (h1 : ¬ a = (0 : Int32) → G h k n pc1 ls st) (h2 : a = (0 : Int32) → G h k n pc2 ls st) : G h k n pc ls (.int a :: st) := by
  by_cases hc : a = (0 : Int32)
  · exact C.if_ne_F hd hc hq (h2 hc)
  · exact C.if_ne_T hd hc ho hp (h1 hc)
theorem Cx.icmp_lt_T (C : Cx G l Z a0 ws R y bytes maxL ret n0 Q) {a b : Int32} {o : Int} (hd : decode bytes pc = .ok (.if_icmp .lt o, 3)) (hc : a < b) (ho : 0 ≤ (pc : Int) + o) (hp : ((pc : Int) + o).toNat = pc') (hr : G h k n pc' ls st) : G h k n pc ls (.int b :: .int a :: st) := by
  obtain ⟨p, e, s, m, args, below, meth, c, hx, hby, hml, hown, hnm, hret, hlk, hZ, hw, rfl⟩ := C
  exact lift (fun T locs X _ target q => XS.icmpYes X.here hx rfl (pc0 := pc) rfl (hb hby hd) rfl (tlt hc).1 ho hp q) hr
theorem Cx.icmp_lt_F (C : Cx G l Z a0 ws R y bytes maxL ret n0 Q) {a b : Int32} {o : Int} (hd : decode bytes pc = .ok (.if_icmp .lt o, 3)) (hc : ¬ a < b) (hp : pc + 3 = pc') (hr : G h k n pc' ls st) : G h k n pc ls (.int b :: .int a :: st) := by
  obtain ⟨p, e, s, m, args, below, meth, c, hx, hby, hml, hown, hnm, hret, hlk, hZ, hw, rfl⟩ := C
  subst hp
  exact lift (fun T locs X _ target q => XS.icmpNo X.here hx rfl (hb hby hd) rfl (flt hc).1 q) hr
theorem Cx.if_lt_T (C : Cx G l Z a0 ws R y bytes maxL ret n0 Q) {a : Int32} {o : Int} (hd : decode bytes pc = .ok (.ifCond .lt o, 3)) (hc : a < (0 : Int32)) (ho : 0 ≤ (pc : Int) + o) (hp : ((pc : Int) + o).toNat = pc') (hr : G h k n pc' ls st) : G h k n pc ls (.int a :: st) := by
  obtain ⟨p, e, s, m, args, below, meth, c, hx, hby, hml, hown, hnm, hret, hlk, hZ, hw, rfl⟩ := C
  exact lift (fun T locs X _ target q => XS.ifYes X.here hx rfl (pc0 := pc) rfl (hb hby hd) rfl (by rw [if0]; exact (tlt hc).1) ho hp q) hr
theorem Cx.if_lt_F (C : Cx G l Z a0 ws R y bytes maxL ret n0 Q) {a : Int32} {o : Int} (hd : decode bytes pc = .ok (.ifCond .lt o, 3)) (hc : ¬ a < (0 : Int32)) (hp : pc + 3 = pc') (hr : G h k n pc' ls st) : G h k n pc ls (.int a :: st) := by
  obtain ⟨p, e, s, m, args, below, meth, c, hx, hby, hml, hown, hnm, hret, hlk, hZ, hw, rfl⟩ := C
  subst hp
  exact lift (fun T locs X _ target q => XS.ifNo X.here hx rfl (hb hby hd) rfl (by rw [if0]; exact (flt hc).1) q) hr
theorem Cx.icmp_lt (C : Cx G l Z a0 ws R y bytes maxL ret n0 Q) {a b : Int32} {o : Int} (hd : decode bytes pc = .ok (.if_icmp .lt o, 3)) (ho : 0 ≤ (pc : Int) + o) (hp : ((pc : Int) + o).toNat = pc1) (hq : pc + 3 = pc2) (h1 : a < b → G h k n pc1 ls st) (h2 : ¬ a < b → G h k n pc2 ls st) : G h k n pc ls (.int b :: .int a :: st) := by
  by_cases hc : a < b
  · exact C.icmp_lt_T hd hc ho hp (h1 hc)
  · exact C.icmp_lt_F hd hc hq (h2 hc)
theorem Cx.if_lt (C : Cx G l Z a0 ws R y bytes maxL ret n0 Q) {a : Int32} {o : Int} (hd : decode bytes pc = .ok (.ifCond .lt o, 3)) (ho : 0 ≤ (pc : Int) + o) (hp : ((pc : Int) + o).toNat = pc1) (hq : pc + 3 = pc2) (h1 : a < (0 : Int32) → G h k n pc1 ls st) (h2 : ¬ a < (0 : Int32) → G h k n pc2 ls st) : G h k n pc ls (.int a :: st) := by
  by_cases hc : a < (0 : Int32)
  · exact C.if_lt_T hd hc ho hp (h1 hc)
  · exact C.if_lt_F hd hc hq (h2 hc)
theorem Cx.icmp_ge_T (C : Cx G l Z a0 ws R y bytes maxL ret n0 Q) {a b : Int32} {o : Int} (hd : decode bytes pc = .ok (.if_icmp .ge o, 3)) (hc : ¬ a < b) (ho : 0 ≤ (pc : Int) + o) (hp : ((pc : Int) + o).toNat = pc') (hr : G h k n pc' ls st) : G h k n pc ls (.int b :: .int a :: st) := by
  obtain ⟨p, e, s, m, args, below, meth, c, hx, hby, hml, hown, hnm, hret, hlk, hZ, hw, rfl⟩ := C
  exact lift (fun T locs X _ target q => XS.icmpYes X.here hx rfl (pc0 := pc) rfl (hb hby hd) rfl (flt hc).2.1 ho hp q) hr
theorem Cx.icmp_ge_F (C : Cx G l Z a0 ws R y bytes maxL ret n0 Q) {a b : Int32} {o : Int} (hd : decode bytes pc = .ok (.if_icmp .ge o, 3)) (hc : a < b) (hp : pc + 3 = pc') (hr : G h k n pc' ls st) : G h k n pc ls (.int b :: .int a :: st) := by
  obtain ⟨p, e, s, m, args, below, meth, c, hx, hby, hml, hown, hnm, hret, hlk, hZ, hw, rfl⟩ := C
  subst hp
  exact lift (fun T locs X _ target q => XS.icmpNo X.here hx rfl (hb hby hd) rfl (tlt hc).2.1 q) hr
theorem Cx.if_ge_T (C : Cx G l Z a0 ws R y bytes maxL ret n0 Q) {a : Int32} {o : Int} (hd : decode bytes pc = .ok (.ifCond .ge o, 3)) (hc : ¬ a < (0 : Int32)) (ho : 0 ≤ (pc : Int) + o) (hp : ((pc : Int) + o).toNat = pc') (hr : G h k n pc' ls st) : G h k n pc ls (.int a :: st) := by
  obtain ⟨p, e, s, m, args, below, meth, c, hx, hby, hml, hown, hnm, hret, hlk, hZ, hw, rfl⟩ := C
  exact lift (fun T locs X _ target q => XS.ifYes X.here hx rfl (pc0 := pc) rfl (hb hby hd) rfl (by rw [if0]; exact (flt hc).2.1) ho hp q) hr
theorem Cx.if_ge_F (C : Cx G l Z a0 ws R y bytes maxL ret n0 Q) {a : Int32} {o : Int} (hd : decode bytes pc = .ok (.ifCond .ge o, 3)) (hc : a < (0 : Int32)) (hp : pc + 3 = pc') (hr : G h k n pc' ls st) : G h k n pc ls (.int a :: st) := by
  obtain ⟨p, e, s, m, args, below, meth, c, hx, hby, hml, hown, hnm, hret, hlk, hZ, hw, rfl⟩ := C
  subst hp
  exact lift (fun T locs X _ target q => XS.ifNo X.here hx rfl (hb hby hd) rfl (by rw [if0]; exact (tlt hc).2.1) q) hr
theorem Cx.icmp_ge (C : Cx G l Z a0 ws R y bytes maxL ret n0 Q) {a b : Int32} {o : Int} (hd : decode bytes pc = .ok (.if_icmp .ge o, 3)) (ho : 0 ≤ (pc : Int) + o) (hp : ((pc : Int) + o).toNat = pc1) (hq : pc + 3 = pc2) (h1 : ¬ a < b → G h k n pc1 ls st) (h2 : a < b → G h k n pc2 ls st) : G h k n pc ls (.int b :: .int a :: st) := by
  by_cases hc : a < b
  · exact C.icmp_ge_F hd hc hq (h2 hc)
  · exact C.icmp_ge_T hd hc ho hp (h1 hc)
theorem Cx.if_ge (C : Cx G l Z a0 ws R y bytes maxL ret n0 Q) {a : Int32} {o : Int} (hd : decode bytes pc = .ok (.ifCond .ge o, 3)) (ho : 0 ≤ (pc : Int) + o) (hp : ((pc : Int) + o).toNat = pc1) (hq : pc + 3 = pc2) (h1 : ¬ a < (0 : Int32) → G h k n pc1 ls st) (h2 : a < (0 : Int32) → G h k n pc2 ls st) : G h k n pc ls (.int a :: st) := by
  by_cases hc : a < (0 : Int32)
  · exact C.if_ge_F hd hc hq (h2 hc)
  · exact C.if_ge_T hd hc ho hp (h1 hc)
theorem Cx.icmp_gt_T (C : Cx G l Z a0 ws R y bytes maxL ret n0 Q) {a b : Int32} {o : Int} (hd : decode bytes pc = .ok (.if_icmp .gt o, 3)) (hc : b < a) (ho : 0 ≤ (pc : Int) + o) (hp : ((pc : Int) + o).toNat = pc') (hr : G h k n pc' ls st) : G h k n pc ls (.int b :: .int a :: st) := by
  obtain ⟨p, e, s, m, args, below, meth, c, hx, hby, hml, hown, hnm, hret, hlk, hZ, hw, rfl⟩ := C
  exact lift (fun T locs X _ target q => XS.icmpYes X.here hx rfl (pc0 := pc) rfl (hb hby hd) rfl (tlt hc).2.2.1 ho hp q) hr
theorem Cx.icmp_gt_F (C : Cx G l Z a0 ws R y bytes maxL ret n0 Q) {a b : Int32} {o : Int} (hd : decode bytes pc = .ok (.if_icmp .gt o, 3)) (hc : ¬ b < a) (hp : pc + 3 = pc') (hr : G h k n pc' ls st) : G h k n pc ls (.int b :: .int a :: st) := by
  obtain ⟨p, e, s, m, args, below, meth, c, hx, hby, hml, hown, hnm, hret, hlk, hZ, hw, rfl⟩ := C
  subst hp
  exact lift (fun T locs X _ target q => XS.icmpNo X.here hx rfl (hb hby hd) rfl (flt hc).2.2.1 q) hr
theorem Cx.if_gt_T (C : Cx G l Z a0 ws R y bytes maxL ret n0 Q) {a : Int32} {o : Int} (hd : decode bytes pc = .ok (.ifCond .gt o, 3)) (hc : (0 : Int32) < a) (ho : 0 ≤ (pc : Int) + o) (hp : ((pc : Int) + o).toNat = pc') (hr : G h k n pc' ls st) : G h k n pc ls (.int a :: st) := by
  obtain ⟨p, e, s, m, args, below, meth, c, hx, hby, hml, hown, hnm, hret, hlk, hZ, hw, rfl⟩ := C
  exact lift (fun T locs X _ target q => XS.ifYes X.here hx rfl (pc0 := pc) rfl (hb hby hd) rfl (by rw [if0]; exact (tlt hc).2.2.1) ho hp q) hr
theorem Cx.if_gt_F (C : Cx G l Z a0 ws R y bytes maxL ret n0 Q) {a : Int32} {o : Int} (hd : decode bytes pc = .ok (.ifCond .gt o, 3)) (hc : ¬ (0 : Int32) < a) (hp : pc + 3 = pc') (hr : G h k n pc' ls st) : G h k n pc ls (.int a :: st) := by
  obtain ⟨p, e, s, m, args, below, meth, c, hx, hby, hml, hown, hnm, hret, hlk, hZ, hw, rfl⟩ := C
  subst hp
  exact lift (fun T locs X _ target q => XS.ifNo X.here hx rfl (hb hby hd) rfl (by rw [if0]; exact (flt hc).2.2.1) q) hr
theorem Cx.icmp_gt (C : Cx G l Z a0 ws R y bytes maxL ret n0 Q) {a b : Int32} {o : Int} (hd : decode bytes pc = .ok (.if_icmp .gt o, 3)) (ho : 0 ≤ (pc : Int) + o) (hp : ((pc : Int) + o).toNat = pc1) (hq : pc + 3 = pc2) (h1 : b < a → G h k n pc1 ls st) (h2 : ¬ b < a → G h k n pc2 ls st) : G h k n pc ls (.int b :: .int a :: st) := by
  by_cases hc : b < a
  · exact C.icmp_gt_T hd hc ho hp (h1 hc)
  · exact C.icmp_gt_F hd hc hq (h2 hc)
theorem Cx.if_gt (C : Cx G l Z a0 ws R y bytes maxL ret n0 Q) {a : Int32} {o : Int} (hd : decode bytes pc = .ok (.ifCond .gt o, 3)) (ho : 0 ≤ (pc : Int) + o) (hp : ((pc : Int) + o).toNat = pc1) (hq : pc + 3 = pc2) (h1 : (0 : Int32) < a → G h k n pc1 ls st) (h2 : ¬ (0 : Int32) < a → G h k n pc2 ls st) : G h k n pc ls (.int a :: st) := by
  by_cases hc : (0 : Int32) < a
  · exact C.if_gt_T hd hc ho hp (h1 hc)
  · exact C.if_gt_F hd hc hq (h2 hc)
theorem Cx.icmp_le_T (C : Cx G l Z a0 ws R y bytes maxL ret n0 Q) {a b : Int32} {o : Int} (hd : decode bytes pc = .ok (.if_icmp .le o, 3)) (hc : ¬ b < a) (ho : 0 ≤ (pc : Int) + o) (hp : ((pc : Int) + o).toNat = pc') (hr : G h k n pc' ls st) : G h k n pc ls (.int b :: .int a :: st) := by
  obtain ⟨p, e, s, m, args, below, meth, c, hx, hby, hml, hown, hnm, hret, hlk, hZ, hw, rfl⟩ := C
  exact lift (fun T locs X _ target q => XS.icmpYes X.here hx rfl (pc0 := pc) rfl (hb hby hd) rfl (flt hc).2.2.2 ho hp q) hr
theorem Cx.icmp_le_F (C : Cx G l Z a0 ws R y bytes maxL ret n0 Q) {a b : Int32} {o : Int} (hd : decode bytes pc = .ok (.if_icmp .le o, 3)) (hc : b < a) (hp : pc + 3 = pc') (hr : G h k n pc' ls st) : G h k n pc ls (.int b :: .int a :: st) := by
  obtain ⟨p, e, s, m, args, below, meth, c, hx, hby, hml, hown, hnm, hret, hlk, hZ, hw, rfl⟩ := C
  subst hp
  exact lift (fun T locs X _ target q => XS.icmpNo X.here hx rfl (hb hby hd) rfl (tlt hc).2.2.2 q) hr
theorem Cx.if_le_T (C : Cx G l Z a0 ws R y bytes maxL ret n0 Q) {a : Int32} {o : Int} (hd : decode bytes pc = .ok (.ifCond .le o, 3)) (hc : ¬ (0 : Int32) < a) (ho : 0 ≤ (pc : Int) + o) (hp : ((pc : Int) + o).toNat = pc') (hr : G h k n pc' ls st) : G h k n pc ls (.int a :: st) := by
  obtain ⟨p, e, s, m, args, below, meth, c, hx, hby, hml, hown, hnm, hret, hlk, hZ, hw, rfl⟩ := C
  exact lift (fun T locs X _ target q => XS.ifYes X.here hx rfl (pc0 := pc) rfl (hb hby hd) rfl (by rw [if0]; exact (flt hc).2.2.2) ho hp q) hr
theorem Cx.if_le_F (C : Cx G l Z a0 ws R y bytes maxL ret n0 Q) {a : Int32} {o : Int} (hd : decode bytes pc = .ok (.ifCond .le o, 3)) (hc : (0 : Int32) < a) (hp : pc + 3 = pc') (hr : G h k n pc' ls st) : G h k n pc ls (.int a :: st) := by
  obtain ⟨p, e, s, m, args, below, meth, c, hx, hby, hml, hown, hnm, hret, hlk, hZ, hw, rfl⟩ := C
  subst hp
  exact lift (fun T locs X _ target q => XS.ifNo X.here hx rfl (hb hby hd) rfl (by rw [if0]; exact (tlt hc).2.2.2) q) hr
theorem Cx.icmp_le (C : Cx G l Z a0 ws R y bytes maxL ret n0 Q) {a b : Int32} {o : Int} (hd : decode bytes pc = .ok (.if_icmp .le o, 3)) (ho : 0 ≤ (pc : Int) + o) (hp : ((pc : Int) + o).toNat = pc1) (hq : pc + 3 = pc2) (h1 : ¬ b < a → G h k n pc1 ls st) (h2 : b < a → G h k n pc2 ls st) : G h k n pc ls (.int b :: .int a :: st) := by
  by_cases hc : b < a
  · exact C.icmp_le_F hd hc hq (h2 hc)
  · exact C.icmp_le_T hd hc ho hp (h1 hc)
theorem Cx.if_le (C : Cx G l Z a0 ws R y bytes maxL ret n0 Q) {a : Int32} {o : Int} (hd : decode bytes pc = .ok (.ifCond .le o, 3)) (ho : 0 ≤ (pc : Int) + o) (hp : ((pc : Int) + o).toNat = pc1) (hq : pc + 3 = pc2) (h1 : ¬ (0 : Int32) < a → G h k n pc1 ls st) (h2 : (0 : Int32) < a → G h k n pc2 ls st) : G h k n pc ls (.int a :: st) := by
  by_cases hc : (0 : Int32) < a
  · exact C.if_le_F hd hc hq (h2 hc)
  · exact C.if_le_T hd hc ho hp (h1 hc)
theorem Cx.ldcI (C : Cx G l Z a0 ws R y bytes maxL ret n0 Q) {i idx : Nat} {v : Int32} (w : ws[i]? = some (Jvm.Cond.constant y.cls idx v)) (hd : decode bytes pc = .ok (.ldc idx, 2)) (hp : pc + 2 = pc') (hr : G h k n pc' ls (.int v :: st)) : G h k n pc ls st := by
  obtain ⟨p, e, s, m, args, below, meth, c, hx, hby, hml, hown, hnm, hret, hlk, hZ, hw, rfl⟩ := C
  subst hp
  exact lift (fun T locs X _ target q => X.ldcInt hx hown (mvT hZ (word hw w)) (g := mkF m pc ls st) rfl (hb hby hd) target q) hr
theorem Cx.ldcJ (C : Cx G l Z a0 ws R y bytes maxL ret n0 Q) {i idx : Nat} {v : Int64} (w : ws[i]? = some (Jvm.Cond.constantLong y.cls idx v)) (hd : decode bytes pc = .ok (.ldc2_w idx, 3)) (hp : pc + 3 = pc') (hr : G h k n pc' ls (.long v :: st)) : G h k n pc ls st := by
  obtain ⟨p, e, s, m, args, below, meth, c, hx, hby, hml, hown, hnm, hret, hlk, hZ, hw, rfl⟩ := C
  subst hp
  exact lift (fun T locs X _ target q => X.ldc2Long hx hown (mvT hZ (word hw w)) (g := mkF m pc ls st) rfl (hb hby hd) target q) hr
theorem Cx.ldcD (C : Cx G l Z a0 ws R y bytes maxL ret n0 Q) {i idx : Nat} {v : UInt64} (w : ws[i]? = some (Jvm.Cond.constantDouble y.cls idx v)) (hd : decode bytes pc = .ok (.ldc2_w idx, 3)) (hp : pc + 3 = pc') (hr : G h k n pc' ls (.double v :: st)) : G h k n pc ls st := by
  obtain ⟨p, e, s, m, args, below, meth, c, hx, hby, hml, hown, hnm, hret, hlk, hZ, hw, rfl⟩ := C
  subst hp
  exact lift (fun T locs X _ target q => X.ldc2DoubleC hx hown (mvT hZ (word hw w)) (g := mkF m pc ls st) rfl (hb hby hd) target q) hr
theorem castI {a b : Int32} (q : a = b) (hr : G h k n pc ls (.int b :: st)) : G h k n pc ls (.int a :: st) := by rw [q]; exact hr
theorem castJ {a b : Int64} (q : a = b) (hr : G h k n pc ls (.long b :: st)) : G h k n pc ls (.long a :: st) := by rw [q]; exact hr
theorem cmpL_lt {a b : Int64} : XT.cmpL a b < 0 ↔ a < b := by
  unfold XT.cmpL
  split
  · rename_i q; constructor
    · intro r; exact absurd r (by decide)
    · intro r; rw [Int64.lt_iff_toInt_lt] at q r; omega
  · split
    · rename_i q; subst q; constructor
      · intro r; exact absurd r (by decide)
      · intro r; rw [Int64.lt_iff_toInt_lt] at r; omega
    · rename_i p q; constructor
      · intro _; rw [Int64.lt_iff_toInt_lt] at p ⊢; have : a.toInt ≠ b.toInt := fun r => q (Int64.toInt_inj.mp r); omega
      · intro _; decide
theorem cmpL_gt {a b : Int64} : 0 < XT.cmpL a b ↔ b < a := by
  unfold XT.cmpL
  split
  · rename_i q; exact ⟨fun _ => q, fun _ => by decide⟩
  · rename_i p
    split
    · exact ⟨fun r => absurd r (by decide), fun r => absurd r p⟩
    · exact ⟨fun r => absurd r (by decide), fun r => absurd r p⟩
theorem cmpL_eq {a b : Int64} : XT.cmpL a b = 0 ↔ a = b := by
  unfold XT.cmpL
  split
  · rename_i q; constructor
    · intro r; exact absurd r (by decide)
    · intro r; subst r; rw [Int64.lt_iff_toInt_lt] at q; omega
  · split
    · rename_i q; exact ⟨fun _ => q, fun _ => rfl⟩
    · rename_i q; exact ⟨fun r => absurd r (by decide), fun r => absurd r q⟩
def b2i (b : Bool) : Int32 := match b with | true => 1 | false => 0
theorem b2i_f {b : Bool} (q : b2i b = 0) : b = false := by cases b with | false => rfl | true => exact absurd q (by decide)
theorem b2i_t {b : Bool} (q : ¬ b2i b = 0) : b = true := by cases b with | true => rfl | false => exact absurd rfl q
theorem nar_b (x : Int32) : nar .byte x.toInt8.toInt32 = x.toInt8.toInt32 := by simp [nar]
theorem Cx.ireturn (C : Cx G l Z a0 ws R y bytes maxL ret n0 Q) {a : Int32} (hd : decode bytes pc = .ok (.ireturn, 1)) (ht : ret = some .int) (hk : k ≤ R.cells) (hn : n ≤ R.slots) (hq : Q (some (.int a)) h) : G h k n pc ls (.int a :: st) := by
  obtain ⟨p, e, s, m, args, below, meth, c, hx, hby, hml, hown, hnm, hret, hlk, hZ, hw, rfl⟩ := C
  subst ht
  intro T locs X hT hF
  obtain ⟨fs, hr, hrun, hended, hW, hsame⟩ := X.leave (v := some (.int a)) (fun q => by rw [hret] at q; cases q) hlk
  refine ⟨_, _, retOut X hx hret rfl (Or.inl ⟨rfl, Or.inl rfl, a, rfl⟩) (hb hby hd) hr, hrun, hended, _, locs, rfl, ⟨?_, hF⟩, ⟨_, rfl⟩, hW, hsame.mono hk hn⟩
  show Q _ T.heap
  rw [hT]; exact hq
theorem Cx.nreturn (C : Cx G l Z a0 ws R y bytes maxL ret n0 Q) {a b : Int32} {t : FieldType} (hd : decode bytes pc = .ok (.ireturn, 1)) (ht : ret = some t) (ht' : t = .boolean ∨ t = .byte ∨ t = .char ∨ t = .short) (hk : k ≤ R.cells) (hn : n ≤ R.slots) (hb' : nar t a = b) (hq : Q (some (.int b)) h) : G h k n pc ls (.int a :: st) := by
  obtain ⟨p, e, s, m, args, below, meth, c, hx, hby, hml, hown, hnm, hret, hlk, hZ, hw, rfl⟩ := C
  subst ht hb'
  intro T locs X hT hF
  obtain ⟨fs, hr, hrun, hended, hW, hsame⟩ := X.leave (v := some (.int (nar t a))) (fun q => by rw [hret] at q; cases q) hlk
  refine ⟨_, _, retN X hx hret ht' (hb hby hd) hr, hrun, hended, _, locs, rfl, ⟨?_, hF⟩, ⟨_, rfl⟩, hW, hsame.mono hk hn⟩
  show Q _ T.heap
  rw [hT]; exact hq
theorem Cx.lreturn (C : Cx G l Z a0 ws R y bytes maxL ret n0 Q) {a : Int64} (hd : decode bytes pc = .ok (.lreturn, 1)) (ht : ret = some .long) (hk : k ≤ R.cells) (hn : n ≤ R.slots) (hq : Q (some (.long a)) h) : G h k n pc ls (.long a :: st) := by
  obtain ⟨p, e, s, m, args, below, meth, c, hx, hby, hml, hown, hnm, hret, hlk, hZ, hw, rfl⟩ := C
  subst ht
  intro T locs X hT hF
  obtain ⟨fs, hr, hrun, hended, hW, hsame⟩ := X.leave (v := some (.long a)) (fun q => by rw [hret] at q; cases q) hlk
  refine ⟨_, _, retOut X hx hret rfl (Or.inr (Or.inl ⟨rfl, rfl, a, rfl⟩)) (hb hby hd) hr, hrun, hended, _, locs, rfl, ⟨?_, hF⟩, ⟨_, rfl⟩, hW, hsame.mono hk hn⟩
  show Q _ T.heap
  rw [hT]; exact hq
theorem Cx.areturn (C : Cx G l Z a0 ws R y bytes maxL ret n0 Q) {a : Addr} {t : FieldType} (hd : decode bytes pc = .ok (.areturn, 1)) (ht : ret = some t) (ht' : t.isReference = true) (hnr : narrow t (.ref a) = .ref a) (hk : k ≤ R.cells) (hn : n ≤ R.slots) (hq : Q (some (.ref a)) h) : G h k n pc ls (.ref a :: st) := by
  obtain ⟨p, e, s, m, args, below, meth, c, hx, hby, hml, hown, hnm, hret, hlk, hZ, hw, rfl⟩ := C
  subst ht
  intro T locs X hT hF
  obtain ⟨fs, hr, hrun, hended, hW, hsame⟩ := X.leave (v := some (.ref a)) (fun q => by rw [hret] at q; cases q) hlk
  refine ⟨_, _, retOut X hx hret hnr (Or.inr (Or.inr (Or.inr (Or.inr ⟨rfl, ht', rfl⟩)))) (hb hby hd) hr, hrun, hended, _, locs, rfl, ⟨?_, hF⟩, ⟨_, rfl⟩, hW, hsame.mono hk hn⟩
  show Q _ T.heap
  rw [hT]; exact hq
theorem Cx.vreturn (C : Cx G l Z a0 ws R y bytes maxL ret n0 Q) (hd : decode bytes pc = .ok (.return_, 1)) (ht : ret = none) (hk : k ≤ R.cells) (hn : n ≤ R.slots) (hq : Q none h) : G h k n pc ls [] := by
  obtain ⟨p, e, s, m, args, below, meth, c, hx, hby, hml, hown, hnm, hret, hlk, hZ, hw, rfl⟩ := C
  subst ht
  intro T locs X hT hF
  obtain ⟨fs, hr, hrun, hended, hW, hsame⟩ := X.leave (v := none) (fun _ => rfl) hlk
  refine ⟨_, _, X.returnOut hx hret (hb hby hd) hr, hrun, hended, _, locs, rfl, ⟨?_, hF⟩, ⟨_, rfl⟩, hW, hsame.mono hk hn⟩
  show Q _ T.heap
  rw [hT]; exact hq
def Lst (Z : State) (h : Heap) (a : Addr) (ty : FieldType) (vs : List Value) : Prop := ∃ c : Cell, Arr Z h a c ty ∧ c.slots = vs.toArray
theorem Lst.lt {Z : State} {h : Heap} {a : Addr} {ty : FieldType} {vs : List Value} (F : Lst Z h a ty vs) : a < h.size := by obtain ⟨c, A, -⟩ := F; exact A.lt
theorem Lst.ext {Z : State} {h h' : Heap} {a : Addr} {ty : FieldType} {vs : List Value} (F : Lst Z h a ty vs) (E : Ext h h') : Lst Z h' a ty vs := by obtain ⟨c, A, r⟩ := F; exact ⟨c, A.ext E, r⟩
theorem Lst.other {Z : State} {h h' : Heap} {a b : Addr} {sl : Nat} {v : Value} {ty : FieldType} {vs : List Value} (F : Lst Z h b ty vs) (W : Wr h h' a sl v) (q : b ≠ a) : Lst Z h' b ty vs := by obtain ⟨c, A, r⟩ := F; exact ⟨c, A.other W q, r⟩
theorem Lst.keep {Z : State} {h h' : Heap} {a : Addr} {wr : List Addr} {ty : FieldType} {vs : List Value} (F : Lst Z h a ty vs) (K : Keep h h' wr) (q : a ∉ wr) : Lst Z h' a ty vs := by obtain ⟨c, A, r⟩ := F; exact ⟨c, ⟨K.2.1 a c A.1 q, A.2⟩, r⟩
def Idx (j : Int32) (i : Nat) : Prop := ¬ j < 0 ∧ j.toNatClampNeg = i
theorem Idx.of {j : Int32} {i : Nat} (h : j.toInt = (i : Int)) : Idx j i := by
  refine ⟨fun q => ?_, ?_⟩
  · rw [Int32.lt_iff_toInt_lt] at q; have : (0 : Int32).toInt = 0 := rfl; omega
  · simp only [Int32.toNatClampNeg]; omega
theorem Idx.int {j : Int32} {i : Nat} (h : Idx j i) : j.toInt = (i : Int) := by rw [nat_of h.1, h.2]
theorem Idx.bound {j : Int32} {i : Nat} {c : Cell} {vs : List Value} (h : Idx j i) (r : c.slots = vs.toArray) (hi : i < vs.length) : ¬ (j < 0 ∨ c.slots.size ≤ j.toNatClampNeg) := by
  rintro (q | q)
  · exact h.1 q
  · rw [h.2, r] at q; simp at q; omega
theorem Cx.arraylength (C : Cx G l Z a0 ws R y bytes maxL ret n0 Q) {a : Addr} {ty : FieldType} {vs : List Value} {N : Int32} (A : Lst Z h a ty vs) (hN : vs.length.toInt32 = N) (hd : decode bytes pc = .ok (.arraylength, 1)) (hp : pc + 1 = pc') (hr : G h k n pc' ls (.int N :: st)) : G h k n pc ls (.ref a :: st) := by
  obtain ⟨p, e, s, m, args, below, meth, c, hx, hby, hml, hown, hnm, hret, hlk, hZ, hw, rfl⟩ := C
  subst hp hN
  obtain ⟨cl, A, r⟩ := A
  refine lift (fun T locs X hT target q => X.arraylength hx (by rw [hT]; exact A.1) (State.isArrayOf_alike hZ.alike A.2.1) (g := mkF m pc ls (.ref a :: st)) rfl rfl (hb hby hd) target ?_) hr
  rw [r]; exact q
theorem Cx.iaload (C : Cx G l Z a0 ws R y bytes maxL ret n0 Q) {a : Addr} {vs : List Value} {j : Int32} {i : Nat} {v : Value} (A : Lst Z h a .int vs) (hj : Idx j i) (hv : vs[i]? = some v) (hd : decode bytes pc = .ok (.iaload, 1)) (hp : pc + 1 = pc') (hr : G h k n pc' ls (v :: st)) : G h k n pc ls (.int j :: .ref a :: st) := by
  obtain ⟨p, e, s, m, args, below, meth, c, hx, hby, hml, hown, hnm, hret, hlk, hZ, hw, rfl⟩ := C
  subst hp
  obtain ⟨cl, A, r⟩ := A
  exact lift (fun T locs X hT target q => X.iaload hx (by rw [hT]; exact A.1) (State.isArrayOf_alike hZ.alike A.2.1) A.2.2 (hj.bound r (List.getElem?_eq_some_iff.mp hv).1) (by rw [hj.2, r]; simpa using hv) (g := mkF m pc ls (.int j :: .ref a :: st)) rfl rfl (hb hby hd) target q) hr
theorem Cx.baload (C : Cx G l Z a0 ws R y bytes maxL ret n0 Q) {a : Addr} {vs : List Value} {j : Int32} {i : Nat} {v : Value} (A : Lst Z h a .byte vs) (hj : Idx j i) (hv : vs[i]? = some v) (hd : decode bytes pc = .ok (.baload, 1)) (hp : pc + 1 = pc') (hr : G h k n pc' ls (v :: st)) : G h k n pc ls (.int j :: .ref a :: st) := by
  obtain ⟨p, e, s, m, args, below, meth, c, hx, hby, hml, hown, hnm, hret, hlk, hZ, hw, rfl⟩ := C
  subst hp
  obtain ⟨cl, A, r⟩ := A
  exact lift (fun T locs X hT target q => X.baloadBytes hx (by rw [hT]; exact A.1) (State.isArrayOf_alike hZ.alike A.2.1) A.2.2 (hj.bound r (List.getElem?_eq_some_iff.mp hv).1) (by rw [hj.2, r]; simpa using hv) (g := mkF m pc ls (.int j :: .ref a :: st)) rfl rfl (hb hby hd) target q) hr
theorem Lst.same {Z : State} {h h' : Heap} {a : Addr} {i : Nat} {v : Value} {ty : FieldType} {vs : List Value} (F : Lst Z h a ty vs) (W : Wr h h' a i v) : Lst Z h' a ty (vs.set i v) := by
  obtain ⟨c, A, r⟩ := F
  exact ⟨_, A.same W, by simp [Cell.setSlot, r]⟩
theorem Cx.iastore (C : Cx G l Z a0 ws R y bytes maxL ret n0 Q) {a : Addr} {vs vs' : List Value} {j x : Int32} {i : Nat} (A : Lst Z h a .int vs) (hj : Idx j i) (hi : i < vs.length) (hs : vs.set i (.int x) = vs') (ga : n0 ≤ a) (hd : decode bytes pc = .ok (.iastore, 1)) (hp : pc + 1 = pc') (hr : ∀ h', Wr h h' a i (.int x) → Lst Z h' a .int vs' → G h' k n pc' ls st) : G h k n pc ls (.int x :: .int j :: .ref a :: st) := by
  obtain ⟨p, e, s, m, args, below, meth, c, hx, hby, hml, hown, hnm, hret, hlk, hZ, hw, rfl⟩ := C
  subst hp hs
  have A' := A
  obtain ⟨cl, A, r⟩ := A
  intro T locs X hT hF
  obtain ⟨T', h', X', e', W', s'⟩ := stI X hx hZ hT A (hj.bound r hi) (g := mkF m pc ls (.int x :: .int j :: .ref a :: st)) rfl rfl (hb hby hd)
  rw [hj.2] at W'
  obtain ⟨s₂, o, h1, h2⟩ := hr h' W' (A'.same W') T' _ X' e' (Fr.snoc X' hF ga)
  exact ⟨s₂, o, s' _ h1, h2⟩
theorem Cx.bastore (C : Cx G l Z a0 ws R y bytes maxL ret n0 Q) {a : Addr} {vs vs' : List Value} {j x x' : Int32} {i : Nat} (A : Lst Z h a .byte vs) (hj : Idx j i) (hi : i < vs.length) (hx' : nar .byte x = x') (hs : vs.set i (.int x') = vs') (ga : n0 ≤ a) (hd : decode bytes pc = .ok (.bastore, 1)) (hp : pc + 1 = pc') (hr : ∀ h', Wr h h' a i (.int x') → Lst Z h' a .byte vs' → G h' k n pc' ls st) : G h k n pc ls (.int x :: .int j :: .ref a :: st) := by
  obtain ⟨p, e, s, m, args, below, meth, c, hx, hby, hml, hown, hnm, hret, hlk, hZ, hw, rfl⟩ := C
  subst hp hs hx'
  have A' := A
  obtain ⟨cl, A, r⟩ := A
  intro T locs X hT hF
  obtain ⟨T', h', X', e', W', s'⟩ := stB X hx hZ hT A (hj.bound r hi) (g := mkF m pc ls (.int x :: .int j :: .ref a :: st)) rfl rfl (hb hby hd)
  rw [hj.2] at W'
  obtain ⟨s₂, o, h1, h2⟩ := hr h' W' (A'.same W') T' _ X' e' (Fr.snoc X' hF ga)
  exact ⟨s₂, o, s' _ h1, h2⟩
theorem Cx.dastore (C : Cx G l Z a0 ws R y bytes maxL ret n0 Q) {a : Addr} {vs : List Value} {j : Int32} {x : UInt64} {i : Nat} (A : Lst Z h a .double vs) (hj : Idx j i) (hi : i < vs.length) (ga : n0 ≤ a) (hd : decode bytes pc = .ok (.dastore, 1)) (hp : pc + 1 = pc') (hr : ∀ h', Wr h h' a i (.double x) → Lst Z h' a .double (vs.set i (.double x)) → G h' k n pc' ls st) : G h k n pc ls (.double x :: .int j :: .ref a :: st) := by
  obtain ⟨p, e, s, m, args, below, meth, c, hx, hby, hml, hown, hnm, hret, hlk, hZ, hw, rfl⟩ := C
  subst hp
  have A' := A
  obtain ⟨cl, A, r⟩ := A
  intro T locs X hT hF
  obtain ⟨T', h', X', e', W', s'⟩ := stD X hx hZ hT A (hj.bound r hi) (g := mkF m pc ls (.double x :: .int j :: .ref a :: st)) rfl rfl (hb hby hd)
  rw [hj.2] at W'
  obtain ⟨s₂, o, h1, h2⟩ := hr h' W' (A'.same W') T' _ X' e' (Fr.snoc X' hF ga)
  exact ⟨s₂, o, s' _ h1, h2⟩
theorem Cx.newarray (C : Cx G l Z a0 ws R y bytes maxL ret n0 Q) {w : Nat} {aty : ArrayType} {ty : FieldType} {d : Value} {vs : List Value} {len : Int32} {N cap : Nat} (hty : newarray.typeOf aty = ty) (hwd : ws[w]? = some (Jvm.Cond.arrayClass ty)) (hj : Idx len N) (hdv : defaultValue ty = d) (hvs : List.replicate N d = vs) (hcap : N ≤ cap) (hb8 : cap * 8 ≤ 536870912) (hc : k + 1 ≤ R.cells) (hl : n + cap ≤ R.slots) (hd : decode bytes pc = .ok (.newarray aty, 2)) (hp : pc + 2 = pc')
    (hr : ∀ h' a, a = h.size → Ext h h' → Lst Z h' a ty vs → G h' (k + 1) (n + cap) pc' ls (.ref a :: st)) : G h k n pc ls (.int len :: st) := by
  obtain ⟨p, e, s, m, args, below, meth, c, hx, hby, hml, hown, hnm, hret, hlk, hZ, hw, rfl⟩ := C
  subst hp hty hdv hvs
  intro T locs X hT hF
  obtain ⟨T', h', cA, X', e', E', A', s'⟩ := newP X hx hZ (word hw hwd) hT (g := mkF m pc ls (.int len :: st)) rfl (hb hby hd) rfl hj.1 (cap := cap) (by rw [hj.2]; exact hcap) hb8 hc hl
  obtain ⟨s₂, o, h1, h2⟩ := hr h' h.size rfl E' ⟨_, A', by simp [newA, hj.2]⟩ T' _ X' e' hF
  exact ⟨s₂, o, s' _ h1, h2⟩
theorem Cx.newO (C : Cx G l Z a0 ws R y bytes maxL ret n0 Q) {i1 i2 i3 idx nn : Nat} {K : String} (w1 : ws[i1]? = some (Jvm.Cond.classLink y.cls idx K)) (w2 : ws[i2]? = some (Jvm.Cond.instantiable K nn)) (w3 : ws[i3]? = some (Jvm.Cond.initialized K)) (hc : k + 1 ≤ R.cells) (hl : n + nn ≤ R.slots) (hd : decode bytes pc = .ok (.new idx, 3)) (hp : pc + 3 = pc')
    (hr : ∀ h' a, a = h.size → Ext h h' → Exa Z h' a K → (∀ {O nm d : String} {ty : FieldType}, Laid Z a0 K O nm d → parseFieldDescriptor d = some ty → Fld Z h' a O nm d (defaultValue ty)) → G h' (k + 1) (n + nn) pc' ls (.ref a :: st)) : G h k n pc ls st := by
  obtain ⟨p, e, s, m, args, below, meth, c, hx, hby, hml, hown, hnm, hret, hlk, hZ, hw, rfl⟩ := C
  subst hp
  intro T locs X hT hF
  obtain ⟨T', h', X', e', E', A', D', -, s'⟩ := RoadKit.newO X hx hZ hown (word hw w1) (word hw w2) (word hw w3) hT (g := mkF m pc ls st) rfl (hb hby hd) hc hl
  obtain ⟨s₂, o, h1, h2⟩ := hr h' h.size rfl E' A' D' T' _ X' e' hF
  exact ⟨s₂, o, s' _ h1, h2⟩
theorem Cx.getfield (C : Cx G l Z a0 ws R y bytes maxL ret n0 Q) {i idx : Nat} {O f d : String} {a : Addr} {v : Value} (w : ws[i]? = some (Jvm.Cond.fieldLink y.cls idx O f d)) (F : Fld Z h a O f d v) (hd : decode bytes pc = .ok (.getfield idx, 3)) (hp : pc + 3 = pc') (hr : G h k n pc' ls (v :: st)) : G h k n pc ls (.ref a :: st) := by
  obtain ⟨p, e, s, m, args, below, meth, c, hx, hby, hml, hown, hnm, hret, hlk, hZ, hw, rfl⟩ := C
  subst hp
  intro T locs X hT hF
  obtain ⟨T', X', e', s'⟩ := getF X hx hZ hown (host := "") (Or.inl (word hw w)) Via.refl hT F (g := mkF m pc ls (.ref a :: st)) rfl rfl (hb hby hd)
  obtain ⟨s₂, o, h1, h2⟩ := hr T' _ X' e' hF
  exact ⟨s₂, o, s' _ h1, h2⟩
theorem Cx.getstatic (C : Cx G l Z a0 ws R y bytes maxL ret n0 Q) {i idx : Nat} {O f d : String} {v : Value} (w : ws[i]? = some (Jvm.Cond.fieldLink y.cls idx O f d)) (F : Sta Z h O f d v) (hd : decode bytes pc = .ok (.getstatic idx, 3)) (hp : pc + 3 = pc') (hr : G h k n pc' ls (v :: st)) : G h k n pc ls st := by
  obtain ⟨p, e, s, m, args, below, meth, c, hx, hby, hml, hown, hnm, hret, hlk, hZ, hw, rfl⟩ := C
  subst hp
  intro T locs X hT hF
  obtain ⟨T', X', e', s'⟩ := getS X hx hZ (host := "") hown (word hw w) Via.refl hT F (g := mkF m pc ls st) rfl (hb hby hd)
  obtain ⟨s₂, o, h1, h2⟩ := hr T' _ X' e' hF
  exact ⟨s₂, o, s' _ h1, h2⟩
theorem Cx.putfield (C : Cx G l Z a0 ws R y bytes maxL ret n0 Q) {i i2 i3 idx kk : Nat} {O f d K : String} {a : Addr} {v v' old : Value} {ty : FieldType} (w : ws[i]? = some (Jvm.Cond.fieldLink y.cls idx O f d)) (w2 : ws[i2]? = some (Jvm.Cond.lays K O f d) ∨ (ws[i2]? = some (Jvm.Cond.laysFinal K O f d) ∧ y.cls = O ∧ y.name = "<init>")) (w3 : ws[i3]? = some (Jvm.Cond.instantiable K kk)) (F : Fld Z h a O f d old) (E : Exa Z h a K) (hty : parseFieldDescriptor d = some ty) (hnv : narrow ty v = v') (hfv : fits ty v' = true) (ga : n0 ≤ a) (hd : decode bytes pc = .ok (.putfield idx, 3)) (hp : pc + 3 = pc')
    (hr : ∀ h', Wr h h' a (Jvm.RoadKit.slotOf Z O f d) v' → G h' k n pc' ls st) : G h k n pc ls (v :: .ref a :: st) := by
  obtain ⟨p, e, s, m, args, below, meth, c, hx, hby, hml, hown, hnm, hret, hlk, hZ, hw, rfl⟩ := C
  subst hp
  intro T locs X hT hF
  obtain ⟨T', h', X', e', W', s'⟩ := putFN X hx hZ hown (word hw w) Via.refl hT F E (w2.elim (fun q => Or.inl (word hw q)) (fun q => Or.inr ⟨word hw q.1, q.2.1, hnm.trans q.2.2⟩)) (word hw w3) hty hnv hfv (g := mkF m pc ls (v :: .ref a :: st)) rfl rfl (hb hby hd)
  obtain ⟨s₂, o, h1, h2⟩ := hr h' W' T' _ X' e' (Fr.snoc X' hF ga)
  exact ⟨s₂, o, s' _ h1, h2⟩
theorem Cx.initO (C : Cx G l Z a0 ws R y bytes maxL ret n0 Q) {i1 i2 i3 idx W : Nat} {a : Addr} (w1 : ws[i1]? = some (Jvm.Cond.methodLink y.cls idx Lib.objectInit)) (w2 : ws[i2]? = some (Jvm.Cond.instanceMethod Lib.objectInit)) (w3 : ws[i3]? = some (Jvm.Cond.code Lib.objectInit Jvm.LibCode.Object.Init0.code 1 none)) (hsz : ls.size = maxL) (hf : 1 ≤ R.frames) (hW : (st.map fun v => v.category).sum = W) (hl : W + 12 ≤ R.locals) (hd : decode bytes pc = .ok (.invokespecial idx, 3)) (hp : pc + 3 = pc') (hr : G h k n pc' ls st) : G h k n pc ls (.ref a :: st) := by
  obtain ⟨p, e, s, m, args, below, meth, c, hx, hby, hml, hown, hnm, hret, hlk, hZ, hw, rfl⟩ := C
  subst hp
  intro T locs X hT hF
  obtain ⟨T', X', e', s'⟩ := RoadKit.initO X hx hZ hown (word hw w1) (word hw w2) (word hw w3) hT (g := mkF m pc ls (.ref a :: st)) rfl (by rw [hml]; exact hsz) rfl (hb hby hd) hf (W := W) (by rw [← hW]; show 2 * 0 + _ ≤ _; omega) hl
  obtain ⟨s₂, o, h1, h2⟩ := hr T' _ X' e' hF
  exact ⟨s₂, o, s' _ h1, h2⟩
theorem Cx.callS (C : Cx G l Z a0 ws R y bytes maxL ret n0 Q) {y' : MethodName} {bytes' : ByteArray} {maxL' : Nat} {ret' : Option FieldType} {rm : Room} {as : Array Value} {Q' : Option Value → Heap → Prop} (hM : Ctr l Z y' bytes' maxL' ret' rm n0 as h Q' []) {i1 i2 i3 i4 idx W : Nat} (w1 : ws[i1]? = some (Jvm.Cond.methodLink y.cls idx y')) (w2 : ws[i2]? = some (Jvm.Cond.static y')) (w3 : ws[i3]? = some (Jvm.Cond.initialized y'.cls)) (w4 : ws[i4]? = some (Jvm.Cond.code y' bytes' maxL' ret'))
    (hy : y'.cls ≠ "java/lang/invoke/MethodHandle" ∧ y'.cls ≠ "java/lang/invoke/VarHandle") {argsL : List Value} {ps : List FieldType} {rt : Option FieldType} (hps : parseMethodDescriptor y'.desc = some ⟨ps, rt⟩) (hln : argsL.length = ps.length) (has : argsL.toArray = as) (hst : st = argsL.reverse ++ rest) (hsz : ls.size = maxL) (hW : (rest.map fun v => v.category).sum = W) (hf : rm.frames + 1 ≤ R.frames) (hl : W + (maxL' + 11) + rm.locals ≤ R.locals) (hc : k + rm.cells ≤ R.cells) (hn : n + rm.slots ≤ R.slots) (hd : decode bytes pc = .ok (.invokestatic idx, 3)) (hp : pc + 3 = pc') (hk' : k + rm.cells = k') (hn' : n + rm.slots = n')
    (hr : ∀ v h', Q' v h' → G h' k' n' pc' ls (v.toList ++ rest)) : G h k n pc ls st := by
  obtain ⟨p, e, s, m, args, below, meth, c, hx, hby, hml, hown, hnm, hret, hlk, hZ, hw, rfl⟩ := C
  subst hp has hst hk' hn'
  intro T locs X hT hF
  obtain ⟨v, _, ⟨T', L', k9, n9⟩, -, X', ⟨Lc, hQ, e1, e2, e3⟩, s'⟩ := Jvm.LawKit.callS X hx (y := y') hown (mvT hZ (word hw w1)) (mvT hZ (word hw w2)) (mvT hZ (word hw w3)) (mvT hZ (word hw w4)) hy (backOf (Q := fun v h L => Q' v h ∧ Fr n0 L) (W := W) hM hZ (word hw w4) (word hw w3) hf hl) (g := mkF m pc ls (argsL.reverse ++ rest)) rfl (by rw [hml]; exact hsz) (argsL := argsL) (rest := rest) (lenOf hps hln) rfl (by rw [← hW]; show 2 * 0 + _ ≤ _; omega) (hb hby hd) (fun _ _ => ⟨rfl, hT, hc, hn⟩)
  dsimp only [Pt.U, Pt.locs, Pt.cells, Pt.slots] at X' e1 e2 e3 s' hQ
  subst e1 e2 e3
  obtain ⟨s₂, o, h1, h2⟩ := hr v T'.heap hQ.1 T' _ X' rfl (Fr.app hF hQ.2)
  exact ⟨s₂, o, s' _ h1, h2⟩
theorem Cx.callI (C : Cx G l Z a0 ws R y bytes maxL ret n0 Q) {y' : MethodName} {bytes' : ByteArray} {maxL' : Nat} {rm : Room} {as : Array Value} {Q' : Option Value → Heap → Prop} {a : Addr} (hM : Ctr l Z y' bytes' maxL' none rm n0 as h Q' []) {i1 i2 i3 i4 idx W : Nat} (w1 : ws[i1]? = some (Jvm.Cond.methodLink y.cls idx y')) (w2 : ws[i2]? = some (Jvm.Cond.instanceMethod y')) (w3 : ws[i3]? = some (Jvm.Cond.initialized y'.cls)) (w4 : ws[i4]? = some (Jvm.Cond.code y' bytes' maxL' none)) (hi : y'.name = "<init>")
    (hy : y'.cls ≠ "java/lang/invoke/MethodHandle" ∧ y'.cls ≠ "java/lang/invoke/VarHandle") {argsL : List Value} {ps : List FieldType} {rt : Option FieldType} (hps : parseMethodDescriptor y'.desc = some ⟨ps, rt⟩) (hln : argsL.length = ps.length) (has : (.ref a :: argsL).toArray = as) (hst : st = argsL.reverse ++ .ref a :: rest) (hsz : ls.size = maxL) (hW : (rest.map fun v => v.category).sum = W) (hf : rm.frames + 1 ≤ R.frames) (hl : W + (maxL' + 11) + rm.locals ≤ R.locals) (hc : k + rm.cells ≤ R.cells) (hn : n + rm.slots ≤ R.slots) (hd : decode bytes pc = .ok (.invokespecial idx, 3)) (hp : pc + 3 = pc') (hk' : k + rm.cells = k') (hn' : n + rm.slots = n')
    (hr : ∀ v h', Q' v h' → G h' k' n' pc' ls (v.toList ++ rest)) : G h k n pc ls st := by
  obtain ⟨p, e, s, m, args, below, meth, c, hx, hby, hml, hown, hnm, hret, hlk, hZ, hw, rfl⟩ := C
  subst hp has hst hk' hn'
  intro T locs X hT hF
  obtain ⟨v, _, ⟨T', L', k9, n9⟩, -, X', ⟨Lc, hQ, e1, e2, e3⟩, s'⟩ := X.specialBack hx (y := y') hi hown (mvT hZ (word hw w1)) (mvT hZ (word hw w2)) (mvT hZ (word hw w4)) hy (backOf (Q := fun v h L => Q' v h ∧ Fr n0 L) (W := W) hM hZ (word hw w4) (word hw w3) hf hl) (g := mkF m pc ls (argsL.reverse ++ .ref a :: rest)) rfl (by rw [hml]; exact hsz) (Steps.refl _) (a := a) (argsL := argsL) (rest := rest) (lenOf hps hln) rfl (by rw [← hW]; show 2 * 0 + _ ≤ _; omega) (hb hby hd) (fun _ _ => ⟨rfl, hT, hc, hn⟩)
  dsimp only [Pt.U, Pt.locs, Pt.cells, Pt.slots] at X' e1 e2 e3 s' hQ
  subst e1 e2 e3
  obtain ⟨s₂, o, h1, h2⟩ := hr v T'.heap hQ.1 T' _ X' rfl (Fr.app hF hQ.2)
  exact ⟨s₂, o, s'.trans h1, h2⟩
theorem Cx.callV (C : Cx G l Z a0 ws R y bytes maxL ret n0 Q) {y' : MethodName} {bytes' : ByteArray} {maxL' : Nat} {ret' : Option FieldType} {rm : Room} {as : Array Value} {Q' : Option Value → Heap → Prop} {a : Addr} {K : String} (hM : Ctr l Z y' bytes' maxL' ret' rm n0 as h Q' []) (hE : Exa Z h a K) {i1 i2 i3 i4 i5 i6 idx W : Nat} (w1 : ws[i1]? = some (Jvm.Cond.methodLink y.cls idx y')) (w2 : ws[i2]? = some (Jvm.Cond.declares y')) (w3 : ws[i3]? = some (Jvm.Cond.instanceMethod y')) (w4 : ws[i4]? = some (Jvm.Cond.selects K y' y')) (w5 : ws[i5]? = some (Jvm.Cond.code y' bytes' maxL' ret')) (w6 : ws[i6]? = some (Jvm.Cond.initialized y'.cls))
    (hy : y'.cls ≠ "java/lang/invoke/MethodHandle" ∧ y'.cls ≠ "java/lang/invoke/VarHandle") {argsL : List Value} {ps : List FieldType} {rt : Option FieldType} (hps : parseMethodDescriptor y'.desc = some ⟨ps, rt⟩) (hln : argsL.length = ps.length) (has : (.ref a :: argsL).toArray = as) (hst : st = argsL.reverse ++ .ref a :: rest) (hsz : ls.size = maxL) (hW : (rest.map fun v => v.category).sum = W) (hf : rm.frames + 1 ≤ R.frames) (hl : W + (maxL' + 11) + rm.locals ≤ R.locals) (hc : k + rm.cells ≤ R.cells) (hn : n + rm.slots ≤ R.slots) (hd : decode bytes pc = .ok (.invokevirtual idx, 3)) (hp : pc + 3 = pc') (hk' : k + rm.cells = k') (hn' : n + rm.slots = n')
    (hr : ∀ v h', Q' v h' → G h' k' n' pc' ls (v.toList ++ rest)) : G h k n pc ls st := by
  obtain ⟨p, e, s, m, args, below, meth, c, hx, hby, hml, hown, hnm, hret, hlk, hZ, hw, rfl⟩ := C
  subst hp has hst hk' hn'
  intro T locs X hT hF
  obtain ⟨cq, kq, qa, qb, qc⟩ := isOf hZ hT hE
  obtain ⟨v, _, ⟨T', L', k9, n9⟩, -, X', ⟨Lc, hQ, e1, e2, e3⟩, s'⟩ := X.virtualBack hx (y := y') (z := y') hown (mvT hZ (word hw w1)) (mvT hZ (word hw w2)) (notFace_of_selects (args := #[]) (mvT hZ (word hw w4))) (mvT hZ (word hw w4)) (mvT hZ (word hw w3)) hy (backOf (Q := fun v h L => Q' v h ∧ Fr n0 L) (W := W) hM hZ (word hw w5) (word hw w6) hf hl) qa qc (g := mkF m pc ls (argsL.reverse ++ .ref a :: rest)) rfl (by rw [hml]; exact hsz) (Steps.refl _) (argsL := argsL) (rest := rest) (lenOf hps hln) rfl (by rw [← hW]; show 2 * 0 + _ ≤ _; omega) (hb hby hd) (fun _ _ => ⟨rfl, hT, hc, hn⟩)
  dsimp only [Pt.U, Pt.locs, Pt.cells, Pt.slots] at X' e1 e2 e3 s' hQ
  subst e1 e2 e3
  obtain ⟨s₂, o, h1, h2⟩ := hr v T'.heap hQ.1 T' _ X' rfl (Fr.app hF hQ.2)
  exact ⟨s₂, o, s'.trans h1, h2⟩
theorem Cx.callSP (C : Cx G l Z a0 ws R y bytes maxL ret n0 Q) {y' : MethodName} {bytes' : ByteArray} {maxL' : Nat} {ret' : Option FieldType} {rm : Room} {as : Array Value} {r : Value} (hM : Ctr l Z y' bytes' maxL' ret' rm n0 as h (fun v h' => v = some r ∧ h' = h) []) {i1 i2 i3 i4 idx W : Nat} (w1 : ws[i1]? = some (Jvm.Cond.methodLink y.cls idx y')) (w2 : ws[i2]? = some (Jvm.Cond.static y')) (w3 : ws[i3]? = some (Jvm.Cond.initialized y'.cls)) (w4 : ws[i4]? = some (Jvm.Cond.code y' bytes' maxL' ret'))
    (hy : y'.cls ≠ "java/lang/invoke/MethodHandle" ∧ y'.cls ≠ "java/lang/invoke/VarHandle") {argsL : List Value} {ps : List FieldType} {rt : Option FieldType} (hps : parseMethodDescriptor y'.desc = some ⟨ps, rt⟩) (hln : argsL.length = ps.length) (has : argsL.toArray = as) (hst : st = argsL.reverse ++ rest) (hsz : ls.size = maxL) (hW : (rest.map fun v => v.category).sum = W) (hf : rm.frames + 1 ≤ R.frames) (hl : W + (maxL' + 11) + rm.locals ≤ R.locals) (hc : k + rm.cells ≤ R.cells) (hn : n + rm.slots ≤ R.slots) (hd : decode bytes pc = .ok (.invokestatic idx, 3)) (hp : pc + 3 = pc') (hk' : k + rm.cells = k') (hn' : n + rm.slots = n')
    (hr : G h k' n' pc' ls (r :: rest)) : G h k n pc ls st :=
  C.callS hM w1 w2 w3 w4 hy hps hln has hst hsz hW hf hl hc hn hd hp hk' hn' (fun v h' q => by obtain ⟨rfl, rfl⟩ := q; exact hr)
theorem Cx.callVP (C : Cx G l Z a0 ws R y bytes maxL ret n0 Q) {y' : MethodName} {bytes' : ByteArray} {maxL' : Nat} {ret' : Option FieldType} {rm : Room} {as : Array Value} {r : Value} {a : Addr} {K : String} (hM : Ctr l Z y' bytes' maxL' ret' rm n0 as h (fun v h' => v = some r ∧ h' = h) []) (hE : Exa Z h a K) {i1 i2 i3 i4 i5 i6 idx W : Nat} (w1 : ws[i1]? = some (Jvm.Cond.methodLink y.cls idx y')) (w2 : ws[i2]? = some (Jvm.Cond.declares y')) (w3 : ws[i3]? = some (Jvm.Cond.instanceMethod y')) (w4 : ws[i4]? = some (Jvm.Cond.selects K y' y')) (w5 : ws[i5]? = some (Jvm.Cond.code y' bytes' maxL' ret')) (w6 : ws[i6]? = some (Jvm.Cond.initialized y'.cls))
    (hy : y'.cls ≠ "java/lang/invoke/MethodHandle" ∧ y'.cls ≠ "java/lang/invoke/VarHandle") {argsL : List Value} {ps : List FieldType} {rt : Option FieldType} (hps : parseMethodDescriptor y'.desc = some ⟨ps, rt⟩) (hln : argsL.length = ps.length) (has : (.ref a :: argsL).toArray = as) (hst : st = argsL.reverse ++ .ref a :: rest) (hsz : ls.size = maxL) (hW : (rest.map fun v => v.category).sum = W) (hf : rm.frames + 1 ≤ R.frames) (hl : W + (maxL' + 11) + rm.locals ≤ R.locals) (hc : k + rm.cells ≤ R.cells) (hn : n + rm.slots ≤ R.slots) (hd : decode bytes pc = .ok (.invokevirtual idx, 3)) (hp : pc + 3 = pc') (hk' : k + rm.cells = k') (hn' : n + rm.slots = n')
    (hr : G h k' n' pc' ls (r :: rest)) : G h k n pc ls st :=
  C.callV hM hE w1 w2 w3 w4 w5 w6 hy hps hln has hst hsz hW hf hl hc hn hd hp hk' hn' (fun v h' q => by obtain ⟨rfl, rfl⟩ := q; exact hr)
theorem Lst.arv {h : Heap} {a : Addr} {ty : FieldType} {vs : List Value} {z : Int32} {dv : Value} (F : Lst Z h a ty vs) (hz : Idx z vs.length) (hf : ∀ i, i < vs.length → fits ty (vs.getD i dv) = true) : ∃ kk, Arv Z h a kk ty z vs dv := by
  obtain ⟨c, A, r⟩ := F
  have hs : c.slots.size = vs.length := by rw [r]; simp
  refine ⟨c.cls, c, A, rfl, by rw [hs, hz.2], hz.1, fun i hi => ?_, fun i hi => hf i (by omega)⟩
  rw [r, List.getElem?_toArray, List.getD_eq_getElem?_getD, List.getElem?_eq_getElem (by omega)]; rfl
theorem Lst.of_arv {h : Heap} {a : Addr} {ty : FieldType} {vs : List Value} {z : Int32} {dv : Value} {kk : ClassId} (F : Arv Z h a kk ty z vs dv) (hz : Idx z vs.length) : Lst Z h a ty vs := by
  obtain ⟨c, A, -, hs, -, hh, -⟩ := F
  refine ⟨c, A, ?_⟩
  have hl : c.slots.size = vs.length := by rw [hs, hz.2]
  apply Array.ext
  · simpa using hl
  · intro i h1 h2
    have q := hh i h1
    rw [Array.getElem?_eq_getElem h1, List.getD_eq_getElem?_getD, List.getElem?_eq_getElem (by omega)] at q
    simpa using q
theorem Cx.arraycopy (C : Cx G l Z a0 ws R y bytes maxL ret n0 Q) {a b : Addr} {ty : FieldType} {vs vd us vs' : List Value} {sp dp nn za zb : Int32} {i j N W i1 i2 i3 i4 idx : Nat} {dv : Value} (w1 : ws[i1]? = some (Jvm.Cond.methodLink y.cls idx Jvm.Stand.acN)) (w2 : ws[i2]? = some (Jvm.Cond.native Jvm.Stand.acN)) (w3 : ws[i3]? = some (Jvm.Cond.static Jvm.Stand.acN)) (w4 : ws[i4]? = some (Jvm.Cond.initialized "java/lang/System"))
    (A : Lst Z h a ty vs) (B : Lst Z h b ty vd) (hA : Idx za vs.length) (hB : Idx zb vd.length) (fA : ∀ i, i < vs.length → fits ty (vs.getD i dv) = true) (fB : ∀ i, i < vd.length → fits ty (vd.getD i dv) = true) (hty : refKind ty = false) (hi : Idx sp i) (hj : Idx dp j) (hN : Idx nn N) (hl1 : i + N ≤ vs.length) (hl2 : j + N ≤ vd.length) (hus : (List.range N).map (fun x => vs.getD (i + x) dv) = us) (hvs : vd.take j ++ us ++ vd.drop (j + N) = vs') (ga : n0 ≤ b) (hsz : ls.size = maxL) (hf : 1 ≤ R.frames) (hW : (st.map fun v => v.category).sum = W) (hlo : W + (nativeFrameWords "java/lang/System" "arraycopy" 5 + 11) ≤ R.locals) (hd : decode bytes pc = .ok (.invokestatic idx, 3)) (hp : pc + 3 = pc')
    (hr : ∀ h', Keep h h' [b] → Lst Z h' b ty vs' → G h' k n pc' ls st) : G h k n pc ls (.int nn :: .int dp :: .ref b :: .int sp :: .ref a :: st) := by
  obtain ⟨p, e, s, m, args, below, meth, c, hx, hby, hml, hown, hnm, hret, hlk, hZ, hw, rfl⟩ := C
  subst hp hus hvs
  intro T locs X hT hF
  obtain ⟨ka, A'⟩ := A.arv hA fA
  obtain ⟨kb, B'⟩ := B.arv hB fB
  obtain ⟨T', h', L', X', e', F', K', V', s'⟩ := cpA X hx hZ hown (word hw w1) (word hw w2) (word hw w3) (word hw w4) hT A' B' (Or.inl ⟨rfl, hty⟩) hi.1 hj.1 hN.1 (by rw [hi.2, hN.2, hA.2]; exact hl1) (by rw [hj.2, hN.2, hB.2]; exact hl2) (us := (List.range N).map (fun x => vs.getD (i + x) dv)) (by rw [hi.2, hN.2]) (by rw [hj.2, hN.2]; exact hl2) hF ga (g := mkF m pc ls (.int nn :: .int dp :: .ref b :: .int sp :: .ref a :: st)) rfl (by rw [hml]; exact hsz) rfl (hb hby hd) hf (W := W) (by rw [← hW]; show 2 * 0 + _ ≤ _; omega) hlo
  rw [hj.2, hN.2] at V'
  obtain ⟨s₂, o, h1, h2⟩ := hr h' K' (Lst.of_arv V' ⟨hB.1, by rw [hB.2]; simp; omega⟩) T' _ X' e' F'
  exact ⟨s₂, o, s' _ h1, h2⟩
end Laws
end Jvm.GoKit
namespace Jvm.Pilot.@@N@@
open Jvm Jvm.ClassFile Sem Op Lib Jvm.Free Jvm.Stand Jvm.LawKit Jvm.RoadKit Jvm.GoKit Bundle Jvm.Pilot.@@N@@.Jvm.D
theorem own_shr2 (x : Int64) : ∃ v, x >>> ((2 : Int32).toInt64 &&& 63) = v ∧ -2305843009213693952 ≤ v.toInt ∧ v.toInt < 2305843009213693952 := by
  refine ⟨_, rfl, ?_⟩
  have e : ((2 : Int32).toInt64 &&& 63) = ((2 : Int32) &&& 0x3f).toInt64 := by decide
  rw [e, c_lshr x 2 2 (by decide)]
  have := rng64 x
  omega
theorem own_s1 {B F : Int64} (b1 : -2305843009213693952 ≤ B.toInt) (b2 : B.toInt < 2305843009213693952) (f1 : -2305843009213693952 ≤ F.toInt) (f2 : F.toInt < 2305843009213693952) : B - F < 0 ↔ B < F := by
  have h := c_lsub B F; have r := rng64 (B - F)
  rw [Int64.lt_iff_toInt_lt, Int64.lt_iff_toInt_lt, show (0 : Int64).toInt = 0 from rfl]
  omega
theorem own_s2 {B F S : Int64} (b1 : -2305843009213693952 ≤ B.toInt) (b2 : B.toInt < 2305843009213693952) (f1 : -2305843009213693952 ≤ F.toInt) (f2 : F.toInt < 2305843009213693952) (s1 : -2305843009213693952 ≤ S.toInt) (s2 : S.toInt < 2305843009213693952) : B - F - S < 0 ↔ B < F + S := by
  have h := c_lsub B F; have r := rng64 (B - F); have h' := c_lsub (B - F) S; have r' := rng64 (B - F - S); have h'' := c_ladd F S; have r'' := rng64 (F + S)
  rw [Int64.lt_iff_toInt_lt, Int64.lt_iff_toInt_lt, show (0 : Int64).toInt = 0 from rfl]
  omega
theorem d1_0 : decode prog_27_method_1_code 0 = .ok (.aload_n 0, 1) := by decide +kernel
theorem d1_1 : decode prog_27_method_1_code 1 = .ok (.invokespecial 1, 3) := by decide +kernel
theorem d1_4 : decode prog_27_method_1_code 4 = .ok (.aload_n 0, 1) := by decide +kernel
theorem d1_5 : decode prog_27_method_1_code 5 = .ok (.lload_n 1, 1) := by decide +kernel
theorem d1_6 : decode prog_27_method_1_code 6 = .ok (.putfield 7, 3) := by decide +kernel
theorem d1_9 : decode prog_27_method_1_code 9 = .ok (.return_, 1) := by decide +kernel
theorem d3_0 : decode prog_27_method_3_code 0 = .ok (.aload_n 0, 1) := by decide +kernel
theorem d3_1 : decode prog_27_method_3_code 1 = .ok (.getfield 7, 3) := by decide +kernel
theorem d3_4 : decode prog_27_method_3_code 4 = .ok (.lconst 0, 1) := by decide +kernel
theorem d3_5 : decode prog_27_method_3_code 5 = .ok (.lcmp, 1) := by decide +kernel
theorem d3_6 : decode prog_27_method_3_code 6 = .ok (.ifCond .ge 7, 3) := by decide +kernel
theorem d3_9 : decode prog_27_method_3_code 9 = .ok (.iconst 1, 1) := by decide +kernel
theorem d3_10 : decode prog_27_method_3_code 10 = .ok (.goto 4, 3) := by decide +kernel
theorem d3_13 : decode prog_27_method_3_code 13 = .ok (.iconst 0, 1) := by decide +kernel
theorem d3_14 : decode prog_27_method_3_code 14 = .ok (.ireturn, 1) := by decide +kernel
theorem d4_0 : decode prog_27_method_2_code 0 = .ok (.aload_n 0, 1) := by decide +kernel
theorem d4_1 : decode prog_27_method_2_code 1 = .ok (.dup, 1) := by decide +kernel
theorem d4_2 : decode prog_27_method_2_code 2 = .ok (.getfield 7, 3) := by decide +kernel
theorem d4_5 : decode prog_27_method_2_code 5 = .ok (.lload_n 1, 1) := by decide +kernel
theorem d4_6 : decode prog_27_method_2_code 6 = .ok (.lsub, 1) := by decide +kernel
theorem d4_7 : decode prog_27_method_2_code 7 = .ok (.putfield 7, 3) := by decide +kernel
theorem d4_10 : decode prog_27_method_2_code 10 = .ok (.return_, 1) := by decide +kernel
theorem pd_0 : parseMethodDescriptor "(J)V" = some ⟨[.long], none⟩ := by decide +kernel
theorem pd_1 : parseMethodDescriptor "()Z" = some ⟨[], some .boolean⟩ := by decide +kernel
set_option maxRecDepth 65536 in
set_option maxHeartbeats 4000000 in
theorem c_init (l : Launch) (Z : State) (a0 : Array Value) (hw : ∀ d ∈ tables_1, d.before a0 Z = true) (wl : List Jvm.Cond) (n0 : Nat) (h : Heap) (a : Addr) (q u : Int64) (hz : n0 ≤ h.size) (g_a : n0 ≤ a) (E_a : Exa Z h a "com/example/chromapath/chromapath/ring/Budget") (F_a : Fld Z h a "com/example/chromapath/chromapath/ring/Budget" "left" "J" (.long u)) :
    Ctr l Z (⟨"com/example/chromapath/chromapath/ring/Budget", "<init>", "(J)V"⟩ : MethodName) prog_27_method_1_code 3 none ({ frames := 1, cells := 0, slots := 0, locals := 12 } : Room) n0 #[(.ref a), (.long q)] h (fun v h' => v = none ∧ Keep h h' [a] ∧ Fld Z h' a "com/example/chromapath/chromapath/ring/Budget" "left" "J" (.long q)) wl := by
  refine Ctr.of (ls := #[.val (.ref a), .val (.long q), .second]) (by first | (exact plainFor_of_name (by first | (simp [plainName, overriddenIn]; done) | decide +kernel)) | decide +kernel) hw (fun m => entry_eq m (L1 := [.val (.ref a), .val (.long q), .second]) (k := 0) rfl rfl rfl) (fun G C => ?_)
  have K := Keep.refl h [a]
  refine C.aloadN d1_0 rfl (pc' := 1) rfl ?_
  refine C.initO (i1 := 6) (i2 := 7) (i3 := 8) rfl rfl rfl rfl (by decide) (W := 0) rfl (by decide) d1_1 (pc' := 4) rfl ?_
  refine C.aloadN d1_4 rfl (pc' := 5) rfl ?_
  refine C.lloadN d1_5 rfl (pc' := 6) rfl ?_
  refine C.putfield (i := 9) (i2 := 10) (i3 := 1) rfl (Or.inl rfl) rfl F_a E_a (ty := .long) (by decide) (v' := (.long q)) rfl rfl g_a d1_6 (pc' := 9) rfl ?_
  intro h1 W2
  have E_a := E_a.wr W2
  have F_a := F_a.same W2
  have hz : n0 ≤ _ := Nat.le_trans hz (Nat.le_of_eq W2.size.symm)
  have K := K.wr W2 (Or.inl (by simp))
  exact C.vreturn d1_9 rfl (by decide) (by decide) ⟨rfl, K, F_a⟩
set_option maxRecDepth 65536 in
set_option maxHeartbeats 4000000 in
theorem c_spent (l : Launch) (Z : State) (a0 : Array Value) (hw : ∀ d ∈ tables_1, d.before a0 Z = true) (wl : List Jvm.Cond) (n0 : Nat) (h : Heap) (a : Addr) (q : Int64) (F_a : Fld Z h a "com/example/chromapath/chromapath/ring/Budget" "left" "J" (.long q)) :
    Ctr l Z (⟨"com/example/chromapath/chromapath/ring/Budget", "spent", "()Z"⟩ : MethodName) prog_27_method_3_code 1 (some .boolean) ({ frames := 0, cells := 0, slots := 0, locals := 0 } : Room) n0 #[(.ref a)] h (fun v h' => v = some (.int (if q < 0 then (1 : Int32) else (0 : Int32))) ∧ h' = h) wl := by
  refine Ctr.of (ls := #[.val (.ref a)]) (by first | (exact plainFor_of_name (by first | (simp [plainName, overriddenIn]; done) | decide +kernel)) | decide +kernel) hw (fun m => entry_eq m (L1 := [.val (.ref a)]) (k := 0) rfl rfl rfl) (fun G C => ?_)
  refine C.aloadN d3_0 rfl (pc' := 1) rfl ?_
  refine C.getfield (i := 9) rfl F_a d3_1 (pc' := 4) rfl ?_
  refine C.lconst d3_4 (v := 0) rfl (pc' := 5) rfl ?_
  refine C.lcmp d3_5 (pc' := 6) rfl ?_
  refine C.if_ge d3_6 (by decide) (pc1 := 13) rfl (pc2 := 9) rfl (fun hc => ?_) (fun hc => ?_)
  · refine C.iconst d3_13 (v := 0) rfl (pc' := 14) rfl ?_
    exact C.nreturn (b := (0 : Int32)) d3_14 rfl (by simp) (by decide) (by decide) rfl ⟨by rw [if_neg (fun q => hc (cmpL_lt.mpr q))], rfl⟩
  · refine C.iconst d3_9 (v := 1) rfl (pc' := 10) rfl ?_
    refine C.goto d3_10 (by decide) (pc' := 14) rfl ?_
    exact C.nreturn (b := (1 : Int32)) d3_14 rfl (by simp) (by decide) (by decide) rfl ⟨by rw [if_pos (cmpL_lt.mp hc)], rfl⟩
set_option maxRecDepth 65536 in
set_option maxHeartbeats 4000000 in
theorem c_spend (l : Launch) (Z : State) (a0 : Array Value) (hw : ∀ d ∈ tables_1, d.before a0 Z = true) (wl : List Jvm.Cond) (n0 : Nat) (h : Heap) (a : Addr) (q d : Int64) (hz : n0 ≤ h.size) (g_a : n0 ≤ a) (E_a : Exa Z h a "com/example/chromapath/chromapath/ring/Budget") (F_a : Fld Z h a "com/example/chromapath/chromapath/ring/Budget" "left" "J" (.long q)) :
    Ctr l Z (⟨"com/example/chromapath/chromapath/ring/Budget", "spend", "(J)V"⟩ : MethodName) prog_27_method_2_code 3 none ({ frames := 0, cells := 0, slots := 0, locals := 0 } : Room) n0 #[(.ref a), (.long d)] h (fun v h' => v = none ∧ Keep h h' [a] ∧ Fld Z h' a "com/example/chromapath/chromapath/ring/Budget" "left" "J" (.long (q - d))) wl := by
  refine Ctr.of (ls := #[.val (.ref a), .val (.long d), .second]) (by first | (exact plainFor_of_name (by first | (simp [plainName, overriddenIn]; done) | decide +kernel)) | decide +kernel) hw (fun m => entry_eq m (L1 := [.val (.ref a), .val (.long d), .second]) (k := 0) rfl rfl rfl) (fun G C => ?_)
  have K := Keep.refl h [a]
  refine C.aloadN d4_0 rfl (pc' := 1) rfl ?_
  refine C.dup d4_1 rfl (pc' := 2) rfl ?_
  refine C.getfield (i := 9) rfl F_a d4_2 (pc' := 5) rfl ?_
  refine C.lloadN d4_5 rfl (pc' := 6) rfl ?_
  refine C.lsub d4_6 (pc' := 7) rfl ?_
  refine C.putfield (i := 9) (i2 := 10) (i3 := 1) rfl (Or.inl rfl) rfl F_a E_a (ty := .long) (by decide) (v' := (.long (q - d))) rfl rfl g_a d4_7 (pc' := 10) rfl ?_
  intro h3 W4
  have E_a := E_a.wr W4
  have F_a := F_a.same W4
  have hz : n0 ≤ _ := Nat.le_trans hz (Nat.le_of_eq W4.size.symm)
  have K := K.wr W4 (Or.inl (by simp))
  exact C.vreturn d4_10 rfl (by decide) (by decide) ⟨rfl, K, F_a⟩
set_option maxRecDepth 65536 in
set_option maxHeartbeats 4000000 in
theorem c_law (l : Launch) (Z : State) (a0 : Array Value) (hw : ∀ d ∈ tables_1, d.before a0 Z = true) (wl : List Jvm.Cond) (n0 : Nat) (h : Heap) (b s1 s2 : Int64) (hz : n0 ≤ h.size) :
    Ctr l Z x code maxLocals ret room_1 n0 #[(.long b), (.long s1), (.long s2)] h (fun v _ => v = some (.int 1)) wl := by
  refine Ctr.of (ls := #[.val (.long b), .second, .val (.long s1), .second, .val (.long s2), .second, .unset, .unset, .unset, .unset, .unset, .unset, .unset, .unset, .unset, .unset, .unset, .unset]) (by first | (exact plainFor_of_name (by first | (simp [plainName, overriddenIn]; done) | decide +kernel)) | decide +kernel) hw (fun m => entry_eq m (L1 := [.val (.long b), .second, .val (.long s1), .second, .val (.long s2), .second]) (k := 12) rfl rfl rfl) (fun G C => ?_)
  obtain ⟨B, hB, B1, B2⟩ := own_shr2 b
  obtain ⟨F, hF, F1, F2⟩ := own_shr2 s1
  obtain ⟨S, hS, S1, S2⟩ := own_shr2 s2
  refine C.lloadN at_0 rfl (pc' := 1) rfl ?_
  refine C.iconst at_1 (v := 2) rfl (pc' := 2) rfl ?_
  refine C.lshr at_2 (pc' := 3) rfl ?_
  refine castJ (show (b >>> (((2 : Int32)).toInt64 &&& 63)) = B from hB) ?_
  refine C.lstore at_3 (ls' := #[.val (.long b), .second, .val (.long s1), .second, .val (.long s2), .second, .val (.long B), .second, .unset, .unset, .unset, .unset, .unset, .unset, .unset, .unset, .unset, .unset]) rfl (pc' := 5) rfl ?_
  refine C.lloadN at_5 rfl (pc' := 6) rfl ?_
  refine C.iconst at_6 (v := 2) rfl (pc' := 7) rfl ?_
  refine C.lshr at_7 (pc' := 8) rfl ?_
  refine castJ (show (s1 >>> (((2 : Int32)).toInt64 &&& 63)) = F from hF) ?_
  refine C.lstore at_8 (ls' := #[.val (.long b), .second, .val (.long s1), .second, .val (.long s2), .second, .val (.long B), .second, .val (.long F), .second, .unset, .unset, .unset, .unset, .unset, .unset, .unset, .unset]) rfl (pc' := 10) rfl ?_
  refine C.lload at_10 rfl (pc' := 12) rfl ?_
  refine C.iconst at_12 (v := 2) rfl (pc' := 13) rfl ?_
  refine C.lshr at_13 (pc' := 14) rfl ?_
  refine castJ (show (s2 >>> (((2 : Int32)).toInt64 &&& 63)) = S from hS) ?_
  refine C.lstore at_14 (ls' := #[.val (.long b), .second, .val (.long s1), .second, .val (.long s2), .second, .val (.long B), .second, .val (.long F), .second, .val (.long S), .second, .unset, .unset, .unset, .unset, .unset, .unset]) rfl (pc' := 16) rfl ?_
  refine C.newO (i1 := 0) (i2 := 1) (i3 := 2) rfl rfl rfl (by decide) (by decide) at_16 (pc' := 19) rfl ?_
  intro h5 o6 q7 E8 E_o6 D9
  have g_o6 : n0 ≤ o6 := Nat.le_trans hz (Nat.le_of_eq q7.symm)
  have hz := Nat.le_trans hz E8.1
  have F_left_o6 : Fld Z h5 o6 "com/example/chromapath/chromapath/ring/Budget" "left" "J" (.long (0 : Int64)) := D9 (ty := .long) (Or.inl (hw _ (List.mem_of_getElem? (i := 10) rfl))) (by decide)
  refine C.dup at_19 rfl (pc' := 20) rfl ?_
  refine C.lload at_20 rfl (pc' := 22) rfl ?_
  refine C.callI (a := o6) (c_init l Z a0 hw [] n0 h5 o6 B _ hz g_o6 E_o6 F_left_o6) (i1 := 3) (i2 := 4) (i3 := 2) (i4 := 5) rfl rfl rfl rfl rfl (by decide) pd_0 rfl (argsL := [(.long B)]) rfl (rest := [(.ref o6)]) rfl rfl (W := 1) rfl (by decide) (by decide) (by decide) (by decide) at_22 (pc' := 25) rfl (k' := 1) rfl (n' := 1) rfl ?_
  rintro _ h10 ⟨rfl, K11, F_left_o6'⟩
  have E_o6 := E_o6.keep K11
  have hz := Nat.le_trans hz K11.1
  refine C.astore at_25 (ls' := #[.val (.long b), .second, .val (.long s1), .second, .val (.long s2), .second, .val (.long B), .second, .val (.long F), .second, .val (.long S), .second, .val (.ref o6), .unset, .unset, .unset, .unset, .unset]) rfl (pc' := 27) rfl ?_
  refine C.aload at_27 rfl (pc' := 29) rfl ?_
  refine C.callVP (a := o6) (c_spent l Z a0 hw [] n0 h10 o6 B F_left_o6') E_o6 (i1 := 11) (i2 := 12) (i3 := 13) (i4 := 14) (i5 := 15) (i6 := 2) rfl rfl rfl rfl rfl rfl (by decide) pd_1 rfl (argsL := []) rfl (rest := []) rfl rfl (W := 0) rfl (by decide) (by decide) (by decide) (by decide) at_29 (pc' := 32) rfl (k' := 1) rfl (n' := 1) rfl ?_
  refine C.lconst at_32 (v := 0) rfl (pc' := 33) rfl ?_
  refine C.lload at_33 rfl (pc' := 35) rfl ?_
  refine C.lcmp at_35 (pc' := 36) rfl ?_
  suffices t52 : G h10 1 1 52 #[.val (.long b), .second, .val (.long s1), .second, .val (.long s2), .second, .val (.long B), .second, .val (.long F), .second, .val (.long S), .second, .val (.ref o6), .unset, .unset, .unset, .unset, .unset] [(.int (1 : Int32))] by
    refine C.if_le at_36 (by decide) (pc1 := 43) rfl (pc2 := 39) rfl (fun hc => ?_) (fun hc => ?_)
    · rw [if_neg (fun q => hc (cmpL_gt.mpr q))]
      refine C.iconst at_43 (v := 0) rfl (pc' := 44) rfl ?_
      refine C.icmp_ne_F at_44 rfl (pc' := 47) rfl ?_
      refine C.iconst at_47 (v := 1) rfl (pc' := 48) rfl ?_
      refine C.goto at_48 (by decide) (pc' := 52) rfl ?_
      exact t52
    · rw [if_pos (cmpL_gt.mp hc)]
      refine C.iconst at_39 (v := 1) rfl (pc' := 40) rfl ?_
      refine C.goto at_40 (by decide) (pc' := 44) rfl ?_
      refine C.icmp_ne_F at_44 rfl (pc' := 47) rfl ?_
      refine C.iconst at_47 (v := 1) rfl (pc' := 48) rfl ?_
      refine C.goto at_48 (by decide) (pc' := 52) rfl ?_
      exact t52
  refine C.istore at_52 (ls' := #[.val (.long b), .second, .val (.long s1), .second, .val (.long s2), .second, .val (.long B), .second, .val (.long F), .second, .val (.long S), .second, .val (.ref o6), .val (.int (1 : Int32)), .unset, .unset, .unset, .unset]) rfl (pc' := 54) rfl ?_
  refine C.aload at_54 rfl (pc' := 56) rfl ?_
  refine C.lload at_56 rfl (pc' := 58) rfl ?_
  refine C.callV (a := o6) (c_spend l Z a0 hw [] n0 h10 o6 B F hz g_o6 E_o6 F_left_o6') E_o6 (i1 := 16) (i2 := 17) (i3 := 18) (i4 := 19) (i5 := 20) (i6 := 2) rfl rfl rfl rfl rfl rfl (by decide) pd_0 rfl (argsL := [(.long F)]) rfl (rest := []) rfl rfl (W := 0) rfl (by decide) (by decide) (by decide) (by decide) at_58 (pc' := 61) rfl (k' := 1) rfl (n' := 1) rfl ?_
  rintro _ h12 ⟨rfl, K13, F14⟩
  have E_o6 := E_o6.keep K13
  have hz := Nat.le_trans hz K13.1
  refine C.aload at_61 rfl (pc' := 63) rfl ?_
  refine C.callVP (a := o6) (c_spent l Z a0 hw [] n0 h12 o6 (B - F) F14) E_o6 (i1 := 11) (i2 := 12) (i3 := 13) (i4 := 14) (i5 := 15) (i6 := 2) rfl rfl rfl rfl rfl rfl (by decide) pd_1 rfl (argsL := []) rfl (rest := []) rfl rfl (W := 0) rfl (by decide) (by decide) (by decide) (by decide) at_63 (pc' := 66) rfl (k' := 1) rfl (n' := 1) rfl ?_
  refine C.lload at_66 rfl (pc' := 68) rfl ?_
  refine C.lload at_68 rfl (pc' := 70) rfl ?_
  refine C.lcmp at_70 (pc' := 71) rfl ?_
  suffices t87 : G h12 1 1 87 #[.val (.long b), .second, .val (.long s1), .second, .val (.long s2), .second, .val (.long B), .second, .val (.long F), .second, .val (.long S), .second, .val (.ref o6), .val (.int (1 : Int32)), .unset, .unset, .unset, .unset] [(.int (1 : Int32))] by
    refine C.if_le at_71 (by decide) (pc1 := 78) rfl (pc2 := 74) rfl (fun hc => ?_) (fun hc => ?_)
    · rw [if_neg (fun q => hc (cmpL_gt.mpr ((own_s1 B1 B2 F1 F2).mp q)))]
      refine C.iconst at_78 (v := 0) rfl (pc' := 79) rfl ?_
      refine C.icmp_ne_F at_79 rfl (pc' := 82) rfl ?_
      refine C.iconst at_82 (v := 1) rfl (pc' := 83) rfl ?_
      refine C.goto at_83 (by decide) (pc' := 87) rfl ?_
      exact t87
    · rw [if_pos ((own_s1 B1 B2 F1 F2).mpr (cmpL_gt.mp hc))]
      refine C.iconst at_74 (v := 1) rfl (pc' := 75) rfl ?_
      refine C.goto at_75 (by decide) (pc' := 79) rfl ?_
      refine C.icmp_ne_F at_79 rfl (pc' := 82) rfl ?_
      refine C.iconst at_82 (v := 1) rfl (pc' := 83) rfl ?_
      refine C.goto at_83 (by decide) (pc' := 87) rfl ?_
      exact t87
  refine C.istore at_87 (ls' := #[.val (.long b), .second, .val (.long s1), .second, .val (.long s2), .second, .val (.long B), .second, .val (.long F), .second, .val (.long S), .second, .val (.ref o6), .val (.int (1 : Int32)), .val (.int (1 : Int32)), .unset, .unset, .unset]) rfl (pc' := 89) rfl ?_
  refine C.aload at_89 rfl (pc' := 91) rfl ?_
  refine C.lload at_91 rfl (pc' := 93) rfl ?_
  refine C.callV (a := o6) (c_spend l Z a0 hw [] n0 h12 o6 (B - F) S hz g_o6 E_o6 F14) E_o6 (i1 := 16) (i2 := 17) (i3 := 18) (i4 := 19) (i5 := 20) (i6 := 2) rfl rfl rfl rfl rfl rfl (by decide) pd_0 rfl (argsL := [(.long S)]) rfl (rest := []) rfl rfl (W := 0) rfl (by decide) (by decide) (by decide) (by decide) at_93 (pc' := 96) rfl (k' := 1) rfl (n' := 1) rfl ?_
  rintro _ h15 ⟨rfl, K16, F17⟩
  have E_o6 := E_o6.keep K16
  have hz := Nat.le_trans hz K16.1
  refine C.lload at_96 rfl (pc' := 98) rfl ?_
  refine C.lload at_98 rfl (pc' := 100) rfl ?_
  refine C.ladd at_100 (pc' := 101) rfl ?_
  refine C.lstore at_101 (ls' := #[.val (.long b), .second, .val (.long s1), .second, .val (.long s2), .second, .val (.long B), .second, .val (.long F), .second, .val (.long S), .second, .val (.ref o6), .val (.int (1 : Int32)), .val (.int (1 : Int32)), .val (.long (F + S)), .second, .unset]) rfl (pc' := 103) rfl ?_
  refine C.aload at_103 rfl (pc' := 105) rfl ?_
  refine C.callVP (a := o6) (c_spent l Z a0 hw [] n0 h15 o6 ((B - F) - S) F17) E_o6 (i1 := 11) (i2 := 12) (i3 := 13) (i4 := 14) (i5 := 15) (i6 := 2) rfl rfl rfl rfl rfl rfl (by decide) pd_1 rfl (argsL := []) rfl (rest := []) rfl rfl (W := 0) rfl (by decide) (by decide) (by decide) (by decide) at_105 (pc' := 108) rfl (k' := 1) rfl (n' := 1) rfl ?_
  refine C.lload at_108 rfl (pc' := 110) rfl ?_
  refine C.lload at_110 rfl (pc' := 112) rfl ?_
  refine C.lcmp at_112 (pc' := 113) rfl ?_
  suffices t129 : G h15 1 1 129 #[.val (.long b), .second, .val (.long s1), .second, .val (.long s2), .second, .val (.long B), .second, .val (.long F), .second, .val (.long S), .second, .val (.ref o6), .val (.int (1 : Int32)), .val (.int (1 : Int32)), .val (.long (F + S)), .second, .unset] [(.int (1 : Int32))] by
    refine C.if_le at_113 (by decide) (pc1 := 120) rfl (pc2 := 116) rfl (fun hc => ?_) (fun hc => ?_)
    · rw [if_neg (fun q => hc (cmpL_gt.mpr ((own_s2 B1 B2 F1 F2 S1 S2).mp q)))]
      refine C.iconst at_120 (v := 0) rfl (pc' := 121) rfl ?_
      refine C.icmp_ne_F at_121 rfl (pc' := 124) rfl ?_
      refine C.iconst at_124 (v := 1) rfl (pc' := 125) rfl ?_
      refine C.goto at_125 (by decide) (pc' := 129) rfl ?_
      exact t129
    · rw [if_pos ((own_s2 B1 B2 F1 F2 S1 S2).mpr (cmpL_gt.mp hc))]
      refine C.iconst at_116 (v := 1) rfl (pc' := 117) rfl ?_
      refine C.goto at_117 (by decide) (pc' := 121) rfl ?_
      refine C.icmp_ne_F at_121 rfl (pc' := 124) rfl ?_
      refine C.iconst at_124 (v := 1) rfl (pc' := 125) rfl ?_
      refine C.goto at_125 (by decide) (pc' := 129) rfl ?_
      exact t129
  refine C.istore at_129 (ls' := #[.val (.long b), .second, .val (.long s1), .second, .val (.long s2), .second, .val (.long B), .second, .val (.long F), .second, .val (.long S), .second, .val (.ref o6), .val (.int (1 : Int32)), .val (.int (1 : Int32)), .val (.long (F + S)), .second, .val (.int (1 : Int32))]) rfl (pc' := 131) rfl ?_
  refine C.iload at_131 rfl (pc' := 133) rfl ?_
  refine C.if_eq_F at_133 (by decide) (pc' := 136) rfl ?_
  refine C.iload at_136 rfl (pc' := 138) rfl ?_
  refine C.if_eq_F at_138 (by decide) (pc' := 141) rfl ?_
  refine C.iload at_141 rfl (pc' := 143) rfl ?_
  refine C.if_eq_F at_143 (by decide) (pc' := 146) rfl ?_
  refine C.iconst at_146 (v := 1) rfl (pc' := 147) rfl ?_
  refine C.goto at_147 (by decide) (pc' := 151) rfl ?_
  exact C.nreturn (b := (1 : Int32)) at_151 rfl (by simp) (by decide) (by decide) rfl rfl
set_option maxRecDepth 65536 in
set_option maxHeartbeats 4000000 in
theorem comes_1 {Post : Tables → Env → Array Value → State → Outcome → State → Prop} (hpost : ∀ tb e args s v u, (limb_1_1.after args s (.returned v) u = true ∧ limb_1_2.after args s (.returned v) u = true ∧ True) → FrameEnd s (.returned v) u (Jvm.fieldLocs frame_1_writes args s ++ Jvm.arrayLocs frame_1_arrays args s ++ Jvm.staticLocs frame_1_statics s) 16 128 → Post tb e args s (.returned v) u) :
    ArmFor flags0 classFile x code maxLocals ret World_1 tables_1 room_1 Calls_1 rest_1 Pre_1 Post := by
  intro l hfl _ _ p e ha hc hk s m args below hf hA hF happ hP
  obtain ⟨hcalls, hrest, hpre⟩ := hP
  obtain ⟨-, -, -, hnamed, -, -, -, hat⟩ := (Spec.applies_iff hf).mp happ
  obtain ⟨hg, hn⟩ := and_e (Cond.before_iff.mp (show (Jvm.Cond.and given_1 narrow_1).before args s = true from hpre))
  obtain ⟨hcount, hb0⟩ := and_e hg
  obtain ⟨ha0, hb1⟩ := and_e hb0
  obtain ⟨ha1, hb2⟩ := and_e hb1
  obtain ⟨w0, w1, w2, rfl⟩ : ∃ w0 w1 w2 : Value, args = #[w0, w1, w2] := by
    have hs : args.size = 3 := by simpa [Cond.value, given_1] using hcount
    obtain ⟨L⟩ := args
    match L, hs with
    | [w0, w1, w2], _ => exact ⟨w0, w1, w2, rfl⟩
  have hw := fun d (hd : d ∈ tables_1) => atoms_spec (ws := Jvm.Cond.code x code maxLocals ret :: tables_1) hat d (List.mem_cons_of_mem _ hd)
  obtain ⟨i0, e0⟩ := isL_v ha0
  obtain rfl : w0 = (.long i0) := Option.some.inj e0
  obtain ⟨i1, e1⟩ := isL_v ha1
  obtain rfl : w1 = (.long i1) := Option.some.inj e1
  obtain ⟨i2, e2⟩ := isL_v hb2
  obtain rfl : w2 = (.long i2) := Option.some.inj e2
  obtain ⟨n, o, h1, h2, h3, _, L, rfl, ⟨rfl, N⟩, hq⟩ := c_law l s _ hw tables_1 s.heap.size s.heap i0 i1 i2 (Nat.le_refl _) p e ha hc hk s m _ below hf ((Spec.applies_iff_loose hf).mp happ).1 ⟨rfl, State.Warmed39.refl s, rfl⟩ trivial
  refine ⟨n, _, h1, h2, h3, hpost _ _ _ _ _ _ ⟨Cond.after_iff.mpr rfl, Cond.after_iff.mpr (eq_i res_at (Term.int_eval (1)) rfl), trivial⟩ ⟨hq.1, hq.2.1, (hq.2.2.sift fun y hy => Or.inr (N y hy)).mono (by decide) (by decide)⟩⟩
theorem main_1_1 : Claimed_1_1 := comes_1 fun _ _ _ _ _ _ h hF => ⟨h.1, hF⟩
theorem main_1_2 : Claimed_1_2 := comes_1 fun _ _ _ _ _ _ h hF => ⟨h.2.1, hF⟩
end Jvm.Pilot.@@N@@
namespace Jvm.Pilot.@@N@@
open Jvm Jvm.ClassFile Sem Op Lib Jvm.Free Jvm.Stand Jvm.Pilot.@@N@@.Jvm.D
/-! MADE BY PROGRAM (witnessworld.py) out of the Statement's table words and the real class files: 9 classes; the members and pool entries that the words name. The judged class is class 1, her method 1. -/
namespace start1
open Jvm.ClassFile
def u (s : String) : CpInfo := .utf8 (stringToUtf16 s)
/-- a pool by its gaps: so many unusable entries, then the entry; so many at the end -/
def gap : Nat → List CpInfo → List CpInfo
  | 0, r => r
  | n + 1, r => .unusable :: gap n r
def poolList (es : List (Nat × CpInfo)) (last : Nat) : List CpInfo := es.foldr (fun e r => gap e.1 (e.2 :: r)) (gap last [])
def pool (es : List (Nat × CpInfo)) (last : Nat) : Array CpInfo := ⟨poolList es last⟩
def fileOf (pool : Array CpInfo) (this : Nat) (attrs : Array Attribute := #[]) (ms : Array MethodInfo := #[]) (fl : Nat := 33) (sup : Nat := 0) (ifs : Array Nat := #[]) (fds : Array FieldInfo := #[]) : ClassFile where
  minorVersion := 0
  majorVersion := 65
  constantPool := pool
  accessFlags := fl
  thisClass := this
  superClass := sup
  interfaces := ifs
  fields := fds
  methods := ms
  attributes := attrs
def plain (name : String) (sup : Option ClassId) : Class where
  name := name
  kind := .ordinary
  loader := none
  accessFlags := 33
  super := sup
  interfaces := #[]
  cf := none
  fields := #[]
  methods := #[]
  instanceTypes := #[]
  staticTypes := #[]
  resolved := #[]
  callSites := []
  init := .initialized
  statics := none
  mirror := none

def pool0 : Array CpInfo := pool [(5, u "<init>"), (0, u "()V"), (1, .class_ 10), (1, u "java/lang/Object")] 113

def k0c0 : Code := { maxStack := 0, maxLocals := 1, code := object_method_1_code, exceptionTable := #[], attributes := #[] }
def k0m0 : Method := { name := "<init>", desc := "()V", sig := { parameters := [], returnType := none }, accessFlags := 1, code := some k0c0 }
/-- java/lang/Object -/
def k0 : Class := { plain "java/lang/Object" none with
  accessFlags := 33
  interfaces := #[]
  cf := some (fileOf pool0 8 #[] #[{ accessFlags := 1, nameIndex := 5, descriptorIndex := 6, attributes := #[] }] 33 0 #[] #[])
  fields := #[]
  methods := #[k0m0]
  instanceTypes := #[]
  staticTypes := #[]
  resolved := Array.replicate 124 none
  statics := none }

def pool1 : Array CpInfo := pool [(2, .class_ 4), (1, u "java/lang/Object"), (0, u "<init>"), (0, u "()V"), (0, .class_ 8), (0, u "com/example/chromapath/chromapath/ring/Budget"), (0, .methodref 7 10), (0, .nameAndType 5 11), (0, u "(J)V"), (0, .methodref 7 13), (0, .nameAndType 14 15), (0, u "spent"), (0, u "()Z"), (0, .methodref 7 17), (0, .nameAndType 18 11), (0, u "spend"), (0, .class_ 20), (0, u "com/example/chromapath/chromapath/ring/BudgetSpentPinLaw"), (2, u "law"), (0, u "(JJJ)Z")] 3

def k1m0 : Method := { name := "<init>", desc := "()V", sig := { parameters := [], returnType := none }, accessFlags := 1, code := none }
def k1c1 : Code := { maxStack := 5, maxLocals := 18, code := code, exceptionTable := #[], attributes := #[] }
def k1m1 : Method := { name := "law", desc := "(JJJ)Z", sig := { parameters := [.long, .long, .long], returnType := some .boolean }, accessFlags := 9, code := some k1c1 }
/-- com/example/chromapath/chromapath/ring/BudgetSpentPinLaw -/
def k1 : Class := { plain "com/example/chromapath/chromapath/ring/BudgetSpentPinLaw" (some 0) with
  accessFlags := 49
  interfaces := #[]
  cf := some (fileOf pool1 19 #[] #[{ accessFlags := 1, nameIndex := 5, descriptorIndex := 6, attributes := #[] }, { accessFlags := 9, nameIndex := 23, descriptorIndex := 24, attributes := #[] }] 49 2 #[] #[])
  fields := #[]
  methods := #[k1m0, k1m1]
  instanceTypes := #[]
  staticTypes := #[]
  resolved := Array.replicate 28 none
  statics := none }

def pool2 : Array CpInfo := pool [(1, .methodref 2 3), (0, .class_ 4), (0, .nameAndType 5 6), (0, u "java/lang/Object"), (0, u "<init>"), (0, u "()V"), (0, .fieldref 8 9), (0, .class_ 10), (0, .nameAndType 11 12), (0, u "com/example/chromapath/chromapath/ring/Budget"), (0, u "left"), (0, u "J"), (0, u "(J)V"), (2, u "spend"), (0, u "spent"), (0, u "()Z")] 3

def k2c0 : Code := { maxStack := 3, maxLocals := 3, code := prog_27_method_1_code, exceptionTable := #[], attributes := #[] }
def k2m0 : Method := { name := "<init>", desc := "(J)V", sig := { parameters := [.long], returnType := none }, accessFlags := 0, code := some k2c0 }
def k2c1 : Code := { maxStack := 5, maxLocals := 3, code := prog_27_method_2_code, exceptionTable := #[], attributes := #[] }
def k2m1 : Method := { name := "spend", desc := "(J)V", sig := { parameters := [.long], returnType := none }, accessFlags := 0, code := some k2c1 }
def k2c2 : Code := { maxStack := 4, maxLocals := 1, code := prog_27_method_3_code, exceptionTable := #[], attributes := #[] }
def k2m2 : Method := { name := "spent", desc := "()Z", sig := { parameters := [], returnType := some .boolean }, accessFlags := 0, code := some k2c2 }
/-- com/example/chromapath/chromapath/ring/Budget -/
def k2 : Class := { plain "com/example/chromapath/chromapath/ring/Budget" (some 0) with
  accessFlags := 48
  interfaces := #[]
  cf := some (fileOf pool2 8 #[] #[{ accessFlags := 0, nameIndex := 5, descriptorIndex := 13, attributes := #[] }, { accessFlags := 0, nameIndex := 16, descriptorIndex := 13, attributes := #[] }, { accessFlags := 0, nameIndex := 17, descriptorIndex := 18, attributes := #[] }] 48 2 #[] #[{ accessFlags := 2, nameIndex := 11, descriptorIndex := 12, attributes := #[] }])
  fields := #[{ name := "left", type := .long, accessFlags := 2, slot := 0, constantValue := 0 }]
  methods := #[k2m0, k2m1, k2m2]
  instanceTypes := #[.long]
  staticTypes := #[]
  resolved := Array.replicate 22 none
  statics := none }

def pool3 : Array CpInfo := pool [(1, u "java/lang/Cloneable"), (0, .class_ 1), (0, u "java/lang/Object"), (0, .class_ 3)] 3

/-- java/lang/Cloneable -/
def k3 : Class := { plain "java/lang/Cloneable" (some 0) with
  accessFlags := 1537
  interfaces := #[]
  cf := some (fileOf pool3 2 #[] #[] 1537 4 #[] #[])
  fields := #[]
  methods := #[]
  instanceTypes := #[]
  staticTypes := #[]
  resolved := Array.replicate 8 none
  statics := none }

def pool4 : Array CpInfo := pool [(1, u "java/io/Serializable"), (0, .class_ 1), (0, u "java/lang/Object"), (0, .class_ 3)] 3

/-- java/io/Serializable -/
def k4 : Class := { plain "java/io/Serializable" (some 0) with
  accessFlags := 1537
  interfaces := #[]
  cf := some (fileOf pool4 2 #[] #[] 1537 4 #[] #[])
  fields := #[]
  methods := #[]
  instanceTypes := #[]
  staticTypes := #[]
  resolved := Array.replicate 8 none
  statics := none }

/-- the primitive byte -/
def k5 : Class := { plain "byte" none with kind := .primitive 'B', accessFlags := 0x411 }
/-- [B -/
def k6 : Class := { plain "[B" (some 0) with kind := .array 5 .byte, interfaces := #[3, 4], accessFlags := 1041 }

/-- the primitive int -/
def k7 : Class := { plain "int" none with kind := .primitive 'I', accessFlags := 0x411 }
/-- [I -/
def k8 : Class := { plain "[I" (some 0) with kind := .array 7 .int, interfaces := #[3, 4], accessFlags := 1041 }

def heap : Heap := #[]
def classes : Array Class := #[k0, k1, k2, k3, k4, k5, k6, k7, k8]
def interned : List (Array UInt16 × Addr) := []
def slotsUsed : Nat := 0
def theMethod : MethodId := ⟨1, 1⟩
def args0 : Array Value := #[.long 5, .long 3, .long 7]
def aboutOver (below : List Frame) : State where
  vm := { classes := classes, interned := interned.toArray }
  heap := heap
  slotsUsed := slotsUsed
  threads := #[{ frames := .invoking theMethod args0 :: below }]
def below0 : List Frame := [.native { method := ⟨0, 0⟩, args := #[] }]
def about1 : State := aboutOver below0
def p0 : Program := .bare "" "" ""
def e0 : Env := launch0.env 0 0 0
theorem w_frames : about1.frames = Frame.invoking theMethod args0 :: below0 := rfl
set_option maxRecDepth 65536 in
theorem w_args : argsFit about1.vm theMethod args0 = true := by decide +kernel
set_option maxRecDepth 65536 in
theorem w_heap : heapFits about1 = true := by decide +kernel
set_option maxRecDepth 65536 in
theorem w_runnable : about1.curStatus? = some .runnable := by decide +kernel
set_option maxRecDepth 65536 in
theorem w_alone : about1.alone = true := by decide +kernel
set_option maxRecDepth 65536 in
theorem w_named : about1.methodNamed? x = some theMethod := by decide +kernel
set_option maxRecDepth 65536 in
theorem w_hears : about1.hears theMethod below0 = true := by decide +kernel
set_option maxRecDepth 65536 in
theorem w_ripe : about1.ripe theMethod args0 below0 = true := by decide +kernel
theorem w_running : about1.status = .running := rfl
set_option maxRecDepth 65536 in
theorem w_room : about1.hasRoom e0.platform room_1 = true :=
  launch0.hasRoom_least _ room_1 (by decide +kernel) (by decide +kernel) (by decide +kernel) (by decide +kernel) (by decide +kernel) (by decide +kernel)
theorem allAtoms_all (ts : List Jvm.Cond) (a : Array Jvm.Value) (st : Jvm.State) : (allAtoms ts).before a st = ts.all (fun c => c.before a st) := by
  induction ts with
  | nil => rfl
  | cons c t ih =>
    show (Jvm.Cond.and c (allAtoms t)).before a st = _
    rw [Jvm.Cond.before_and, ih, List.all_cons]
def words1 : List Jvm.Cond := Jvm.Cond.code x code maxLocals ret :: tables_1
/-- a 'code' word, met by the world's own term for the bytes: nothing is compared byte by byte -/
theorem code_word {y : MethodName} {bytes : ByteArray} {mx : Nat} {rt : Option FieldType} {a : Array Value} {s : State} {m : MethodId} {meth : Method} {c : Code} (h1 : s.methodNamed? y = some m) (h2 : s.vm.method? m = some meth) (h3 : meth.code = some c) (h4 : c.code = bytes)
    (h5 : (c.maxLocals == mx && c.exceptionTable.isEmpty && decide (c.maxStack ≤ mostOperands) && decide (meth.sig.returnType = rt) && !meth.locks && decide (parseMethodDescriptor y.desc = some meth.sig)) = true) : (Jvm.Cond.code y bytes mx rt).before a s = true := by
  simp only [Bool.and_eq_true, beq_iff_eq, Bool.not_eq_true', decide_eq_true_eq] at h5
  obtain ⟨⟨⟨⟨⟨g1, g2⟩, g3⟩, g4⟩, g5⟩, g6⟩ := h5
  simp [Cond.before, Cond.holds, Cond.value, h1, h2, h3, h4, g1, g2, g3, g4, g5, g6]
def isCode : Jvm.Cond → Bool
  | .code _ _ _ _ => true
  | _ => false
theorem all_split {L : List Jvm.Cond} {P : Jvm.Cond → Bool} (h1 : L.all (fun c => isCode c || P c) = true) (h2 : ∀ c ∈ L.filter isCode, P c = true) : L.all P = true := by
  refine List.all_eq_true.mpr fun c hc => ?_
  have h := List.all_eq_true.mp h1 c hc
  rcases Bool.eq_false_or_eq_true (isCode c) with hi | hi
  · exact h2 c (List.mem_filter.mpr ⟨hc, hi⟩)
  · simpa [hi] using h
set_option maxRecDepth 65536 in
theorem w_c0 : (Jvm.Cond.code x code maxLocals ret).before args0 about1 = true := code_word (m := ⟨1, 1⟩) (meth := k1m1) (c := k1c1) (by decide +kernel) rfl rfl rfl (by decide +kernel)
set_option maxRecDepth 65536 in
theorem w_c1 : (Jvm.Cond.code ({ cls := "com/example/chromapath/chromapath/ring/Budget", name := "<init>", desc := "(J)V" } : Jvm.MethodName) prog_27_method_1_code (3 : Nat) (Option.none : Option Jvm.ClassFile.FieldType)).before args0 about1 = true := code_word (m := ⟨2, 0⟩) (meth := k2m0) (c := k2c0) (by decide +kernel) rfl rfl rfl (by decide +kernel)
set_option maxRecDepth 65536 in
theorem w_c2 : (Jvm.Cond.code ({ cls := "java/lang/Object", name := "<init>", desc := "()V" } : Jvm.MethodName) object_method_1_code (1 : Nat) (Option.none : Option Jvm.ClassFile.FieldType)).before args0 about1 = true := code_word (m := ⟨0, 0⟩) (meth := k0m0) (c := k0c0) (by decide +kernel) rfl rfl rfl (by decide +kernel)
set_option maxRecDepth 65536 in
theorem w_c3 : (Jvm.Cond.code ({ cls := "com/example/chromapath/chromapath/ring/Budget", name := "spent", desc := "()Z" } : Jvm.MethodName) prog_27_method_3_code (1 : Nat) (Option.some Jvm.ClassFile.FieldType.boolean)).before args0 about1 = true := code_word (m := ⟨2, 2⟩) (meth := k2m2) (c := k2c2) (by decide +kernel) rfl rfl rfl (by decide +kernel)
set_option maxRecDepth 65536 in
theorem w_c4 : (Jvm.Cond.code ({ cls := "com/example/chromapath/chromapath/ring/Budget", name := "spend", desc := "(J)V" } : Jvm.MethodName) prog_27_method_2_code (3 : Nat) (Option.none : Option Jvm.ClassFile.FieldType)).before args0 about1 = true := code_word (m := ⟨2, 1⟩) (meth := k2m1) (c := k2c1) (by decide +kernel) rfl rfl rfl (by decide +kernel)
def codes1 : List Jvm.Cond := [Jvm.Cond.code x code maxLocals ret, Jvm.Cond.code ({ cls := "com/example/chromapath/chromapath/ring/Budget", name := "<init>", desc := "(J)V" } : Jvm.MethodName) prog_27_method_1_code (3 : Nat) (Option.none : Option Jvm.ClassFile.FieldType), Jvm.Cond.code ({ cls := "java/lang/Object", name := "<init>", desc := "()V" } : Jvm.MethodName) object_method_1_code (1 : Nat) (Option.none : Option Jvm.ClassFile.FieldType), Jvm.Cond.code ({ cls := "com/example/chromapath/chromapath/ring/Budget", name := "spent", desc := "()Z" } : Jvm.MethodName) prog_27_method_3_code (1 : Nat) (Option.some Jvm.ClassFile.FieldType.boolean), Jvm.Cond.code ({ cls := "com/example/chromapath/chromapath/ring/Budget", name := "spend", desc := "(J)V" } : Jvm.MethodName) prog_27_method_2_code (3 : Nat) (Option.none : Option Jvm.ClassFile.FieldType)]
set_option maxRecDepth 65536 in
theorem codes_eq : words1.filter isCode = codes1 := rfl
theorem w_codes : ∀ c ∈ words1.filter isCode, c.before args0 about1 = true := by
  rw [codes_eq]
  intro c hc
  simp only [codes1, List.mem_cons, List.not_mem_nil, or_false] at hc
  rcases hc with rfl | rfl | rfl | rfl | rfl
  · exact w_c0
  · exact w_c1
  · exact w_c2
  · exact w_c3
  · exact w_c4
set_option maxRecDepth 65536 in
theorem w_t1 : words1.all (fun c => isCode c || c.before args0 about1) = true := by decide +kernel
theorem w_tables : (allAtoms (Jvm.Cond.code x code maxLocals ret :: tables_1)).before args0 about1 = true := by
  rw [allAtoms_all]
  show words1.all (fun c => c.before args0 about1) = true
  refine all_split ?_ w_codes
  rw [w_t1]
set_option maxRecDepth 65536 in
theorem w_case : (Jvm.Cond.and given_1 narrow_1).before args0 about1 = true := by decide +kernel
theorem w_applies : (headSpec (Jvm.Cond.code x code maxLocals ret :: tables_1) room_1).applies x e0.platform about1 = true :=
  (Spec.applies_iff w_frames).mpr ⟨w_running, w_runnable, w_alone, w_named, w_hears, w_ripe, w_room, w_tables⟩
theorem atStart : AtStart classFile x code maxLocals ret World_1 tables_1 room_1 Calls_1 rest_1 Pre_1 launch0 p0 e0 about1 theMethod args0 below0 :=
  ⟨lists_1, trivial, launch0.admits_env _ _ _, launch0.least_env, fairChoices_fair.cas, fairChoices_fair.clock, w_frames, w_args, w_heap, w_applies, trivial, trivial, w_case⟩
end start1
theorem witness_1 : WitnessClaimed_1 := ⟨start1.p0, start1.e0, start1.about1, start1.theMethod, start1.args0, start1.below0, start1.atStart⟩
end Jvm.Pilot.@@N@@
