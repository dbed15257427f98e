import JvmDerived
import JvmDerived.Pilot.@@N@@Statement
import JvmDerived.Pilot.@@N@@Code
set_option linter.unusedVariables false
set_option linter.unusedSimpArgs false
namespace Jvm.GoKit
open Sem ClassFile Op Lib Jvm.Stand Jvm.Free Jvm.LawKit Jvm.RoadKit
abbrev GT := Heap → Nat → Nat → Nat → Array Slot → List Value → Prop
def Ctr (l : Launch) (Z : State) (y : MethodName) (bytes : ByteArray) (maxL : Nat) (ret : Option FieldType) (R : Room) (n0 : Nat) (as : Array Value) (h0 : Heap) (Q : Option Value → Heap → Prop) (wl : List Jvm.Cond) : Prop :=
  MetFree l y (head1 (Jvm.Cond.code y bytes maxL ret :: wl) R) (fun a U => a = as ∧ Z.Warmed39 U.vm ∧ U.heap = h0) (fun _ _ _ _ _ => True)
    (fun _ U o U' => ∃ v L, o = .returned v ∧ (Q v U'.heap ∧ Fr n0 L) ∧ FrameEnd U o U' L R.cells R.slots)
def Go (p : Program) (l : Launch) (e : Env) (R : Room) (s : State) (m : MethodId) (args : Array Value) (below : List Frame) (meth : Method) (c : Code) (n0 : Nat) (Q : Option Value → Heap → Prop) : GT :=
  fun h k n pc ls st => ∀ T locs, Stand p l e R s m args below meth c T locs k n → T.heap = h → Fr n0 locs →
    ∃ s₂ o, Steps p.tables e below (T.setTop (mkF m pc ls st)) s₂ ∧ s₂.status = .running ∧ Ended s₂ below o ∧ ∃ v L, o = .returned v ∧ (Q v s₂.heap ∧ Fr n0 L) ∧ FrameEnd s o s₂ L R.cells R.slots
def Cx (G : GT) (l : Launch) (Z : State) (a0 : Array Value) (ws : List Jvm.Cond) (R : Room) (y : MethodName) (bytes : ByteArray) (maxL : Nat) (ret : Option FieldType) (n0 : Nat) (Q : Option Value → Heap → Prop) : Prop :=
  ∃ p e s m args below meth c, p.tables.exec = Jvm.exec ∧ c.code = bytes ∧ c.maxLocals = maxL ∧ s.vm.findClass y.cls = some m.cls ∧ meth.name = y.name ∧ meth.sig.returnType = ret ∧ meth.locks = false ∧ Z.Warmed39 s.vm ∧ (∀ d ∈ ws, d.before a0 Z = true) ∧ G = Go p l e R s m args below meth c n0 Q
def lay : List Value → List Slot
  | [] => []
  | v :: vs => if v.category = 2 then .val v :: .second :: lay vs else .val v :: lay vs
theorem lay_fold : ∀ (vs : List Value) (acc : Array Slot), vs.foldl (fun (acc : Array Slot) v => if v.category = 2 then (acc.push (.val v)).push .second else acc.push (.val v)) acc = acc ++ (lay vs).toArray
  | [], acc => by simp [lay]
  | v :: vs, acc => by
    rw [List.foldl_cons, lay_fold vs, show lay (v :: vs) = (if v.category = 2 then Slot.val v :: .second :: lay vs else .val v :: lay vs) from rfl]
    split <;> simp
theorem entry_eq (m : MethodId) {as : Array Value} {maxL k : Nat} {L1 : List Slot} {ls : Array Slot} (h1 : lay as.toList = L1) (h2 : L1.length + k = maxL) (h3 : (L1 ++ List.replicate k Slot.unset).toArray = ls) : entryFrame m as maxL = mkF m 0 ls [] := by
  subst h1 h2 h3
  unfold entryFrame argsToLocals
  have e : as.foldl (init := #[]) (fun (acc : Array Slot) v => if v.category = 2 then (acc.push (.val v)).push .second else acc.push (.val v)) = (lay as.toList).toArray := by
    rw [← Array.foldl_toList, lay_fold]; simp
  simp only [e]
  simp [mkF]
theorem Ctr.of {l : Launch} {Z : State} {a0 : Array Value} {ws : List Jvm.Cond} {R : Room} {y : MethodName} {bytes : ByteArray} {maxL : Nat} {ret : Option FieldType} {n0 : Nat} {Q : Option Value → Heap → Prop} {as : Array Value} {h0 : Heap} {wl : List Jvm.Cond} {ls : Array Slot}
    (hn : plainFor y = true) (hw : ∀ d ∈ ws, d.before a0 Z = true) (he : ∀ m, entryFrame m as maxL = mkF m 0 ls []) (H : ∀ G, Cx G l Z a0 ws R y bytes maxL ret n0 Q → G h0 0 0 0 ls []) : Ctr l Z y bytes maxL ret R n0 as h0 Q wl := by
  refine MetFree.of_bodySF hn hisR ?_
  intro p e s m args below meth c s₁ Bd hml0 hP hK
  obtain ⟨rfl, hZ, hh⟩ := hP
  have X0 : Stand p l e R s m args below meth c s₁ [] 0 0 := Stand.of_body Bd
  have e0 : s₁.heap = h0 := by rw [← hh, Bd.state]; rfl
  obtain ⟨s₂, o, h1, h2, h3, h4⟩ := H (Go p l e R s m args below meth c n0 Q) ⟨p, e, s, m, args, below, meth, c, Bd.exec, Bd.bytes, hml0, findClass_of_methodNamed Bd.named, (name_of_methodNamed Bd.named Bd.method).1, Bd.returns, Bd.notSynchronized, hZ, hw, rfl⟩ s₁ [] X0 e0 (Fr.nil n0)
  exact ⟨s₂, o, castTop (he m) h1, h2, h3, h4⟩
theorem Ctr.mono {l : Launch} {Z : State} {R : Room} {y : MethodName} {bytes : ByteArray} {maxL : Nat} {ret : Option FieldType} {n0 : Nat} {Q Q' : Option Value → Heap → Prop} {as : Array Value} {h0 : Heap} {wl : List Jvm.Cond} (H : Ctr l Z y bytes maxL ret R n0 as h0 Q wl) (hq : ∀ v h, Q v h → Q' v h) : Ctr l Z y bytes maxL ret R n0 as h0 Q' wl := by
  intro p e ha hc hk s m args below hf happ hP hK
  obtain ⟨n, o, h1, h2, h3, v, L, h4, h5, h6⟩ := H p e ha hc hk s m args below hf happ hP hK
  exact ⟨n, o, h1, h2, h3, v, L, h4, ⟨hq _ _ h5.1, h5.2⟩, h6⟩
section Laws
variable {G : GT} {k' n' : Nat} {l : Launch} {Z : State} {a0 : Array Value} {ws : List Jvm.Cond} {R : Room} {y : MethodName} {bytes : ByteArray} {maxL : Nat} {ret : Option FieldType} {n0 : Nat} {Q : Option Value → Heap → Prop} {h : Heap} {k n pc pc' pc1 pc2 : Nat} {ls ls' : Array Slot} {st rest : List Value}
theorem lift {p : Program} {e : Env} {s : State} {m : MethodId} {args : Array Value} {below : List Frame} {meth : Method} {c : Code} {st' : List Value}
    (H : ∀ T locs, Stand p l e R s m args below meth c T locs k n → T.heap = h → ∀ target, Steps p.tables e below (T.setTop (mkF m pc' ls' st')) target → Steps p.tables e below (T.setTop (mkF m pc ls st)) target)
    (hr : Go p l e R s m args below meth c n0 Q h k n pc' ls' st') : Go p l e R s m args below meth c n0 Q h k n pc ls st := by
  intro T locs X hT hF
  obtain ⟨s₂, o, h1, h2⟩ := hr T locs X hT hF
  exact ⟨s₂, o, H T locs X hT s₂ h1, h2⟩
theorem word {d : Jvm.Cond} {i : Nat} (hw : ∀ d ∈ ws, d.before a0 Z = true) (hi : ws[i]? = some d) : d.before a0 Z = true := hw _ (List.mem_of_getElem? hi)
theorem Cx.iload (C : Cx G l Z a0 ws R y bytes maxL ret n0 Q) {j : Nat} {v : Int32} (hd : decode bytes pc = .ok (.iload j, 2)) (hl : ls[j]? = some (.val (.int v))) (hp : pc + 2 = pc') (hr : G h k n pc' ls (.int v :: st)) : G h k n pc ls (st) := by
  obtain ⟨p, e, s, m, args, below, meth, c, hx, hby, hml, hown, hnm, hret, hlk, hZ, hw, rfl⟩ := C
  subst hp
  exact lift (fun T locs X _ target q => XS.iload X.here hx rfl (hb hby hd) hl q) hr
theorem Cx.lload (C : Cx G l Z a0 ws R y bytes maxL ret n0 Q) {j : Nat} {v : Int64} (hd : decode bytes pc = .ok (.lload j, 2)) (hl : ls[j]? = some (.val (.long v))) (hp : pc + 2 = pc') (hr : G h k n pc' ls (.long v :: st)) : G h k n pc ls (st) := by
  obtain ⟨p, e, s, m, args, below, meth, c, hx, hby, hml, hown, hnm, hret, hlk, hZ, hw, rfl⟩ := C
  subst hp
  exact lift (fun T locs X _ target q => XT.lload X.here hx rfl (hb hby hd) hl q) hr
theorem Cx.aload (C : Cx G l Z a0 ws R y bytes maxL ret n0 Q) {j : Nat} {v : Addr} (hd : decode bytes pc = .ok (.aload j, 2)) (hl : ls[j]? = some (.val (.ref v))) (hp : pc + 2 = pc') (hr : G h k n pc' ls (.ref v :: st)) : G h k n pc ls (st) := by
  obtain ⟨p, e, s, m, args, below, meth, c, hx, hby, hml, hown, hnm, hret, hlk, hZ, hw, rfl⟩ := C
  subst hp
  exact lift (fun T locs X _ target q => XS.aload X.here hx rfl (hb hby hd) hl rfl q) hr
theorem Cx.istore (C : Cx G l Z a0 ws R y bytes maxL ret n0 Q) {j : Nat} {x : Int32} (hd : decode bytes pc = .ok (.istore j, 2)) (hl : storeLocals ls j (.int x) = some ls') (hp : pc + 2 = pc') (hr : G h k n pc' ls' (st)) : G h k n pc ls (.int x :: st) := by
  obtain ⟨p, e, s, m, args, below, meth, c, hx, hby, hml, hown, hnm, hret, hlk, hZ, hw, rfl⟩ := C
  subst hp
  exact lift (fun T locs X _ target q => XS.istore X.here hx rfl (hb hby hd) rfl hl q) hr
theorem Cx.lstore (C : Cx G l Z a0 ws R y bytes maxL ret n0 Q) {j : Nat} {x : Int64} (hd : decode bytes pc = .ok (.lstore j, 2)) (hl : storeLocals ls j (.long x) = some ls') (hp : pc + 2 = pc') (hr : G h k n pc' ls' (st)) : G h k n pc ls (.long x :: st) := by
  obtain ⟨p, e, s, m, args, below, meth, c, hx, hby, hml, hown, hnm, hret, hlk, hZ, hw, rfl⟩ := C
  subst hp
  exact lift (fun T locs X _ target q => XT.lstore X.here hx rfl (hb hby hd) rfl hl q) hr
theorem Cx.astore (C : Cx G l Z a0 ws R y bytes maxL ret n0 Q) {j : Nat} {x : Addr} (hd : decode bytes pc = .ok (.astore j, 2)) (hl : storeLocals ls j (.ref x) = some ls') (hp : pc + 2 = pc') (hr : G h k n pc' ls' (st)) : G h k n pc ls (.ref x :: st) := by
  obtain ⟨p, e, s, m, args, below, meth, c, hx, hby, hml, hown, hnm, hret, hlk, hZ, hw, rfl⟩ := C
  subst hp
  exact lift (fun T locs X _ target q => XS.astore X.here hx rfl (hb hby hd) rfl rfl hl q) hr
theorem Cx.iloadN (C : Cx G l Z a0 ws R y bytes maxL ret n0 Q) {j : Fin 4} {v : Int32} (hd : decode bytes pc = .ok (.iload_n j, 1)) (hl : ls[j.val]? = some (.val (.int v))) (hp : pc + 1 = pc') (hr : G h k n pc' ls (.int v :: st)) : G h k n pc ls (st) := by
  obtain ⟨p, e, s, m, args, below, meth, c, hx, hby, hml, hown, hnm, hret, hlk, hZ, hw, rfl⟩ := C
  subst hp
  exact lift (fun T locs X _ target q => XS.iloadN X.here hx rfl (hb hby hd) hl q) hr
theorem Cx.lloadN (C : Cx G l Z a0 ws R y bytes maxL ret n0 Q) {j : Fin 4} {v : Int64} (hd : decode bytes pc = .ok (.lload_n j, 1)) (hl : ls[j.val]? = some (.val (.long v))) (hp : pc + 1 = pc') (hr : G h k n pc' ls (.long v :: st)) : G h k n pc ls (st) := by
  obtain ⟨p, e, s, m, args, below, meth, c, hx, hby, hml, hown, hnm, hret, hlk, hZ, hw, rfl⟩ := C
  subst hp
  exact lift (fun T locs X _ target q => XT.lloadN X.here hx rfl (hb hby hd) hl q) hr
theorem Cx.aloadN (C : Cx G l Z a0 ws R y bytes maxL ret n0 Q) {j : Fin 4} {v : Addr} (hd : decode bytes pc = .ok (.aload_n j, 1)) (hl : ls[j.val]? = some (.val (.ref v))) (hp : pc + 1 = pc') (hr : G h k n pc' ls (.ref v :: st)) : G h k n pc ls (st) := by
  obtain ⟨p, e, s, m, args, below, meth, c, hx, hby, hml, hown, hnm, hret, hlk, hZ, hw, rfl⟩ := C
  subst hp
  exact lift (fun T locs X _ target q => XS.aloadN X.here hx rfl (hb hby hd) hl rfl q) hr
theorem Cx.istoreN (C : Cx G l Z a0 ws R y bytes maxL ret n0 Q) {j : Fin 4} {x : Int32} (hd : decode bytes pc = .ok (.istore_n j, 1)) (hl : storeLocals ls j.val (.int x) = some ls') (hp : pc + 1 = pc') (hr : G h k n pc' ls' (st)) : G h k n pc ls (.int x :: st) := by
  obtain ⟨p, e, s, m, args, below, meth, c, hx, hby, hml, hown, hnm, hret, hlk, hZ, hw, rfl⟩ := C
  subst hp
  exact lift (fun T locs X _ target q => XS.istoreN X.here hx rfl (hb hby hd) rfl hl q) hr
theorem Cx.lstoreN (C : Cx G l Z a0 ws R y bytes maxL ret n0 Q) {j : Fin 4} {x : Int64} (hd : decode bytes pc = .ok (.lstore_n j, 1)) (hl : storeLocals ls j.val (.long x) = some ls') (hp : pc + 1 = pc') (hr : G h k n pc' ls' (st)) : G h k n pc ls (.long x :: st) := by
  obtain ⟨p, e, s, m, args, below, meth, c, hx, hby, hml, hown, hnm, hret, hlk, hZ, hw, rfl⟩ := C
  subst hp
  exact lift (fun T locs X _ target q => XT.lstoreN X.here hx rfl (hb hby hd) rfl hl q) hr
theorem Cx.astoreN (C : Cx G l Z a0 ws R y bytes maxL ret n0 Q) {j : Fin 4} {x : Addr} (hd : decode bytes pc = .ok (.astore_n j, 1)) (hl : storeLocals ls j.val (.ref x) = some ls') (hp : pc + 1 = pc') (hr : G h k n pc' ls' (st)) : G h k n pc ls (.ref x :: st) := by
  obtain ⟨p, e, s, m, args, below, meth, c, hx, hby, hml, hown, hnm, hret, hlk, hZ, hw, rfl⟩ := C
  subst hp
  exact lift (fun T locs X _ target q => XS.astoreN X.here hx rfl (hb hby hd) rfl rfl hl q) hr
theorem Cx.iconst (C : Cx G l Z a0 ws R y bytes maxL ret n0 Q) {i : Int} {v : Int32} (hd : decode bytes pc = .ok (.iconst i, 1)) (hv : Int32.ofInt i = v) (hp : pc + 1 = pc') (hr : G h k n pc' ls (.int v :: st)) : G h k n pc ls (st) := by
  obtain ⟨p, e, s, m, args, below, meth, c, hx, hby, hml, hown, hnm, hret, hlk, hZ, hw, rfl⟩ := C
  subst hp
  exact lift (fun T locs X _ target q => XT.iconstV X.here hx rfl v (hb hby hd) hv q) hr
theorem Cx.bipush (C : Cx G l Z a0 ws R y bytes maxL ret n0 Q) {i : Int} {v : Int32} (hd : decode bytes pc = .ok (.bipush i, 2)) (hv : (Int8.ofInt i).toInt32 = v) (hp : pc + 2 = pc') (hr : G h k n pc' ls (.int v :: st)) : G h k n pc ls (st) := by
  obtain ⟨p, e, s, m, args, below, meth, c, hx, hby, hml, hown, hnm, hret, hlk, hZ, hw, rfl⟩ := C
  subst hp
  exact lift (fun T locs X _ target q => XT.bipushV X.here hx rfl v (hb hby hd) hv q) hr
theorem Cx.sipush (C : Cx G l Z a0 ws R y bytes maxL ret n0 Q) {i : Int} {v : Int32} (hd : decode bytes pc = .ok (.sipush i, 3)) (hv : (Int16.ofInt i).toInt32 = v) (hp : pc + 3 = pc') (hr : G h k n pc' ls (.int v :: st)) : G h k n pc ls (st) := by
  obtain ⟨p, e, s, m, args, below, meth, c, hx, hby, hml, hown, hnm, hret, hlk, hZ, hw, rfl⟩ := C
  subst hp
  exact lift (fun T locs X _ target q => XT.sipushV X.here hx rfl v (hb hby hd) hv q) hr
theorem Cx.lconst (C : Cx G l Z a0 ws R y bytes maxL ret n0 Q) {i : Fin 2} {v : Int64} (hd : decode bytes pc = .ok (.lconst i, 1)) (hv : Int64.ofNat i = v) (hp : pc + 1 = pc') (hr : G h k n pc' ls (.long v :: st)) : G h k n pc ls (st) := by
  obtain ⟨p, e, s, m, args, below, meth, c, hx, hby, hml, hown, hnm, hret, hlk, hZ, hw, rfl⟩ := C
  subst hp
  exact lift (fun T locs X _ target q => XT.lconstV X.here hx rfl v (hb hby hd) hv q) hr
theorem Cx.dconst0 (C : Cx G l Z a0 ws R y bytes maxL ret n0 Q)  (hd : decode bytes pc = .ok (.dconst 0, 1))  (hp : pc + 1 = pc') (hr : G h k n pc' ls (.double FP.dconst0 :: st)) : G h k n pc ls (st) := by
  obtain ⟨p, e, s, m, args, below, meth, c, hx, hby, hml, hown, hnm, hret, hlk, hZ, hw, rfl⟩ := C
  subst hp
  exact lift (fun T locs X _ target q => XS.dconst0 X.here hx rfl (hb hby hd) rfl q) hr
theorem Cx.dconst1 (C : Cx G l Z a0 ws R y bytes maxL ret n0 Q)  (hd : decode bytes pc = .ok (.dconst 1, 1))  (hp : pc + 1 = pc') (hr : G h k n pc' ls (.double FP.dconst1 :: st)) : G h k n pc ls (st) := by
  obtain ⟨p, e, s, m, args, below, meth, c, hx, hby, hml, hown, hnm, hret, hlk, hZ, hw, rfl⟩ := C
  subst hp
  exact lift (fun T locs X _ target q => XS.dconst1 X.here hx rfl (hb hby hd) rfl q) hr
theorem Cx.iadd (C : Cx G l Z a0 ws R y bytes maxL ret n0 Q) {a b : Int32} (hd : decode bytes pc = .ok (.iadd, 1))  (hp : pc + 1 = pc') (hr : G h k n pc' ls (.int (a + b) :: st)) : G h k n pc ls (.int b :: .int a :: st) := by
  obtain ⟨p, e, s, m, args, below, meth, c, hx, hby, hml, hown, hnm, hret, hlk, hZ, hw, rfl⟩ := C
  subst hp
  exact lift (fun T locs X _ target q => XS.iadd X.here hx rfl (hb hby hd) rfl q) hr
theorem Cx.isub (C : Cx G l Z a0 ws R y bytes maxL ret n0 Q) {a b : Int32} (hd : decode bytes pc = .ok (.isub, 1))  (hp : pc + 1 = pc') (hr : G h k n pc' ls (.int (a - b) :: st)) : G h k n pc ls (.int b :: .int a :: st) := by
  obtain ⟨p, e, s, m, args, below, meth, c, hx, hby, hml, hown, hnm, hret, hlk, hZ, hw, rfl⟩ := C
  subst hp
  exact lift (fun T locs X _ target q => XS.isub X.here hx rfl (hb hby hd) rfl q) hr
theorem Cx.imul (C : Cx G l Z a0 ws R y bytes maxL ret n0 Q) {a b : Int32} (hd : decode bytes pc = .ok (.imul, 1))  (hp : pc + 1 = pc') (hr : G h k n pc' ls (.int (a * b) :: st)) : G h k n pc ls (.int b :: .int a :: st) := by
  obtain ⟨p, e, s, m, args, below, meth, c, hx, hby, hml, hown, hnm, hret, hlk, hZ, hw, rfl⟩ := C
  subst hp
  exact lift (fun T locs X _ target q => XS.imul X.here hx rfl (hb hby hd) rfl q) hr
theorem Cx.iand (C : Cx G l Z a0 ws R y bytes maxL ret n0 Q) {a b : Int32} (hd : decode bytes pc = .ok (.iand, 1))  (hp : pc + 1 = pc') (hr : G h k n pc' ls (.int (a &&& b) :: st)) : G h k n pc ls (.int b :: .int a :: st) := by
  obtain ⟨p, e, s, m, args, below, meth, c, hx, hby, hml, hown, hnm, hret, hlk, hZ, hw, rfl⟩ := C
  subst hp
  exact lift (fun T locs X _ target q => XS.iand X.here hx rfl (hb hby hd) rfl q) hr
theorem Cx.ior (C : Cx G l Z a0 ws R y bytes maxL ret n0 Q) {a b : Int32} (hd : decode bytes pc = .ok (.ior, 1))  (hp : pc + 1 = pc') (hr : G h k n pc' ls (.int (a ||| b) :: st)) : G h k n pc ls (.int b :: .int a :: st) := by
  obtain ⟨p, e, s, m, args, below, meth, c, hx, hby, hml, hown, hnm, hret, hlk, hZ, hw, rfl⟩ := C
  subst hp
  exact lift (fun T locs X _ target q => XT.ior X.here hx rfl (hb hby hd) rfl q) hr
theorem Cx.ixor (C : Cx G l Z a0 ws R y bytes maxL ret n0 Q) {a b : Int32} (hd : decode bytes pc = .ok (.ixor, 1))  (hp : pc + 1 = pc') (hr : G h k n pc' ls (.int (a ^^^ b) :: st)) : G h k n pc ls (.int b :: .int a :: st) := by
  obtain ⟨p, e, s, m, args, below, meth, c, hx, hby, hml, hown, hnm, hret, hlk, hZ, hw, rfl⟩ := C
  subst hp
  exact lift (fun T locs X _ target q => XT.ixor X.here hx rfl (hb hby hd) rfl q) hr
theorem Cx.ladd (C : Cx G l Z a0 ws R y bytes maxL ret n0 Q) {a b : Int64} (hd : decode bytes pc = .ok (.ladd, 1))  (hp : pc + 1 = pc') (hr : G h k n pc' ls (.long (a + b) :: st)) : G h k n pc ls (.long b :: .long a :: st) := by
  obtain ⟨p, e, s, m, args, below, meth, c, hx, hby, hml, hown, hnm, hret, hlk, hZ, hw, rfl⟩ := C
  subst hp
  exact lift (fun T locs X _ target q => XT.ladd X.here hx rfl (hb hby hd) rfl q) hr
theorem Cx.lsub (C : Cx G l Z a0 ws R y bytes maxL ret n0 Q) {a b : Int64} (hd : decode bytes pc = .ok (.lsub, 1))  (hp : pc + 1 = pc') (hr : G h k n pc' ls (.long (a - b) :: st)) : G h k n pc ls (.long b :: .long a :: st) := by
  obtain ⟨p, e, s, m, args, below, meth, c, hx, hby, hml, hown, hnm, hret, hlk, hZ, hw, rfl⟩ := C
  subst hp
  exact lift (fun T locs X _ target q => XT.lsub X.here hx rfl (hb hby hd) rfl q) hr
theorem Cx.lmul (C : Cx G l Z a0 ws R y bytes maxL ret n0 Q) {a b : Int64} (hd : decode bytes pc = .ok (.lmul, 1))  (hp : pc + 1 = pc') (hr : G h k n pc' ls (.long (a * b) :: st)) : G h k n pc ls (.long b :: .long a :: st) := by
  obtain ⟨p, e, s, m, args, below, meth, c, hx, hby, hml, hown, hnm, hret, hlk, hZ, hw, rfl⟩ := C
  subst hp
  exact lift (fun T locs X _ target q => XT.lmul X.here hx rfl (hb hby hd) rfl q) hr
theorem Cx.land (C : Cx G l Z a0 ws R y bytes maxL ret n0 Q) {a b : Int64} (hd : decode bytes pc = .ok (.land, 1))  (hp : pc + 1 = pc') (hr : G h k n pc' ls (.long (a &&& b) :: st)) : G h k n pc ls (.long b :: .long a :: st) := by
  obtain ⟨p, e, s, m, args, below, meth, c, hx, hby, hml, hown, hnm, hret, hlk, hZ, hw, rfl⟩ := C
  subst hp
  exact lift (fun T locs X _ target q => XT.land X.here hx rfl (hb hby hd) rfl q) hr
theorem Cx.lor (C : Cx G l Z a0 ws R y bytes maxL ret n0 Q) {a b : Int64} (hd : decode bytes pc = .ok (.lor, 1))  (hp : pc + 1 = pc') (hr : G h k n pc' ls (.long (a ||| b) :: st)) : G h k n pc ls (.long b :: .long a :: st) := by
  obtain ⟨p, e, s, m, args, below, meth, c, hx, hby, hml, hown, hnm, hret, hlk, hZ, hw, rfl⟩ := C
  subst hp
  exact lift (fun T locs X _ target q => XT.lor X.here hx rfl (hb hby hd) rfl q) hr
theorem Cx.lxor (C : Cx G l Z a0 ws R y bytes maxL ret n0 Q) {a b : Int64} (hd : decode bytes pc = .ok (.lxor, 1))  (hp : pc + 1 = pc') (hr : G h k n pc' ls (.long (a ^^^ b) :: st)) : G h k n pc ls (.long b :: .long a :: st) := by
  obtain ⟨p, e, s, m, args, below, meth, c, hx, hby, hml, hown, hnm, hret, hlk, hZ, hw, rfl⟩ := C
  subst hp
  exact lift (fun T locs X _ target q => XT.lxor X.here hx rfl (hb hby hd) rfl q) hr
theorem Cx.ishl (C : Cx G l Z a0 ws R y bytes maxL ret n0 Q) {a b : Int32} (hd : decode bytes pc = .ok (.ishl, 1))  (hp : pc + 1 = pc') (hr : G h k n pc' ls (.int (a <<< (b &&& 31)) :: st)) : G h k n pc ls (.int b :: .int a :: st) := by
  obtain ⟨p, e, s, m, args, below, meth, c, hx, hby, hml, hown, hnm, hret, hlk, hZ, hw, rfl⟩ := C
  subst hp
  exact lift (fun T locs X _ target q => XT.ishl X.here hx rfl (hb hby hd) rfl q) hr
theorem Cx.ishr (C : Cx G l Z a0 ws R y bytes maxL ret n0 Q) {a b : Int32} (hd : decode bytes pc = .ok (.ishr, 1))  (hp : pc + 1 = pc') (hr : G h k n pc' ls (.int (a >>> (b &&& 31)) :: st)) : G h k n pc ls (.int b :: .int a :: st) := by
  obtain ⟨p, e, s, m, args, below, meth, c, hx, hby, hml, hown, hnm, hret, hlk, hZ, hw, rfl⟩ := C
  subst hp
  exact lift (fun T locs X _ target q => XT.ishr X.here hx rfl (hb hby hd) rfl q) hr
theorem Cx.iushr (C : Cx G l Z a0 ws R y bytes maxL ret n0 Q) {a b : Int32} (hd : decode bytes pc = .ok (.iushr, 1))  (hp : pc + 1 = pc') (hr : G h k n pc' ls (.int (XT.ushr a b) :: st)) : G h k n pc ls (.int b :: .int a :: st) := by
  obtain ⟨p, e, s, m, args, below, meth, c, hx, hby, hml, hown, hnm, hret, hlk, hZ, hw, rfl⟩ := C
  subst hp
  exact lift (fun T locs X _ target q => XT.iushr X.here hx rfl (hb hby hd) rfl q) hr
theorem Cx.lshl (C : Cx G l Z a0 ws R y bytes maxL ret n0 Q) {a : Int64} {b : Int32} (hd : decode bytes pc = .ok (.lshl, 1))  (hp : pc + 1 = pc') (hr : G h k n pc' ls (.long (a <<< (b.toInt64 &&& 63)) :: st)) : G h k n pc ls (.int b :: .long a :: st) := by
  obtain ⟨p, e, s, m, args, below, meth, c, hx, hby, hml, hown, hnm, hret, hlk, hZ, hw, rfl⟩ := C
  subst hp
  exact lift (fun T locs X _ target q => XT.lshl X.here hx rfl (hb hby hd) rfl q) hr
theorem Cx.lshr (C : Cx G l Z a0 ws R y bytes maxL ret n0 Q) {a : Int64} {b : Int32} (hd : decode bytes pc = .ok (.lshr, 1))  (hp : pc + 1 = pc') (hr : G h k n pc' ls (.long (a >>> (b.toInt64 &&& 63)) :: st)) : G h k n pc ls (.int b :: .long a :: st) := by
  obtain ⟨p, e, s, m, args, below, meth, c, hx, hby, hml, hown, hnm, hret, hlk, hZ, hw, rfl⟩ := C
  subst hp
  exact lift (fun T locs X _ target q => XT.lshr X.here hx rfl (hb hby hd) rfl q) hr
theorem Cx.lushr (C : Cx G l Z a0 ws R y bytes maxL ret n0 Q) {a : Int64} {b : Int32} (hd : decode bytes pc = .ok (.lushr, 1))  (hp : pc + 1 = pc') (hr : G h k n pc' ls (.long (XT.ushrL a b) :: st)) : G h k n pc ls (.int b :: .long a :: st) := by
  obtain ⟨p, e, s, m, args, below, meth, c, hx, hby, hml, hown, hnm, hret, hlk, hZ, hw, rfl⟩ := C
  subst hp
  exact lift (fun T locs X _ target q => XT.lushr X.here hx rfl (hb hby hd) rfl q) hr
theorem Cx.ineg (C : Cx G l Z a0 ws R y bytes maxL ret n0 Q) {a : Int32} (hd : decode bytes pc = .ok (.ineg, 1))  (hp : pc + 1 = pc') (hr : G h k n pc' ls (.int (-a) :: st)) : G h k n pc ls (.int a :: st) := by
  obtain ⟨p, e, s, m, args, below, meth, c, hx, hby, hml, hown, hnm, hret, hlk, hZ, hw, rfl⟩ := C
  subst hp
  exact lift (fun T locs X _ target q => XS.ineg X.here hx rfl (hb hby hd) rfl q) hr
theorem Cx.i2l (C : Cx G l Z a0 ws R y bytes maxL ret n0 Q) {a : Int32} (hd : decode bytes pc = .ok (.i2l, 1))  (hp : pc + 1 = pc') (hr : G h k n pc' ls (.long a.toInt64 :: st)) : G h k n pc ls (.int a :: st) := by
  obtain ⟨p, e, s, m, args, below, meth, c, hx, hby, hml, hown, hnm, hret, hlk, hZ, hw, rfl⟩ := C
  subst hp
  exact lift (fun T locs X _ target q => XT.i2l X.here hx rfl (hb hby hd) rfl q) hr
theorem Cx.l2i (C : Cx G l Z a0 ws R y bytes maxL ret n0 Q) {a : Int64} (hd : decode bytes pc = .ok (.l2i, 1))  (hp : pc + 1 = pc') (hr : G h k n pc' ls (.int a.toInt32 :: st)) : G h k n pc ls (.long a :: st) := by
  obtain ⟨p, e, s, m, args, below, meth, c, hx, hby, hml, hown, hnm, hret, hlk, hZ, hw, rfl⟩ := C
  subst hp
  exact lift (fun T locs X _ target q => XT.l2i X.here hx rfl (hb hby hd) rfl q) hr
theorem Cx.i2b (C : Cx G l Z a0 ws R y bytes maxL ret n0 Q) {a : Int32} (hd : decode bytes pc = .ok (.i2b, 1))  (hp : pc + 1 = pc') (hr : G h k n pc' ls (.int a.toInt8.toInt32 :: st)) : G h k n pc ls (.int a :: st) := by
  obtain ⟨p, e, s, m, args, below, meth, c, hx, hby, hml, hown, hnm, hret, hlk, hZ, hw, rfl⟩ := C
  subst hp
  exact lift (fun T locs X _ target q => XT.i2b X.here hx rfl (hb hby hd) rfl q) hr
theorem Cx.i2c (C : Cx G l Z a0 ws R y bytes maxL ret n0 Q) {a : Int32} (hd : decode bytes pc = .ok (.i2c, 1))  (hp : pc + 1 = pc') (hr : G h k n pc' ls (.int a.toUInt32.toUInt16.toUInt32.toInt32 :: st)) : G h k n pc ls (.int a :: st) := by
  obtain ⟨p, e, s, m, args, below, meth, c, hx, hby, hml, hown, hnm, hret, hlk, hZ, hw, rfl⟩ := C
  subst hp
  exact lift (fun T locs X _ target q => XT.i2c X.here hx rfl (hb hby hd) rfl q) hr
theorem Cx.lcmp (C : Cx G l Z a0 ws R y bytes maxL ret n0 Q) {a b : Int64} (hd : decode bytes pc = .ok (.lcmp, 1))  (hp : pc + 1 = pc') (hr : G h k n pc' ls (.int (XT.cmpL a b) :: st)) : G h k n pc ls (.long b :: .long a :: st) := by
  obtain ⟨p, e, s, m, args, below, meth, c, hx, hby, hml, hown, hnm, hret, hlk, hZ, hw, rfl⟩ := C
  subst hp
  exact lift (fun T locs X _ target q => XT.lcmp X.here hx rfl (hb hby hd) rfl q) hr
theorem Cx.dup (C : Cx G l Z a0 ws R y bytes maxL ret n0 Q) {x : Value} (hd : decode bytes pc = .ok (.dup, 1)) (hc : x.category = 1) (hp : pc + 1 = pc') (hr : G h k n pc' ls (x :: x :: st)) : G h k n pc ls (x :: st) := by
  obtain ⟨p, e, s, m, args, below, meth, c, hx, hby, hml, hown, hnm, hret, hlk, hZ, hw, rfl⟩ := C
  subst hp
  exact lift (fun T locs X _ target q => XS.dup X.here hx rfl (hb hby hd) rfl hc q) hr
theorem Cx.dup2 (C : Cx G l Z a0 ws R y bytes maxL ret n0 Q) {x z : Value} (hd : decode bytes pc = .ok (.dup2, 1)) (hc : x.category = 1) (hc' : z.category = 1) (hp : pc + 1 = pc') (hr : G h k n pc' ls (x :: z :: x :: z :: st)) : G h k n pc ls (x :: z :: st) := by
  obtain ⟨p, e, s, m, args, below, meth, c, hx, hby, hml, hown, hnm, hret, hlk, hZ, hw, rfl⟩ := C
  subst hp
  exact lift (fun T locs X _ target q => XT.dup2 X.here hx rfl (hb hby hd) rfl hc hc' q) hr
theorem Cx.iinc (C : Cx G l Z a0 ws R y bytes maxL ret n0 Q) {j : Nat} {i : Int} {v x : Int32} (hd : decode bytes pc = .ok (.iinc j i, 3)) (hv : Int32.ofInt i = v) (hl : ls[j]? = some (.val (.int x))) (hl' : storeLocals ls j (.int (x + v)) = some ls') (hp : pc + 3 = pc') (hr : G h k n pc' ls' st) : G h k n pc ls st := by
  obtain ⟨p, e, s, m, args, below, meth, c, hx, hby, hml, hown, hnm, hret, hlk, hZ, hw, rfl⟩ := C
  subst hp
  exact lift (fun T locs X _ target q => XT.iincV X.here hx rfl v (hb hby hd) hv hl hl' q) hr
theorem Cx.irem (C : Cx G l Z a0 ws R y bytes maxL ret n0 Q) {a b : Int32} (hd : decode bytes pc = .ok (.irem, 1)) (hb0 : b ≠ 0) (hp : pc + 1 = pc') (hr : G h k n pc' ls (.int (a % b) :: st)) : G h k n pc ls (.int b :: .int a :: st) := by
  obtain ⟨p, e, s, m, args, below, meth, c, hx, hby, hml, hown, hnm, hret, hlk, hZ, hw, rfl⟩ := C
  subst hp
  exact lift (fun T locs X _ target q => iremM X hx rfl (hb hby hd) rfl hb0 q) hr
theorem Cx.goto (C : Cx G l Z a0 ws R y bytes maxL ret n0 Q) {o : Int} (hd : decode bytes pc = .ok (.goto o, 3)) (ho : 0 ≤ (pc : Int) + o) (hp : ((pc : Int) + o).toNat = pc') (hr : G h k n pc' ls st) : G h k n pc ls st := by
  obtain ⟨p, e, s, m, args, below, meth, c, hx, hby, hml, hown, hnm, hret, hlk, hZ, hw, rfl⟩ := C
  exact lift (fun T locs X _ target q => XS.goto X.here hx rfl (pc0 := pc) rfl (hb hby hd) ho hp q) hr
theorem Cx.dupX2 (C : Cx G l Z a0 ws R y bytes maxL ret n0 Q) {x z w : Value} (hd : decode bytes pc = .ok (.dup_x2, 1)) (hc : x.category = 1) (hc' : z.category = 1) (hc'' : w.category = 1) (hp : pc + 1 = pc') (hr : G h k n pc' ls (x :: z :: w :: x :: st)) : G h k n pc ls (x :: z :: w :: st) := by
  obtain ⟨p, e, s, m, args, below, meth, c, hx, hby, hml, hown, hnm, hret, hlk, hZ, hw, rfl⟩ := C
  subst hp
  refine lift (fun T locs X _ target q => ?_) hr
  have h := X.here
  have hd' := hb hby hd
  show Steps p.tables e below (T.setTop { method := m, pc := pc, locals := ls, stack := x :: z :: w :: st, locked := none }) _
  jvm_step h [h.top, hx, hd', hc, hc', hc'']
  exact q
theorem Cx.icmp_eq_T (C : Cx G l Z a0 ws R y bytes maxL ret n0 Q) {a b : Int32} {o : Int} (hd : decode bytes pc = .ok (.if_icmp .eq o, 3)) (hc : a = b) (ho : 0 ≤ (pc : Int) + o) (hp : ((pc : Int) + o).toNat = pc') (hr : G h k n pc' ls st) : G h k n pc ls (.int b :: .int a :: st) := by
  obtain ⟨p, e, s, m, args, below, meth, c, hx, hby, hml, hown, hnm, hret, hlk, hZ, hw, rfl⟩ := C
  exact lift (fun T locs X _ target q => XS.icmpYes X.here hx rfl (pc0 := pc) rfl (hb hby hd) rfl (teq hc).1 ho hp q) hr
theorem Cx.icmp_eq_F (C : Cx G l Z a0 ws R y bytes maxL ret n0 Q) {a b : Int32} {o : Int} (hd : decode bytes pc = .ok (.if_icmp .eq o, 3)) (hc : ¬ a = b) (hp : pc + 3 = pc') (hr : G h k n pc' ls st) : G h k n pc ls (.int b :: .int a :: st) := by
  obtain ⟨p, e, s, m, args, below, meth, c, hx, hby, hml, hown, hnm, hret, hlk, hZ, hw, rfl⟩ := C
  subst hp
  exact lift (fun T locs X _ target q => XS.icmpNo X.here hx rfl (hb hby hd) rfl (feq hc).1 q) hr
theorem Cx.if_eq_T (C : Cx G l Z a0 ws R y bytes maxL ret n0 Q) {a : Int32} {o : Int} (hd : decode bytes pc = .ok (.ifCond .eq o, 3)) (hc : a = (0 : Int32)) (ho : 0 ≤ (pc : Int) + o) (hp : ((pc : Int) + o).toNat = pc') (hr : G h k n pc' ls st) : G h k n pc ls (.int a :: st) := by
  obtain ⟨p, e, s, m, args, below, meth, c, hx, hby, hml, hown, hnm, hret, hlk, hZ, hw, rfl⟩ := C
  exact lift (fun T locs X _ target q => XS.ifYes X.here hx rfl (pc0 := pc) rfl (hb hby hd) rfl (by rw [if0]; exact (teq hc).1) ho hp q) hr
theorem Cx.if_eq_F (C : Cx G l Z a0 ws R y bytes maxL ret n0 Q) {a : Int32} {o : Int} (hd : decode bytes pc = .ok (.ifCond .eq o, 3)) (hc : ¬ a = (0 : Int32)) (hp : pc + 3 = pc') (hr : G h k n pc' ls st) : G h k n pc ls (.int a :: st) := by
  obtain ⟨p, e, s, m, args, below, meth, c, hx, hby, hml, hown, hnm, hret, hlk, hZ, hw, rfl⟩ := C
  subst hp
  exact lift (fun T locs X _ target q => XS.ifNo X.here hx rfl (hb hby hd) rfl (by rw [if0]; exact (feq hc).1) q) hr
theorem Cx.icmp_eq (C : Cx G l Z a0 ws R y bytes maxL ret n0 Q) {a b : Int32} {o : Int} (hd : decode bytes pc = .ok (.if_icmp .eq o, 3)) (ho : 0 ≤ (pc : Int) + o) (hp : ((pc : Int) + o).toNat = pc1) (hq : pc + 3 = pc2) (h1 : a = b → G h k n pc1 ls st) (h2 : ¬ a = b → G h k n pc2 ls st) : G h k n pc ls (.int b :: .int a :: st) := by
  by_cases hc : a = b
  · exact C.icmp_eq_T hd hc ho hp (h1 hc)
  · exact C.icmp_eq_F hd hc hq (h2 hc)
theorem Cx.if_eq (C : Cx G l Z a0 ws R y bytes maxL ret n0 Q) {a : Int32} {o : Int} (hd : decode bytes pc = .ok (.ifCond .eq o, 3)) (ho : 0 ≤ (pc : Int) + o) (hp : ((pc : Int) + o).toNat = pc1) (hq : pc + 3 = pc2) (h1 : a = (0 : Int32) → G h k n pc1 ls st) (h2 : ¬ a = (0 : Int32) → G h k n pc2 ls st) : G h k n pc ls (.int a :: st) := by
  by_cases hc : a = (0 : Int32)
  · exact C.if_eq_T hd hc ho hp (h1 hc)
  · exact C.if_eq_F hd hc hq (h2 hc)
theorem Cx.icmp_ne_T (C : Cx G l Z a0 ws R y bytes maxL ret n0 Q) {a b : Int32} {o : Int} (hd : decode bytes pc = .ok (.if_icmp .ne o, 3)) (hc : ¬ a = b) (ho : 0 ≤ (pc : Int) + o) (hp : ((pc : Int) + o).toNat = pc') (hr : G h k n pc' ls st) : G h k n pc ls (.int b :: .int a :: st) := by
  obtain ⟨p, e, s, m, args, below, meth, c, hx, hby, hml, hown, hnm, hret, hlk, hZ, hw, rfl⟩ := C
  exact lift (fun T locs X _ target q => XS.icmpYes X.here hx rfl (pc0 := pc) rfl (hb hby hd) rfl (feq hc).2 ho hp q) hr
theorem Cx.icmp_ne_F (C : Cx G l Z a0 ws R y bytes maxL ret n0 Q) {a b : Int32} {o : Int} (hd : decode bytes pc = .ok (.if_icmp .ne o, 3)) (hc : a = b) (hp : pc + 3 = pc') (hr : G h k n pc' ls st) : G h k n pc ls (.int b :: .int a :: st) := by
  obtain ⟨p, e, s, m, args, below, meth, c, hx, hby, hml, hown, hnm, hret, hlk, hZ, hw, rfl⟩ := C
  subst hp
  exact lift (fun T locs X _ target q => XS.icmpNo X.here hx rfl (hb hby hd) rfl (teq hc).2 q) hr
theorem Cx.if_ne_T (C : Cx G l Z a0 ws R y bytes maxL ret n0 Q) {a : Int32} {o : Int} (hd : decode bytes pc = .ok (.ifCond .ne o, 3)) (hc : ¬ a = (0 : Int32)) (ho : 0 ≤ (pc : Int) + o) (hp : ((pc : Int) + o).toNat = pc') (hr : G h k n pc' ls st) : G h k n pc ls (.int a :: st) := by
  obtain ⟨p, e, s, m, args, below, meth, c, hx, hby, hml, hown, hnm, hret, hlk, hZ, hw, rfl⟩ := C
  exact lift (fun T locs X _ target q => XS.ifYes X.here hx rfl (pc0 := pc) rfl (hb hby hd) rfl (by rw [if0]; exact (feq hc).2) ho hp q) hr
theorem Cx.if_ne_F (C : Cx G l Z a0 ws R y bytes maxL ret n0 Q) {a : Int32} {o : Int} (hd : decode bytes pc = .ok (.ifCond .ne o, 3)) (hc : a = (0 : Int32)) (hp : pc + 3 = pc') (hr : G h k n pc' ls st) : G h k n pc ls (.int a :: st) := by
  obtain ⟨p, e, s, m, args, below, meth, c, hx, hby, hml, hown, hnm, hret, hlk, hZ, hw, rfl⟩ := C
  subst hp
  exact lift (fun T locs X _ target q => XS.ifNo X.here hx rfl (hb hby hd) rfl (by rw [if0]; exact (teq hc).2) q) hr
theorem Cx.icmp_ne (C : Cx G l Z a0 ws R y bytes maxL ret n0 Q) {a b : Int32} {o : Int} (hd : decode bytes pc = .ok (.if_icmp .ne o, 3)) (ho : 0 ≤ (pc : Int) + o) (hp : ((pc : Int) + o).toNat = pc1) (hq : pc + 3 = pc2) (h1 : ¬ a = b → G h k n pc1 ls st) (h2 : a = b → G h k n pc2 ls st) : G h k n pc ls (.int b :: .int a :: st) := by
  by_cases hc : a = b
  · exact C.icmp_ne_F hd hc hq (h2 hc)
  · exact C.icmp_ne_T hd hc ho hp (h1 hc)
theorem Cx.if_ne (C : Cx G l Z a0 ws R y bytes maxL ret n0 Q) {a : Int32} {o : Int} (hd : decode bytes pc = .ok (.ifCond .ne o, 3)) (ho : 0 ≤ (pc : Int) + o) (hp : ((pc : Int) + o).toNat = pc1) (hq : pc + 3 = pc2) (h1 : ¬ a = (0 : Int32) → G h k n pc1 ls st) (h2 : a = (0 : Int32) → G h k n pc2 ls st) : G h k n pc ls (.int a :: st) := by
  by_cases hc : a = (0 : Int32)
  · exact C.if_ne_F hd hc hq (h2 hc)
  · exact C.if_ne_T hd hc ho hp (h1 hc)
theorem Cx.icmp_lt_T (C : Cx G l Z a0 ws R y bytes maxL ret n0 Q) {a b : Int32} {o : Int} (hd : decode bytes pc = .ok (.if_icmp .lt o, 3)) (hc : a < b) (ho : 0 ≤ (pc : Int) + o) (hp : ((pc : Int) + o).toNat = pc') (hr : G h k n pc' ls st) : G h k n pc ls (.int b :: .int a :: st) := by
  obtain ⟨p, e, s, m, args, below, meth, c, hx, hby, hml, hown, hnm, hret, hlk, hZ, hw, rfl⟩ := C
  exact lift (fun T locs X _ target q => XS.icmpYes X.here hx rfl (pc0 := pc) rfl (hb hby hd) rfl (tlt hc).1 ho hp q) hr
theorem Cx.icmp_lt_F (C : Cx G l Z a0 ws R y bytes maxL ret n0 Q) {a b : Int32} {o : Int} (hd : decode bytes pc = .ok (.if_icmp .lt o, 3)) (hc : ¬ a < b) (hp : pc + 3 = pc') (hr : G h k n pc' ls st) : G h k n pc ls (.int b :: .int a :: st) := by
  obtain ⟨p, e, s, m, args, below, meth, c, hx, hby, hml, hown, hnm, hret, hlk, hZ, hw, rfl⟩ := C
  subst hp
  exact lift (fun T locs X _ target q => XS.icmpNo X.here hx rfl (hb hby hd) rfl (flt hc).1 q) hr
theorem Cx.if_lt_T (C : Cx G l Z a0 ws R y bytes maxL ret n0 Q) {a : Int32} {o : Int} (hd : decode bytes pc = .ok (.ifCond .lt o, 3)) (hc : a < (0 : Int32)) (ho : 0 ≤ (pc : Int) + o) (hp : ((pc : Int) + o).toNat = pc') (hr : G h k n pc' ls st) : G h k n pc ls (.int a :: st) := by
  obtain ⟨p, e, s, m, args, below, meth, c, hx, hby, hml, hown, hnm, hret, hlk, hZ, hw, rfl⟩ := C
  exact lift (fun T locs X _ target q => XS.ifYes X.here hx rfl (pc0 := pc) rfl (hb hby hd) rfl (by rw [if0]; exact (tlt hc).1) ho hp q) hr
theorem Cx.if_lt_F (C : Cx G l Z a0 ws R y bytes maxL ret n0 Q) {a : Int32} {o : Int} (hd : decode bytes pc = .ok (.ifCond .lt o, 3)) (hc : ¬ a < (0 : Int32)) (hp : pc + 3 = pc') (hr : G h k n pc' ls st) : G h k n pc ls (.int a :: st) := by
  obtain ⟨p, e, s, m, args, below, meth, c, hx, hby, hml, hown, hnm, hret, hlk, hZ, hw, rfl⟩ := C
  subst hp
  exact lift (fun T locs X _ target q => XS.ifNo X.here hx rfl (hb hby hd) rfl (by rw [if0]; exact (flt hc).1) q) hr
theorem Cx.icmp_lt (C : Cx G l Z a0 ws R y bytes maxL ret n0 Q) {a b : Int32} {o : Int} (hd : decode bytes pc = .ok (.if_icmp .lt o, 3)) (ho : 0 ≤ (pc : Int) + o) (hp : ((pc : Int) + o).toNat = pc1) (hq : pc + 3 = pc2) (h1 : a < b → G h k n pc1 ls st) (h2 : ¬ a < b → G h k n pc2 ls st) : G h k n pc ls (.int b :: .int a :: st) := by
  by_cases hc : a < b
  · exact C.icmp_lt_T hd hc ho hp (h1 hc)
  · exact C.icmp_lt_F hd hc hq (h2 hc)
theorem Cx.if_lt (C : Cx G l Z a0 ws R y bytes maxL ret n0 Q) {a : Int32} {o : Int} (hd : decode bytes pc = .ok (.ifCond .lt o, 3)) (ho : 0 ≤ (pc : Int) + o) (hp : ((pc : Int) + o).toNat = pc1) (hq : pc + 3 = pc2) (h1 : a < (0 : Int32) → G h k n pc1 ls st) (h2 : ¬ a < (0 : Int32) → G h k n pc2 ls st) : G h k n pc ls (.int a :: st) := by
  by_cases hc : a < (0 : Int32)
  · exact C.if_lt_T hd hc ho hp (h1 hc)
  · exact C.if_lt_F hd hc hq (h2 hc)
theorem Cx.icmp_ge_T (C : Cx G l Z a0 ws R y bytes maxL ret n0 Q) {a b : Int32} {o : Int} (hd : decode bytes pc = .ok (.if_icmp .ge o, 3)) (hc : ¬ a < b) (ho : 0 ≤ (pc : Int) + o) (hp : ((pc : Int) + o).toNat = pc') (hr : G h k n pc' ls st) : G h k n pc ls (.int b :: .int a :: st) := by
  obtain ⟨p, e, s, m, args, below, meth, c, hx, hby, hml, hown, hnm, hret, hlk, hZ, hw, rfl⟩ := C
  exact lift (fun T locs X _ target q => XS.icmpYes X.here hx rfl (pc0 := pc) rfl (hb hby hd) rfl (flt hc).2.1 ho hp q) hr
theorem Cx.icmp_ge_F (C : Cx G l Z a0 ws R y bytes maxL ret n0 Q) {a b : Int32} {o : Int} (hd : decode bytes pc = .ok (.if_icmp .ge o, 3)) (hc : a < b) (hp : pc + 3 = pc') (hr : G h k n pc' ls st) : G h k n pc ls (.int b :: .int a :: st) := by
  obtain ⟨p, e, s, m, args, below, meth, c, hx, hby, hml, hown, hnm, hret, hlk, hZ, hw, rfl⟩ := C
  subst hp
  exact lift (fun T locs X _ target q => XS.icmpNo X.here hx rfl (hb hby hd) rfl (tlt hc).2.1 q) hr
theorem Cx.if_ge_T (C : Cx G l Z a0 ws R y bytes maxL ret n0 Q) {a : Int32} {o : Int} (hd : decode bytes pc = .ok (.ifCond .ge o, 3)) (hc : ¬ a < (0 : Int32)) (ho : 0 ≤ (pc : Int) + o) (hp : ((pc : Int) + o).toNat = pc') (hr : G h k n pc' ls st) : G h k n pc ls (.int a :: st) := by
  obtain ⟨p, e, s, m, args, below, meth, c, hx, hby, hml, hown, hnm, hret, hlk, hZ, hw, rfl⟩ := C
  exact lift (fun T locs X _ target q => XS.ifYes X.here hx rfl (pc0 := pc) rfl (hb hby hd) rfl (by rw [if0]; exact (flt hc).2.1) ho hp q) hr
theorem Cx.if_ge_F (C : Cx G l Z a0 ws R y bytes maxL ret n0 Q) {a : Int32} {o : Int} (hd : decode bytes pc = .ok (.ifCond .ge o, 3)) (hc : a < (0 : Int32)) (hp : pc + 3 = pc') (hr : G h k n pc' ls st) : G h k n pc ls (.int a :: st) := by
  obtain ⟨p, e, s, m, args, below, meth, c, hx, hby, hml, hown, hnm, hret, hlk, hZ, hw, rfl⟩ := C
  subst hp
  exact lift (fun T locs X _ target q => XS.ifNo X.here hx rfl (hb hby hd) rfl (by rw [if0]; exact (tlt hc).2.1) q) hr
theorem Cx.icmp_ge (C : Cx G l Z a0 ws R y bytes maxL ret n0 Q) {a b : Int32} {o : Int} (hd : decode bytes pc = .ok (.if_icmp .ge o, 3)) (ho : 0 ≤ (pc : Int) + o) (hp : ((pc : Int) + o).toNat = pc1) (hq : pc + 3 = pc2) (h1 : ¬ a < b → G h k n pc1 ls st) (h2 : a < b → G h k n pc2 ls st) : G h k n pc ls (.int b :: .int a :: st) := by
  by_cases hc : a < b
  · exact C.icmp_ge_F hd hc hq (h2 hc)
  · exact C.icmp_ge_T hd hc ho hp (h1 hc)
theorem Cx.if_ge (C : Cx G l Z a0 ws R y bytes maxL ret n0 Q) {a : Int32} {o : Int} (hd : decode bytes pc = .ok (.ifCond .ge o, 3)) (ho : 0 ≤ (pc : Int) + o) (hp : ((pc : Int) + o).toNat = pc1) (hq : pc + 3 = pc2) (h1 : ¬ a < (0 : Int32) → G h k n pc1 ls st) (h2 : a < (0 : Int32) → G h k n pc2 ls st) : G h k n pc ls (.int a :: st) := by
  by_cases hc : a < (0 : Int32)
  · exact C.if_ge_F hd hc hq (h2 hc)
  · exact C.if_ge_T hd hc ho hp (h1 hc)
theorem Cx.icmp_gt_T (C : Cx G l Z a0 ws R y bytes maxL ret n0 Q) {a b : Int32} {o : Int} (hd : decode bytes pc = .ok (.if_icmp .gt o, 3)) (hc : b < a) (ho : 0 ≤ (pc : Int) + o) (hp : ((pc : Int) + o).toNat = pc') (hr : G h k n pc' ls st) : G h k n pc ls (.int b :: .int a :: st) := by
  obtain ⟨p, e, s, m, args, below, meth, c, hx, hby, hml, hown, hnm, hret, hlk, hZ, hw, rfl⟩ := C
  exact lift (fun T locs X _ target q => XS.icmpYes X.here hx rfl (pc0 := pc) rfl (hb hby hd) rfl (tlt hc).2.2.1 ho hp q) hr
theorem Cx.icmp_gt_F (C : Cx G l Z a0 ws R y bytes maxL ret n0 Q) {a b : Int32} {o : Int} (hd : decode bytes pc = .ok (.if_icmp .gt o, 3)) (hc : ¬ b < a) (hp : pc + 3 = pc') (hr : G h k n pc' ls st) : G h k n pc ls (.int b :: .int a :: st) := by
  obtain ⟨p, e, s, m, args, below, meth, c, hx, hby, hml, hown, hnm, hret, hlk, hZ, hw, rfl⟩ := C
  subst hp
  exact lift (fun T locs X _ target q => XS.icmpNo X.here hx rfl (hb hby hd) rfl (flt hc).2.2.1 q) hr
theorem Cx.if_gt_T (C : Cx G l Z a0 ws R y bytes maxL ret n0 Q) {a : Int32} {o : Int} (hd : decode bytes pc = .ok (.ifCond .gt o, 3)) (hc : (0 : Int32) < a) (ho : 0 ≤ (pc : Int) + o) (hp : ((pc : Int) + o).toNat = pc') (hr : G h k n pc' ls st) : G h k n pc ls (.int a :: st) := by
  obtain ⟨p, e, s, m, args, below, meth, c, hx, hby, hml, hown, hnm, hret, hlk, hZ, hw, rfl⟩ := C
  exact lift (fun T locs X _ target q => XS.ifYes X.here hx rfl (pc0 := pc) rfl (hb hby hd) rfl (by rw [if0]; exact (tlt hc).2.2.1) ho hp q) hr
theorem Cx.if_gt_F (C : Cx G l Z a0 ws R y bytes maxL ret n0 Q) {a : Int32} {o : Int} (hd : decode bytes pc = .ok (.ifCond .gt o, 3)) (hc : ¬ (0 : Int32) < a) (hp : pc + 3 = pc') (hr : G h k n pc' ls st) : G h k n pc ls (.int a :: st) := by
  obtain ⟨p, e, s, m, args, below, meth, c, hx, hby, hml, hown, hnm, hret, hlk, hZ, hw, rfl⟩ := C
  subst hp
  exact lift (fun T locs X _ target q => XS.ifNo X.here hx rfl (hb hby hd) rfl (by rw [if0]; exact (flt hc).2.2.1) q) hr
theorem Cx.icmp_gt (C : Cx G l Z a0 ws R y bytes maxL ret n0 Q) {a b : Int32} {o : Int} (hd : decode bytes pc = .ok (.if_icmp .gt o, 3)) (ho : 0 ≤ (pc : Int) + o) (hp : ((pc : Int) + o).toNat = pc1) (hq : pc + 3 = pc2) (h1 : b < a → G h k n pc1 ls st) (h2 : ¬ b < a → G h k n pc2 ls st) : G h k n pc ls (.int b :: .int a :: st) := by
  by_cases hc : b < a
  · exact C.icmp_gt_T hd hc ho hp (h1 hc)
  · exact C.icmp_gt_F hd hc hq (h2 hc)
theorem Cx.if_gt (C : Cx G l Z a0 ws R y bytes maxL ret n0 Q) {a : Int32} {o : Int} (hd : decode bytes pc = .ok (.ifCond .gt o, 3)) (ho : 0 ≤ (pc : Int) + o) (hp : ((pc : Int) + o).toNat = pc1) (hq : pc + 3 = pc2) (h1 : (0 : Int32) < a → G h k n pc1 ls st) (h2 : ¬ (0 : Int32) < a → G h k n pc2 ls st) : G h k n pc ls (.int a :: st) := by
  by_cases hc : (0 : Int32) < a
  · exact C.if_gt_T hd hc ho hp (h1 hc)
  · exact C.if_gt_F hd hc hq (h2 hc)
theorem Cx.icmp_le_T (C : Cx G l Z a0 ws R y bytes maxL ret n0 Q) {a b : Int32} {o : Int} (hd : decode bytes pc = .ok (.if_icmp .le o, 3)) (hc : ¬ b < a) (ho : 0 ≤ (pc : Int) + o) (hp : ((pc : Int) + o).toNat = pc') (hr : G h k n pc' ls st) : G h k n pc ls (.int b :: .int a :: st) := by
  obtain ⟨p, e, s, m, args, below, meth, c, hx, hby, hml, hown, hnm, hret, hlk, hZ, hw, rfl⟩ := C
  exact lift (fun T locs X _ target q => XS.icmpYes X.here hx rfl (pc0 := pc) rfl (hb hby hd) rfl (flt hc).2.2.2 ho hp q) hr
theorem Cx.icmp_le_F (C : Cx G l Z a0 ws R y bytes maxL ret n0 Q) {a b : Int32} {o : Int} (hd : decode bytes pc = .ok (.if_icmp .le o, 3)) (hc : b < a) (hp : pc + 3 = pc') (hr : G h k n pc' ls st) : G h k n pc ls (.int b :: .int a :: st) := by
  obtain ⟨p, e, s, m, args, below, meth, c, hx, hby, hml, hown, hnm, hret, hlk, hZ, hw, rfl⟩ := C
  subst hp
  exact lift (fun T locs X _ target q => XS.icmpNo X.here hx rfl (hb hby hd) rfl (tlt hc).2.2.2 q) hr
theorem Cx.if_le_T (C : Cx G l Z a0 ws R y bytes maxL ret n0 Q) {a : Int32} {o : Int} (hd : decode bytes pc = .ok (.ifCond .le o, 3)) (hc : ¬ (0 : Int32) < a) (ho : 0 ≤ (pc : Int) + o) (hp : ((pc : Int) + o).toNat = pc') (hr : G h k n pc' ls st) : G h k n pc ls (.int a :: st) := by
  obtain ⟨p, e, s, m, args, below, meth, c, hx, hby, hml, hown, hnm, hret, hlk, hZ, hw, rfl⟩ := C
  exact lift (fun T locs X _ target q => XS.ifYes X.here hx rfl (pc0 := pc) rfl (hb hby hd) rfl (by rw [if0]; exact (flt hc).2.2.2) ho hp q) hr
theorem Cx.if_le_F (C : Cx G l Z a0 ws R y bytes maxL ret n0 Q) {a : Int32} {o : Int} (hd : decode bytes pc = .ok (.ifCond .le o, 3)) (hc : (0 : Int32) < a) (hp : pc + 3 = pc') (hr : G h k n pc' ls st) : G h k n pc ls (.int a :: st) := by
  obtain ⟨p, e, s, m, args, below, meth, c, hx, hby, hml, hown, hnm, hret, hlk, hZ, hw, rfl⟩ := C
  subst hp
  exact lift (fun T locs X _ target q => XS.ifNo X.here hx rfl (hb hby hd) rfl (by rw [if0]; exact (tlt hc).2.2.2) q) hr
theorem Cx.icmp_le (C : Cx G l Z a0 ws R y bytes maxL ret n0 Q) {a b : Int32} {o : Int} (hd : decode bytes pc = .ok (.if_icmp .le o, 3)) (ho : 0 ≤ (pc : Int) + o) (hp : ((pc : Int) + o).toNat = pc1) (hq : pc + 3 = pc2) (h1 : ¬ b < a → G h k n pc1 ls st) (h2 : b < a → G h k n pc2 ls st) : G h k n pc ls (.int b :: .int a :: st) := by
  by_cases hc : b < a
  · exact C.icmp_le_F hd hc hq (h2 hc)
  · exact C.icmp_le_T hd hc ho hp (h1 hc)
theorem Cx.if_le (C : Cx G l Z a0 ws R y bytes maxL ret n0 Q) {a : Int32} {o : Int} (hd : decode bytes pc = .ok (.ifCond .le o, 3)) (ho : 0 ≤ (pc : Int) + o) (hp : ((pc : Int) + o).toNat = pc1) (hq : pc + 3 = pc2) (h1 : ¬ (0 : Int32) < a → G h k n pc1 ls st) (h2 : (0 : Int32) < a → G h k n pc2 ls st) : G h k n pc ls (.int a :: st) := by
  by_cases hc : (0 : Int32) < a
  · exact C.if_le_F hd hc hq (h2 hc)
  · exact C.if_le_T hd hc ho hp (h1 hc)
theorem Cx.ldcI (C : Cx G l Z a0 ws R y bytes maxL ret n0 Q) {i idx : Nat} {v : Int32} (w : ws[i]? = some (Jvm.Cond.constant y.cls idx v)) (hd : decode bytes pc = .ok (.ldc idx, 2)) (hp : pc + 2 = pc') (hr : G h k n pc' ls (.int v :: st)) : G h k n pc ls st := by
  obtain ⟨p, e, s, m, args, below, meth, c, hx, hby, hml, hown, hnm, hret, hlk, hZ, hw, rfl⟩ := C
  subst hp
  exact lift (fun T locs X _ target q => X.ldcInt hx hown (mvT hZ (word hw w)) (g := mkF m pc ls st) rfl (hb hby hd) target q) hr
theorem Cx.ldcJ (C : Cx G l Z a0 ws R y bytes maxL ret n0 Q) {i idx : Nat} {v : Int64} (w : ws[i]? = some (Jvm.Cond.constantLong y.cls idx v)) (hd : decode bytes pc = .ok (.ldc2_w idx, 3)) (hp : pc + 3 = pc') (hr : G h k n pc' ls (.long v :: st)) : G h k n pc ls st := by
  obtain ⟨p, e, s, m, args, below, meth, c, hx, hby, hml, hown, hnm, hret, hlk, hZ, hw, rfl⟩ := C
  subst hp
  exact lift (fun T locs X _ target q => X.ldc2Long hx hown (mvT hZ (word hw w)) (g := mkF m pc ls st) rfl (hb hby hd) target q) hr
theorem Cx.ldcD (C : Cx G l Z a0 ws R y bytes maxL ret n0 Q) {i idx : Nat} {v : UInt64} (w : ws[i]? = some (Jvm.Cond.constantDouble y.cls idx v)) (hd : decode bytes pc = .ok (.ldc2_w idx, 3)) (hp : pc + 3 = pc') (hr : G h k n pc' ls (.double v :: st)) : G h k n pc ls st := by
  obtain ⟨p, e, s, m, args, below, meth, c, hx, hby, hml, hown, hnm, hret, hlk, hZ, hw, rfl⟩ := C
  subst hp
  exact lift (fun T locs X _ target q => X.ldc2DoubleC hx hown (mvT hZ (word hw w)) (g := mkF m pc ls st) rfl (hb hby hd) target q) hr
theorem castI {a b : Int32} (q : a = b) (hr : G h k n pc ls (.int b :: st)) : G h k n pc ls (.int a :: st) := by rw [q]; exact hr
theorem castJ {a b : Int64} (q : a = b) (hr : G h k n pc ls (.long b :: st)) : G h k n pc ls (.long a :: st) := by rw [q]; exact hr
theorem cmpL_lt {a b : Int64} : XT.cmpL a b < 0 ↔ a < b := by
  unfold XT.cmpL
  split
  · rename_i q; constructor
    · intro r; exact absurd r (by decide)
    · intro r; rw [Int64.lt_iff_toInt_lt] at q r; omega
  · split
    · rename_i q; subst q; constructor
      · intro r; exact absurd r (by decide)
      · intro r; rw [Int64.lt_iff_toInt_lt] at r; omega
    · rename_i p q; constructor
      · intro _; rw [Int64.lt_iff_toInt_lt] at p ⊢; have : a.toInt ≠ b.toInt := fun r => q (Int64.toInt_inj.mp r); omega
      · intro _; decide
theorem cmpL_gt {a b : Int64} : 0 < XT.cmpL a b ↔ b < a := by
  unfold XT.cmpL
  split
  · rename_i q; exact ⟨fun _ => q, fun _ => by decide⟩
  · rename_i p
    split
    · exact ⟨fun r => absurd r (by decide), fun r => absurd r p⟩
    · exact ⟨fun r => absurd r (by decide), fun r => absurd r p⟩
theorem cmpL_eq {a b : Int64} : XT.cmpL a b = 0 ↔ a = b := by
  unfold XT.cmpL
  split
  · rename_i q; constructor
    · intro r; exact absurd r (by decide)
    · intro r; subst r; rw [Int64.lt_iff_toInt_lt] at q; omega
  · split
    · rename_i q; exact ⟨fun _ => q, fun _ => rfl⟩
    · rename_i q; exact ⟨fun r => absurd r (by decide), fun r => absurd r q⟩
def b2i (b : Bool) : Int32 := match b with | true => 1 | false => 0
theorem b2i_f {b : Bool} (q : b2i b = 0) : b = false := by cases b with | false => rfl | true => exact absurd q (by decide)
theorem b2i_t {b : Bool} (q : ¬ b2i b = 0) : b = true := by cases b with | true => rfl | false => exact absurd rfl q
theorem nar_b (x : Int32) : nar .byte x.toInt8.toInt32 = x.toInt8.toInt32 := by simp [nar]
theorem Cx.ireturn (C : Cx G l Z a0 ws R y bytes maxL ret n0 Q) {a : Int32} (hd : decode bytes pc = .ok (.ireturn, 1)) (ht : ret = some .int) (hk : k ≤ R.cells) (hn : n ≤ R.slots) (hq : Q (some (.int a)) h) : G h k n pc ls (.int a :: st) := by
  obtain ⟨p, e, s, m, args, below, meth, c, hx, hby, hml, hown, hnm, hret, hlk, hZ, hw, rfl⟩ := C
  subst ht
  intro T locs X hT hF
  obtain ⟨fs, hr, hrun, hended, hW, hsame⟩ := X.leave (v := some (.int a)) (fun q => by rw [hret] at q; cases q) hlk
  refine ⟨_, _, retOut X hx hret rfl (Or.inl ⟨rfl, Or.inl rfl, a, rfl⟩) (hb hby hd) hr, hrun, hended, _, locs, rfl, ⟨?_, hF⟩, ⟨_, rfl⟩, hW, hsame.mono hk hn⟩
  show Q _ T.heap
  rw [hT]; exact hq
theorem Cx.nreturn (C : Cx G l Z a0 ws R y bytes maxL ret n0 Q) {a b : Int32} {t : FieldType} (hd : decode bytes pc = .ok (.ireturn, 1)) (ht : ret = some t) (ht' : t = .boolean ∨ t = .byte ∨ t = .char ∨ t = .short) (hk : k ≤ R.cells) (hn : n ≤ R.slots) (hb' : nar t a = b) (hq : Q (some (.int b)) h) : G h k n pc ls (.int a :: st) := by
  obtain ⟨p, e, s, m, args, below, meth, c, hx, hby, hml, hown, hnm, hret, hlk, hZ, hw, rfl⟩ := C
  subst ht hb'
  intro T locs X hT hF
  obtain ⟨fs, hr, hrun, hended, hW, hsame⟩ := X.leave (v := some (.int (nar t a))) (fun q => by rw [hret] at q; cases q) hlk
  refine ⟨_, _, retN X hx hret ht' (hb hby hd) hr, hrun, hended, _, locs, rfl, ⟨?_, hF⟩, ⟨_, rfl⟩, hW, hsame.mono hk hn⟩
  show Q _ T.heap
  rw [hT]; exact hq
theorem Cx.lreturn (C : Cx G l Z a0 ws R y bytes maxL ret n0 Q) {a : Int64} (hd : decode bytes pc = .ok (.lreturn, 1)) (ht : ret = some .long) (hk : k ≤ R.cells) (hn : n ≤ R.slots) (hq : Q (some (.long a)) h) : G h k n pc ls (.long a :: st) := by
  obtain ⟨p, e, s, m, args, below, meth, c, hx, hby, hml, hown, hnm, hret, hlk, hZ, hw, rfl⟩ := C
  subst ht
  intro T locs X hT hF
  obtain ⟨fs, hr, hrun, hended, hW, hsame⟩ := X.leave (v := some (.long a)) (fun q => by rw [hret] at q; cases q) hlk
  refine ⟨_, _, retOut X hx hret rfl (Or.inr (Or.inl ⟨rfl, rfl, a, rfl⟩)) (hb hby hd) hr, hrun, hended, _, locs, rfl, ⟨?_, hF⟩, ⟨_, rfl⟩, hW, hsame.mono hk hn⟩
  show Q _ T.heap
  rw [hT]; exact hq
theorem Cx.areturn (C : Cx G l Z a0 ws R y bytes maxL ret n0 Q) {a : Addr} {t : FieldType} (hd : decode bytes pc = .ok (.areturn, 1)) (ht : ret = some t) (ht' : t.isReference = true) (hnr : narrow t (.ref a) = .ref a) (hk : k ≤ R.cells) (hn : n ≤ R.slots) (hq : Q (some (.ref a)) h) : G h k n pc ls (.ref a :: st) := by
  obtain ⟨p, e, s, m, args, below, meth, c, hx, hby, hml, hown, hnm, hret, hlk, hZ, hw, rfl⟩ := C
  subst ht
  intro T locs X hT hF
  obtain ⟨fs, hr, hrun, hended, hW, hsame⟩ := X.leave (v := some (.ref a)) (fun q => by rw [hret] at q; cases q) hlk
  refine ⟨_, _, retOut X hx hret hnr (Or.inr (Or.inr (Or.inr (Or.inr ⟨rfl, ht', rfl⟩)))) (hb hby hd) hr, hrun, hended, _, locs, rfl, ⟨?_, hF⟩, ⟨_, rfl⟩, hW, hsame.mono hk hn⟩
  show Q _ T.heap
  rw [hT]; exact hq
theorem Cx.vreturn (C : Cx G l Z a0 ws R y bytes maxL ret n0 Q) (hd : decode bytes pc = .ok (.return_, 1)) (ht : ret = none) (hk : k ≤ R.cells) (hn : n ≤ R.slots) (hq : Q none h) : G h k n pc ls [] := by
  obtain ⟨p, e, s, m, args, below, meth, c, hx, hby, hml, hown, hnm, hret, hlk, hZ, hw, rfl⟩ := C
  subst ht
  intro T locs X hT hF
  obtain ⟨fs, hr, hrun, hended, hW, hsame⟩ := X.leave (v := none) (fun _ => rfl) hlk
  refine ⟨_, _, X.returnOut hx hret (hb hby hd) hr, hrun, hended, _, locs, rfl, ⟨?_, hF⟩, ⟨_, rfl⟩, hW, hsame.mono hk hn⟩
  show Q _ T.heap
  rw [hT]; exact hq
def Lst (Z : State) (h : Heap) (a : Addr) (ty : FieldType) (vs : List Value) : Prop := ∃ c : Cell, Arr Z h a c ty ∧ c.slots = vs.toArray
theorem Lst.lt {Z : State} {h : Heap} {a : Addr} {ty : FieldType} {vs : List Value} (F : Lst Z h a ty vs) : a < h.size := by obtain ⟨c, A, -⟩ := F; exact A.lt
theorem Lst.ext {Z : State} {h h' : Heap} {a : Addr} {ty : FieldType} {vs : List Value} (F : Lst Z h a ty vs) (E : Ext h h') : Lst Z h' a ty vs := by obtain ⟨c, A, r⟩ := F; exact ⟨c, A.ext E, r⟩
theorem Lst.other {Z : State} {h h' : Heap} {a b : Addr} {sl : Nat} {v : Value} {ty : FieldType} {vs : List Value} (F : Lst Z h b ty vs) (W : Wr h h' a sl v) (q : b ≠ a) : Lst Z h' b ty vs := by obtain ⟨c, A, r⟩ := F; exact ⟨c, A.other W q, r⟩
theorem Lst.keep {Z : State} {h h' : Heap} {a : Addr} {wr : List Addr} {ty : FieldType} {vs : List Value} (F : Lst Z h a ty vs) (K : Keep h h' wr) (q : a ∉ wr) : Lst Z h' a ty vs := by obtain ⟨c, A, r⟩ := F; exact ⟨c, ⟨K.2.1 a c A.1 q, A.2⟩, r⟩
def Idx (j : Int32) (i : Nat) : Prop := ¬ j < 0 ∧ j.toNatClampNeg = i
theorem Idx.of {j : Int32} {i : Nat} (h : j.toInt = (i : Int)) : Idx j i := by
  refine ⟨fun q => ?_, ?_⟩
  · rw [Int32.lt_iff_toInt_lt] at q; have : (0 : Int32).toInt = 0 := rfl; omega
  · simp only [Int32.toNatClampNeg]; omega
theorem Idx.int {j : Int32} {i : Nat} (h : Idx j i) : j.toInt = (i : Int) := by rw [nat_of h.1, h.2]
theorem Idx.bound {j : Int32} {i : Nat} {c : Cell} {vs : List Value} (h : Idx j i) (r : c.slots = vs.toArray) (hi : i < vs.length) : ¬ (j < 0 ∨ c.slots.size ≤ j.toNatClampNeg) := by
  rintro (q | q)
  · exact h.1 q
  · rw [h.2, r] at q; simp at q; omega
theorem Cx.arraylength (C : Cx G l Z a0 ws R y bytes maxL ret n0 Q) {a : Addr} {ty : FieldType} {vs : List Value} {N : Int32} (A : Lst Z h a ty vs) (hN : vs.length.toInt32 = N) (hd : decode bytes pc = .ok (.arraylength, 1)) (hp : pc + 1 = pc') (hr : G h k n pc' ls (.int N :: st)) : G h k n pc ls (.ref a :: st) := by
  obtain ⟨p, e, s, m, args, below, meth, c, hx, hby, hml, hown, hnm, hret, hlk, hZ, hw, rfl⟩ := C
  subst hp hN
  obtain ⟨cl, A, r⟩ := A
  refine lift (fun T locs X hT target q => X.arraylength hx (by rw [hT]; exact A.1) (State.isArrayOf_alike hZ.alike A.2.1) (g := mkF m pc ls (.ref a :: st)) rfl rfl (hb hby hd) target ?_) hr
  rw [r]; exact q
theorem Cx.iaload (C : Cx G l Z a0 ws R y bytes maxL ret n0 Q) {a : Addr} {vs : List Value} {j : Int32} {i : Nat} {v : Value} (A : Lst Z h a .int vs) (hj : Idx j i) (hv : vs[i]? = some v) (hd : decode bytes pc = .ok (.iaload, 1)) (hp : pc + 1 = pc') (hr : G h k n pc' ls (v :: st)) : G h k n pc ls (.int j :: .ref a :: st) := by
  obtain ⟨p, e, s, m, args, below, meth, c, hx, hby, hml, hown, hnm, hret, hlk, hZ, hw, rfl⟩ := C
  subst hp
  obtain ⟨cl, A, r⟩ := A
  exact lift (fun T locs X hT target q => X.iaload hx (by rw [hT]; exact A.1) (State.isArrayOf_alike hZ.alike A.2.1) A.2.2 (hj.bound r (List.getElem?_eq_some_iff.mp hv).1) (by rw [hj.2, r]; simpa using hv) (g := mkF m pc ls (.int j :: .ref a :: st)) rfl rfl (hb hby hd) target q) hr
theorem Cx.baload (C : Cx G l Z a0 ws R y bytes maxL ret n0 Q) {a : Addr} {vs : List Value} {j : Int32} {i : Nat} {v : Value} (A : Lst Z h a .byte vs) (hj : Idx j i) (hv : vs[i]? = some v) (hd : decode bytes pc = .ok (.baload, 1)) (hp : pc + 1 = pc') (hr : G h k n pc' ls (v :: st)) : G h k n pc ls (.int j :: .ref a :: st) := by
  obtain ⟨p, e, s, m, args, below, meth, c, hx, hby, hml, hown, hnm, hret, hlk, hZ, hw, rfl⟩ := C
  subst hp
  obtain ⟨cl, A, r⟩ := A
  exact lift (fun T locs X hT target q => X.baloadBytes hx (by rw [hT]; exact A.1) (State.isArrayOf_alike hZ.alike A.2.1) A.2.2 (hj.bound r (List.getElem?_eq_some_iff.mp hv).1) (by rw [hj.2, r]; simpa using hv) (g := mkF m pc ls (.int j :: .ref a :: st)) rfl rfl (hb hby hd) target q) hr
theorem Lst.same {Z : State} {h h' : Heap} {a : Addr} {i : Nat} {v : Value} {ty : FieldType} {vs : List Value} (F : Lst Z h a ty vs) (W : Wr h h' a i v) : Lst Z h' a ty (vs.set i v) := by
  obtain ⟨c, A, r⟩ := F
  exact ⟨_, A.same W, by simp [Cell.setSlot, r]⟩
theorem Cx.iastore (C : Cx G l Z a0 ws R y bytes maxL ret n0 Q) {a : Addr} {vs vs' : List Value} {j x : Int32} {i : Nat} (A : Lst Z h a .int vs) (hj : Idx j i) (hi : i < vs.length) (hs : vs.set i (.int x) = vs') (ga : n0 ≤ a) (hd : decode bytes pc = .ok (.iastore, 1)) (hp : pc + 1 = pc') (hr : ∀ h', Wr h h' a i (.int x) → Lst Z h' a .int vs' → G h' k n pc' ls st) : G h k n pc ls (.int x :: .int j :: .ref a :: st) := by
  obtain ⟨p, e, s, m, args, below, meth, c, hx, hby, hml, hown, hnm, hret, hlk, hZ, hw, rfl⟩ := C
  subst hp hs
  have A' := A
  obtain ⟨cl, A, r⟩ := A
  intro T locs X hT hF
  obtain ⟨T', h', X', e', W', s'⟩ := stI X hx hZ hT A (hj.bound r hi) (g := mkF m pc ls (.int x :: .int j :: .ref a :: st)) rfl rfl (hb hby hd)
  rw [hj.2] at W'
  obtain ⟨s₂, o, h1, h2⟩ := hr h' W' (A'.same W') T' _ X' e' (Fr.snoc X' hF ga)
  exact ⟨s₂, o, s' _ h1, h2⟩
theorem Cx.bastore (C : Cx G l Z a0 ws R y bytes maxL ret n0 Q) {a : Addr} {vs vs' : List Value} {j x x' : Int32} {i : Nat} (A : Lst Z h a .byte vs) (hj : Idx j i) (hi : i < vs.length) (hx' : nar .byte x = x') (hs : vs.set i (.int x') = vs') (ga : n0 ≤ a) (hd : decode bytes pc = .ok (.bastore, 1)) (hp : pc + 1 = pc') (hr : ∀ h', Wr h h' a i (.int x') → Lst Z h' a .byte vs' → G h' k n pc' ls st) : G h k n pc ls (.int x :: .int j :: .ref a :: st) := by
  obtain ⟨p, e, s, m, args, below, meth, c, hx, hby, hml, hown, hnm, hret, hlk, hZ, hw, rfl⟩ := C
  subst hp hs hx'
  have A' := A
  obtain ⟨cl, A, r⟩ := A
  intro T locs X hT hF
  obtain ⟨T', h', X', e', W', s'⟩ := stB X hx hZ hT A (hj.bound r hi) (g := mkF m pc ls (.int x :: .int j :: .ref a :: st)) rfl rfl (hb hby hd)
  rw [hj.2] at W'
  obtain ⟨s₂, o, h1, h2⟩ := hr h' W' (A'.same W') T' _ X' e' (Fr.snoc X' hF ga)
  exact ⟨s₂, o, s' _ h1, h2⟩
theorem Cx.dastore (C : Cx G l Z a0 ws R y bytes maxL ret n0 Q) {a : Addr} {vs : List Value} {j : Int32} {x : UInt64} {i : Nat} (A : Lst Z h a .double vs) (hj : Idx j i) (hi : i < vs.length) (ga : n0 ≤ a) (hd : decode bytes pc = .ok (.dastore, 1)) (hp : pc + 1 = pc') (hr : ∀ h', Wr h h' a i (.double x) → Lst Z h' a .double (vs.set i (.double x)) → G h' k n pc' ls st) : G h k n pc ls (.double x :: .int j :: .ref a :: st) := by
  obtain ⟨p, e, s, m, args, below, meth, c, hx, hby, hml, hown, hnm, hret, hlk, hZ, hw, rfl⟩ := C
  subst hp
  have A' := A
  obtain ⟨cl, A, r⟩ := A
  intro T locs X hT hF
  obtain ⟨T', h', X', e', W', s'⟩ := stD X hx hZ hT A (hj.bound r hi) (g := mkF m pc ls (.double x :: .int j :: .ref a :: st)) rfl rfl (hb hby hd)
  rw [hj.2] at W'
  obtain ⟨s₂, o, h1, h2⟩ := hr h' W' (A'.same W') T' _ X' e' (Fr.snoc X' hF ga)
  exact ⟨s₂, o, s' _ h1, h2⟩
theorem Cx.newarray (C : Cx G l Z a0 ws R y bytes maxL ret n0 Q) {w : Nat} {aty : ArrayType} {ty : FieldType} {d : Value} {vs : List Value} {len : Int32} {N cap : Nat} (hty : newarray.typeOf aty = ty) (hwd : ws[w]? = some (Jvm.Cond.arrayClass ty)) (hj : Idx len N) (hdv : defaultValue ty = d) (hvs : List.replicate N d = vs) (hcap : N ≤ cap) (hb8 : cap * 8 ≤ 536870912) (hc : k + 1 ≤ R.cells) (hl : n + cap ≤ R.slots) (hd : decode bytes pc = .ok (.newarray aty, 2)) (hp : pc + 2 = pc')
    (hr : ∀ h' a, a = h.size → Ext h h' → Lst Z h' a ty vs → G h' (k + 1) (n + cap) pc' ls (.ref a :: st)) : G h k n pc ls (.int len :: st) := by
  obtain ⟨p, e, s, m, args, below, meth, c, hx, hby, hml, hown, hnm, hret, hlk, hZ, hw, rfl⟩ := C
  subst hp hty hdv hvs
  intro T locs X hT hF
  obtain ⟨T', h', cA, X', e', E', A', s'⟩ := newP X hx hZ (word hw hwd) hT (g := mkF m pc ls (.int len :: st)) rfl (hb hby hd) rfl hj.1 (cap := cap) (by rw [hj.2]; exact hcap) hb8 hc hl
  obtain ⟨s₂, o, h1, h2⟩ := hr h' h.size rfl E' ⟨_, A', by simp [newA, hj.2]⟩ T' _ X' e' hF
  exact ⟨s₂, o, s' _ h1, h2⟩
theorem Cx.newO (C : Cx G l Z a0 ws R y bytes maxL ret n0 Q) {i1 i2 i3 idx nn : Nat} {K : String} (w1 : ws[i1]? = some (Jvm.Cond.classLink y.cls idx K)) (w2 : ws[i2]? = some (Jvm.Cond.instantiable K nn)) (w3 : ws[i3]? = some (Jvm.Cond.initialized K)) (hc : k + 1 ≤ R.cells) (hl : n + nn ≤ R.slots) (hd : decode bytes pc = .ok (.new idx, 3)) (hp : pc + 3 = pc')
    (hr : ∀ h' a, a = h.size → Ext h h' → Exa Z h' a K → (∀ {O nm d : String} {ty : FieldType}, Laid Z a0 K O nm d → parseFieldDescriptor d = some ty → Fld Z h' a O nm d (defaultValue ty)) → G h' (k + 1) (n + nn) pc' ls (.ref a :: st)) : G h k n pc ls st := by
  obtain ⟨p, e, s, m, args, below, meth, c, hx, hby, hml, hown, hnm, hret, hlk, hZ, hw, rfl⟩ := C
  subst hp
  intro T locs X hT hF
  obtain ⟨T', h', X', e', E', A', D', -, s'⟩ := RoadKit.newO X hx hZ hown (word hw w1) (word hw w2) (word hw w3) hT (g := mkF m pc ls st) rfl (hb hby hd) hc hl
  obtain ⟨s₂, o, h1, h2⟩ := hr h' h.size rfl E' A' D' T' _ X' e' hF
  exact ⟨s₂, o, s' _ h1, h2⟩
theorem Cx.getfield (C : Cx G l Z a0 ws R y bytes maxL ret n0 Q) {i idx : Nat} {O f d : String} {a : Addr} {v : Value} (w : ws[i]? = some (Jvm.Cond.fieldLink y.cls idx O f d)) (F : Fld Z h a O f d v) (hd : decode bytes pc = .ok (.getfield idx, 3)) (hp : pc + 3 = pc') (hr : G h k n pc' ls (v :: st)) : G h k n pc ls (.ref a :: st) := by
  obtain ⟨p, e, s, m, args, below, meth, c, hx, hby, hml, hown, hnm, hret, hlk, hZ, hw, rfl⟩ := C
  subst hp
  intro T locs X hT hF
  obtain ⟨T', X', e', s'⟩ := getF X hx hZ hown (host := "") (Or.inl (word hw w)) Via.refl hT F (g := mkF m pc ls (.ref a :: st)) rfl rfl (hb hby hd)
  obtain ⟨s₂, o, h1, h2⟩ := hr T' _ X' e' hF
  exact ⟨s₂, o, s' _ h1, h2⟩
theorem Cx.getstatic (C : Cx G l Z a0 ws R y bytes maxL ret n0 Q) {i idx : Nat} {O f d : String} {v : Value} (w : ws[i]? = some (Jvm.Cond.fieldLink y.cls idx O f d)) (F : Sta Z h O f d v) (hd : decode bytes pc = .ok (.getstatic idx, 3)) (hp : pc + 3 = pc') (hr : G h k n pc' ls (v :: st)) : G h k n pc ls st := by
  obtain ⟨p, e, s, m, args, below, meth, c, hx, hby, hml, hown, hnm, hret, hlk, hZ, hw, rfl⟩ := C
  subst hp
  intro T locs X hT hF
  obtain ⟨T', X', e', s'⟩ := getS X hx hZ (host := "") hown (word hw w) Via.refl hT F (g := mkF m pc ls st) rfl (hb hby hd)
  obtain ⟨s₂, o, h1, h2⟩ := hr T' _ X' e' hF
  exact ⟨s₂, o, s' _ h1, h2⟩
theorem Cx.putfield (C : Cx G l Z a0 ws R y bytes maxL ret n0 Q) {i i2 i3 idx kk : Nat} {O f d K : String} {a : Addr} {v v' old : Value} {ty : FieldType} (w : ws[i]? = some (Jvm.Cond.fieldLink y.cls idx O f d)) (w2 : ws[i2]? = some (Jvm.Cond.lays K O f d) ∨ (ws[i2]? = some (Jvm.Cond.laysFinal K O f d) ∧ y.cls = O ∧ y.name = "<init>")) (w3 : ws[i3]? = some (Jvm.Cond.instantiable K kk)) (F : Fld Z h a O f d old) (E : Exa Z h a K) (hty : parseFieldDescriptor d = some ty) (hnv : narrow ty v = v') (hfv : fits ty v' = true) (ga : n0 ≤ a) (hd : decode bytes pc = .ok (.putfield idx, 3)) (hp : pc + 3 = pc')
    (hr : ∀ h', Wr h h' a (Jvm.RoadKit.slotOf Z O f d) v' → G h' k n pc' ls st) : G h k n pc ls (v :: .ref a :: st) := by
  obtain ⟨p, e, s, m, args, below, meth, c, hx, hby, hml, hown, hnm, hret, hlk, hZ, hw, rfl⟩ := C
  subst hp
  intro T locs X hT hF
  obtain ⟨T', h', X', e', W', s'⟩ := putFN X hx hZ hown (word hw w) Via.refl hT F E (w2.elim (fun q => Or.inl (word hw q)) (fun q => Or.inr ⟨word hw q.1, q.2.1, hnm.trans q.2.2⟩)) (word hw w3) hty hnv hfv (g := mkF m pc ls (v :: .ref a :: st)) rfl rfl (hb hby hd)
  obtain ⟨s₂, o, h1, h2⟩ := hr h' W' T' _ X' e' (Fr.snoc X' hF ga)
  exact ⟨s₂, o, s' _ h1, h2⟩
theorem Cx.initO (C : Cx G l Z a0 ws R y bytes maxL ret n0 Q) {i1 i2 i3 idx W : Nat} {a : Addr} (w1 : ws[i1]? = some (Jvm.Cond.methodLink y.cls idx Lib.objectInit)) (w2 : ws[i2]? = some (Jvm.Cond.instanceMethod Lib.objectInit)) (w3 : ws[i3]? = some (Jvm.Cond.code Lib.objectInit Jvm.LibCode.Object.Init0.code 1 none)) (hsz : ls.size = maxL) (hf : 1 ≤ R.frames) (hW : (st.map fun v => v.category).sum = W) (hl : W + 12 ≤ R.locals) (hd : decode bytes pc = .ok (.invokespecial idx, 3)) (hp : pc + 3 = pc') (hr : G h k n pc' ls st) : G h k n pc ls (.ref a :: st) := by
  obtain ⟨p, e, s, m, args, below, meth, c, hx, hby, hml, hown, hnm, hret, hlk, hZ, hw, rfl⟩ := C
  subst hp
  intro T locs X hT hF
  obtain ⟨T', X', e', s'⟩ := RoadKit.initO X hx hZ hown (word hw w1) (word hw w2) (word hw w3) hT (g := mkF m pc ls (.ref a :: st)) rfl (by rw [hml]; exact hsz) rfl (hb hby hd) hf (W := W) (by rw [← hW]; show 2 * 0 + _ ≤ _; omega) hl
  obtain ⟨s₂, o, h1, h2⟩ := hr T' _ X' e' hF
  exact ⟨s₂, o, s' _ h1, h2⟩
theorem Cx.callS (C : Cx G l Z a0 ws R y bytes maxL ret n0 Q) {y' : MethodName} {bytes' : ByteArray} {maxL' : Nat} {ret' : Option FieldType} {rm : Room} {as : Array Value} {Q' : Option Value → Heap → Prop} (hM : Ctr l Z y' bytes' maxL' ret' rm n0 as h Q' []) {i1 i2 i3 i4 idx W : Nat} (w1 : ws[i1]? = some (Jvm.Cond.methodLink y.cls idx y')) (w2 : ws[i2]? = some (Jvm.Cond.static y')) (w3 : ws[i3]? = some (Jvm.Cond.initialized y'.cls)) (w4 : ws[i4]? = some (Jvm.Cond.code y' bytes' maxL' ret'))
    (hy : y'.cls ≠ "java/lang/invoke/MethodHandle" ∧ y'.cls ≠ "java/lang/invoke/VarHandle") {argsL : List Value} {ps : List FieldType} {rt : Option FieldType} (hps : parseMethodDescriptor y'.desc = some ⟨ps, rt⟩) (hln : argsL.length = ps.length) (has : argsL.toArray = as) (hst : st = argsL.reverse ++ rest) (hsz : ls.size = maxL) (hW : (rest.map fun v => v.category).sum = W) (hf : rm.frames + 1 ≤ R.frames) (hl : W + (maxL' + 11) + rm.locals ≤ R.locals) (hc : k + rm.cells ≤ R.cells) (hn : n + rm.slots ≤ R.slots) (hd : decode bytes pc = .ok (.invokestatic idx, 3)) (hp : pc + 3 = pc') (hk' : k + rm.cells = k') (hn' : n + rm.slots = n')
    (hr : ∀ v h', Q' v h' → G h' k' n' pc' ls (v.toList ++ rest)) : G h k n pc ls st := by
  obtain ⟨p, e, s, m, args, below, meth, c, hx, hby, hml, hown, hnm, hret, hlk, hZ, hw, rfl⟩ := C
  subst hp has hst hk' hn'
  intro T locs X hT hF
  obtain ⟨v, _, ⟨T', L', k9, n9⟩, -, X', ⟨Lc, hQ, e1, e2, e3⟩, s'⟩ := Jvm.LawKit.callS X hx (y := y') hown (mvT hZ (word hw w1)) (mvT hZ (word hw w2)) (mvT hZ (word hw w3)) (mvT hZ (word hw w4)) hy (backOf (Q := fun v h L => Q' v h ∧ Fr n0 L) (W := W) hM hZ (word hw w4) (word hw w3) hf hl) (g := mkF m pc ls (argsL.reverse ++ rest)) rfl (by rw [hml]; exact hsz) (argsL := argsL) (rest := rest) (lenOf hps hln) rfl (by rw [← hW]; show 2 * 0 + _ ≤ _; omega) (hb hby hd) (fun _ _ => ⟨rfl, hT, hc, hn⟩)
  dsimp only [Pt.U, Pt.locs, Pt.cells, Pt.slots] at X' e1 e2 e3 s' hQ
  subst e1 e2 e3
  obtain ⟨s₂, o, h1, h2⟩ := hr v T'.heap hQ.1 T' _ X' rfl (Fr.app hF hQ.2)
  exact ⟨s₂, o, s' _ h1, h2⟩
theorem Cx.callI (C : Cx G l Z a0 ws R y bytes maxL ret n0 Q) {y' : MethodName} {bytes' : ByteArray} {maxL' : Nat} {rm : Room} {as : Array Value} {Q' : Option Value → Heap → Prop} {a : Addr} (hM : Ctr l Z y' bytes' maxL' none rm n0 as h Q' []) {i1 i2 i3 i4 idx W : Nat} (w1 : ws[i1]? = some (Jvm.Cond.methodLink y.cls idx y')) (w2 : ws[i2]? = some (Jvm.Cond.instanceMethod y')) (w3 : ws[i3]? = some (Jvm.Cond.initialized y'.cls)) (w4 : ws[i4]? = some (Jvm.Cond.code y' bytes' maxL' none)) (hi : y'.name = "<init>")
    (hy : y'.cls ≠ "java/lang/invoke/MethodHandle" ∧ y'.cls ≠ "java/lang/invoke/VarHandle") {argsL : List Value} {ps : List FieldType} {rt : Option FieldType} (hps : parseMethodDescriptor y'.desc = some ⟨ps, rt⟩) (hln : argsL.length = ps.length) (has : (.ref a :: argsL).toArray = as) (hst : st = argsL.reverse ++ .ref a :: rest) (hsz : ls.size = maxL) (hW : (rest.map fun v => v.category).sum = W) (hf : rm.frames + 1 ≤ R.frames) (hl : W + (maxL' + 11) + rm.locals ≤ R.locals) (hc : k + rm.cells ≤ R.cells) (hn : n + rm.slots ≤ R.slots) (hd : decode bytes pc = .ok (.invokespecial idx, 3)) (hp : pc + 3 = pc') (hk' : k + rm.cells = k') (hn' : n + rm.slots = n')
    (hr : ∀ v h', Q' v h' → G h' k' n' pc' ls (v.toList ++ rest)) : G h k n pc ls st := by
  obtain ⟨p, e, s, m, args, below, meth, c, hx, hby, hml, hown, hnm, hret, hlk, hZ, hw, rfl⟩ := C
  subst hp has hst hk' hn'
  intro T locs X hT hF
  obtain ⟨v, _, ⟨T', L', k9, n9⟩, -, X', ⟨Lc, hQ, e1, e2, e3⟩, s'⟩ := X.specialBack hx (y := y') hi hown (mvT hZ (word hw w1)) (mvT hZ (word hw w2)) (mvT hZ (word hw w4)) hy (backOf (Q := fun v h L => Q' v h ∧ Fr n0 L) (W := W) hM hZ (word hw w4) (word hw w3) hf hl) (g := mkF m pc ls (argsL.reverse ++ .ref a :: rest)) rfl (by rw [hml]; exact hsz) (Steps.refl _) (a := a) (argsL := argsL) (rest := rest) (lenOf hps hln) rfl (by rw [← hW]; show 2 * 0 + _ ≤ _; omega) (hb hby hd) (fun _ _ => ⟨rfl, hT, hc, hn⟩)
  dsimp only [Pt.U, Pt.locs, Pt.cells, Pt.slots] at X' e1 e2 e3 s' hQ
  subst e1 e2 e3
  obtain ⟨s₂, o, h1, h2⟩ := hr v T'.heap hQ.1 T' _ X' rfl (Fr.app hF hQ.2)
  exact ⟨s₂, o, s'.trans h1, h2⟩
theorem Cx.callV (C : Cx G l Z a0 ws R y bytes maxL ret n0 Q) {y' : MethodName} {bytes' : ByteArray} {maxL' : Nat} {ret' : Option FieldType} {rm : Room} {as : Array Value} {Q' : Option Value → Heap → Prop} {a : Addr} {K : String} (hM : Ctr l Z y' bytes' maxL' ret' rm n0 as h Q' []) (hE : Exa Z h a K) {i1 i2 i3 i4 i5 i6 idx W : Nat} (w1 : ws[i1]? = some (Jvm.Cond.methodLink y.cls idx y')) (w2 : ws[i2]? = some (Jvm.Cond.declares y')) (w3 : ws[i3]? = some (Jvm.Cond.instanceMethod y')) (w4 : ws[i4]? = some (Jvm.Cond.selects K y' y')) (w5 : ws[i5]? = some (Jvm.Cond.code y' bytes' maxL' ret')) (w6 : ws[i6]? = some (Jvm.Cond.initialized y'.cls))
    (hy : y'.cls ≠ "java/lang/invoke/MethodHandle" ∧ y'.cls ≠ "java/lang/invoke/VarHandle") {argsL : List Value} {ps : List FieldType} {rt : Option FieldType} (hps : parseMethodDescriptor y'.desc = some ⟨ps, rt⟩) (hln : argsL.length = ps.length) (has : (.ref a :: argsL).toArray = as) (hst : st = argsL.reverse ++ .ref a :: rest) (hsz : ls.size = maxL) (hW : (rest.map fun v => v.category).sum = W) (hf : rm.frames + 1 ≤ R.frames) (hl : W + (maxL' + 11) + rm.locals ≤ R.locals) (hc : k + rm.cells ≤ R.cells) (hn : n + rm.slots ≤ R.slots) (hd : decode bytes pc = .ok (.invokevirtual idx, 3)) (hp : pc + 3 = pc') (hk' : k + rm.cells = k') (hn' : n + rm.slots = n')
    (hr : ∀ v h', Q' v h' → G h' k' n' pc' ls (v.toList ++ rest)) : G h k n pc ls st := by
  obtain ⟨p, e, s, m, args, below, meth, c, hx, hby, hml, hown, hnm, hret, hlk, hZ, hw, rfl⟩ := C
  subst hp has hst hk' hn'
  intro T locs X hT hF
  obtain ⟨cq, kq, qa, qb, qc⟩ := isOf hZ hT hE
  obtain ⟨v, _, ⟨T', L', k9, n9⟩, -, X', ⟨Lc, hQ, e1, e2, e3⟩, s'⟩ := X.virtualBack hx (y := y') (z := y') hown (mvT hZ (word hw w1)) (mvT hZ (word hw w2)) (notFace_of_selects (args := #[]) (mvT hZ (word hw w4))) (mvT hZ (word hw w4)) (mvT hZ (word hw w3)) hy (backOf (Q := fun v h L => Q' v h ∧ Fr n0 L) (W := W) hM hZ (word hw w5) (word hw w6) hf hl) qa qc (g := mkF m pc ls (argsL.reverse ++ .ref a :: rest)) rfl (by rw [hml]; exact hsz) (Steps.refl _) (argsL := argsL) (rest := rest) (lenOf hps hln) rfl (by rw [← hW]; show 2 * 0 + _ ≤ _; omega) (hb hby hd) (fun _ _ => ⟨rfl, hT, hc, hn⟩)
  dsimp only [Pt.U, Pt.locs, Pt.cells, Pt.slots] at X' e1 e2 e3 s' hQ
  subst e1 e2 e3
  obtain ⟨s₂, o, h1, h2⟩ := hr v T'.heap hQ.1 T' _ X' rfl (Fr.app hF hQ.2)
  exact ⟨s₂, o, s'.trans h1, h2⟩
theorem Cx.callSP (C : Cx G l Z a0 ws R y bytes maxL ret n0 Q) {y' : MethodName} {bytes' : ByteArray} {maxL' : Nat} {ret' : Option FieldType} {rm : Room} {as : Array Value} {r : Value} (hM : Ctr l Z y' bytes' maxL' ret' rm n0 as h (fun v h' => v = some r ∧ h' = h) []) {i1 i2 i3 i4 idx W : Nat} (w1 : ws[i1]? = some (Jvm.Cond.methodLink y.cls idx y')) (w2 : ws[i2]? = some (Jvm.Cond.static y')) (w3 : ws[i3]? = some (Jvm.Cond.initialized y'.cls)) (w4 : ws[i4]? = some (Jvm.Cond.code y' bytes' maxL' ret'))
    (hy : y'.cls ≠ "java/lang/invoke/MethodHandle" ∧ y'.cls ≠ "java/lang/invoke/VarHandle") {argsL : List Value} {ps : List FieldType} {rt : Option FieldType} (hps : parseMethodDescriptor y'.desc = some ⟨ps, rt⟩) (hln : argsL.length = ps.length) (has : argsL.toArray = as) (hst : st = argsL.reverse ++ rest) (hsz : ls.size = maxL) (hW : (rest.map fun v => v.category).sum = W) (hf : rm.frames + 1 ≤ R.frames) (hl : W + (maxL' + 11) + rm.locals ≤ R.locals) (hc : k + rm.cells ≤ R.cells) (hn : n + rm.slots ≤ R.slots) (hd : decode bytes pc = .ok (.invokestatic idx, 3)) (hp : pc + 3 = pc') (hk' : k + rm.cells = k') (hn' : n + rm.slots = n')
    (hr : G h k' n' pc' ls (r :: rest)) : G h k n pc ls st :=
  C.callS hM w1 w2 w3 w4 hy hps hln has hst hsz hW hf hl hc hn hd hp hk' hn' (fun v h' q => by obtain ⟨rfl, rfl⟩ := q; exact hr)
theorem Cx.callVP (C : Cx G l Z a0 ws R y bytes maxL ret n0 Q) {y' : MethodName} {bytes' : ByteArray} {maxL' : Nat} {ret' : Option FieldType} {rm : Room} {as : Array Value} {r : Value} {a : Addr} {K : String} (hM : Ctr l Z y' bytes' maxL' ret' rm n0 as h (fun v h' => v = some r ∧ h' = h) []) (hE : Exa Z h a K) {i1 i2 i3 i4 i5 i6 idx W : Nat} (w1 : ws[i1]? = some (Jvm.Cond.methodLink y.cls idx y')) (w2 : ws[i2]? = some (Jvm.Cond.declares y')) (w3 : ws[i3]? = some (Jvm.Cond.instanceMethod y')) (w4 : ws[i4]? = some (Jvm.Cond.selects K y' y')) (w5 : ws[i5]? = some (Jvm.Cond.code y' bytes' maxL' ret')) (w6 : ws[i6]? = some (Jvm.Cond.initialized y'.cls))
    (hy : y'.cls ≠ "java/lang/invoke/MethodHandle" ∧ y'.cls ≠ "java/lang/invoke/VarHandle") {argsL : List Value} {ps : List FieldType} {rt : Option FieldType} (hps : parseMethodDescriptor y'.desc = some ⟨ps, rt⟩) (hln : argsL.length = ps.length) (has : (.ref a :: argsL).toArray = as) (hst : st = argsL.reverse ++ .ref a :: rest) (hsz : ls.size = maxL) (hW : (rest.map fun v => v.category).sum = W) (hf : rm.frames + 1 ≤ R.frames) (hl : W + (maxL' + 11) + rm.locals ≤ R.locals) (hc : k + rm.cells ≤ R.cells) (hn : n + rm.slots ≤ R.slots) (hd : decode bytes pc = .ok (.invokevirtual idx, 3)) (hp : pc + 3 = pc') (hk' : k + rm.cells = k') (hn' : n + rm.slots = n')
    (hr : G h k' n' pc' ls (r :: rest)) : G h k n pc ls st :=
  C.callV hM hE w1 w2 w3 w4 w5 w6 hy hps hln has hst hsz hW hf hl hc hn hd hp hk' hn' (fun v h' q => by obtain ⟨rfl, rfl⟩ := q; exact hr)
theorem Lst.arv {h : Heap} {a : Addr} {ty : FieldType} {vs : List Value} {z : Int32} {dv : Value} (F : Lst Z h a ty vs) (hz : Idx z vs.length) (hf : ∀ i, i < vs.length → fits ty (vs.getD i dv) = true) : ∃ kk, Arv Z h a kk ty z vs dv := by
  obtain ⟨c, A, r⟩ := F
  have hs : c.slots.size = vs.length := by rw [r]; simp
  refine ⟨c.cls, c, A, rfl, by rw [hs, hz.2], hz.1, fun i hi => ?_, fun i hi => hf i (by omega)⟩
  rw [r, List.getElem?_toArray, List.getD_eq_getElem?_getD, List.getElem?_eq_getElem (by omega)]; rfl
theorem Lst.of_arv {h : Heap} {a : Addr} {ty : FieldType} {vs : List Value} {z : Int32} {dv : Value} {kk : ClassId} (F : Arv Z h a kk ty z vs dv) (hz : Idx z vs.length) : Lst Z h a ty vs := by
  obtain ⟨c, A, -, hs, -, hh, -⟩ := F
  refine ⟨c, A, ?_⟩
  have hl : c.slots.size = vs.length := by rw [hs, hz.2]
  apply Array.ext
  · simpa using hl
  · intro i h1 h2
    have q := hh i h1
    rw [Array.getElem?_eq_getElem h1, List.getD_eq_getElem?_getD, List.getElem?_eq_getElem (by omega)] at q
    simpa using q
theorem Cx.arraycopy (C : Cx G l Z a0 ws R y bytes maxL ret n0 Q) {a b : Addr} {ty : FieldType} {vs vd us vs' : List Value} {sp dp nn za zb : Int32} {i j N W i1 i2 i3 i4 idx : Nat} {dv : Value} (w1 : ws[i1]? = some (Jvm.Cond.methodLink y.cls idx Jvm.Stand.acN)) (w2 : ws[i2]? = some (Jvm.Cond.native Jvm.Stand.acN)) (w3 : ws[i3]? = some (Jvm.Cond.static Jvm.Stand.acN)) (w4 : ws[i4]? = some (Jvm.Cond.initialized "java/lang/System"))
    (A : Lst Z h a ty vs) (B : Lst Z h b ty vd) (hA : Idx za vs.length) (hB : Idx zb vd.length) (fA : ∀ i, i < vs.length → fits ty (vs.getD i dv) = true) (fB : ∀ i, i < vd.length → fits ty (vd.getD i dv) = true) (hty : refKind ty = false) (hi : Idx sp i) (hj : Idx dp j) (hN : Idx nn N) (hl1 : i + N ≤ vs.length) (hl2 : j + N ≤ vd.length) (hus : (List.range N).map (fun x => vs.getD (i + x) dv) = us) (hvs : vd.take j ++ us ++ vd.drop (j + N) = vs') (ga : n0 ≤ b) (hsz : ls.size = maxL) (hf : 1 ≤ R.frames) (hW : (st.map fun v => v.category).sum = W) (hlo : W + (nativeFrameWords "java/lang/System" "arraycopy" 5 + 11) ≤ R.locals) (hd : decode bytes pc = .ok (.invokestatic idx, 3)) (hp : pc + 3 = pc')
    (hr : ∀ h', Keep h h' [b] → Lst Z h' b ty vs' → G h' k n pc' ls st) : G h k n pc ls (.int nn :: .int dp :: .ref b :: .int sp :: .ref a :: st) := by
  obtain ⟨p, e, s, m, args, below, meth, c, hx, hby, hml, hown, hnm, hret, hlk, hZ, hw, rfl⟩ := C
  subst hp hus hvs
  intro T locs X hT hF
  obtain ⟨ka, A'⟩ := A.arv hA fA
  obtain ⟨kb, B'⟩ := B.arv hB fB
  obtain ⟨T', h', L', X', e', F', K', V', s'⟩ := cpA X hx hZ hown (word hw w1) (word hw w2) (word hw w3) (word hw w4) hT A' B' (Or.inl ⟨rfl, hty⟩) hi.1 hj.1 hN.1 (by rw [hi.2, hN.2, hA.2]; exact hl1) (by rw [hj.2, hN.2, hB.2]; exact hl2) (us := (List.range N).map (fun x => vs.getD (i + x) dv)) (by rw [hi.2, hN.2]) (by rw [hj.2, hN.2]; exact hl2) hF ga (g := mkF m pc ls (.int nn :: .int dp :: .ref b :: .int sp :: .ref a :: st)) rfl (by rw [hml]; exact hsz) rfl (hb hby hd) hf (W := W) (by rw [← hW]; show 2 * 0 + _ ≤ _; omega) hlo
  rw [hj.2, hN.2] at V'
  obtain ⟨s₂, o, h1, h2⟩ := hr h' K' (Lst.of_arv V' ⟨hB.1, by rw [hB.2]; simp; omega⟩) T' _ X' e' F'
  exact ⟨s₂, o, s' _ h1, h2⟩
end Laws
end Jvm.GoKit
namespace Jvm.Pilot.@@N@@
open Jvm Jvm.ClassFile Sem Op Lib Jvm.Free Jvm.Stand Jvm.LawKit Jvm.RoadKit Jvm.GoKit Bundle Jvm.Pilot.@@N@@.Jvm.D
def own_byte (w : Int64) (i : Int32) : Int32 := ((XT.ushrL w (8 * i)) &&& 255).toInt32
def own_find (w r : Int64) : Int64 := (((w ^^^ r) - 72340172838076673) &&& ((w ^^^ r) ^^^ (-1))) &&& (-9187201950435737472)
def own_pw : Nat → Nat
  | 0 => 1
  | k + 1 => 256 * own_pw k
def own_ones : Nat → Nat
  | 0 => 0
  | k + 1 => 1 + 256 * own_ones k
theorem own_and (x y : Nat) : (x &&& y) % 256 = (x % 256) &&& (y % 256) ∧ (x &&& y) / 256 = (x / 256) &&& (y / 256) :=
  ⟨Nat.and_mod_two_pow (n := 8), Nat.and_div_two_pow (n := 8)⟩
theorem own_bit : ∀ z : Fin 256, z.val ≠ 0 → (((z.val - 1) &&& (255 - z.val)) &&& 128) = 0 := by decide +kernel
theorem own_pw_pos (k : Nat) : 0 < own_pw k := by
  induction k with
  | zero => decide
  | succ k ih => show 0 < 256 * own_pw k; omega
theorem own_ones_lt (k : Nat) : own_ones k < own_pw k := by
  induction k with
  | zero => decide
  | succ k ih => show 1 + 256 * own_ones k < 256 * own_pw k; omega
/-- the low byte of the three words and what lies above, where the low byte isn't 0 -/
theorem own_peel {k z D : Nat} (hz : z < 256 * own_pw k) (hD : D + (1 + 256 * own_ones k) = z ∨ D + (1 + 256 * own_ones k) = z + 256 * own_pw k) (hl : D < 256 * own_pw k) (h0 : z % 256 ≠ 0) :
    (((D &&& (256 * own_pw k - 1 - z)) &&& (128 * (1 + 256 * own_ones k))) % 256 = 0) ∧
    (((D &&& (256 * own_pw k - 1 - z)) &&& (128 * (1 + 256 * own_ones k))) / 256 = ((D / 256 &&& (own_pw k - 1 - z / 256)) &&& (128 * own_ones k))) ∧
    (D / 256 + own_ones k = z / 256 ∨ D / 256 + own_ones k = z / 256 + own_pw k) ∧ D / 256 < own_pw k ∧ z / 256 < own_pw k := by
  have e1 : D % 256 = z % 256 - 1 := by omega
  have e2 : (256 * own_pw k - 1 - z) % 256 = 255 - z % 256 := by omega
  have e3 : (256 * own_pw k - 1 - z) / 256 = own_pw k - 1 - z / 256 := by omega
  have e4 : (128 * (1 + 256 * own_ones k)) % 256 = 128 := by omega
  have e5 : (128 * (1 + 256 * own_ones k)) / 256 = 128 * own_ones k := by omega
  refine ⟨?_, ?_, by omega, by omega, by omega⟩
  · rw [(own_and _ _).1, (own_and _ _).1, e1, e2, e4]
    exact own_bit ⟨z % 256, Nat.mod_lt _ (by decide)⟩ h0
  · rw [(own_and _ _).2, (own_and _ _).2, e3, e5]
theorem own_div (z j : Nat) : z / own_pw (j + 1) = z / 256 / own_pw j := by rw [Nat.div_div_eq_div_mul]; rfl
theorem own_natHit : ∀ (i k z D : Nat), i < k → z < own_pw k → (D + own_ones k = z ∨ D + own_ones k = z + own_pw k) → D < own_pw k → (∀ j, j < i → z / own_pw j % 256 ≠ 0) → z / own_pw i % 256 = 0 →
    ((D &&& (own_pw k - 1 - z)) &&& (128 * own_ones k)) % own_pw (i + 1) = 128 * own_pw i
  | 0, k + 1, z, D, _, hz, hD, hl, _, h0 => by
    have h0' : z % 256 = 0 := by have : z / own_pw 0 = z := Nat.div_one z; rw [this] at h0; exact h0
    simp only [own_pw, own_ones] at hz hD hl ⊢
    have e1 : D % 256 = 255 := by omega
    have e2 : (256 * own_pw k - 1 - z) % 256 = 255 := by omega
    have e4 : (128 * (1 + 256 * own_ones k)) % 256 = 128 := by omega
    rw [Nat.mul_one, (own_and _ _).1, (own_and _ _).1, e1, e2, e4]; decide
  | i + 1, k + 1, z, D, hik, hz, hD, hl, hne, h0 => by
    have h1 : z % 256 ≠ 0 := by have := hne 0 (by omega); rwa [show z / own_pw 0 = z from Nat.div_one z] at this
    have P := own_peel (k := k) hz hD hl h1
    have ih := own_natHit i k (z / 256) (D / 256) (by omega) P.2.2.2.2 P.2.2.1 P.2.2.2.1 (fun j hj => by have := hne (j + 1) (by omega); rwa [own_div] at this) (by rwa [own_div] at h0)
    show ((D &&& (256 * own_pw k - 1 - z)) &&& (128 * (1 + 256 * own_ones k))) % (256 * own_pw (i + 1)) = 128 * (256 * own_pw i)
    rw [Nat.mod_mul, P.1, P.2.1, ih]; omega
theorem own_natNone : ∀ (k z D : Nat), z < own_pw k → (D + own_ones k = z ∨ D + own_ones k = z + own_pw k) → D < own_pw k → (∀ j, j < k → z / own_pw j % 256 ≠ 0) →
    ((D &&& (own_pw k - 1 - z)) &&& (128 * own_ones k)) = 0
  | 0, z, D, _, _, _, _ => by show _ &&& 0 = 0; exact Nat.and_zero _
  | k + 1, z, D, hz, hD, hl, hne => by
    have h1 : z % 256 ≠ 0 := by have := hne 0 (by omega); rwa [show z / own_pw 0 = z from Nat.div_one z] at this
    have P := own_peel (k := k) hz hD hl h1
    have ih := own_natNone k (z / 256) (D / 256) P.2.2.2.2 P.2.2.1 P.2.2.2.1 (fun j hj => by have := hne (j + 1) (by omega); rwa [own_div] at this)
    have e := Nat.div_add_mod ((D &&& (own_pw (k + 1) - 1 - z)) &&& (128 * own_ones (k + 1))) 256
    have p1 : ((D &&& (own_pw (k + 1) - 1 - z)) &&& (128 * own_ones (k + 1))) % 256 = 0 := P.1
    have p2 : ((D &&& (own_pw (k + 1) - 1 - z)) &&& (128 * own_ones (k + 1))) / 256 = _ := P.2.1
    rw [p1, p2, ih] at e; exact e.symm
theorem own_pow (j : Nat) : own_pw j = 2 ^ (8 * j) := by
  induction j with
  | zero => rfl
  | succ j ih => show 256 * own_pw j = _; rw [ih, show 8 * (j + 1) = 8 * j + 8 by omega, Nat.pow_add]; omega
abbrev own_n (w : Int64) : Nat := w.toBitVec.toNat
theorem own_lo (w : Int64) : w &&& 255 = Int64.ofNat (own_n w % 256) := by
  apply Int64.toBitVec_inj.mp
  apply BitVec.eq_of_toNat_eq
  show (w.toBitVec &&& (255 : Int64).toBitVec).toNat = (BitVec.ofNat 64 (own_n w % 256)).toNat
  rw [BitVec.toNat_and, BitVec.toNat_ofNat, show (255 : Int64).toBitVec.toNat = 2 ^ 8 - 1 from rfl, Nat.and_two_pow_sub_one_eq_mod]
  change own_n w % 256 = own_n w % 256 % 18446744073709551616
  omega
theorem own_ushr (w : Int64) (q : Int32) (k : Nat) (hk : (q.toInt64.toUInt64 &&& Int64.toUInt64 63).toNat % 64 = k) : own_n (XT.ushrL w q) = own_n w / 2 ^ k := by
  show (w.toUInt64 >>> (q.toInt64.toUInt64 &&& Int64.toUInt64 63)).toNat = _
  rw [UInt64.toNat_shiftRight, hk, Nat.shiftRight_eq_div_pow]; rfl
theorem own_f1 : ∀ k : Fin 256, (Int64.ofNat k.val).toInt32.toInt = (k.val : Int) := by decide +kernel
theorem own_f8 : ∀ j : Fin 8, ((8 * Int32.ofNat j.val).toInt64.toUInt64 &&& Int64.toUInt64 63).toNat % 64 = 8 * j.val := by decide +kernel
/-- the word's byte j, as the naturals have it -/
theorem own_byteN (w : Int64) (j : Nat) (hj : j < 8) : (own_byte w (Int32.ofNat j)).toInt = ((own_n w / own_pw j % 256 : Nat) : Int) := by
  unfold own_byte
  rw [own_lo, own_ushr w _ (8 * j) (own_f8 ⟨j, hj⟩), own_pow]
  exact own_f1 ⟨own_n w / 2 ^ (8 * j) % 256, Nat.mod_lt _ (by decide)⟩
theorem own_mask (b : Int32) : ∃ v, b &&& 255 = v ∧ 0 ≤ v.toInt ∧ v.toInt < 256 := by
  have a := c_mask b 255 8 (by decide) (by decide)
  exact ⟨_, rfl, by omega, by omega⟩
theorem own_lt0 {w : Int64} {b : Int32} {j : Nat} (hj : j < 0) : ¬ own_byte w (Int32.ofNat j) = b := absurd hj (Nat.not_lt_zero _)
theorem own_lt1 {w : Int64} {b : Int32} {j : Nat} (hj : j < 1) (q0 : ¬ own_byte w 0 = b) : ¬ own_byte w (Int32.ofNat j) = b := by
  have hj' : j = 0 := by omega
  rcases hj' with rfl
  · exact q0
theorem own_lt2 {w : Int64} {b : Int32} {j : Nat} (hj : j < 2) (q0 : ¬ own_byte w 0 = b) (q1 : ¬ own_byte w 1 = b) : ¬ own_byte w (Int32.ofNat j) = b := by
  have hj' : j = 0 ∨ j = 1 := by omega
  rcases hj' with rfl | rfl
  · exact q0
  · exact q1
theorem own_lt3 {w : Int64} {b : Int32} {j : Nat} (hj : j < 3) (q0 : ¬ own_byte w 0 = b) (q1 : ¬ own_byte w 1 = b) (q2 : ¬ own_byte w 2 = b) : ¬ own_byte w (Int32.ofNat j) = b := by
  have hj' : j = 0 ∨ j = 1 ∨ j = 2 := by omega
  rcases hj' with rfl | rfl | rfl
  · exact q0
  · exact q1
  · exact q2
theorem own_lt4 {w : Int64} {b : Int32} {j : Nat} (hj : j < 4) (q0 : ¬ own_byte w 0 = b) (q1 : ¬ own_byte w 1 = b) (q2 : ¬ own_byte w 2 = b) (q3 : ¬ own_byte w 3 = b) : ¬ own_byte w (Int32.ofNat j) = b := by
  have hj' : j = 0 ∨ j = 1 ∨ j = 2 ∨ j = 3 := by omega
  rcases hj' with rfl | rfl | rfl | rfl
  · exact q0
  · exact q1
  · exact q2
  · exact q3
theorem own_lt5 {w : Int64} {b : Int32} {j : Nat} (hj : j < 5) (q0 : ¬ own_byte w 0 = b) (q1 : ¬ own_byte w 1 = b) (q2 : ¬ own_byte w 2 = b) (q3 : ¬ own_byte w 3 = b) (q4 : ¬ own_byte w 4 = b) : ¬ own_byte w (Int32.ofNat j) = b := by
  have hj' : j = 0 ∨ j = 1 ∨ j = 2 ∨ j = 3 ∨ j = 4 := by omega
  rcases hj' with rfl | rfl | rfl | rfl | rfl
  · exact q0
  · exact q1
  · exact q2
  · exact q3
  · exact q4
theorem own_lt6 {w : Int64} {b : Int32} {j : Nat} (hj : j < 6) (q0 : ¬ own_byte w 0 = b) (q1 : ¬ own_byte w 1 = b) (q2 : ¬ own_byte w 2 = b) (q3 : ¬ own_byte w 3 = b) (q4 : ¬ own_byte w 4 = b) (q5 : ¬ own_byte w 5 = b) : ¬ own_byte w (Int32.ofNat j) = b := by
  have hj' : j = 0 ∨ j = 1 ∨ j = 2 ∨ j = 3 ∨ j = 4 ∨ j = 5 := by omega
  rcases hj' with rfl | rfl | rfl | rfl | rfl | rfl
  · exact q0
  · exact q1
  · exact q2
  · exact q3
  · exact q4
  · exact q5
theorem own_lt7 {w : Int64} {b : Int32} {j : Nat} (hj : j < 7) (q0 : ¬ own_byte w 0 = b) (q1 : ¬ own_byte w 1 = b) (q2 : ¬ own_byte w 2 = b) (q3 : ¬ own_byte w 3 = b) (q4 : ¬ own_byte w 4 = b) (q5 : ¬ own_byte w 5 = b) (q6 : ¬ own_byte w 6 = b) : ¬ own_byte w (Int32.ofNat j) = b := by
  have hj' : j = 0 ∨ j = 1 ∨ j = 2 ∨ j = 3 ∨ j = 4 ∨ j = 5 ∨ j = 6 := by omega
  rcases hj' with rfl | rfl | rfl | rfl | rfl | rfl | rfl
  · exact q0
  · exact q1
  · exact q2
  · exact q3
  · exact q4
  · exact q5
  · exact q6
theorem own_lt8 {w : Int64} {b : Int32} {j : Nat} (hj : j < 8) (q0 : ¬ own_byte w 0 = b) (q1 : ¬ own_byte w 1 = b) (q2 : ¬ own_byte w 2 = b) (q3 : ¬ own_byte w 3 = b) (q4 : ¬ own_byte w 4 = b) (q5 : ¬ own_byte w 5 = b) (q6 : ¬ own_byte w 6 = b) (q7 : ¬ own_byte w 7 = b) : ¬ own_byte w (Int32.ofNat j) = b := by
  have hj' : j = 0 ∨ j = 1 ∨ j = 2 ∨ j = 3 ∨ j = 4 ∨ j = 5 ∨ j = 6 ∨ j = 7 := by omega
  rcases hj' with rfl | rfl | rfl | rfl | rfl | rfl | rfl | rfl
  · exact q0
  · exact q1
  · exact q2
  · exact q3
  · exact q4
  · exact q5
  · exact q6
  · exact q7
theorem own_r0 {w rep r : Int64} (hr : own_find w rep = r) : r &&& 9187201950435737471 = 0 := by
  rw [← hr]; unfold own_find
  rw [Int64.and_assoc, show (-9187201950435737472 : Int64) &&& 9187201950435737471 = 0 from by decide, Int64.and_zero]
theorem own_xor0 {x y : Nat} : x ^^^ y = 0 ↔ x = y := by
  constructor
  · intro h
    have : (x ^^^ y) ^^^ y = y := by rw [h, Nat.zero_xor]
    rwa [Nat.xor_assoc, Nat.xor_self, Nat.xor_zero] at this
  · rintro rfl; exact Nat.xor_self x
theorem own_rep {bb : Int32} (b1 : 0 ≤ bb.toInt) (b2 : bb.toInt < 256) : own_n (72340172838076673 * bb.toInt64) = 72340172838076673 * bb.toInt.toNat := by
  have e : own_n bb.toInt64 = bb.toInt.toNat := by
    have q := c_i2l bb
    have q2 : bb.toInt64.toInt = if 2 * own_n bb.toInt64 < 2 ^ 64 then (own_n bb.toInt64 : Int) else (own_n bb.toInt64 : Int) - 2 ^ 64 := BitVec.toInt_eq_toNat_cond _
    have lt : own_n bb.toInt64 < 2 ^ 64 := bb.toInt64.toBitVec.isLt
    split at q2 <;> omega
  show ((72340172838076673 : Int64).toBitVec * bb.toInt64.toBitVec).toNat = _
  rw [BitVec.toNat_mul, show (72340172838076673 : Int64).toBitVec.toNat = 72340172838076673 from rfl, show bb.toInt64.toBitVec.toNat = bb.toInt.toNat from e]
  have : bb.toInt.toNat < 256 := by omega
  omega
theorem own_repD : ∀ j : Fin 8, ∀ b : Fin 256, 72340172838076673 * b.val / own_pw j.val % 256 = b.val := by decide +kernel
theorem own_repB {b j : Nat} (hb : b < 256) (hj : j < 8) : 72340172838076673 * b / own_pw j % 256 = b := own_repD ⟨j, hj⟩ ⟨b, hb⟩
theorem own_z {w : Int64} {bb : Int32} (b1 : 0 ≤ bb.toInt) (b2 : bb.toInt < 256) {j : Nat} (hj : j < 8) : own_n (w ^^^ (72340172838076673 * bb.toInt64)) / own_pw j % 256 = 0 ↔ own_byte w (Int32.ofNat j) = bb := by
  have e : own_n (w ^^^ (72340172838076673 * bb.toInt64)) = own_n w ^^^ (72340172838076673 * bb.toInt.toNat) := by
    rw [← own_rep b1 b2]; exact BitVec.toNat_xor ..
  rw [e, own_pow]
  have x1 := Nat.xor_div_two_pow (a := own_n w) (b := 72340172838076673 * bb.toInt.toNat) (n := 8 * j)
  have x2 := Nat.xor_mod_two_pow (a := own_n w / 2 ^ (8 * j)) (b := 72340172838076673 * bb.toInt.toNat / 2 ^ (8 * j)) (n := 8)
  rw [show (2 : Nat) ^ 8 = 256 from rfl] at x2
  rw [x1, x2, own_xor0, ← own_pow, own_repB (by omega) hj, ← Int32.toInt_inj, own_byteN w j hj]
  omega
theorem own_parts (z : Int64) : own_n (((z - 72340172838076673) &&& (z ^^^ (-1))) &&& (-9187201950435737472)) = ((own_n (z - 72340172838076673) &&& (own_pw 8 - 1 - own_n z)) &&& (128 * own_ones 8)) ∧
    (own_n (z - 72340172838076673) + own_ones 8 = own_n z ∨ own_n (z - 72340172838076673) + own_ones 8 = own_n z + own_pw 8) ∧ own_n (z - 72340172838076673) < own_pw 8 ∧ own_n z < own_pw 8 := by
  have p8 : own_pw 8 = 18446744073709551616 := by decide
  have o8 : own_ones 8 = 72340172838076673 := by decide
  have l1 : own_n (z - 72340172838076673) < 2 ^ 64 := (z - 72340172838076673).toBitVec.isLt
  have l2 : own_n z < 2 ^ 64 := z.toBitVec.isLt
  have s : own_n (z - 72340172838076673) = (2 ^ 64 - 72340172838076673 + own_n z) % 2 ^ 64 := by
    show (z.toBitVec - (72340172838076673 : Int64).toBitVec).toNat = _
    rw [BitVec.toNat_sub]; rfl
  refine ⟨?_, by rw [p8, o8]; omega, by omega, by omega⟩
  show ((((z - 72340172838076673).toBitVec &&& (z.toBitVec ^^^ (-1 : Int64).toBitVec)) &&& (-9187201950435737472 : Int64).toBitVec)).toNat = _
  rw [BitVec.toNat_and, BitVec.toNat_and, show (-1 : Int64).toBitVec = BitVec.allOnes 64 from by decide, BitVec.xor_allOnes, BitVec.toNat_not, show (-9187201950435737472 : Int64).toBitVec.toNat = 128 * own_ones 8 from by rw [o8]; rfl, p8]
theorem own_none {w r : Int64} {bb : Int32} (b1 : 0 ≤ bb.toInt) (b2 : bb.toInt < 256) (hr : own_find w (72340172838076673 * bb.toInt64) = r) (hne : ∀ j, j < 8 → ¬ own_byte w (Int32.ofNat j) = bb) : r = 0 := by
  have P := own_parts (w ^^^ (72340172838076673 * bb.toInt64))
  have N := own_natNone 8 _ _ P.2.2.2 P.2.1 P.2.2.1 (fun j hj q => hne j hj ((own_z b1 b2 hj).mp q))
  rw [← hr]
  apply Int64.toBitVec_inj.mp
  apply BitVec.eq_of_toNat_eq
  show own_n (own_find w (72340172838076673 * bb.toInt64)) = 0
  unfold own_find; rw [P.1]; exact N
theorem own_hit {w r low t : Int64} {bb : Int32} {i : Nat} (b1 : 0 ≤ bb.toInt) (b2 : bb.toInt < 256) (hr : own_find w (72340172838076673 * bb.toInt64) = r) (hi : i < 8) (hne : ∀ j, j < i → ¬ own_byte w (Int32.ofNat j) = bb) (heq : own_byte w (Int32.ofNat i) = bb) (hlow : low.toBitVec.toNat = own_pw (i + 1) - 1) (ht : t.toBitVec.toNat = 128 * own_pw i) : r &&& low = t := by
  have P := own_parts (w ^^^ (72340172838076673 * bb.toInt64))
  have N := own_natHit i 8 _ _ hi P.2.2.2 P.2.1 P.2.2.1 (fun j hj q => hne j hj ((own_z b1 b2 (by omega)).mp q)) ((own_z b1 b2 hi).mpr heq)
  rw [← hr]
  apply Int64.toBitVec_inj.mp
  apply BitVec.eq_of_toNat_eq
  show ((own_find w (72340172838076673 * bb.toInt64)).toBitVec &&& low.toBitVec).toNat = t.toBitVec.toNat
  rw [BitVec.toNat_and, hlow, ht, own_pow (i + 1), Nat.and_two_pow_sub_one_eq_mod, ← own_pow (i + 1)]
  have e : (own_find w (72340172838076673 * bb.toInt64)).toBitVec.toNat = _ := P.1
  rw [e]; exact N
theorem d1_0 : decode method_3_code 0 = .ok (.bipush 8, 2) := by decide +kernel
theorem d1_2 : decode method_3_code 2 = .ok (.iload_n 3, 1) := by decide +kernel
theorem d1_3 : decode method_3_code 3 = .ok (.imul, 1) := by decide +kernel
theorem d1_4 : decode method_3_code 4 = .ok (.istore 4, 2) := by decide +kernel
theorem d1_6 : decode method_3_code 6 = .ok (.lload_n 0, 1) := by decide +kernel
theorem d1_7 : decode method_3_code 7 = .ok (.ldc2_w 7, 3) := by decide +kernel
theorem d1_10 : decode method_3_code 10 = .ok (.iload 4, 2) := by decide +kernel
theorem d1_12 : decode method_3_code 12 = .ok (.lshl, 1) := by decide +kernel
theorem d1_13 : decode method_3_code 13 = .ok (.ldc2_w 9, 3) := by decide +kernel
theorem d1_16 : decode method_3_code 16 = .ok (.lxor, 1) := by decide +kernel
theorem d1_17 : decode method_3_code 17 = .ok (.land, 1) := by decide +kernel
theorem d1_18 : decode method_3_code 18 = .ok (.iload_n 2, 1) := by decide +kernel
theorem d1_19 : decode method_3_code 19 = .ok (.i2l, 1) := by decide +kernel
theorem d1_20 : decode method_3_code 20 = .ok (.iload 4, 2) := by decide +kernel
theorem d1_22 : decode method_3_code 22 = .ok (.lshl, 1) := by decide +kernel
theorem d1_23 : decode method_3_code 23 = .ok (.lor, 1) := by decide +kernel
theorem d1_24 : decode method_3_code 24 = .ok (.lreturn, 1) := by decide +kernel
theorem d2_0 : decode prog_58_method_6_code 0 = .ok (.lload_n 0, 1) := by decide +kernel
theorem d2_1 : decode prog_58_method_6_code 1 = .ok (.lload_n 2, 1) := by decide +kernel
theorem d2_2 : decode prog_58_method_6_code 2 = .ok (.lxor, 1) := by decide +kernel
theorem d2_3 : decode prog_58_method_6_code 3 = .ok (.lstore 4, 2) := by decide +kernel
theorem d2_5 : decode prog_58_method_6_code 5 = .ok (.lload 4, 2) := by decide +kernel
theorem d2_7 : decode prog_58_method_6_code 7 = .ok (.ldc2_w 29, 3) := by decide +kernel
theorem d2_10 : decode prog_58_method_6_code 10 = .ok (.lsub, 1) := by decide +kernel
theorem d2_11 : decode prog_58_method_6_code 11 = .ok (.lload 4, 2) := by decide +kernel
theorem d2_13 : decode prog_58_method_6_code 13 = .ok (.ldc2_w 31, 3) := by decide +kernel
theorem d2_16 : decode prog_58_method_6_code 16 = .ok (.lxor, 1) := by decide +kernel
theorem d2_17 : decode prog_58_method_6_code 17 = .ok (.land, 1) := by decide +kernel
theorem d2_18 : decode prog_58_method_6_code 18 = .ok (.ldc2_w 33, 3) := by decide +kernel
theorem d2_21 : decode prog_58_method_6_code 21 = .ok (.land, 1) := by decide +kernel
theorem d2_22 : decode prog_58_method_6_code 22 = .ok (.lreturn, 1) := by decide +kernel
theorem d3_0 : decode method_4_code 0 = .ok (.lload_n 0, 1) := by decide +kernel
theorem d3_1 : decode method_4_code 1 = .ok (.iconst 0, 1) := by decide +kernel
theorem d3_2 : decode method_4_code 2 = .ok (.invokestatic 11, 3) := by decide +kernel
theorem d3_5 : decode method_4_code 5 = .ok (.iload_n 2, 1) := by decide +kernel
theorem d3_6 : decode method_4_code 6 = .ok (.if_icmp .ne 5, 3) := by decide +kernel
theorem d3_9 : decode method_4_code 9 = .ok (.iconst 0, 1) := by decide +kernel
theorem d3_10 : decode method_4_code 10 = .ok (.ireturn, 1) := by decide +kernel
theorem d3_11 : decode method_4_code 11 = .ok (.lload_n 0, 1) := by decide +kernel
theorem d3_12 : decode method_4_code 12 = .ok (.iconst 1, 1) := by decide +kernel
theorem d3_13 : decode method_4_code 13 = .ok (.invokestatic 11, 3) := by decide +kernel
theorem d3_16 : decode method_4_code 16 = .ok (.iload_n 2, 1) := by decide +kernel
theorem d3_17 : decode method_4_code 17 = .ok (.if_icmp .ne 5, 3) := by decide +kernel
theorem d3_20 : decode method_4_code 20 = .ok (.iconst 1, 1) := by decide +kernel
theorem d3_21 : decode method_4_code 21 = .ok (.ireturn, 1) := by decide +kernel
theorem d3_22 : decode method_4_code 22 = .ok (.lload_n 0, 1) := by decide +kernel
theorem d3_23 : decode method_4_code 23 = .ok (.iconst 2, 1) := by decide +kernel
theorem d3_24 : decode method_4_code 24 = .ok (.invokestatic 11, 3) := by decide +kernel
theorem d3_27 : decode method_4_code 27 = .ok (.iload_n 2, 1) := by decide +kernel
theorem d3_28 : decode method_4_code 28 = .ok (.if_icmp .ne 5, 3) := by decide +kernel
theorem d3_31 : decode method_4_code 31 = .ok (.iconst 2, 1) := by decide +kernel
theorem d3_32 : decode method_4_code 32 = .ok (.ireturn, 1) := by decide +kernel
theorem d3_33 : decode method_4_code 33 = .ok (.lload_n 0, 1) := by decide +kernel
theorem d3_34 : decode method_4_code 34 = .ok (.iconst 3, 1) := by decide +kernel
theorem d3_35 : decode method_4_code 35 = .ok (.invokestatic 11, 3) := by decide +kernel
theorem d3_38 : decode method_4_code 38 = .ok (.iload_n 2, 1) := by decide +kernel
theorem d3_39 : decode method_4_code 39 = .ok (.if_icmp .ne 5, 3) := by decide +kernel
theorem d3_42 : decode method_4_code 42 = .ok (.iconst 3, 1) := by decide +kernel
theorem d3_43 : decode method_4_code 43 = .ok (.ireturn, 1) := by decide +kernel
theorem d3_44 : decode method_4_code 44 = .ok (.lload_n 0, 1) := by decide +kernel
theorem d3_45 : decode method_4_code 45 = .ok (.iconst 4, 1) := by decide +kernel
theorem d3_46 : decode method_4_code 46 = .ok (.invokestatic 11, 3) := by decide +kernel
theorem d3_49 : decode method_4_code 49 = .ok (.iload_n 2, 1) := by decide +kernel
theorem d3_50 : decode method_4_code 50 = .ok (.if_icmp .ne 5, 3) := by decide +kernel
theorem d3_53 : decode method_4_code 53 = .ok (.iconst 4, 1) := by decide +kernel
theorem d3_54 : decode method_4_code 54 = .ok (.ireturn, 1) := by decide +kernel
theorem d3_55 : decode method_4_code 55 = .ok (.lload_n 0, 1) := by decide +kernel
theorem d3_56 : decode method_4_code 56 = .ok (.iconst 5, 1) := by decide +kernel
theorem d3_57 : decode method_4_code 57 = .ok (.invokestatic 11, 3) := by decide +kernel
theorem d3_60 : decode method_4_code 60 = .ok (.iload_n 2, 1) := by decide +kernel
theorem d3_61 : decode method_4_code 61 = .ok (.if_icmp .ne 5, 3) := by decide +kernel
theorem d3_64 : decode method_4_code 64 = .ok (.iconst 5, 1) := by decide +kernel
theorem d3_65 : decode method_4_code 65 = .ok (.ireturn, 1) := by decide +kernel
theorem d3_66 : decode method_4_code 66 = .ok (.lload_n 0, 1) := by decide +kernel
theorem d3_67 : decode method_4_code 67 = .ok (.bipush 6, 2) := by decide +kernel
theorem d3_69 : decode method_4_code 69 = .ok (.invokestatic 11, 3) := by decide +kernel
theorem d3_72 : decode method_4_code 72 = .ok (.iload_n 2, 1) := by decide +kernel
theorem d3_73 : decode method_4_code 73 = .ok (.if_icmp .ne 6, 3) := by decide +kernel
theorem d3_76 : decode method_4_code 76 = .ok (.bipush 6, 2) := by decide +kernel
theorem d3_78 : decode method_4_code 78 = .ok (.ireturn, 1) := by decide +kernel
theorem d3_79 : decode method_4_code 79 = .ok (.lload_n 0, 1) := by decide +kernel
theorem d3_80 : decode method_4_code 80 = .ok (.bipush 7, 2) := by decide +kernel
theorem d3_82 : decode method_4_code 82 = .ok (.invokestatic 11, 3) := by decide +kernel
theorem d3_85 : decode method_4_code 85 = .ok (.iload_n 2, 1) := by decide +kernel
theorem d3_86 : decode method_4_code 86 = .ok (.if_icmp .ne 6, 3) := by decide +kernel
theorem d3_89 : decode method_4_code 89 = .ok (.bipush 7, 2) := by decide +kernel
theorem d3_91 : decode method_4_code 91 = .ok (.ireturn, 1) := by decide +kernel
theorem d3_92 : decode method_4_code 92 = .ok (.bipush 8, 2) := by decide +kernel
theorem d3_94 : decode method_4_code 94 = .ok (.ireturn, 1) := by decide +kernel
theorem d4_0 : decode method_2_code 0 = .ok (.lload_n 0, 1) := by decide +kernel
theorem d4_1 : decode method_2_code 1 = .ok (.bipush 8, 2) := by decide +kernel
theorem d4_3 : decode method_2_code 3 = .ok (.iload_n 2, 1) := by decide +kernel
theorem d4_4 : decode method_2_code 4 = .ok (.imul, 1) := by decide +kernel
theorem d4_5 : decode method_2_code 5 = .ok (.lushr, 1) := by decide +kernel
theorem d4_6 : decode method_2_code 6 = .ok (.ldc2_w 7, 3) := by decide +kernel
theorem d4_9 : decode method_2_code 9 = .ok (.land, 1) := by decide +kernel
theorem d4_10 : decode method_2_code 10 = .ok (.l2i, 1) := by decide +kernel
theorem d4_11 : decode method_2_code 11 = .ok (.ireturn, 1) := by decide +kernel
theorem pd_0 : parseMethodDescriptor "(JI)I" = some ⟨[.long, .int], some .int⟩ := by decide +kernel
theorem pd_1 : parseMethodDescriptor "(JII)J" = some ⟨[.long, .int, .int], some .long⟩ := by decide +kernel
theorem pd_2 : parseMethodDescriptor "(JJ)J" = some ⟨[.long, .long], some .long⟩ := by decide +kernel
set_option maxRecDepth 65536 in
set_option maxHeartbeats 4000000 in
theorem c_byte (l : Launch) (Z : State) (a0 : Array Value) (hw : ∀ d ∈ tables_1, d.before a0 Z = true) (wl : List Jvm.Cond) (n0 : Nat) (h : Heap) (w : Int64) (i : Int32) :
    Ctr l Z (⟨"com/example/nanoparse/nanoparse/measure/WordsFindPinLaw", "byteAt", "(JI)I"⟩ : MethodName) method_2_code 3 (some .int) ({ frames := 0, cells := 0, slots := 0, locals := 0 } : Room) n0 #[(.long w), (.int i)] h (fun v h' => v = some (.int (own_byte w i)) ∧ h' = h) wl := by
  refine Ctr.of (ls := #[.val (.long w), .second, .val (.int i)]) (by first | (exact plainFor_of_name (by first | (simp [plainName, overriddenIn]; done) | decide +kernel)) | decide +kernel) hw (fun m => entry_eq m (L1 := [.val (.long w), .second, .val (.int i)]) (k := 0) rfl rfl rfl) (fun G C => ?_)
  refine C.lloadN d4_0 rfl (pc' := 1) rfl ?_
  refine C.bipush d4_1 (v := 8) rfl (pc' := 3) rfl ?_
  refine C.iloadN d4_3 rfl (pc' := 4) rfl ?_
  refine C.imul d4_4 (pc' := 5) rfl ?_
  refine C.lushr d4_5 (pc' := 6) rfl ?_
  refine C.ldcJ (i := 4) rfl d4_6 (pc' := 9) rfl ?_
  refine C.land d4_9 (pc' := 10) rfl ?_
  refine C.l2i d4_10 (pc' := 11) rfl ?_
  exact C.ireturn d4_11 rfl (by decide) (by decide) ⟨rfl, rfl⟩
set_option maxRecDepth 65536 in
set_option maxHeartbeats 4000000 in
theorem c_plant (l : Launch) (Z : State) (a0 : Array Value) (hw : ∀ d ∈ tables_1, d.before a0 Z = true) (wl : List Jvm.Cond) (n0 : Nat) (h : Heap) (w : Int64) (b p : Int32) :
    Ctr l Z (⟨"com/example/nanoparse/nanoparse/measure/WordsFindPinLaw", "plant", "(JII)J"⟩ : MethodName) method_3_code 5 (some .long) ({ frames := 0, cells := 0, slots := 0, locals := 0 } : Room) n0 #[(.long w), (.int b), (.int p)] h (fun v h' => (∃ r, v = some (.long r)) ∧ h' = h) wl := by
  refine Ctr.of (ls := #[.val (.long w), .second, .val (.int b), .val (.int p), .unset]) (by first | (exact plainFor_of_name (by first | (simp [plainName, overriddenIn]; done) | decide +kernel)) | decide +kernel) hw (fun m => entry_eq m (L1 := [.val (.long w), .second, .val (.int b), .val (.int p)]) (k := 1) rfl rfl rfl) (fun G C => ?_)
  refine C.bipush d1_0 (v := 8) rfl (pc' := 2) rfl ?_
  refine C.iloadN d1_2 rfl (pc' := 3) rfl ?_
  refine C.imul d1_3 (pc' := 4) rfl ?_
  refine C.istore d1_4 (ls' := #[.val (.long w), .second, .val (.int b), .val (.int p), .val (.int ((8 : Int32) * p))]) rfl (pc' := 6) rfl ?_
  refine C.lloadN d1_6 rfl (pc' := 7) rfl ?_
  refine C.ldcJ (i := 4) rfl d1_7 (pc' := 10) rfl ?_
  refine C.iload d1_10 rfl (pc' := 12) rfl ?_
  refine C.lshl d1_12 (pc' := 13) rfl ?_
  refine C.ldcJ (i := 5) rfl d1_13 (pc' := 16) rfl ?_
  refine C.lxor d1_16 (pc' := 17) rfl ?_
  refine C.land d1_17 (pc' := 18) rfl ?_
  refine C.iloadN d1_18 rfl (pc' := 19) rfl ?_
  refine C.i2l d1_19 (pc' := 20) rfl ?_
  refine C.iload d1_20 rfl (pc' := 22) rfl ?_
  refine C.lshl d1_22 (pc' := 23) rfl ?_
  refine C.lor d1_23 (pc' := 24) rfl ?_
  exact C.lreturn d1_24 rfl (by decide) (by decide) ⟨⟨_, rfl⟩, rfl⟩
set_option maxRecDepth 65536 in
set_option maxHeartbeats 4000000 in
theorem c_find (l : Launch) (Z : State) (a0 : Array Value) (hw : ∀ d ∈ tables_1, d.before a0 Z = true) (wl : List Jvm.Cond) (n0 : Nat) (h : Heap) (w r : Int64) :
    Ctr l Z (⟨"com/example/nanoparse/nanoparse/measure/Words", "find", "(JJ)J"⟩ : MethodName) prog_58_method_6_code 6 (some .long) ({ frames := 0, cells := 0, slots := 0, locals := 0 } : Room) n0 #[(.long w), (.long r)] h (fun v h' => v = some (.long (own_find w r)) ∧ h' = h) wl := by
  refine Ctr.of (ls := #[.val (.long w), .second, .val (.long r), .second, .unset, .unset]) (by first | (exact plainFor_of_name (by first | (simp [plainName, overriddenIn]; done) | decide +kernel)) | decide +kernel) hw (fun m => entry_eq m (L1 := [.val (.long w), .second, .val (.long r), .second]) (k := 2) rfl rfl rfl) (fun G C => ?_)
  refine C.lloadN d2_0 rfl (pc' := 1) rfl ?_
  refine C.lloadN d2_1 rfl (pc' := 2) rfl ?_
  refine C.lxor d2_2 (pc' := 3) rfl ?_
  refine C.lstore d2_3 (ls' := #[.val (.long w), .second, .val (.long r), .second, .val (.long (w ^^^ r)), .second]) rfl (pc' := 5) rfl ?_
  refine C.lload d2_5 rfl (pc' := 7) rfl ?_
  refine C.ldcJ (i := 11) rfl d2_7 (pc' := 10) rfl ?_
  refine C.lsub d2_10 (pc' := 11) rfl ?_
  refine C.lload d2_11 rfl (pc' := 13) rfl ?_
  refine C.ldcJ (i := 12) rfl d2_13 (pc' := 16) rfl ?_
  refine C.lxor d2_16 (pc' := 17) rfl ?_
  refine C.land d2_17 (pc' := 18) rfl ?_
  refine C.ldcJ (i := 13) rfl d2_18 (pc' := 21) rfl ?_
  refine C.land d2_21 (pc' := 22) rfl ?_
  exact C.lreturn d2_22 rfl (by decide) (by decide) ⟨rfl, rfl⟩
set_option maxRecDepth 65536 in
set_option maxHeartbeats 4000000 in
theorem c_first (l : Launch) (Z : State) (a0 : Array Value) (hw : ∀ d ∈ tables_1, d.before a0 Z = true) (wl : List Jvm.Cond) (n0 : Nat) (h : Heap) (w : Int64) (b : Int32) :
    Ctr l Z (⟨"com/example/nanoparse/nanoparse/measure/WordsFindPinLaw", "first", "(JI)I"⟩ : MethodName) method_4_code 3 (some .int) ({ frames := 1, cells := 0, slots := 0, locals := 14 } : Room) n0 #[(.long w), (.int b)] h (fun v h' => ∃ i : Fin 9, v = some (.int (Int32.ofNat i.val)) ∧ h' = h ∧ (∀ j : Nat, j < i.val → ¬ own_byte w (Int32.ofNat j) = b) ∧ (i.val < 8 → own_byte w (Int32.ofNat i.val) = b)) wl := by
  refine Ctr.of (ls := #[.val (.long w), .second, .val (.int b)]) (by first | (exact plainFor_of_name (by first | (simp [plainName, overriddenIn]; done) | decide +kernel)) | decide +kernel) hw (fun m => entry_eq m (L1 := [.val (.long w), .second, .val (.int b)]) (k := 0) rfl rfl rfl) (fun G C => ?_)
  refine C.lloadN d3_0 rfl (pc' := 1) rfl ?_
  refine C.iconst d3_1 (v := 0) rfl (pc' := 2) rfl ?_
  refine C.callSP (c_byte l Z a0 hw [] n0 h w (0 : Int32)) (i1 := 18) (i2 := 19) (i3 := 2) (i4 := 20) rfl rfl rfl rfl (by decide) pd_0 rfl (argsL := [(.long w), (.int (0 : Int32))]) rfl (rest := []) rfl rfl (W := 0) rfl (by decide) (by decide) (by decide) (by decide) d3_2 (pc' := 5) rfl (k' := 0) rfl (n' := 0) rfl ?_
  refine C.iloadN d3_5 rfl (pc' := 6) rfl ?_
  refine C.icmp_ne d3_6 (by decide) (pc1 := 11) rfl (pc2 := 9) rfl (fun q0 => ?_) (fun q0 => ?_)
  · refine C.lloadN d3_11 rfl (pc' := 12) rfl ?_
    refine C.iconst d3_12 (v := 1) rfl (pc' := 13) rfl ?_
    refine C.callSP (c_byte l Z a0 hw [] n0 h w (1 : Int32)) (i1 := 18) (i2 := 19) (i3 := 2) (i4 := 20) rfl rfl rfl rfl (by decide) pd_0 rfl (argsL := [(.long w), (.int (1 : Int32))]) rfl (rest := []) rfl rfl (W := 0) rfl (by decide) (by decide) (by decide) (by decide) d3_13 (pc' := 16) rfl (k' := 0) rfl (n' := 0) rfl ?_
    refine C.iloadN d3_16 rfl (pc' := 17) rfl ?_
    refine C.icmp_ne d3_17 (by decide) (pc1 := 22) rfl (pc2 := 20) rfl (fun q1 => ?_) (fun q1 => ?_)
    · refine C.lloadN d3_22 rfl (pc' := 23) rfl ?_
      refine C.iconst d3_23 (v := 2) rfl (pc' := 24) rfl ?_
      refine C.callSP (c_byte l Z a0 hw [] n0 h w (2 : Int32)) (i1 := 18) (i2 := 19) (i3 := 2) (i4 := 20) rfl rfl rfl rfl (by decide) pd_0 rfl (argsL := [(.long w), (.int (2 : Int32))]) rfl (rest := []) rfl rfl (W := 0) rfl (by decide) (by decide) (by decide) (by decide) d3_24 (pc' := 27) rfl (k' := 0) rfl (n' := 0) rfl ?_
      refine C.iloadN d3_27 rfl (pc' := 28) rfl ?_
      refine C.icmp_ne d3_28 (by decide) (pc1 := 33) rfl (pc2 := 31) rfl (fun q2 => ?_) (fun q2 => ?_)
      · refine C.lloadN d3_33 rfl (pc' := 34) rfl ?_
        refine C.iconst d3_34 (v := 3) rfl (pc' := 35) rfl ?_
        refine C.callSP (c_byte l Z a0 hw [] n0 h w (3 : Int32)) (i1 := 18) (i2 := 19) (i3 := 2) (i4 := 20) rfl rfl rfl rfl (by decide) pd_0 rfl (argsL := [(.long w), (.int (3 : Int32))]) rfl (rest := []) rfl rfl (W := 0) rfl (by decide) (by decide) (by decide) (by decide) d3_35 (pc' := 38) rfl (k' := 0) rfl (n' := 0) rfl ?_
        refine C.iloadN d3_38 rfl (pc' := 39) rfl ?_
        refine C.icmp_ne d3_39 (by decide) (pc1 := 44) rfl (pc2 := 42) rfl (fun q3 => ?_) (fun q3 => ?_)
        · refine C.lloadN d3_44 rfl (pc' := 45) rfl ?_
          refine C.iconst d3_45 (v := 4) rfl (pc' := 46) rfl ?_
          refine C.callSP (c_byte l Z a0 hw [] n0 h w (4 : Int32)) (i1 := 18) (i2 := 19) (i3 := 2) (i4 := 20) rfl rfl rfl rfl (by decide) pd_0 rfl (argsL := [(.long w), (.int (4 : Int32))]) rfl (rest := []) rfl rfl (W := 0) rfl (by decide) (by decide) (by decide) (by decide) d3_46 (pc' := 49) rfl (k' := 0) rfl (n' := 0) rfl ?_
          refine C.iloadN d3_49 rfl (pc' := 50) rfl ?_
          refine C.icmp_ne d3_50 (by decide) (pc1 := 55) rfl (pc2 := 53) rfl (fun q4 => ?_) (fun q4 => ?_)
          · refine C.lloadN d3_55 rfl (pc' := 56) rfl ?_
            refine C.iconst d3_56 (v := 5) rfl (pc' := 57) rfl ?_
            refine C.callSP (c_byte l Z a0 hw [] n0 h w (5 : Int32)) (i1 := 18) (i2 := 19) (i3 := 2) (i4 := 20) rfl rfl rfl rfl (by decide) pd_0 rfl (argsL := [(.long w), (.int (5 : Int32))]) rfl (rest := []) rfl rfl (W := 0) rfl (by decide) (by decide) (by decide) (by decide) d3_57 (pc' := 60) rfl (k' := 0) rfl (n' := 0) rfl ?_
            refine C.iloadN d3_60 rfl (pc' := 61) rfl ?_
            refine C.icmp_ne d3_61 (by decide) (pc1 := 66) rfl (pc2 := 64) rfl (fun q5 => ?_) (fun q5 => ?_)
            · refine C.lloadN d3_66 rfl (pc' := 67) rfl ?_
              refine C.bipush d3_67 (v := 6) rfl (pc' := 69) rfl ?_
              refine C.callSP (c_byte l Z a0 hw [] n0 h w (6 : Int32)) (i1 := 18) (i2 := 19) (i3 := 2) (i4 := 20) rfl rfl rfl rfl (by decide) pd_0 rfl (argsL := [(.long w), (.int (6 : Int32))]) rfl (rest := []) rfl rfl (W := 0) rfl (by decide) (by decide) (by decide) (by decide) d3_69 (pc' := 72) rfl (k' := 0) rfl (n' := 0) rfl ?_
              refine C.iloadN d3_72 rfl (pc' := 73) rfl ?_
              refine C.icmp_ne d3_73 (by decide) (pc1 := 79) rfl (pc2 := 76) rfl (fun q6 => ?_) (fun q6 => ?_)
              · refine C.lloadN d3_79 rfl (pc' := 80) rfl ?_
                refine C.bipush d3_80 (v := 7) rfl (pc' := 82) rfl ?_
                refine C.callSP (c_byte l Z a0 hw [] n0 h w (7 : Int32)) (i1 := 18) (i2 := 19) (i3 := 2) (i4 := 20) rfl rfl rfl rfl (by decide) pd_0 rfl (argsL := [(.long w), (.int (7 : Int32))]) rfl (rest := []) rfl rfl (W := 0) rfl (by decide) (by decide) (by decide) (by decide) d3_82 (pc' := 85) rfl (k' := 0) rfl (n' := 0) rfl ?_
                refine C.iloadN d3_85 rfl (pc' := 86) rfl ?_
                refine C.icmp_ne d3_86 (by decide) (pc1 := 92) rfl (pc2 := 89) rfl (fun q7 => ?_) (fun q7 => ?_)
                · refine C.bipush d3_92 (v := 8) rfl (pc' := 94) rfl ?_
                  exact C.ireturn d3_94 rfl (by decide) (by decide) ⟨⟨8, by decide⟩, rfl, rfl, fun j hj => own_lt8 hj q0 q1 q2 q3 q4 q5 q6 q7, fun q => absurd q (by decide)⟩
                · refine C.bipush d3_89 (v := 7) rfl (pc' := 91) rfl ?_
                  refine C.ireturn d3_91 rfl (by decide) (by decide) ⟨⟨7, by decide⟩, rfl, rfl, fun j hj => ?_, fun _ => ?_⟩
                  · exact own_lt7 hj q0 q1 q2 q3 q4 q5 q6
                  · exact q7
              · refine C.bipush d3_76 (v := 6) rfl (pc' := 78) rfl ?_
                refine C.ireturn d3_78 rfl (by decide) (by decide) ⟨⟨6, by decide⟩, rfl, rfl, fun j hj => ?_, fun _ => ?_⟩
                · exact own_lt6 hj q0 q1 q2 q3 q4 q5
                · exact q6
            · refine C.iconst d3_64 (v := 5) rfl (pc' := 65) rfl ?_
              refine C.ireturn d3_65 rfl (by decide) (by decide) ⟨⟨5, by decide⟩, rfl, rfl, fun j hj => ?_, fun _ => ?_⟩
              · exact own_lt5 hj q0 q1 q2 q3 q4
              · exact q5
          · refine C.iconst d3_53 (v := 4) rfl (pc' := 54) rfl ?_
            refine C.ireturn d3_54 rfl (by decide) (by decide) ⟨⟨4, by decide⟩, rfl, rfl, fun j hj => ?_, fun _ => ?_⟩
            · exact own_lt4 hj q0 q1 q2 q3
            · exact q4
        · refine C.iconst d3_42 (v := 3) rfl (pc' := 43) rfl ?_
          refine C.ireturn d3_43 rfl (by decide) (by decide) ⟨⟨3, by decide⟩, rfl, rfl, fun j hj => ?_, fun _ => ?_⟩
          · exact own_lt3 hj q0 q1 q2
          · exact q3
      · refine C.iconst d3_31 (v := 2) rfl (pc' := 32) rfl ?_
        refine C.ireturn d3_32 rfl (by decide) (by decide) ⟨⟨2, by decide⟩, rfl, rfl, fun j hj => ?_, fun _ => ?_⟩
        · exact own_lt2 hj q0 q1
        · exact q2
    · refine C.iconst d3_20 (v := 1) rfl (pc' := 21) rfl ?_
      refine C.ireturn d3_21 rfl (by decide) (by decide) ⟨⟨1, by decide⟩, rfl, rfl, fun j hj => ?_, fun _ => ?_⟩
      · exact own_lt1 hj q0
      · exact q1
  · refine C.iconst d3_9 (v := 0) rfl (pc' := 10) rfl ?_
    refine C.ireturn d3_10 rfl (by decide) (by decide) ⟨⟨0, by decide⟩, rfl, rfl, fun j hj => ?_, fun _ => ?_⟩
    · exact own_lt0 hj 
    · exact q0
set_option maxRecDepth 65536 in
set_option maxHeartbeats 4000000 in
theorem c_law (l : Launch) (Z : State) (a0 : Array Value) (hw : ∀ d ∈ tables_1, d.before a0 Z = true) (wl : List Jvm.Cond) (n0 : Nat) (h : Heap) (w0 : Int64) (b p1 p2 fl : Int32) (hz : n0 ≤ h.size) :
    Ctr l Z x code maxLocals ret room_1 n0 #[(.long w0), (.int b), (.int p1), (.int p2), (.int fl)] h (fun v _ => v = some (.int 1)) wl := by
  refine Ctr.of (ls := #[.val (.long w0), .second, .val (.int b), .val (.int p1), .val (.int p2), .val (.int fl), .unset, .unset, .unset, .unset, .unset, .unset, .unset, .unset, .unset, .unset, .unset]) (by first | (exact plainFor_of_name (by first | (simp [plainName, overriddenIn]; done) | decide +kernel)) | decide +kernel) hw (fun m => entry_eq m (L1 := [.val (.long w0), .second, .val (.int b), .val (.int p1), .val (.int p2), .val (.int fl)]) (k := 11) rfl rfl rfl) (fun G C => ?_)
  obtain ⟨bb, hbb, bb1, bb2⟩ := own_mask b
  refine C.iloadN at_0 rfl (pc' := 1) rfl ?_
  refine C.sipush at_1 (v := 255) rfl (pc' := 4) rfl ?_
  refine C.iand at_4 (pc' := 5) rfl ?_
  refine castI (show (b &&& (255 : Int32)) = bb from hbb) ?_
  refine C.istore at_5 (ls' := #[.val (.long w0), .second, .val (.int b), .val (.int p1), .val (.int p2), .val (.int fl), .val (.int bb), .unset, .unset, .unset, .unset, .unset, .unset, .unset, .unset, .unset, .unset]) rfl (pc' := 7) rfl ?_
  refine C.lloadN at_7 rfl (pc' := 8) rfl ?_
  refine C.lstore at_8 (ls' := #[.val (.long w0), .second, .val (.int b), .val (.int p1), .val (.int p2), .val (.int fl), .val (.int bb), .val (.long w0), .second, .unset, .unset, .unset, .unset, .unset, .unset, .unset, .unset]) rfl (pc' := 10) rfl ?_
  refine C.iload at_10 rfl (pc' := 12) rfl ?_
  refine C.iconst at_12 (v := 1) rfl (pc' := 13) rfl ?_
  refine C.iand at_13 (pc' := 14) rfl ?_
  suffices t30 : ∀ w30 : Int64, G h 0 0 30 #[.val (.long w0), .second, .val (.int b), .val (.int p1), .val (.int p2), .val (.int fl), .val (.int bb), .val (.long w30), .second, .unset, .unset, .unset, .unset, .unset, .unset, .unset, .unset] [] by
    refine C.if_eq at_14 (by decide) (pc1 := 30) rfl (pc2 := 17) rfl (fun hc => ?_) (fun hc => ?_)
    · exact t30 _
    · refine C.lload at_17 rfl (pc' := 19) rfl ?_
      refine C.iload at_19 rfl (pc' := 21) rfl ?_
      refine C.iloadN at_21 rfl (pc' := 22) rfl ?_
      refine C.bipush at_22 (v := 7) rfl (pc' := 24) rfl ?_
      refine C.iand at_24 (pc' := 25) rfl ?_
      refine C.callS (c_plant l Z a0 hw [] n0 h w0 bb (p1 &&& (7 : Int32))) (i1 := 0) (i2 := 1) (i3 := 2) (i4 := 3) rfl rfl rfl rfl (by decide) pd_1 rfl (argsL := [(.long w0), (.int bb), (.int (p1 &&& (7 : Int32)))]) rfl (rest := []) rfl rfl (W := 0) rfl (by decide) (by decide) (by decide) (by decide) at_25 (pc' := 28) rfl (k' := 0) rfl (n' := 0) rfl ?_
      rintro _ h9 ⟨⟨wn, rfl⟩, hh⟩
      rw [hh]
      show G h 0 0 28 #[.val (.long w0), .second, .val (.int b), .val (.int p1), .val (.int p2), .val (.int fl), .val (.int bb), .val (.long w0), .second, .unset, .unset, .unset, .unset, .unset, .unset, .unset, .unset] [(.long wn)]
      refine C.lstore at_28 (ls' := #[.val (.long w0), .second, .val (.int b), .val (.int p1), .val (.int p2), .val (.int fl), .val (.int bb), .val (.long wn), .second, .unset, .unset, .unset, .unset, .unset, .unset, .unset, .unset]) rfl (pc' := 30) rfl ?_
      exact t30 _
  intro w30
  refine C.iload at_30 rfl (pc' := 32) rfl ?_
  refine C.iconst at_32 (v := 2) rfl (pc' := 33) rfl ?_
  refine C.iand at_33 (pc' := 34) rfl ?_
  suffices t51 : ∀ w51 : Int64, G h 0 0 51 #[.val (.long w0), .second, .val (.int b), .val (.int p1), .val (.int p2), .val (.int fl), .val (.int bb), .val (.long w51), .second, .unset, .unset, .unset, .unset, .unset, .unset, .unset, .unset] [] by
    refine C.if_eq at_34 (by decide) (pc1 := 51) rfl (pc2 := 37) rfl (fun hc => ?_) (fun hc => ?_)
    · exact t51 _
    · refine C.lload at_37 rfl (pc' := 39) rfl ?_
      refine C.iload at_39 rfl (pc' := 41) rfl ?_
      refine C.iload at_41 rfl (pc' := 43) rfl ?_
      refine C.bipush at_43 (v := 7) rfl (pc' := 45) rfl ?_
      refine C.iand at_45 (pc' := 46) rfl ?_
      refine C.callS (c_plant l Z a0 hw [] n0 h w30 bb (p2 &&& (7 : Int32))) (i1 := 0) (i2 := 1) (i3 := 2) (i4 := 3) rfl rfl rfl rfl (by decide) pd_1 rfl (argsL := [(.long w30), (.int bb), (.int (p2 &&& (7 : Int32)))]) rfl (rest := []) rfl rfl (W := 0) rfl (by decide) (by decide) (by decide) (by decide) at_46 (pc' := 49) rfl (k' := 0) rfl (n' := 0) rfl ?_
      rintro _ h9 ⟨⟨wn, rfl⟩, hh⟩
      rw [hh]
      show G h 0 0 49 #[.val (.long w0), .second, .val (.int b), .val (.int p1), .val (.int p2), .val (.int fl), .val (.int bb), .val (.long w30), .second, .unset, .unset, .unset, .unset, .unset, .unset, .unset, .unset] [(.long wn)]
      refine C.lstore at_49 (ls' := #[.val (.long w0), .second, .val (.int b), .val (.int p1), .val (.int p2), .val (.int fl), .val (.int bb), .val (.long wn), .second, .unset, .unset, .unset, .unset, .unset, .unset, .unset, .unset]) rfl (pc' := 51) rfl ?_
      exact t51 _
  intro w51
  refine C.iload at_51 rfl (pc' := 53) rfl ?_
  refine C.iconst at_53 (v := 4) rfl (pc' := 54) rfl ?_
  refine C.iand at_54 (pc' := 55) rfl ?_
  suffices t75 : ∀ w75 : Int64, G h 0 0 75 #[.val (.long w0), .second, .val (.int b), .val (.int p1), .val (.int p2), .val (.int fl), .val (.int bb), .val (.long w75), .second, .unset, .unset, .unset, .unset, .unset, .unset, .unset, .unset] [] by
    refine C.if_eq at_55 (by decide) (pc1 := 75) rfl (pc2 := 58) rfl (fun hc => ?_) (fun hc => ?_)
    · exact t75 _
    · refine C.lload at_58 rfl (pc' := 60) rfl ?_
      refine C.iload at_60 rfl (pc' := 62) rfl ?_
      refine C.iconst at_62 (v := 1) rfl (pc' := 63) rfl ?_
      refine C.ixor at_63 (pc' := 64) rfl ?_
      refine C.iloadN at_64 rfl (pc' := 65) rfl ?_
      refine C.iconst at_65 (v := 1) rfl (pc' := 66) rfl ?_
      refine C.iadd at_66 (pc' := 67) rfl ?_
      refine C.bipush at_67 (v := 7) rfl (pc' := 69) rfl ?_
      refine C.iand at_69 (pc' := 70) rfl ?_
      refine C.callS (c_plant l Z a0 hw [] n0 h w51 (bb ^^^ (1 : Int32)) ((p1 + (1 : Int32)) &&& (7 : Int32))) (i1 := 0) (i2 := 1) (i3 := 2) (i4 := 3) rfl rfl rfl rfl (by decide) pd_1 rfl (argsL := [(.long w51), (.int (bb ^^^ (1 : Int32))), (.int ((p1 + (1 : Int32)) &&& (7 : Int32)))]) rfl (rest := []) rfl rfl (W := 0) rfl (by decide) (by decide) (by decide) (by decide) at_70 (pc' := 73) rfl (k' := 0) rfl (n' := 0) rfl ?_
      rintro _ h9 ⟨⟨wn, rfl⟩, hh⟩
      rw [hh]
      show G h 0 0 73 #[.val (.long w0), .second, .val (.int b), .val (.int p1), .val (.int p2), .val (.int fl), .val (.int bb), .val (.long w51), .second, .unset, .unset, .unset, .unset, .unset, .unset, .unset, .unset] [(.long wn)]
      refine C.lstore at_73 (ls' := #[.val (.long w0), .second, .val (.int b), .val (.int p1), .val (.int p2), .val (.int fl), .val (.int bb), .val (.long wn), .second, .unset, .unset, .unset, .unset, .unset, .unset, .unset, .unset]) rfl (pc' := 75) rfl ?_
      exact t75 _
  intro w75
  refine C.ldcJ (i := 6) rfl at_75 (pc' := 78) rfl ?_
  refine C.iload at_78 rfl (pc' := 80) rfl ?_
  refine C.i2l at_80 (pc' := 81) rfl ?_
  refine C.lmul at_81 (pc' := 82) rfl ?_
  refine C.lstore at_82 (ls' := #[.val (.long w0), .second, .val (.int b), .val (.int p1), .val (.int p2), .val (.int fl), .val (.int bb), .val (.long w75), .second, .val (.long ((72340172838076673 : Int64) * (bb).toInt64)), .second, .unset, .unset, .unset, .unset, .unset, .unset]) rfl (pc' := 84) rfl ?_
  refine C.lload at_84 rfl (pc' := 86) rfl ?_
  refine C.lload at_86 rfl (pc' := 88) rfl ?_
  refine C.callSP (c_find l Z a0 hw [] n0 h w75 ((72340172838076673 : Int64) * (bb).toInt64)) (i1 := 7) (i2 := 8) (i3 := 9) (i4 := 10) rfl rfl rfl rfl (by decide) pd_2 rfl (argsL := [(.long w75), (.long ((72340172838076673 : Int64) * (bb).toInt64))]) rfl (rest := []) rfl rfl (W := 0) rfl (by decide) (by decide) (by decide) (by decide) at_88 (pc' := 91) rfl (k' := 0) rfl (n' := 0) rfl ?_
  obtain ⟨r, hr⟩ : ∃ r, (own_find w75 ((72340172838076673 : Int64) * (bb).toInt64)) = r := ⟨_, rfl⟩
  refine castJ (show (own_find w75 ((72340172838076673 : Int64) * (bb).toInt64)) = r from hr) ?_
  refine C.lstore at_91 (ls' := #[.val (.long w0), .second, .val (.int b), .val (.int p1), .val (.int p2), .val (.int fl), .val (.int bb), .val (.long w75), .second, .val (.long ((72340172838076673 : Int64) * (bb).toInt64)), .second, .val (.long r), .second, .unset, .unset, .unset, .unset]) rfl (pc' := 93) rfl ?_
  refine C.lload at_93 rfl (pc' := 95) rfl ?_
  refine C.ldcJ (i := 14) rfl at_95 (pc' := 98) rfl ?_
  refine C.land at_98 (pc' := 99) rfl ?_
  refine C.lconst at_99 (v := 0) rfl (pc' := 100) rfl ?_
  refine C.lcmp at_100 (pc' := 101) rfl ?_
  refine C.if_eq_T at_101 (cmpL_eq.mpr (own_r0 hr)) (by decide) (pc' := 106) rfl ?_
  refine C.lload at_106 rfl (pc' := 108) rfl ?_
  refine C.iload at_108 rfl (pc' := 110) rfl ?_
  refine C.callS (c_first l Z a0 hw [] n0 h w75 bb) (i1 := 15) (i2 := 16) (i3 := 2) (i4 := 17) rfl rfl rfl rfl (by decide) pd_0 rfl (argsL := [(.long w75), (.int bb)]) rfl (rest := []) rfl rfl (W := 0) rfl (by decide) (by decide) (by decide) (by decide) at_110 (pc' := 113) rfl (k' := 0) rfl (n' := 0) rfl ?_
  rintro _ h9 ⟨⟨i, hi⟩, rfl, hh, hne, heq⟩
  rw [hh]
  have hi' : i = 0 ∨ i = 1 ∨ i = 2 ∨ i = 3 ∨ i = 4 ∨ i = 5 ∨ i = 6 ∨ i = 7 ∨ i = 8 := by omega
  rcases hi' with rfl | rfl | rfl | rfl | rfl | rfl | rfl | rfl | rfl
  · show G h 0 0 113 #[.val (.long w0), .second, .val (.int b), .val (.int p1), .val (.int p2), .val (.int fl), .val (.int bb), .val (.long w75), .second, .val (.long ((72340172838076673 : Int64) * (bb).toInt64)), .second, .val (.long r), .second, .unset, .unset, .unset, .unset] [(.int (0 : Int32))]
    refine C.istore at_113 (ls' := #[.val (.long w0), .second, .val (.int b), .val (.int p1), .val (.int p2), .val (.int fl), .val (.int bb), .val (.long w75), .second, .val (.long ((72340172838076673 : Int64) * (bb).toInt64)), .second, .val (.long r), .second, .val (.int (0 : Int32)), .unset, .unset, .unset]) rfl (pc' := 115) rfl ?_
    refine C.iload at_115 rfl (pc' := 117) rfl ?_
    refine C.bipush at_117 (v := 8) rfl (pc' := 119) rfl ?_
    refine C.icmp_ne_T at_119 (by decide) (by decide) (pc' := 135) rfl ?_
    refine C.bipush at_135 (v := 8) rfl (pc' := 137) rfl ?_
    refine C.iload at_137 rfl (pc' := 139) rfl ?_
    refine C.imul at_139 (pc' := 140) rfl ?_
    refine castI (show ((8 : Int32) * (0 : Int32)) = (0 : Int32) from by decide) ?_
    refine C.istore at_140 (ls' := #[.val (.long w0), .second, .val (.int b), .val (.int p1), .val (.int p2), .val (.int fl), .val (.int bb), .val (.long w75), .second, .val (.long ((72340172838076673 : Int64) * (bb).toInt64)), .second, .val (.long r), .second, .val (.int (0 : Int32)), .val (.int (0 : Int32)), .unset, .unset]) rfl (pc' := 142) rfl ?_
    refine C.iload at_142 rfl (pc' := 144) rfl ?_
    refine C.bipush at_144 (v := 7) rfl (pc' := 146) rfl ?_
    refine C.icmp_ne_T at_146 (by decide) (by decide) (pc' := 155) rfl ?_
    refine C.lconst at_155 (v := 1) rfl (pc' := 156) rfl ?_
    refine C.iload at_156 rfl (pc' := 158) rfl ?_
    refine C.bipush at_158 (v := 8) rfl (pc' := 160) rfl ?_
    refine C.iadd at_160 (pc' := 161) rfl ?_
    refine castI (show ((0 : Int32) + (8 : Int32)) = (8 : Int32) from by decide) ?_
    refine C.lshl at_161 (pc' := 162) rfl ?_
    refine castJ (show ((1 : Int64) <<< (((8 : Int32)).toInt64 &&& 63)) = (256 : Int64) from by decide) ?_
    refine C.lconst at_162 (v := 1) rfl (pc' := 163) rfl ?_
    refine C.lsub at_163 (pc' := 164) rfl ?_
    refine castJ (show ((256 : Int64) - (1 : Int64)) = (255 : Int64) from by decide) ?_
    refine C.lstore at_164 (ls' := #[.val (.long w0), .second, .val (.int b), .val (.int p1), .val (.int p2), .val (.int fl), .val (.int bb), .val (.long w75), .second, .val (.long ((72340172838076673 : Int64) * (bb).toInt64)), .second, .val (.long r), .second, .val (.int (0 : Int32)), .val (.int (0 : Int32)), .val (.long (255 : Int64)), .second]) rfl (pc' := 166) rfl ?_
    refine C.lload at_166 rfl (pc' := 168) rfl ?_
    refine C.lload at_168 rfl (pc' := 170) rfl ?_
    refine C.land at_170 (pc' := 171) rfl ?_
    refine C.ldcJ (i := 21) rfl at_171 (pc' := 174) rfl ?_
    refine C.iload at_174 rfl (pc' := 176) rfl ?_
    refine C.lshl at_176 (pc' := 177) rfl ?_
    refine castJ (show ((128 : Int64) <<< (((0 : Int32)).toInt64 &&& 63)) = (128 : Int64) from by decide) ?_
    refine C.lcmp at_177 (pc' := 178) rfl ?_
    refine C.if_ne_F at_178 (cmpL_eq.mpr (own_hit (i := 0) bb1 bb2 hr (by decide) (fun j hj => hne j hj) (heq (by show 0 < 8; decide)) (by decide) (by decide))) (pc' := 181) rfl ?_
    refine C.iconst at_181 (v := 1) rfl (pc' := 182) rfl ?_
    refine C.goto at_182 (by decide) (pc' := 186) rfl ?_
    exact C.nreturn (b := (1 : Int32)) at_186 rfl (by simp) (by decide) (by decide) rfl rfl
  · show G h 0 0 113 #[.val (.long w0), .second, .val (.int b), .val (.int p1), .val (.int p2), .val (.int fl), .val (.int bb), .val (.long w75), .second, .val (.long ((72340172838076673 : Int64) * (bb).toInt64)), .second, .val (.long r), .second, .unset, .unset, .unset, .unset] [(.int (1 : Int32))]
    refine C.istore at_113 (ls' := #[.val (.long w0), .second, .val (.int b), .val (.int p1), .val (.int p2), .val (.int fl), .val (.int bb), .val (.long w75), .second, .val (.long ((72340172838076673 : Int64) * (bb).toInt64)), .second, .val (.long r), .second, .val (.int (1 : Int32)), .unset, .unset, .unset]) rfl (pc' := 115) rfl ?_
    refine C.iload at_115 rfl (pc' := 117) rfl ?_
    refine C.bipush at_117 (v := 8) rfl (pc' := 119) rfl ?_
    refine C.icmp_ne_T at_119 (by decide) (by decide) (pc' := 135) rfl ?_
    refine C.bipush at_135 (v := 8) rfl (pc' := 137) rfl ?_
    refine C.iload at_137 rfl (pc' := 139) rfl ?_
    refine C.imul at_139 (pc' := 140) rfl ?_
    refine castI (show ((8 : Int32) * (1 : Int32)) = (8 : Int32) from by decide) ?_
    refine C.istore at_140 (ls' := #[.val (.long w0), .second, .val (.int b), .val (.int p1), .val (.int p2), .val (.int fl), .val (.int bb), .val (.long w75), .second, .val (.long ((72340172838076673 : Int64) * (bb).toInt64)), .second, .val (.long r), .second, .val (.int (1 : Int32)), .val (.int (8 : Int32)), .unset, .unset]) rfl (pc' := 142) rfl ?_
    refine C.iload at_142 rfl (pc' := 144) rfl ?_
    refine C.bipush at_144 (v := 7) rfl (pc' := 146) rfl ?_
    refine C.icmp_ne_T at_146 (by decide) (by decide) (pc' := 155) rfl ?_
    refine C.lconst at_155 (v := 1) rfl (pc' := 156) rfl ?_
    refine C.iload at_156 rfl (pc' := 158) rfl ?_
    refine C.bipush at_158 (v := 8) rfl (pc' := 160) rfl ?_
    refine C.iadd at_160 (pc' := 161) rfl ?_
    refine castI (show ((8 : Int32) + (8 : Int32)) = (16 : Int32) from by decide) ?_
    refine C.lshl at_161 (pc' := 162) rfl ?_
    refine castJ (show ((1 : Int64) <<< (((16 : Int32)).toInt64 &&& 63)) = (65536 : Int64) from by decide) ?_
    refine C.lconst at_162 (v := 1) rfl (pc' := 163) rfl ?_
    refine C.lsub at_163 (pc' := 164) rfl ?_
    refine castJ (show ((65536 : Int64) - (1 : Int64)) = (65535 : Int64) from by decide) ?_
    refine C.lstore at_164 (ls' := #[.val (.long w0), .second, .val (.int b), .val (.int p1), .val (.int p2), .val (.int fl), .val (.int bb), .val (.long w75), .second, .val (.long ((72340172838076673 : Int64) * (bb).toInt64)), .second, .val (.long r), .second, .val (.int (1 : Int32)), .val (.int (8 : Int32)), .val (.long (65535 : Int64)), .second]) rfl (pc' := 166) rfl ?_
    refine C.lload at_166 rfl (pc' := 168) rfl ?_
    refine C.lload at_168 rfl (pc' := 170) rfl ?_
    refine C.land at_170 (pc' := 171) rfl ?_
    refine C.ldcJ (i := 21) rfl at_171 (pc' := 174) rfl ?_
    refine C.iload at_174 rfl (pc' := 176) rfl ?_
    refine C.lshl at_176 (pc' := 177) rfl ?_
    refine castJ (show ((128 : Int64) <<< (((8 : Int32)).toInt64 &&& 63)) = (32768 : Int64) from by decide) ?_
    refine C.lcmp at_177 (pc' := 178) rfl ?_
    refine C.if_ne_F at_178 (cmpL_eq.mpr (own_hit (i := 1) bb1 bb2 hr (by decide) (fun j hj => hne j hj) (heq (by show 1 < 8; decide)) (by decide) (by decide))) (pc' := 181) rfl ?_
    refine C.iconst at_181 (v := 1) rfl (pc' := 182) rfl ?_
    refine C.goto at_182 (by decide) (pc' := 186) rfl ?_
    exact C.nreturn (b := (1 : Int32)) at_186 rfl (by simp) (by decide) (by decide) rfl rfl
  · show G h 0 0 113 #[.val (.long w0), .second, .val (.int b), .val (.int p1), .val (.int p2), .val (.int fl), .val (.int bb), .val (.long w75), .second, .val (.long ((72340172838076673 : Int64) * (bb).toInt64)), .second, .val (.long r), .second, .unset, .unset, .unset, .unset] [(.int (2 : Int32))]
    refine C.istore at_113 (ls' := #[.val (.long w0), .second, .val (.int b), .val (.int p1), .val (.int p2), .val (.int fl), .val (.int bb), .val (.long w75), .second, .val (.long ((72340172838076673 : Int64) * (bb).toInt64)), .second, .val (.long r), .second, .val (.int (2 : Int32)), .unset, .unset, .unset]) rfl (pc' := 115) rfl ?_
    refine C.iload at_115 rfl (pc' := 117) rfl ?_
    refine C.bipush at_117 (v := 8) rfl (pc' := 119) rfl ?_
    refine C.icmp_ne_T at_119 (by decide) (by decide) (pc' := 135) rfl ?_
    refine C.bipush at_135 (v := 8) rfl (pc' := 137) rfl ?_
    refine C.iload at_137 rfl (pc' := 139) rfl ?_
    refine C.imul at_139 (pc' := 140) rfl ?_
    refine castI (show ((8 : Int32) * (2 : Int32)) = (16 : Int32) from by decide) ?_
    refine C.istore at_140 (ls' := #[.val (.long w0), .second, .val (.int b), .val (.int p1), .val (.int p2), .val (.int fl), .val (.int bb), .val (.long w75), .second, .val (.long ((72340172838076673 : Int64) * (bb).toInt64)), .second, .val (.long r), .second, .val (.int (2 : Int32)), .val (.int (16 : Int32)), .unset, .unset]) rfl (pc' := 142) rfl ?_
    refine C.iload at_142 rfl (pc' := 144) rfl ?_
    refine C.bipush at_144 (v := 7) rfl (pc' := 146) rfl ?_
    refine C.icmp_ne_T at_146 (by decide) (by decide) (pc' := 155) rfl ?_
    refine C.lconst at_155 (v := 1) rfl (pc' := 156) rfl ?_
    refine C.iload at_156 rfl (pc' := 158) rfl ?_
    refine C.bipush at_158 (v := 8) rfl (pc' := 160) rfl ?_
    refine C.iadd at_160 (pc' := 161) rfl ?_
    refine castI (show ((16 : Int32) + (8 : Int32)) = (24 : Int32) from by decide) ?_
    refine C.lshl at_161 (pc' := 162) rfl ?_
    refine castJ (show ((1 : Int64) <<< (((24 : Int32)).toInt64 &&& 63)) = (16777216 : Int64) from by decide) ?_
    refine C.lconst at_162 (v := 1) rfl (pc' := 163) rfl ?_
    refine C.lsub at_163 (pc' := 164) rfl ?_
    refine castJ (show ((16777216 : Int64) - (1 : Int64)) = (16777215 : Int64) from by decide) ?_
    refine C.lstore at_164 (ls' := #[.val (.long w0), .second, .val (.int b), .val (.int p1), .val (.int p2), .val (.int fl), .val (.int bb), .val (.long w75), .second, .val (.long ((72340172838076673 : Int64) * (bb).toInt64)), .second, .val (.long r), .second, .val (.int (2 : Int32)), .val (.int (16 : Int32)), .val (.long (16777215 : Int64)), .second]) rfl (pc' := 166) rfl ?_
    refine C.lload at_166 rfl (pc' := 168) rfl ?_
    refine C.lload at_168 rfl (pc' := 170) rfl ?_
    refine C.land at_170 (pc' := 171) rfl ?_
    refine C.ldcJ (i := 21) rfl at_171 (pc' := 174) rfl ?_
    refine C.iload at_174 rfl (pc' := 176) rfl ?_
    refine C.lshl at_176 (pc' := 177) rfl ?_
    refine castJ (show ((128 : Int64) <<< (((16 : Int32)).toInt64 &&& 63)) = (8388608 : Int64) from by decide) ?_
    refine C.lcmp at_177 (pc' := 178) rfl ?_
    refine C.if_ne_F at_178 (cmpL_eq.mpr (own_hit (i := 2) bb1 bb2 hr (by decide) (fun j hj => hne j hj) (heq (by show 2 < 8; decide)) (by decide) (by decide))) (pc' := 181) rfl ?_
    refine C.iconst at_181 (v := 1) rfl (pc' := 182) rfl ?_
    refine C.goto at_182 (by decide) (pc' := 186) rfl ?_
    exact C.nreturn (b := (1 : Int32)) at_186 rfl (by simp) (by decide) (by decide) rfl rfl
  · show G h 0 0 113 #[.val (.long w0), .second, .val (.int b), .val (.int p1), .val (.int p2), .val (.int fl), .val (.int bb), .val (.long w75), .second, .val (.long ((72340172838076673 : Int64) * (bb).toInt64)), .second, .val (.long r), .second, .unset, .unset, .unset, .unset] [(.int (3 : Int32))]
    refine C.istore at_113 (ls' := #[.val (.long w0), .second, .val (.int b), .val (.int p1), .val (.int p2), .val (.int fl), .val (.int bb), .val (.long w75), .second, .val (.long ((72340172838076673 : Int64) * (bb).toInt64)), .second, .val (.long r), .second, .val (.int (3 : Int32)), .unset, .unset, .unset]) rfl (pc' := 115) rfl ?_
    refine C.iload at_115 rfl (pc' := 117) rfl ?_
    refine C.bipush at_117 (v := 8) rfl (pc' := 119) rfl ?_
    refine C.icmp_ne_T at_119 (by decide) (by decide) (pc' := 135) rfl ?_
    refine C.bipush at_135 (v := 8) rfl (pc' := 137) rfl ?_
    refine C.iload at_137 rfl (pc' := 139) rfl ?_
    refine C.imul at_139 (pc' := 140) rfl ?_
    refine castI (show ((8 : Int32) * (3 : Int32)) = (24 : Int32) from by decide) ?_
    refine C.istore at_140 (ls' := #[.val (.long w0), .second, .val (.int b), .val (.int p1), .val (.int p2), .val (.int fl), .val (.int bb), .val (.long w75), .second, .val (.long ((72340172838076673 : Int64) * (bb).toInt64)), .second, .val (.long r), .second, .val (.int (3 : Int32)), .val (.int (24 : Int32)), .unset, .unset]) rfl (pc' := 142) rfl ?_
    refine C.iload at_142 rfl (pc' := 144) rfl ?_
    refine C.bipush at_144 (v := 7) rfl (pc' := 146) rfl ?_
    refine C.icmp_ne_T at_146 (by decide) (by decide) (pc' := 155) rfl ?_
    refine C.lconst at_155 (v := 1) rfl (pc' := 156) rfl ?_
    refine C.iload at_156 rfl (pc' := 158) rfl ?_
    refine C.bipush at_158 (v := 8) rfl (pc' := 160) rfl ?_
    refine C.iadd at_160 (pc' := 161) rfl ?_
    refine castI (show ((24 : Int32) + (8 : Int32)) = (32 : Int32) from by decide) ?_
    refine C.lshl at_161 (pc' := 162) rfl ?_
    refine castJ (show ((1 : Int64) <<< (((32 : Int32)).toInt64 &&& 63)) = (4294967296 : Int64) from by decide) ?_
    refine C.lconst at_162 (v := 1) rfl (pc' := 163) rfl ?_
    refine C.lsub at_163 (pc' := 164) rfl ?_
    refine castJ (show ((4294967296 : Int64) - (1 : Int64)) = (4294967295 : Int64) from by decide) ?_
    refine C.lstore at_164 (ls' := #[.val (.long w0), .second, .val (.int b), .val (.int p1), .val (.int p2), .val (.int fl), .val (.int bb), .val (.long w75), .second, .val (.long ((72340172838076673 : Int64) * (bb).toInt64)), .second, .val (.long r), .second, .val (.int (3 : Int32)), .val (.int (24 : Int32)), .val (.long (4294967295 : Int64)), .second]) rfl (pc' := 166) rfl ?_
    refine C.lload at_166 rfl (pc' := 168) rfl ?_
    refine C.lload at_168 rfl (pc' := 170) rfl ?_
    refine C.land at_170 (pc' := 171) rfl ?_
    refine C.ldcJ (i := 21) rfl at_171 (pc' := 174) rfl ?_
    refine C.iload at_174 rfl (pc' := 176) rfl ?_
    refine C.lshl at_176 (pc' := 177) rfl ?_
    refine castJ (show ((128 : Int64) <<< (((24 : Int32)).toInt64 &&& 63)) = (2147483648 : Int64) from by decide) ?_
    refine C.lcmp at_177 (pc' := 178) rfl ?_
    refine C.if_ne_F at_178 (cmpL_eq.mpr (own_hit (i := 3) bb1 bb2 hr (by decide) (fun j hj => hne j hj) (heq (by show 3 < 8; decide)) (by decide) (by decide))) (pc' := 181) rfl ?_
    refine C.iconst at_181 (v := 1) rfl (pc' := 182) rfl ?_
    refine C.goto at_182 (by decide) (pc' := 186) rfl ?_
    exact C.nreturn (b := (1 : Int32)) at_186 rfl (by simp) (by decide) (by decide) rfl rfl
  · show G h 0 0 113 #[.val (.long w0), .second, .val (.int b), .val (.int p1), .val (.int p2), .val (.int fl), .val (.int bb), .val (.long w75), .second, .val (.long ((72340172838076673 : Int64) * (bb).toInt64)), .second, .val (.long r), .second, .unset, .unset, .unset, .unset] [(.int (4 : Int32))]
    refine C.istore at_113 (ls' := #[.val (.long w0), .second, .val (.int b), .val (.int p1), .val (.int p2), .val (.int fl), .val (.int bb), .val (.long w75), .second, .val (.long ((72340172838076673 : Int64) * (bb).toInt64)), .second, .val (.long r), .second, .val (.int (4 : Int32)), .unset, .unset, .unset]) rfl (pc' := 115) rfl ?_
    refine C.iload at_115 rfl (pc' := 117) rfl ?_
    refine C.bipush at_117 (v := 8) rfl (pc' := 119) rfl ?_
    refine C.icmp_ne_T at_119 (by decide) (by decide) (pc' := 135) rfl ?_
    refine C.bipush at_135 (v := 8) rfl (pc' := 137) rfl ?_
    refine C.iload at_137 rfl (pc' := 139) rfl ?_
    refine C.imul at_139 (pc' := 140) rfl ?_
    refine castI (show ((8 : Int32) * (4 : Int32)) = (32 : Int32) from by decide) ?_
    refine C.istore at_140 (ls' := #[.val (.long w0), .second, .val (.int b), .val (.int p1), .val (.int p2), .val (.int fl), .val (.int bb), .val (.long w75), .second, .val (.long ((72340172838076673 : Int64) * (bb).toInt64)), .second, .val (.long r), .second, .val (.int (4 : Int32)), .val (.int (32 : Int32)), .unset, .unset]) rfl (pc' := 142) rfl ?_
    refine C.iload at_142 rfl (pc' := 144) rfl ?_
    refine C.bipush at_144 (v := 7) rfl (pc' := 146) rfl ?_
    refine C.icmp_ne_T at_146 (by decide) (by decide) (pc' := 155) rfl ?_
    refine C.lconst at_155 (v := 1) rfl (pc' := 156) rfl ?_
    refine C.iload at_156 rfl (pc' := 158) rfl ?_
    refine C.bipush at_158 (v := 8) rfl (pc' := 160) rfl ?_
    refine C.iadd at_160 (pc' := 161) rfl ?_
    refine castI (show ((32 : Int32) + (8 : Int32)) = (40 : Int32) from by decide) ?_
    refine C.lshl at_161 (pc' := 162) rfl ?_
    refine castJ (show ((1 : Int64) <<< (((40 : Int32)).toInt64 &&& 63)) = (1099511627776 : Int64) from by decide) ?_
    refine C.lconst at_162 (v := 1) rfl (pc' := 163) rfl ?_
    refine C.lsub at_163 (pc' := 164) rfl ?_
    refine castJ (show ((1099511627776 : Int64) - (1 : Int64)) = (1099511627775 : Int64) from by decide) ?_
    refine C.lstore at_164 (ls' := #[.val (.long w0), .second, .val (.int b), .val (.int p1), .val (.int p2), .val (.int fl), .val (.int bb), .val (.long w75), .second, .val (.long ((72340172838076673 : Int64) * (bb).toInt64)), .second, .val (.long r), .second, .val (.int (4 : Int32)), .val (.int (32 : Int32)), .val (.long (1099511627775 : Int64)), .second]) rfl (pc' := 166) rfl ?_
    refine C.lload at_166 rfl (pc' := 168) rfl ?_
    refine C.lload at_168 rfl (pc' := 170) rfl ?_
    refine C.land at_170 (pc' := 171) rfl ?_
    refine C.ldcJ (i := 21) rfl at_171 (pc' := 174) rfl ?_
    refine C.iload at_174 rfl (pc' := 176) rfl ?_
    refine C.lshl at_176 (pc' := 177) rfl ?_
    refine castJ (show ((128 : Int64) <<< (((32 : Int32)).toInt64 &&& 63)) = (549755813888 : Int64) from by decide) ?_
    refine C.lcmp at_177 (pc' := 178) rfl ?_
    refine C.if_ne_F at_178 (cmpL_eq.mpr (own_hit (i := 4) bb1 bb2 hr (by decide) (fun j hj => hne j hj) (heq (by show 4 < 8; decide)) (by decide) (by decide))) (pc' := 181) rfl ?_
    refine C.iconst at_181 (v := 1) rfl (pc' := 182) rfl ?_
    refine C.goto at_182 (by decide) (pc' := 186) rfl ?_
    exact C.nreturn (b := (1 : Int32)) at_186 rfl (by simp) (by decide) (by decide) rfl rfl
  · show G h 0 0 113 #[.val (.long w0), .second, .val (.int b), .val (.int p1), .val (.int p2), .val (.int fl), .val (.int bb), .val (.long w75), .second, .val (.long ((72340172838076673 : Int64) * (bb).toInt64)), .second, .val (.long r), .second, .unset, .unset, .unset, .unset] [(.int (5 : Int32))]
    refine C.istore at_113 (ls' := #[.val (.long w0), .second, .val (.int b), .val (.int p1), .val (.int p2), .val (.int fl), .val (.int bb), .val (.long w75), .second, .val (.long ((72340172838076673 : Int64) * (bb).toInt64)), .second, .val (.long r), .second, .val (.int (5 : Int32)), .unset, .unset, .unset]) rfl (pc' := 115) rfl ?_
    refine C.iload at_115 rfl (pc' := 117) rfl ?_
    refine C.bipush at_117 (v := 8) rfl (pc' := 119) rfl ?_
    refine C.icmp_ne_T at_119 (by decide) (by decide) (pc' := 135) rfl ?_
    refine C.bipush at_135 (v := 8) rfl (pc' := 137) rfl ?_
    refine C.iload at_137 rfl (pc' := 139) rfl ?_
    refine C.imul at_139 (pc' := 140) rfl ?_
    refine castI (show ((8 : Int32) * (5 : Int32)) = (40 : Int32) from by decide) ?_
    refine C.istore at_140 (ls' := #[.val (.long w0), .second, .val (.int b), .val (.int p1), .val (.int p2), .val (.int fl), .val (.int bb), .val (.long w75), .second, .val (.long ((72340172838076673 : Int64) * (bb).toInt64)), .second, .val (.long r), .second, .val (.int (5 : Int32)), .val (.int (40 : Int32)), .unset, .unset]) rfl (pc' := 142) rfl ?_
    refine C.iload at_142 rfl (pc' := 144) rfl ?_
    refine C.bipush at_144 (v := 7) rfl (pc' := 146) rfl ?_
    refine C.icmp_ne_T at_146 (by decide) (by decide) (pc' := 155) rfl ?_
    refine C.lconst at_155 (v := 1) rfl (pc' := 156) rfl ?_
    refine C.iload at_156 rfl (pc' := 158) rfl ?_
    refine C.bipush at_158 (v := 8) rfl (pc' := 160) rfl ?_
    refine C.iadd at_160 (pc' := 161) rfl ?_
    refine castI (show ((40 : Int32) + (8 : Int32)) = (48 : Int32) from by decide) ?_
    refine C.lshl at_161 (pc' := 162) rfl ?_
    refine castJ (show ((1 : Int64) <<< (((48 : Int32)).toInt64 &&& 63)) = (281474976710656 : Int64) from by decide) ?_
    refine C.lconst at_162 (v := 1) rfl (pc' := 163) rfl ?_
    refine C.lsub at_163 (pc' := 164) rfl ?_
    refine castJ (show ((281474976710656 : Int64) - (1 : Int64)) = (281474976710655 : Int64) from by decide) ?_
    refine C.lstore at_164 (ls' := #[.val (.long w0), .second, .val (.int b), .val (.int p1), .val (.int p2), .val (.int fl), .val (.int bb), .val (.long w75), .second, .val (.long ((72340172838076673 : Int64) * (bb).toInt64)), .second, .val (.long r), .second, .val (.int (5 : Int32)), .val (.int (40 : Int32)), .val (.long (281474976710655 : Int64)), .second]) rfl (pc' := 166) rfl ?_
    refine C.lload at_166 rfl (pc' := 168) rfl ?_
    refine C.lload at_168 rfl (pc' := 170) rfl ?_
    refine C.land at_170 (pc' := 171) rfl ?_
    refine C.ldcJ (i := 21) rfl at_171 (pc' := 174) rfl ?_
    refine C.iload at_174 rfl (pc' := 176) rfl ?_
    refine C.lshl at_176 (pc' := 177) rfl ?_
    refine castJ (show ((128 : Int64) <<< (((40 : Int32)).toInt64 &&& 63)) = (140737488355328 : Int64) from by decide) ?_
    refine C.lcmp at_177 (pc' := 178) rfl ?_
    refine C.if_ne_F at_178 (cmpL_eq.mpr (own_hit (i := 5) bb1 bb2 hr (by decide) (fun j hj => hne j hj) (heq (by show 5 < 8; decide)) (by decide) (by decide))) (pc' := 181) rfl ?_
    refine C.iconst at_181 (v := 1) rfl (pc' := 182) rfl ?_
    refine C.goto at_182 (by decide) (pc' := 186) rfl ?_
    exact C.nreturn (b := (1 : Int32)) at_186 rfl (by simp) (by decide) (by decide) rfl rfl
  · show G h 0 0 113 #[.val (.long w0), .second, .val (.int b), .val (.int p1), .val (.int p2), .val (.int fl), .val (.int bb), .val (.long w75), .second, .val (.long ((72340172838076673 : Int64) * (bb).toInt64)), .second, .val (.long r), .second, .unset, .unset, .unset, .unset] [(.int (6 : Int32))]
    refine C.istore at_113 (ls' := #[.val (.long w0), .second, .val (.int b), .val (.int p1), .val (.int p2), .val (.int fl), .val (.int bb), .val (.long w75), .second, .val (.long ((72340172838076673 : Int64) * (bb).toInt64)), .second, .val (.long r), .second, .val (.int (6 : Int32)), .unset, .unset, .unset]) rfl (pc' := 115) rfl ?_
    refine C.iload at_115 rfl (pc' := 117) rfl ?_
    refine C.bipush at_117 (v := 8) rfl (pc' := 119) rfl ?_
    refine C.icmp_ne_T at_119 (by decide) (by decide) (pc' := 135) rfl ?_
    refine C.bipush at_135 (v := 8) rfl (pc' := 137) rfl ?_
    refine C.iload at_137 rfl (pc' := 139) rfl ?_
    refine C.imul at_139 (pc' := 140) rfl ?_
    refine castI (show ((8 : Int32) * (6 : Int32)) = (48 : Int32) from by decide) ?_
    refine C.istore at_140 (ls' := #[.val (.long w0), .second, .val (.int b), .val (.int p1), .val (.int p2), .val (.int fl), .val (.int bb), .val (.long w75), .second, .val (.long ((72340172838076673 : Int64) * (bb).toInt64)), .second, .val (.long r), .second, .val (.int (6 : Int32)), .val (.int (48 : Int32)), .unset, .unset]) rfl (pc' := 142) rfl ?_
    refine C.iload at_142 rfl (pc' := 144) rfl ?_
    refine C.bipush at_144 (v := 7) rfl (pc' := 146) rfl ?_
    refine C.icmp_ne_T at_146 (by decide) (by decide) (pc' := 155) rfl ?_
    refine C.lconst at_155 (v := 1) rfl (pc' := 156) rfl ?_
    refine C.iload at_156 rfl (pc' := 158) rfl ?_
    refine C.bipush at_158 (v := 8) rfl (pc' := 160) rfl ?_
    refine C.iadd at_160 (pc' := 161) rfl ?_
    refine castI (show ((48 : Int32) + (8 : Int32)) = (56 : Int32) from by decide) ?_
    refine C.lshl at_161 (pc' := 162) rfl ?_
    refine castJ (show ((1 : Int64) <<< (((56 : Int32)).toInt64 &&& 63)) = (72057594037927936 : Int64) from by decide) ?_
    refine C.lconst at_162 (v := 1) rfl (pc' := 163) rfl ?_
    refine C.lsub at_163 (pc' := 164) rfl ?_
    refine castJ (show ((72057594037927936 : Int64) - (1 : Int64)) = (72057594037927935 : Int64) from by decide) ?_
    refine C.lstore at_164 (ls' := #[.val (.long w0), .second, .val (.int b), .val (.int p1), .val (.int p2), .val (.int fl), .val (.int bb), .val (.long w75), .second, .val (.long ((72340172838076673 : Int64) * (bb).toInt64)), .second, .val (.long r), .second, .val (.int (6 : Int32)), .val (.int (48 : Int32)), .val (.long (72057594037927935 : Int64)), .second]) rfl (pc' := 166) rfl ?_
    refine C.lload at_166 rfl (pc' := 168) rfl ?_
    refine C.lload at_168 rfl (pc' := 170) rfl ?_
    refine C.land at_170 (pc' := 171) rfl ?_
    refine C.ldcJ (i := 21) rfl at_171 (pc' := 174) rfl ?_
    refine C.iload at_174 rfl (pc' := 176) rfl ?_
    refine C.lshl at_176 (pc' := 177) rfl ?_
    refine castJ (show ((128 : Int64) <<< (((48 : Int32)).toInt64 &&& 63)) = (36028797018963968 : Int64) from by decide) ?_
    refine C.lcmp at_177 (pc' := 178) rfl ?_
    refine C.if_ne_F at_178 (cmpL_eq.mpr (own_hit (i := 6) bb1 bb2 hr (by decide) (fun j hj => hne j hj) (heq (by show 6 < 8; decide)) (by decide) (by decide))) (pc' := 181) rfl ?_
    refine C.iconst at_181 (v := 1) rfl (pc' := 182) rfl ?_
    refine C.goto at_182 (by decide) (pc' := 186) rfl ?_
    exact C.nreturn (b := (1 : Int32)) at_186 rfl (by simp) (by decide) (by decide) rfl rfl
  · show G h 0 0 113 #[.val (.long w0), .second, .val (.int b), .val (.int p1), .val (.int p2), .val (.int fl), .val (.int bb), .val (.long w75), .second, .val (.long ((72340172838076673 : Int64) * (bb).toInt64)), .second, .val (.long r), .second, .unset, .unset, .unset, .unset] [(.int (7 : Int32))]
    refine C.istore at_113 (ls' := #[.val (.long w0), .second, .val (.int b), .val (.int p1), .val (.int p2), .val (.int fl), .val (.int bb), .val (.long w75), .second, .val (.long ((72340172838076673 : Int64) * (bb).toInt64)), .second, .val (.long r), .second, .val (.int (7 : Int32)), .unset, .unset, .unset]) rfl (pc' := 115) rfl ?_
    refine C.iload at_115 rfl (pc' := 117) rfl ?_
    refine C.bipush at_117 (v := 8) rfl (pc' := 119) rfl ?_
    refine C.icmp_ne_T at_119 (by decide) (by decide) (pc' := 135) rfl ?_
    refine C.bipush at_135 (v := 8) rfl (pc' := 137) rfl ?_
    refine C.iload at_137 rfl (pc' := 139) rfl ?_
    refine C.imul at_139 (pc' := 140) rfl ?_
    refine castI (show ((8 : Int32) * (7 : Int32)) = (56 : Int32) from by decide) ?_
    refine C.istore at_140 (ls' := #[.val (.long w0), .second, .val (.int b), .val (.int p1), .val (.int p2), .val (.int fl), .val (.int bb), .val (.long w75), .second, .val (.long ((72340172838076673 : Int64) * (bb).toInt64)), .second, .val (.long r), .second, .val (.int (7 : Int32)), .val (.int (56 : Int32)), .unset, .unset]) rfl (pc' := 142) rfl ?_
    refine C.iload at_142 rfl (pc' := 144) rfl ?_
    refine C.bipush at_144 (v := 7) rfl (pc' := 146) rfl ?_
    refine C.icmp_ne_F at_146 rfl (pc' := 149) rfl ?_
    refine C.ldcJ (i := 5) rfl at_149 (pc' := 152) rfl ?_
    refine C.goto at_152 (by decide) (pc' := 164) rfl ?_
    refine C.lstore at_164 (ls' := #[.val (.long w0), .second, .val (.int b), .val (.int p1), .val (.int p2), .val (.int fl), .val (.int bb), .val (.long w75), .second, .val (.long ((72340172838076673 : Int64) * (bb).toInt64)), .second, .val (.long r), .second, .val (.int (7 : Int32)), .val (.int (56 : Int32)), .val (.long (-1 : Int64)), .second]) rfl (pc' := 166) rfl ?_
    refine C.lload at_166 rfl (pc' := 168) rfl ?_
    refine C.lload at_168 rfl (pc' := 170) rfl ?_
    refine C.land at_170 (pc' := 171) rfl ?_
    refine C.ldcJ (i := 21) rfl at_171 (pc' := 174) rfl ?_
    refine C.iload at_174 rfl (pc' := 176) rfl ?_
    refine C.lshl at_176 (pc' := 177) rfl ?_
    refine castJ (show ((128 : Int64) <<< (((56 : Int32)).toInt64 &&& 63)) = (-9223372036854775808 : Int64) from by decide) ?_
    refine C.lcmp at_177 (pc' := 178) rfl ?_
    refine C.if_ne_F at_178 (cmpL_eq.mpr (own_hit (i := 7) bb1 bb2 hr (by decide) (fun j hj => hne j hj) (heq (by show 7 < 8; decide)) (by decide) (by decide))) (pc' := 181) rfl ?_
    refine C.iconst at_181 (v := 1) rfl (pc' := 182) rfl ?_
    refine C.goto at_182 (by decide) (pc' := 186) rfl ?_
    exact C.nreturn (b := (1 : Int32)) at_186 rfl (by simp) (by decide) (by decide) rfl rfl
  · show G h 0 0 113 #[.val (.long w0), .second, .val (.int b), .val (.int p1), .val (.int p2), .val (.int fl), .val (.int bb), .val (.long w75), .second, .val (.long ((72340172838076673 : Int64) * (bb).toInt64)), .second, .val (.long r), .second, .unset, .unset, .unset, .unset] [(.int (8 : Int32))]
    refine C.istore at_113 (ls' := #[.val (.long w0), .second, .val (.int b), .val (.int p1), .val (.int p2), .val (.int fl), .val (.int bb), .val (.long w75), .second, .val (.long ((72340172838076673 : Int64) * (bb).toInt64)), .second, .val (.long r), .second, .val (.int (8 : Int32)), .unset, .unset, .unset]) rfl (pc' := 115) rfl ?_
    refine C.iload at_115 rfl (pc' := 117) rfl ?_
    refine C.bipush at_117 (v := 8) rfl (pc' := 119) rfl ?_
    refine C.icmp_ne_F at_119 rfl (pc' := 122) rfl ?_
    refine C.lload at_122 rfl (pc' := 124) rfl ?_
    refine C.lconst at_124 (v := 0) rfl (pc' := 125) rfl ?_
    refine C.lcmp at_125 (pc' := 126) rfl ?_
    refine C.if_ne_F at_126 (cmpL_eq.mpr (own_none bb1 bb2 hr (fun j hj => hne j hj))) (pc' := 129) rfl ?_
    refine C.iconst at_129 (v := 1) rfl (pc' := 130) rfl ?_
    refine C.goto at_130 (by decide) (pc' := 134) rfl ?_
    exact C.nreturn (b := (1 : Int32)) at_134 rfl (by simp) (by decide) (by decide) rfl rfl
set_option maxRecDepth 65536 in
set_option maxHeartbeats 4000000 in
theorem comes_1 {Post : Tables → Env → Array Value → State → Outcome → State → Prop} (hpost : ∀ tb e args s v u, (limb_1_1.after args s (.returned v) u = true ∧ limb_1_2.after args s (.returned v) u = true ∧ True) → FrameEnd s (.returned v) u (Jvm.fieldLocs frame_1_writes args s ++ Jvm.arrayLocs frame_1_arrays args s ++ Jvm.staticLocs frame_1_statics s) 0 0 → Post tb e args s (.returned v) u) :
    ArmFor flags0 classFile x code maxLocals ret World_1 tables_1 room_1 Calls_1 rest_1 Pre_1 Post := by
  intro l hfl _ _ p e ha hc hk s m args below hf hA hF happ hP
  obtain ⟨hcalls, hrest, hpre⟩ := hP
  obtain ⟨-, -, -, hnamed, -, -, -, hat⟩ := (Spec.applies_iff hf).mp happ
  obtain ⟨hg, hn⟩ := and_e (Cond.before_iff.mp (show (Jvm.Cond.and given_1 narrow_1).before args s = true from hpre))
  obtain ⟨hcount, hb0⟩ := and_e hg
  obtain ⟨ha0, hb1⟩ := and_e hb0
  obtain ⟨ha1, hb2⟩ := and_e hb1
  obtain ⟨ha2, hb3⟩ := and_e hb2
  obtain ⟨ha3, hb4⟩ := and_e hb3
  obtain ⟨w0, w1, w2, w3, w4, rfl⟩ : ∃ w0 w1 w2 w3 w4 : Value, args = #[w0, w1, w2, w3, w4] := by
    have hs : args.size = 5 := by simpa [Cond.value, given_1] using hcount
    obtain ⟨L⟩ := args
    match L, hs with
    | [w0, w1, w2, w3, w4], _ => exact ⟨w0, w1, w2, w3, w4, rfl⟩
  have hw := fun d (hd : d ∈ tables_1) => atoms_spec (ws := Jvm.Cond.code x code maxLocals ret :: tables_1) hat d (List.mem_cons_of_mem _ hd)
  obtain ⟨i0, e0⟩ := isL_v ha0
  obtain rfl : w0 = (.long i0) := Option.some.inj e0
  obtain ⟨i1, e1⟩ := is_v ha1
  obtain rfl : w1 = (.int i1) := Option.some.inj e1
  obtain ⟨i2, e2⟩ := is_v ha2
  obtain rfl : w2 = (.int i2) := Option.some.inj e2
  obtain ⟨i3, e3⟩ := is_v ha3
  obtain rfl : w3 = (.int i3) := Option.some.inj e3
  obtain ⟨i4, e4⟩ := is_v hb4
  obtain rfl : w4 = (.int i4) := Option.some.inj e4
  obtain ⟨n, o, h1, h2, h3, _, L, rfl, ⟨rfl, N⟩, hq⟩ := c_law l s _ hw tables_1 s.heap.size s.heap i0 i1 i2 i3 i4 (Nat.le_refl _) p e ha hc hk s m _ below hf ((Spec.applies_iff_loose hf).mp happ).1 ⟨rfl, State.Warmed39.refl s, rfl⟩ trivial
  refine ⟨n, _, h1, h2, h3, hpost _ _ _ _ _ _ ⟨Cond.after_iff.mpr rfl, Cond.after_iff.mpr (eq_i res_at (Term.int_eval (1)) rfl), trivial⟩ ⟨hq.1, hq.2.1, (hq.2.2.sift fun y hy => Or.inr (N y hy)).mono (by decide) (by decide)⟩⟩
theorem main_1_1 : Claimed_1_1 := comes_1 fun _ _ _ _ _ _ h hF => ⟨h.1, hF⟩
theorem main_1_2 : Claimed_1_2 := comes_1 fun _ _ _ _ _ _ h hF => ⟨h.2.1, hF⟩
end Jvm.Pilot.@@N@@
namespace Jvm.Pilot.@@N@@
open Jvm Jvm.ClassFile Sem Op Lib Jvm.Free Jvm.Stand Jvm.Pilot.@@N@@.Jvm.D
/-! MADE BY PROGRAM (witnessworld.py) out of the Statement's table words and the real class files: 9 classes; the members and pool entries that the words name. The judged class is class 1, her method 4. -/
namespace start1
open Jvm.ClassFile
def u (s : String) : CpInfo := .utf8 (stringToUtf16 s)
/-- a pool by its gaps: so many unusable entries, then the entry; so many at the end -/
def gap : Nat → List CpInfo → List CpInfo
  | 0, r => r
  | n + 1, r => .unusable :: gap n r
def poolList (es : List (Nat × CpInfo)) (last : Nat) : List CpInfo := es.foldr (fun e r => gap e.1 (e.2 :: r)) (gap last [])
def pool (es : List (Nat × CpInfo)) (last : Nat) : Array CpInfo := ⟨poolList es last⟩
def fileOf (pool : Array CpInfo) (this : Nat) (attrs : Array Attribute := #[]) (ms : Array MethodInfo := #[]) (fl : Nat := 33) (sup : Nat := 0) (ifs : Array Nat := #[]) (fds : Array FieldInfo := #[]) : ClassFile where
  minorVersion := 0
  majorVersion := 65
  constantPool := pool
  accessFlags := fl
  thisClass := this
  superClass := sup
  interfaces := ifs
  fields := fds
  methods := ms
  attributes := attrs
def plain (name : String) (sup : Option ClassId) : Class where
  name := name
  kind := .ordinary
  loader := none
  accessFlags := 33
  super := sup
  interfaces := #[]
  cf := none
  fields := #[]
  methods := #[]
  instanceTypes := #[]
  staticTypes := #[]
  resolved := #[]
  callSites := []
  init := .initialized
  statics := none
  mirror := none

def pool0 : Array CpInfo := pool [(5, u "<init>"), (0, u "()V"), (1, .class_ 10), (1, u "java/lang/Object")] 113

def k0m0 : Method := { name := "<init>", desc := "()V", sig := { parameters := [], returnType := none }, accessFlags := 1, code := none }
/-- java/lang/Object -/
def k0 : Class := { plain "java/lang/Object" none with
  accessFlags := 33
  interfaces := #[]
  cf := some (fileOf pool0 8 #[] #[{ accessFlags := 1, nameIndex := 5, descriptorIndex := 6, attributes := #[] }] 33 0 #[] #[])
  fields := #[]
  methods := #[k0m0]
  instanceTypes := #[]
  staticTypes := #[]
  resolved := Array.replicate 124 none
  statics := none }

def pool1 : Array CpInfo := pool [(2, .class_ 4), (1, u "java/lang/Object"), (0, u "<init>"), (0, u "()V"), (0, .long 255), (1, .long 18446744073709551615), (1, .methodref 12 13), (0, .class_ 14), (0, .nameAndType 15 16), (0, u "com/example/nanoparse/nanoparse/measure/WordsFindPinLaw"), (0, u "byteAt"), (0, u "(JI)I"), (0, .methodref 12 18), (0, .nameAndType 19 20), (0, u "plant"), (0, u "(JII)J"), (0, .long 72340172838076673), (1, .methodref 24 25), (0, .class_ 26), (0, .nameAndType 27 28), (0, u "com/example/nanoparse/nanoparse/measure/Words"), (0, u "find"), (0, u "(JJ)J"), (0, .long 9187201950435737471), (1, .methodref 12 32), (0, .nameAndType 33 16), (0, u "first"), (0, .long 128), (4, u "law"), (0, u "(JIIII)Z")] 2

def k1m0 : Method := { name := "<init>", desc := "()V", sig := { parameters := [], returnType := none }, accessFlags := 2, code := none }
def k1c1 : Code := { maxStack := 4, maxLocals := 3, code := method_2_code, exceptionTable := #[], attributes := #[] }
def k1m1 : Method := { name := "byteAt", desc := "(JI)I", sig := { parameters := [.long, .int], returnType := some .int }, accessFlags := 10, code := some k1c1 }
def k1c2 : Code := { maxStack := 6, maxLocals := 5, code := method_3_code, exceptionTable := #[], attributes := #[] }
def k1m2 : Method := { name := "plant", desc := "(JII)J", sig := { parameters := [.long, .int, .int], returnType := some .long }, accessFlags := 10, code := some k1c2 }
def k1c3 : Code := { maxStack := 3, maxLocals := 3, code := method_4_code, exceptionTable := #[], attributes := #[] }
def k1m3 : Method := { name := "first", desc := "(JI)I", sig := { parameters := [.long, .int], returnType := some .int }, accessFlags := 10, code := some k1c3 }
def k1c4 : Code := { maxStack := 5, maxLocals := 17, code := code, exceptionTable := #[], attributes := #[] }
def k1m4 : Method := { name := "law", desc := "(JIIII)Z", sig := { parameters := [.long, .int, .int, .int, .int], returnType := some .boolean }, accessFlags := 9, code := some k1c4 }
/-- com/example/nanoparse/nanoparse/measure/WordsFindPinLaw -/
def k1 : Class := { plain "com/example/nanoparse/nanoparse/measure/WordsFindPinLaw" (some 0) with
  accessFlags := 49
  interfaces := #[]
  cf := some (fileOf pool1 12 #[] #[{ accessFlags := 2, nameIndex := 5, descriptorIndex := 6, attributes := #[] }, { accessFlags := 10, nameIndex := 15, descriptorIndex := 16, attributes := #[] }, { accessFlags := 10, nameIndex := 19, descriptorIndex := 20, attributes := #[] }, { accessFlags := 10, nameIndex := 33, descriptorIndex := 16, attributes := #[] }, { accessFlags := 9, nameIndex := 39, descriptorIndex := 40, attributes := #[] }] 49 2 #[] #[])
  fields := #[]
  methods := #[k1m0, k1m1, k1m2, k1m3, k1m4]
  instanceTypes := #[]
  staticTypes := #[]
  resolved := Array.replicate 43 none
  statics := none }

def pool2 : Array CpInfo := pool [(2, .class_ 4), (1, u "java/lang/Object"), (0, u "<init>"), (0, u "()V"), (1, .class_ 10), (1, u "com/example/nanoparse/nanoparse/measure/Words"), (0, u "LONGS"), (0, u "Ljava/lang/invoke/VarHandle;"), (16, .long 72340172838076673), (1, .long 18446744073709551615), (1, .long 9259542123273814144), (19, u "ONES"), (0, u "J"), (1, u "HIGH_BITS"), (7, u "find"), (0, u "(JJ)J")] 8

def k2m0 : Method := { name := "<init>", desc := "()V", sig := { parameters := [], returnType := none }, accessFlags := 2, code := none }
def k2c1 : Code := { maxStack := 6, maxLocals := 6, code := prog_58_method_6_code, exceptionTable := #[], attributes := #[] }
def k2m1 : Method := { name := "find", desc := "(JJ)J", sig := { parameters := [.long, .long], returnType := some .long }, accessFlags := 8, code := some k2c1 }
/-- com/example/nanoparse/nanoparse/measure/Words -/
def k2 : Class := { plain "com/example/nanoparse/nanoparse/measure/Words" (some 0) with
  accessFlags := 48
  interfaces := #[]
  cf := some (fileOf pool2 8 #[] #[{ accessFlags := 2, nameIndex := 5, descriptorIndex := 6, attributes := #[] }, { accessFlags := 8, nameIndex := 64, descriptorIndex := 65, attributes := #[] }] 48 2 #[] #[{ accessFlags := 26, nameIndex := 11, descriptorIndex := 12, attributes := #[] }, { accessFlags := 26, nameIndex := 53, descriptorIndex := 54, attributes := #[] }, { accessFlags := 26, nameIndex := 56, descriptorIndex := 54, attributes := #[] }])
  fields := #[{ name := "LONGS", type := (.object "java/lang/invoke/VarHandle"), accessFlags := 26, slot := 0, constantValue := 0 }, { name := "ONES", type := .long, accessFlags := 26, slot := 1, constantValue := 0 }, { name := "HIGH_BITS", type := .long, accessFlags := 26, slot := 2, constantValue := 0 }]
  methods := #[k2m0, k2m1]
  instanceTypes := #[]
  staticTypes := #[(.object "java/lang/invoke/VarHandle"), .long, .long]
  resolved := Array.replicate 74 none
  statics := none }

def pool3 : Array CpInfo := pool [(1, u "java/lang/Cloneable"), (0, .class_ 1), (0, u "java/lang/Object"), (0, .class_ 3)] 3

/-- java/lang/Cloneable -/
def k3 : Class := { plain "java/lang/Cloneable" (some 0) with
  accessFlags := 1537
  interfaces := #[]
  cf := some (fileOf pool3 2 #[] #[] 1537 4 #[] #[])
  fields := #[]
  methods := #[]
  instanceTypes := #[]
  staticTypes := #[]
  resolved := Array.replicate 8 none
  statics := none }

def pool4 : Array CpInfo := pool [(1, u "java/io/Serializable"), (0, .class_ 1), (0, u "java/lang/Object"), (0, .class_ 3)] 3

/-- java/io/Serializable -/
def k4 : Class := { plain "java/io/Serializable" (some 0) with
  accessFlags := 1537
  interfaces := #[]
  cf := some (fileOf pool4 2 #[] #[] 1537 4 #[] #[])
  fields := #[]
  methods := #[]
  instanceTypes := #[]
  staticTypes := #[]
  resolved := Array.replicate 8 none
  statics := none }

/-- the primitive byte -/
def k5 : Class := { plain "byte" none with kind := .primitive 'B', accessFlags := 0x411 }
/-- [B -/
def k6 : Class := { plain "[B" (some 0) with kind := .array 5 .byte, interfaces := #[3, 4], accessFlags := 1041 }

/-- the primitive int -/
def k7 : Class := { plain "int" none with kind := .primitive 'I', accessFlags := 0x411 }
/-- [I -/
def k8 : Class := { plain "[I" (some 0) with kind := .array 7 .int, interfaces := #[3, 4], accessFlags := 1041 }

def heap : Heap := #[]
def classes : Array Class := #[k0, k1, k2, k3, k4, k5, k6, k7, k8]
def interned : List (Array UInt16 × Addr) := []
def slotsUsed : Nat := 0
def theMethod : MethodId := ⟨1, 4⟩
def args0 : Array Value := #[.long 1234567, .int 65, .int 3, .int 5, .int 7]
def aboutOver (below : List Frame) : State where
  vm := { classes := classes, interned := interned.toArray }
  heap := heap
  slotsUsed := slotsUsed
  threads := #[{ frames := .invoking theMethod args0 :: below }]
def below0 : List Frame := [.native { method := ⟨0, 0⟩, args := #[] }]
def about1 : State := aboutOver below0
def p0 : Program := .bare "" "" ""
def e0 : Env := launch0.env 0 0 0
theorem w_frames : about1.frames = Frame.invoking theMethod args0 :: below0 := rfl
set_option maxRecDepth 65536 in
theorem w_args : argsFit about1.vm theMethod args0 = true := by decide +kernel
set_option maxRecDepth 65536 in
theorem w_heap : heapFits about1 = true := by decide +kernel
set_option maxRecDepth 65536 in
theorem w_runnable : about1.curStatus? = some .runnable := by decide +kernel
set_option maxRecDepth 65536 in
theorem w_alone : about1.alone = true := by decide +kernel
set_option maxRecDepth 65536 in
theorem w_named : about1.methodNamed? x = some theMethod := by decide +kernel
set_option maxRecDepth 65536 in
theorem w_hears : about1.hears theMethod below0 = true := by decide +kernel
set_option maxRecDepth 65536 in
theorem w_ripe : about1.ripe theMethod args0 below0 = true := by decide +kernel
theorem w_running : about1.status = .running := rfl
set_option maxRecDepth 65536 in
theorem w_room : about1.hasRoom e0.platform room_1 = true :=
  launch0.hasRoom_least _ room_1 (by decide +kernel) (by decide +kernel) (by decide +kernel) (by decide +kernel) (by decide +kernel) (by decide +kernel)
theorem allAtoms_all (ts : List Jvm.Cond) (a : Array Jvm.Value) (st : Jvm.State) : (allAtoms ts).before a st = ts.all (fun c => c.before a st) := by
  induction ts with
  | nil => rfl
  | cons c t ih =>
    show (Jvm.Cond.and c (allAtoms t)).before a st = _
    rw [Jvm.Cond.before_and, ih, List.all_cons]
def words1 : List Jvm.Cond := Jvm.Cond.code x code maxLocals ret :: tables_1
/-- a 'code' word, met by the world's own term for the bytes: nothing is compared byte by byte -/
theorem code_word {y : MethodName} {bytes : ByteArray} {mx : Nat} {rt : Option FieldType} {a : Array Value} {s : State} {m : MethodId} {meth : Method} {c : Code} (h1 : s.methodNamed? y = some m) (h2 : s.vm.method? m = some meth) (h3 : meth.code = some c) (h4 : c.code = bytes)
    (h5 : (c.maxLocals == mx && c.exceptionTable.isEmpty && decide (c.maxStack ≤ mostOperands) && decide (meth.sig.returnType = rt) && !meth.locks && decide (parseMethodDescriptor y.desc = some meth.sig)) = true) : (Jvm.Cond.code y bytes mx rt).before a s = true := by
  simp only [Bool.and_eq_true, beq_iff_eq, Bool.not_eq_true', decide_eq_true_eq] at h5
  obtain ⟨⟨⟨⟨⟨g1, g2⟩, g3⟩, g4⟩, g5⟩, g6⟩ := h5
  simp [Cond.before, Cond.holds, Cond.value, h1, h2, h3, h4, g1, g2, g3, g4, g5, g6]
def isCode : Jvm.Cond → Bool
  | .code _ _ _ _ => true
  | _ => false
theorem all_split {L : List Jvm.Cond} {P : Jvm.Cond → Bool} (h1 : L.all (fun c => isCode c || P c) = true) (h2 : ∀ c ∈ L.filter isCode, P c = true) : L.all P = true := by
  refine List.all_eq_true.mpr fun c hc => ?_
  have h := List.all_eq_true.mp h1 c hc
  rcases Bool.eq_false_or_eq_true (isCode c) with hi | hi
  · exact h2 c (List.mem_filter.mpr ⟨hc, hi⟩)
  · simpa [hi] using h
set_option maxRecDepth 65536 in
theorem w_c0 : (Jvm.Cond.code x code maxLocals ret).before args0 about1 = true := code_word (m := ⟨1, 4⟩) (meth := k1m4) (c := k1c4) (by decide +kernel) rfl rfl rfl (by decide +kernel)
set_option maxRecDepth 65536 in
theorem w_c1 : (Jvm.Cond.code ({ cls := "com/example/nanoparse/nanoparse/measure/WordsFindPinLaw", name := "plant", desc := "(JII)J" } : Jvm.MethodName) method_3_code (5 : Nat) (Option.some Jvm.ClassFile.FieldType.long)).before args0 about1 = true := code_word (m := ⟨1, 2⟩) (meth := k1m2) (c := k1c2) (by decide +kernel) rfl rfl rfl (by decide +kernel)
set_option maxRecDepth 65536 in
theorem w_c2 : (Jvm.Cond.code ({ cls := "com/example/nanoparse/nanoparse/measure/Words", name := "find", desc := "(JJ)J" } : Jvm.MethodName) prog_58_method_6_code (6 : Nat) (Option.some Jvm.ClassFile.FieldType.long)).before args0 about1 = true := code_word (m := ⟨2, 1⟩) (meth := k2m1) (c := k2c1) (by decide +kernel) rfl rfl rfl (by decide +kernel)
set_option maxRecDepth 65536 in
theorem w_c3 : (Jvm.Cond.code ({ cls := "com/example/nanoparse/nanoparse/measure/WordsFindPinLaw", name := "first", desc := "(JI)I" } : Jvm.MethodName) method_4_code (3 : Nat) (Option.some Jvm.ClassFile.FieldType.int)).before args0 about1 = true := code_word (m := ⟨1, 3⟩) (meth := k1m3) (c := k1c3) (by decide +kernel) rfl rfl rfl (by decide +kernel)
set_option maxRecDepth 65536 in
theorem w_c4 : (Jvm.Cond.code ({ cls := "com/example/nanoparse/nanoparse/measure/WordsFindPinLaw", name := "byteAt", desc := "(JI)I" } : Jvm.MethodName) method_2_code (3 : Nat) (Option.some Jvm.ClassFile.FieldType.int)).before args0 about1 = true := code_word (m := ⟨1, 1⟩) (meth := k1m1) (c := k1c1) (by decide +kernel) rfl rfl rfl (by decide +kernel)
def codes1 : List Jvm.Cond := [Jvm.Cond.code x code maxLocals ret, Jvm.Cond.code ({ cls := "com/example/nanoparse/nanoparse/measure/WordsFindPinLaw", name := "plant", desc := "(JII)J" } : Jvm.MethodName) method_3_code (5 : Nat) (Option.some Jvm.ClassFile.FieldType.long), Jvm.Cond.code ({ cls := "com/example/nanoparse/nanoparse/measure/Words", name := "find", desc := "(JJ)J" } : Jvm.MethodName) prog_58_method_6_code (6 : Nat) (Option.some Jvm.ClassFile.FieldType.long), Jvm.Cond.code ({ cls := "com/example/nanoparse/nanoparse/measure/WordsFindPinLaw", name := "first", desc := "(JI)I" } : Jvm.MethodName) method_4_code (3 : Nat) (Option.some Jvm.ClassFile.FieldType.int), Jvm.Cond.code ({ cls := "com/example/nanoparse/nanoparse/measure/WordsFindPinLaw", name := "byteAt", desc := "(JI)I" } : Jvm.MethodName) method_2_code (3 : Nat) (Option.some Jvm.ClassFile.FieldType.int)]
set_option maxRecDepth 65536 in
theorem codes_eq : words1.filter isCode = codes1 := rfl
theorem w_codes : ∀ c ∈ words1.filter isCode, c.before args0 about1 = true := by
  rw [codes_eq]
  intro c hc
  simp only [codes1, List.mem_cons, List.not_mem_nil, or_false] at hc
  rcases hc with rfl | rfl | rfl | rfl | rfl
  · exact w_c0
  · exact w_c1
  · exact w_c2
  · exact w_c3
  · exact w_c4
set_option maxRecDepth 65536 in
theorem w_t1 : words1.all (fun c => isCode c || c.before args0 about1) = true := by decide +kernel
theorem w_tables : (allAtoms (Jvm.Cond.code x code maxLocals ret :: tables_1)).before args0 about1 = true := by
  rw [allAtoms_all]
  show words1.all (fun c => c.before args0 about1) = true
  refine all_split ?_ w_codes
  rw [w_t1]
set_option maxRecDepth 65536 in
theorem w_case : (Jvm.Cond.and given_1 narrow_1).before args0 about1 = true := by decide +kernel
theorem w_applies : (headSpec (Jvm.Cond.code x code maxLocals ret :: tables_1) room_1).applies x e0.platform about1 = true :=
  (Spec.applies_iff w_frames).mpr ⟨w_running, w_runnable, w_alone, w_named, w_hears, w_ripe, w_room, w_tables⟩
theorem atStart : AtStart classFile x code maxLocals ret World_1 tables_1 room_1 Calls_1 rest_1 Pre_1 launch0 p0 e0 about1 theMethod args0 below0 :=
  ⟨lists_1, trivial, launch0.admits_env _ _ _, launch0.least_env, fairChoices_fair.cas, fairChoices_fair.clock, w_frames, w_args, w_heap, w_applies, trivial, trivial, w_case⟩
end start1
theorem witness_1 : WitnessClaimed_1 := ⟨start1.p0, start1.e0, start1.about1, start1.theMethod, start1.args0, start1.below0, start1.atStart⟩
end Jvm.Pilot.@@N@@
