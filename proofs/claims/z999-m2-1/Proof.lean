import JvmDerived
import JvmDerived.Pilot.@@N@@Statement
import JvmDerived.Pilot.@@N@@Code
set_option linter.unusedVariables false
set_option linter.unusedSimpArgs false
namespace Jvm.Pilot.@@N@@
open Jvm Jvm.ClassFile Sem Op Lib Jvm.Free Jvm.Stand Jvm.LawKit Jvm.RoadKit Bundle Jvm.Pilot.@@N@@.Jvm.D
def G (p : Program) (l : Launch) (e : Env) (R : Room) (s : State) (m : MethodId) (args : Array Value) (below : List Frame) (meth : Method) (c : Code) (n0 : Nat) (Q : State → Outcome → Prop) (h : Heap) (k n : Nat) (pc : Nat) (Ls : Array Slot) (st : List Value) : Prop :=
  ∀ T locs cells slots, Stand p l e R s m args below meth c T locs cells slots → Fr n0 locs → T.heap = h → cells ≤ k → slots ≤ n →
    ∃ s₂ o, Steps p.tables e below (T.setTop (mkF m pc Ls st)) s₂ ∧ s₂.status = .running ∧ Ended s₂ below o ∧ Q s₂ o
def KN (s : State) (R : Room) (n0 : Nat) (Q : Option Value → Heap → Prop) : State → Outcome → Prop := fun s₂ o => ∃ v L, o = .returned v ∧ (Q v s₂.heap ∧ Fr n0 L) ∧ FrameEnd s o s₂ L R.cells R.slots
def Cx (Z : State) (p : Program) (s : State) (m : MethodId) (meth : Method) (c : Code) (R : Room) (k n : Nat) (own nm : String) (code : ByteArray) (maxL : Nat) (ret : Option FieldType) : Prop :=
  p.tables.exec = Jvm.exec ∧ Z.Warmed39 s.vm ∧ s.vm.findClass own = some m.cls ∧ c.code = code ∧ c.maxLocals = maxL ∧ meth.sig.returnType = ret ∧ meth.name = nm ∧ meth.locks = false
def Dc (code : ByteArray) (pc : Nat) (i : Instr) (len pc' : Nat) : Prop := decode code pc = .ok (i, len) ∧ pc + len = pc'
def Bi (code : ByteArray) (pc : Nat) (f : Int → Instr) (pcY pcN : Nat) : Prop := ∃ o, decode code pc = .ok (f o, 3) ∧ 0 ≤ (pc : Int) + o ∧ ((pc : Int) + o).toNat = pcY ∧ pc + 3 = pcN
def Met (l : Launch) (Z : State) (y : MethodName) (bytes : ByteArray) (maxL : Nat) (ret : Option FieldType) (rm : Room) (as : Array Value) (h0 : Heap) (Q : Option Value → Heap → Prop) : Prop :=
  ∀ ws, MetFree l y (head1 (Jvm.Cond.code y bytes maxL ret :: ws) rm) (fun a U => a = as ∧ Z.Warmed39 U.vm ∧ U.heap = h0) (fun _ _ _ _ _ => True) (fun _ U o U' => ∃ v L, o = .returned v ∧ (Q v U'.heap ∧ Fr Z.heap.size L) ∧ FrameEnd U o U' L rm.cells rm.slots)

def Arx (Z : State) (h : Heap) (a : Addr) (k : ClassId) (ty : FieldType) (z : Int32) (vs : List Value) (dv : Value) (ad : String) : Prop := Arv Z h a k ty z vs dv ∧ Exa Z h a ad
section ArxS
variable {Z : State} {h h' : Heap} {a x : Addr} {k : ClassId} {ty : FieldType} {z : Int32} {vs vs' : List Value} {dv w : Value} {ad : String} {sl : Nat} {ws : List Addr}
theorem Arx.ext (F : Arx Z h a k ty z vs dv ad) (E : Ext h h') : Arx Z h' a k ty z vs dv ad := ⟨F.1.ext E, F.2.ext E⟩
theorem Arx.other (F : Arx Z h a k ty z vs dv ad) (W : Wr h h' x sl w) (q : a ≠ x) : Arx Z h' a k ty z vs dv ad := ⟨F.1.other W q, F.2.wr W⟩
theorem Arx.keep (F : Arx Z h a k ty z vs dv ad) (K : Keep h h' ws) (q : a ∉ ws) : Arx Z h' a k ty z vs dv ad := ⟨F.1.keep K q, F.2.keep K⟩
theorem Arx.lt (F : Arx Z h a k ty z vs dv ad) : a < h.size := F.1.lt
theorem Arx.pad (F : Arx Z h a k ty z vs dv ad) (q : ∀ i, vs'.getD i dv = vs.getD i dv) : Arx Z h a k ty z vs' dv ad := ⟨F.1.pad q, F.2⟩
theorem sto_of {C : String} {y : Addr} (A : Arx Z h a k ty z vs dv ad) (O : Ovr Z k C) (I : Ins Z h y C true) : Sto Z h a (.ref y) := by
  obtain ⟨⟨c, Ar, q, -⟩, -⟩ := A; exact Sto.ofV Ar q O I
theorem sto_ofA {C : String} {y : Addr} {t : FieldType} (A : Arx Z h a k ty z vs dv ad) (O : OvrA Z k t C) (I : Ins Z h y C true) : Sto Z h a (.ref y) := by
  obtain ⟨⟨c, Ar, q, -⟩, -⟩ := A; exact Sto.ofVA Ar q O I
end ArxS
section Walk
variable {p : Program} {l : Launch} {e : Env} {R : Room} {s : State} {m : MethodId} {args : Array Value} {below : List Frame} {meth : Method} {c : Code} {Z : State} {a0 : Array Value} {k n : Nat} {own nm : String} {code : ByteArray} {maxL : Nat} {ret : Option FieldType} {n0 : Nat} {Q : State → Outcome → Prop} {Qv : Option Value → Heap → Prop} {h : Heap} {pc pc' pcY pcN : Nat} {Ls : Array Slot} {st rest : List Value}
theorem G.mono {k' n' : Nat} (H : G p l e R s m args below meth c Z.heap.size Q h k n pc Ls st) (hk : k' ≤ k) (hn : n' ≤ n) : G p l e R s m args below meth c Z.heap.size Q h k' n' pc Ls st :=
  fun T locs cells slots X N eT a b => H T locs cells slots X N eT (Nat.le_trans a hk) (Nat.le_trans b hn)
theorem G.cast {st' : List Value} (H : G p l e R s m args below meth c Z.heap.size Q h k n pc Ls st') (q : st = st') : G p l e R s m args below meth c Z.heap.size Q h k n pc Ls st := q ▸ H
theorem met_of {y : MethodName} {bytes : ByteArray} {rm : Room} {as : Array Value} {h0 : Heap} (pn : plainFor y = true) (ef : ∀ m, entryFrame m as maxL = mkF m 0 Ls [])
    (body : ∀ p e s m below meth c, Cx Z p s m meth c rm 0 0 y.cls y.name bytes maxL ret → G p l e rm s m as below meth c Z.heap.size (KN s rm Z.heap.size Qv) h0 0 0 0 Ls []) : Met l Z y bytes maxL ret rm as h0 Qv := by
  intro ws
  refine MetFree.of_bodySF pn hisR ?_
  intro p e s m args below meth c s₁ Bd hml0 hP hK
  obtain ⟨rfl, hZ, hh⟩ := hP
  have e0 : s₁.heap = h0 := by rw [← hh, Bd.state]; rfl
  have X0 : Stand p l e rm s m args below meth c s₁ [] 0 0 := Stand.of_body Bd
  rw [ef m]
  exact body p e s m below meth c ⟨Bd.exec, hZ, findClass_of_methodNamed Bd.named, Bd.bytes, hml0, Bd.returns, (name_of_methodNamed Bd.named Bd.method).1, BodyLoose.notSynchronized Bd⟩ s₁ [] 0 0 X0 (Fr.nil _) e0 (Nat.le_refl _) (Nat.le_refl _)
theorem g_iloadN {kx nx : Nat} (cx : Cx Z p s m meth c R kx nx own nm code maxL ret) {i : Fin 4} {v : Int32} (d : Dc code pc (.iload_n i) 1 pc') (hl : Ls[i.val]? = some (.val (.int v))) (H : G p l e R s m args below meth c Z.heap.size Q h k n pc' Ls (.int v :: st)) : G p l e R s m args below meth c Z.heap.size Q h k n pc Ls st := by
  obtain ⟨hx, hZ, hown, rfl, hml, hret, hnm, -⟩ := cx
  obtain ⟨d, rfl⟩ := d
  intro T locs cells slots X N eT hk hn
  obtain ⟨s₂, o, st2, r⟩ := H T locs cells slots X N eT hk hn
  exact ⟨s₂, o, Jvm.Free.XS.iloadN X.here hx rfl d hl st2, r⟩
theorem g_iload {kx nx : Nat} (cx : Cx Z p s m meth c R kx nx own nm code maxL ret) {i : Nat} {v : Int32} (d : Dc code pc (.iload i) 2 pc') (hl : Ls[i]? = some (.val (.int v))) (H : G p l e R s m args below meth c Z.heap.size Q h k n pc' Ls (.int v :: st)) : G p l e R s m args below meth c Z.heap.size Q h k n pc Ls st := by
  obtain ⟨hx, hZ, hown, rfl, hml, hret, hnm, -⟩ := cx
  obtain ⟨d, rfl⟩ := d
  intro T locs cells slots X N eT hk hn
  obtain ⟨s₂, o, st2, r⟩ := H T locs cells slots X N eT hk hn
  exact ⟨s₂, o, Jvm.Free.XS.iload X.here hx rfl d hl st2, r⟩
theorem g_istoreN {kx nx : Nat} (cx : Cx Z p s m meth c R kx nx own nm code maxL ret) {i : Fin 4} {v : Int32} {Ls' : Array Slot} (d : Dc code pc (.istore_n i) 1 pc') (hl : storeLocals Ls i.val (.int v) = some Ls') (H : G p l e R s m args below meth c Z.heap.size Q h k n pc' Ls' st) : G p l e R s m args below meth c Z.heap.size Q h k n pc Ls (.int v :: st) := by
  obtain ⟨hx, hZ, hown, rfl, hml, hret, hnm, -⟩ := cx
  obtain ⟨d, rfl⟩ := d
  intro T locs cells slots X N eT hk hn
  obtain ⟨s₂, o, st2, r⟩ := H T locs cells slots X N eT hk hn
  exact ⟨s₂, o, Jvm.Free.XS.istoreN X.here hx rfl d rfl hl st2, r⟩
theorem g_istore {kx nx : Nat} (cx : Cx Z p s m meth c R kx nx own nm code maxL ret) {i : Nat} {v : Int32} {Ls' : Array Slot} (d : Dc code pc (.istore i) 2 pc') (hl : storeLocals Ls i (.int v) = some Ls') (H : G p l e R s m args below meth c Z.heap.size Q h k n pc' Ls' st) : G p l e R s m args below meth c Z.heap.size Q h k n pc Ls (.int v :: st) := by
  obtain ⟨hx, hZ, hown, rfl, hml, hret, hnm, -⟩ := cx
  obtain ⟨d, rfl⟩ := d
  intro T locs cells slots X N eT hk hn
  obtain ⟨s₂, o, st2, r⟩ := H T locs cells slots X N eT hk hn
  exact ⟨s₂, o, Jvm.Free.XS.istore X.here hx rfl d rfl hl st2, r⟩
theorem g_lloadN {kx nx : Nat} (cx : Cx Z p s m meth c R kx nx own nm code maxL ret) {i : Fin 4} {v : Int64} (d : Dc code pc (.lload_n i) 1 pc') (hl : Ls[i.val]? = some (.val (.long v))) (H : G p l e R s m args below meth c Z.heap.size Q h k n pc' Ls (.long v :: st)) : G p l e R s m args below meth c Z.heap.size Q h k n pc Ls st := by
  obtain ⟨hx, hZ, hown, rfl, hml, hret, hnm, -⟩ := cx
  obtain ⟨d, rfl⟩ := d
  intro T locs cells slots X N eT hk hn
  obtain ⟨s₂, o, st2, r⟩ := H T locs cells slots X N eT hk hn
  exact ⟨s₂, o, Jvm.Free.XS.lloadN X.here hx rfl d hl st2, r⟩
theorem g_lload {kx nx : Nat} (cx : Cx Z p s m meth c R kx nx own nm code maxL ret) {i : Nat} {v : Int64} (d : Dc code pc (.lload i) 2 pc') (hl : Ls[i]? = some (.val (.long v))) (H : G p l e R s m args below meth c Z.heap.size Q h k n pc' Ls (.long v :: st)) : G p l e R s m args below meth c Z.heap.size Q h k n pc Ls st := by
  obtain ⟨hx, hZ, hown, rfl, hml, hret, hnm, -⟩ := cx
  obtain ⟨d, rfl⟩ := d
  intro T locs cells slots X N eT hk hn
  obtain ⟨s₂, o, st2, r⟩ := H T locs cells slots X N eT hk hn
  exact ⟨s₂, o, Jvm.Free.XS.lload X.here hx rfl d hl st2, r⟩
theorem g_lstoreN {kx nx : Nat} (cx : Cx Z p s m meth c R kx nx own nm code maxL ret) {i : Fin 4} {v : Int64} {Ls' : Array Slot} (d : Dc code pc (.lstore_n i) 1 pc') (hl : storeLocals Ls i.val (.long v) = some Ls') (H : G p l e R s m args below meth c Z.heap.size Q h k n pc' Ls' st) : G p l e R s m args below meth c Z.heap.size Q h k n pc Ls (.long v :: st) := by
  obtain ⟨hx, hZ, hown, rfl, hml, hret, hnm, -⟩ := cx
  obtain ⟨d, rfl⟩ := d
  intro T locs cells slots X N eT hk hn
  obtain ⟨s₂, o, st2, r⟩ := H T locs cells slots X N eT hk hn
  exact ⟨s₂, o, Jvm.Free.XS.lstoreN X.here hx rfl d rfl hl st2, r⟩
theorem g_lstore {kx nx : Nat} (cx : Cx Z p s m meth c R kx nx own nm code maxL ret) {i : Nat} {v : Int64} {Ls' : Array Slot} (d : Dc code pc (.lstore i) 2 pc') (hl : storeLocals Ls i (.long v) = some Ls') (H : G p l e R s m args below meth c Z.heap.size Q h k n pc' Ls' st) : G p l e R s m args below meth c Z.heap.size Q h k n pc Ls (.long v :: st) := by
  obtain ⟨hx, hZ, hown, rfl, hml, hret, hnm, -⟩ := cx
  obtain ⟨d, rfl⟩ := d
  intro T locs cells slots X N eT hk hn
  obtain ⟨s₂, o, st2, r⟩ := H T locs cells slots X N eT hk hn
  exact ⟨s₂, o, Jvm.Free.XS.lstore X.here hx rfl d rfl hl st2, r⟩
theorem g_aloadN {kx nx : Nat} (cx : Cx Z p s m meth c R kx nx own nm code maxL ret) {i : Fin 4} {v : Value} (d : Dc code pc (.aload_n i) 1 pc') (hl : Ls[i.val]? = some (.val v)) (hv : v.isRef = true) (H : G p l e R s m args below meth c Z.heap.size Q h k n pc' Ls (v :: st)) : G p l e R s m args below meth c Z.heap.size Q h k n pc Ls st := by
  obtain ⟨hx, hZ, hown, rfl, hml, hret, hnm, -⟩ := cx
  obtain ⟨d, rfl⟩ := d
  intro T locs cells slots X N eT hk hn
  obtain ⟨s₂, o, st2, r⟩ := H T locs cells slots X N eT hk hn
  exact ⟨s₂, o, Jvm.Free.XS.aloadN X.here hx rfl d hl hv st2, r⟩
theorem g_aload {kx nx : Nat} (cx : Cx Z p s m meth c R kx nx own nm code maxL ret) {i : Nat} {v : Value} (d : Dc code pc (.aload i) 2 pc') (hl : Ls[i]? = some (.val v)) (hv : v.isRef = true) (H : G p l e R s m args below meth c Z.heap.size Q h k n pc' Ls (v :: st)) : G p l e R s m args below meth c Z.heap.size Q h k n pc Ls st := by
  obtain ⟨hx, hZ, hown, rfl, hml, hret, hnm, -⟩ := cx
  obtain ⟨d, rfl⟩ := d
  intro T locs cells slots X N eT hk hn
  obtain ⟨s₂, o, st2, r⟩ := H T locs cells slots X N eT hk hn
  exact ⟨s₂, o, Jvm.Free.XS.aload X.here hx rfl d hl hv st2, r⟩
theorem g_astoreN {kx nx : Nat} (cx : Cx Z p s m meth c R kx nx own nm code maxL ret) {i : Fin 4} {v : Value} {Ls' : Array Slot} (d : Dc code pc (.astore_n i) 1 pc') (hv : v.isRef = true) (hl : storeLocals Ls i.val v = some Ls') (H : G p l e R s m args below meth c Z.heap.size Q h k n pc' Ls' st) : G p l e R s m args below meth c Z.heap.size Q h k n pc Ls (v :: st) := by
  obtain ⟨hx, hZ, hown, rfl, hml, hret, hnm, -⟩ := cx
  obtain ⟨d, rfl⟩ := d
  intro T locs cells slots X N eT hk hn
  obtain ⟨s₂, o, st2, r⟩ := H T locs cells slots X N eT hk hn
  exact ⟨s₂, o, Jvm.Free.XS.astoreN X.here hx rfl d rfl hv hl st2, r⟩
theorem g_astore {kx nx : Nat} (cx : Cx Z p s m meth c R kx nx own nm code maxL ret) {i : Nat} {v : Value} {Ls' : Array Slot} (d : Dc code pc (.astore i) 2 pc') (hv : v.isRef = true) (hl : storeLocals Ls i v = some Ls') (H : G p l e R s m args below meth c Z.heap.size Q h k n pc' Ls' st) : G p l e R s m args below meth c Z.heap.size Q h k n pc Ls (v :: st) := by
  obtain ⟨hx, hZ, hown, rfl, hml, hret, hnm, -⟩ := cx
  obtain ⟨d, rfl⟩ := d
  intro T locs cells slots X N eT hk hn
  obtain ⟨s₂, o, st2, r⟩ := H T locs cells slots X N eT hk hn
  exact ⟨s₂, o, Jvm.Free.XS.astore X.here hx rfl d rfl hv hl st2, r⟩
theorem g_iconst {kx nx : Nat} (cx : Cx Z p s m meth c R kx nx own nm code maxL ret) {i : Int} {v : Int32} (d : Dc code pc (.iconst i) 1 pc') (hv : Int32.ofInt i = v) (H : G p l e R s m args below meth c Z.heap.size Q h k n pc' Ls (.int v :: st)) : G p l e R s m args below meth c Z.heap.size Q h k n pc Ls st := by
  obtain ⟨hx, hZ, hown, rfl, hml, hret, hnm, -⟩ := cx
  obtain ⟨d, rfl⟩ := d
  intro T locs cells slots X N eT hk hn
  obtain ⟨s₂, o, st2, r⟩ := H T locs cells slots X N eT hk hn
  exact ⟨s₂, o, Jvm.Free.XS.iconst X.here hx rfl d (by rw [hv]; exact st2), r⟩
theorem g_bipush {kx nx : Nat} (cx : Cx Z p s m meth c R kx nx own nm code maxL ret) {i : Int} {v : Int32} (d : Dc code pc (.bipush i) 2 pc') (hv : (Int8.ofInt i).toInt32 = v) (H : G p l e R s m args below meth c Z.heap.size Q h k n pc' Ls (.int v :: st)) : G p l e R s m args below meth c Z.heap.size Q h k n pc Ls st := by
  obtain ⟨hx, hZ, hown, rfl, hml, hret, hnm, -⟩ := cx
  obtain ⟨d, rfl⟩ := d
  intro T locs cells slots X N eT hk hn
  obtain ⟨s₂, o, st2, r⟩ := H T locs cells slots X N eT hk hn
  exact ⟨s₂, o, Jvm.Free.XS.bipush X.here hx rfl d (by rw [hv]; exact st2), r⟩
theorem g_sipush {kx nx : Nat} (cx : Cx Z p s m meth c R kx nx own nm code maxL ret) {i : Int} {v : Int32} (d : Dc code pc (.sipush i) 3 pc') (hv : (Int16.ofInt i).toInt32 = v) (H : G p l e R s m args below meth c Z.heap.size Q h k n pc' Ls (.int v :: st)) : G p l e R s m args below meth c Z.heap.size Q h k n pc Ls st := by
  obtain ⟨hx, hZ, hown, rfl, hml, hret, hnm, -⟩ := cx
  obtain ⟨d, rfl⟩ := d
  intro T locs cells slots X N eT hk hn
  obtain ⟨s₂, o, st2, r⟩ := H T locs cells slots X N eT hk hn
  exact ⟨s₂, o, Jvm.Free.XS.sipush X.here hx rfl d (by rw [hv]; exact st2), r⟩
theorem g_lconst {kx nx : Nat} (cx : Cx Z p s m meth c R kx nx own nm code maxL ret) {i : Fin 2} {v : Int64} (d : Dc code pc (.lconst i) 1 pc') (hv : Int64.ofNat i = v) (H : G p l e R s m args below meth c Z.heap.size Q h k n pc' Ls (.long v :: st)) : G p l e R s m args below meth c Z.heap.size Q h k n pc Ls st := by
  obtain ⟨hx, hZ, hown, rfl, hml, hret, hnm, -⟩ := cx
  obtain ⟨d, rfl⟩ := d
  intro T locs cells slots X N eT hk hn
  obtain ⟨s₂, o, st2, r⟩ := H T locs cells slots X N eT hk hn
  exact ⟨s₂, o, Jvm.Free.XS.lconst X.here hx rfl d (by rw [hv]; exact st2), r⟩
theorem g_aconst_null {kx nx : Nat} (cx : Cx Z p s m meth c R kx nx own nm code maxL ret)  (d : Dc code pc .aconst_null 1 pc') (H : G p l e R s m args below meth c Z.heap.size Q h k n pc' Ls (.null :: st)) : G p l e R s m args below meth c Z.heap.size Q h k n pc Ls st := by
  obtain ⟨hx, hZ, hown, rfl, hml, hret, hnm, -⟩ := cx
  obtain ⟨d, rfl⟩ := d
  intro T locs cells slots X N eT hk hn
  obtain ⟨s₂, o, st2, r⟩ := H T locs cells slots X N eT hk hn
  exact ⟨s₂, o, Jvm.Free.XS.aconstNull X.here hx rfl d  st2, r⟩
theorem g_iadd {kx nx : Nat} (cx : Cx Z p s m meth c R kx nx own nm code maxL ret) {x y : Int32} (d : Dc code pc .iadd 1 pc') (H : G p l e R s m args below meth c Z.heap.size Q h k n pc' Ls (.int (x + y) :: st)) : G p l e R s m args below meth c Z.heap.size Q h k n pc Ls (.int y :: .int x :: st) := by
  obtain ⟨hx, hZ, hown, rfl, hml, hret, hnm, -⟩ := cx
  obtain ⟨d, rfl⟩ := d
  intro T locs cells slots X N eT hk hn
  obtain ⟨s₂, o, st2, r⟩ := H T locs cells slots X N eT hk hn
  exact ⟨s₂, o, Jvm.Free.XS.iadd X.here hx rfl d rfl st2, r⟩
theorem g_ladd {kx nx : Nat} (cx : Cx Z p s m meth c R kx nx own nm code maxL ret) {x y : Int64} (d : Dc code pc .ladd 1 pc') (H : G p l e R s m args below meth c Z.heap.size Q h k n pc' Ls (.long (x + y) :: st)) : G p l e R s m args below meth c Z.heap.size Q h k n pc Ls (.long y :: .long x :: st) := by
  obtain ⟨hx, hZ, hown, rfl, hml, hret, hnm, -⟩ := cx
  obtain ⟨d, rfl⟩ := d
  intro T locs cells slots X N eT hk hn
  obtain ⟨s₂, o, st2, r⟩ := H T locs cells slots X N eT hk hn
  exact ⟨s₂, o, Jvm.Free.XS.ladd X.here hx rfl d rfl st2, r⟩
theorem g_isub {kx nx : Nat} (cx : Cx Z p s m meth c R kx nx own nm code maxL ret) {x y : Int32} (d : Dc code pc .isub 1 pc') (H : G p l e R s m args below meth c Z.heap.size Q h k n pc' Ls (.int (x - y) :: st)) : G p l e R s m args below meth c Z.heap.size Q h k n pc Ls (.int y :: .int x :: st) := by
  obtain ⟨hx, hZ, hown, rfl, hml, hret, hnm, -⟩ := cx
  obtain ⟨d, rfl⟩ := d
  intro T locs cells slots X N eT hk hn
  obtain ⟨s₂, o, st2, r⟩ := H T locs cells slots X N eT hk hn
  exact ⟨s₂, o, Jvm.Free.XS.isub X.here hx rfl d rfl st2, r⟩
theorem g_lsub {kx nx : Nat} (cx : Cx Z p s m meth c R kx nx own nm code maxL ret) {x y : Int64} (d : Dc code pc .lsub 1 pc') (H : G p l e R s m args below meth c Z.heap.size Q h k n pc' Ls (.long (x - y) :: st)) : G p l e R s m args below meth c Z.heap.size Q h k n pc Ls (.long y :: .long x :: st) := by
  obtain ⟨hx, hZ, hown, rfl, hml, hret, hnm, -⟩ := cx
  obtain ⟨d, rfl⟩ := d
  intro T locs cells slots X N eT hk hn
  obtain ⟨s₂, o, st2, r⟩ := H T locs cells slots X N eT hk hn
  exact ⟨s₂, o, Jvm.Free.XS.lsub X.here hx rfl d rfl st2, r⟩
theorem g_imul {kx nx : Nat} (cx : Cx Z p s m meth c R kx nx own nm code maxL ret) {x y : Int32} (d : Dc code pc .imul 1 pc') (H : G p l e R s m args below meth c Z.heap.size Q h k n pc' Ls (.int (x * y) :: st)) : G p l e R s m args below meth c Z.heap.size Q h k n pc Ls (.int y :: .int x :: st) := by
  obtain ⟨hx, hZ, hown, rfl, hml, hret, hnm, -⟩ := cx
  obtain ⟨d, rfl⟩ := d
  intro T locs cells slots X N eT hk hn
  obtain ⟨s₂, o, st2, r⟩ := H T locs cells slots X N eT hk hn
  exact ⟨s₂, o, Jvm.Free.XS.imul X.here hx rfl d rfl st2, r⟩
theorem g_lmul {kx nx : Nat} (cx : Cx Z p s m meth c R kx nx own nm code maxL ret) {x y : Int64} (d : Dc code pc .lmul 1 pc') (H : G p l e R s m args below meth c Z.heap.size Q h k n pc' Ls (.long (x * y) :: st)) : G p l e R s m args below meth c Z.heap.size Q h k n pc Ls (.long y :: .long x :: st) := by
  obtain ⟨hx, hZ, hown, rfl, hml, hret, hnm, -⟩ := cx
  obtain ⟨d, rfl⟩ := d
  intro T locs cells slots X N eT hk hn
  obtain ⟨s₂, o, st2, r⟩ := H T locs cells slots X N eT hk hn
  exact ⟨s₂, o, Jvm.Free.XS.lmul X.here hx rfl d rfl st2, r⟩
theorem g_iand {kx nx : Nat} (cx : Cx Z p s m meth c R kx nx own nm code maxL ret) {x y : Int32} (d : Dc code pc .iand 1 pc') (H : G p l e R s m args below meth c Z.heap.size Q h k n pc' Ls (.int (x &&& y) :: st)) : G p l e R s m args below meth c Z.heap.size Q h k n pc Ls (.int y :: .int x :: st) := by
  obtain ⟨hx, hZ, hown, rfl, hml, hret, hnm, -⟩ := cx
  obtain ⟨d, rfl⟩ := d
  intro T locs cells slots X N eT hk hn
  obtain ⟨s₂, o, st2, r⟩ := H T locs cells slots X N eT hk hn
  exact ⟨s₂, o, Jvm.Free.XS.iand X.here hx rfl d rfl st2, r⟩
theorem g_land {kx nx : Nat} (cx : Cx Z p s m meth c R kx nx own nm code maxL ret) {x y : Int64} (d : Dc code pc .land 1 pc') (H : G p l e R s m args below meth c Z.heap.size Q h k n pc' Ls (.long (x &&& y) :: st)) : G p l e R s m args below meth c Z.heap.size Q h k n pc Ls (.long y :: .long x :: st) := by
  obtain ⟨hx, hZ, hown, rfl, hml, hret, hnm, -⟩ := cx
  obtain ⟨d, rfl⟩ := d
  intro T locs cells slots X N eT hk hn
  obtain ⟨s₂, o, st2, r⟩ := H T locs cells slots X N eT hk hn
  exact ⟨s₂, o, Jvm.Free.XS.land X.here hx rfl d rfl st2, r⟩
theorem g_ior {kx nx : Nat} (cx : Cx Z p s m meth c R kx nx own nm code maxL ret) {x y : Int32} (d : Dc code pc .ior 1 pc') (H : G p l e R s m args below meth c Z.heap.size Q h k n pc' Ls (.int (x ||| y) :: st)) : G p l e R s m args below meth c Z.heap.size Q h k n pc Ls (.int y :: .int x :: st) := by
  obtain ⟨hx, hZ, hown, rfl, hml, hret, hnm, -⟩ := cx
  obtain ⟨d, rfl⟩ := d
  intro T locs cells slots X N eT hk hn
  obtain ⟨s₂, o, st2, r⟩ := H T locs cells slots X N eT hk hn
  exact ⟨s₂, o, Jvm.Free.XS.ior X.here hx rfl d rfl st2, r⟩
theorem g_lor {kx nx : Nat} (cx : Cx Z p s m meth c R kx nx own nm code maxL ret) {x y : Int64} (d : Dc code pc .lor 1 pc') (H : G p l e R s m args below meth c Z.heap.size Q h k n pc' Ls (.long (x ||| y) :: st)) : G p l e R s m args below meth c Z.heap.size Q h k n pc Ls (.long y :: .long x :: st) := by
  obtain ⟨hx, hZ, hown, rfl, hml, hret, hnm, -⟩ := cx
  obtain ⟨d, rfl⟩ := d
  intro T locs cells slots X N eT hk hn
  obtain ⟨s₂, o, st2, r⟩ := H T locs cells slots X N eT hk hn
  exact ⟨s₂, o, Jvm.Free.XS.lor X.here hx rfl d rfl st2, r⟩
theorem g_ixor {kx nx : Nat} (cx : Cx Z p s m meth c R kx nx own nm code maxL ret) {x y : Int32} (d : Dc code pc .ixor 1 pc') (H : G p l e R s m args below meth c Z.heap.size Q h k n pc' Ls (.int (x ^^^ y) :: st)) : G p l e R s m args below meth c Z.heap.size Q h k n pc Ls (.int y :: .int x :: st) := by
  obtain ⟨hx, hZ, hown, rfl, hml, hret, hnm, -⟩ := cx
  obtain ⟨d, rfl⟩ := d
  intro T locs cells slots X N eT hk hn
  obtain ⟨s₂, o, st2, r⟩ := H T locs cells slots X N eT hk hn
  exact ⟨s₂, o, Jvm.Free.XS.ixor X.here hx rfl d rfl st2, r⟩
theorem g_lxor {kx nx : Nat} (cx : Cx Z p s m meth c R kx nx own nm code maxL ret) {x y : Int64} (d : Dc code pc .lxor 1 pc') (H : G p l e R s m args below meth c Z.heap.size Q h k n pc' Ls (.long (x ^^^ y) :: st)) : G p l e R s m args below meth c Z.heap.size Q h k n pc Ls (.long y :: .long x :: st) := by
  obtain ⟨hx, hZ, hown, rfl, hml, hret, hnm, -⟩ := cx
  obtain ⟨d, rfl⟩ := d
  intro T locs cells slots X N eT hk hn
  obtain ⟨s₂, o, st2, r⟩ := H T locs cells slots X N eT hk hn
  exact ⟨s₂, o, Jvm.Free.XS.lxor X.here hx rfl d rfl st2, r⟩
theorem g_ishl {kx nx : Nat} (cx : Cx Z p s m meth c R kx nx own nm code maxL ret) {x : Int32} {y : Int32} (d : Dc code pc .ishl 1 pc') (H : G p l e R s m args below meth c Z.heap.size Q h k n pc' Ls (.int (x <<< (y &&& 31)) :: st)) : G p l e R s m args below meth c Z.heap.size Q h k n pc Ls (.int y :: .int x :: st) := by
  obtain ⟨hx, hZ, hown, rfl, hml, hret, hnm, -⟩ := cx
  obtain ⟨d, rfl⟩ := d
  intro T locs cells slots X N eT hk hn
  obtain ⟨s₂, o, st2, r⟩ := H T locs cells slots X N eT hk hn
  exact ⟨s₂, o, Jvm.Free.XS.ishl X.here hx rfl d rfl st2, r⟩
theorem g_ishr {kx nx : Nat} (cx : Cx Z p s m meth c R kx nx own nm code maxL ret) {x : Int32} {y : Int32} (d : Dc code pc .ishr 1 pc') (H : G p l e R s m args below meth c Z.heap.size Q h k n pc' Ls (.int (x >>> (y &&& 31)) :: st)) : G p l e R s m args below meth c Z.heap.size Q h k n pc Ls (.int y :: .int x :: st) := by
  obtain ⟨hx, hZ, hown, rfl, hml, hret, hnm, -⟩ := cx
  obtain ⟨d, rfl⟩ := d
  intro T locs cells slots X N eT hk hn
  obtain ⟨s₂, o, st2, r⟩ := H T locs cells slots X N eT hk hn
  exact ⟨s₂, o, Jvm.Free.XS.ishr X.here hx rfl d rfl st2, r⟩
theorem g_iushr {kx nx : Nat} (cx : Cx Z p s m meth c R kx nx own nm code maxL ret) {x : Int32} {y : Int32} (d : Dc code pc .iushr 1 pc') (H : G p l e R s m args below meth c Z.heap.size Q h k n pc' Ls (.int ((x.toUInt32 >>> (y &&& 31).toUInt32).toInt32) :: st)) : G p l e R s m args below meth c Z.heap.size Q h k n pc Ls (.int y :: .int x :: st) := by
  obtain ⟨hx, hZ, hown, rfl, hml, hret, hnm, -⟩ := cx
  obtain ⟨d, rfl⟩ := d
  intro T locs cells slots X N eT hk hn
  obtain ⟨s₂, o, st2, r⟩ := H T locs cells slots X N eT hk hn
  exact ⟨s₂, o, Jvm.Free.XS.iushr X.here hx rfl d rfl st2, r⟩
theorem g_lshl {kx nx : Nat} (cx : Cx Z p s m meth c R kx nx own nm code maxL ret) {x : Int64} {y : Int32} (d : Dc code pc .lshl 1 pc') (H : G p l e R s m args below meth c Z.heap.size Q h k n pc' Ls (.long (x <<< (y &&& 0x3f).toInt64) :: st)) : G p l e R s m args below meth c Z.heap.size Q h k n pc Ls (.int y :: .long x :: st) := by
  obtain ⟨hx, hZ, hown, rfl, hml, hret, hnm, -⟩ := cx
  obtain ⟨d, rfl⟩ := d
  intro T locs cells slots X N eT hk hn
  obtain ⟨s₂, o, st2, r⟩ := H T locs cells slots X N eT hk hn
  exact ⟨s₂, o, Jvm.Free.XS.lshl X.here hx rfl d rfl st2, r⟩
theorem g_lshr {kx nx : Nat} (cx : Cx Z p s m meth c R kx nx own nm code maxL ret) {x : Int64} {y : Int32} (d : Dc code pc .lshr 1 pc') (H : G p l e R s m args below meth c Z.heap.size Q h k n pc' Ls (.long (x >>> (y &&& 0x3f).toInt64) :: st)) : G p l e R s m args below meth c Z.heap.size Q h k n pc Ls (.int y :: .long x :: st) := by
  obtain ⟨hx, hZ, hown, rfl, hml, hret, hnm, -⟩ := cx
  obtain ⟨d, rfl⟩ := d
  intro T locs cells slots X N eT hk hn
  obtain ⟨s₂, o, st2, r⟩ := H T locs cells slots X N eT hk hn
  exact ⟨s₂, o, Jvm.Free.XS.lshr X.here hx rfl d rfl st2, r⟩
theorem g_lushr {kx nx : Nat} (cx : Cx Z p s m meth c R kx nx own nm code maxL ret) {x : Int64} {y : Int32} (d : Dc code pc .lushr 1 pc') (H : G p l e R s m args below meth c Z.heap.size Q h k n pc' Ls (.long ((x.toUInt64 >>> (y &&& 0x3f).toInt64.toUInt64).toInt64) :: st)) : G p l e R s m args below meth c Z.heap.size Q h k n pc Ls (.int y :: .long x :: st) := by
  obtain ⟨hx, hZ, hown, rfl, hml, hret, hnm, -⟩ := cx
  obtain ⟨d, rfl⟩ := d
  intro T locs cells slots X N eT hk hn
  obtain ⟨s₂, o, st2, r⟩ := H T locs cells slots X N eT hk hn
  exact ⟨s₂, o, Jvm.Free.XS.lushr X.here hx rfl d rfl st2, r⟩
theorem g_ineg {kx nx : Nat} (cx : Cx Z p s m meth c R kx nx own nm code maxL ret) {x : Int32} (d : Dc code pc .ineg 1 pc') (H : G p l e R s m args below meth c Z.heap.size Q h k n pc' Ls (.int (-x) :: st)) : G p l e R s m args below meth c Z.heap.size Q h k n pc Ls (.int x :: st) := by
  obtain ⟨hx, hZ, hown, rfl, hml, hret, hnm, -⟩ := cx
  obtain ⟨d, rfl⟩ := d
  intro T locs cells slots X N eT hk hn
  obtain ⟨s₂, o, st2, r⟩ := H T locs cells slots X N eT hk hn
  exact ⟨s₂, o, Jvm.Free.XS.ineg X.here hx rfl d rfl st2, r⟩
theorem g_lneg {kx nx : Nat} (cx : Cx Z p s m meth c R kx nx own nm code maxL ret) {x : Int64} (d : Dc code pc .lneg 1 pc') (H : G p l e R s m args below meth c Z.heap.size Q h k n pc' Ls (.long (-x) :: st)) : G p l e R s m args below meth c Z.heap.size Q h k n pc Ls (.long x :: st) := by
  obtain ⟨hx, hZ, hown, rfl, hml, hret, hnm, -⟩ := cx
  obtain ⟨d, rfl⟩ := d
  intro T locs cells slots X N eT hk hn
  obtain ⟨s₂, o, st2, r⟩ := H T locs cells slots X N eT hk hn
  exact ⟨s₂, o, Jvm.Free.XS.lneg X.here hx rfl d rfl st2, r⟩
theorem g_i2l {kx nx : Nat} (cx : Cx Z p s m meth c R kx nx own nm code maxL ret) {x : Int32} (d : Dc code pc .i2l 1 pc') (H : G p l e R s m args below meth c Z.heap.size Q h k n pc' Ls (.long (x.toInt64) :: st)) : G p l e R s m args below meth c Z.heap.size Q h k n pc Ls (.int x :: st) := by
  obtain ⟨hx, hZ, hown, rfl, hml, hret, hnm, -⟩ := cx
  obtain ⟨d, rfl⟩ := d
  intro T locs cells slots X N eT hk hn
  obtain ⟨s₂, o, st2, r⟩ := H T locs cells slots X N eT hk hn
  exact ⟨s₂, o, Jvm.Free.XS.i2l X.here hx rfl d rfl st2, r⟩
theorem g_l2i {kx nx : Nat} (cx : Cx Z p s m meth c R kx nx own nm code maxL ret) {x : Int64} (d : Dc code pc .l2i 1 pc') (H : G p l e R s m args below meth c Z.heap.size Q h k n pc' Ls (.int (x.toInt32) :: st)) : G p l e R s m args below meth c Z.heap.size Q h k n pc Ls (.long x :: st) := by
  obtain ⟨hx, hZ, hown, rfl, hml, hret, hnm, -⟩ := cx
  obtain ⟨d, rfl⟩ := d
  intro T locs cells slots X N eT hk hn
  obtain ⟨s₂, o, st2, r⟩ := H T locs cells slots X N eT hk hn
  exact ⟨s₂, o, Jvm.Free.XS.l2i X.here hx rfl d rfl st2, r⟩
theorem g_i2b {kx nx : Nat} (cx : Cx Z p s m meth c R kx nx own nm code maxL ret) {x : Int32} (d : Dc code pc .i2b 1 pc') (H : G p l e R s m args below meth c Z.heap.size Q h k n pc' Ls (.int (x.toInt8.toInt32) :: st)) : G p l e R s m args below meth c Z.heap.size Q h k n pc Ls (.int x :: st) := by
  obtain ⟨hx, hZ, hown, rfl, hml, hret, hnm, -⟩ := cx
  obtain ⟨d, rfl⟩ := d
  intro T locs cells slots X N eT hk hn
  obtain ⟨s₂, o, st2, r⟩ := H T locs cells slots X N eT hk hn
  exact ⟨s₂, o, Jvm.Free.XS.i2b X.here hx rfl d rfl st2, r⟩
theorem g_i2s {kx nx : Nat} (cx : Cx Z p s m meth c R kx nx own nm code maxL ret) {x : Int32} (d : Dc code pc .i2s 1 pc') (H : G p l e R s m args below meth c Z.heap.size Q h k n pc' Ls (.int (x.toInt16.toInt32) :: st)) : G p l e R s m args below meth c Z.heap.size Q h k n pc Ls (.int x :: st) := by
  obtain ⟨hx, hZ, hown, rfl, hml, hret, hnm, -⟩ := cx
  obtain ⟨d, rfl⟩ := d
  intro T locs cells slots X N eT hk hn
  obtain ⟨s₂, o, st2, r⟩ := H T locs cells slots X N eT hk hn
  exact ⟨s₂, o, Jvm.Free.XS.i2s X.here hx rfl d rfl st2, r⟩
theorem g_i2c {kx nx : Nat} (cx : Cx Z p s m meth c R kx nx own nm code maxL ret) {x : Int32} (d : Dc code pc .i2c 1 pc') (H : G p l e R s m args below meth c Z.heap.size Q h k n pc' Ls (.int (x.toUInt32.toUInt16.toUInt32.toInt32) :: st)) : G p l e R s m args below meth c Z.heap.size Q h k n pc Ls (.int x :: st) := by
  obtain ⟨hx, hZ, hown, rfl, hml, hret, hnm, -⟩ := cx
  obtain ⟨d, rfl⟩ := d
  intro T locs cells slots X N eT hk hn
  obtain ⟨s₂, o, st2, r⟩ := H T locs cells slots X N eT hk hn
  exact ⟨s₂, o, Jvm.Free.XS.i2c X.here hx rfl d rfl st2, r⟩
theorem g_idiv {kx nx : Nat} (cx : Cx Z p s m meth c R kx nx own nm code maxL ret) {x y : Int32} (d : Dc code pc .idiv 1 pc') (hy : y ≠ 0) (H : G p l e R s m args below meth c Z.heap.size Q h k n pc' Ls (.int (x / y) :: st)) : G p l e R s m args below meth c Z.heap.size Q h k n pc Ls (.int y :: .int x :: st) := by
  obtain ⟨hx, hZ, hown, rfl, hml, hret, hnm, -⟩ := cx
  obtain ⟨d, rfl⟩ := d
  intro T locs cells slots X N eT hk hn
  obtain ⟨s₂, o, st2, r⟩ := H T locs cells slots X N eT hk hn
  exact ⟨s₂, o, Jvm.Free.XS.idiv X.here hx rfl d rfl hy st2, r⟩
theorem g_ldiv {kx nx : Nat} (cx : Cx Z p s m meth c R kx nx own nm code maxL ret) {x y : Int64} (d : Dc code pc .ldiv 1 pc') (hy : y ≠ 0) (H : G p l e R s m args below meth c Z.heap.size Q h k n pc' Ls (.long (x / y) :: st)) : G p l e R s m args below meth c Z.heap.size Q h k n pc Ls (.long y :: .long x :: st) := by
  obtain ⟨hx, hZ, hown, rfl, hml, hret, hnm, -⟩ := cx
  obtain ⟨d, rfl⟩ := d
  intro T locs cells slots X N eT hk hn
  obtain ⟨s₂, o, st2, r⟩ := H T locs cells slots X N eT hk hn
  exact ⟨s₂, o, Jvm.Free.XS.ldiv X.here hx rfl d rfl hy st2, r⟩
theorem g_irem {kx nx : Nat} (cx : Cx Z p s m meth c R kx nx own nm code maxL ret) {x y : Int32} (d : Dc code pc .irem 1 pc') (hy : y ≠ 0) (H : G p l e R s m args below meth c Z.heap.size Q h k n pc' Ls (.int (x % y) :: st)) : G p l e R s m args below meth c Z.heap.size Q h k n pc Ls (.int y :: .int x :: st) := by
  obtain ⟨hx, hZ, hown, rfl, hml, hret, hnm, -⟩ := cx
  obtain ⟨d, rfl⟩ := d
  intro T locs cells slots X N eT hk hn
  obtain ⟨s₂, o, st2, r⟩ := H T locs cells slots X N eT hk hn
  exact ⟨s₂, o, Jvm.Free.XS.irem X.here hx rfl d rfl hy (by rw [irem_eq_mod]; exact st2), r⟩
theorem g_lrem {kx nx : Nat} (cx : Cx Z p s m meth c R kx nx own nm code maxL ret) {x y : Int64} (d : Dc code pc .lrem 1 pc') (hy : y ≠ 0) (H : G p l e R s m args below meth c Z.heap.size Q h k n pc' Ls (.long (x % y) :: st)) : G p l e R s m args below meth c Z.heap.size Q h k n pc Ls (.long y :: .long x :: st) := by
  obtain ⟨hx, hZ, hown, rfl, hml, hret, hnm, -⟩ := cx
  obtain ⟨d, rfl⟩ := d
  intro T locs cells slots X N eT hk hn
  obtain ⟨s₂, o, st2, r⟩ := H T locs cells slots X N eT hk hn
  exact ⟨s₂, o, Jvm.Free.XS.lrem X.here hx rfl d rfl hy (by rw [lrem_mod]; exact st2), r⟩
theorem g_iinc {kx nx : Nat} (cx : Cx Z p s m meth c R kx nx own nm code maxL ret) {i : Nat} {z : Int} {x v : Int32} {Ls' : Array Slot} (d : Dc code pc (.iinc i z) 3 pc') (hl : Ls[i]? = some (.val (.int x))) (hv : Int32.ofInt z = v) (hl' : storeLocals Ls i (.int (x + v)) = some Ls') (H : G p l e R s m args below meth c Z.heap.size Q h k n pc' Ls' st) : G p l e R s m args below meth c Z.heap.size Q h k n pc Ls st := by
  obtain ⟨hx, hZ, hown, rfl, hml, hret, hnm, -⟩ := cx
  obtain ⟨d, rfl⟩ := d
  intro T locs cells slots X N eT hk hn
  obtain ⟨s₂, o, st2, r⟩ := H T locs cells slots X N eT hk hn
  exact ⟨s₂, o, Jvm.Free.XS.iinc X.here hx rfl d hl (by rw [hv]; exact hl') st2, r⟩
theorem g_dup {kx nx : Nat} (cx : Cx Z p s m meth c R kx nx own nm code maxL ret) {v : Value} (d : Dc code pc .dup 1 pc') (hc : v.category = 1) (H : G p l e R s m args below meth c Z.heap.size Q h k n pc' Ls (v :: v :: st)) : G p l e R s m args below meth c Z.heap.size Q h k n pc Ls (v :: st) := by
  obtain ⟨hx, hZ, hown, rfl, hml, hret, hnm, -⟩ := cx
  obtain ⟨d, rfl⟩ := d
  intro T locs cells slots X N eT hk hn
  obtain ⟨s₂, o, st2, r⟩ := H T locs cells slots X N eT hk hn
  exact ⟨s₂, o, Jvm.Free.XS.dup X.here hx rfl d rfl hc st2, r⟩
theorem g_pop {kx nx : Nat} (cx : Cx Z p s m meth c R kx nx own nm code maxL ret) {v : Value} (d : Dc code pc .pop 1 pc') (hc : v.category = 1) (H : G p l e R s m args below meth c Z.heap.size Q h k n pc' Ls st) : G p l e R s m args below meth c Z.heap.size Q h k n pc Ls (v :: st) := by
  obtain ⟨hx, hZ, hown, rfl, hml, hret, hnm, -⟩ := cx
  obtain ⟨d, rfl⟩ := d
  intro T locs cells slots X N eT hk hn
  obtain ⟨s₂, o, st2, r⟩ := H T locs cells slots X N eT hk hn
  exact ⟨s₂, o, Jvm.Free.XS.pop X.here hx rfl d rfl hc st2, r⟩
theorem g_dup_x1 {kx nx : Nat} (cx : Cx Z p s m meth c R kx nx own nm code maxL ret) {v w : Value} (d : Dc code pc .dup_x1 1 pc') (hc : v.category = 1) (hc2 : w.category = 1) (H : G p l e R s m args below meth c Z.heap.size Q h k n pc' Ls (v :: w :: v :: st)) : G p l e R s m args below meth c Z.heap.size Q h k n pc Ls (v :: w :: st) := by
  obtain ⟨hx, hZ, hown, rfl, hml, hret, hnm, -⟩ := cx
  obtain ⟨d, rfl⟩ := d
  intro T locs cells slots X N eT hk hn
  obtain ⟨s₂, o, st2, r⟩ := H T locs cells slots X N eT hk hn
  exact ⟨s₂, o, Jvm.Free.XS.dupX1 X.here hx rfl d rfl hc hc2 st2, r⟩
theorem g_dup2 {kx nx : Nat} (cx : Cx Z p s m meth c R kx nx own nm code maxL ret) {v w : Value} (d : Dc code pc .dup2 1 pc') (hc : v.category = 1) (hc2 : w.category = 1) (H : G p l e R s m args below meth c Z.heap.size Q h k n pc' Ls (v :: w :: v :: w :: st)) : G p l e R s m args below meth c Z.heap.size Q h k n pc Ls (v :: w :: st) := by
  obtain ⟨hx, hZ, hown, rfl, hml, hret, hnm, -⟩ := cx
  obtain ⟨d, rfl⟩ := d
  intro T locs cells slots X N eT hk hn
  obtain ⟨s₂, o, st2, r⟩ := H T locs cells slots X N eT hk hn
  exact ⟨s₂, o, Jvm.Free.XT.dup2 X.here hx rfl d rfl hc hc2 st2, r⟩
theorem g_dup2L {kx nx : Nat} (cx : Cx Z p s m meth c R kx nx own nm code maxL ret) {v : Int64} (d : Dc code pc .dup2 1 pc') (H : G p l e R s m args below meth c Z.heap.size Q h k n pc' Ls (.long v :: .long v :: st)) : G p l e R s m args below meth c Z.heap.size Q h k n pc Ls (.long v :: st) := by
  obtain ⟨hx, hZ, hown, rfl, hml, hret, hnm, -⟩ := cx
  obtain ⟨d, rfl⟩ := d
  intro T locs cells slots X N eT hk hn
  obtain ⟨s₂, o, st2, r⟩ := H T locs cells slots X N eT hk hn
  exact ⟨s₂, o, Jvm.Free.XT.dup2L X.here hx rfl d rfl st2, r⟩
theorem g_goto {kx nx : Nat} (cx : Cx Z p s m meth c R kx nx own nm code maxL ret) (d : Bi code pc Instr.goto pcY pcN) (H : G p l e R s m args below meth c Z.heap.size Q h k n pcY Ls st) : G p l e R s m args below meth c Z.heap.size Q h k n pc Ls st := by
  obtain ⟨hx, hZ, hown, rfl, hml, hret, hnm, -⟩ := cx
  obtain ⟨o', d, ho, rfl, rfl⟩ := d
  intro T locs cells slots X N eT hk hn
  obtain ⟨s₂, o, st2, r⟩ := H T locs cells slots X N eT hk hn
  exact ⟨s₂, o, Jvm.Free.XS.goto X.here hx rfl (pc0 := pc) rfl d ho rfl st2, r⟩
theorem g_ifB {kx nx : Nat} (cx : Cx Z p s m meth c R kx nx own nm code maxL ret) {cd : ClassFile.Cond} {x : Int32} (d : Bi code pc (Instr.ifCond cd) pcY pcN) (HY : if_icmp.holds cd x 0 = true → G p l e R s m args below meth c Z.heap.size Q h k n pcY Ls st) (HN : if_icmp.holds cd x 0 = false → G p l e R s m args below meth c Z.heap.size Q h k n pcN Ls st) : G p l e R s m args below meth c Z.heap.size Q h k n pc Ls (.int x :: st) := by
  obtain ⟨hx, hZ, hown, rfl, hml, hret, hnm, -⟩ := cx
  obtain ⟨o', d, ho, rfl, rfl⟩ := d
  intro T locs cells slots X N eT hk hn
  cases hc : if_icmp.holds cd x 0
  · obtain ⟨s₂, o, st2, r⟩ := HN hc T locs cells slots X N eT hk hn
    exact ⟨s₂, o, Jvm.Free.XS.ifNo X.here hx rfl d rfl ((if0 _ _).trans hc) st2, r⟩
  · obtain ⟨s₂, o, st2, r⟩ := HY hc T locs cells slots X N eT hk hn
    exact ⟨s₂, o, Jvm.Free.XS.ifYes X.here hx rfl (pc0 := pc) rfl d rfl ((if0 _ _).trans hc) ho rfl st2, r⟩
theorem g_icmpB {kx nx : Nat} (cx : Cx Z p s m meth c R kx nx own nm code maxL ret) {cd : ClassFile.Cond} {x y : Int32} (d : Bi code pc (Instr.if_icmp cd) pcY pcN) (HY : if_icmp.holds cd x y = true → G p l e R s m args below meth c Z.heap.size Q h k n pcY Ls st) (HN : if_icmp.holds cd x y = false → G p l e R s m args below meth c Z.heap.size Q h k n pcN Ls st) : G p l e R s m args below meth c Z.heap.size Q h k n pc Ls (.int y :: .int x :: st) := by
  obtain ⟨hx, hZ, hown, rfl, hml, hret, hnm, -⟩ := cx
  obtain ⟨o', d, ho, rfl, rfl⟩ := d
  intro T locs cells slots X N eT hk hn
  cases hc : if_icmp.holds cd x y
  · obtain ⟨s₂, o, st2, r⟩ := HN hc T locs cells slots X N eT hk hn
    exact ⟨s₂, o, Jvm.Free.XS.icmpNo X.here hx rfl d rfl hc st2, r⟩
  · obtain ⟨s₂, o, st2, r⟩ := HY hc T locs cells slots X N eT hk hn
    exact ⟨s₂, o, Jvm.Free.XS.icmpYes X.here hx rfl (pc0 := pc) rfl d rfl hc ho rfl st2, r⟩
theorem h_eq {x y : Int32} : if_icmp.holds .eq x y = decide (x = y) := by by_cases h : x = y <;> simp [if_icmp.holds, h]
theorem h_ne {x y : Int32} : if_icmp.holds .ne x y = !decide (x = y) := by by_cases h : x = y <;> simp [if_icmp.holds, h]
theorem h_lt {x y : Int32} : if_icmp.holds .lt x y = decide (x < y) := by by_cases h : x < y <;> simp [if_icmp.holds, h]
theorem h_ge {x y : Int32} : if_icmp.holds .ge x y = !decide (x < y) := by by_cases h : x < y <;> simp [if_icmp.holds, h, Int32.not_le.mpr, Int32.not_lt.mp]
theorem h_gt {x y : Int32} : if_icmp.holds .gt x y = decide (y < x) := by by_cases h : y < x <;> simp [if_icmp.holds, h]
theorem h_le {x y : Int32} : if_icmp.holds .le x y = !decide (y < x) := by by_cases h : y < x <;> simp [if_icmp.holds, h, Int32.not_le.mpr, Int32.not_lt.mp]
theorem g_if_eq {kx nx : Nat} (cx : Cx Z p s m meth c R kx nx own nm code maxL ret) {x : Int32} (d : Bi code pc (Instr.ifCond .eq) pcY pcN) (HY : x = 0 → G p l e R s m args below meth c Z.heap.size Q h k n pcY Ls st) (HN : ¬ x = 0 → G p l e R s m args below meth c Z.heap.size Q h k n pcN Ls st) : G p l e R s m args below meth c Z.heap.size Q h k n pc Ls (.int x :: st) :=
  g_ifB cx d (fun q => HY (by rw [h_eq] at q; simpa using q)) (fun q => HN (by rw [h_eq] at q; simpa using q))
theorem g_icmp_eq {kx nx : Nat} (cx : Cx Z p s m meth c R kx nx own nm code maxL ret) {x y : Int32} (d : Bi code pc (Instr.if_icmp .eq) pcY pcN) (HY : x = y → G p l e R s m args below meth c Z.heap.size Q h k n pcY Ls st) (HN : ¬ x = y → G p l e R s m args below meth c Z.heap.size Q h k n pcN Ls st) : G p l e R s m args below meth c Z.heap.size Q h k n pc Ls (.int y :: .int x :: st) :=
  g_icmpB cx d (fun q => HY (by rw [h_eq] at q; simpa using q)) (fun q => HN (by rw [h_eq] at q; simpa using q))
theorem g_if_ne {kx nx : Nat} (cx : Cx Z p s m meth c R kx nx own nm code maxL ret) {x : Int32} (d : Bi code pc (Instr.ifCond .ne) pcY pcN) (HY : ¬ x = 0 → G p l e R s m args below meth c Z.heap.size Q h k n pcY Ls st) (HN : x = 0 → G p l e R s m args below meth c Z.heap.size Q h k n pcN Ls st) : G p l e R s m args below meth c Z.heap.size Q h k n pc Ls (.int x :: st) :=
  g_ifB cx d (fun q => HY (by rw [h_ne] at q; simpa using q)) (fun q => HN (by rw [h_ne] at q; simpa using q))
theorem g_icmp_ne {kx nx : Nat} (cx : Cx Z p s m meth c R kx nx own nm code maxL ret) {x y : Int32} (d : Bi code pc (Instr.if_icmp .ne) pcY pcN) (HY : ¬ x = y → G p l e R s m args below meth c Z.heap.size Q h k n pcY Ls st) (HN : x = y → G p l e R s m args below meth c Z.heap.size Q h k n pcN Ls st) : G p l e R s m args below meth c Z.heap.size Q h k n pc Ls (.int y :: .int x :: st) :=
  g_icmpB cx d (fun q => HY (by rw [h_ne] at q; simpa using q)) (fun q => HN (by rw [h_ne] at q; simpa using q))
theorem g_if_lt {kx nx : Nat} (cx : Cx Z p s m meth c R kx nx own nm code maxL ret) {x : Int32} (d : Bi code pc (Instr.ifCond .lt) pcY pcN) (HY : x < 0 → G p l e R s m args below meth c Z.heap.size Q h k n pcY Ls st) (HN : ¬ x < 0 → G p l e R s m args below meth c Z.heap.size Q h k n pcN Ls st) : G p l e R s m args below meth c Z.heap.size Q h k n pc Ls (.int x :: st) :=
  g_ifB cx d (fun q => HY (by rw [h_lt] at q; simpa using q)) (fun q => HN (by rw [h_lt] at q; simpa using q))
theorem g_icmp_lt {kx nx : Nat} (cx : Cx Z p s m meth c R kx nx own nm code maxL ret) {x y : Int32} (d : Bi code pc (Instr.if_icmp .lt) pcY pcN) (HY : x < y → G p l e R s m args below meth c Z.heap.size Q h k n pcY Ls st) (HN : ¬ x < y → G p l e R s m args below meth c Z.heap.size Q h k n pcN Ls st) : G p l e R s m args below meth c Z.heap.size Q h k n pc Ls (.int y :: .int x :: st) :=
  g_icmpB cx d (fun q => HY (by rw [h_lt] at q; simpa using q)) (fun q => HN (by rw [h_lt] at q; simpa using q))
theorem g_if_ge {kx nx : Nat} (cx : Cx Z p s m meth c R kx nx own nm code maxL ret) {x : Int32} (d : Bi code pc (Instr.ifCond .ge) pcY pcN) (HY : ¬ x < 0 → G p l e R s m args below meth c Z.heap.size Q h k n pcY Ls st) (HN : x < 0 → G p l e R s m args below meth c Z.heap.size Q h k n pcN Ls st) : G p l e R s m args below meth c Z.heap.size Q h k n pc Ls (.int x :: st) :=
  g_ifB cx d (fun q => HY (by rw [h_ge] at q; simpa using q)) (fun q => HN (by rw [h_ge] at q; simpa using q))
theorem g_icmp_ge {kx nx : Nat} (cx : Cx Z p s m meth c R kx nx own nm code maxL ret) {x y : Int32} (d : Bi code pc (Instr.if_icmp .ge) pcY pcN) (HY : ¬ x < y → G p l e R s m args below meth c Z.heap.size Q h k n pcY Ls st) (HN : x < y → G p l e R s m args below meth c Z.heap.size Q h k n pcN Ls st) : G p l e R s m args below meth c Z.heap.size Q h k n pc Ls (.int y :: .int x :: st) :=
  g_icmpB cx d (fun q => HY (by rw [h_ge] at q; simpa using q)) (fun q => HN (by rw [h_ge] at q; simpa using q))
theorem g_if_gt {kx nx : Nat} (cx : Cx Z p s m meth c R kx nx own nm code maxL ret) {x : Int32} (d : Bi code pc (Instr.ifCond .gt) pcY pcN) (HY : 0 < x → G p l e R s m args below meth c Z.heap.size Q h k n pcY Ls st) (HN : ¬ 0 < x → G p l e R s m args below meth c Z.heap.size Q h k n pcN Ls st) : G p l e R s m args below meth c Z.heap.size Q h k n pc Ls (.int x :: st) :=
  g_ifB cx d (fun q => HY (by rw [h_gt] at q; simpa using q)) (fun q => HN (by rw [h_gt] at q; simpa using q))
theorem g_icmp_gt {kx nx : Nat} (cx : Cx Z p s m meth c R kx nx own nm code maxL ret) {x y : Int32} (d : Bi code pc (Instr.if_icmp .gt) pcY pcN) (HY : y < x → G p l e R s m args below meth c Z.heap.size Q h k n pcY Ls st) (HN : ¬ y < x → G p l e R s m args below meth c Z.heap.size Q h k n pcN Ls st) : G p l e R s m args below meth c Z.heap.size Q h k n pc Ls (.int y :: .int x :: st) :=
  g_icmpB cx d (fun q => HY (by rw [h_gt] at q; simpa using q)) (fun q => HN (by rw [h_gt] at q; simpa using q))
theorem g_if_le {kx nx : Nat} (cx : Cx Z p s m meth c R kx nx own nm code maxL ret) {x : Int32} (d : Bi code pc (Instr.ifCond .le) pcY pcN) (HY : ¬ 0 < x → G p l e R s m args below meth c Z.heap.size Q h k n pcY Ls st) (HN : 0 < x → G p l e R s m args below meth c Z.heap.size Q h k n pcN Ls st) : G p l e R s m args below meth c Z.heap.size Q h k n pc Ls (.int x :: st) :=
  g_ifB cx d (fun q => HY (by rw [h_le] at q; simpa using q)) (fun q => HN (by rw [h_le] at q; simpa using q))
theorem g_icmp_le {kx nx : Nat} (cx : Cx Z p s m meth c R kx nx own nm code maxL ret) {x y : Int32} (d : Bi code pc (Instr.if_icmp .le) pcY pcN) (HY : ¬ y < x → G p l e R s m args below meth c Z.heap.size Q h k n pcY Ls st) (HN : y < x → G p l e R s m args below meth c Z.heap.size Q h k n pcN Ls st) : G p l e R s m args below meth c Z.heap.size Q h k n pc Ls (.int y :: .int x :: st) :=
  g_icmpB cx d (fun q => HY (by rw [h_le] at q; simpa using q)) (fun q => HN (by rw [h_le] at q; simpa using q))
theorem g_lcmp {kx nx : Nat} (cx : Cx Z p s m meth c R kx nx own nm code maxL ret) {x y : Int64} (d : Dc code pc .lcmp 1 pc') (H : G p l e R s m args below meth c Z.heap.size Q h k n pc' Ls (.int (lcmpW x y) :: st)) : G p l e R s m args below meth c Z.heap.size Q h k n pc Ls (.long y :: .long x :: st) := by
  obtain ⟨hx, hZ, hown, rfl, hml, hret, hnm, -⟩ := cx
  obtain ⟨d, rfl⟩ := d
  intro T locs cells slots X N eT hk hn
  obtain ⟨s₂, o, st2, r⟩ := H T locs cells slots X N eT hk hn
  exact ⟨s₂, o, Jvm.Free.XS.lcmp X.here hx rfl d rfl st2, r⟩
theorem g_lif_eq {kx nx : Nat} (cx : Cx Z p s m meth c R kx nx own nm code maxL ret) {x y : Int64} (d0 : Dc code pc .lcmp 1 pc') (d : Bi code pc' (Instr.ifCond .eq) pcY pcN) (HY : x = y → G p l e R s m args below meth c Z.heap.size Q h k n pcY Ls st) (HN : ¬ x = y → G p l e R s m args below meth c Z.heap.size Q h k n pcN Ls st) : G p l e R s m args below meth c Z.heap.size Q h k n pc Ls (.long y :: .long x :: st) :=
  g_lcmp cx d0 (g_if_eq cx d (fun q => HY ((lw_eq x y).mp q)) (fun q => HN (fun z => q ((lw_eq x y).mpr z))))
theorem g_lif_ne {kx nx : Nat} (cx : Cx Z p s m meth c R kx nx own nm code maxL ret) {x y : Int64} (d0 : Dc code pc .lcmp 1 pc') (d : Bi code pc' (Instr.ifCond .ne) pcY pcN) (HY : ¬ x = y → G p l e R s m args below meth c Z.heap.size Q h k n pcY Ls st) (HN : x = y → G p l e R s m args below meth c Z.heap.size Q h k n pcN Ls st) : G p l e R s m args below meth c Z.heap.size Q h k n pc Ls (.long y :: .long x :: st) :=
  g_lcmp cx d0 (g_if_ne cx d (fun q => HY (fun z => q ((lw_eq x y).mpr z))) (fun q => HN ((lw_eq x y).mp q)))
theorem g_lif_lt {kx nx : Nat} (cx : Cx Z p s m meth c R kx nx own nm code maxL ret) {x y : Int64} (d0 : Dc code pc .lcmp 1 pc') (d : Bi code pc' (Instr.ifCond .lt) pcY pcN) (HY : x < y → G p l e R s m args below meth c Z.heap.size Q h k n pcY Ls st) (HN : ¬ x < y → G p l e R s m args below meth c Z.heap.size Q h k n pcN Ls st) : G p l e R s m args below meth c Z.heap.size Q h k n pc Ls (.long y :: .long x :: st) :=
  g_lcmp cx d0 (g_if_lt cx d (fun q => HY ((lw_lt x y).mp q)) (fun q => HN (fun z => q ((lw_lt x y).mpr z))))
theorem g_lif_ge {kx nx : Nat} (cx : Cx Z p s m meth c R kx nx own nm code maxL ret) {x y : Int64} (d0 : Dc code pc .lcmp 1 pc') (d : Bi code pc' (Instr.ifCond .ge) pcY pcN) (HY : ¬ x < y → G p l e R s m args below meth c Z.heap.size Q h k n pcY Ls st) (HN : x < y → G p l e R s m args below meth c Z.heap.size Q h k n pcN Ls st) : G p l e R s m args below meth c Z.heap.size Q h k n pc Ls (.long y :: .long x :: st) :=
  g_lcmp cx d0 (g_if_ge cx d (fun q => HY (fun z => q ((lw_lt x y).mpr z))) (fun q => HN ((lw_lt x y).mp q)))
theorem g_lif_gt {kx nx : Nat} (cx : Cx Z p s m meth c R kx nx own nm code maxL ret) {x y : Int64} (d0 : Dc code pc .lcmp 1 pc') (d : Bi code pc' (Instr.ifCond .gt) pcY pcN) (HY : y < x → G p l e R s m args below meth c Z.heap.size Q h k n pcY Ls st) (HN : ¬ y < x → G p l e R s m args below meth c Z.heap.size Q h k n pcN Ls st) : G p l e R s m args below meth c Z.heap.size Q h k n pc Ls (.long y :: .long x :: st) :=
  g_lcmp cx d0 (g_if_gt cx d (fun q => HY ((lw_gt x y).mp q)) (fun q => HN (fun z => q ((lw_gt x y).mpr z))))
theorem g_lif_le {kx nx : Nat} (cx : Cx Z p s m meth c R kx nx own nm code maxL ret) {x y : Int64} (d0 : Dc code pc .lcmp 1 pc') (d : Bi code pc' (Instr.ifCond .le) pcY pcN) (HY : ¬ y < x → G p l e R s m args below meth c Z.heap.size Q h k n pcY Ls st) (HN : y < x → G p l e R s m args below meth c Z.heap.size Q h k n pcN Ls st) : G p l e R s m args below meth c Z.heap.size Q h k n pc Ls (.long y :: .long x :: st) :=
  g_lcmp cx d0 (g_if_le cx d (fun q => HY (fun z => q ((lw_gt x y).mpr z))) (fun q => HN ((lw_gt x y).mp q)))
theorem g_acmp {kx nx : Nat} (cx : Cx Z p s m meth c R kx nx own nm code maxL ret) {cd : ACond} {x y : Value} (h1 : x.isRef = true) (h2 : y.isRef = true) (d : Bi code pc (Instr.if_acmp cd) pcY pcN) (HY : x = y → G p l e R s m args below meth c Z.heap.size Q h k n (if acV cd true = true then pcY else pcN) Ls st) (HN : ¬ x = y → G p l e R s m args below meth c Z.heap.size Q h k n (if acV cd false = true then pcY else pcN) Ls st) : G p l e R s m args below meth c Z.heap.size Q h k n pc Ls (y :: x :: st) := by
  obtain ⟨hx, hZ, hown, rfl, hml, hret, hnm, -⟩ := cx
  obtain ⟨o', d, ho, rfl, rfl⟩ := d
  intro T locs cells slots X N eT hk hn
  by_cases hc : x = y
  · obtain ⟨s₂, o, st2, r⟩ := HY hc T locs cells slots X N eT hk hn
    exact ⟨s₂, o, Jvm.RoadKit.acmp (g := mkF m pc Ls (y :: x :: st)) X hx rfl h1 h2 (pc0 := pc) (same := true) rfl d rfl (decide_eq_true hc) ho rfl st2, r⟩
  · obtain ⟨s₂, o, st2, r⟩ := HN hc T locs cells slots X N eT hk hn
    exact ⟨s₂, o, Jvm.RoadKit.acmp (g := mkF m pc Ls (y :: x :: st)) X hx rfl h1 h2 (pc0 := pc) (same := false) rfl d rfl (decide_eq_false hc) ho rfl st2, r⟩
theorem g_acmp_eq {kx nx : Nat} (cx : Cx Z p s m meth c R kx nx own nm code maxL ret) {x y : Value} (h1 : x.isRef = true) (h2 : y.isRef = true) (d : Bi code pc (Instr.if_acmp .eq) pcY pcN) (HY : x = y → G p l e R s m args below meth c Z.heap.size Q h k n pcY Ls st) (HN : ¬ x = y → G p l e R s m args below meth c Z.heap.size Q h k n pcN Ls st) : G p l e R s m args below meth c Z.heap.size Q h k n pc Ls (y :: x :: st) := g_acmp cx h1 h2 d HY HN
theorem g_acmp_ne {kx nx : Nat} (cx : Cx Z p s m meth c R kx nx own nm code maxL ret) {x y : Value} (h1 : x.isRef = true) (h2 : y.isRef = true) (d : Bi code pc (Instr.if_acmp .ne) pcY pcN) (HY : ¬ x = y → G p l e R s m args below meth c Z.heap.size Q h k n pcY Ls st) (HN : x = y → G p l e R s m args below meth c Z.heap.size Q h k n pcN Ls st) : G p l e R s m args below meth c Z.heap.size Q h k n pc Ls (y :: x :: st) := g_acmp cx h1 h2 d HN HY
theorem g_ifnull_null {kx nx : Nat} (cx : Cx Z p s m meth c R kx nx own nm code maxL ret) (d : Bi code pc Instr.ifnull pcY pcN) (H : G p l e R s m args below meth c Z.heap.size Q h k n pcY Ls st) : G p l e R s m args below meth c Z.heap.size Q h k n pc Ls (.null :: st) := by
  obtain ⟨hx, hZ, hown, rfl, hml, hret, hnm, -⟩ := cx
  obtain ⟨o', d, ho, rfl, rfl⟩ := d
  intro T locs cells slots X N eT hk hn
  obtain ⟨s₂, o, st2, r⟩ := H T locs cells slots X N eT hk hn
  exact ⟨s₂, o, Jvm.Free.XS.ifnullYes X.here hx rfl (pc0 := pc) rfl d rfl ho rfl st2, r⟩
theorem g_ifnull_ref {kx nx : Nat} (cx : Cx Z p s m meth c R kx nx own nm code maxL ret) {a : Addr} (d : Bi code pc Instr.ifnull pcY pcN) (H : G p l e R s m args below meth c Z.heap.size Q h k n pcN Ls st) : G p l e R s m args below meth c Z.heap.size Q h k n pc Ls (.ref a :: st) := by
  obtain ⟨hx, hZ, hown, rfl, hml, hret, hnm, -⟩ := cx
  obtain ⟨o', d, ho, rfl, rfl⟩ := d
  intro T locs cells slots X N eT hk hn
  obtain ⟨s₂, o, st2, r⟩ := H T locs cells slots X N eT hk hn
  exact ⟨s₂, o, Jvm.Free.XS.ifnullNo X.here hx rfl d rfl st2, r⟩
theorem g_ifnonnull_ref {kx nx : Nat} (cx : Cx Z p s m meth c R kx nx own nm code maxL ret) {a : Addr} (d : Bi code pc Instr.ifnonnull pcY pcN) (H : G p l e R s m args below meth c Z.heap.size Q h k n pcY Ls st) : G p l e R s m args below meth c Z.heap.size Q h k n pc Ls (.ref a :: st) := by
  obtain ⟨hx, hZ, hown, rfl, hml, hret, hnm, -⟩ := cx
  obtain ⟨o', d, ho, rfl, rfl⟩ := d
  intro T locs cells slots X N eT hk hn
  obtain ⟨s₂, o, st2, r⟩ := H T locs cells slots X N eT hk hn
  exact ⟨s₂, o, Jvm.Free.XS.ifnonnullYes X.here hx rfl (pc0 := pc) rfl d rfl ho rfl st2, r⟩
theorem g_ifnonnull_null {kx nx : Nat} (cx : Cx Z p s m meth c R kx nx own nm code maxL ret) (d : Bi code pc Instr.ifnonnull pcY pcN) (H : G p l e R s m args below meth c Z.heap.size Q h k n pcN Ls st) : G p l e R s m args below meth c Z.heap.size Q h k n pc Ls (.null :: st) := by
  obtain ⟨hx, hZ, hown, rfl, hml, hret, hnm, -⟩ := cx
  obtain ⟨o', d, ho, rfl, rfl⟩ := d
  intro T locs cells slots X N eT hk hn
  obtain ⟨s₂, o, st2, r⟩ := H T locs cells slots X N eT hk hn
  exact ⟨s₂, o, Jvm.Free.XS.ifnonnullNo X.here hx rfl d rfl st2, r⟩
theorem g_ldcI {kx nx : Nat} (cx : Cx Z p s m meth c R kx nx own nm code maxL ret) {i : Nat} {v : Int32} (d : Dc code pc (.ldc i) 2 pc') (w : (Jvm.Cond.constant own i v).before a0 Z = true) (H : G p l e R s m args below meth c Z.heap.size Q h k n pc' Ls (.int v :: st)) : G p l e R s m args below meth c Z.heap.size Q h k n pc Ls st := by
  obtain ⟨hx, hZ, hown, rfl, hml, hret, hnm, -⟩ := cx
  obtain ⟨d, rfl⟩ := d
  intro T locs cells slots X N eT hk hn
  obtain ⟨s₂, o, st2, r⟩ := H T locs cells slots X N eT hk hn
  exact ⟨s₂, o, X.ldcInt hx hown (mvT hZ w) (g := mkF m pc Ls st) rfl d _ st2, r⟩
theorem g_ldcJ {kx nx : Nat} (cx : Cx Z p s m meth c R kx nx own nm code maxL ret) {i : Nat} {v : Int64} (d : Dc code pc (.ldc2_w i) 3 pc') (w : (Jvm.Cond.constantLong own i v).before a0 Z = true) (H : G p l e R s m args below meth c Z.heap.size Q h k n pc' Ls (.long v :: st)) : G p l e R s m args below meth c Z.heap.size Q h k n pc Ls st := by
  obtain ⟨hx, hZ, hown, rfl, hml, hret, hnm, -⟩ := cx
  obtain ⟨d, rfl⟩ := d
  intro T locs cells slots X N eT hk hn
  obtain ⟨s₂, o, st2, r⟩ := H T locs cells slots X N eT hk hn
  exact ⟨s₂, o, X.ldc2Long hx hown (mvT hZ w) (g := mkF m pc Ls st) rfl d _ st2, r⟩
theorem g_getF {kx nx : Nat} (cx : Cx Z p s m meth c R kx nx own nm code maxL ret) {R0 O f ds host : String} {i : Nat} {a : Addr} {v : Value} (d : Dc code pc (.getfield i) 3 pc') (w : (Jvm.Cond.fieldLink own i R0 f ds).before a0 Z = true ∨ (Jvm.Cond.fieldLinkNest own i R0 f ds host).before a0 Z = true) (via : Via Z R0 O f ds) (F : Fld Z h a O f ds v) (H : G p l e R s m args below meth c Z.heap.size Q h k n pc' Ls (v :: st)) : G p l e R s m args below meth c Z.heap.size Q h k n pc Ls (.ref a :: st) := by
  obtain ⟨hx, hZ, hown, rfl, hml, hret, hnm, -⟩ := cx
  obtain ⟨d, rfl⟩ := d
  intro T locs cells slots X N eT hk hn
  obtain ⟨T', X', e', stp⟩ := getF X hx hZ hown w via eT F (g := mkF m pc Ls (.ref a :: st)) rfl rfl d
  obtain ⟨s₂, o, st2, r⟩ := H T' locs cells slots X' N e' hk hn
  exact ⟨s₂, o, stp _ st2, r⟩
theorem g_getS {kx nx : Nat} (cx : Cx Z p s m meth c R kx nx own nm code maxL ret) {R0 O f ds host : String} {i : Nat} {v : Value} (d : Dc code pc (.getstatic i) 3 pc') (w : (Jvm.Cond.fieldLink own i R0 f ds).before a0 Z = true ∨ (Jvm.Cond.fieldLinkNest own i R0 f ds host).before a0 Z = true) (via : Via Z R0 O f ds) (F : Sta Z h O f ds v) (H : G p l e R s m args below meth c Z.heap.size Q h k n pc' Ls (v :: st)) : G p l e R s m args below meth c Z.heap.size Q h k n pc Ls st := by
  obtain ⟨hx, hZ, hown, rfl, hml, hret, hnm, -⟩ := cx
  obtain ⟨d, rfl⟩ := d
  intro T locs cells slots X N eT hk hn
  obtain ⟨T', X', e', stp⟩ := getS2 X hx hZ hown w via eT F (g := mkF m pc Ls st) rfl d
  obtain ⟨s₂, o, st2, r⟩ := H T' locs cells slots X' N e' hk hn
  exact ⟨s₂, o, stp _ st2, r⟩
theorem g_putF {kx nx : Nat} (cx : Cx Z p s m meth c R kx nx own nm code maxL ret) {R0 O f ds host C : String} {i kk : Nat} {ty : FieldType} {a : Addr} {v old : Value} (d : Dc code pc (.putfield i) 3 pc') (w : (Jvm.Cond.fieldLink own i R0 f ds).before a0 Z = true ∨ (Jvm.Cond.fieldLinkNest own i R0 f ds host).before a0 Z = true) (via : Via Z R0 O f ds) (F : Fld Z h a O f ds old) (E : Exa Z h a C)
    (L : (Jvm.Cond.lays C O f ds).before a0 Z = true ∨ ((Jvm.Cond.laysFinal C O f ds).before a0 Z = true ∧ own = O ∧ nm = "<init>")) (wi : (Jvm.Cond.instantiable C kk).before a0 Z = true) (hty : parseFieldDescriptor ds = some ty) (hnar : narrow ty v = v) (hfit : fits ty v = true) (g : Z.heap.size ≤ a)
    (H : ∀ h', Wr h h' a (Jvm.RoadKit.slotOf Z O f ds) v → G p l e R s m args below meth c Z.heap.size Q h' k n pc' Ls st) : G p l e R s m args below meth c Z.heap.size Q h k n pc Ls (v :: .ref a :: st) := by
  obtain ⟨hx, hZ, hown, rfl, hml, hret, rfl, -⟩ := cx
  obtain ⟨d, rfl⟩ := d
  intro T locs cells slots X N eT hk hn
  obtain ⟨T', h', X', e', W, stp⟩ := putF X hx hZ hown w via eT F E L wi hty hnar hfit (g := mkF m pc Ls (v :: .ref a :: st)) rfl rfl d
  obtain ⟨s₂, o, st2, r⟩ := H h' W T' _ cells slots X' (Fr.snoc X' N g) e' hk hn
  exact ⟨s₂, o, stp _ st2, r⟩
theorem g_putFN {kx nx : Nat} (cx : Cx Z p s m meth c R kx nx own nm code maxL ret) {R0 O f ds C : String} {i kk : Nat} {ty : FieldType} {a : Addr} {v v' old : Value} (d : Dc code pc (.putfield i) 3 pc') (w : (Jvm.Cond.fieldLink own i R0 f ds).before a0 Z = true) (via : Via Z R0 O f ds) (F : Fld Z h a O f ds old) (E : Exa Z h a C)
    (L : (Jvm.Cond.lays C O f ds).before a0 Z = true ∨ ((Jvm.Cond.laysFinal C O f ds).before a0 Z = true ∧ own = O ∧ nm = "<init>")) (wi : (Jvm.Cond.instantiable C kk).before a0 Z = true) (hty : parseFieldDescriptor ds = some ty) (hnar : narrow ty v = v') (hfit : fits ty v' = true) (g : Z.heap.size ≤ a)
    (H : ∀ h', Wr h h' a (Jvm.RoadKit.slotOf Z O f ds) v' → G p l e R s m args below meth c Z.heap.size Q h' k n pc' Ls st) : G p l e R s m args below meth c Z.heap.size Q h k n pc Ls (v :: .ref a :: st) := by
  obtain ⟨hx, hZ, hown, rfl, hml, hret, rfl, -⟩ := cx
  obtain ⟨d, rfl⟩ := d
  intro T locs cells slots X N eT hk hn
  obtain ⟨T', h', X', e', W, stp⟩ := putFN X hx hZ hown w via eT F E L wi hty hnar hfit (g := mkF m pc Ls (v :: .ref a :: st)) rfl rfl d
  obtain ⟨s₂, o, st2, r⟩ := H h' W T' _ cells slots X' (Fr.snoc X' N g) e' hk hn
  exact ⟨s₂, o, stp _ st2, r⟩
theorem g_new {kx nx : Nat} (cx : Cx Z p s m meth c R kx nx own nm code maxL ret) {C : String} {i sl : Nat} {k' n' : Nat} (d : Dc code pc (.new i) 3 pc') (w : (Jvm.Cond.classLink own i C).before a0 Z = true) (wi : (Jvm.Cond.instantiable C sl).before a0 Z = true) (wz : (Jvm.Cond.initialized C).before a0 Z = true) (hk1 : k + 1 = k') (hn1 : n + sl = n') (hkR : k' ≤ R.cells) (hnR : n' ≤ R.slots)
    (H : ∀ h' b, b = h.size → Ext h h' → Exa Z h' b C → (∀ {O nm d : String} {ty : FieldType}, Laid Z a0 C O nm d → parseFieldDescriptor d = some ty → Fld Z h' b O nm d (defaultValue ty)) → G p l e R s m args below meth c Z.heap.size Q h' k' n' pc' Ls (.ref b :: st)) : G p l e R s m args below meth c Z.heap.size Q h k n pc Ls st := by
  obtain ⟨hx, hZ, hown, rfl, hml, hret, hnm, -⟩ := cx
  obtain ⟨d, rfl⟩ := d
  subst hk1 hn1
  intro T locs cells slots X N eT hk hn
  obtain ⟨T', h', X', e', E, A, D, -, stp⟩ := newO X hx hZ hown w wi wz eT (g := mkF m pc Ls st) rfl d (by omega) (by omega)
  obtain ⟨s₂, o, st2, r⟩ := H h' _ rfl E A D T' locs _ _ X' N e' (by omega) (by omega)
  exact ⟨s₂, o, stp _ st2, r⟩
theorem g_newarray {kx nx : Nat} (cx : Cx Z p s m meth c R kx nx own nm code maxL ret) {aty : ArrayType} {z : Int32} {cap k' n' : Nat} {ad : String} (had : "[" ++ (newarray.typeOf aty).toString = ad) (d : Dc code pc (.newarray aty) 2 pc') (w : (Jvm.Cond.arrayClass (newarray.typeOf aty)).before a0 Z = true) (hz : ¬ z < 0) (hcap : z.toNatClampNeg ≤ cap) (hb : cap * 8 ≤ 536870912) (hk1 : k + 1 = k') (hn1 : n + cap = n') (hkR : k' ≤ R.cells) (hnR : n' ≤ R.slots)
    (H : ∀ h' b cA, b = h.size → Ext h h' → Arx Z h' b cA (newarray.typeOf aty) z [] (defaultValue (newarray.typeOf aty)) ad → G p l e R s m args below meth c Z.heap.size Q h' k' n' pc' Ls (.ref b :: st)) : G p l e R s m args below meth c Z.heap.size Q h k n pc Ls (.int z :: st) := by
  obtain ⟨hx, hZ, hown, rfl, hml, hret, hnm, -⟩ := cx
  obtain ⟨d, rfl⟩ := d
  subst hk1 hn1
  intro T locs cells slots X N eT hk hn
  obtain ⟨T', h', cA, X', e', E, A, Ex, stp⟩ := newPE X hx hZ w eT (g := mkF m pc Ls (.int z :: st)) rfl d rfl hz hcap hb (by omega) (by omega) had
  obtain ⟨s₂, o, st2, r⟩ := H h' _ cA rfl E ⟨Arv.new A hz, Ex⟩ T' locs _ _ X' N e' (by omega) (by omega)
  exact ⟨s₂, o, stp _ st2, r⟩
theorem g_anewarray {kx nx : Nat} (cx : Cx Z p s m meth c R kx nx own nm code maxL ret) {C ad : String} {i : Nat} {z : Int32} {cap k' n' : Nat} (had : "[" ++ (FieldType.object C).toString = ad) (d : Dc code pc (.anewarray i) 3 pc') (w1 : (Jvm.Cond.classLink own i C).before a0 Z = true) (w2 : (Jvm.Cond.arrayOver (.object C)).before a0 Z = true) (hz : ¬ z < 0) (hcap : z.toNatClampNeg ≤ cap) (hb : cap * 8 ≤ 536870912) (hk1 : k + 1 = k') (hn1 : n + cap = n') (hkR : k' ≤ R.cells) (hnR : n' ≤ R.slots)
    (H : ∀ h' b cA, b = h.size → Ext h h' → Arx Z h' b cA (.object C) z [] .null ad → Ovr Z cA C → G p l e R s m args below meth c Z.heap.size Q h' k' n' pc' Ls (.ref b :: st)) : G p l e R s m args below meth c Z.heap.size Q h k n pc Ls (.int z :: st) := by
  obtain ⟨hx, hZ, hown, rfl, hml, hret, hnm, -⟩ := cx
  obtain ⟨d, rfl⟩ := d
  subst hk1 hn1
  intro T locs cells slots X N eT hk hn
  obtain ⟨T', h', cA, X', e', E, A, Ex, O, stp⟩ := newRE X hx hZ hown w1 w2 eT (g := mkF m pc Ls (.int z :: st)) rfl d rfl hz hcap hb (by omega) (by omega) had
  obtain ⟨s₂, o, st2, r⟩ := H h' _ cA rfl E ⟨Arv.new A hz, Ex⟩ O T' locs _ _ X' N e' (by omega) (by omega)
  exact ⟨s₂, o, stp _ st2, r⟩
theorem g_anewarrayA {kx nx : Nat} (cx : Cx Z p s m meth c R kx nx own nm code maxL ret) {C ad : String} {t : FieldType} {i : Nat} {z : Int32} {cap k' n' : Nat} (hC : (FieldType.array t).toString = C) (had : "[" ++ C = ad) (d : Dc code pc (.anewarray i) 3 pc') (w1 : (Jvm.Cond.classLink own i C).before a0 Z = true) (w2 : (Jvm.Cond.arrayOver (.array t)).before a0 Z = true) (hz : ¬ z < 0) (hcap : z.toNatClampNeg ≤ cap) (hb : cap * 8 ≤ 536870912) (hk1 : k + 1 = k') (hn1 : n + cap = n') (hkR : k' ≤ R.cells) (hnR : n' ≤ R.slots)
    (H : ∀ h' b cA, b = h.size → Ext h h' → Arx Z h' b cA (.array t) z [] .null ad → OvrA Z cA t C → G p l e R s m args below meth c Z.heap.size Q h' k' n' pc' Ls (.ref b :: st)) : G p l e R s m args below meth c Z.heap.size Q h k n pc Ls (.int z :: st) := by
  obtain ⟨hx, hZ, hown, rfl, hml, hret, hnm, -⟩ := cx
  obtain ⟨d, rfl⟩ := d
  subst hk1 hn1
  intro T locs cells slots X N eT hk hn
  obtain ⟨T', h', cA, X', e', E, A, Ex, O, stp⟩ := newRA X hx hZ hown hC w1 w2 eT (g := mkF m pc Ls (.int z :: st)) rfl d rfl hz hcap hb (by omega) (by omega) had
  obtain ⟨s₂, o, st2, r⟩ := H h' _ cA rfl E ⟨Arv.new A hz, Ex⟩ O T' locs _ _ X' N e' (by omega) (by omega)
  exact ⟨s₂, o, stp _ st2, r⟩
theorem g_iastore {kx nx : Nat} (cx : Cx Z p s m meth c R kx nx own nm code maxL ret) {a : Addr} {cA : ClassId} {z j : Int32} {ad : String} {vs : List Value} {dv : Value} {x : Int32} (d : Dc code pc .iastore 1 pc') (A : Arx Z h a cA .int z vs dv ad) (hj : ¬ j < 0 ∧ j < z) (hl : j.toNatClampNeg < vs.length) (g : Z.heap.size ≤ a) (H : ∀ h', Wr h h' a j.toNatClampNeg (.int x) → Arx Z h' a cA .int z (vs.set j.toNatClampNeg (.int x)) dv ad → G p l e R s m args below meth c Z.heap.size Q h' k n pc' Ls st) : G p l e R s m args below meth c Z.heap.size Q h k n pc Ls (.int x :: .int j :: .ref a :: st) := by
  obtain ⟨hx, hZ, hown, rfl, hml, hret, hnm, -⟩ := cx
  obtain ⟨d, rfl⟩ := d
  intro T locs cells slots X N eT hk hn
  obtain ⟨⟨cl, Ar, q, S, Nz, Hs, Gf⟩, Ex⟩ := A
  obtain ⟨T', h', X', e', W, stp⟩ := stI X hx hZ eT Ar (j := j) (inb_of S hj) (g := mkF m pc Ls (.int x :: .int j :: .ref a :: st)) rfl rfl d
  obtain ⟨s₂, o, st2, r⟩ := H h' W ⟨Arv.set Ar q S Nz Hs Gf rfl W _ rfl hl, Ex.wr W⟩ T' _ cells slots X' (Fr.snoc X' N g) e' hk hn
  exact ⟨s₂, o, stp _ st2, r⟩
theorem g_lastore {kx nx : Nat} (cx : Cx Z p s m meth c R kx nx own nm code maxL ret) {a : Addr} {cA : ClassId} {z j : Int32} {ad : String} {vs : List Value} {dv : Value} {x : Int64} (d : Dc code pc .lastore 1 pc') (A : Arx Z h a cA .long z vs dv ad) (hj : ¬ j < 0 ∧ j < z) (hl : j.toNatClampNeg < vs.length) (g : Z.heap.size ≤ a) (H : ∀ h', Wr h h' a j.toNatClampNeg (.long x) → Arx Z h' a cA .long z (vs.set j.toNatClampNeg (.long x)) dv ad → G p l e R s m args below meth c Z.heap.size Q h' k n pc' Ls st) : G p l e R s m args below meth c Z.heap.size Q h k n pc Ls (.long x :: .int j :: .ref a :: st) := by
  obtain ⟨hx, hZ, hown, rfl, hml, hret, hnm, -⟩ := cx
  obtain ⟨d, rfl⟩ := d
  intro T locs cells slots X N eT hk hn
  obtain ⟨⟨cl, Ar, q, S, Nz, Hs, Gf⟩, Ex⟩ := A
  obtain ⟨T', h', X', e', W, stp⟩ := stJ X hx hZ eT Ar (j := j) (inb_of S hj) (g := mkF m pc Ls (.long x :: .int j :: .ref a :: st)) rfl rfl d
  obtain ⟨s₂, o, st2, r⟩ := H h' W ⟨Arv.set Ar q S Nz Hs Gf rfl W _ rfl hl, Ex.wr W⟩ T' _ cells slots X' (Fr.snoc X' N g) e' hk hn
  exact ⟨s₂, o, stp _ st2, r⟩
theorem g_castore {kx nx : Nat} (cx : Cx Z p s m meth c R kx nx own nm code maxL ret) {a : Addr} {cA : ClassId} {z j : Int32} {ad : String} {vs : List Value} {dv : Value} {x : Int32} (d : Dc code pc .castore 1 pc') (A : Arx Z h a cA .char z vs dv ad) (hj : ¬ j < 0 ∧ j < z) (hl : j.toNatClampNeg < vs.length) (g : Z.heap.size ≤ a) (H : ∀ h', Wr h h' a j.toNatClampNeg (.int (nar .char x)) → Arx Z h' a cA .char z (vs.set j.toNatClampNeg (.int (nar .char x))) dv ad → G p l e R s m args below meth c Z.heap.size Q h' k n pc' Ls st) : G p l e R s m args below meth c Z.heap.size Q h k n pc Ls (.int x :: .int j :: .ref a :: st) := by
  obtain ⟨hx, hZ, hown, rfl, hml, hret, hnm, -⟩ := cx
  obtain ⟨d, rfl⟩ := d
  intro T locs cells slots X N eT hk hn
  obtain ⟨⟨cl, Ar, q, S, Nz, Hs, Gf⟩, Ex⟩ := A
  obtain ⟨T', h', X', e', W, stp⟩ := stC X hx hZ eT Ar (j := j) (inb_of S hj) (g := mkF m pc Ls (.int x :: .int j :: .ref a :: st)) rfl rfl d
  obtain ⟨s₂, o, st2, r⟩ := H h' W ⟨Arv.set Ar q S Nz Hs Gf (fits_nar_char _) W _ rfl hl, Ex.wr W⟩ T' _ cells slots X' (Fr.snoc X' N g) e' hk hn
  exact ⟨s₂, o, stp _ st2, r⟩
theorem g_bastore {kx nx : Nat} (cx : Cx Z p s m meth c R kx nx own nm code maxL ret) {a : Addr} {cA : ClassId} {z j : Int32} {ad : String} {vs : List Value} {dv : Value} {x : Int32} (d : Dc code pc .bastore 1 pc') (A : Arx Z h a cA .byte z vs dv ad) (hj : ¬ j < 0 ∧ j < z) (hl : j.toNatClampNeg < vs.length) (g : Z.heap.size ≤ a) (H : ∀ h', Wr h h' a j.toNatClampNeg (.int (nar .byte x)) → Arx Z h' a cA .byte z (vs.set j.toNatClampNeg (.int (nar .byte x))) dv ad → G p l e R s m args below meth c Z.heap.size Q h' k n pc' Ls st) : G p l e R s m args below meth c Z.heap.size Q h k n pc Ls (.int x :: .int j :: .ref a :: st) := by
  obtain ⟨hx, hZ, hown, rfl, hml, hret, hnm, -⟩ := cx
  obtain ⟨d, rfl⟩ := d
  intro T locs cells slots X N eT hk hn
  obtain ⟨⟨cl, Ar, q, S, Nz, Hs, Gf⟩, Ex⟩ := A
  obtain ⟨T', h', X', e', W, stp⟩ := stB X hx hZ eT Ar (j := j) (inb_of S hj) (g := mkF m pc Ls (.int x :: .int j :: .ref a :: st)) rfl rfl d
  obtain ⟨s₂, o, st2, r⟩ := H h' W ⟨Arv.set Ar q S Nz Hs Gf (fits_nar_byte _) W _ rfl hl, Ex.wr W⟩ T' _ cells slots X' (Fr.snoc X' N g) e' hk hn
  exact ⟨s₂, o, stp _ st2, r⟩
theorem g_aastore {kx nx : Nat} (cx : Cx Z p s m meth c R kx nx own nm code maxL ret) {a : Addr} {cA : ClassId} {z j : Int32} {ad : String} {vs : List Value} {dv v : Value} {ty : FieldType} (d : Dc code pc .aastore 1 pc') (A : Arx Z h a cA ty z vs dv ad) (hty : ty.isReference = true) (hf : fits ty v = true) (So : Sto Z h a v) (hj : ¬ j < 0 ∧ j < z) (hl : j.toNatClampNeg < vs.length) (g : Z.heap.size ≤ a) (H : ∀ h', Wr h h' a j.toNatClampNeg v → Arx Z h' a cA ty z (vs.set j.toNatClampNeg v) dv ad → G p l e R s m args below meth c Z.heap.size Q h' k n pc' Ls st) : G p l e R s m args below meth c Z.heap.size Q h k n pc Ls (v :: .int j :: .ref a :: st) := by
  obtain ⟨hx, hZ, hown, rfl, hml, hret, hnm, -⟩ := cx
  obtain ⟨d, rfl⟩ := d
  intro T locs cells slots X N eT hk hn
  obtain ⟨⟨cl, Ar, q, S, Nz, Hs, Gf⟩, Ex⟩ := A
  obtain ⟨T', h', X', e', W, stp⟩ := stR X hx hZ eT Ar (j := j) (inb_of S hj) hty So (g := mkF m pc Ls (v :: .int j :: .ref a :: st)) rfl rfl d
  obtain ⟨s₂, o, st2, r⟩ := H h' W ⟨Arv.set Ar q S Nz Hs Gf hf W _ rfl hl, Ex.wr W⟩ T' _ cells slots X' (Fr.snoc X' N g) e' hk hn
  exact ⟨s₂, o, stp _ st2, r⟩
theorem g_iaload {kx nx : Nat} (cx : Cx Z p s m meth c R kx nx own nm code maxL ret) {a : Addr} {cA : ClassId} {z j : Int32} {vs : List Value} {dv v : Value} (d : Dc code pc .iaload 1 pc') (A : Arv Z h a cA .int z vs dv) (hj : ¬ j < 0 ∧ j < z) (hv : vs.getD j.toNatClampNeg dv = v) (H : G p l e R s m args below meth c Z.heap.size Q h k n pc' Ls (v :: st)) : G p l e R s m args below meth c Z.heap.size Q h k n pc Ls (.int j :: .ref a :: st) := by
  obtain ⟨hx, hZ, hown, rfl, hml, hret, hnm, -⟩ := cx
  obtain ⟨d, rfl⟩ := d
  intro T locs cells slots X N eT hk hn
  obtain ⟨cl, Ar, q, S, Nz, Hs, Gf⟩ := A
  obtain ⟨s₂, o, st2, r⟩ := H T _ cells slots X N eT hk hn
  exact ⟨s₂, o, X.iaload hx (j := j) (v := v) (by rw [eT]; exact Ar.1) (State.isArrayOf_alike hZ.alike Ar.2.1) Ar.2.2 (inb_of S hj) (Hs.at (inb_of S hj) hv) (g := mkF m pc Ls (.int j :: .ref a :: st)) rfl rfl d _ st2, r⟩
theorem g_laload {kx nx : Nat} (cx : Cx Z p s m meth c R kx nx own nm code maxL ret) {a : Addr} {cA : ClassId} {z j : Int32} {vs : List Value} {dv v : Value} (d : Dc code pc .laload 1 pc') (A : Arv Z h a cA .long z vs dv) (hj : ¬ j < 0 ∧ j < z) (hv : vs.getD j.toNatClampNeg dv = v) (H : G p l e R s m args below meth c Z.heap.size Q h k n pc' Ls (v :: st)) : G p l e R s m args below meth c Z.heap.size Q h k n pc Ls (.int j :: .ref a :: st) := by
  obtain ⟨hx, hZ, hown, rfl, hml, hret, hnm, -⟩ := cx
  obtain ⟨d, rfl⟩ := d
  intro T locs cells slots X N eT hk hn
  obtain ⟨cl, Ar, q, S, Nz, Hs, Gf⟩ := A
  obtain ⟨s₂, o, st2, r⟩ := H T _ cells slots X N eT hk hn
  exact ⟨s₂, o, X.laload hx (j := j) (v := v) (by rw [eT]; exact Ar.1) (State.isArrayOf_alike hZ.alike Ar.2.1) Ar.2.2 (inb_of S hj) (Hs.at (inb_of S hj) hv) (g := mkF m pc Ls (.int j :: .ref a :: st)) rfl rfl d _ st2, r⟩
theorem g_caload {kx nx : Nat} (cx : Cx Z p s m meth c R kx nx own nm code maxL ret) {a : Addr} {cA : ClassId} {z j : Int32} {vs : List Value} {dv v : Value} (d : Dc code pc .caload 1 pc') (A : Arv Z h a cA .char z vs dv) (hj : ¬ j < 0 ∧ j < z) (hv : vs.getD j.toNatClampNeg dv = v) (H : G p l e R s m args below meth c Z.heap.size Q h k n pc' Ls (v :: st)) : G p l e R s m args below meth c Z.heap.size Q h k n pc Ls (.int j :: .ref a :: st) := by
  obtain ⟨hx, hZ, hown, rfl, hml, hret, hnm, -⟩ := cx
  obtain ⟨d, rfl⟩ := d
  intro T locs cells slots X N eT hk hn
  obtain ⟨cl, Ar, q, S, Nz, Hs, Gf⟩ := A
  obtain ⟨s₂, o, st2, r⟩ := H T _ cells slots X N eT hk hn
  exact ⟨s₂, o, X.caload hx (j := j) (v := v) (by rw [eT]; exact Ar.1) (State.isArrayOf_alike hZ.alike Ar.2.1) Ar.2.2 (inb_of S hj) (Hs.at (inb_of S hj) hv) (g := mkF m pc Ls (.int j :: .ref a :: st)) rfl rfl d _ st2, r⟩
theorem g_baload {kx nx : Nat} (cx : Cx Z p s m meth c R kx nx own nm code maxL ret) {a : Addr} {cA : ClassId} {z j : Int32} {vs : List Value} {dv v : Value} (d : Dc code pc .baload 1 pc') (A : Arv Z h a cA .byte z vs dv) (hj : ¬ j < 0 ∧ j < z) (hv : vs.getD j.toNatClampNeg dv = v) (H : G p l e R s m args below meth c Z.heap.size Q h k n pc' Ls (v :: st)) : G p l e R s m args below meth c Z.heap.size Q h k n pc Ls (.int j :: .ref a :: st) := by
  obtain ⟨hx, hZ, hown, rfl, hml, hret, hnm, -⟩ := cx
  obtain ⟨d, rfl⟩ := d
  intro T locs cells slots X N eT hk hn
  obtain ⟨cl, Ar, q, S, Nz, Hs, Gf⟩ := A
  obtain ⟨s₂, o, st2, r⟩ := H T _ cells slots X N eT hk hn
  exact ⟨s₂, o, X.baloadBytes hx (j := j) (v := v) (by rw [eT]; exact Ar.1) (State.isArrayOf_alike hZ.alike Ar.2.1) Ar.2.2 (inb_of S hj) (Hs.at (inb_of S hj) hv) (g := mkF m pc Ls (.int j :: .ref a :: st)) rfl rfl d _ st2, r⟩
theorem g_aaload {kx nx : Nat} (cx : Cx Z p s m meth c R kx nx own nm code maxL ret) {a : Addr} {cA : ClassId} {z j : Int32} {vs : List Value} {dv v : Value} {ty : FieldType} (d : Dc code pc .aaload 1 pc') (A : Arv Z h a cA ty z vs dv) (hty : ty.isReference = true) (hj : ¬ j < 0 ∧ j < z) (hv : vs.getD j.toNatClampNeg dv = v) (H : G p l e R s m args below meth c Z.heap.size Q h k n pc' Ls (v :: st)) : G p l e R s m args below meth c Z.heap.size Q h k n pc Ls (.int j :: .ref a :: st) := by
  obtain ⟨hx, hZ, hown, rfl, hml, hret, hnm, -⟩ := cx
  obtain ⟨d, rfl⟩ := d
  intro T locs cells slots X N eT hk hn
  obtain ⟨cl, Ar, q, S, Nz, Hs, Gf⟩ := A
  obtain ⟨s₂, o, st2, r⟩ := H T _ cells slots X N eT hk hn
  exact ⟨s₂, o, X.aaload hx (j := j) (v := v) (by rw [eT]; exact Ar.1) (State.isArrayOf_alike hZ.alike Ar.2.1) hty Ar.2.2 (inb_of S hj) (Hs.at (inb_of S hj) hv) (g := mkF m pc Ls (.int j :: .ref a :: st)) rfl rfl d _ st2, r⟩
theorem g_arraylength {kx nx : Nat} (cx : Cx Z p s m meth c R kx nx own nm code maxL ret) {a : Addr} {cA : ClassId} {z : Int32} {vs : List Value} {dv : Value} {ty : FieldType} (d : Dc code pc .arraylength 1 pc') (A : Arv Z h a cA ty z vs dv) (H : G p l e R s m args below meth c Z.heap.size Q h k n pc' Ls (.int z :: st)) : G p l e R s m args below meth c Z.heap.size Q h k n pc Ls (.ref a :: st) := by
  obtain ⟨hx, hZ, hown, rfl, hml, hret, hnm, -⟩ := cx
  obtain ⟨d, rfl⟩ := d
  intro T locs cells slots X N eT hk hn
  obtain ⟨cl, Ar, q, S, Nz, Hs, Gf⟩ := A
  obtain ⟨s₂, o, st2, r⟩ := H T _ cells slots X N eT hk hn
  exact ⟨s₂, o, X.arraylength hx (by rw [eT]; exact Ar.1) (State.isArrayOf_alike hZ.alike Ar.2.1) (g := mkF m pc Ls (.ref a :: st)) rfl rfl d _ (by rw [len_of S Nz]; exact st2), r⟩
theorem g_checkcast {kx nx : Nat} (cx : Cx Z p s m meth c R kx nx own nm code maxL ret) {K : String} {i : Nat} {a : Addr} (d : Dc code pc (.checkcast i) 3 pc') (w : (Jvm.Cond.classLink own i K).before a0 Z = true) (F : Ins Z h a K true) (H : G p l e R s m args below meth c Z.heap.size Q h k n pc' Ls (.ref a :: st)) : G p l e R s m args below meth c Z.heap.size Q h k n pc Ls (.ref a :: st) := by
  obtain ⟨hx, hZ, hown, rfl, hml, hret, hnm, -⟩ := cx
  obtain ⟨d, rfl⟩ := d
  intro T locs cells slots X N eT hk hn
  obtain ⟨T', X', e', stp⟩ := castY X hx hZ hown w eT F (g := mkF m pc Ls (.ref a :: st)) rfl rfl d
  obtain ⟨s₂, o, st2, r⟩ := H T' _ cells slots X' N e' hk hn
  exact ⟨s₂, o, stp _ st2, r⟩
theorem g_instanceY {kx nx : Nat} (cx : Cx Z p s m meth c R kx nx own nm code maxL ret) {K : String} {i : Nat} {a : Addr} (d : Dc code pc (.instanceof i) 3 pc') (w : (Jvm.Cond.classLink own i K).before a0 Z = true) (F : Ins Z h a K true) (H : G p l e R s m args below meth c Z.heap.size Q h k n pc' Ls (.int 1 :: st)) : G p l e R s m args below meth c Z.heap.size Q h k n pc Ls (.ref a :: st) := by
  obtain ⟨hx, hZ, hown, rfl, hml, hret, hnm, -⟩ := cx
  obtain ⟨d, rfl⟩ := d
  intro T locs cells slots X N eT hk hn
  obtain ⟨T', X', e', stp⟩ := instY X hx hZ hown w eT F (g := mkF m pc Ls (.ref a :: st)) rfl rfl d
  obtain ⟨s₂, o, st2, r⟩ := H T' _ cells slots X' N e' hk hn
  exact ⟨s₂, o, stp _ st2, r⟩
theorem g_ret {kx nx : Nat} (cx : Cx Z p s m meth c R kx nx own nm code maxL ret) {t : FieldType} {w v : Value} {i : Instr} (d : Dc code pc i 1 pc') (hR : ret = some t)
    (hs : ∀ T locs cells slots, Stand p l e R s m args below meth c T locs cells slots → ∀ fs, (∀ (f : JFrame) (acts : List Action), f.method = m → f.locked = none → f.entered = [] → (doReturn e (T.setTop f) acts (some v)).1 = T.setFrames fs) → Steps p.tables e below (T.setTop (mkF m pc Ls (w :: st))) (T.setFrames fs))
    (hk : k ≤ R.cells) (hn : n ≤ R.slots) (q : Qv (some v) h) : G p l e R s m args below meth c Z.heap.size (KN s R Z.heap.size Qv) h k n pc Ls (w :: st) := by
  obtain ⟨hx, hZ, hown, rfl, hml, rfl, hnm, hlk⟩ := cx
  intro T locs cells slots X N eT hk' hn'
  obtain ⟨fs, hr, hrun, hended, hW, hsame⟩ := X.leave (v := some v) (fun h => by rw [hR] at h; cases h) hlk
  exact ⟨_, _, hs T locs cells slots X fs hr, hrun, hended, _, locs, rfl, ⟨by show Qv _ T.heap; rw [eT]; exact q, N⟩, ⟨_, rfl⟩, hW, hsame.mono (by omega) (by omega)⟩
theorem g_retI {kx nx : Nat} (cx : Cx Z p s m meth c R kx nx own nm code maxL ret) {x : Int32} (d : Dc code pc .ireturn 1 pc') (hR : ret = some .int) (hk : k ≤ R.cells) (hn : n ≤ R.slots) (q : Qv (some (.int x)) h) : G p l e R s m args below meth c Z.heap.size (KN s R Z.heap.size Qv) h k n pc Ls (.int x :: st) :=
  g_ret cx (t := .int) d hR (fun T locs cells slots X fs hl => retOut X cx.1 (cx.2.2.2.2.2.1.trans hR) rfl (Or.inl ⟨rfl, Or.inl rfl, _, rfl⟩) (by rw [cx.2.2.2.1]; exact d.1) hl) hk hn q
theorem g_retJ {kx nx : Nat} (cx : Cx Z p s m meth c R kx nx own nm code maxL ret) {x : Int64} (d : Dc code pc .lreturn 1 pc') (hR : ret = some .long) (hk : k ≤ R.cells) (hn : n ≤ R.slots) (q : Qv (some (.long x)) h) : G p l e R s m args below meth c Z.heap.size (KN s R Z.heap.size Qv) h k n pc Ls (.long x :: st) :=
  g_ret cx (t := .long) d hR (fun T locs cells slots X fs hl => retOut X cx.1 (cx.2.2.2.2.2.1.trans hR) rfl (Or.inr (Or.inl ⟨rfl, rfl, _, rfl⟩)) (by rw [cx.2.2.2.1]; exact d.1) hl) hk hn q
theorem g_retN {kx nx : Nat} (cx : Cx Z p s m meth c R kx nx own nm code maxL ret) {x : Int32} {t : FieldType} (d : Dc code pc .ireturn 1 pc') (hR : ret = some t) (ht : t = .boolean ∨ t = .byte ∨ t = .char ∨ t = .short) (hk : k ≤ R.cells) (hn : n ≤ R.slots) (q : Qv (some (.int (nar t x))) h) : G p l e R s m args below meth c Z.heap.size (KN s R Z.heap.size Qv) h k n pc Ls (.int x :: st) :=
  g_ret cx (t := t) d hR (fun T locs cells slots X fs hl => retN X cx.1 (cx.2.2.2.2.2.1.trans hR) ht (by rw [cx.2.2.2.1]; exact d.1) hl) hk hn q
theorem g_retZ {kx nx : Nat} (cx : Cx Z p s m meth c R kx nx own nm code maxL ret) {x : Int32} (d : Dc code pc .ireturn 1 pc') (hR : ret = some .boolean) (hx01 : nar .boolean x = x) (hk : k ≤ R.cells) (hn : n ≤ R.slots) (q : Qv (some (.int x)) h) : G p l e R s m args below meth c Z.heap.size (KN s R Z.heap.size Qv) h k n pc Ls (.int x :: st) :=
  g_retN cx d hR (Or.inl rfl) hk hn (by rw [hx01]; exact q)
theorem g_retA {kx nx : Nat} (cx : Cx Z p s m meth c R kx nx own nm code maxL ret) {w : Value} {t : FieldType} (d : Dc code pc .areturn 1 pc') (hR : ret = some t) (ht : t.isReference = true) (hw : w.isRef = true) (hnar : narrow t w = w) (hk : k ≤ R.cells) (hn : n ≤ R.slots) (q : Qv (some w) h) : G p l e R s m args below meth c Z.heap.size (KN s R Z.heap.size Qv) h k n pc Ls (w :: st) :=
  g_ret cx (t := t) d hR (fun T locs cells slots X fs hl => retOut X cx.1 (cx.2.2.2.2.2.1.trans hR) hnar (Or.inr (Or.inr (Or.inr (Or.inr ⟨rfl, ht, hw⟩)))) (by rw [cx.2.2.2.1]; exact d.1) hl) hk hn q
theorem g_retV {kx nx : Nat} (cx : Cx Z p s m meth c R kx nx own nm code maxL ret) (d : Dc code pc .return_ 1 pc') (hR : ret = none) (hk : k ≤ R.cells) (hn : n ≤ R.slots) (q : Qv none h) : G p l e R s m args below meth c Z.heap.size (KN s R Z.heap.size Qv) h k n pc Ls [] := by
  obtain ⟨hx, hZ, hown, rfl, hml, rfl, hnm, hlk⟩ := cx
  intro T locs cells slots X N eT hk' hn'
  obtain ⟨fs, hr, hrun, hended, hW, hsame⟩ := X.leave (v := none) (fun _ => rfl) hlk
  exact ⟨_, _, X.returnOut hx hR d.1 hr, hrun, hended, _, locs, rfl, ⟨by show Qv _ T.heap; rw [eT]; exact q, N⟩, ⟨_, rfl⟩, hW, hsame.mono (by omega) (by omega)⟩
theorem g_initO {kx nx : Nat} (cx : Cx Z p s m meth c R kx nx own nm code maxL ret) {i W : Nat} {a : Addr} (d : Dc code pc (.invokespecial i) 3 pc') (w1 : (Jvm.Cond.methodLink own i Lib.objectInit).before a0 Z = true) (w2 : (Jvm.Cond.instanceMethod Lib.objectInit).before a0 Z = true) (w3 : (Jvm.Cond.code Lib.objectInit ⟨#[0xb1]⟩ 1 none).before a0 Z = true) (hsz : Ls.size = maxL) (hf : 1 ≤ R.frames) (hW : (st.map fun v => v.category).sum ≤ W) (hl : W + 12 ≤ R.locals)
    (H : G p l e R s m args below meth c Z.heap.size Q h k n pc' Ls st) : G p l e R s m args below meth c Z.heap.size Q h k n pc Ls (.ref a :: st) := by
  obtain ⟨hx, hZ, hown, rfl, hml, hret, hnm, -⟩ := cx
  obtain ⟨d, rfl⟩ := d
  intro T locs cells slots X N eT hk hn
  obtain ⟨T', X', e', stp⟩ := initO X hx hZ hown w1 w2 w3 eT (g := mkF m pc Ls (.ref a :: st)) rfl (by rw [hml]; exact hsz) rfl d hf (W := W) (by show 2 * 0 + _ ≤ _; omega) hl
  obtain ⟨s₂, o, st2, r⟩ := H T' locs cells slots X' N e' hk hn
  exact ⟨s₂, o, stp _ st2, r⟩
theorem own_dummy : True := trivial
theorem g_static {kx nx : Nat} (cx : Cx Z p s m meth c R kx nx own nm code maxL ret) {i W k' n' maxL' : Nat} {bytes : ByteArray} {ret' : Option FieldType} {rm : Room} {argsL : List Value} {Q' : Option Value → Heap → Prop} {y : MethodName} (d : Dc code pc (.invokestatic i) 3 pc') (w1 : (Jvm.Cond.methodLink own i y).before a0 Z = true) (w2 : (Jvm.Cond.static y).before a0 Z = true) (w3 : (Jvm.Cond.initialized y.cls).before a0 Z = true) (w4 : (Jvm.Cond.code y bytes maxL' ret').before a0 Z = true) (hy : y.cls ≠ "java/lang/invoke/MethodHandle" ∧ y.cls ≠ "java/lang/invoke/VarHandle") (M : Met l Z y bytes maxL' ret' rm argsL.toArray h Q') (hsz : Ls.size = maxL) (hlen : ∀ sig, parseMethodDescriptor y.desc = some sig → argsL.length = sig.parameters.length) (hf : rm.frames + 1 ≤ R.frames) (hW : (rest.map fun v => v.category).sum ≤ W) (hl : W + (maxL' + 11) + rm.locals ≤ R.locals) (hk1 : k + rm.cells = k') (hn1 : n + rm.slots = n') (hkR : k' ≤ R.cells) (hnR : n' ≤ R.slots)
    (hst : st = argsL.reverse ++ rest) (H : ∀ v h', Q' v h' → G p l e R s m args below meth c Z.heap.size Q h' k' n' pc' Ls (v.toList ++ rest)) : G p l e R s m args below meth c Z.heap.size Q h k n pc Ls st := by
  obtain ⟨hx, hZ, hown, rfl, hml, hret, hnm, -⟩ := cx
  obtain ⟨d, rfl⟩ := d
  subst hk1 hn1 hst
  intro T locs cells slots X N eT hk hn
  obtain ⟨v, _, ⟨T', L', k1', n1'⟩, -, X', ⟨Lc, hQ, l1, l2, l3⟩, stp⟩ := Jvm.LawKit.callS X hx (y := y) hown (mvT hZ w1) (mvT hZ w2) (mvT hZ w3) (mvT hZ w4) hy (backOf (W := W) (Q := fun v h L => Q' v h ∧ Fr Z.heap.size L) (M []) hZ w4 w3 hf hl) (g := mkF m pc Ls (argsL.reverse ++ rest)) rfl (by rw [hml]; exact hsz)  (argsL := argsL) (rest := rest) hlen rfl (by show 2 * 0 + _ ≤ _; omega) d (fun _ _ => ⟨rfl, eT, (by show cells + rm.cells ≤ _; omega), (by show slots + rm.slots ≤ _; omega)⟩)
  dsimp only [Pt.U, Pt.locs, Pt.cells, Pt.slots] at X' l1 l2 l3 stp hQ
  subst l1 l2 l3
  obtain ⟨s₂, o, st2, r⟩ := H v T'.heap hQ.1 T' _ _ _ X' (Fr.app N hQ.2) rfl (by omega) (by omega)
  exact ⟨s₂, o, stp _ st2, r⟩
theorem g_special {kx nx : Nat} (cx : Cx Z p s m meth c R kx nx own nm code maxL ret) {i W k' n' maxL' : Nat} {bytes : ByteArray} {ret' : Option FieldType} {rm : Room} {argsL : List Value} {Q' : Option Value → Heap → Prop} {y : MethodName} {a : Addr} (d : Dc code pc (.invokespecial i) 3 pc') (hyn : y.name = "<init>") (hr0 : ret' = none) (w1 : (Jvm.Cond.methodLink own i y).before a0 Z = true) (w2 : (Jvm.Cond.instanceMethod y).before a0 Z = true) (w3 : (Jvm.Cond.initialized y.cls).before a0 Z = true) (w4 : (Jvm.Cond.code y bytes maxL' ret').before a0 Z = true) (hy : y.cls ≠ "java/lang/invoke/MethodHandle" ∧ y.cls ≠ "java/lang/invoke/VarHandle") (M : Met l Z y bytes maxL' ret' rm (.ref a :: argsL).toArray h Q') (hsz : Ls.size = maxL) (hlen : ∀ sig, parseMethodDescriptor y.desc = some sig → argsL.length = sig.parameters.length) (hf : rm.frames + 1 ≤ R.frames) (hW : (rest.map fun v => v.category).sum ≤ W) (hl : W + (maxL' + 11) + rm.locals ≤ R.locals) (hk1 : k + rm.cells = k') (hn1 : n + rm.slots = n') (hkR : k' ≤ R.cells) (hnR : n' ≤ R.slots)
    (hst : st = argsL.reverse ++ .ref a :: rest) (H : ∀ v h', Q' v h' → G p l e R s m args below meth c Z.heap.size Q h' k' n' pc' Ls (v.toList ++ rest)) : G p l e R s m args below meth c Z.heap.size Q h k n pc Ls st := by
  obtain ⟨hx, hZ, hown, rfl, hml, hret, hnm, -⟩ := cx
  obtain ⟨d, rfl⟩ := d
  subst hk1 hn1 hst
  intro T locs cells slots X N eT hk hn
  subst hr0
  obtain ⟨v, _, ⟨T', L', k1', n1'⟩, -, X', ⟨Lc, hQ, l1, l2, l3⟩, stp⟩ := X.specialBack hx (y := y) hyn hown (mvT hZ w1) (mvT hZ w2) (mvT hZ w4) hy (backOf (W := W) (Q := fun v h L => Q' v h ∧ Fr Z.heap.size L) (M []) hZ w4 w3 hf hl) (g := mkF m pc Ls (argsL.reverse ++ .ref a :: rest)) rfl (by rw [hml]; exact hsz) (Steps.refl _) (a := a) (argsL := argsL) (rest := rest) hlen rfl (by show 2 * 0 + _ ≤ _; omega) d (fun _ _ => ⟨rfl, eT, (by show cells + rm.cells ≤ _; omega), (by show slots + rm.slots ≤ _; omega)⟩)
  dsimp only [Pt.U, Pt.locs, Pt.cells, Pt.slots] at X' l1 l2 l3 stp hQ
  subst l1 l2 l3
  obtain ⟨s₂, o, st2, r⟩ := H v T'.heap hQ.1 T' _ _ _ X' (Fr.app N hQ.2) rfl (by omega) (by omega)
  exact ⟨s₂, o, stp.trans st2, r⟩
theorem g_virtual {kx nx : Nat} (cx : Cx Z p s m meth c R kx nx own nm code maxL ret) {i W k' n' maxL' : Nat} {bytes : ByteArray} {ret' : Option FieldType} {rm : Room} {argsL : List Value} {Q' : Option Value → Heap → Prop} {y z : MethodName} {a : Addr} {C : String} (d : Dc code pc (.invokevirtual i) 3 pc') (w1 : (Jvm.Cond.methodLink own i y).before a0 Z = true) (w2 : (Jvm.Cond.declares y).before a0 Z = true) (w3 : (Jvm.Cond.initialized z.cls).before a0 Z = true) (w4 : (Jvm.Cond.code z bytes maxL' ret').before a0 Z = true) (w5 : (Jvm.Cond.selects C y z).before a0 Z = true) (w6 : (Jvm.Cond.instanceMethod z).before a0 Z = true) (hnf : y = z) (hy : y.cls ≠ "java/lang/invoke/MethodHandle" ∧ y.cls ≠ "java/lang/invoke/VarHandle") (E : Exa Z h a C) (M : Met l Z z bytes maxL' ret' rm (.ref a :: argsL).toArray h Q') (hsz : Ls.size = maxL) (hlen : ∀ sig, parseMethodDescriptor y.desc = some sig → argsL.length = sig.parameters.length) (hf : rm.frames + 1 ≤ R.frames) (hW : (rest.map fun v => v.category).sum ≤ W) (hl : W + (maxL' + 11) + rm.locals ≤ R.locals) (hk1 : k + rm.cells = k') (hn1 : n + rm.slots = n') (hkR : k' ≤ R.cells) (hnR : n' ≤ R.slots)
    (hst : st = argsL.reverse ++ .ref a :: rest) (H : ∀ v h', Q' v h' → G p l e R s m args below meth c Z.heap.size Q h' k' n' pc' Ls (v.toList ++ rest)) : G p l e R s m args below meth c Z.heap.size Q h k n pc Ls st := by
  obtain ⟨hx, hZ, hown, rfl, hml, hret, hnm, -⟩ := cx
  obtain ⟨d, rfl⟩ := d
  subst hk1 hn1 hst
  intro T locs cells slots X N eT hk hn
  subst hnf
  obtain ⟨cq, kq, q1, q2, q3⟩ := isOf hZ eT E
  obtain ⟨v, _, ⟨T', L', k1', n1'⟩, -, X', ⟨Lc, hQ, l1, l2, l3⟩, stp⟩ := X.virtualBack hx (y := y) (z := y) hown (mvT hZ w1) (mvT hZ w2) (notFace_of_selects (args := #[]) (mvT hZ w5)) (mvT hZ w5) (mvT hZ w6) hy (backOf (W := W) (Q := fun v h L => Q' v h ∧ Fr Z.heap.size L) (M []) hZ w4 w3 hf hl) q1 q3 (g := mkF m pc Ls (argsL.reverse ++ .ref a :: rest)) rfl (by rw [hml]; exact hsz) (Steps.refl _) (argsL := argsL) (rest := rest) hlen rfl (by show 2 * 0 + _ ≤ _; omega) d (fun _ _ => ⟨rfl, eT, (by show cells + rm.cells ≤ _; omega), (by show slots + rm.slots ≤ _; omega)⟩)
  dsimp only [Pt.U, Pt.locs, Pt.cells, Pt.slots] at X' l1 l2 l3 stp hQ
  subst l1 l2 l3
  obtain ⟨s₂, o, st2, r⟩ := H v T'.heap hQ.1 T' _ _ _ X' (Fr.app N hQ.2) rfl (by omega) (by omega)
  exact ⟨s₂, o, stp.trans st2, r⟩
theorem g_private {kx nx : Nat} (cx : Cx Z p s m meth c R kx nx own nm code maxL ret) {i W k' n' maxL' : Nat} {bytes : ByteArray} {ret' : Option FieldType} {rm : Room} {argsL : List Value} {Q' : Option Value → Heap → Prop} {y : MethodName} {a : Addr} (d : Dc code pc (.invokevirtual i) 3 pc') (w1 : (Jvm.Cond.methodLink own i y).before a0 Z = true) (w2 : (Jvm.Cond.instanceMethod y).before a0 Z = true) (w3 : (Jvm.Cond.initialized y.cls).before a0 Z = true) (w4 : (Jvm.Cond.code y bytes maxL' ret').before a0 Z = true) (w5 : (Jvm.Cond.selects y.cls y y).before a0 Z = true) (w6 : (Jvm.Cond.privateMethod y).before a0 Z = true) (hy : y.cls ≠ "java/lang/invoke/MethodHandle" ∧ y.cls ≠ "java/lang/invoke/VarHandle") {C : String} (E : Exa Z h a C) (M : Met l Z y bytes maxL' ret' rm (.ref a :: argsL).toArray h Q') (hsz : Ls.size = maxL) (hlen : ∀ sig, parseMethodDescriptor y.desc = some sig → argsL.length = sig.parameters.length) (hf : rm.frames + 1 ≤ R.frames) (hW : (rest.map fun v => v.category).sum ≤ W) (hl : W + (maxL' + 11) + rm.locals ≤ R.locals) (hk1 : k + rm.cells = k') (hn1 : n + rm.slots = n') (hkR : k' ≤ R.cells) (hnR : n' ≤ R.slots)
    (hst : st = argsL.reverse ++ .ref a :: rest) (H : ∀ v h', Q' v h' → G p l e R s m args below meth c Z.heap.size Q h' k' n' pc' Ls (v.toList ++ rest)) : G p l e R s m args below meth c Z.heap.size Q h k n pc Ls st := by
  obtain ⟨hx, hZ, hown, rfl, hml, hret, hnm, -⟩ := cx
  obtain ⟨d, rfl⟩ := d
  subst hk1 hn1 hst
  intro T locs cells slots X N eT hk hn
  obtain ⟨cq, q1, q2⟩ := E.cell
  obtain ⟨v, _, ⟨T', L', k1', n1'⟩, -, X', ⟨Lc, hQ, l1, l2, l3⟩, stp⟩ := X.privateBack hx (y := y) hown (mvT hZ w1) (mvT hZ w2) (mvT hZ w5) (Cond.privateMethod_at (mvP hZ w6 (args := #[]))) (mvT hZ w4) hy (backOf (W := W) (Q := fun v h L => Q' v h ∧ Fr Z.heap.size L) (M []) hZ w4 w3 hf hl) (g := mkF m pc Ls (argsL.reverse ++ .ref a :: rest)) rfl (by rw [hml]; exact hsz) (Steps.refl _) (a := a) (by rw [eT]; exact q1) q2 (argsL := argsL) (rest := rest) hlen rfl (by show 2 * 0 + _ ≤ _; omega) d (fun _ _ => ⟨rfl, eT, (by show cells + rm.cells ≤ _; omega), (by show slots + rm.slots ≤ _; omega)⟩)
  dsimp only [Pt.U, Pt.locs, Pt.cells, Pt.slots] at X' l1 l2 l3 stp hQ
  subst l1 l2 l3
  obtain ⟨s₂, o, st2, r⟩ := H v T'.heap hQ.1 T' _ _ _ X' (Fr.app N hQ.2) rfl (by omega) (by omega)
  exact ⟨s₂, o, stp.trans st2, r⟩
theorem g_virtualUp {kx nx : Nat} (cx : Cx Z p s m meth c R kx nx own nm code maxL ret) {i W k' n' maxL' : Nat} {bytes : ByteArray} {ret' : Option FieldType} {rm : Room} {argsL : List Value} {Q' : Option Value → Heap → Prop} {x y : MethodName} {a : Addr} {C owner : String} (d : Dc code pc (.invokevirtual i) 3 pc') (w1 : (Jvm.Cond.methodLink own i x).before a0 Z = true) (w0 : (Jvm.Cond.sameMethod x.cls owner x.name x.desc).before a0 Z = true) (w2 : (Jvm.Cond.declares ⟨owner, x.name, x.desc⟩).before a0 Z = true) (w3 : (Jvm.Cond.initialized y.cls).before a0 Z = true) (w4 : (Jvm.Cond.code y bytes maxL' ret').before a0 Z = true) (w5 : (Jvm.Cond.selects C x y).before a0 Z = true) (w6 : (Jvm.Cond.instanceMethod y).before a0 Z = true) (hy : owner ≠ "java/lang/invoke/MethodHandle" ∧ owner ≠ "java/lang/invoke/VarHandle") (E : Exa Z h a C) (M : Met l Z y bytes maxL' ret' rm (.ref a :: argsL).toArray h Q') (hsz : Ls.size = maxL) (hlen : ∀ sig, parseMethodDescriptor x.desc = some sig → argsL.length = sig.parameters.length) (hf : rm.frames + 1 ≤ R.frames) (hW : (rest.map fun v => v.category).sum ≤ W) (hl : W + (maxL' + 11) + rm.locals ≤ R.locals) (hk1 : k + rm.cells = k') (hn1 : n + rm.slots = n') (hkR : k' ≤ R.cells) (hnR : n' ≤ R.slots)
    (hst : st = argsL.reverse ++ .ref a :: rest) (H : ∀ v h', Q' v h' → G p l e R s m args below meth c Z.heap.size Q h' k' n' pc' Ls (v.toList ++ rest)) : G p l e R s m args below meth c Z.heap.size Q h k n pc Ls st := by
  obtain ⟨hx, hZ, hown, rfl, hml, hret, hnm, -⟩ := cx
  obtain ⟨d, rfl⟩ := d
  subst hk1 hn1 hst
  intro T locs cells slots X N eT hk hn
  obtain ⟨cq, kq, q1, q2, q3⟩ := isOf hZ eT E
  obtain ⟨v, _, ⟨T', L', k1', n1'⟩, -, X', ⟨Lc, hQ, l1, l2, l3⟩, stp⟩ := X.virtualBackUp hx (x := x) (y := y) hown (mvT hZ w1) (mvT hZ w0) (mvT hZ w2) hy (mvT hZ w5) (mvT hZ w6) (backOf (W := W) (Q := fun v h L => Q' v h ∧ Fr Z.heap.size L) (M []) hZ w4 w3 hf hl) q1 q3 (g := mkF m pc Ls (argsL.reverse ++ .ref a :: rest)) rfl (by rw [hml]; exact hsz) (Steps.refl _) (argsL := argsL) (rest := rest) hlen rfl (by show 2 * 0 + _ ≤ _; omega) d (fun _ _ => ⟨rfl, eT, (by show cells + rm.cells ≤ _; omega), (by show slots + rm.slots ≤ _; omega)⟩)
  dsimp only [Pt.U, Pt.locs, Pt.cells, Pt.slots] at X' l1 l2 l3 stp hQ
  subst l1 l2 l3
  obtain ⟨s₂, o, st2, r⟩ := H v T'.heap hQ.1 T' _ _ _ X' (Fr.app N hQ.2) rfl (by omega) (by omega)
  exact ⟨s₂, o, stp.trans st2, r⟩
theorem specialRef {T : State} {locs : List Loc} {cells slots : Nat} (X : Stand p l e R s m args below meth c T locs cells slots) (hexec : p.tables.exec = Jvm.exec) (hZ : Z.Warmed39 s.vm) {index : Nat} {y : MethodName} (hy1 : y.name = "<init>") (hown : s.vm.findClass own = some m.cls)
    (href : (Jvm.Cond.methodRef own index y).before a0 Z = true) (hinst : (Jvm.Cond.instanceMethod y).before a0 Z = true) {bytes : ByteArray} {mL : Nat} (hcode : (Jvm.Cond.code y bytes mL none).before a0 Z = true) (hy : y.cls ≠ "java/lang/invoke/MethodHandle" ∧ y.cls ≠ "java/lang/invoke/VarHandle")
    {W : Nat} {Pre : Pt → Array Value → Prop} {Post : Pt → Array Value → Option Value → Pt → Prop} (hK : Back l R p e below s args y 3 W Pre Post)
    {g : JFrame} (hg : g.method = m) (hsize : g.locals.size = c.maxLocals) {a : Addr} {argsL rest : List Value}
    (hlen : ∀ sig, parseMethodDescriptor y.desc = some sig → argsL.length = sig.parameters.length) (hstack : g.stack = argsL.reverse ++ .ref a :: rest) (hW : 2 * g.monitorRoom + (rest.map fun v => v.category).sum ≤ W)
    (hdg : decode c.code g.pc = .ok (.invokespecial index, 3)) (hpre : Pre ⟨T, locs, cells, slots⟩ (.ref a :: argsL).toArray) :
    ∃ (v : Option Value) (B : Pt), Stand p l e R s m args below meth c B.U B.locs B.cells B.slots ∧ Post ⟨T, locs, cells, slots⟩ (.ref a :: argsL).toArray v B ∧
      Steps p.tables e below (T.setTop g) (B.U.setTop { g with pc := g.pc + 3, stack := v.toList ++ rest }) := by
  have hZT : Z.Warmed39 T.vm := wtrans hZ X.warmed
  have hinst' : (Jvm.Cond.instanceMethod y).before args s = true := mvT hZ hinst
  have hcode' : (Jvm.Cond.code y bytes mL none).before args s = true := mvT hZ hcode
  obtain ⟨obj, methO, hnO, hmO, hstO, habO⟩ := Cond.instanceMethod_spec hinst'
  obtain ⟨methO', cO, hmO', hcO, hbO, hlO, -, hlockO, -, hsigO⟩ := Cond.code_spec hnO hcode'
  cases hmO.symm.trans hmO'
  obtain ⟨kO, hkO, hnameO⟩ := className_of_methodNamed hnO
  obtain ⟨hnameMO, hdescO⟩ := name_of_methodNamed hnO hmO
  obtain ⟨objZ, _, hnZ, -⟩ := Cond.instanceMethod_spec hinst
  have hr : (Jvm.Cond.methodRef own index y).before a0 (Z.setVm T.vm) = true := Cond.methodRef_warmed39 hZT hnZ hy href
  have hownT : (Z.setVm T.vm).vm.findClass own = some m.cls := by show T.vm.findClass own = _; rw [X.warmed.alike.findClass]; exact hown
  obtain ⟨m', c', hm', hready, hfind, hnamed⟩ := Cond.methodRef_named e hownT hr
  have hf0 : s.methodFound? y.cls y.name y.desc = some obj := State.methodFound?_of_named hnO hy
  have hf1 : (s.setVm T.vm).methodFound? y.cls y.name y.desc = some obj := (State.methodFound?_setVm_of_named X.warmed.alike hnO hy).trans hf0
  have hf2 : (Z.setVm T.vm).methodFound? y.cls y.name y.desc = some obj := hf1
  cases hf2.symm.trans hm'
  have hcc : c' = obj.cls := by
    have h1 : T.vm.findClass y.cls = some c' := hfind
    rw [X.warmed.alike.findClass, findClass_of_methodNamed hnO] at h1
    exact (Option.some.inj h1).symm
  subst hcc
  obtain ⟨kO₂, hkO₂, heO₂⟩ := X.warmed.alike.2.2 _ _ hkO
  have hmO₂ : T.vm.method? obj = some methO := by rw [X.warmed.alike.method?]; exact hmO
  have hfound : lookupSpecial T.vm obj.cls "<init>" methO.desc = .method obj := by
    rw [X.warmed.alike.lookupSpecial, hdescO, ← hy1]; exact lookupSpecial_of_named hnO hmO hstO
  obtain ⟨v, B, X', hpost, hsteps⟩ := hK m meth c ⟨T, locs, cells, slots⟩ { g with stack := rest } (.invokespecial index) obj (.ref a :: argsL).toArray X hg hsize hdg hW (X.named hnO) hpre
  refine ⟨v, B, X', hpost, Steps.trans ?_ hsteps⟩
  subst hg
  jvm_step X.here [hexec, hdg, invokespecial.wp_init (e := e) (s := T) (k := kO₂) (meth := methO) (m := obj) (a := a) (args := argsL) (rest := rest) (f := g) X.here.top hnamed hready hkO₂ hmO₂ (by rw [hnameMO]; exact hy1) hstO habO hfound (hlen _ hsigO) hstack]
  intro acts
  rw [doInvoke_state]
  exact Steps.refl _
theorem g_specialRef {kx nx : Nat} (cx : Cx Z p s m meth c R kx nx own nm code maxL ret) {i W k' n' maxL' : Nat} {bytes : ByteArray} {ret' : Option FieldType} {rm : Room} {argsL : List Value} {Q' : Option Value → Heap → Prop} {y : MethodName} {a : Addr} (d : Dc code pc (.invokespecial i) 3 pc') (hyn : y.name = "<init>") (hr0 : ret' = none) (w1 : (Jvm.Cond.methodRef own i y).before a0 Z = true) (w2 : (Jvm.Cond.instanceMethod y).before a0 Z = true) (w3 : (Jvm.Cond.initialized y.cls).before a0 Z = true) (w4 : (Jvm.Cond.code y bytes maxL' ret').before a0 Z = true) (hy : y.cls ≠ "java/lang/invoke/MethodHandle" ∧ y.cls ≠ "java/lang/invoke/VarHandle") (M : Met l Z y bytes maxL' ret' rm (.ref a :: argsL).toArray h Q') (hsz : Ls.size = maxL) (hlen : ∀ sig, parseMethodDescriptor y.desc = some sig → argsL.length = sig.parameters.length) (hf : rm.frames + 1 ≤ R.frames) (hW : (rest.map fun v => v.category).sum ≤ W) (hl : W + (maxL' + 11) + rm.locals ≤ R.locals) (hk1 : k + rm.cells = k') (hn1 : n + rm.slots = n') (hkR : k' ≤ R.cells) (hnR : n' ≤ R.slots)
    (hst : st = argsL.reverse ++ .ref a :: rest) (H : ∀ v h', Q' v h' → G p l e R s m args below meth c Z.heap.size Q h' k' n' pc' Ls (v.toList ++ rest)) : G p l e R s m args below meth c Z.heap.size Q h k n pc Ls st := by
  obtain ⟨hx, hZ, hown, rfl, hml, hret, hnm, -⟩ := cx
  obtain ⟨d, rfl⟩ := d
  subst hk1 hn1 hst
  intro T locs cells slots X N eT hk hn
  subst hr0
  obtain ⟨v, ⟨T', L', k1', n1'⟩, X', ⟨Lc, hQ, l1, l2, l3⟩, stp⟩ := specialRef X hx hZ (y := y) hyn hown w1 w2 w4 hy (backOf (W := W) (Q := fun v h L => Q' v h ∧ Fr Z.heap.size L) (M []) hZ w4 w3 hf hl) (g := mkF m pc Ls (argsL.reverse ++ .ref a :: rest)) rfl (by rw [hml]; exact hsz) (a := a) (argsL := argsL) (rest := rest) hlen rfl (by show 2 * 0 + _ ≤ _; omega) d ⟨rfl, eT, (by show cells + rm.cells ≤ _; omega), (by show slots + rm.slots ≤ _; omega)⟩
  dsimp only [Pt.U, Pt.locs, Pt.cells, Pt.slots] at X' l1 l2 l3 stp hQ
  subst l1 l2 l3
  obtain ⟨s₂, o, st2, r⟩ := H v T'.heap hQ.1 T' _ _ _ X' (Fr.app N hQ.2) rfl (by omega) (by omega)
  exact ⟨s₂, o, stp.trans st2, r⟩
theorem g_lsw {kx nx : Nat} (cx : Cx Z p s m meth c R kx nx own nm code maxL ret) {x : Int32} {dflt : Int} {pairs : Array (Int × Int)} {len : Nat} (d : decode code pc = .ok (.lookupswitch dflt pairs, len)) (hs : (pairs.toList.zip (pairs.toList.drop 1)).all (fun (a, next) => a.1 < next.1) = true) {off : Int} (hf : ((pairs.find? (·.1 == x.toInt)).map (·.2)).getD dflt = off) (h0 : 0 ≤ (pc : Int) + off) (hp : ((pc : Int) + off).toNat = pc') (H : G p l e R s m args below meth c Z.heap.size Q h k n pc' Ls st) : G p l e R s m args below meth c Z.heap.size Q h k n pc Ls (.int x :: st) := by
  obtain ⟨hx, hZ, hown, rfl, hml, hret, hnm, -⟩ := cx
  subst hp
  intro T locs cells slots X N eT hk hn
  obtain ⟨s₂, o, st2, r⟩ := H T locs cells slots X N eT hk hn
  cases hq : pairs.find? (·.1 == x.toInt) with
  | none =>
    rw [hq] at hf
    have hf' : dflt = off := hf
    subst hf'
    exact ⟨s₂, o, X.lookupswitchMiss hx (g := mkF m pc Ls (.int x :: st)) rfl rfl d hs hq h0 _ st2, r⟩
  | some ao =>
    rw [hq] at hf
    have hf' : ao.2 = off := hf
    subst hf'
    exact ⟨s₂, o, X.lookupswitchHit hx (g := mkF m pc Ls (.int x :: st)) rfl rfl d hs (a := ao.1) (off := ao.2) hq h0 _ st2, r⟩
theorem lsw_miss {x : Int32} {dflt : Int} {pairs : Array (Int × Int)} (q : ∀ a ∈ pairs.toList, a.1 ≠ x.toInt) : ((pairs.find? (·.1 == x.toInt)).map (·.2)).getD dflt = dflt := by rw [find_miss q]; rfl
theorem g_aaloadR {kx nx : Nat} (cx : Cx Z p s m meth c R kx nx own nm code maxL ret) {a : Addr} {cl : Cell} {j : Int32} {v : Value} {ty : FieldType} (d : Dc code pc .aaload 1 pc') (A : Arr Z h a cl ty) (hty : ty.isReference = true) (hj : ¬ (j < 0 ∨ cl.slots.size ≤ j.toNatClampNeg)) (hv : cl.slots[j.toNatClampNeg]? = some v) (H : G p l e R s m args below meth c Z.heap.size Q h k n pc' Ls (v :: st)) : G p l e R s m args below meth c Z.heap.size Q h k n pc Ls (.int j :: .ref a :: st) := by
  obtain ⟨hx, hZ, hown, rfl, hml, hret, hnm, -⟩ := cx
  obtain ⟨d, rfl⟩ := d
  intro T locs cells slots X N eT hk hn
  obtain ⟨s₂, o, st2, r⟩ := H T _ cells slots X N eT hk hn
  exact ⟨s₂, o, X.aaload hx (j := j) (v := v) (by rw [eT]; exact A.1) (State.isArrayOf_alike hZ.alike A.2.1) hty A.2.2 hj hv (g := mkF m pc Ls (.int j :: .ref a :: st)) rfl rfl d _ st2, r⟩
theorem arr_len {t : Term} {a : Addr} {cl : Cell} {ty : FieldType} {z : Int32} (ev : t.eval args Z none [] Z = some (.ref a)) (A : Arr Z Z.heap a cl ty) (h3 : (Jvm.Cond.eq (.length t) (.int z)).value args Z none Z [] = some true) : cl.slots.size < 2 ^ 31 ∧ cl.slots.size.toInt32 = z := by
  have ex := eqv_i (F := .int z) rfl h3
  have A1 := A.fin (Vm.Alike.refl _)
  have hl : cl.slots.size < 2 ^ 31 := by
    refine Decidable.byContradiction fun hc => ?_
    simp [Term.eval, ev, A1, hc] at ex
  rw [len_f ev A1 hl] at ex
  exact ⟨hl, by simpa using ex⟩
theorem sta_arr {C f d : String} {ty : FieldType} {z : Int32} (hi : (Jvm.Cond.initializedFor C f d).before args Z = true ∨ ((Jvm.Cond.initialized C).before args Z = true ∧ (Jvm.Cond.laysStatic C f d).before args Z = true)) (h1 : (Jvm.Cond.arrayOf (.static C f d) ty).value args Z none Z [] = some true) (h3 : (Jvm.Cond.eq (.length (.static C f d)) (.int z)).value args Z none Z [] = some true) :
    ∃ a cl, Sta Z Z.heap C f d (.ref a) ∧ (Term.static C f d).eval args Z none [] Z = some (.ref a) ∧ Arr Z Z.heap a cl ty ∧ cl.slots.size < 2 ^ 31 ∧ cl.slots.size.toInt32 = z := by
  obtain ⟨a, ev⟩ := arr_v h1
  obtain ⟨cl, A⟩ := Arr.start ev h1
  obtain ⟨q1, q2⟩ := arr_len ev A h3
  exact ⟨a, cl, Sta.start ev hi, ev, A, q1, q2⟩
theorem fld_exa {t : Term} {C f d K : String} {a : Addr} (ev : t.eval args Z none [] Z = some (.ref a)) (h : (Jvm.Cond.exactly (.field t C f d) K).value args Z none Z [] = some true) : ∃ b, Fld Z Z.heap a C f d (.ref b) ∧ Exa Z Z.heap b K ∧ (Term.field t C f d).eval args Z none [] Z = some (.ref b) := by
  obtain ⟨b, eb⟩ := exa_v h
  exact ⟨b, Fld.start ((fld_at ev).symm.trans eb), Exa.start eb h, eb⟩
theorem fld_arr {t : Term} {C f d : String} {a : Addr} {ty : FieldType} {z : Int32} (ev : t.eval args Z none [] Z = some (.ref a)) (h : (Jvm.Cond.arrayOf (.field t C f d) ty).value args Z none Z [] = some true) (h3 : (Jvm.Cond.eq (.length (.field t C f d)) (.int z)).value args Z none Z [] = some true) : ∃ b cl, Fld Z Z.heap a C f d (.ref b) ∧ (Term.field t C f d).eval args Z none [] Z = some (.ref b) ∧ Arr Z Z.heap b cl ty ∧ cl.slots.size < 2 ^ 31 ∧ cl.slots.size.toInt32 = z := by
  obtain ⟨b, eb⟩ := arr_v h
  obtain ⟨cl, A⟩ := Arr.start eb h
  obtain ⟨q1, q2⟩ := arr_len eb A h3
  exact ⟨b, cl, Fld.start ((fld_at ev).symm.trans eb), eb, A, q1, q2⟩
theorem elem_eq {t : Term} {a : Addr} {cl : Cell} {ty : FieldType} {j v : Int32} (ev : t.eval args Z none [] Z = some (.ref a)) (A : Arr Z Z.heap a cl ty) (h : (Jvm.Cond.eq (.elem t (.int j)) (.int v)).value args Z none Z [] = some true) : cl.slots[j.toNatClampNeg]? = some (.int v) := (elem_in (eqv_i (F := .int v) rfl h) ev rfl A.1).2
theorem own_selpriv {y : MethodName} {sl : Nat} (hins : (Jvm.Cond.instantiable y.cls sl).before a0 Z = true) (hpriv : (Jvm.Cond.privateMethod y).before a0 Z = true) (hinst : (Jvm.Cond.instanceMethod y).before a0 Z = true) (hy : y.cls ≠ "java/lang/invoke/MethodHandle" ∧ y.cls ≠ "java/lang/invoke/VarHandle") : (Jvm.Cond.selects y.cls y y).before a0 Z = true := by
  obtain ⟨c, k, hc, hk, -, hniab, -, -⟩ := Cond.instantiable_spec hins
  have hni : k.isInterface = false := (Bool.or_eq_false_iff.mp hniab).1
  obtain ⟨mk, methM, hnamed, hmethM, -, -⟩ := Cond.instanceMethod_spec hinst
  have hfound : Z.methodFound? y.cls y.name y.desc = some mk := State.methodFound?_of_named hnamed hy
  have hcls : mk.cls = c := Option.some.inj ((findClass_of_methodNamed hnamed).symm.trans hc)
  have hsel : selectMethod {} Z.vm c mk = .method mk := selectMethod_private hmethM (Cond.privateMethod_at hpriv mk methM hnamed hmethM)
  simp only [Cond.before, Cond.holds, Cond.value, hc, hfound, hnamed, hsel, hcls, hk]
  simp; exact hni
theorem nar1 : nar .boolean 1 = 1 := rfl
theorem nar0 : nar .boolean 0 = 0 := rfl
theorem sta_exa {C f d K : String} (hx : (Jvm.Cond.exactly (.static C f d) K).value args Z none Z [] = some true) (wi : (Jvm.Cond.initialized C).before args Z = true) (wl : (Jvm.Cond.laysStatic C f d).before args Z = true) : ∃ a, Sta Z Z.heap C f d (.ref a) ∧ Exa Z Z.heap a K ∧ (Term.static C f d).eval args Z none [] Z = some (.ref a) := by
  obtain ⟨a, ev⟩ := exa_v hx
  exact ⟨a, Sta.start ev (Or.inr ⟨wi, wl⟩), Exa.start ev hx, ev⟩
theorem fld_eq {t : Term} {C f d : String} {a : Addr} {v : Int32} (ev : t.eval args Z none [] Z = some (.ref a)) (h : (Jvm.Cond.eq (.field t C f d) (.int v)).value args Z none Z [] = some true) : Fld Z Z.heap a C f d (.int v) := by
  obtain ⟨x, y, ex, ey, -, k2⟩ := cmp_v (Or.inl h)
  have e2 : y = .int v := by simpa [Term.eval] using ey.symm
  subst e2
  obtain ⟨z, rfl⟩ := k2
  have hz : z = v := by simpa [Cond.value, ex, ey] using h
  subst hz
  rw [fld_at ev] at ex
  exact Fld.start ex
theorem sta_int {C f d : String} (hi : (Jvm.Cond.initializedFor C f d).before args Z = true) (h1 : (Jvm.Cond.isInt (.static C f d)).before args Z = true) : ∃ v, Sta Z Z.heap C f d (.int v) ∧ (Term.static C f d).eval args Z none [] Z = some (.int v) := by
  obtain ⟨v, ev⟩ := is_v (Cond.before_iff.mp h1)
  exact ⟨v, Sta.start ev (Or.inl hi), ev⟩
theorem ne_of_not {t : Term} {z v : Int32} (ev : t.eval args Z none [] Z = some (.int z)) (h : (Jvm.Cond.not (.eq t (.int v))).before args Z = true) : ¬ z = v := by
  have h2 := not_v (Cond.before_iff.mp h)
  intro q
  subst q
  simp [Cond.value, ev, Term.eval] at h2
theorem own_lrem (x y : Int64) (d : Int) (hy : y.toInt = d) : (0 ≤ x.toInt → (x % y).toInt = x.toInt % d) ∧ (x.toInt < 0 → (x % y).toInt = -((-x.toInt) % d)) := by
  rw [← lrem_mod]; exact c_lrem x y d hy
end Walk
section WalkX
variable {p : Program} {l : Launch} {e : Env} {R : Room} {s : State} {m : MethodId} {args : Array Value} {below : List Frame} {meth : Method} {c : Code} {Z : State} {a0 : Array Value} {k n : Nat} {own nm : String} {code : ByteArray} {maxL : Nat} {ret : Option FieldType} {n0 : Nat} {Q : State → Outcome → Prop} {Qv : Option Value → Heap → Prop} {h : Heap} {pc pc' pcY pcN : Nat} {Ls : Array Slot} {st rest : List Value}
def own_nz (x : Int32) : Int32 := if x = 0 then 0 else 1
theorem own_nz_b (x : Int32) : 0 ≤ (own_nz x).toInt ∧ (own_nz x).toInt ≤ 1 := by
  unfold own_nz; split <;> decide
theorem g_tern {kx nx : Nat} (cx : Cx Z p s m meth c R kx nx own nm code maxL ret) {x : Int32} {pc1 pc2 pcB pcZ : Nat} (d : Bi code pc (Instr.ifCond .eq) pcY pc1) (d1 : Dc code pc1 (.iconst 1) 1 pc2) (d2 : Bi code pc2 Instr.goto pcB pcZ) (d0 : Dc code pcY (.iconst 0) 1 pcB) (H : G p l e R s m args below meth c Z.heap.size Q h k n pcB Ls (.int (own_nz x) :: st)) : G p l e R s m args below meth c Z.heap.size Q h k n pc Ls (.int x :: st) :=
  g_if_eq cx d (fun q => g_iconst cx d0 (v := 0) rfl (by rw [show own_nz x = 0 from if_pos q] at H; exact H)) (fun q => g_iconst cx d1 (v := 1) rfl (g_goto cx d2 (by rw [show own_nz x = 1 from if_neg q] at H; exact H)))
theorem g_copy {kx nx : Nat} (cx : Cx Z p s m meth c R kx nx own nm code maxL ret) {i W : Nat} {a b : Addr} {k1 k' : ClassId} {ty : FieldType} {z z' sp dp nn : Int32} {vs vd us : List Value} {dv dd : Value} {ad : String} (d : Dc code pc (.invokestatic i) 3 pc') (w1 : (Jvm.Cond.methodLink own i Jvm.Stand.acN).before a0 Z = true) (w2 : (Jvm.Cond.native Jvm.Stand.acN).before a0 Z = true) (w3 : (Jvm.Cond.static Jvm.Stand.acN).before a0 Z = true) (w4 : (Jvm.Cond.initialized "java/lang/System").before a0 Z = true) (A : Arv Z h a k1 ty z vs dv) (B : Arx Z h b k' ty z' vd dd ad) (hty : refKind ty = false) (h1 : ¬ sp < 0) (h2 : ¬ dp < 0) (h3 : ¬ nn < 0) (h4 : sp.toNatClampNeg + nn.toNatClampNeg ≤ z.toNatClampNeg) (h5 : dp.toNatClampNeg + nn.toNatClampNeg ≤ z'.toNatClampNeg)
    (hus : us = (List.range nn.toNatClampNeg).map fun i => vs.getD (sp.toNatClampNeg + i) dv) (hl : dp.toNatClampNeg + nn.toNatClampNeg ≤ vd.length) (ge : Z.heap.size ≤ b) (hsz : Ls.size = maxL) (hf : 1 ≤ R.frames) (hW : (rest.map fun v => v.category).sum ≤ W) (hlo : W + 18 ≤ R.locals)
    (H : ∀ h', Keep h h' [b] → Arx Z h' b k' ty z' (vd.take dp.toNatClampNeg ++ us ++ vd.drop (dp.toNatClampNeg + nn.toNatClampNeg)) dd ad → G p l e R s m args below meth c Z.heap.size Q h' k n pc' Ls rest) : G p l e R s m args below meth c Z.heap.size Q h k n pc Ls (.int nn :: .int dp :: .ref b :: .int sp :: .ref a :: rest) := by
  obtain ⟨hx, hZ, hown, rfl, hml, hret, hnm, -⟩ := cx
  obtain ⟨d, rfl⟩ := d
  intro T locs cells slots X N eT hk hn
  obtain ⟨T', h', L, X', e', N', K, A', stp⟩ := cpA X hx hZ hown w1 w2 w3 w4 eT A B.1 (Or.inl ⟨rfl, hty⟩) h1 h2 h3 h4 h5 hus hl N ge (g := mkF m pc Ls (.int nn :: .int dp :: .ref b :: .int sp :: .ref a :: rest)) rfl (by rw [hml]; exact hsz) (rest := rest) rfl d hf (W := W) (by show 2 * 0 + _ ≤ _; omega) hlo
  obtain ⟨s₂, o, st2, r⟩ := H h' K ⟨A', B.2.keep K⟩ T' L cells slots X' N' e' hk hn
  exact ⟨s₂, o, stp _ st2, r⟩
theorem g_ldcwI {kx nx : Nat} (cx : Cx Z p s m meth c R kx nx own nm code maxL ret) {i : Nat} {v : Int32} (d : Dc code pc (.ldc_w i) 3 pc') (w : (Jvm.Cond.constant own i v).before a0 Z = true) (H : G p l e R s m args below meth c Z.heap.size Q h k n pc' Ls (.int v :: st)) : G p l e R s m args below meth c Z.heap.size Q h k n pc Ls st := by
  obtain ⟨hx, hZ, hown, rfl, hml, hret, hnm, -⟩ := cx
  obtain ⟨d, rfl⟩ := d
  intro T locs cells slots X N eT hk hn
  obtain ⟨s₂, o, st2, r⟩ := H T locs cells slots X N eT hk hn
  exact ⟨s₂, o, X.ldcwInt hx hown (mvT hZ w) (g := mkF m pc Ls st) rfl d _ st2, r⟩
end WalkX
def Wd (Z : State) (EL : List (String × Nat)) (s : State) (vm0 : Vm) (h : Heap) : Prop := (∃ k0, s.Since vm0 k0 ∧ k0 ≤ h.size) ∧ Z.Warmed39 vm0 ∧ CHr Z EL s.vm s.heap vm0 h
def KW (Z : State) (EL : List (String × Nat)) (s : State) (R : Room) (Q : Option Value → Heap → Prop) : State → Outcome → Prop := fun s₂ o => ∃ v L, o = .returned v ∧ (Q v s₂.heap ∧ Fr Z.heap.size L) ∧ CHr Z EL s.vm s.heap s₂.vm s₂.heap ∧ ReturnedEndW s o s₂ L R.cells R.slots
def MetW (l : Launch) (Z : State) (EL : List (String × Nat)) (y : MethodName) (bytes : ByteArray) (maxL : Nat) (ret : Option FieldType) (rm : Room) (as : Array Value) (h0 : Heap) (Q : Option Value → Heap → Prop) : Prop :=
  ∀ ws, MetFree l y (head1 (Jvm.Cond.code y bytes maxL ret :: ws) rm) (fun a U => a = as ∧ Z.Warmed39 U.vm ∧ U.heap = h0 ∧ CHv Z EL U.vm h0) (fun _ _ _ _ _ => True) (fun _ U o U' => ∃ v L, o = .returned v ∧ (Q v U'.heap ∧ Fr Z.heap.size L) ∧ CHr Z EL U.vm U.heap U'.vm U'.heap ∧ ReturnedEndW U o U' L rm.cells rm.slots)
section WalkW
variable {p : Program} {l : Launch} {e : Env} {R : Room} {s : State} {m : MethodId} {args : Array Value} {below : List Frame} {meth : Method} {c : Code} {Z : State} {a0 : Array Value} {EL : List (String × Nat)} {vm0 : Vm} {k n : Nat} {own nm : String} {code : ByteArray} {maxL : Nat} {ret : Option FieldType} {n0 : Nat} {Q : State → Outcome → Prop} {Qv Qv' : Option Value → Heap → Prop} {h h' : Heap} {pc pc' pcY pcN : Nat} {Ls : Array Slot} {st rest : List Value} {kx nx : Nat}
theorem Wd.ext (W : Wd Z EL s vm0 h) (E : Ext h h') : Wd Z EL s vm0 h' := by
  obtain ⟨⟨k0, a, b⟩, c, d⟩ := W
  exact ⟨⟨k0, a, Nat.le_trans b E.1⟩, c, d.trans (CHr.ext E d.1)⟩
theorem Wd.wr {a : Addr} {sl : Nat} {v : Value} (W : Wd Z EL s vm0 h) (X : Wr h h' a sl v) (S : Safe Z EL vm0 h a) : Wd Z EL s vm0 h' := by
  obtain ⟨⟨k0, a, b⟩, c, d⟩ := W
  have r := CHr.wr X S d.1
  exact ⟨⟨k0, a, Nat.le_trans b r.2.1⟩, c, d.trans r⟩
theorem Wd.keep {ws : List Addr} (W : Wd Z EL s vm0 h) (K : Keep h h' ws) (S : ∀ x ∈ ws, Safe Z EL vm0 h x) : Wd Z EL s vm0 h' := by
  obtain ⟨⟨k0, a, b⟩, c, d⟩ := W
  have r := CHr.keep K S d.1
  exact ⟨⟨k0, a, Nat.le_trans b r.2.1⟩, c, d.trans r⟩
theorem metW_of {y : MethodName} {bytes : ByteArray} {rm : Room} {as : Array Value} {h0 : Heap} (pn : plainFor y = true) (ef : ∀ m, entryFrame m as maxL = mkF m 0 Ls [])
    (body : ∀ p e s m below meth c, Cx Z p (s.setVm s.vm) m meth c rm 0 0 y.cls y.name bytes maxL ret → Wd Z EL s s.vm h0 → G p l e rm (s.setVm s.vm) m as below meth c Z.heap.size (KW Z EL s rm Qv) h0 0 0 0 Ls []) : MetW l Z EL y bytes maxL ret rm as h0 Qv := by
  intro ws
  refine MetFree.of_bodySF pn hisR ?_
  intro p e s m args below meth c s₁ Bd hml0 hP hK
  obtain ⟨rfl, hZ, hh, hC⟩ := hP
  have e0 : s₁.heap = h0 := by rw [← hh, Bd.state]; rfl
  have X0 : Stand p l e rm s m args below meth c s₁ [] 0 0 := Stand.of_body Bd
  rw [ef m]
  exact body p e s m below meth c ⟨Bd.exec, hZ, findClass_of_methodNamed Bd.named, Bd.bytes, hml0, Bd.returns, (name_of_methodNamed Bd.named Bd.method).1, BodyLoose.notSynchronized Bd⟩ ⟨⟨0, (State.WarmedH.refl s).since 0, Nat.zero_le _⟩, hZ, by rw [← hh]; exact CHr.refl (by rw [hh]; exact hC)⟩ s₁ [] 0 0 X0 (Fr.nil _) e0 (Nat.le_refl _) (Nat.le_refl _)
theorem g_retW (hEL : EW Z a0 EL) (cx : Cx Z p (s.setVm vm0) m meth c R kx nx own nm code maxL ret) (wd : Wd Z EL s vm0 h) {t : FieldType} {w v : Value} {i : Instr} (d : Dc code pc i 1 pc') (hR : ret = some t)
    (hs : ∀ T locs cells slots, Stand p l e R (s.setVm vm0) m args below meth c T locs cells slots → ∀ fs, (∀ (f : JFrame) (acts : List Action), f.method = m → f.locked = none → f.entered = [] → (doReturn e (T.setTop f) acts (some v)).1 = T.setFrames fs) → Steps p.tables e below (T.setTop (mkF m pc Ls (w :: st))) (T.setFrames fs))
    (hk : k ≤ R.cells) (hn : n ≤ R.slots) (q : Qv (some v) h) : G p l e R (s.setVm vm0) m args below meth c Z.heap.size (KW Z EL s R Qv) h k n pc Ls (w :: st) := by
  obtain ⟨hx, hZ, hown, rfl, hml, rfl, hnm, hlk⟩ := cx
  obtain ⟨⟨k0, hS, hk0⟩, hZ0, hC⟩ := wd
  intro T locs cells slots X N eT hk' hn'
  obtain ⟨fs, hr, hrun, hended, hE⟩ := X.leaveW hS (by rw [eT]; exact hk0) (v := some v) (fun h => by rw [hR] at h; cases h) hlk
  refine ⟨_, _, hs T locs cells slots X fs hr, hrun, hended, _, locs, rfl, ⟨by show Qv _ T.heap; rw [eT]; exact q, N⟩, ?_, hE.1, hE.2.1, hE.2.2.1, hE.2.2.2.mono (by omega) (by omega)⟩
  have := hC.trans (CHv.at X hZ0 hEL hC.1)
  show CHr Z EL s.vm s.heap T.vm T.heap
  rw [eT]; exact this
theorem g_retAW (hEL : EW Z a0 EL) (cx : Cx Z p (s.setVm vm0) m meth c R kx nx own nm code maxL ret) (wd : Wd Z EL s vm0 h) {w : Value} {t : FieldType} (d : Dc code pc .areturn 1 pc') (hR : ret = some t) (ht : t.isReference = true) (hw : w.isRef = true) (hnar : narrow t w = w) (hk : k ≤ R.cells) (hn : n ≤ R.slots) (q : Qv (some w) h) : G p l e R (s.setVm vm0) m args below meth c Z.heap.size (KW Z EL s R Qv) h k n pc Ls (w :: st) :=
  g_retW hEL cx wd (t := t) d hR (fun T locs cells slots X fs hl => retOut X cx.1 (cx.2.2.2.2.2.1.trans hR) hnar (Or.inr (Or.inr (Or.inr (Or.inr ⟨rfl, ht, hw⟩)))) (by rw [cx.2.2.2.1]; exact d.1) hl) hk hn q
theorem g_retVW (hEL : EW Z a0 EL) (cx : Cx Z p (s.setVm vm0) m meth c R kx nx own nm code maxL ret) (wd : Wd Z EL s vm0 h) (d : Dc code pc .return_ 1 pc') (hR : ret = none) (hk : k ≤ R.cells) (hn : n ≤ R.slots) (q : Qv none h) : G p l e R (s.setVm vm0) m args below meth c Z.heap.size (KW Z EL s R Qv) h k n pc Ls [] := by
  obtain ⟨hx, hZ, hown, rfl, hml, rfl, hnm, hlk⟩ := cx
  obtain ⟨⟨k0, hS, hk0⟩, hZ0, hC⟩ := wd
  intro T locs cells slots X N eT hk' hn'
  obtain ⟨fs, hr, hrun, hended, hE⟩ := X.leaveW hS (by rw [eT]; exact hk0) (v := none) (fun _ => rfl) hlk
  refine ⟨_, _, X.returnOut hx hR d.1 hr, hrun, hended, _, locs, rfl, ⟨by show Qv _ T.heap; rw [eT]; exact q, N⟩, ?_, hE.1, hE.2.1, hE.2.2.1, hE.2.2.2.mono (by omega) (by omega)⟩
  have := hC.trans (CHv.at X hZ0 hEL hC.1)
  show CHr Z EL s.vm s.heap T.vm T.heap
  rw [eT]; exact this
theorem g_staticW (hEL : EW Z a0 EL) (cx : Cx Z p (s.setVm vm0) m meth c R kx nx own nm code maxL ret) (wd : Wd Z EL s vm0 h) {i W k' n' maxL' : Nat} {bytes : ByteArray} {ret' : Option FieldType} {rm : Room} {argsL : List Value} {y : MethodName} (d : Dc code pc (.invokestatic i) 3 pc') (w1 : (Jvm.Cond.methodLink own i y).before a0 Z = true) (w2 : (Jvm.Cond.static y).before a0 Z = true) (w3 : (Jvm.Cond.initialized y.cls).before a0 Z = true) (w4 : (Jvm.Cond.code y bytes maxL' ret').before a0 Z = true) (hy : y.cls ≠ "java/lang/invoke/MethodHandle" ∧ y.cls ≠ "java/lang/invoke/VarHandle") (M : MetW l Z EL y bytes maxL' ret' rm argsL.toArray h Qv') (hsz : Ls.size = maxL) (hlen : ∀ sig, parseMethodDescriptor y.desc = some sig → argsL.length = sig.parameters.length) (hf : rm.frames + 1 ≤ R.frames) (hW : (rest.map fun v => v.category).sum ≤ W) (hl : W + (maxL' + 11) + rm.locals ≤ R.locals) (hk1 : k + rm.cells = k') (hn1 : n + rm.slots = n') (hkR : k' ≤ R.cells) (hnR : n' ≤ R.slots)
    (hst : st = argsL.reverse ++ rest) (H : ∀ v h' vm1, Qv' v h' → Cx Z p (s.setVm vm1) m meth c R kx nx own nm code maxL ret → Wd Z EL s vm1 h' → CHr Z EL vm0 h vm1 h' → G p l e R (s.setVm vm1) m args below meth c Z.heap.size Q h' k' n' pc' Ls (v.toList ++ rest)) : G p l e R (s.setVm vm0) m args below meth c Z.heap.size Q h k n pc Ls st := by
  obtain ⟨hx, hZ, hown, rfl, hml, hret, hnm, hlk⟩ := cx
  obtain ⟨d, rfl⟩ := d
  obtain ⟨⟨k0, hS, hk0⟩, hZ0, hC⟩ := wd
  subst hk1 hn1 hst
  intro T locs cells slots X N eT hk hn
  obtain ⟨v, _, ⟨T', L', k1', n1'⟩, -, X', hS', hgr, ⟨Lc, hQ, l1, l2, l3, hCr⟩, stp⟩ := callSS X hx (y := y) hown (mvT hZ w1) (mvT hZ w2) (mvT hZ w3) (mvT hZ w4) hy (backOfSH (W := W) (Q := fun v h L => Qv' v h ∧ Fr Z.heap.size L) (M []) hZ0 w4 w3 hf hl hEL hC.1) (g := mkF m pc Ls (argsL.reverse ++ rest)) rfl (by rw [hml]; exact hsz)  (argsL := argsL) (rest := rest) hlen rfl (by show 2 * 0 + _ ≤ _; omega) d (fun _ _ => ⟨rfl, eT, (by show cells + rm.cells ≤ _; omega), (by show slots + rm.slots ≤ _; omega)⟩)
  dsimp only [Pt.U, Pt.locs, Pt.cells, Pt.slots] at X' l1 l2 l3 stp hQ hS' hgr hCr
  subst l1 l2 l3
  have hZ1 : Z.Warmed39 T'.vm := State.Warmed39.trans (t := s.setVm vm0) hZ0 hS'.1
  obtain ⟨s₂, o, st2, r⟩ := H v T'.heap T'.vm hQ.1 ⟨hx, hZ1, by show T'.vm.findClass own = some m.cls; rw [hS'.1.alike.findClass]; exact hown, rfl, hml, hret, hnm, hlk⟩ ⟨⟨_, foldS hS (by rw [eT]; exact hk0) hS' hgr, Nat.le_refl _⟩, hZ1, hC.trans hCr⟩ hCr T' _ _ _ X' (Fr.app N hQ.2) rfl (by omega) (by omega)
  exact ⟨s₂, o, stp.trans st2, r⟩
theorem g_specialW (hEL : EW Z a0 EL) (cx : Cx Z p (s.setVm vm0) m meth c R kx nx own nm code maxL ret) (wd : Wd Z EL s vm0 h) {i W k' n' maxL' : Nat} {bytes : ByteArray} {ret' : Option FieldType} {rm : Room} {argsL : List Value} {y : MethodName} {a : Addr} (d : Dc code pc (.invokespecial i) 3 pc') (hyn : y.name = "<init>") (hr0 : ret' = none) (w1 : (Jvm.Cond.methodLink own i y).before a0 Z = true) (w2 : (Jvm.Cond.instanceMethod y).before a0 Z = true) (w3 : (Jvm.Cond.initialized y.cls).before a0 Z = true) (w4 : (Jvm.Cond.code y bytes maxL' ret').before a0 Z = true) (hy : y.cls ≠ "java/lang/invoke/MethodHandle" ∧ y.cls ≠ "java/lang/invoke/VarHandle") (M : MetW l Z EL y bytes maxL' ret' rm (.ref a :: argsL).toArray h Qv') (hsz : Ls.size = maxL) (hlen : ∀ sig, parseMethodDescriptor y.desc = some sig → argsL.length = sig.parameters.length) (hf : rm.frames + 1 ≤ R.frames) (hW : (rest.map fun v => v.category).sum ≤ W) (hl : W + (maxL' + 11) + rm.locals ≤ R.locals) (hk1 : k + rm.cells = k') (hn1 : n + rm.slots = n') (hkR : k' ≤ R.cells) (hnR : n' ≤ R.slots)
    (hst : st = argsL.reverse ++ .ref a :: rest) (H : ∀ v h' vm1, Qv' v h' → Cx Z p (s.setVm vm1) m meth c R kx nx own nm code maxL ret → Wd Z EL s vm1 h' → CHr Z EL vm0 h vm1 h' → G p l e R (s.setVm vm1) m args below meth c Z.heap.size Q h' k' n' pc' Ls (v.toList ++ rest)) : G p l e R (s.setVm vm0) m args below meth c Z.heap.size Q h k n pc Ls st := by
  obtain ⟨hx, hZ, hown, rfl, hml, hret, hnm, hlk⟩ := cx
  obtain ⟨d, rfl⟩ := d
  obtain ⟨⟨k0, hS, hk0⟩, hZ0, hC⟩ := wd
  subst hk1 hn1 hst
  intro T locs cells slots X N eT hk hn
  subst hr0
  obtain ⟨v, _, ⟨T', L', k1', n1'⟩, -, X', hS', hgr, ⟨Lc, hQ, l1, l2, l3, hCr⟩, stp⟩ := X.specialBackS hx (y := y) hyn hown (mvT hZ w1) (mvT hZ w2) (mvT hZ w4) hy (backOfSH (W := W) (Q := fun v h L => Qv' v h ∧ Fr Z.heap.size L) (M []) hZ0 w4 w3 hf hl hEL hC.1) (g := mkF m pc Ls (argsL.reverse ++ .ref a :: rest)) rfl (by rw [hml]; exact hsz) (Steps.refl _) (a := a) (argsL := argsL) (rest := rest) hlen rfl (by show 2 * 0 + _ ≤ _; omega) d (fun _ _ => ⟨rfl, eT, (by show cells + rm.cells ≤ _; omega), (by show slots + rm.slots ≤ _; omega)⟩)
  dsimp only [Pt.U, Pt.locs, Pt.cells, Pt.slots] at X' l1 l2 l3 stp hQ hS' hgr hCr
  subst l1 l2 l3
  have hZ1 : Z.Warmed39 T'.vm := State.Warmed39.trans (t := s.setVm vm0) hZ0 hS'.1
  obtain ⟨s₂, o, st2, r⟩ := H v T'.heap T'.vm hQ.1 ⟨hx, hZ1, by show T'.vm.findClass own = some m.cls; rw [hS'.1.alike.findClass]; exact hown, rfl, hml, hret, hnm, hlk⟩ ⟨⟨_, foldS hS (by rw [eT]; exact hk0) hS' hgr, Nat.le_refl _⟩, hZ1, hC.trans hCr⟩ hCr T' _ _ _ X' (Fr.app N hQ.2) rfl (by omega) (by omega)
  exact ⟨s₂, o, stp.trans st2, r⟩
theorem g_ldcW (hEL : EW Z a0 EL) (cx : Cx Z p (s.setVm vm0) m meth c R kx nx own nm code maxL ret) (wd : Wd Z EL s vm0 h) {i k' n' : Nat} (d : Dc code pc (.ldc i) 2 pc') (w : (Jvm.Cond.stringLink own i "").before a0 Z = true) (wS : ∀ a ∈ Bundle.stringAtoms, a.before a0 Z = true) (hmem : (own, i) ∈ EL) (hk1 : k + 2 = k') (hn1 : n + 4 = n') (hkR : k' ≤ R.cells) (hnR : n' ≤ R.slots)
    (H : ∀ h' vm1 a b kB, Ext h h' → Exa Z h' a "java/lang/String" → Fld Z h' a "java/lang/String" "coder" "B" (.int 0) → Fld Z h' a "java/lang/String" "value" "[B" (.ref b) → Arv Z h' b kB .byte (0 : Int32) [] (.int 0) → a < h'.size → b < h'.size → (∀ x, Safe Z EL vm1 h' x → x ≠ a ∧ x ≠ b) → Cx Z p (s.setVm vm1) m meth c R kx nx own nm code maxL ret → Wd Z EL s vm1 h' → CHr Z EL vm0 h vm1 h' → G p l e R (s.setVm vm1) m args below meth c Z.heap.size Q h' k' n' pc' Ls (.ref a :: st)) : G p l e R (s.setVm vm0) m args below meth c Z.heap.size Q h k n pc Ls st := by
  obtain ⟨hx, hZ, hown, rfl, hml, hret, hnm, hlk⟩ := cx
  obtain ⟨d, rfl⟩ := d
  obtain ⟨⟨k0, hS, hk0⟩, hZ0, hC⟩ := wd
  subst hk1 hn1
  intro T locs cells slots X N eT hk hn
  obtain ⟨a, T', h', k1, b, kB, X', e', E, hS', hk1, hW1, hf1, x1, x2, x3, x4, x5, x6, hCr, -, x7, stp⟩ := ldcCH (n := 0) X hx hZ0 hown w wS eT hS hk0 hEL hmem hC.1 (vs := []) (z := (0 : Int32)) ⟨(fun c hc => by cases hc), rfl⟩ (by decide) rfl (g := mkF m pc Ls st) rfl d (by decide) (by decide) (by omega) (by omega)
  obtain ⟨s₂, o, st2, r⟩ := H h' T'.vm a b kB E x1 x2 x3 x4 x5 x6 x7 ⟨hx, hW1, hf1, rfl, hml, hret, hnm, hlk⟩ ⟨⟨k1, hS', hk1⟩, hW1, hC.trans hCr⟩ hCr T' _ _ _ X' N e' (by omega) (by omega)
  exact ⟨s₂, o, stp _ st2, r⟩
theorem own_no {C S K : String} {sl : Nat} (w : (Jvm.Cond.superclass C S).before a0 Z = true) (w0 : (Jvm.Cond.noSuperclass S).before a0 Z = true) (wi : (Jvm.Cond.instantiable K sl).before a0 Z = true) (h1 : C ≠ K) (h2 : S ≠ K) : ∃ c t, Z.vm.findClass C = some c ∧ Z.vm.findClass K = some t ∧ Z.vm.assignable c t = false := by
  obtain ⟨t, kt, g0, g1, g2, g3, -, -⟩ := Cond.instantiable_spec wi
  have hif : kt.isInterface = false := (Bool.or_eq_false_iff.mp g3).1
  obtain ⟨o, ko, r1, r2, r3, -, -⟩ := Cond.noSuperclass_spec w0
  have neO := ids_ne r1 g0 h2
  obtain ⟨c, h0⟩ := found_sup w
  obtain ⟨p, k, kp, e1, e2, e3, e4, e5, -, e7⟩ := Cond.superclass_spec h0 w
  cases r1.symm.trans e1
  have ne := ids_ne h0 g0 h1
  have nO : ∀ fuel, Z.vm.isSubclassAux fuel o t = false := fun fuel => by
    cases fuel with
    | zero => rfl
    | succ f => simp [Vm.isSubclassAux, neO, r2, r3]
  have nC : ∀ fuel, Z.vm.isSubclassAux fuel c t = false := fun fuel => by
    cases fuel with
    | zero => rfl
    | succ f => simp [Vm.isSubclassAux, ne, e2, e4, nO]
  refine ⟨c, t, h0, g0, ?_⟩
  show Z.vm.assignableAux (255 + 1) c t = false
  simp [Vm.assignableAux, ne, e2, g1, e5, g2, hif, Vm.isSubclass, nC]
theorem g_instNo (cx : Cx Z p s m meth c R kx nx own nm code maxL ret) {C K : String} {i : Nat} {a : Addr} (d : Dc code pc (.instanceof i) 3 pc') (w : (Jvm.Cond.classLink own i K).before a0 Z = true) (E : Exa Z h a C) (F : ∃ c t, Z.vm.findClass C = some c ∧ Z.vm.findClass K = some t ∧ Z.vm.assignable c t = false) (H : G p l e R s m args below meth c Z.heap.size Q h k n pc' Ls (.int (0 : Int32) :: st)) : G p l e R s m args below meth c Z.heap.size Q h k n pc Ls (.ref a :: st) := by
  obtain ⟨hx, hZ, hown, rfl, hml, hret, hnm, -⟩ := cx
  obtain ⟨d, rfl⟩ := d
  intro T locs cells slots X N eT hk hn
  obtain ⟨T', X', e', stp⟩ := instNo X hx hZ hown w eT E F (g := mkF m pc Ls (.ref a :: st)) rfl rfl d
  obtain ⟨s₂, o, st2, r⟩ := H T' _ cells slots X' N e' hk hn
  exact ⟨s₂, o, stp _ st2, r⟩
theorem g_instNull (cx : Cx Z p s m meth c R kx nx own nm code maxL ret) {i : Nat} (d : Dc code pc (.instanceof i) 3 pc') (H : G p l e R s m args below meth c Z.heap.size Q h k n pc' Ls (.int (0 : Int32) :: st)) : G p l e R s m args below meth c Z.heap.size Q h k n pc Ls (.null :: st) := by
  obtain ⟨hx, hZ, hown, rfl, hml, hret, hnm, -⟩ := cx
  obtain ⟨d, rfl⟩ := d
  intro T locs cells slots X N eT hk hn
  obtain ⟨s₂, o, st2, r⟩ := H T _ cells slots X N eT hk hn
  exact ⟨s₂, o, Jvm.Stand.instanceofNull X hx (g := mkF m pc Ls (.null :: st)) rfl rfl d _ st2, r⟩
theorem Wd.new {b : Addr} (W : Wd Z EL s vm0 h) (e : b = h.size) : Safe Z EL vm0 h b := Safe.new (Nat.le_of_eq e.symm)
theorem own_safeN {x : Addr} {vm : Vm} (hal : Z.vm.Alike vm) (E : Exa Z h x "java/lang/String") (F : Fld Z h x "java/lang/String" "value" "[B" .null) : Safe Z EL vm h x := fun B => by
  obtain ⟨cell, k, e1, e2, e3, -, -⟩ := E
  obtain ⟨cell', cf, k', i, f, g1, g2, -, -, -, -, g7⟩ := F
  cases e1.symm.trans g1
  obtain ⟨p, -, u, a, -, q, -, F, rfl | rfl⟩ := B
  · cases (show h[q.sa]? = some q.sC from F.ha).symm.trans e1
    obtain ⟨cS, ⟨⟨-, -, -, ⟨c1, k1, i1, f1, -⟩, -, -, -, v1, -⟩, -⟩, -⟩ := F
    obtain ⟨k3, e3', -⟩ := State.fieldFound?_setVm (s := Z) hal g2
    have e4 := (show (Wst Z vm h).fieldFound? _ _ _ = _ from e3').symm.trans f1
    simp only [Option.some.injEq, Prod.mk.injEq] at e4
    rw [← e4.2.2.2, g7] at v1
    cases v1
  · cases (show h[q.sd]? = some q.SA from F.hd).symm.trans e1
    obtain ⟨cS, -, -, fB, -⟩ := F
    have fB : vm.findClass "[B" = some q.SA.cls := fB
    rw [hal.findClass] at fB
    obtain ⟨k1, q1, q2⟩ := Vm.findClass_spec fB
    obtain ⟨k2, q3, q4⟩ := Vm.findClass_spec e2
    cases q1.symm.trans q3
    exact absurd (q2.symm.trans q4) (by decide)
theorem g_retZW (hEL : EW Z a0 EL) (cx : Cx Z p (s.setVm vm0) m meth c R kx nx own nm code maxL ret) (wd : Wd Z EL s vm0 h) {x : Int32} (d : Dc code pc .ireturn 1 pc') (hR : ret = some .boolean) (hx01 : nar .boolean x = x) (hk : k ≤ R.cells) (hn : n ≤ R.slots) (q : Qv (some (.int x)) h) : G p l e R (s.setVm vm0) m args below meth c Z.heap.size (KW Z EL s R Qv) h k n pc Ls (.int x :: st) :=
  g_retW hEL cx wd (t := .boolean) (v := .int (nar .boolean x)) d hR (fun T locs cells slots X fs hl => retN X cx.1 (cx.2.2.2.2.2.1.trans hR) (Or.inl rfl) (by rw [cx.2.2.2.1]; exact d.1) hl) hk hn (by rw [hx01]; exact q)
end WalkW
def ObT (Z : State) (h : Heap) (a : Addr) (v1 v2 : Value) : Prop := Exa Z h a "java/lang/String" ∧ Fld Z h a "java/lang/String" "coder" "B" v1 ∧ Fld Z h a "java/lang/String" "value" "[B" v2
theorem ObT.ext {h' : Heap} {Z : State} {h : Heap} {a : Addr} {v1 v2 : Value} (F : ObT Z h a v1 v2) (E : Ext h h') : ObT Z h' a v1 v2 := ⟨F.1.ext E, F.2.1.ext E, F.2.2.ext E⟩
theorem ObT.keep {h' : Heap} {Z : State} {h : Heap} {a : Addr} {v1 v2 : Value} {ws : List Addr} (F : ObT Z h a v1 v2) (K : Keep h h' ws) (q : a ∉ ws) : ObT Z h' a v1 v2 := ⟨F.1.keep K, F.2.1.keep K q, F.2.2.keep K q⟩
theorem ObT.oth {x : Addr} {sl : Nat} {w : Value} {h' : Heap} {Z : State} {h : Heap} {a : Addr} {v1 v2 : Value} (F : ObT Z h a v1 v2) (W : Wr h h' x sl w) (q : a ≠ x) : ObT Z h' a v1 v2 := ⟨F.1.wr W, F.2.1.other W (Or.inl q), F.2.2.other W (Or.inl q)⟩
theorem ObT.lt {Z : State} {h : Heap} {a : Addr} {v1 v2 : Value} (F : ObT Z h a v1 v2) : a < h.size := F.1.lt
theorem ObT.put1 {v : Value} {h' : Heap} {Z : State} {h : Heap} {a : Addr} {v1 v2 : Value} {a0 : Array Value} (hw : ∀ d ∈ tables_1, d.before a0 Z = true) (F : ObT Z h a v1 v2) (W : Wr h h' a (Jvm.RoadKit.slotOf Z "java/lang/String" "coder" "B") v) : ObT Z h' a v v2 := ⟨F.1.wr W, F.2.1.same W, F.2.2.other W (Or.inr (slot_ne (Or.inr (hw _ (List.mem_of_getElem? (i := 33) rfl))) (Or.inr (hw _ (List.mem_of_getElem? (i := 31) rfl))) (by decide) (t := (.array .byte)) (t' := .byte) (by decide) (by decide)))⟩
theorem ObT.put2 {v : Value} {h' : Heap} {Z : State} {h : Heap} {a : Addr} {v1 v2 : Value} {a0 : Array Value} (hw : ∀ d ∈ tables_1, d.before a0 Z = true) (F : ObT Z h a v1 v2) (W : Wr h h' a (Jvm.RoadKit.slotOf Z "java/lang/String" "value" "[B") v) : ObT Z h' a v1 v := ⟨F.1.wr W, F.2.1.other W (Or.inr (slot_ne (Or.inr (hw _ (List.mem_of_getElem? (i := 31) rfl))) (Or.inr (hw _ (List.mem_of_getElem? (i := 33) rfl))) (by decide) (t := .byte) (t' := (.array .byte)) (by decide) (by decide))), F.2.2.same W⟩
theorem ObT.new {Z : State} {h : Heap} {b : Addr} {a0 : Array Value} (hw : ∀ d ∈ tables_1, d.before a0 Z = true) (E : Exa Z h b "java/lang/String") (D : ∀ {O nm d : String} {ty : FieldType}, Laid Z a0 "java/lang/String" O nm d → parseFieldDescriptor d = some ty → Fld Z h b O nm d (defaultValue ty)) : ObT Z h b (.int (0 : Int32)) .null := ⟨E, D (Or.inr (hw _ (List.mem_of_getElem? (i := 31) rfl))) (ty := .byte) (by decide), D (Or.inr (hw _ (List.mem_of_getElem? (i := 33) rfl))) (ty := (.array .byte)) (by decide)⟩
def ObR (Z : State) (h : Heap) (a : Addr) (v1 v2 v3 : Value) : Prop := Exa Z h a "com/example/dyn_authz/dynauthz/process/Request" ∧ Fld Z h a "com/example/dyn_authz/dynauthz/process/Request" "_user" "Ljava/lang/String;" v1 ∧ Fld Z h a "com/example/dyn_authz/dynauthz/process/Request" "_event" "Ljava/lang/String;" v2 ∧ Fld Z h a "com/example/dyn_authz/dynauthz/process/Request" "_resource" "Ljava/lang/String;" v3
theorem ObR.ext {h' : Heap} {Z : State} {h : Heap} {a : Addr} {v1 v2 v3 : Value} (F : ObR Z h a v1 v2 v3) (E : Ext h h') : ObR Z h' a v1 v2 v3 := ⟨F.1.ext E, F.2.1.ext E, F.2.2.1.ext E, F.2.2.2.ext E⟩
theorem ObR.keep {h' : Heap} {Z : State} {h : Heap} {a : Addr} {v1 v2 v3 : Value} {ws : List Addr} (F : ObR Z h a v1 v2 v3) (K : Keep h h' ws) (q : a ∉ ws) : ObR Z h' a v1 v2 v3 := ⟨F.1.keep K, F.2.1.keep K q, F.2.2.1.keep K q, F.2.2.2.keep K q⟩
theorem ObR.oth {x : Addr} {sl : Nat} {w : Value} {h' : Heap} {Z : State} {h : Heap} {a : Addr} {v1 v2 v3 : Value} (F : ObR Z h a v1 v2 v3) (W : Wr h h' x sl w) (q : a ≠ x) : ObR Z h' a v1 v2 v3 := ⟨F.1.wr W, F.2.1.other W (Or.inl q), F.2.2.1.other W (Or.inl q), F.2.2.2.other W (Or.inl q)⟩
theorem ObR.lt {Z : State} {h : Heap} {a : Addr} {v1 v2 v3 : Value} (F : ObR Z h a v1 v2 v3) : a < h.size := F.1.lt
theorem ObR.put1 {v : Value} {h' : Heap} {Z : State} {h : Heap} {a : Addr} {v1 v2 v3 : Value} {a0 : Array Value} (hw : ∀ d ∈ tables_1, d.before a0 Z = true) (F : ObR Z h a v1 v2 v3) (W : Wr h h' a (Jvm.RoadKit.slotOf Z "com/example/dyn_authz/dynauthz/process/Request" "_user" "Ljava/lang/String;") v) : ObR Z h' a v v2 v3 := ⟨F.1.wr W, F.2.1.same W, F.2.2.1.other W (Or.inr (slot_ne (Or.inr (hw _ (List.mem_of_getElem? (i := 44) rfl))) (Or.inr (hw _ (List.mem_of_getElem? (i := 42) rfl))) (by decide) (t := (.object "java/lang/String")) (t' := (.object "java/lang/String")) (by decide) (by decide))), F.2.2.2.other W (Or.inr (slot_ne (Or.inr (hw _ (List.mem_of_getElem? (i := 46) rfl))) (Or.inr (hw _ (List.mem_of_getElem? (i := 42) rfl))) (by decide) (t := (.object "java/lang/String")) (t' := (.object "java/lang/String")) (by decide) (by decide)))⟩
theorem ObR.put2 {v : Value} {h' : Heap} {Z : State} {h : Heap} {a : Addr} {v1 v2 v3 : Value} {a0 : Array Value} (hw : ∀ d ∈ tables_1, d.before a0 Z = true) (F : ObR Z h a v1 v2 v3) (W : Wr h h' a (Jvm.RoadKit.slotOf Z "com/example/dyn_authz/dynauthz/process/Request" "_event" "Ljava/lang/String;") v) : ObR Z h' a v1 v v3 := ⟨F.1.wr W, F.2.1.other W (Or.inr (slot_ne (Or.inr (hw _ (List.mem_of_getElem? (i := 42) rfl))) (Or.inr (hw _ (List.mem_of_getElem? (i := 44) rfl))) (by decide) (t := (.object "java/lang/String")) (t' := (.object "java/lang/String")) (by decide) (by decide))), F.2.2.1.same W, F.2.2.2.other W (Or.inr (slot_ne (Or.inr (hw _ (List.mem_of_getElem? (i := 46) rfl))) (Or.inr (hw _ (List.mem_of_getElem? (i := 44) rfl))) (by decide) (t := (.object "java/lang/String")) (t' := (.object "java/lang/String")) (by decide) (by decide)))⟩
theorem ObR.put3 {v : Value} {h' : Heap} {Z : State} {h : Heap} {a : Addr} {v1 v2 v3 : Value} {a0 : Array Value} (hw : ∀ d ∈ tables_1, d.before a0 Z = true) (F : ObR Z h a v1 v2 v3) (W : Wr h h' a (Jvm.RoadKit.slotOf Z "com/example/dyn_authz/dynauthz/process/Request" "_resource" "Ljava/lang/String;") v) : ObR Z h' a v1 v2 v := ⟨F.1.wr W, F.2.1.other W (Or.inr (slot_ne (Or.inr (hw _ (List.mem_of_getElem? (i := 42) rfl))) (Or.inr (hw _ (List.mem_of_getElem? (i := 46) rfl))) (by decide) (t := (.object "java/lang/String")) (t' := (.object "java/lang/String")) (by decide) (by decide))), F.2.2.1.other W (Or.inr (slot_ne (Or.inr (hw _ (List.mem_of_getElem? (i := 44) rfl))) (Or.inr (hw _ (List.mem_of_getElem? (i := 46) rfl))) (by decide) (t := (.object "java/lang/String")) (t' := (.object "java/lang/String")) (by decide) (by decide))), F.2.2.2.same W⟩
theorem ObR.new {Z : State} {h : Heap} {b : Addr} {a0 : Array Value} (hw : ∀ d ∈ tables_1, d.before a0 Z = true) (E : Exa Z h b "com/example/dyn_authz/dynauthz/process/Request") (D : ∀ {O nm d : String} {ty : FieldType}, Laid Z a0 "com/example/dyn_authz/dynauthz/process/Request" O nm d → parseFieldDescriptor d = some ty → Fld Z h b O nm d (defaultValue ty)) : ObR Z h b .null .null .null := ⟨E, D (Or.inr (hw _ (List.mem_of_getElem? (i := 42) rfl))) (ty := (.object "java/lang/String")) (by decide), D (Or.inr (hw _ (List.mem_of_getElem? (i := 44) rfl))) (ty := (.object "java/lang/String")) (by decide), D (Or.inr (hw _ (List.mem_of_getElem? (i := 46) rfl))) (ty := (.object "java/lang/String")) (by decide)⟩
def own_EL : List (String × Nat) := [("java/lang/String", 7)]
theorem own_hEL {Z : State} {a0 : Array Value} (hw : ∀ d ∈ tables_1, d.before a0 Z = true) : EW Z a0 own_EL := EW.cons (hw _ (List.mem_of_getElem? (i := 67) rfl)) (fun c hc => by cases hc) EW.nil
theorem own_wS {Z : State} {a0 : Array Value} (hw : ∀ d ∈ tables_1, d.before a0 Z = true) : ∀ d ∈ Bundle.stringAtoms, d.before a0 Z = true := fun d hd => hw d ((by decide +kernel : ∀ d ∈ Bundle.stringAtoms, d ∈ tables_1) d hd)
theorem d3_0 : Dc jdk_42_method_149_code 0 (.aload_n 0) 1 1 := ⟨by decide +kernel, rfl⟩
theorem d3_1 : Dc jdk_42_method_149_code 1 (.invokespecial 1) 3 4 := ⟨by decide +kernel, rfl⟩
theorem d3_4 : Dc jdk_42_method_149_code 4 (.iload_n 3) 1 5 := ⟨by decide +kernel, rfl⟩
theorem d3_5 : Bi jdk_42_method_149_code 5 (Instr.ifCond .ne) 27 8 := ⟨22, by decide +kernel, by decide, by decide, rfl⟩
theorem d3_8 : Dc jdk_42_method_149_code 8 (.aload_n 0) 1 9 := ⟨by decide +kernel, rfl⟩
theorem d3_9 : Dc jdk_42_method_149_code 9 (.ldc 7) 2 11 := ⟨by decide +kernel, rfl⟩
theorem d3_11 : Dc jdk_42_method_149_code 11 (.getfield 9) 3 14 := ⟨by decide +kernel, rfl⟩
theorem d3_14 : Dc jdk_42_method_149_code 14 (.putfield 9) 3 17 := ⟨by decide +kernel, rfl⟩
theorem d3_17 : Dc jdk_42_method_149_code 17 (.aload_n 0) 1 18 := ⟨by decide +kernel, rfl⟩
theorem d3_18 : Dc jdk_42_method_149_code 18 (.ldc 7) 2 20 := ⟨by decide +kernel, rfl⟩
theorem d3_20 : Dc jdk_42_method_149_code 20 (.getfield 15) 3 23 := ⟨by decide +kernel, rfl⟩
theorem d3_23 : Dc jdk_42_method_149_code 23 (.putfield 15) 3 26 := ⟨by decide +kernel, rfl⟩
theorem d3_26 : Dc jdk_42_method_149_code 26 (.return_) 1 27 := ⟨by decide +kernel, rfl⟩
theorem pn_rmi2 : plainName "java/lang/String" = true := by first | (simp [plainName, overriddenIn]; done) | decide +kernel
set_option maxRecDepth 65536 in
set_option maxHeartbeats 40000000 in
theorem rmi2 (l : Launch) (Z : State) (a0 : Array Value) (hw : ∀ d ∈ tables_1, d.before a0 Z = true) (a ca : Addr) (cC : ClassId) (h0 : Heap) (O_a : ObT Z h0 a (.int (0 : Int32)) .null) (A_ca : Arx Z h0 ca cC .char (0 : Int32) [] (.int (0 : Int32)) "[C") (ne_a_ca : a ≠ ca) (g_a : Z.heap.size ≤ a) (OL : Old Z Z.heap.size h0) :
    MetW l Z own_EL (⟨"java/lang/String", "<init>", "([CIILjava/lang/Void;)V"⟩ : MethodName) jdk_42_method_149_code 6 none ({ frames := 1, cells := 4, slots := 8, locals := 12 } : Room) #[(.ref a), (.ref ca), (.int (0 : Int32)), (.int (0 : Int32)), .null] h0 (fun v h' => v = none ∧ Keep h0 h' [a] ∧ ∃ bv kB, ObT Z h' a (.int (0 : Int32)) (.ref bv) ∧ Arv Z h' bv kB .byte (0 : Int32) [] (.int 0)) := by
  have hEL : EW Z a0 own_EL := own_hEL hw
  refine metW_of (Ls := #[.val (.ref a), .val (.ref ca), .val (.int (0 : Int32)), .val (.int (0 : Int32)), .val .null, .unset]) (plainFor_of_name pn_rmi2) (fun m => by first | (simp [entryFrame, mkF, argsToLocals, Value.category]; done) | rfl) (fun p e s m below meth c cx wd => ?_)
  have KK := Keep.refl h0 [a]
  have SF_a : Safe Z own_EL _ h0 a := own_safeN wd.2.1.alike O_a.1 O_a.2.2
  refine g_aloadN cx d3_0 rfl rfl ?_
  refine g_initO cx d3_1 (hw _ (List.mem_of_getElem? (i := 15) rfl)) (hw _ (List.mem_of_getElem? (i := 16) rfl)) (hw _ (List.mem_of_getElem? (i := 17) rfl)) rfl (by decide) (W := 0) (Nat.le_of_eq rfl) (by decide) ?_
  refine g_iloadN cx d3_4 rfl ?_
  refine g_if_ne cx d3_5 (fun q => absurd q (fun q => by revert q; decide)) (fun hc5 => ?_)
  refine g_aloadN cx d3_8 rfl rfl ?_
  refine g_ldcW hEL cx wd d3_9 (hw _ (List.mem_of_getElem? (i := 67) rfl)) (own_wS hw) (List.mem_of_getElem? (i := 0) rfl) (k' := 2) (n' := 4) rfl rfl (by decide) (by decide) (fun h4 vmh4 is1 bv2 kB3 E5 xf7 xf8 xf9 xf10 xf11 xf12 xs6 cx wd hCr => ?_)
  have SF_a := hCr.safe O_a.lt SF_a
  have O_a := O_a.ext E5
  have A_ca := A_ca.ext E5
  have OL := OL.ext E5
  have KK := KK.ext E5
  have O_is1 : ObT Z h4 is1 (.int (0 : Int32)) (.ref bv2) := ⟨xf7, xf8, xf9⟩
  have A_bv2 : Arv Z h4 bv2 kB3 .byte (0 : Int32) [] (.int 0) := xf10
  have ne_a_is1 := (xs6 a SF_a).1
  have ne_a_bv2 := (xs6 a SF_a).2
  refine g_getF cx d3_11 (host := "") (Or.inl (hw _ (List.mem_of_getElem? (i := 32) rfl))) Via.refl O_is1.2.2 ?_
  refine g_putF cx d3_14 (host := "") (Or.inl (hw _ (List.mem_of_getElem? (i := 32) rfl))) Via.refl O_a.2.2 O_a.1 (Or.inr ⟨(hw _ (List.mem_of_getElem? (i := 33) rfl)), rfl, rfl⟩) (hw _ (List.mem_of_getElem? (i := 5) rfl)) (ty := (.array .byte)) (by decide) rfl rfl g_a (fun h13 W14 => ?_)
  have wd' := wd.wr W14 SF_a
  have SF_a := Safe.wr W14 SF_a wd.2.2.1 SF_a
  have wd := wd'
  have O_a := O_a.put2 hw W14
  have O_is1 := O_is1.oth W14 (Ne.symm ne_a_is1)
  have A_ca := A_ca.other W14 (Ne.symm ne_a_ca)
  have A_bv2 := A_bv2.other W14 (Ne.symm ne_a_bv2)
  have OL := OL.wr W14 g_a
  have KK := KK.wr W14 (Or.inl (List.mem_of_getElem? (i := 0) rfl))
  refine g_aloadN cx d3_17 rfl rfl ?_
  refine g_ldcW hEL cx wd d3_18 (hw _ (List.mem_of_getElem? (i := 67) rfl)) (own_wS hw) (List.mem_of_getElem? (i := 0) rfl) (k' := 4) (n' := 8) rfl rfl (by decide) (by decide) (fun h18 vmh18 is15 bv16 kB17 E19 xf21 xf22 xf23 xf24 xf25 xf26 xs20 cx wd hCr => ?_)
  have SF_a := hCr.safe O_a.lt SF_a
  have O_a := O_a.ext E19
  have O_is1 := O_is1.ext E19
  have A_ca := A_ca.ext E19
  have A_bv2 := A_bv2.ext E19
  have OL := OL.ext E19
  have KK := KK.ext E19
  have O_is15 : ObT Z h18 is15 (.int (0 : Int32)) (.ref bv16) := ⟨xf21, xf22, xf23⟩
  have A_bv16 : Arv Z h18 bv16 kB17 .byte (0 : Int32) [] (.int 0) := xf24
  have ne_a_is15 := (xs20 a SF_a).1
  have ne_a_bv16 := (xs20 a SF_a).2
  refine g_getF cx d3_20 (host := "") (Or.inl (hw _ (List.mem_of_getElem? (i := 30) rfl))) Via.refl O_is15.2.1 ?_
  refine g_putFN cx d3_23 (hw _ (List.mem_of_getElem? (i := 30) rfl)) Via.refl O_a.2.1 O_a.1 (Or.inr ⟨(hw _ (List.mem_of_getElem? (i := 31) rfl)), rfl, rfl⟩) (hw _ (List.mem_of_getElem? (i := 5) rfl)) (ty := .byte) (v' := (.int (0 : Int32))) (by decide) rfl rfl g_a (fun h27 W28 => ?_)
  have wd' := wd.wr W28 SF_a
  have SF_a := Safe.wr W28 SF_a wd.2.2.1 SF_a
  have wd := wd'
  have O_a := O_a.put1 hw W28
  have O_is1 := O_is1.oth W28 (Ne.symm ne_a_is1)
  have O_is15 := O_is15.oth W28 (Ne.symm ne_a_is15)
  have A_ca := A_ca.other W28 (Ne.symm ne_a_ca)
  have A_bv2 := A_bv2.other W28 (Ne.symm ne_a_bv2)
  have A_bv16 := A_bv16.other W28 (Ne.symm ne_a_bv16)
  have OL := OL.wr W28 g_a
  have KK := KK.wr W28 (Or.inl (List.mem_of_getElem? (i := 0) rfl))
  refine g_retVW hEL cx wd d3_26 rfl (by decide) (by decide) ?_
  exact ⟨rfl, KK, bv2, kB3, O_a, A_bv2⟩
theorem d2_0 : Dc jdk_42_method_3_code 0 (.aload_n 0) 1 1 := ⟨by decide +kernel, rfl⟩
theorem d2_1 : Dc jdk_42_method_3_code 1 (.aload_n 1) 1 2 := ⟨by decide +kernel, rfl⟩
theorem d2_2 : Dc jdk_42_method_3_code 2 (.iconst 0) 1 3 := ⟨by decide +kernel, rfl⟩
theorem d2_3 : Dc jdk_42_method_3_code 3 (.aload_n 1) 1 4 := ⟨by decide +kernel, rfl⟩
theorem d2_4 : Dc jdk_42_method_3_code 4 (.arraylength) 1 5 := ⟨by decide +kernel, rfl⟩
theorem d2_5 : Dc jdk_42_method_3_code 5 (.aconst_null) 1 6 := ⟨by decide +kernel, rfl⟩
theorem pd_0 : parseMethodDescriptor "([CIILjava/lang/Void;)V" = some ⟨[(.array .char), .int, .int, (.object "java/lang/Void")], none⟩ := by decide +kernel
theorem d2_6 : Dc jdk_42_method_3_code 6 (.invokespecial 27) 3 9 := ⟨by decide +kernel, rfl⟩
theorem d2_9 : Dc jdk_42_method_3_code 9 (.return_) 1 10 := ⟨by decide +kernel, rfl⟩
theorem pn_rmi1 : plainName "java/lang/String" = true := by first | (simp [plainName, overriddenIn]; done) | decide +kernel
set_option maxRecDepth 65536 in
set_option maxHeartbeats 40000000 in
theorem rmi1 (l : Launch) (Z : State) (a0 : Array Value) (hw : ∀ d ∈ tables_1, d.before a0 Z = true) (a ca : Addr) (cC : ClassId) (h0 : Heap) (O_a : ObT Z h0 a (.int (0 : Int32)) .null) (A_ca : Arx Z h0 ca cC .char (0 : Int32) [] (.int (0 : Int32)) "[C") (ne_a_ca : a ≠ ca) (g_a : Z.heap.size ≤ a) (OL : Old Z Z.heap.size h0) :
    MetW l Z own_EL (⟨"java/lang/String", "<init>", "([C)V"⟩ : MethodName) jdk_42_method_3_code 2 none ({ frames := 2, cells := 4, slots := 8, locals := 29 } : Room) #[(.ref a), (.ref ca)] h0 (fun v h' => v = none ∧ Keep h0 h' [a] ∧ ∃ bv kB, ObT Z h' a (.int (0 : Int32)) (.ref bv) ∧ Arv Z h' bv kB .byte (0 : Int32) [] (.int 0)) := by
  have hEL : EW Z a0 own_EL := own_hEL hw
  refine metW_of (Ls := #[.val (.ref a), .val (.ref ca)]) (plainFor_of_name pn_rmi1) (fun m => by first | (simp [entryFrame, mkF, argsToLocals, Value.category]; done) | rfl) (fun p e s m below meth c cx wd => ?_)
  have KK := Keep.refl h0 [a]
  have SF_a : Safe Z own_EL _ h0 a := own_safeN wd.2.1.alike O_a.1 O_a.2.2
  refine g_aloadN cx d2_0 rfl rfl ?_
  refine g_aloadN cx d2_1 rfl rfl ?_
  refine g_iconst cx d2_2 (v := (0 : Int32)) rfl ?_
  refine g_aloadN cx d2_3 rfl rfl ?_
  refine g_arraylength cx d2_4 A_ca.1 ?_
  refine g_aconst_null cx d2_5 ?_
  refine g_specialW hEL cx wd (y := (⟨"java/lang/String", "<init>", "([CIILjava/lang/Void;)V"⟩ : MethodName)) (a := a) d2_6 rfl rfl (hw _ (List.mem_of_getElem? (i := 11) rfl)) (hw _ (List.mem_of_getElem? (i := 12) rfl)) (hw _ (List.mem_of_getElem? (i := 6) rfl)) (hw _ (List.mem_of_getElem? (i := 14) rfl)) (by decide) (bytes := jdk_42_method_149_code) (maxL' := 6) (M := (rmi2 l Z a0 hw a ca cC _ O_a A_ca ne_a_ca g_a OL)) rfl (lenOf pd_0 rfl) (by decide) (W := 0) (Nat.le_of_eq rfl) (by decide) (k' := 4) (n' := 8) rfl rfl (by decide) (by decide) (argsL := [(.ref ca), (.int (0 : Int32)), (.int (0 : Int32)), .null]) (rest := []) rfl (fun v5 h4 vmh4 q6 cx wd hCr => ?_)
  obtain ⟨rfl, K1, bv2, kB3, ON, A_bv2⟩ := q6
  have SF_a := hCr.safe O_a.lt SF_a
  have A_ca := A_ca.keep K1 (ninS (Ne.symm ne_a_ca) nin0)
  have OL := OL.keep K1 (allS g_a all0)
  have KK := KK.trans K1 (allS (P := fun z => z ∈ _ ∨ _ ≤ z) (Or.inl (List.mem_of_getElem? (i := 0) rfl)) all0)
  have O_a := ON
  refine G.cast (st' := []) ?_ rfl
  refine g_retVW hEL cx wd d2_9 rfl (by decide) (by decide) ?_
  exact ⟨rfl, KK, bv2, kB3, O_a, A_bv2⟩
def own_bt (cc : Int32) : Int32 := (nar .byte (((nar .char cc)).toInt8.toInt32))
theorem own_bt_inj {c d : Int32} (c0 : 0 ≤ c.toInt) (c1 : c.toInt ≤ 255) (d0 : 0 ≤ d.toInt) (d1 : d.toInt ≤ 255) (q : own_bt c = own_bt d) : c = d := Int32.toInt_inj.mp (by
  have q := congrArg Int32.toInt q
  unfold own_bt at q
  have r4 := rng32 c
  have e3 : (((nar .char c)).toInt - (c).toInt) % 65536 = 0 ∧ 0 ≤ ((nar .char c)).toInt ∧ ((nar .char c)).toInt < 65536 := c_i2c c
  have e2 := c_i2b (nar .char c)
  have e1 : (((nar .byte (((nar .char c)).toInt8.toInt32))).toInt - ((((nar .char c)).toInt8.toInt32)).toInt) % 256 = 0 ∧ -128 ≤ ((nar .byte (((nar .char c)).toInt8.toInt32))).toInt ∧ ((nar .byte (((nar .char c)).toInt8.toInt32))).toInt < 128 := c_i2b (((nar .char c)).toInt8.toInt32)
  have r44 := rng32 d
  have e43 : (((nar .char d)).toInt - (d).toInt) % 65536 = 0 ∧ 0 ≤ ((nar .char d)).toInt ∧ ((nar .char d)).toInt < 65536 := c_i2c d
  have e42 := c_i2b (nar .char d)
  have e41 : (((nar .byte (((nar .char d)).toInt8.toInt32))).toInt - ((((nar .char d)).toInt8.toInt32)).toInt) % 256 = 0 ∧ -128 ≤ ((nar .byte (((nar .char d)).toInt8.toInt32))).toInt ∧ ((nar .byte (((nar .char d)).toInt8.toInt32))).toInt < 128 := c_i2b (((nar .char d)).toInt8.toInt32)
  omega)
def own_eqb (y z : Int32) : Int32 := if y = z then (1 : Int32) else (0 : Int32)
def own_q (em cc fm dd : Int32) : Int32 := if em = fm then (if em = (0 : Int32) then (if cc = dd then (1 : Int32) else (0 : Int32)) else (1 : Int32)) else (0 : Int32)
def own_and3 (x y z : Int32) : Int32 := if x = (0 : Int32) then (0 : Int32) else if y = (0 : Int32) then (0 : Int32) else if z = (0 : Int32) then (0 : Int32) else (1 : Int32)
theorem own_q_symm (em cc fm dd : Int32) : own_q em cc fm dd = own_q fm dd em cc := by
  unfold own_q
  by_cases h : em = fm
  · subst h
    by_cases g : cc = dd
    · subst g; rfl
    · simp [g, Ne.symm g]
  · simp [h, Ne.symm h]
def own_St (Z : State) (h : Heap) (mm : Nat) (x : Addr) (em cc : Int32) : Prop := ∃ (b : Addr) (kB : ClassId), x < mm ∧ b < mm ∧ mm ≤ h.size ∧ ObT Z h x (.int (0 : Int32)) (.ref b) ∧ ((¬ em = (0 : Int32) ∧ Arv Z h b kB .byte (0 : Int32) [] (.int 0)) ∨ (em = (0 : Int32) ∧ Arv Z h b kB .byte (1 : Int32) [.int (own_bt cc)] (.int 0)))
section StS
variable {Z : State} {h h' : Heap} {mm : Nat} {x : Addr} {em cc : Int32} {ws : List Addr}
theorem own_St.ext (T : own_St Z h mm x em cc) (E : Ext h h') : own_St Z h' mm x em cc := by
  obtain ⟨b, kB, h1, h2, h3, O, A⟩ := T
  exact ⟨b, kB, h1, h2, Nat.le_trans h3 E.1, O.ext E, A.imp (fun q => ⟨q.1, q.2.ext E⟩) (fun q => ⟨q.1, q.2.ext E⟩)⟩
theorem own_St.keep (T : own_St Z h mm x em cc) (K : Keep h h' ws) (hw : ∀ y ∈ ws, mm ≤ y) : own_St Z h' mm x em cc := by
  obtain ⟨b, kB, h1, h2, h3, O, A⟩ := T
  have nb : b ∉ ws := fun y => absurd h2 (Nat.not_lt.mpr (hw _ y))
  exact ⟨b, kB, h1, h2, Nat.le_trans h3 K.1, O.keep K (fun y => absurd h1 (Nat.not_lt.mpr (hw _ y))), A.imp (fun q => ⟨q.1, q.2.keep K nb⟩) (fun q => ⟨q.1, q.2.keep K nb⟩)⟩
theorem own_Sx (T : own_St Z h mm x em cc) : Exa Z h x "java/lang/String" ∧ True := by
  obtain ⟨b, kB, h1, h2, h3, O, A⟩ := T
  exact ⟨O.1, trivial⟩
theorem own_Slt (T : own_St Z h mm x em cc) : x < mm ∧ mm ≤ h.size := by
  obtain ⟨b, kB, h1, h2, h3, O, A⟩ := T
  exact ⟨h1, h3⟩
end StS
theorem d1_0 : Dc method_2_code 0 (.iload_n 0) 1 1 := ⟨by decide +kernel, rfl⟩
theorem d1_1 : Bi method_2_code 1 (Instr.ifCond .eq) 15 4 := ⟨14, by decide +kernel, by decide, by decide, rfl⟩
theorem d1_15 : Dc method_2_code 15 (.new 7) 3 18 := ⟨by decide +kernel, rfl⟩
theorem d1_18 : Dc method_2_code 18 (.dup) 1 19 := ⟨by decide +kernel, rfl⟩
theorem d1_19 : Dc method_2_code 19 (.iconst 1) 1 20 := ⟨by decide +kernel, rfl⟩
theorem d1_20 : Dc method_2_code 20 (.newarray .char) 2 22 := ⟨by decide +kernel, rfl⟩
theorem d1_22 : Dc method_2_code 22 (.dup) 1 23 := ⟨by decide +kernel, rfl⟩
theorem d1_23 : Dc method_2_code 23 (.iconst 0) 1 24 := ⟨by decide +kernel, rfl⟩
theorem d1_24 : Dc method_2_code 24 (.iload_n 1) 1 25 := ⟨by decide +kernel, rfl⟩
theorem d1_25 : Dc method_2_code 25 (.castore) 1 26 := ⟨by decide +kernel, rfl⟩
theorem d3_27 : Dc jdk_42_method_149_code 27 (.getstatic 38) 3 30 := ⟨by decide +kernel, rfl⟩
theorem d3_30 : Bi jdk_42_method_149_code 30 (Instr.ifCond .eq) 58 33 := ⟨28, by decide +kernel, by decide, by decide, rfl⟩
theorem d3_33 : Dc jdk_42_method_149_code 33 (.aload_n 1) 1 34 := ⟨by decide +kernel, rfl⟩
theorem d3_34 : Dc jdk_42_method_149_code 34 (.iload_n 2) 1 35 := ⟨by decide +kernel, rfl⟩
theorem d3_35 : Dc jdk_42_method_149_code 35 (.iload_n 3) 1 36 := ⟨by decide +kernel, rfl⟩
theorem d5_0 : Dc jdk_52_method_16_code 0 (.iload_n 2) 1 1 := ⟨by decide +kernel, rfl⟩
theorem d5_1 : Dc jdk_52_method_16_code 1 (.newarray .byte) 2 3 := ⟨by decide +kernel, rfl⟩
theorem d5_3 : Dc jdk_52_method_16_code 3 (.astore_n 3) 1 4 := ⟨by decide +kernel, rfl⟩
theorem d5_4 : Dc jdk_52_method_16_code 4 (.aload_n 0) 1 5 := ⟨by decide +kernel, rfl⟩
theorem d5_5 : Dc jdk_52_method_16_code 5 (.iload_n 1) 1 6 := ⟨by decide +kernel, rfl⟩
theorem d5_6 : Dc jdk_52_method_16_code 6 (.aload_n 3) 1 7 := ⟨by decide +kernel, rfl⟩
theorem d5_7 : Dc jdk_52_method_16_code 7 (.iconst 0) 1 8 := ⟨by decide +kernel, rfl⟩
theorem d5_8 : Dc jdk_52_method_16_code 8 (.iload_n 2) 1 9 := ⟨by decide +kernel, rfl⟩
theorem d6_0 : Dc jdk_52_method_21_code 0 (.iconst 0) 1 1 := ⟨by decide +kernel, rfl⟩
theorem d6_1 : Dc jdk_52_method_21_code 1 (.istore 5) 2 3 := ⟨by decide +kernel, rfl⟩
theorem d6_3 : Dc jdk_52_method_21_code 3 (.iload 5) 2 5 := ⟨by decide +kernel, rfl⟩
theorem d6_5 : Dc jdk_52_method_21_code 5 (.iload 4) 2 7 := ⟨by decide +kernel, rfl⟩
theorem d6_7 : Bi jdk_52_method_21_code 7 (Instr.if_icmp .ge) 44 10 := ⟨37, by decide +kernel, by decide, by decide, rfl⟩
theorem d6_10 : Dc jdk_52_method_21_code 10 (.aload_n 0) 1 11 := ⟨by decide +kernel, rfl⟩
theorem d6_11 : Dc jdk_52_method_21_code 11 (.iload_n 1) 1 12 := ⟨by decide +kernel, rfl⟩
theorem d6_12 : Dc jdk_52_method_21_code 12 (.caload) 1 13 := ⟨by decide +kernel, rfl⟩
theorem d6_13 : Dc jdk_52_method_21_code 13 (.istore 6) 2 15 := ⟨by decide +kernel, rfl⟩
theorem d6_15 : Dc jdk_52_method_21_code 15 (.iload 6) 2 17 := ⟨by decide +kernel, rfl⟩
theorem d6_17 : Dc jdk_52_method_21_code 17 (.sipush 255) 3 20 := ⟨by decide +kernel, rfl⟩
theorem d6_20 : Bi jdk_52_method_21_code 20 (Instr.if_icmp .le) 26 23 := ⟨6, by decide +kernel, by decide, by decide, rfl⟩
theorem d6_26 : Dc jdk_52_method_21_code 26 (.aload_n 2) 1 27 := ⟨by decide +kernel, rfl⟩
theorem d6_27 : Dc jdk_52_method_21_code 27 (.iload_n 3) 1 28 := ⟨by decide +kernel, rfl⟩
theorem d6_28 : Dc jdk_52_method_21_code 28 (.iload 6) 2 30 := ⟨by decide +kernel, rfl⟩
theorem d6_30 : Dc jdk_52_method_21_code 30 (.i2b) 1 31 := ⟨by decide +kernel, rfl⟩
theorem d6_31 : Dc jdk_52_method_21_code 31 (.bastore) 1 32 := ⟨by decide +kernel, rfl⟩
theorem d6_32 : Dc jdk_52_method_21_code 32 (.iinc 1 1) 3 35 := ⟨by decide +kernel, rfl⟩
theorem d6_35 : Dc jdk_52_method_21_code 35 (.iinc 3 1) 3 38 := ⟨by decide +kernel, rfl⟩
theorem d6_38 : Dc jdk_52_method_21_code 38 (.iinc 5 1) 3 41 := ⟨by decide +kernel, rfl⟩
theorem d6_41 : Bi jdk_52_method_21_code 41 (Instr.goto) 3 44 := ⟨(-38), by decide +kernel, by decide, by decide, rfl⟩
theorem d6_44 : Dc jdk_52_method_21_code 44 (.iload 4) 2 46 := ⟨by decide +kernel, rfl⟩
theorem d6_46 : Dc jdk_52_method_21_code 46 (.ireturn) 1 47 := ⟨by decide +kernel, rfl⟩
theorem pn_rb4 : plainName "java/lang/StringUTF16" = true := by first | (simp [plainName, overriddenIn]; done) | decide +kernel
set_option maxRecDepth 65536 in
set_option maxHeartbeats 40000000 in
theorem rb4 (l : Launch) (Z : State) (a0 : Array Value) (hw : ∀ d ∈ tables_1, d.before a0 Z = true) (cs : Int32) (SCS : Sta Z Z.heap "java/lang/String" "COMPACT_STRINGS" "Z" (.int cs)) (hcs : ¬ cs = (0 : Int32)) (cc : Int32) (lo : 0 ≤ cc.toInt) (hi : cc.toInt ≤ 255) (ad0 ad1 : Addr) (cA_ad0 : ClassId) (cA_ad1 : ClassId) (h0 : Heap) (A_ad0 : Arx Z h0 ad0 cA_ad0 .char (1 : Int32) [(.int (nar .char cc))] (.int (0 : Int32)) "[C") (A_ad1 : Arx Z h0 ad1 cA_ad1 .byte (1 : Int32) [(.int (0 : Int32))] (.int (0 : Int32)) "[B") (ne_ad0_ad1 : ad0 ≠ ad1) (g_ad0 : Z.heap.size ≤ ad0) (g_ad1 : Z.heap.size ≤ ad1) (OL : Old Z Z.heap.size h0) :
    Met l Z (⟨"java/lang/StringUTF16", "compress", "([CI[BII)I"⟩ : MethodName) jdk_52_method_21_code 7 (some .int) ({ frames := 0, cells := 0, slots := 0, locals := 0 } : Room) #[(.ref ad0), (.int (0 : Int32)), (.ref ad1), (.int (0 : Int32)), (.int (1 : Int32))] h0 (fun v h' => (¬ ((255 : Int32) < (nar .char cc)) ∧ v = some (.int (1 : Int32)) ∧ Keep h0 h' [ad1] ∧ Arx Z h' ad1 cA_ad1 .byte (1 : Int32) [(.int (nar .byte (((nar .char cc)).toInt8.toInt32)))] (.int (0 : Int32)) "[B")) := by
  refine met_of (Ls := #[.val (.ref ad0), .val (.int (0 : Int32)), .val (.ref ad1), .val (.int (0 : Int32)), .val (.int (1 : Int32)), .unset, .unset]) (plainFor_of_name pn_rb4) (fun m => by first | (simp [entryFrame, mkF, argsToLocals, Value.category]; done) | rfl) (fun p e s m below meth c cx => ?_)
  have KK := Keep.refl h0 [ad1]
  refine g_iconst cx d6_0 (v := (0 : Int32)) rfl ?_
  refine g_istore cx d6_1 (Ls' := #[.val (.ref ad0), .val (.int (0 : Int32)), .val (.ref ad1), .val (.int (0 : Int32)), .val (.int (1 : Int32)), .val (.int (0 : Int32)), .unset]) rfl ?_
  refine g_iload cx d6_3 rfl ?_
  refine g_iload cx d6_5 rfl ?_
  refine g_icmp_ge cx d6_7 (fun q => absurd q (fun q => by revert q; decide)) (fun hc7 => ?_)
  refine g_aloadN cx d6_10 rfl rfl ?_
  refine g_iloadN cx d6_11 rfl ?_
  refine g_caload cx d6_12 A_ad0.1 ⟨by decide, by decide⟩ (v := (.int (nar .char cc))) rfl ?_
  refine g_istore cx d6_13 (Ls' := #[.val (.ref ad0), .val (.int (0 : Int32)), .val (.ref ad1), .val (.int (0 : Int32)), .val (.int (1 : Int32)), .val (.int (0 : Int32)), .val (.int (nar .char cc))]) rfl ?_
  refine g_iload cx d6_15 rfl ?_
  refine g_sipush cx d6_17 (v := (255 : Int32)) rfl ?_
  refine g_icmp_le cx d6_20 (fun hc20 => ?_) (fun q => absurd q (fun q => by have i_q : ((255 : Int32)).toInt < ((nar .char cc)).toInt := Int32.lt_iff_toInt_lt.mp q; have e1 : (255 : Int32).toInt = 255 := rfl; have r3 := rng32 cc; have e2 : (((nar .char cc)).toInt - (cc).toInt) % 65536 = 0 ∧ 0 ≤ ((nar .char cc)).toInt ∧ ((nar .char cc)).toInt < 65536 := c_i2c cc; omega))
  refine g_aloadN cx d6_26 rfl rfl ?_
  refine g_iloadN cx d6_27 rfl ?_
  refine g_iload cx d6_28 rfl ?_
  refine g_i2b cx d6_30 ?_
  refine g_bastore cx d6_31 A_ad1 ⟨by decide, by decide⟩ (Nat.le_of_ble_eq_true rfl) g_ad1 (fun h1 W2 AA3 => ?_)
  have A_ad0 := A_ad0.other W2 ne_ad0_ad1
  have A_ad1 : Arx Z h1 ad1 cA_ad1 .byte (1 : Int32) [(.int (nar .byte (((nar .char cc)).toInt8.toInt32)))] (.int (0 : Int32)) "[B" := AA3
  have OL := OL.wr W2 g_ad1
  have KK := KK.wr W2 (Or.inl (List.mem_of_getElem? (i := 0) rfl))
  refine g_iinc cx d6_32 rfl (v := (1 : Int32)) rfl (Ls' := #[.val (.ref ad0), .val (.int (1 : Int32)), .val (.ref ad1), .val (.int (0 : Int32)), .val (.int (1 : Int32)), .val (.int (0 : Int32)), .val (.int (nar .char cc))]) rfl ?_
  refine g_iinc cx d6_35 rfl (v := (1 : Int32)) rfl (Ls' := #[.val (.ref ad0), .val (.int (1 : Int32)), .val (.ref ad1), .val (.int (1 : Int32)), .val (.int (1 : Int32)), .val (.int (0 : Int32)), .val (.int (nar .char cc))]) rfl ?_
  refine g_iinc cx d6_38 rfl (v := (1 : Int32)) rfl (Ls' := #[.val (.ref ad0), .val (.int (1 : Int32)), .val (.ref ad1), .val (.int (1 : Int32)), .val (.int (1 : Int32)), .val (.int (1 : Int32)), .val (.int (nar .char cc))]) rfl ?_
  refine g_goto cx d6_41 ?_
  refine g_iload cx d6_3 rfl ?_
  refine g_iload cx d6_5 rfl ?_
  refine g_icmp_ge cx d6_7 (fun hc7x => ?_) (fun q => absurd q (fun q => by revert q; decide))
  refine g_iload cx d6_44 rfl ?_
  refine g_retI cx d6_46 rfl (by decide) (by decide) ?_
  exact ⟨hc20, rfl, KK, A_ad1⟩
theorem pd_1 : parseMethodDescriptor "([CI[BII)I" = some ⟨[(.array .char), .int, (.array .byte), .int, .int], some .int⟩ := by decide +kernel
theorem d5_9 : Dc jdk_52_method_16_code 9 (.invokestatic 115) 3 12 := ⟨by decide +kernel, rfl⟩
theorem d5_12 : Dc jdk_52_method_16_code 12 (.istore 4) 2 14 := ⟨by decide +kernel, rfl⟩
theorem d5_14 : Dc jdk_52_method_16_code 14 (.iload 4) 2 16 := ⟨by decide +kernel, rfl⟩
theorem d5_16 : Dc jdk_52_method_16_code 16 (.iload_n 2) 1 17 := ⟨by decide +kernel, rfl⟩
theorem d5_17 : Bi jdk_52_method_16_code 17 (Instr.if_icmp .eq) 57 20 := ⟨40, by decide +kernel, by decide, by decide, rfl⟩
theorem d5_57 : Dc jdk_52_method_16_code 57 (.aload_n 3) 1 58 := ⟨by decide +kernel, rfl⟩
theorem d5_58 : Dc jdk_52_method_16_code 58 (.areturn) 1 59 := ⟨by decide +kernel, rfl⟩
theorem pn_rb3 : plainName "java/lang/StringUTF16" = true := by first | (simp [plainName, overriddenIn]; done) | decide +kernel
set_option maxRecDepth 65536 in
set_option maxHeartbeats 40000000 in
theorem rb3 (l : Launch) (Z : State) (a0 : Array Value) (hw : ∀ d ∈ tables_1, d.before a0 Z = true) (cs : Int32) (SCS : Sta Z Z.heap "java/lang/String" "COMPACT_STRINGS" "Z" (.int cs)) (hcs : ¬ cs = (0 : Int32)) (cc : Int32) (lo : 0 ≤ cc.toInt) (hi : cc.toInt ≤ 255) (ad0 : Addr) (cA_ad0 : ClassId) (h0 : Heap) (A_ad0 : Arx Z h0 ad0 cA_ad0 .char (1 : Int32) [(.int (nar .char cc))] (.int (0 : Int32)) "[C") (g_ad0 : Z.heap.size ≤ ad0) (OL : Old Z Z.heap.size h0) :
    Met l Z (⟨"java/lang/StringUTF16", "compress", "([CII)[B"⟩ : MethodName) jdk_52_method_16_code 6 (some (.array .byte)) ({ frames := 1, cells := 1, slots := 1, locals := 18 } : Room) #[(.ref ad0), (.int (0 : Int32)), (.int (1 : Int32))] h0 (fun v h' => (∃ (b2 : Addr) (cA3 : ClassId) , ¬ ((255 : Int32) < (nar .char cc)) ∧ v = some (.ref b2) ∧ Keep h0 h' [] ∧ h0.size ≤ b2 ∧ Arx Z h' b2 cA3 .byte (1 : Int32) [(.int (nar .byte (((nar .char cc)).toInt8.toInt32)))] (.int (0 : Int32)) "[B")) := by
  refine met_of (Ls := #[.val (.ref ad0), .val (.int (0 : Int32)), .val (.int (1 : Int32)), .unset, .unset, .unset]) (plainFor_of_name pn_rb3) (fun m => by first | (simp [entryFrame, mkF, argsToLocals, Value.category]; done) | rfl) (fun p e s m below meth c cx => ?_)
  have KK := Keep.refl h0 []
  refine g_iloadN cx d5_0 rfl ?_
  refine g_newarray cx (ad := "[B") (by decide) d5_1 (hw _ (List.mem_of_getElem? (i := 23) rfl)) (by decide) (cap := 1) (by decide) (by decide) (k' := 1) (n' := 1) rfl rfl (by decide) (by decide) (fun h1 b2 cA3 gb4 E5 X6 => ?_)
  have ne_ad0_b2 : ad0 ≠ b2 := Nat.ne_of_lt (by rw [gb4]; exact A_ad0.lt)
  have g_b2 : Z.heap.size ≤ b2 := by rw [gb4]; exact OL.2.1
  have sz_b2 := (by rw [gb4]; exact KK.1 : h0.size ≤ b2)
  have A_ad0 := A_ad0.ext E5
  have OL := OL.ext E5
  have KK := KK.ext E5
  have A_b2 : Arx Z h1 b2 cA3 .byte (1 : Int32) [(.int (0 : Int32))] (.int (0 : Int32)) "[B" := X6.pad (pad_rep [] (.int (0 : Int32)) 1)
  refine g_astoreN cx d5_3 rfl (Ls' := #[.val (.ref ad0), .val (.int (0 : Int32)), .val (.int (1 : Int32)), .val (.ref b2), .unset, .unset]) rfl ?_
  refine g_aloadN cx d5_4 rfl rfl ?_
  refine g_iloadN cx d5_5 rfl ?_
  refine g_aloadN cx d5_6 rfl rfl ?_
  refine g_iconst cx d5_7 (v := (0 : Int32)) rfl ?_
  refine g_iloadN cx d5_8 rfl ?_
  refine g_static cx (y := (⟨"java/lang/StringUTF16", "compress", "([CI[BII)I"⟩ : MethodName)) d5_9 (hw _ (List.mem_of_getElem? (i := 24) rfl)) (hw _ (List.mem_of_getElem? (i := 25) rfl)) (hw _ (List.mem_of_getElem? (i := 21) rfl)) (hw _ (List.mem_of_getElem? (i := 26) rfl)) (by decide) (bytes := jdk_52_method_21_code) (maxL' := 7) (M := (rb4 l Z a0 hw cs SCS hcs cc lo hi ad0 b2 cA_ad0 cA3 _ A_ad0 A_b2 ne_ad0_b2 g_ad0 g_b2 OL)) rfl (lenOf pd_1 rfl) (by decide) (W := 0) (Nat.le_of_eq rfl) (by decide) (k' := 1) (n' := 1) rfl rfl (by decide) (by decide) (argsL := [(.ref ad0), (.int (0 : Int32)), (.ref b2), (.int (0 : Int32)), (.int (1 : Int32))]) (rest := []) rfl (fun v10 h9 q11 => ?_)
  obtain ⟨hq7, rfl, K8, A_b2⟩ := q11
  have A_ad0 := A_ad0.keep K8 (ninS ne_ad0_b2 nin0)
  have OL := OL.keep K8 (allS g_b2 all0)
  have KK := KK.trans K8 (allS (P := fun z => z ∈ _ ∨ _ ≤ z) (Or.inr sz_b2) all0)
  refine G.cast (st' := [(.int (1 : Int32))]) ?_ rfl
  refine g_istore cx d5_12 (Ls' := #[.val (.ref ad0), .val (.int (0 : Int32)), .val (.int (1 : Int32)), .val (.ref b2), .val (.int (1 : Int32)), .unset]) rfl ?_
  refine g_iload cx d5_14 rfl ?_
  refine g_iloadN cx d5_16 rfl ?_
  refine g_icmp_eq cx d5_17 (fun hc17 => ?_) (fun q => absurd q (fun q => by revert q; decide))
  refine g_aloadN cx d5_57 rfl rfl ?_
  refine g_retA cx d5_58 (t := (.array .byte)) rfl rfl rfl rfl (by decide) (by decide) ?_
  exact ⟨b2, cA3, hq7, rfl, KK, sz_b2, A_b2⟩
theorem pd_2 : parseMethodDescriptor "([CII)[B" = some ⟨[(.array .char), .int, .int], some (.array .byte)⟩ := by decide +kernel
theorem d3_36 : Dc jdk_42_method_149_code 36 (.invokestatic 177) 3 39 := ⟨by decide +kernel, rfl⟩
theorem d3_39 : Dc jdk_42_method_149_code 39 (.astore 5) 2 41 := ⟨by decide +kernel, rfl⟩
theorem d3_41 : Dc jdk_42_method_149_code 41 (.aload_n 0) 1 42 := ⟨by decide +kernel, rfl⟩
theorem d3_42 : Dc jdk_42_method_149_code 42 (.aload 5) 2 44 := ⟨by decide +kernel, rfl⟩
theorem d3_44 : Dc jdk_42_method_149_code 44 (.iload_n 3) 1 45 := ⟨by decide +kernel, rfl⟩
theorem d7_0 : Dc jdk_52_method_15_code 0 (.iload_n 1) 1 1 := ⟨by decide +kernel, rfl⟩
theorem d7_1 : Dc jdk_52_method_15_code 1 (.aload_n 0) 1 2 := ⟨by decide +kernel, rfl⟩
theorem d7_2 : Dc jdk_52_method_15_code 2 (.arraylength) 1 3 := ⟨by decide +kernel, rfl⟩
theorem d7_3 : Dc jdk_52_method_15_code 3 (.isub) 1 4 := ⟨by decide +kernel, rfl⟩
theorem d7_4 : Dc jdk_52_method_15_code 4 (.bipush 31) 2 6 := ⟨by decide +kernel, rfl⟩
theorem d7_6 : Dc jdk_52_method_15_code 6 (.iushr) 1 7 := ⟨by decide +kernel, rfl⟩
theorem d7_7 : Dc jdk_52_method_15_code 7 (.i2b) 1 8 := ⟨by decide +kernel, rfl⟩
theorem d7_8 : Dc jdk_52_method_15_code 8 (.ireturn) 1 9 := ⟨by decide +kernel, rfl⟩
theorem pn_rb5 : plainName "java/lang/StringUTF16" = true := by first | (simp [plainName, overriddenIn]; done) | decide +kernel
set_option maxRecDepth 65536 in
set_option maxHeartbeats 40000000 in
theorem rb5 (l : Launch) (Z : State) (a0 : Array Value) (hw : ∀ d ∈ tables_1, d.before a0 Z = true) (cs : Int32) (SCS : Sta Z Z.heap "java/lang/String" "COMPACT_STRINGS" "Z" (.int cs)) (hcs : ¬ cs = (0 : Int32)) (cc : Int32) (lo : 0 ≤ cc.toInt) (hi : cc.toInt ≤ 255) (ad0 : Addr) (cA_ad0 : ClassId) (h0 : Heap) (A_ad0 : Arx Z h0 ad0 cA_ad0 .byte (1 : Int32) [(.int (nar .byte (((nar .char cc)).toInt8.toInt32)))] (.int (0 : Int32)) "[B") (g_ad0 : Z.heap.size ≤ ad0) (OL : Old Z Z.heap.size h0) :
    Met l Z (⟨"java/lang/StringUTF16", "coderFromArrayLen", "([BI)B"⟩ : MethodName) jdk_52_method_15_code 2 (some .byte) ({ frames := 0, cells := 0, slots := 0, locals := 0 } : Room) #[(.ref ad0), (.int (1 : Int32))] h0 (fun v h' => (v = some (.int (0 : Int32)) ∧ h0 = h')) := by
  refine met_of (Ls := #[.val (.ref ad0), .val (.int (1 : Int32))]) (plainFor_of_name pn_rb5) (fun m => by first | (simp [entryFrame, mkF, argsToLocals, Value.category]; done) | rfl) (fun p e s m below meth c cx => ?_)
  have KK := Keep.refl h0 []
  refine g_iloadN cx d7_0 rfl ?_
  refine g_aloadN cx d7_1 rfl rfl ?_
  refine g_arraylength cx d7_2 A_ad0.1 ?_
  refine g_isub cx d7_3 ?_
  refine G.cast (st' := [(.int (0 : Int32))]) ?_ rfl
  refine g_bipush cx d7_4 (v := (31 : Int32)) rfl ?_
  refine g_iushr cx d7_6 ?_
  refine G.cast (st' := [(.int (0 : Int32))]) ?_ rfl
  refine g_i2b cx d7_7 ?_
  refine G.cast (st' := [(.int (0 : Int32))]) ?_ rfl
  refine g_retN cx d7_8 (t := .byte) rfl (by simp) (by decide) (by decide) ?_
  exact ⟨rfl, rfl⟩
theorem pd_3 : parseMethodDescriptor "([BI)B" = some ⟨[(.array .byte), .int], some .byte⟩ := by decide +kernel
theorem d3_45 : Dc jdk_42_method_149_code 45 (.invokestatic 47) 3 48 := ⟨by decide +kernel, rfl⟩
theorem d3_48 : Dc jdk_42_method_149_code 48 (.putfield 15) 3 51 := ⟨by decide +kernel, rfl⟩
theorem d3_51 : Dc jdk_42_method_149_code 51 (.aload_n 0) 1 52 := ⟨by decide +kernel, rfl⟩
theorem d3_52 : Dc jdk_42_method_149_code 52 (.aload 5) 2 54 := ⟨by decide +kernel, rfl⟩
theorem d3_54 : Dc jdk_42_method_149_code 54 (.putfield 9) 3 57 := ⟨by decide +kernel, rfl⟩
theorem d3_57 : Dc jdk_42_method_149_code 57 (.return_) 1 58 := ⟨by decide +kernel, rfl⟩
theorem pn_rb2 : plainName "java/lang/String" = true := by first | (simp [plainName, overriddenIn]; done) | decide +kernel
set_option maxRecDepth 65536 in
set_option maxHeartbeats 40000000 in
theorem rb2 (l : Launch) (Z : State) (a0 : Array Value) (hw : ∀ d ∈ tables_1, d.before a0 Z = true) (cs : Int32) (SCS : Sta Z Z.heap "java/lang/String" "COMPACT_STRINGS" "Z" (.int cs)) (hcs : ¬ cs = (0 : Int32)) (cc : Int32) (lo : 0 ≤ cc.toInt) (hi : cc.toInt ≤ 255) (ad0 ad1 : Addr) (cA_ad1 : ClassId) (h0 : Heap) (O_ad0 : ObT Z h0 ad0 (.int (0 : Int32)) .null) (A_ad1 : Arx Z h0 ad1 cA_ad1 .char (1 : Int32) [(.int (nar .char cc))] (.int (0 : Int32)) "[C") (ne_ad0_ad1 : ad0 ≠ ad1) (g_ad0 : Z.heap.size ≤ ad0) (g_ad1 : Z.heap.size ≤ ad1) (OL : Old Z Z.heap.size h0) :
    Met l Z (⟨"java/lang/String", "<init>", "([CIILjava/lang/Void;)V"⟩ : MethodName) jdk_42_method_149_code 6 none ({ frames := 2, cells := 1, slots := 1, locals := 35 } : Room) #[(.ref ad0), (.ref ad1), (.int (0 : Int32)), (.int (1 : Int32)), .null] h0 (fun v h' => (∃ (b1 : Addr) (cA2 : ClassId) , ¬ (cs = (0 : Int32)) ∧ ¬ ((255 : Int32) < (nar .char cc)) ∧ v = none ∧ Keep h0 h' [ad0] ∧ h0.size ≤ b1 ∧ Arx Z h' b1 cA2 .byte (1 : Int32) [(.int (nar .byte (((nar .char cc)).toInt8.toInt32)))] (.int (0 : Int32)) "[B" ∧ ObT Z h' ad0 (.int (0 : Int32)) (.ref b1))) := by
  refine met_of (Ls := #[.val (.ref ad0), .val (.ref ad1), .val (.int (0 : Int32)), .val (.int (1 : Int32)), .val .null, .unset]) (plainFor_of_name pn_rb2) (fun m => by first | (simp [entryFrame, mkF, argsToLocals, Value.category]; done) | rfl) (fun p e s m below meth c cx => ?_)
  have KK := Keep.refl h0 [ad0]
  refine g_aloadN cx d3_0 rfl rfl ?_
  refine g_initO cx d3_1 (hw _ (List.mem_of_getElem? (i := 15) rfl)) (hw _ (List.mem_of_getElem? (i := 16) rfl)) (hw _ (List.mem_of_getElem? (i := 17) rfl)) rfl (by decide) (W := 0) (Nat.le_of_eq rfl) (by decide) ?_
  refine g_iloadN cx d3_4 rfl ?_
  refine g_if_ne cx d3_5 (fun hc5 => ?_) (fun q => absurd q (fun q => by revert q; decide))
  refine g_getS cx d3_27 (host := "") (Or.inl (hw _ (List.mem_of_getElem? (i := 18) rfl))) Via.refl (SCS.ext OL.2) ?_
  refine g_if_eq cx d3_30 (fun q => absurd q (fun q => hcs q)) (fun hc30 => ?_)
  refine g_aloadN cx d3_33 rfl rfl ?_
  refine g_iloadN cx d3_34 rfl ?_
  refine g_iloadN cx d3_35 rfl ?_
  refine g_static cx (y := (⟨"java/lang/StringUTF16", "compress", "([CII)[B"⟩ : MethodName)) d3_36 (hw _ (List.mem_of_getElem? (i := 19) rfl)) (hw _ (List.mem_of_getElem? (i := 20) rfl)) (hw _ (List.mem_of_getElem? (i := 21) rfl)) (hw _ (List.mem_of_getElem? (i := 22) rfl)) (by decide) (bytes := jdk_52_method_16_code) (maxL' := 6) (M := (rb3 l Z a0 hw cs SCS hcs cc lo hi ad1 cA_ad1 _ A_ad1 g_ad1 OL)) rfl (lenOf pd_2 rfl) (by decide) (W := 0) (Nat.le_of_eq rfl) (by decide) (k' := 1) (n' := 1) rfl rfl (by decide) (by decide) (argsL := [(.ref ad1), (.int (0 : Int32)), (.int (1 : Int32))]) (rest := []) rfl (fun v6 h5 q7 => ?_)
  obtain ⟨b1, cA2, hq3, rfl, K4, sq_b1, A_b1⟩ := q7
  have ne_ad0_b1 : ad0 ≠ b1 := Nat.ne_of_lt (Nat.lt_of_lt_of_le O_ad0.lt sq_b1)
  have ne_ad1_b1 : ad1 ≠ b1 := Nat.ne_of_lt (Nat.lt_of_lt_of_le A_ad1.lt sq_b1)
  have g_b1 : Z.heap.size ≤ b1 := Nat.le_trans OL.2.1 sq_b1
  have sz_b1 := Nat.le_trans KK.1 sq_b1
  have O_ad0 := O_ad0.keep K4 nin0
  have A_ad1 := A_ad1.keep K4 nin0
  have OL := OL.keep K4 all0
  have KK := KK.trans K4 all0
  refine G.cast (st' := [(.ref b1)]) ?_ rfl
  refine g_astore cx d3_39 rfl (Ls' := #[.val (.ref ad0), .val (.ref ad1), .val (.int (0 : Int32)), .val (.int (1 : Int32)), .val .null, .val (.ref b1)]) rfl ?_
  refine g_aloadN cx d3_41 rfl rfl ?_
  refine g_aload cx d3_42 rfl rfl ?_
  refine g_iloadN cx d3_44 rfl ?_
  refine g_static cx (y := (⟨"java/lang/StringUTF16", "coderFromArrayLen", "([BI)B"⟩ : MethodName)) d3_45 (hw _ (List.mem_of_getElem? (i := 27) rfl)) (hw _ (List.mem_of_getElem? (i := 28) rfl)) (hw _ (List.mem_of_getElem? (i := 21) rfl)) (hw _ (List.mem_of_getElem? (i := 29) rfl)) (by decide) (bytes := jdk_52_method_15_code) (maxL' := 2) (M := (rb5 l Z a0 hw cs SCS hcs cc lo hi b1 cA2 _ A_b1 g_b1 OL)) rfl (lenOf pd_3 rfl) (by decide) (W := 1) (Nat.le_of_eq rfl) (by decide) (k' := 1) (n' := 1) rfl rfl (by decide) (by decide) (argsL := [(.ref b1), (.int (1 : Int32))]) (rest := [(.ref ad0)]) rfl (fun v10 h9 q11 => ?_)
  obtain ⟨rfl, rfl⟩ := q11
  refine G.cast (st' := [(.int (0 : Int32)), (.ref ad0)]) ?_ rfl
  refine g_putFN cx d3_48 (hw _ (List.mem_of_getElem? (i := 30) rfl)) Via.refl O_ad0.2.1 O_ad0.1 (Or.inr ⟨(hw _ (List.mem_of_getElem? (i := 31) rfl)), rfl, rfl⟩) (hw _ (List.mem_of_getElem? (i := 5) rfl)) (ty := .byte) (v' := (.int (0 : Int32))) (by decide) rfl rfl g_ad0 (fun h12 W13 => ?_)
  have O_ad0 := O_ad0.put1 hw W13
  have A_ad1 := A_ad1.other W13 (Ne.symm ne_ad0_ad1)
  have A_b1 := A_b1.other W13 (Ne.symm ne_ad0_b1)
  have OL := OL.wr W13 g_ad0
  have KK := KK.wr W13 (Or.inl (List.mem_of_getElem? (i := 0) rfl))
  refine g_aloadN cx d3_51 rfl rfl ?_
  refine g_aload cx d3_52 rfl rfl ?_
  refine g_putF cx d3_54 (host := "") (Or.inl (hw _ (List.mem_of_getElem? (i := 32) rfl))) Via.refl O_ad0.2.2 O_ad0.1 (Or.inr ⟨(hw _ (List.mem_of_getElem? (i := 33) rfl)), rfl, rfl⟩) (hw _ (List.mem_of_getElem? (i := 5) rfl)) (ty := (.array .byte)) (by decide) rfl rfl g_ad0 (fun h14 W15 => ?_)
  have O_ad0 := O_ad0.put2 hw W15
  have A_ad1 := A_ad1.other W15 (Ne.symm ne_ad0_ad1)
  have A_b1 := A_b1.other W15 (Ne.symm ne_ad0_b1)
  have OL := OL.wr W15 g_ad0
  have KK := KK.wr W15 (Or.inl (List.mem_of_getElem? (i := 0) rfl))
  refine g_retV cx d3_57 rfl (by decide) (by decide) ?_
  exact ⟨b1, cA2, hc30, hq3, rfl, KK, sz_b1, A_b1, O_ad0⟩
theorem pn_rb1 : plainName "java/lang/String" = true := by first | (simp [plainName, overriddenIn]; done) | decide +kernel
set_option maxRecDepth 65536 in
set_option maxHeartbeats 40000000 in
theorem rb1 (l : Launch) (Z : State) (a0 : Array Value) (hw : ∀ d ∈ tables_1, d.before a0 Z = true) (cs : Int32) (SCS : Sta Z Z.heap "java/lang/String" "COMPACT_STRINGS" "Z" (.int cs)) (hcs : ¬ cs = (0 : Int32)) (cc : Int32) (lo : 0 ≤ cc.toInt) (hi : cc.toInt ≤ 255) (ad0 ad1 : Addr) (cA_ad1 : ClassId) (h0 : Heap) (O_ad0 : ObT Z h0 ad0 (.int (0 : Int32)) .null) (A_ad1 : Arx Z h0 ad1 cA_ad1 .char (1 : Int32) [(.int (nar .char cc))] (.int (0 : Int32)) "[C") (ne_ad0_ad1 : ad0 ≠ ad1) (g_ad0 : Z.heap.size ≤ ad0) (g_ad1 : Z.heap.size ≤ ad1) (OL : Old Z Z.heap.size h0) :
    Met l Z (⟨"java/lang/String", "<init>", "([C)V"⟩ : MethodName) jdk_42_method_3_code 2 none ({ frames := 3, cells := 1, slots := 1, locals := 52 } : Room) #[(.ref ad0), (.ref ad1)] h0 (fun v h' => (∃ (b1 : Addr) (cA2 : ClassId) , ¬ (cs = (0 : Int32)) ∧ ¬ ((255 : Int32) < (nar .char cc)) ∧ v = none ∧ Keep h0 h' [ad0] ∧ h0.size ≤ b1 ∧ Arx Z h' b1 cA2 .byte (1 : Int32) [(.int (nar .byte (((nar .char cc)).toInt8.toInt32)))] (.int (0 : Int32)) "[B" ∧ ObT Z h' ad0 (.int (0 : Int32)) (.ref b1))) := by
  refine met_of (Ls := #[.val (.ref ad0), .val (.ref ad1)]) (plainFor_of_name pn_rb1) (fun m => by first | (simp [entryFrame, mkF, argsToLocals, Value.category]; done) | rfl) (fun p e s m below meth c cx => ?_)
  have KK := Keep.refl h0 [ad0]
  refine g_aloadN cx d2_0 rfl rfl ?_
  refine g_aloadN cx d2_1 rfl rfl ?_
  refine g_iconst cx d2_2 (v := (0 : Int32)) rfl ?_
  refine g_aloadN cx d2_3 rfl rfl ?_
  refine g_arraylength cx d2_4 A_ad1.1 ?_
  refine g_aconst_null cx d2_5 ?_
  have lt_ad0 := O_ad0.lt
  refine g_special cx (y := (⟨"java/lang/String", "<init>", "([CIILjava/lang/Void;)V"⟩ : MethodName)) (a := ad0) d2_6 rfl rfl (hw _ (List.mem_of_getElem? (i := 11) rfl)) (hw _ (List.mem_of_getElem? (i := 12) rfl)) (hw _ (List.mem_of_getElem? (i := 6) rfl)) (hw _ (List.mem_of_getElem? (i := 14) rfl)) (by decide) (bytes := jdk_42_method_149_code) (maxL' := 6) (M := (rb2 l Z a0 hw cs SCS hcs cc lo hi ad0 ad1 cA_ad1 _ O_ad0 A_ad1 ne_ad0_ad1 g_ad0 g_ad1 OL)) rfl (lenOf pd_0 rfl) (by decide) (W := 0) (Nat.le_of_eq rfl) (by decide) (k' := 1) (n' := 1) rfl rfl (by decide) (by decide) (argsL := [(.ref ad1), (.int (0 : Int32)), (.int (1 : Int32)), .null]) (rest := []) rfl (fun v7 h6 q8 => ?_)
  obtain ⟨b1, cA2, hq3, hq4, rfl, K5, sq_b1, A_b1, O_ad0⟩ := q8
  have ne_ad0_b1 : ad0 ≠ b1 := Nat.ne_of_lt (Nat.lt_of_lt_of_le lt_ad0 sq_b1)
  have ne_ad1_b1 : ad1 ≠ b1 := Nat.ne_of_lt (Nat.lt_of_lt_of_le A_ad1.lt sq_b1)
  have g_b1 : Z.heap.size ≤ b1 := Nat.le_trans OL.2.1 sq_b1
  have sz_b1 := Nat.le_trans KK.1 sq_b1
  have A_ad1 := A_ad1.keep K5 (ninS (Ne.symm ne_ad0_ad1) nin0)
  have OL := OL.keep K5 (allS g_ad0 all0)
  have KK := KK.trans K5 (allS (P := fun z => z ∈ _ ∨ _ ≤ z) (Or.inl (List.mem_of_getElem? (i := 0) rfl)) all0)
  refine G.cast (st' := []) ?_ rfl
  refine g_retV cx d2_9 rfl (by decide) (by decide) ?_
  exact ⟨b1, cA2, hq3, hq4, rfl, KK, sz_b1, A_b1, O_ad0⟩
theorem pd_4 : parseMethodDescriptor "([C)V" = some ⟨[(.array .char)], none⟩ := by decide +kernel
theorem d1_26 : Dc method_2_code 26 (.invokespecial 9) 3 29 := ⟨by decide +kernel, rfl⟩
theorem d1_29 : Dc method_2_code 29 (.areturn) 1 30 := ⟨by decide +kernel, rfl⟩
theorem d1_4 : Dc method_2_code 4 (.new 7) 3 7 := ⟨by decide +kernel, rfl⟩
theorem d1_7 : Dc method_2_code 7 (.dup) 1 8 := ⟨by decide +kernel, rfl⟩
theorem d1_8 : Dc method_2_code 8 (.iconst 0) 1 9 := ⟨by decide +kernel, rfl⟩
theorem d1_9 : Dc method_2_code 9 (.newarray .char) 2 11 := ⟨by decide +kernel, rfl⟩
theorem d1_11 : Dc method_2_code 11 (.invokespecial 9) 3 14 := ⟨by decide +kernel, rfl⟩
theorem d1_14 : Dc method_2_code 14 (.areturn) 1 15 := ⟨by decide +kernel, rfl⟩
theorem pn_rmmk : plainName "com/example/dyn_authz/dynauthz/process/RequestEqualsPinLaw" = true := by first | (simp [plainName, overriddenIn]; done) | decide +kernel
set_option maxRecDepth 65536 in
set_option maxHeartbeats 40000000 in
theorem rmmk (l : Launch) (Z : State) (a0 : Array Value) (hw : ∀ d ∈ tables_1, d.before a0 Z = true) (cs : Int32) (SCS : Sta Z Z.heap "java/lang/String" "COMPACT_STRINGS" "Z" (.int cs)) (hcs : ¬ cs = (0 : Int32)) (em : Int32) (cc : Int32) (lo : 0 ≤ cc.toInt) (hi : cc.toInt ≤ 255) (h0 : Heap) (OL : Old Z Z.heap.size h0) :
    MetW l Z own_EL (⟨"com/example/dyn_authz/dynauthz/process/RequestEqualsPinLaw", "mk", "(ZC)Ljava/lang/String;"⟩ : MethodName) method_2_code 2 (some (.object "java/lang/String")) ({ frames := 4, cells := 6, slots := 12, locals := 66 } : Room) #[(.int em), (.int cc)] h0 (fun v h' => ∃ x : Addr, v = some (.ref x) ∧ Keep h0 h' [] ∧ h0.size ≤ x ∧ own_St Z h' h'.size x em cc) := by
  have hEL : EW Z a0 own_EL := own_hEL hw
  refine metW_of (Ls := #[.val (.int em), .val (.int cc)]) (plainFor_of_name pn_rmmk) (fun m => by first | (simp [entryFrame, mkF, argsToLocals, Value.category]; done) | rfl) (fun p e s m below meth c cx wd => ?_)
  have KK := Keep.refl h0 []
  refine g_iloadN cx d1_0 rfl ?_
  refine g_if_eq cx d1_1 (fun hc1 => ?_) (fun hc1 => ?_)
  · refine g_new cx d1_15 (hw _ (List.mem_of_getElem? (i := 4) rfl)) (hw _ (List.mem_of_getElem? (i := 5) rfl)) (hw _ (List.mem_of_getElem? (i := 6) rfl)) (k' := 1) (n' := 4) rfl rfl (by decide) (by decide) (fun h1 b2 gb3 E4 X5 D6 => ?_)
    have g_b2 : Z.heap.size ≤ b2 := by rw [gb3]; exact OL.2.1
    have sz_b2 := (by rw [gb3]; exact KK.1 : h0.size ≤ b2)
    have SF_b2 := wd.new gb3
    have SF_b2 := SF_b2.ext E4 wd.2.2.1
    have wd := wd.ext E4
    have OL := OL.ext E4
    have KK := KK.ext E4
    have O_b2 := ObT.new hw X5 D6
    refine g_dup cx d1_18 rfl ?_
    refine g_iconst cx d1_19 (v := (1 : Int32)) rfl ?_
    refine g_newarray cx (ad := "[C") (by decide) d1_20 (hw _ (List.mem_of_getElem? (i := 7) rfl)) (by decide) (cap := 1) (by decide) (by decide) (k' := 2) (n' := 5) rfl rfl (by decide) (by decide) (fun h7 b8 cA9 gb10 E11 X12 => ?_)
    have ne_b2_b8 : b2 ≠ b8 := Nat.ne_of_lt (by rw [gb10]; exact O_b2.lt)
    have g_b8 : Z.heap.size ≤ b8 := by rw [gb10]; exact OL.2.1
    have sz_b8 := (by rw [gb10]; exact KK.1 : h0.size ≤ b8)
    have SF_b8 := wd.new gb10
    have SF_b2 := SF_b2.ext E11 wd.2.2.1
    have SF_b8 := SF_b8.ext E11 wd.2.2.1
    have wd := wd.ext E11
    have O_b2 := O_b2.ext E11
    have OL := OL.ext E11
    have KK := KK.ext E11
    have A_b8 : Arx Z h7 b8 cA9 .char (1 : Int32) [(.int (0 : Int32))] (.int (0 : Int32)) "[C" := X12.pad (pad_rep [] (.int (0 : Int32)) 1)
    refine g_dup cx d1_22 rfl ?_
    refine g_iconst cx d1_23 (v := (0 : Int32)) rfl ?_
    refine g_iloadN cx d1_24 rfl ?_
    refine g_castore cx d1_25 A_b8 ⟨by decide, by decide⟩ (Nat.le_of_ble_eq_true rfl) g_b8 (fun h13 W14 AA15 => ?_)
    have wd' := wd.wr W14 SF_b8
    have SF_b2 := Safe.wr W14 SF_b8 wd.2.2.1 SF_b2
    have SF_b8 := Safe.wr W14 SF_b8 wd.2.2.1 SF_b8
    have wd := wd'
    have O_b2 := O_b2.oth W14 ne_b2_b8
    have A_b8 : Arx Z h13 b8 cA9 .char (1 : Int32) [(.int (nar .char cc))] (.int (0 : Int32)) "[C" := AA15
    have OL := OL.wr W14 g_b8
    have KK := KK.wr W14 (Or.inr sz_b8)
    have lt_b2 := O_b2.lt
    refine g_special cx (y := (⟨"java/lang/String", "<init>", "([C)V"⟩ : MethodName)) (a := b2) d1_26 rfl rfl (hw _ (List.mem_of_getElem? (i := 8) rfl)) (hw _ (List.mem_of_getElem? (i := 9) rfl)) (hw _ (List.mem_of_getElem? (i := 6) rfl)) (hw _ (List.mem_of_getElem? (i := 10) rfl)) (by decide) (bytes := jdk_42_method_3_code) (maxL' := 2) (M := (rb1 l Z a0 hw cs SCS hcs cc lo hi b2 b8 cA9 _ O_b2 A_b8 ne_b2_b8 g_b2 g_b8 OL)) rfl (lenOf pd_4 rfl) (by decide) (W := 1) (Nat.le_of_eq rfl) (by decide) (k' := 3) (n' := 6) rfl rfl (by decide) (by decide) (argsL := [(.ref b8)]) (rest := [(.ref b2)]) rfl (fun v22 h21 q23 => ?_)
    obtain ⟨b16, cA17, hq18, hq19, rfl, K20, sq_b16, A_b16, O_b2⟩ := q23
    have ne_b2_b16 : b2 ≠ b16 := Nat.ne_of_lt (Nat.lt_of_lt_of_le lt_b2 sq_b16)
    have ne_b8_b16 : b8 ≠ b16 := Nat.ne_of_lt (Nat.lt_of_lt_of_le A_b8.lt sq_b16)
    have g_b16 : Z.heap.size ≤ b16 := Nat.le_trans OL.2.1 sq_b16
    have sz_b16 := Nat.le_trans KK.1 sq_b16
    have wd' := wd.keep K20 (sfS SF_b2 (fun y hy => by cases hy))
    have SF_b2' := SF_b2.keep K20 (sfS SF_b2 (fun y hy => by cases hy)) wd.2.2.1
    have SF_b8' := SF_b8.keep K20 (sfS SF_b2 (fun y hy => by cases hy)) wd.2.2.1
    have SF_b2 := SF_b2'
    have SF_b8 := SF_b8'
    have wd := wd'
    have A_b8 := A_b8.keep K20 (ninS (Ne.symm ne_b2_b8) nin0)
    have OL := OL.keep K20 (allS g_b2 all0)
    have KK := KK.trans K20 (allS (P := fun z => z ∈ _ ∨ _ ≤ z) (Or.inr sz_b2) all0)
    refine G.cast (st' := [(.ref b2)]) ?_ rfl
    refine g_retAW hEL cx wd d1_29 (t := (.object "java/lang/String")) rfl rfl rfl rfl (by decide) (by decide) ?_
    exact ⟨b2, rfl, KK, sz_b2, b16, cA17, O_b2.lt, A_b16.lt, Nat.le_refl _, O_b2, Or.inr ⟨hc1, A_b16.1⟩⟩
  · refine g_new cx d1_4 (hw _ (List.mem_of_getElem? (i := 4) rfl)) (hw _ (List.mem_of_getElem? (i := 5) rfl)) (hw _ (List.mem_of_getElem? (i := 6) rfl)) (k' := 1) (n' := 4) rfl rfl (by decide) (by decide) (fun h24 b25 gb26 E27 X28 D29 => ?_)
    have g_b25 : Z.heap.size ≤ b25 := by rw [gb26]; exact OL.2.1
    have sz_b25 := (by rw [gb26]; exact KK.1 : h0.size ≤ b25)
    have SF_b25 := wd.new gb26
    have SF_b25 := SF_b25.ext E27 wd.2.2.1
    have wd := wd.ext E27
    have OL := OL.ext E27
    have KK := KK.ext E27
    have O_b25 := ObT.new hw X28 D29
    refine g_dup cx d1_7 rfl ?_
    refine g_iconst cx d1_8 (v := (0 : Int32)) rfl ?_
    refine g_newarray cx (ad := "[C") (by decide) d1_9 (hw _ (List.mem_of_getElem? (i := 7) rfl)) (by decide) (cap := 0) (by decide) (by decide) (k' := 2) (n' := 4) rfl rfl (by decide) (by decide) (fun h30 b31 cA32 gb33 E34 X35 => ?_)
    have ne_b25_b31 : b25 ≠ b31 := Nat.ne_of_lt (by rw [gb33]; exact O_b25.lt)
    have g_b31 : Z.heap.size ≤ b31 := by rw [gb33]; exact OL.2.1
    have sz_b31 := (by rw [gb33]; exact KK.1 : h0.size ≤ b31)
    have SF_b31 := wd.new gb33
    have SF_b25 := SF_b25.ext E34 wd.2.2.1
    have SF_b31 := SF_b31.ext E34 wd.2.2.1
    have wd := wd.ext E34
    have O_b25 := O_b25.ext E34
    have OL := OL.ext E34
    have KK := KK.ext E34
    have A_b31 : Arx Z h30 b31 cA32 .char (0 : Int32) [] (.int (0 : Int32)) "[C" := X35.pad (pad_rep [] (.int (0 : Int32)) 0)
    refine g_specialW hEL cx wd (y := (⟨"java/lang/String", "<init>", "([C)V"⟩ : MethodName)) (a := b25) d1_11 rfl rfl (hw _ (List.mem_of_getElem? (i := 8) rfl)) (hw _ (List.mem_of_getElem? (i := 9) rfl)) (hw _ (List.mem_of_getElem? (i := 6) rfl)) (hw _ (List.mem_of_getElem? (i := 10) rfl)) (by decide) (bytes := jdk_42_method_3_code) (maxL' := 2) (M := (rmi1 l Z a0 hw b25 b31 cA32 _ O_b25 A_b31 ne_b25_b31 g_b25 OL)) rfl (lenOf pd_4 rfl) (by decide) (W := 1) (Nat.le_of_eq rfl) (by decide) (k' := 6) (n' := 12) rfl rfl (by decide) (by decide) (argsL := [(.ref b31)]) (rest := [(.ref b25)]) rfl (fun v40 h39 vmh39 q41 cx wd hCr => ?_)
    obtain ⟨rfl, K36, bv37, kB38, ON, A_bv37⟩ := q41
    have SF_b25 := hCr.safe O_b25.lt SF_b25
    have SF_b31 := hCr.safe A_b31.lt SF_b31
    have A_b31 := A_b31.keep K36 (ninS (Ne.symm ne_b25_b31) nin0)
    have OL := OL.keep K36 (allS g_b25 all0)
    have KK := KK.trans K36 (allS (P := fun z => z ∈ _ ∨ _ ≤ z) (Or.inr sz_b25) all0)
    have O_b25 := ON
    refine G.cast (st' := [(.ref b25)]) ?_ rfl
    refine g_retAW hEL cx wd d1_14 (t := (.object "java/lang/String")) rfl rfl rfl rfl (by decide) (by decide) ?_
    exact ⟨b25, rfl, KK, sz_b25, bv37, kB38, O_b25.lt, A_bv37.lt, Nat.le_refl _, O_b25, Or.inl ⟨hc1, A_bv37⟩⟩
theorem d12_0 : Dc jdk_43_method_13_code 0 (.aload_n 0) 1 1 := ⟨by decide +kernel, rfl⟩
theorem d12_1 : Dc jdk_43_method_13_code 1 (.arraylength) 1 2 := ⟨by decide +kernel, rfl⟩
theorem d12_2 : Dc jdk_43_method_13_code 2 (.aload_n 1) 1 3 := ⟨by decide +kernel, rfl⟩
theorem d12_3 : Dc jdk_43_method_13_code 3 (.arraylength) 1 4 := ⟨by decide +kernel, rfl⟩
theorem d12_4 : Bi jdk_43_method_13_code 4 (Instr.if_icmp .ne) 34 7 := ⟨30, by decide +kernel, by decide, by decide, rfl⟩
theorem d12_7 : Dc jdk_43_method_13_code 7 (.iconst 0) 1 8 := ⟨by decide +kernel, rfl⟩
theorem d12_8 : Dc jdk_43_method_13_code 8 (.istore_n 2) 1 9 := ⟨by decide +kernel, rfl⟩
theorem d12_9 : Dc jdk_43_method_13_code 9 (.iload_n 2) 1 10 := ⟨by decide +kernel, rfl⟩
theorem d12_10 : Dc jdk_43_method_13_code 10 (.aload_n 0) 1 11 := ⟨by decide +kernel, rfl⟩
theorem d12_11 : Dc jdk_43_method_13_code 11 (.arraylength) 1 12 := ⟨by decide +kernel, rfl⟩
theorem d12_12 : Bi jdk_43_method_13_code 12 (Instr.if_icmp .ge) 32 15 := ⟨20, by decide +kernel, by decide, by decide, rfl⟩
theorem d12_32 : Dc jdk_43_method_13_code 32 (.iconst 1) 1 33 := ⟨by decide +kernel, rfl⟩
theorem d12_33 : Dc jdk_43_method_13_code 33 (.ireturn) 1 34 := ⟨by decide +kernel, rfl⟩
theorem pn_rmle00 : plainName "java/lang/StringLatin1" = true := by first | (simp [plainName, overriddenIn]; done) | decide +kernel
set_option maxRecDepth 65536 in
set_option maxHeartbeats 40000000 in
theorem rmle00 (l : Launch) (Z : State) (a0 : Array Value) (hw : ∀ d ∈ tables_1, d.before a0 Z = true) (b1 b2 : Addr) (k1 k2 : ClassId) (y1 y2 : Int32) (h0 : Heap) (A_b1 : Arv Z h0 b1 k1 .byte (0 : Int32) [] (.int 0)) (A_b2 : Arv Z h0 b2 k2 .byte (0 : Int32) [] (.int 0)) :
    Met l Z (⟨"java/lang/StringLatin1", "equals", "([B[B)Z"⟩ : MethodName) jdk_43_method_13_code 3 (some .boolean) ({ frames := 0, cells := 0, slots := 0, locals := 0 } : Room) #[(.ref b1), (.ref b2)] h0 (fun v h' => v = some (.int (1 : Int32)) ∧ h0 = h') := by
  refine met_of (Ls := #[.val (.ref b1), .val (.ref b2), .unset]) (plainFor_of_name pn_rmle00) (fun m => by first | (simp [entryFrame, mkF, argsToLocals, Value.category]; done) | rfl) (fun p e s m below meth c cx => ?_)
  refine g_aloadN cx d12_0 rfl rfl ?_
  refine g_arraylength cx d12_1 A_b1 ?_
  refine g_aloadN cx d12_2 rfl rfl ?_
  refine g_arraylength cx d12_3 A_b2 ?_
  refine g_icmp_ne cx d12_4 (fun q => absurd q (fun q => by revert q; decide)) (fun hc4 => ?_)
  refine g_iconst cx d12_7 (v := (0 : Int32)) rfl ?_
  refine g_istoreN cx d12_8 (Ls' := #[.val (.ref b1), .val (.ref b2), .val (.int (0 : Int32))]) rfl ?_
  refine g_iloadN cx d12_9 rfl ?_
  refine g_aloadN cx d12_10 rfl rfl ?_
  refine g_arraylength cx d12_11 A_b1 ?_
  refine g_icmp_ge cx d12_12 (fun hc12 => ?_) (fun q => absurd q (fun q => by revert q; decide))
  refine g_iconst cx d12_32 (v := (1 : Int32)) rfl ?_
  refine g_retZ cx d12_33 rfl rfl (by decide) (by decide) ?_
  exact ⟨rfl, rfl⟩
theorem d12_34 : Dc jdk_43_method_13_code 34 (.iconst 0) 1 35 := ⟨by decide +kernel, rfl⟩
theorem d12_35 : Dc jdk_43_method_13_code 35 (.ireturn) 1 36 := ⟨by decide +kernel, rfl⟩
theorem pn_rmle01 : plainName "java/lang/StringLatin1" = true := by first | (simp [plainName, overriddenIn]; done) | decide +kernel
set_option maxRecDepth 65536 in
set_option maxHeartbeats 40000000 in
theorem rmle01 (l : Launch) (Z : State) (a0 : Array Value) (hw : ∀ d ∈ tables_1, d.before a0 Z = true) (b1 b2 : Addr) (k1 k2 : ClassId) (y1 y2 : Int32) (h0 : Heap) (A_b1 : Arv Z h0 b1 k1 .byte (0 : Int32) [] (.int 0)) (A_b2 : Arv Z h0 b2 k2 .byte (1 : Int32) [.int y2] (.int 0)) :
    Met l Z (⟨"java/lang/StringLatin1", "equals", "([B[B)Z"⟩ : MethodName) jdk_43_method_13_code 3 (some .boolean) ({ frames := 0, cells := 0, slots := 0, locals := 0 } : Room) #[(.ref b1), (.ref b2)] h0 (fun v h' => v = some (.int (0 : Int32)) ∧ h0 = h') := by
  refine met_of (Ls := #[.val (.ref b1), .val (.ref b2), .unset]) (plainFor_of_name pn_rmle01) (fun m => by first | (simp [entryFrame, mkF, argsToLocals, Value.category]; done) | rfl) (fun p e s m below meth c cx => ?_)
  refine g_aloadN cx d12_0 rfl rfl ?_
  refine g_arraylength cx d12_1 A_b1 ?_
  refine g_aloadN cx d12_2 rfl rfl ?_
  refine g_arraylength cx d12_3 A_b2 ?_
  refine g_icmp_ne cx d12_4 (fun hc4 => ?_) (fun q => absurd q (fun q => by revert q; decide))
  refine g_iconst cx d12_34 (v := (0 : Int32)) rfl ?_
  refine g_retZ cx d12_35 rfl rfl (by decide) (by decide) ?_
  exact ⟨rfl, rfl⟩
theorem pn_rmle10 : plainName "java/lang/StringLatin1" = true := by first | (simp [plainName, overriddenIn]; done) | decide +kernel
set_option maxRecDepth 65536 in
set_option maxHeartbeats 40000000 in
theorem rmle10 (l : Launch) (Z : State) (a0 : Array Value) (hw : ∀ d ∈ tables_1, d.before a0 Z = true) (b1 b2 : Addr) (k1 k2 : ClassId) (y1 y2 : Int32) (h0 : Heap) (A_b1 : Arv Z h0 b1 k1 .byte (1 : Int32) [.int y1] (.int 0)) (A_b2 : Arv Z h0 b2 k2 .byte (0 : Int32) [] (.int 0)) :
    Met l Z (⟨"java/lang/StringLatin1", "equals", "([B[B)Z"⟩ : MethodName) jdk_43_method_13_code 3 (some .boolean) ({ frames := 0, cells := 0, slots := 0, locals := 0 } : Room) #[(.ref b1), (.ref b2)] h0 (fun v h' => v = some (.int (0 : Int32)) ∧ h0 = h') := by
  refine met_of (Ls := #[.val (.ref b1), .val (.ref b2), .unset]) (plainFor_of_name pn_rmle10) (fun m => by first | (simp [entryFrame, mkF, argsToLocals, Value.category]; done) | rfl) (fun p e s m below meth c cx => ?_)
  refine g_aloadN cx d12_0 rfl rfl ?_
  refine g_arraylength cx d12_1 A_b1 ?_
  refine g_aloadN cx d12_2 rfl rfl ?_
  refine g_arraylength cx d12_3 A_b2 ?_
  refine g_icmp_ne cx d12_4 (fun hc4 => ?_) (fun q => absurd q (fun q => by revert q; decide))
  refine g_iconst cx d12_34 (v := (0 : Int32)) rfl ?_
  refine g_retZ cx d12_35 rfl rfl (by decide) (by decide) ?_
  exact ⟨rfl, rfl⟩
theorem d12_15 : Dc jdk_43_method_13_code 15 (.aload_n 0) 1 16 := ⟨by decide +kernel, rfl⟩
theorem d12_16 : Dc jdk_43_method_13_code 16 (.iload_n 2) 1 17 := ⟨by decide +kernel, rfl⟩
theorem d12_17 : Dc jdk_43_method_13_code 17 (.baload) 1 18 := ⟨by decide +kernel, rfl⟩
theorem d12_18 : Dc jdk_43_method_13_code 18 (.aload_n 1) 1 19 := ⟨by decide +kernel, rfl⟩
theorem d12_19 : Dc jdk_43_method_13_code 19 (.iload_n 2) 1 20 := ⟨by decide +kernel, rfl⟩
theorem d12_20 : Dc jdk_43_method_13_code 20 (.baload) 1 21 := ⟨by decide +kernel, rfl⟩
theorem d12_21 : Bi jdk_43_method_13_code 21 (Instr.if_icmp .eq) 26 24 := ⟨5, by decide +kernel, by decide, by decide, rfl⟩
theorem d12_26 : Dc jdk_43_method_13_code 26 (.iinc 2 1) 3 29 := ⟨by decide +kernel, rfl⟩
theorem d12_29 : Bi jdk_43_method_13_code 29 (Instr.goto) 9 32 := ⟨(-20), by decide +kernel, by decide, by decide, rfl⟩
theorem d12_24 : Dc jdk_43_method_13_code 24 (.iconst 0) 1 25 := ⟨by decide +kernel, rfl⟩
theorem d12_25 : Dc jdk_43_method_13_code 25 (.ireturn) 1 26 := ⟨by decide +kernel, rfl⟩
theorem pn_rmle11 : plainName "java/lang/StringLatin1" = true := by first | (simp [plainName, overriddenIn]; done) | decide +kernel
set_option maxRecDepth 65536 in
set_option maxHeartbeats 40000000 in
theorem rmle11 (l : Launch) (Z : State) (a0 : Array Value) (hw : ∀ d ∈ tables_1, d.before a0 Z = true) (b1 b2 : Addr) (k1 k2 : ClassId) (y1 y2 : Int32) (h0 : Heap) (A_b1 : Arv Z h0 b1 k1 .byte (1 : Int32) [.int y1] (.int 0)) (A_b2 : Arv Z h0 b2 k2 .byte (1 : Int32) [.int y2] (.int 0)) :
    Met l Z (⟨"java/lang/StringLatin1", "equals", "([B[B)Z"⟩ : MethodName) jdk_43_method_13_code 3 (some .boolean) ({ frames := 0, cells := 0, slots := 0, locals := 0 } : Room) #[(.ref b1), (.ref b2)] h0 (fun v h' => v = some (.int (own_eqb y1 y2)) ∧ h0 = h') := by
  refine met_of (Ls := #[.val (.ref b1), .val (.ref b2), .unset]) (plainFor_of_name pn_rmle11) (fun m => by first | (simp [entryFrame, mkF, argsToLocals, Value.category]; done) | rfl) (fun p e s m below meth c cx => ?_)
  refine g_aloadN cx d12_0 rfl rfl ?_
  refine g_arraylength cx d12_1 A_b1 ?_
  refine g_aloadN cx d12_2 rfl rfl ?_
  refine g_arraylength cx d12_3 A_b2 ?_
  refine g_icmp_ne cx d12_4 (fun q => absurd q (fun q => by revert q; decide)) (fun hc4 => ?_)
  refine g_iconst cx d12_7 (v := (0 : Int32)) rfl ?_
  refine g_istoreN cx d12_8 (Ls' := #[.val (.ref b1), .val (.ref b2), .val (.int (0 : Int32))]) rfl ?_
  refine g_iloadN cx d12_9 rfl ?_
  refine g_aloadN cx d12_10 rfl rfl ?_
  refine g_arraylength cx d12_11 A_b1 ?_
  refine g_icmp_ge cx d12_12 (fun q => absurd q (fun q => by revert q; decide)) (fun hc12 => ?_)
  refine g_aloadN cx d12_15 rfl rfl ?_
  refine g_iloadN cx d12_16 rfl ?_
  refine g_baload cx d12_17 A_b1 ⟨by decide, by decide⟩ (v := (.int y1)) rfl ?_
  refine g_aloadN cx d12_18 rfl rfl ?_
  refine g_iloadN cx d12_19 rfl ?_
  refine g_baload cx d12_20 A_b2 ⟨by decide, by decide⟩ (v := (.int y2)) rfl ?_
  refine g_icmp_eq cx d12_21 (fun hc21 => ?_) (fun hc21 => ?_)
  · refine g_iinc cx d12_26 rfl (v := (1 : Int32)) rfl (Ls' := #[.val (.ref b1), .val (.ref b2), .val (.int (1 : Int32))]) rfl ?_
    refine g_goto cx d12_29 ?_
    refine g_iloadN cx d12_9 rfl ?_
    refine g_aloadN cx d12_10 rfl rfl ?_
    refine g_arraylength cx d12_11 A_b1 ?_
    refine g_icmp_ge cx d12_12 (fun hc12x => ?_) (fun q => absurd q (fun q => by revert q; decide))
    refine g_iconst cx d12_32 (v := (1 : Int32)) rfl ?_
    refine g_retZ cx d12_33 rfl rfl (by decide) (by decide) ?_
    exact ⟨by simp [own_eqb, hc21], rfl⟩
  · refine g_iconst cx d12_24 (v := (0 : Int32)) rfl ?_
    refine g_retZ cx d12_25 rfl rfl (by decide) (by decide) ?_
    exact ⟨by simp [own_eqb, hc21], rfl⟩
theorem own_qne {em cc fm dd : Int32} (h : ¬ em = fm) : own_q em cc fm dd = (0 : Int32) := if_neg h
theorem own_qe {em cc fm dd : Int32} (hem : em = (0 : Int32) ∨ em = (1 : Int32)) (hfm : fm = (0 : Int32) ∨ fm = (1 : Int32)) (h1 : ¬ em = (0 : Int32)) (h2 : ¬ fm = (0 : Int32)) : own_q em cc fm dd = (1 : Int32) := by
  rcases hem with rfl | rfl
  · exact absurd rfl h1
  · rcases hfm with rfl | rfl
    · exact absurd rfl h2
    · rfl
theorem own_q0 {em cc fm dd : Int32} (h1 : em = (0 : Int32)) (h2 : fm = (0 : Int32)) (q : own_eqb (own_bt cc) (own_bt dd) = (0 : Int32)) : own_q em cc fm dd = (0 : Int32) := by
  subst h1 h2
  unfold own_q own_eqb at *
  by_cases g : cc = dd
  · subst g; simp at q
  · simp [g]
theorem own_q1 {em cc fm dd : Int32} (lc : 0 ≤ cc.toInt) (hc : cc.toInt ≤ 255) (ld : 0 ≤ dd.toInt) (hd : dd.toInt ≤ 255) (h1 : em = (0 : Int32)) (h2 : fm = (0 : Int32)) (q : ¬ own_eqb (own_bt cc) (own_bt dd) = (0 : Int32)) : own_q em cc fm dd = (1 : Int32) := by
  subst h1 h2
  unfold own_q
  by_cases g : own_bt cc = own_bt dd
  · have := own_bt_inj lc hc ld hd g
    subst this; simp
  · simp [own_eqb, g] at q
theorem d11_0 : Dc jdk_42_method_66_code 0 (.aload_n 0) 1 1 := ⟨by decide +kernel, rfl⟩
theorem d11_1 : Dc jdk_42_method_66_code 1 (.aload_n 1) 1 2 := ⟨by decide +kernel, rfl⟩
theorem d11_2 : Bi jdk_42_method_66_code 2 (Instr.if_acmp .ne) 7 5 := ⟨5, by decide +kernel, by decide, by decide, rfl⟩
theorem d11_7 : Dc jdk_42_method_66_code 7 (.aload_n 1) 1 8 := ⟨by decide +kernel, rfl⟩
theorem d11_8 : Dc jdk_42_method_66_code 8 (.instanceof 10) 3 11 := ⟨by decide +kernel, rfl⟩
theorem d11_11 : Bi jdk_42_method_66_code 11 (Instr.ifCond .eq) 54 14 := ⟨43, by decide +kernel, by decide, by decide, rfl⟩
theorem d11_14 : Dc jdk_42_method_66_code 14 (.aload_n 1) 1 15 := ⟨by decide +kernel, rfl⟩
theorem d11_15 : Dc jdk_42_method_66_code 15 (.checkcast 10) 3 18 := ⟨by decide +kernel, rfl⟩
theorem d11_18 : Dc jdk_42_method_66_code 18 (.astore_n 2) 1 19 := ⟨by decide +kernel, rfl⟩
theorem d11_19 : Dc jdk_42_method_66_code 19 (.getstatic 38) 3 22 := ⟨by decide +kernel, rfl⟩
theorem d11_22 : Bi jdk_42_method_66_code 22 (Instr.ifCond .eq) 36 25 := ⟨14, by decide +kernel, by decide, by decide, rfl⟩
theorem d11_25 : Dc jdk_42_method_66_code 25 (.aload_n 0) 1 26 := ⟨by decide +kernel, rfl⟩
theorem d11_26 : Dc jdk_42_method_66_code 26 (.getfield 15) 3 29 := ⟨by decide +kernel, rfl⟩
theorem d11_29 : Dc jdk_42_method_66_code 29 (.aload_n 2) 1 30 := ⟨by decide +kernel, rfl⟩
theorem d11_30 : Dc jdk_42_method_66_code 30 (.getfield 15) 3 33 := ⟨by decide +kernel, rfl⟩
theorem d11_33 : Bi jdk_42_method_66_code 33 (Instr.if_icmp .ne) 54 36 := ⟨21, by decide +kernel, by decide, by decide, rfl⟩
theorem d11_36 : Dc jdk_42_method_66_code 36 (.aload_n 0) 1 37 := ⟨by decide +kernel, rfl⟩
theorem d11_37 : Dc jdk_42_method_66_code 37 (.getfield 9) 3 40 := ⟨by decide +kernel, rfl⟩
theorem d11_40 : Dc jdk_42_method_66_code 40 (.aload_n 2) 1 41 := ⟨by decide +kernel, rfl⟩
theorem d11_41 : Dc jdk_42_method_66_code 41 (.getfield 9) 3 44 := ⟨by decide +kernel, rfl⟩
theorem pd_5 : parseMethodDescriptor "([B[B)Z" = some ⟨[(.array .byte), (.array .byte)], some .boolean⟩ := by decide +kernel
theorem d11_44 : Dc jdk_42_method_66_code 44 (.invokestatic 541) 3 47 := ⟨by decide +kernel, rfl⟩
theorem d11_47 : Bi jdk_42_method_66_code 47 (Instr.ifCond .eq) 54 50 := ⟨7, by decide +kernel, by decide, by decide, rfl⟩
theorem d11_50 : Dc jdk_42_method_66_code 50 (.iconst 1) 1 51 := ⟨by decide +kernel, rfl⟩
theorem d11_51 : Bi jdk_42_method_66_code 51 (Instr.goto) 55 54 := ⟨4, by decide +kernel, by decide, by decide, rfl⟩
theorem d11_55 : Dc jdk_42_method_66_code 55 (.ireturn) 1 56 := ⟨by decide +kernel, rfl⟩
theorem d11_54 : Dc jdk_42_method_66_code 54 (.iconst 0) 1 55 := ⟨by decide +kernel, rfl⟩
theorem pn_rmse : plainName "java/lang/String" = true := by first | (simp [plainName, overriddenIn]; done) | decide +kernel
set_option maxRecDepth 65536 in
set_option maxHeartbeats 40000000 in
theorem rmse (l : Launch) (Z : State) (a0 : Array Value) (hw : ∀ d ∈ tables_1, d.before a0 Z = true) (cs : Int32) (SCS : Sta Z Z.heap "java/lang/String" "COMPACT_STRINGS" "Z" (.int cs)) (hcs : ¬ cs = (0 : Int32)) (x y : Addr) (em cc fm dd : Int32) (hem : em = (0 : Int32) ∨ em = (1 : Int32)) (hfm : fm = (0 : Int32) ∨ fm = (1 : Int32)) (lc : 0 ≤ cc.toInt) (hc : cc.toInt ≤ 255) (ld : 0 ≤ dd.toInt) (hd : dd.toInt ≤ 255) (mm mn : Nat) (h0 : Heap) (SX : own_St Z h0 mm x em cc) (SY : own_St Z h0 mn y fm dd) (nxy : x ≠ y) (OL : Old Z Z.heap.size h0) :
    Met l Z (⟨"java/lang/String", "equals", "(Ljava/lang/Object;)Z"⟩ : MethodName) jdk_42_method_66_code 3 (some .boolean) ({ frames := 1, cells := 0, slots := 0, locals := 14 } : Room) #[(.ref x), (.ref y)] h0 (fun v h' => v = some (.int (own_q em cc fm dd)) ∧ h0 = h') := by
  refine met_of (Ls := #[.val (.ref x), .val (.ref y), .unset]) (plainFor_of_name pn_rmse) (fun m => by first | (simp [entryFrame, mkF, argsToLocals, Value.category]; done) | rfl) (fun p e s m below meth c cx => ?_)
  obtain ⟨b1, k1, -, -, -, O_x, ⟨e1, A_b1⟩ | ⟨e1, A_b1⟩⟩ := SX
  · obtain ⟨b2, k2, -, -, -, O_y, ⟨e2, A_b2⟩ | ⟨e2, A_b2⟩⟩ := SY
    · refine g_aloadN cx d11_0 rfl rfl ?_
      refine g_aloadN cx d11_1 rfl rfl ?_
      refine g_acmp_ne cx rfl rfl d11_2 (fun hc2 => ?_) (fun q => absurd q (fun q => nxy (by cases q; rfl)))
      refine g_aloadN cx d11_7 rfl rfl ?_
      refine g_instanceY cx d11_8 (hw _ (List.mem_of_getElem? (i := 62) rfl)) (Ins.self O_y.1) ?_
      refine g_if_eq cx d11_11 (fun q => absurd q (fun q => by revert q; decide)) (fun hc11 => ?_)
      refine g_aloadN cx d11_14 rfl rfl ?_
      refine g_checkcast cx d11_15 (hw _ (List.mem_of_getElem? (i := 62) rfl)) (Ins.self O_y.1) ?_
      refine g_astoreN cx d11_18 rfl (Ls' := #[.val (.ref x), .val (.ref y), .val (.ref y)]) rfl ?_
      refine g_getS cx d11_19 (host := "") (Or.inl (hw _ (List.mem_of_getElem? (i := 18) rfl))) Via.refl (SCS.ext OL.2) ?_
      refine g_if_eq cx d11_22 (fun q => absurd q (fun q => hcs q)) (fun hc22 => ?_)
      refine g_aloadN cx d11_25 rfl rfl ?_
      refine g_getF cx d11_26 (host := "") (Or.inl (hw _ (List.mem_of_getElem? (i := 30) rfl))) Via.refl O_x.2.1 ?_
      refine g_aloadN cx d11_29 rfl rfl ?_
      refine g_getF cx d11_30 (host := "") (Or.inl (hw _ (List.mem_of_getElem? (i := 30) rfl))) Via.refl O_y.2.1 ?_
      refine g_icmp_ne cx d11_33 (fun q => absurd q (fun q => by revert q; decide)) (fun hc33 => ?_)
      refine g_aloadN cx d11_36 rfl rfl ?_
      refine g_getF cx d11_37 (host := "") (Or.inl (hw _ (List.mem_of_getElem? (i := 32) rfl))) Via.refl O_x.2.2 ?_
      refine g_aloadN cx d11_40 rfl rfl ?_
      refine g_getF cx d11_41 (host := "") (Or.inl (hw _ (List.mem_of_getElem? (i := 32) rfl))) Via.refl O_y.2.2 ?_
      refine g_static cx (y := (⟨"java/lang/StringLatin1", "equals", "([B[B)Z"⟩ : MethodName)) d11_44 (hw _ (List.mem_of_getElem? (i := 63) rfl)) (hw _ (List.mem_of_getElem? (i := 64) rfl)) (hw _ (List.mem_of_getElem? (i := 65) rfl)) (hw _ (List.mem_of_getElem? (i := 66) rfl)) (by decide) (bytes := jdk_43_method_13_code) (maxL' := 3) (M := (rmle00 l Z a0 hw b1 b2 k1 k2 (0 : Int32) (0 : Int32) _ A_b1 A_b2)) rfl (lenOf pd_5 rfl) (by decide) (W := 0) (Nat.le_of_eq rfl) (by decide) (k' := 0) (n' := 0) rfl rfl (by decide) (by decide) (argsL := [(.ref b1), (.ref b2)]) (rest := []) rfl (fun v2 h1 q3 => ?_)
      obtain ⟨rfl, rfl⟩ := q3
      refine G.cast (st' := [(.int (1 : Int32))]) ?_ rfl
      refine g_if_eq cx d11_47 (fun q => absurd q (fun q => by revert q; decide)) (fun hc47 => ?_)
      refine g_iconst cx d11_50 (v := (1 : Int32)) rfl ?_
      refine g_goto cx d11_51 ?_
      refine g_retZ cx d11_55 rfl rfl (by decide) (by decide) ?_
      exact ⟨by rw [own_qe hem hfm e1 e2], rfl⟩
    · refine g_aloadN cx d11_0 rfl rfl ?_
      refine g_aloadN cx d11_1 rfl rfl ?_
      refine g_acmp_ne cx rfl rfl d11_2 (fun hc2 => ?_) (fun q => absurd q (fun q => nxy (by cases q; rfl)))
      refine g_aloadN cx d11_7 rfl rfl ?_
      refine g_instanceY cx d11_8 (hw _ (List.mem_of_getElem? (i := 62) rfl)) (Ins.self O_y.1) ?_
      refine g_if_eq cx d11_11 (fun q => absurd q (fun q => by revert q; decide)) (fun hc11 => ?_)
      refine g_aloadN cx d11_14 rfl rfl ?_
      refine g_checkcast cx d11_15 (hw _ (List.mem_of_getElem? (i := 62) rfl)) (Ins.self O_y.1) ?_
      refine g_astoreN cx d11_18 rfl (Ls' := #[.val (.ref x), .val (.ref y), .val (.ref y)]) rfl ?_
      refine g_getS cx d11_19 (host := "") (Or.inl (hw _ (List.mem_of_getElem? (i := 18) rfl))) Via.refl (SCS.ext OL.2) ?_
      refine g_if_eq cx d11_22 (fun q => absurd q (fun q => hcs q)) (fun hc22 => ?_)
      refine g_aloadN cx d11_25 rfl rfl ?_
      refine g_getF cx d11_26 (host := "") (Or.inl (hw _ (List.mem_of_getElem? (i := 30) rfl))) Via.refl O_x.2.1 ?_
      refine g_aloadN cx d11_29 rfl rfl ?_
      refine g_getF cx d11_30 (host := "") (Or.inl (hw _ (List.mem_of_getElem? (i := 30) rfl))) Via.refl O_y.2.1 ?_
      refine g_icmp_ne cx d11_33 (fun q => absurd q (fun q => by revert q; decide)) (fun hc33 => ?_)
      refine g_aloadN cx d11_36 rfl rfl ?_
      refine g_getF cx d11_37 (host := "") (Or.inl (hw _ (List.mem_of_getElem? (i := 32) rfl))) Via.refl O_x.2.2 ?_
      refine g_aloadN cx d11_40 rfl rfl ?_
      refine g_getF cx d11_41 (host := "") (Or.inl (hw _ (List.mem_of_getElem? (i := 32) rfl))) Via.refl O_y.2.2 ?_
      refine g_static cx (y := (⟨"java/lang/StringLatin1", "equals", "([B[B)Z"⟩ : MethodName)) d11_44 (hw _ (List.mem_of_getElem? (i := 63) rfl)) (hw _ (List.mem_of_getElem? (i := 64) rfl)) (hw _ (List.mem_of_getElem? (i := 65) rfl)) (hw _ (List.mem_of_getElem? (i := 66) rfl)) (by decide) (bytes := jdk_43_method_13_code) (maxL' := 3) (M := (rmle01 l Z a0 hw b1 b2 k1 k2 (0 : Int32) (own_bt dd) _ A_b1 A_b2)) rfl (lenOf pd_5 rfl) (by decide) (W := 0) (Nat.le_of_eq rfl) (by decide) (k' := 0) (n' := 0) rfl rfl (by decide) (by decide) (argsL := [(.ref b1), (.ref b2)]) (rest := []) rfl (fun v5 h4 q6 => ?_)
      obtain ⟨rfl, rfl⟩ := q6
      refine G.cast (st' := [(.int (0 : Int32))]) ?_ rfl
      refine g_if_eq cx d11_47 (fun hc47 => ?_) (fun q => absurd q (fun q => by revert q; decide))
      refine g_iconst cx d11_54 (v := (0 : Int32)) rfl ?_
      refine g_retZ cx d11_55 rfl rfl (by decide) (by decide) ?_
      exact ⟨by rw [own_qne (fun z => e1 (z.trans e2))], rfl⟩
  · obtain ⟨b2, k2, -, -, -, O_y, ⟨e2, A_b2⟩ | ⟨e2, A_b2⟩⟩ := SY
    · refine g_aloadN cx d11_0 rfl rfl ?_
      refine g_aloadN cx d11_1 rfl rfl ?_
      refine g_acmp_ne cx rfl rfl d11_2 (fun hc2 => ?_) (fun q => absurd q (fun q => nxy (by cases q; rfl)))
      refine g_aloadN cx d11_7 rfl rfl ?_
      refine g_instanceY cx d11_8 (hw _ (List.mem_of_getElem? (i := 62) rfl)) (Ins.self O_y.1) ?_
      refine g_if_eq cx d11_11 (fun q => absurd q (fun q => by revert q; decide)) (fun hc11 => ?_)
      refine g_aloadN cx d11_14 rfl rfl ?_
      refine g_checkcast cx d11_15 (hw _ (List.mem_of_getElem? (i := 62) rfl)) (Ins.self O_y.1) ?_
      refine g_astoreN cx d11_18 rfl (Ls' := #[.val (.ref x), .val (.ref y), .val (.ref y)]) rfl ?_
      refine g_getS cx d11_19 (host := "") (Or.inl (hw _ (List.mem_of_getElem? (i := 18) rfl))) Via.refl (SCS.ext OL.2) ?_
      refine g_if_eq cx d11_22 (fun q => absurd q (fun q => hcs q)) (fun hc22 => ?_)
      refine g_aloadN cx d11_25 rfl rfl ?_
      refine g_getF cx d11_26 (host := "") (Or.inl (hw _ (List.mem_of_getElem? (i := 30) rfl))) Via.refl O_x.2.1 ?_
      refine g_aloadN cx d11_29 rfl rfl ?_
      refine g_getF cx d11_30 (host := "") (Or.inl (hw _ (List.mem_of_getElem? (i := 30) rfl))) Via.refl O_y.2.1 ?_
      refine g_icmp_ne cx d11_33 (fun q => absurd q (fun q => by revert q; decide)) (fun hc33 => ?_)
      refine g_aloadN cx d11_36 rfl rfl ?_
      refine g_getF cx d11_37 (host := "") (Or.inl (hw _ (List.mem_of_getElem? (i := 32) rfl))) Via.refl O_x.2.2 ?_
      refine g_aloadN cx d11_40 rfl rfl ?_
      refine g_getF cx d11_41 (host := "") (Or.inl (hw _ (List.mem_of_getElem? (i := 32) rfl))) Via.refl O_y.2.2 ?_
      refine g_static cx (y := (⟨"java/lang/StringLatin1", "equals", "([B[B)Z"⟩ : MethodName)) d11_44 (hw _ (List.mem_of_getElem? (i := 63) rfl)) (hw _ (List.mem_of_getElem? (i := 64) rfl)) (hw _ (List.mem_of_getElem? (i := 65) rfl)) (hw _ (List.mem_of_getElem? (i := 66) rfl)) (by decide) (bytes := jdk_43_method_13_code) (maxL' := 3) (M := (rmle10 l Z a0 hw b1 b2 k1 k2 (own_bt cc) (0 : Int32) _ A_b1 A_b2)) rfl (lenOf pd_5 rfl) (by decide) (W := 0) (Nat.le_of_eq rfl) (by decide) (k' := 0) (n' := 0) rfl rfl (by decide) (by decide) (argsL := [(.ref b1), (.ref b2)]) (rest := []) rfl (fun v8 h7 q9 => ?_)
      obtain ⟨rfl, rfl⟩ := q9
      refine G.cast (st' := [(.int (0 : Int32))]) ?_ rfl
      refine g_if_eq cx d11_47 (fun hc47 => ?_) (fun q => absurd q (fun q => by revert q; decide))
      refine g_iconst cx d11_54 (v := (0 : Int32)) rfl ?_
      refine g_retZ cx d11_55 rfl rfl (by decide) (by decide) ?_
      exact ⟨by rw [own_qne (fun z => e2 (z.symm.trans e1))], rfl⟩
    · refine g_aloadN cx d11_0 rfl rfl ?_
      refine g_aloadN cx d11_1 rfl rfl ?_
      refine g_acmp_ne cx rfl rfl d11_2 (fun hc2 => ?_) (fun q => absurd q (fun q => nxy (by cases q; rfl)))
      refine g_aloadN cx d11_7 rfl rfl ?_
      refine g_instanceY cx d11_8 (hw _ (List.mem_of_getElem? (i := 62) rfl)) (Ins.self O_y.1) ?_
      refine g_if_eq cx d11_11 (fun q => absurd q (fun q => by revert q; decide)) (fun hc11 => ?_)
      refine g_aloadN cx d11_14 rfl rfl ?_
      refine g_checkcast cx d11_15 (hw _ (List.mem_of_getElem? (i := 62) rfl)) (Ins.self O_y.1) ?_
      refine g_astoreN cx d11_18 rfl (Ls' := #[.val (.ref x), .val (.ref y), .val (.ref y)]) rfl ?_
      refine g_getS cx d11_19 (host := "") (Or.inl (hw _ (List.mem_of_getElem? (i := 18) rfl))) Via.refl (SCS.ext OL.2) ?_
      refine g_if_eq cx d11_22 (fun q => absurd q (fun q => hcs q)) (fun hc22 => ?_)
      refine g_aloadN cx d11_25 rfl rfl ?_
      refine g_getF cx d11_26 (host := "") (Or.inl (hw _ (List.mem_of_getElem? (i := 30) rfl))) Via.refl O_x.2.1 ?_
      refine g_aloadN cx d11_29 rfl rfl ?_
      refine g_getF cx d11_30 (host := "") (Or.inl (hw _ (List.mem_of_getElem? (i := 30) rfl))) Via.refl O_y.2.1 ?_
      refine g_icmp_ne cx d11_33 (fun q => absurd q (fun q => by revert q; decide)) (fun hc33 => ?_)
      refine g_aloadN cx d11_36 rfl rfl ?_
      refine g_getF cx d11_37 (host := "") (Or.inl (hw _ (List.mem_of_getElem? (i := 32) rfl))) Via.refl O_x.2.2 ?_
      refine g_aloadN cx d11_40 rfl rfl ?_
      refine g_getF cx d11_41 (host := "") (Or.inl (hw _ (List.mem_of_getElem? (i := 32) rfl))) Via.refl O_y.2.2 ?_
      refine g_static cx (y := (⟨"java/lang/StringLatin1", "equals", "([B[B)Z"⟩ : MethodName)) d11_44 (hw _ (List.mem_of_getElem? (i := 63) rfl)) (hw _ (List.mem_of_getElem? (i := 64) rfl)) (hw _ (List.mem_of_getElem? (i := 65) rfl)) (hw _ (List.mem_of_getElem? (i := 66) rfl)) (by decide) (bytes := jdk_43_method_13_code) (maxL' := 3) (M := (rmle11 l Z a0 hw b1 b2 k1 k2 (own_bt cc) (own_bt dd) _ A_b1 A_b2)) rfl (lenOf pd_5 rfl) (by decide) (W := 0) (Nat.le_of_eq rfl) (by decide) (k' := 0) (n' := 0) rfl rfl (by decide) (by decide) (argsL := [(.ref b1), (.ref b2)]) (rest := []) rfl (fun v11 h10 q12 => ?_)
      obtain ⟨rfl, rfl⟩ := q12
      refine G.cast (st' := [(.int (own_eqb (own_bt cc) (own_bt dd)))]) ?_ rfl
      refine g_if_eq cx d11_47 (fun hc47 => ?_) (fun hc47 => ?_)
      · refine g_iconst cx d11_54 (v := (0 : Int32)) rfl ?_
        refine g_retZ cx d11_55 rfl rfl (by decide) (by decide) ?_
        exact ⟨by rw [own_q0 e1 e2 hc47], rfl⟩
      · refine g_iconst cx d11_50 (v := (1 : Int32)) rfl ?_
        refine g_goto cx d11_51 ?_
        refine g_retZ cx d11_55 rfl rfl (by decide) (by decide) ?_
        exact ⟨by rw [own_q1 lc hc ld hd e1 e2 hc47], rfl⟩
theorem d11_5 : Dc jdk_42_method_66_code 5 (.iconst 1) 1 6 := ⟨by decide +kernel, rfl⟩
theorem d11_6 : Dc jdk_42_method_66_code 6 (.ireturn) 1 7 := ⟨by decide +kernel, rfl⟩
theorem pn_rmseS : plainName "java/lang/String" = true := by first | (simp [plainName, overriddenIn]; done) | decide +kernel
set_option maxRecDepth 65536 in
set_option maxHeartbeats 40000000 in
theorem rmseS (l : Launch) (Z : State) (a0 : Array Value) (hw : ∀ d ∈ tables_1, d.before a0 Z = true) (x : Addr) (h0 : Heap) :
    Met l Z (⟨"java/lang/String", "equals", "(Ljava/lang/Object;)Z"⟩ : MethodName) jdk_42_method_66_code 3 (some .boolean) ({ frames := 0, cells := 0, slots := 0, locals := 0 } : Room) #[(.ref x), (.ref x)] h0 (fun v h' => v = some (.int (1 : Int32)) ∧ h0 = h') := by
  refine met_of (Ls := #[.val (.ref x), .val (.ref x), .unset]) (plainFor_of_name pn_rmseS) (fun m => by first | (simp [entryFrame, mkF, argsToLocals, Value.category]; done) | rfl) (fun p e s m below meth c cx => ?_)
  refine g_aloadN cx d11_0 rfl rfl ?_
  refine g_aloadN cx d11_1 rfl rfl ?_
  refine g_acmp_ne cx rfl rfl d11_2 (fun q => absurd q (fun q => q rfl)) (fun hc2 => ?_)
  refine g_iconst cx d11_5 (v := (1 : Int32)) rfl ?_
  refine g_retZ cx d11_6 rfl rfl (by decide) (by decide) ?_
  exact ⟨rfl, rfl⟩
theorem d9_0 : Dc method_3_code 0 (.iload_n 0) 1 1 := ⟨by decide +kernel, rfl⟩
theorem d9_1 : Dc method_3_code 1 (.iload_n 2) 1 2 := ⟨by decide +kernel, rfl⟩
theorem d9_2 : Bi method_3_code 2 (Instr.if_icmp .eq) 7 5 := ⟨5, by decide +kernel, by decide, by decide, rfl⟩
theorem d9_7 : Dc method_3_code 7 (.iload_n 0) 1 8 := ⟨by decide +kernel, rfl⟩
theorem d9_8 : Bi method_3_code 8 (Instr.ifCond .eq) 13 11 := ⟨5, by decide +kernel, by decide, by decide, rfl⟩
theorem d9_13 : Dc method_3_code 13 (.iload_n 1) 1 14 := ⟨by decide +kernel, rfl⟩
theorem d9_14 : Dc method_3_code 14 (.iload_n 3) 1 15 := ⟨by decide +kernel, rfl⟩
theorem d9_15 : Bi method_3_code 15 (Instr.if_icmp .ne) 22 18 := ⟨7, by decide +kernel, by decide, by decide, rfl⟩
theorem d9_22 : Dc method_3_code 22 (.iconst 0) 1 23 := ⟨by decide +kernel, rfl⟩
theorem d9_23 : Dc method_3_code 23 (.ireturn) 1 24 := ⟨by decide +kernel, rfl⟩
theorem d9_18 : Dc method_3_code 18 (.iconst 1) 1 19 := ⟨by decide +kernel, rfl⟩
theorem d9_19 : Bi method_3_code 19 (Instr.goto) 23 22 := ⟨4, by decide +kernel, by decide, by decide, rfl⟩
theorem d9_11 : Dc method_3_code 11 (.iconst 1) 1 12 := ⟨by decide +kernel, rfl⟩
theorem d9_12 : Dc method_3_code 12 (.ireturn) 1 13 := ⟨by decide +kernel, rfl⟩
theorem d9_5 : Dc method_3_code 5 (.iconst 0) 1 6 := ⟨by decide +kernel, rfl⟩
theorem d9_6 : Dc method_3_code 6 (.ireturn) 1 7 := ⟨by decide +kernel, rfl⟩
theorem pn_rmes : plainName "com/example/dyn_authz/dynauthz/process/RequestEqualsPinLaw" = true := by first | (simp [plainName, overriddenIn]; done) | decide +kernel
set_option maxRecDepth 65536 in
set_option maxHeartbeats 40000000 in
theorem rmes (l : Launch) (Z : State) (a0 : Array Value) (hw : ∀ d ∈ tables_1, d.before a0 Z = true) (em cc fm dd : Int32) (h0 : Heap) :
    Met l Z (⟨"com/example/dyn_authz/dynauthz/process/RequestEqualsPinLaw", "eqS", "(ZCZC)Z"⟩ : MethodName) method_3_code 4 (some .boolean) ({ frames := 0, cells := 0, slots := 0, locals := 0 } : Room) #[(.int em), (.int cc), (.int fm), (.int dd)] h0 (fun v h' => v = some (.int (own_q em cc fm dd)) ∧ h0 = h') := by
  refine met_of (Ls := #[.val (.int em), .val (.int cc), .val (.int fm), .val (.int dd)]) (plainFor_of_name pn_rmes) (fun m => by first | (simp [entryFrame, mkF, argsToLocals, Value.category]; done) | rfl) (fun p e s m below meth c cx => ?_)
  refine g_iloadN cx d9_0 rfl ?_
  refine g_iloadN cx d9_1 rfl ?_
  refine g_icmp_eq cx d9_2 (fun hc2 => ?_) (fun hc2 => ?_)
  · refine g_iloadN cx d9_7 rfl ?_
    refine g_if_eq cx d9_8 (fun hc8 => ?_) (fun hc8 => ?_)
    · refine g_iloadN cx d9_13 rfl ?_
      refine g_iloadN cx d9_14 rfl ?_
      refine g_icmp_ne cx d9_15 (fun hc15 => ?_) (fun hc15 => ?_)
      · refine g_iconst cx d9_22 (v := (0 : Int32)) rfl ?_
        refine g_retZ cx d9_23 rfl rfl (by decide) (by decide) ?_
        subst hc2
        exact ⟨by simp [own_q, hc8, hc15], rfl⟩
      · refine g_iconst cx d9_18 (v := (1 : Int32)) rfl ?_
        refine g_goto cx d9_19 ?_
        refine g_retZ cx d9_23 rfl rfl (by decide) (by decide) ?_
        subst hc2
        exact ⟨by simp [own_q, hc8, hc15], rfl⟩
    · refine g_iconst cx d9_11 (v := (1 : Int32)) rfl ?_
      refine g_retZ cx d9_12 rfl rfl (by decide) (by decide) ?_
      subst hc2
      exact ⟨by simp [own_q, hc8], rfl⟩
  · refine g_iconst cx d9_5 (v := (0 : Int32)) rfl ?_
    refine g_retZ cx d9_6 rfl rfl (by decide) (by decide) ?_
    exact ⟨by simp [own_q, hc2], rfl⟩
theorem d8_0 : Dc prog_35_method_1_code 0 (.aload_n 0) 1 1 := ⟨by decide +kernel, rfl⟩
theorem d8_1 : Dc prog_35_method_1_code 1 (.invokespecial 1) 3 4 := ⟨by decide +kernel, rfl⟩
theorem d8_4 : Dc prog_35_method_1_code 4 (.aload_n 0) 1 5 := ⟨by decide +kernel, rfl⟩
theorem d8_5 : Dc prog_35_method_1_code 5 (.aload_n 1) 1 6 := ⟨by decide +kernel, rfl⟩
theorem d8_6 : Dc prog_35_method_1_code 6 (.putfield 7) 3 9 := ⟨by decide +kernel, rfl⟩
theorem d8_9 : Dc prog_35_method_1_code 9 (.aload_n 0) 1 10 := ⟨by decide +kernel, rfl⟩
theorem d8_10 : Dc prog_35_method_1_code 10 (.aload_n 2) 1 11 := ⟨by decide +kernel, rfl⟩
theorem d8_11 : Dc prog_35_method_1_code 11 (.putfield 13) 3 14 := ⟨by decide +kernel, rfl⟩
theorem d8_14 : Dc prog_35_method_1_code 14 (.aload_n 0) 1 15 := ⟨by decide +kernel, rfl⟩
theorem d8_15 : Dc prog_35_method_1_code 15 (.aload_n 3) 1 16 := ⟨by decide +kernel, rfl⟩
theorem d8_16 : Dc prog_35_method_1_code 16 (.putfield 16) 3 19 := ⟨by decide +kernel, rfl⟩
theorem d8_19 : Dc prog_35_method_1_code 19 (.return_) 1 20 := ⟨by decide +kernel, rfl⟩
theorem pn_rmri : plainName "com/example/dyn_authz/dynauthz/process/Request" = true := by first | (simp [plainName, overriddenIn]; done) | decide +kernel
set_option maxRecDepth 65536 in
set_option maxHeartbeats 40000000 in
theorem rmri (l : Launch) (Z : State) (a0 : Array Value) (hw : ∀ d ∈ tables_1, d.before a0 Z = true) (a : Addr) (z1 : Addr) (z2 : Addr) (z3 : Addr) (h0 : Heap) (O_a : ObR Z h0 a .null .null .null) (g_a : Z.heap.size ≤ a) (OL : Old Z Z.heap.size h0) :
    Met l Z (⟨"com/example/dyn_authz/dynauthz/process/Request", "<init>", "(Ljava/lang/String;Ljava/lang/String;Ljava/lang/String;)V"⟩ : MethodName) prog_35_method_1_code 4 none ({ frames := 1, cells := 0, slots := 0, locals := 12 } : Room) #[(.ref a), (.ref z1), (.ref z2), (.ref z3)] h0 (fun v h' => v = none ∧ Keep h0 h' [a] ∧ ObR Z h' a (.ref z1) (.ref z2) (.ref z3)) := by
  refine met_of (Ls := #[.val (.ref a), .val (.ref z1), .val (.ref z2), .val (.ref z3)]) (plainFor_of_name pn_rmri) (fun m => by first | (simp [entryFrame, mkF, argsToLocals, Value.category]; done) | rfl) (fun p e s m below meth c cx => ?_)
  have KK := Keep.refl h0 [a]
  refine g_aloadN cx d8_0 rfl rfl ?_
  refine g_initO cx d8_1 (hw _ (List.mem_of_getElem? (i := 40) rfl)) (hw _ (List.mem_of_getElem? (i := 16) rfl)) (hw _ (List.mem_of_getElem? (i := 17) rfl)) rfl (by decide) (W := 0) (Nat.le_of_eq rfl) (by decide) ?_
  refine g_aloadN cx d8_4 rfl rfl ?_
  refine g_aloadN cx d8_5 rfl rfl ?_
  refine g_putF cx d8_6 (host := "") (Or.inl (hw _ (List.mem_of_getElem? (i := 41) rfl))) Via.refl O_a.2.1 O_a.1 (Or.inr ⟨(hw _ (List.mem_of_getElem? (i := 42) rfl)), rfl, rfl⟩) (hw _ (List.mem_of_getElem? (i := 35) rfl)) (ty := (.object "java/lang/String")) (by decide) rfl rfl g_a (fun h1 W2 => ?_)
  have O_a := O_a.put1 hw W2
  have OL := OL.wr W2 g_a
  have KK := KK.wr W2 (Or.inl (List.mem_of_getElem? (i := 0) rfl))
  refine g_aloadN cx d8_9 rfl rfl ?_
  refine g_aloadN cx d8_10 rfl rfl ?_
  refine g_putF cx d8_11 (host := "") (Or.inl (hw _ (List.mem_of_getElem? (i := 43) rfl))) Via.refl O_a.2.2.1 O_a.1 (Or.inr ⟨(hw _ (List.mem_of_getElem? (i := 44) rfl)), rfl, rfl⟩) (hw _ (List.mem_of_getElem? (i := 35) rfl)) (ty := (.object "java/lang/String")) (by decide) rfl rfl g_a (fun h3 W4 => ?_)
  have O_a := O_a.put2 hw W4
  have OL := OL.wr W4 g_a
  have KK := KK.wr W4 (Or.inl (List.mem_of_getElem? (i := 0) rfl))
  refine g_aloadN cx d8_14 rfl rfl ?_
  refine g_aloadN cx d8_15 rfl rfl ?_
  refine g_putF cx d8_16 (host := "") (Or.inl (hw _ (List.mem_of_getElem? (i := 45) rfl))) Via.refl O_a.2.2.2 O_a.1 (Or.inr ⟨(hw _ (List.mem_of_getElem? (i := 46) rfl)), rfl, rfl⟩) (hw _ (List.mem_of_getElem? (i := 35) rfl)) (ty := (.object "java/lang/String")) (by decide) rfl rfl g_a (fun h5 W6 => ?_)
  have O_a := O_a.put3 hw W6
  have OL := OL.wr W6 g_a
  have KK := KK.wr W6 (Or.inl (List.mem_of_getElem? (i := 0) rfl))
  refine g_retV cx d8_19 rfl (by decide) (by decide) ?_
  exact ⟨rfl, KK, O_a⟩
theorem d10_0 : Dc prog_35_method_5_code 0 (.iconst 0) 1 1 := ⟨by decide +kernel, rfl⟩
theorem d10_1 : Dc prog_35_method_5_code 1 (.istore_n 2) 1 2 := ⟨by decide +kernel, rfl⟩
theorem d10_2 : Dc prog_35_method_5_code 2 (.aload_n 1) 1 3 := ⟨by decide +kernel, rfl⟩
theorem d10_3 : Dc prog_35_method_5_code 3 (.instanceof 8) 3 6 := ⟨by decide +kernel, rfl⟩
theorem d10_6 : Bi prog_35_method_5_code 6 (Instr.ifCond .eq) 62 9 := ⟨56, by decide +kernel, by decide, by decide, rfl⟩
theorem d10_9 : Dc prog_35_method_5_code 9 (.aload_n 1) 1 10 := ⟨by decide +kernel, rfl⟩
theorem d10_10 : Dc prog_35_method_5_code 10 (.checkcast 8) 3 13 := ⟨by decide +kernel, rfl⟩
theorem d10_13 : Dc prog_35_method_5_code 13 (.astore_n 3) 1 14 := ⟨by decide +kernel, rfl⟩
theorem d10_14 : Dc prog_35_method_5_code 14 (.aload_n 0) 1 15 := ⟨by decide +kernel, rfl⟩
theorem d10_15 : Dc prog_35_method_5_code 15 (.getfield 7) 3 18 := ⟨by decide +kernel, rfl⟩
theorem d10_18 : Dc prog_35_method_5_code 18 (.aload_n 3) 1 19 := ⟨by decide +kernel, rfl⟩
theorem d10_19 : Dc prog_35_method_5_code 19 (.getfield 7) 3 22 := ⟨by decide +kernel, rfl⟩
theorem pd_6 : parseMethodDescriptor "(Ljava/lang/Object;)Z" = some ⟨[(.object "java/lang/Object")], some .boolean⟩ := by decide +kernel
theorem d10_22 : Dc prog_35_method_5_code 22 (.invokevirtual 19) 3 25 := ⟨by decide +kernel, rfl⟩
theorem d10_25 : Bi prog_35_method_5_code 25 (Instr.ifCond .eq) 60 28 := ⟨35, by decide +kernel, by decide, by decide, rfl⟩
theorem d10_60 : Dc prog_35_method_5_code 60 (.iconst 0) 1 61 := ⟨by decide +kernel, rfl⟩
theorem d10_61 : Dc prog_35_method_5_code 61 (.istore_n 2) 1 62 := ⟨by decide +kernel, rfl⟩
theorem d10_62 : Dc prog_35_method_5_code 62 (.iload_n 2) 1 63 := ⟨by decide +kernel, rfl⟩
theorem d10_63 : Dc prog_35_method_5_code 63 (.ireturn) 1 64 := ⟨by decide +kernel, rfl⟩
theorem d10_28 : Dc prog_35_method_5_code 28 (.aload_n 0) 1 29 := ⟨by decide +kernel, rfl⟩
theorem d10_29 : Dc prog_35_method_5_code 29 (.getfield 13) 3 32 := ⟨by decide +kernel, rfl⟩
theorem d10_32 : Dc prog_35_method_5_code 32 (.aload_n 3) 1 33 := ⟨by decide +kernel, rfl⟩
theorem d10_33 : Dc prog_35_method_5_code 33 (.getfield 13) 3 36 := ⟨by decide +kernel, rfl⟩
theorem d10_36 : Dc prog_35_method_5_code 36 (.invokevirtual 19) 3 39 := ⟨by decide +kernel, rfl⟩
theorem d10_39 : Bi prog_35_method_5_code 39 (Instr.ifCond .eq) 60 42 := ⟨21, by decide +kernel, by decide, by decide, rfl⟩
theorem d10_42 : Dc prog_35_method_5_code 42 (.aload_n 0) 1 43 := ⟨by decide +kernel, rfl⟩
theorem d10_43 : Dc prog_35_method_5_code 43 (.getfield 16) 3 46 := ⟨by decide +kernel, rfl⟩
theorem d10_46 : Dc prog_35_method_5_code 46 (.aload_n 3) 1 47 := ⟨by decide +kernel, rfl⟩
theorem d10_47 : Dc prog_35_method_5_code 47 (.getfield 16) 3 50 := ⟨by decide +kernel, rfl⟩
theorem d10_50 : Dc prog_35_method_5_code 50 (.invokevirtual 19) 3 53 := ⟨by decide +kernel, rfl⟩
theorem d10_53 : Bi prog_35_method_5_code 53 (Instr.ifCond .eq) 60 56 := ⟨7, by decide +kernel, by decide, by decide, rfl⟩
theorem d10_56 : Dc prog_35_method_5_code 56 (.iconst 1) 1 57 := ⟨by decide +kernel, rfl⟩
theorem d10_57 : Bi prog_35_method_5_code 57 (Instr.goto) 61 60 := ⟨4, by decide +kernel, by decide, by decide, rfl⟩
theorem pn_rmre : plainName "com/example/dyn_authz/dynauthz/process/Request" = true := by first | (simp [plainName, overriddenIn]; done) | decide +kernel
set_option maxRecDepth 65536 in
set_option maxHeartbeats 40000000 in
theorem rmre (l : Launch) (Z : State) (a0 : Array Value) (hw : ∀ d ∈ tables_1, d.before a0 Z = true) (cs : Int32) (SCS : Sta Z Z.heap "java/lang/String" "COMPACT_STRINGS" "Z" (.int cs)) (hcs : ¬ cs = (0 : Int32)) (ra rb : Addr) (u1 u2 : Addr) (em1 cc1 em2 cc2 : Int32) (hem1 : em1 = (0 : Int32) ∨ em1 = (1 : Int32)) (hem2 : em2 = (0 : Int32) ∨ em2 = (1 : Int32)) (lcc1 : 0 ≤ cc1.toInt) (rcc1 : cc1.toInt ≤ 255) (lcc2 : 0 ≤ cc2.toInt) (rcc2 : cc2.toInt ≤ 255) (mmu1 mmu2 : Nat) (n_u1 : u1 ≠ u2) (v1 v2 : Addr) (en1 cd1 en2 cd2 : Int32) (hen1 : en1 = (0 : Int32) ∨ en1 = (1 : Int32)) (hen2 : en2 = (0 : Int32) ∨ en2 = (1 : Int32)) (lcd1 : 0 ≤ cd1.toInt) (rcd1 : cd1.toInt ≤ 255) (lcd2 : 0 ≤ cd2.toInt) (rcd2 : cd2.toInt ≤ 255) (mmv1 mmv2 : Nat) (n_v1 : v1 ≠ v2) (w1 w2 : Addr) (eo1 ce1 eo2 ce2 : Int32) (heo1 : eo1 = (0 : Int32) ∨ eo1 = (1 : Int32)) (heo2 : eo2 = (0 : Int32) ∨ eo2 = (1 : Int32)) (lce1 : 0 ≤ ce1.toInt) (rce1 : ce1.toInt ≤ 255) (lce2 : 0 ≤ ce2.toInt) (rce2 : ce2.toInt ≤ 255) (mmw1 mmw2 : Nat) (n_w1 : w1 ≠ w2) (h0 : Heap) (O_ra : ObR Z h0 ra (.ref u1) (.ref v1) (.ref w1)) (O_rb : ObR Z h0 rb (.ref u2) (.ref v2) (.ref w2)) (S_u1 : own_St Z h0 mmu1 u1 em1 cc1) (S_u2 : own_St Z h0 mmu2 u2 em2 cc2) (S_v1 : own_St Z h0 mmv1 v1 en1 cd1) (S_v2 : own_St Z h0 mmv2 v2 en2 cd2) (S_w1 : own_St Z h0 mmw1 w1 eo1 ce1) (S_w2 : own_St Z h0 mmw2 w2 eo2 ce2) (OL : Old Z Z.heap.size h0) :
    Met l Z (⟨"com/example/dyn_authz/dynauthz/process/Request", "equals", "(Ljava/lang/Object;)Z"⟩ : MethodName) prog_35_method_5_code 4 (some .boolean) ({ frames := 2, cells := 0, slots := 0, locals := 28 } : Room) #[(.ref ra), (.ref rb)] h0 (fun v h' => v = some (.int (own_and3 (own_q em1 cc1 em2 cc2) (own_q en1 cd1 en2 cd2) (own_q eo1 ce1 eo2 ce2))) ∧ h0 = h') := by
  refine met_of (Ls := #[.val (.ref ra), .val (.ref rb), .unset, .unset]) (plainFor_of_name pn_rmre) (fun m => by first | (simp [entryFrame, mkF, argsToLocals, Value.category]; done) | rfl) (fun p e s m below meth c cx => ?_)
  have O_u1 := own_Sx S_u1
  have O_v1 := own_Sx S_v1
  have O_w1 := own_Sx S_w1
  refine g_iconst cx d10_0 (v := (0 : Int32)) rfl ?_
  refine g_istoreN cx d10_1 (Ls' := #[.val (.ref ra), .val (.ref rb), .val (.int (0 : Int32)), .unset]) rfl ?_
  refine g_aloadN cx d10_2 rfl rfl ?_
  refine g_instanceY cx d10_3 (hw _ (List.mem_of_getElem? (i := 55) rfl)) (Ins.self O_rb.1) ?_
  refine g_if_eq cx d10_6 (fun q => absurd q (fun q => by revert q; decide)) (fun hc6 => ?_)
  refine g_aloadN cx d10_9 rfl rfl ?_
  refine g_checkcast cx d10_10 (hw _ (List.mem_of_getElem? (i := 55) rfl)) (Ins.self O_rb.1) ?_
  refine g_astoreN cx d10_13 rfl (Ls' := #[.val (.ref ra), .val (.ref rb), .val (.int (0 : Int32)), .val (.ref rb)]) rfl ?_
  refine g_aloadN cx d10_14 rfl rfl ?_
  refine g_getF cx d10_15 (host := "") (Or.inl (hw _ (List.mem_of_getElem? (i := 41) rfl))) Via.refl O_ra.2.1 ?_
  refine g_aloadN cx d10_18 rfl rfl ?_
  refine g_getF cx d10_19 (host := "") (Or.inl (hw _ (List.mem_of_getElem? (i := 41) rfl))) Via.refl O_rb.2.1 ?_
  refine g_virtual cx (y := (⟨"java/lang/String", "equals", "(Ljava/lang/Object;)Z"⟩ : MethodName)) (z := (⟨"java/lang/String", "equals", "(Ljava/lang/Object;)Z"⟩ : MethodName)) (a := u1) d10_22 (hw _ (List.mem_of_getElem? (i := 57) rfl)) (hw _ (List.mem_of_getElem? (i := 58) rfl)) (hw _ (List.mem_of_getElem? (i := 6) rfl)) (hw _ (List.mem_of_getElem? (i := 61) rfl)) (hw _ (List.mem_of_getElem? (i := 60) rfl)) (hw _ (List.mem_of_getElem? (i := 59) rfl)) rfl (by decide) O_u1.1 (bytes := jdk_42_method_66_code) (maxL' := 3) (M := (rmse l Z a0 hw cs SCS hcs u1 u2 em1 cc1 em2 cc2 hem1 hem2 lcc1 rcc1 lcc2 rcc2 mmu1 mmu2 _ S_u1 S_u2 n_u1 OL)) rfl (lenOf pd_6 rfl) (by decide) (W := 0) (Nat.le_of_eq rfl) (by decide) (k' := 0) (n' := 0) rfl rfl (by decide) (by decide) (argsL := [(.ref u2)]) (rest := []) rfl (fun v2 h1 q3 => ?_)
  obtain ⟨rfl, rfl⟩ := q3
  refine G.cast (st' := [(.int (own_q em1 cc1 em2 cc2))]) ?_ rfl
  refine g_if_eq cx d10_25 (fun hc25 => ?_) (fun hc25 => ?_)
  · refine g_iconst cx d10_60 (v := (0 : Int32)) rfl ?_
    refine g_istoreN cx d10_61 (Ls' := #[.val (.ref ra), .val (.ref rb), .val (.int (0 : Int32)), .val (.ref rb)]) rfl ?_
    refine g_iloadN cx d10_62 rfl ?_
    refine g_retZ cx d10_63 rfl rfl (by decide) (by decide) ?_
    exact ⟨by simp [own_and3, hc25], rfl⟩
  · refine g_aloadN cx d10_28 rfl rfl ?_
    refine g_getF cx d10_29 (host := "") (Or.inl (hw _ (List.mem_of_getElem? (i := 43) rfl))) Via.refl O_ra.2.2.1 ?_
    refine g_aloadN cx d10_32 rfl rfl ?_
    refine g_getF cx d10_33 (host := "") (Or.inl (hw _ (List.mem_of_getElem? (i := 43) rfl))) Via.refl O_rb.2.2.1 ?_
    refine g_virtual cx (y := (⟨"java/lang/String", "equals", "(Ljava/lang/Object;)Z"⟩ : MethodName)) (z := (⟨"java/lang/String", "equals", "(Ljava/lang/Object;)Z"⟩ : MethodName)) (a := v1) d10_36 (hw _ (List.mem_of_getElem? (i := 57) rfl)) (hw _ (List.mem_of_getElem? (i := 58) rfl)) (hw _ (List.mem_of_getElem? (i := 6) rfl)) (hw _ (List.mem_of_getElem? (i := 61) rfl)) (hw _ (List.mem_of_getElem? (i := 60) rfl)) (hw _ (List.mem_of_getElem? (i := 59) rfl)) rfl (by decide) O_v1.1 (bytes := jdk_42_method_66_code) (maxL' := 3) (M := (rmse l Z a0 hw cs SCS hcs v1 v2 en1 cd1 en2 cd2 hen1 hen2 lcd1 rcd1 lcd2 rcd2 mmv1 mmv2 _ S_v1 S_v2 n_v1 OL)) rfl (lenOf pd_6 rfl) (by decide) (W := 0) (Nat.le_of_eq rfl) (by decide) (k' := 0) (n' := 0) rfl rfl (by decide) (by decide) (argsL := [(.ref v2)]) (rest := []) rfl (fun v5 h4 q6 => ?_)
    obtain ⟨rfl, rfl⟩ := q6
    refine G.cast (st' := [(.int (own_q en1 cd1 en2 cd2))]) ?_ rfl
    refine g_if_eq cx d10_39 (fun hc39 => ?_) (fun hc39 => ?_)
    · refine g_iconst cx d10_60 (v := (0 : Int32)) rfl ?_
      refine g_istoreN cx d10_61 (Ls' := #[.val (.ref ra), .val (.ref rb), .val (.int (0 : Int32)), .val (.ref rb)]) rfl ?_
      refine g_iloadN cx d10_62 rfl ?_
      refine g_retZ cx d10_63 rfl rfl (by decide) (by decide) ?_
      exact ⟨by simp [own_and3, hc25, hc39], rfl⟩
    · refine g_aloadN cx d10_42 rfl rfl ?_
      refine g_getF cx d10_43 (host := "") (Or.inl (hw _ (List.mem_of_getElem? (i := 45) rfl))) Via.refl O_ra.2.2.2 ?_
      refine g_aloadN cx d10_46 rfl rfl ?_
      refine g_getF cx d10_47 (host := "") (Or.inl (hw _ (List.mem_of_getElem? (i := 45) rfl))) Via.refl O_rb.2.2.2 ?_
      refine g_virtual cx (y := (⟨"java/lang/String", "equals", "(Ljava/lang/Object;)Z"⟩ : MethodName)) (z := (⟨"java/lang/String", "equals", "(Ljava/lang/Object;)Z"⟩ : MethodName)) (a := w1) d10_50 (hw _ (List.mem_of_getElem? (i := 57) rfl)) (hw _ (List.mem_of_getElem? (i := 58) rfl)) (hw _ (List.mem_of_getElem? (i := 6) rfl)) (hw _ (List.mem_of_getElem? (i := 61) rfl)) (hw _ (List.mem_of_getElem? (i := 60) rfl)) (hw _ (List.mem_of_getElem? (i := 59) rfl)) rfl (by decide) O_w1.1 (bytes := jdk_42_method_66_code) (maxL' := 3) (M := (rmse l Z a0 hw cs SCS hcs w1 w2 eo1 ce1 eo2 ce2 heo1 heo2 lce1 rce1 lce2 rce2 mmw1 mmw2 _ S_w1 S_w2 n_w1 OL)) rfl (lenOf pd_6 rfl) (by decide) (W := 0) (Nat.le_of_eq rfl) (by decide) (k' := 0) (n' := 0) rfl rfl (by decide) (by decide) (argsL := [(.ref w2)]) (rest := []) rfl (fun v8 h7 q9 => ?_)
      obtain ⟨rfl, rfl⟩ := q9
      refine G.cast (st' := [(.int (own_q eo1 ce1 eo2 ce2))]) ?_ rfl
      refine g_if_eq cx d10_53 (fun hc53 => ?_) (fun hc53 => ?_)
      · refine g_iconst cx d10_60 (v := (0 : Int32)) rfl ?_
        refine g_istoreN cx d10_61 (Ls' := #[.val (.ref ra), .val (.ref rb), .val (.int (0 : Int32)), .val (.ref rb)]) rfl ?_
        refine g_iloadN cx d10_62 rfl ?_
        refine g_retZ cx d10_63 rfl rfl (by decide) (by decide) ?_
        exact ⟨by simp [own_and3, hc25, hc39, hc53], rfl⟩
      · refine g_iconst cx d10_56 (v := (1 : Int32)) rfl ?_
        refine g_goto cx d10_57 ?_
        refine g_istoreN cx d10_61 (Ls' := #[.val (.ref ra), .val (.ref rb), .val (.int (1 : Int32)), .val (.ref rb)]) rfl ?_
        refine g_iloadN cx d10_62 rfl ?_
        refine g_retZ cx d10_63 rfl rfl (by decide) (by decide) ?_
        exact ⟨by simp [own_and3, hc25, hc39, hc53], rfl⟩
theorem pn_rmreS : plainName "com/example/dyn_authz/dynauthz/process/Request" = true := by first | (simp [plainName, overriddenIn]; done) | decide +kernel
set_option maxRecDepth 65536 in
set_option maxHeartbeats 40000000 in
theorem rmreS (l : Launch) (Z : State) (a0 : Array Value) (hw : ∀ d ∈ tables_1, d.before a0 Z = true) (ra : Addr) (u1 v1 w1 : Addr) (h0 : Heap) (O_ra : ObR Z h0 ra (.ref u1) (.ref v1) (.ref w1)) (X_u : Exa Z h0 u1 "java/lang/String" ∧ True) (X_v : Exa Z h0 v1 "java/lang/String" ∧ True) (X_w : Exa Z h0 w1 "java/lang/String" ∧ True) :
    Met l Z (⟨"com/example/dyn_authz/dynauthz/process/Request", "equals", "(Ljava/lang/Object;)Z"⟩ : MethodName) prog_35_method_5_code 4 (some .boolean) ({ frames := 1, cells := 0, slots := 0, locals := 14 } : Room) #[(.ref ra), (.ref ra)] h0 (fun v h' => v = some (.int (1 : Int32)) ∧ h0 = h') := by
  refine met_of (Ls := #[.val (.ref ra), .val (.ref ra), .unset, .unset]) (plainFor_of_name pn_rmreS) (fun m => by first | (simp [entryFrame, mkF, argsToLocals, Value.category]; done) | rfl) (fun p e s m below meth c cx => ?_)
  have O_u1 := X_u
  have O_v1 := X_v
  have O_w1 := X_w
  refine g_iconst cx d10_0 (v := (0 : Int32)) rfl ?_
  refine g_istoreN cx d10_1 (Ls' := #[.val (.ref ra), .val (.ref ra), .val (.int (0 : Int32)), .unset]) rfl ?_
  refine g_aloadN cx d10_2 rfl rfl ?_
  refine g_instanceY cx d10_3 (hw _ (List.mem_of_getElem? (i := 55) rfl)) (Ins.self O_ra.1) ?_
  refine g_if_eq cx d10_6 (fun q => absurd q (fun q => by revert q; decide)) (fun hc6 => ?_)
  refine g_aloadN cx d10_9 rfl rfl ?_
  refine g_checkcast cx d10_10 (hw _ (List.mem_of_getElem? (i := 55) rfl)) (Ins.self O_ra.1) ?_
  refine g_astoreN cx d10_13 rfl (Ls' := #[.val (.ref ra), .val (.ref ra), .val (.int (0 : Int32)), .val (.ref ra)]) rfl ?_
  refine g_aloadN cx d10_14 rfl rfl ?_
  refine g_getF cx d10_15 (host := "") (Or.inl (hw _ (List.mem_of_getElem? (i := 41) rfl))) Via.refl O_ra.2.1 ?_
  refine g_aloadN cx d10_18 rfl rfl ?_
  refine g_getF cx d10_19 (host := "") (Or.inl (hw _ (List.mem_of_getElem? (i := 41) rfl))) Via.refl O_ra.2.1 ?_
  refine g_virtual cx (y := (⟨"java/lang/String", "equals", "(Ljava/lang/Object;)Z"⟩ : MethodName)) (z := (⟨"java/lang/String", "equals", "(Ljava/lang/Object;)Z"⟩ : MethodName)) (a := u1) d10_22 (hw _ (List.mem_of_getElem? (i := 57) rfl)) (hw _ (List.mem_of_getElem? (i := 58) rfl)) (hw _ (List.mem_of_getElem? (i := 6) rfl)) (hw _ (List.mem_of_getElem? (i := 61) rfl)) (hw _ (List.mem_of_getElem? (i := 60) rfl)) (hw _ (List.mem_of_getElem? (i := 59) rfl)) rfl (by decide) O_u1.1 (bytes := jdk_42_method_66_code) (maxL' := 3) (M := (rmseS l Z a0 hw u1 _)) rfl (lenOf pd_6 rfl) (by decide) (W := 0) (Nat.le_of_eq rfl) (by decide) (k' := 0) (n' := 0) rfl rfl (by decide) (by decide) (argsL := [(.ref u1)]) (rest := []) rfl (fun v2 h1 q3 => ?_)
  obtain ⟨rfl, rfl⟩ := q3
  refine G.cast (st' := [(.int (1 : Int32))]) ?_ rfl
  refine g_if_eq cx d10_25 (fun q => absurd q (fun q => by revert q; decide)) (fun hc25 => ?_)
  refine g_aloadN cx d10_28 rfl rfl ?_
  refine g_getF cx d10_29 (host := "") (Or.inl (hw _ (List.mem_of_getElem? (i := 43) rfl))) Via.refl O_ra.2.2.1 ?_
  refine g_aloadN cx d10_32 rfl rfl ?_
  refine g_getF cx d10_33 (host := "") (Or.inl (hw _ (List.mem_of_getElem? (i := 43) rfl))) Via.refl O_ra.2.2.1 ?_
  refine g_virtual cx (y := (⟨"java/lang/String", "equals", "(Ljava/lang/Object;)Z"⟩ : MethodName)) (z := (⟨"java/lang/String", "equals", "(Ljava/lang/Object;)Z"⟩ : MethodName)) (a := v1) d10_36 (hw _ (List.mem_of_getElem? (i := 57) rfl)) (hw _ (List.mem_of_getElem? (i := 58) rfl)) (hw _ (List.mem_of_getElem? (i := 6) rfl)) (hw _ (List.mem_of_getElem? (i := 61) rfl)) (hw _ (List.mem_of_getElem? (i := 60) rfl)) (hw _ (List.mem_of_getElem? (i := 59) rfl)) rfl (by decide) O_v1.1 (bytes := jdk_42_method_66_code) (maxL' := 3) (M := (rmseS l Z a0 hw v1 _)) rfl (lenOf pd_6 rfl) (by decide) (W := 0) (Nat.le_of_eq rfl) (by decide) (k' := 0) (n' := 0) rfl rfl (by decide) (by decide) (argsL := [(.ref v1)]) (rest := []) rfl (fun v5 h4 q6 => ?_)
  obtain ⟨rfl, rfl⟩ := q6
  refine G.cast (st' := [(.int (1 : Int32))]) ?_ rfl
  refine g_if_eq cx d10_39 (fun q => absurd q (fun q => by revert q; decide)) (fun hc39 => ?_)
  refine g_aloadN cx d10_42 rfl rfl ?_
  refine g_getF cx d10_43 (host := "") (Or.inl (hw _ (List.mem_of_getElem? (i := 45) rfl))) Via.refl O_ra.2.2.2 ?_
  refine g_aloadN cx d10_46 rfl rfl ?_
  refine g_getF cx d10_47 (host := "") (Or.inl (hw _ (List.mem_of_getElem? (i := 45) rfl))) Via.refl O_ra.2.2.2 ?_
  refine g_virtual cx (y := (⟨"java/lang/String", "equals", "(Ljava/lang/Object;)Z"⟩ : MethodName)) (z := (⟨"java/lang/String", "equals", "(Ljava/lang/Object;)Z"⟩ : MethodName)) (a := w1) d10_50 (hw _ (List.mem_of_getElem? (i := 57) rfl)) (hw _ (List.mem_of_getElem? (i := 58) rfl)) (hw _ (List.mem_of_getElem? (i := 6) rfl)) (hw _ (List.mem_of_getElem? (i := 61) rfl)) (hw _ (List.mem_of_getElem? (i := 60) rfl)) (hw _ (List.mem_of_getElem? (i := 59) rfl)) rfl (by decide) O_w1.1 (bytes := jdk_42_method_66_code) (maxL' := 3) (M := (rmseS l Z a0 hw w1 _)) rfl (lenOf pd_6 rfl) (by decide) (W := 0) (Nat.le_of_eq rfl) (by decide) (k' := 0) (n' := 0) rfl rfl (by decide) (by decide) (argsL := [(.ref w1)]) (rest := []) rfl (fun v8 h7 q9 => ?_)
  obtain ⟨rfl, rfl⟩ := q9
  refine G.cast (st' := [(.int (1 : Int32))]) ?_ rfl
  refine g_if_eq cx d10_53 (fun q => absurd q (fun q => by revert q; decide)) (fun hc53 => ?_)
  refine g_iconst cx d10_56 (v := (1 : Int32)) rfl ?_
  refine g_goto cx d10_57 ?_
  refine g_istoreN cx d10_61 (Ls' := #[.val (.ref ra), .val (.ref ra), .val (.int (1 : Int32)), .val (.ref ra)]) rfl ?_
  refine g_iloadN cx d10_62 rfl ?_
  refine g_retZ cx d10_63 rfl rfl (by decide) (by decide) ?_
  exact ⟨rfl, rfl⟩
theorem pn_rmreN : plainName "com/example/dyn_authz/dynauthz/process/Request" = true := by first | (simp [plainName, overriddenIn]; done) | decide +kernel
set_option maxRecDepth 65536 in
set_option maxHeartbeats 40000000 in
theorem rmreN (l : Launch) (Z : State) (a0 : Array Value) (hw : ∀ d ∈ tables_1, d.before a0 Z = true) (ra : Addr) (h0 : Heap) :
    Met l Z (⟨"com/example/dyn_authz/dynauthz/process/Request", "equals", "(Ljava/lang/Object;)Z"⟩ : MethodName) prog_35_method_5_code 4 (some .boolean) ({ frames := 0, cells := 0, slots := 0, locals := 0 } : Room) #[(.ref ra), .null] h0 (fun v h' => v = some (.int (0 : Int32)) ∧ h0 = h') := by
  refine met_of (Ls := #[.val (.ref ra), .val .null, .unset, .unset]) (plainFor_of_name pn_rmreN) (fun m => by first | (simp [entryFrame, mkF, argsToLocals, Value.category]; done) | rfl) (fun p e s m below meth c cx => ?_)
  refine g_iconst cx d10_0 (v := (0 : Int32)) rfl ?_
  refine g_istoreN cx d10_1 (Ls' := #[.val (.ref ra), .val .null, .val (.int (0 : Int32)), .unset]) rfl ?_
  refine g_aloadN cx d10_2 rfl rfl ?_
  refine g_instNull cx d10_3 ?_
  refine g_if_eq cx d10_6 (fun hc6 => ?_) (fun q => absurd q (fun q => by revert q; decide))
  refine g_iloadN cx d10_62 rfl ?_
  refine g_retZ cx d10_63 rfl rfl (by decide) (by decide) ?_
  exact ⟨rfl, rfl⟩
theorem pn_rmreX : plainName "com/example/dyn_authz/dynauthz/process/Request" = true := by first | (simp [plainName, overriddenIn]; done) | decide +kernel
set_option maxRecDepth 65536 in
set_option maxHeartbeats 40000000 in
theorem rmreX (l : Launch) (Z : State) (a0 : Array Value) (hw : ∀ d ∈ tables_1, d.before a0 Z = true) (ra x : Addr) (h0 : Heap) (X_x : Exa Z h0 x "java/lang/String" ∧ True) :
    Met l Z (⟨"com/example/dyn_authz/dynauthz/process/Request", "equals", "(Ljava/lang/Object;)Z"⟩ : MethodName) prog_35_method_5_code 4 (some .boolean) ({ frames := 0, cells := 0, slots := 0, locals := 0 } : Room) #[(.ref ra), (.ref x)] h0 (fun v h' => v = some (.int (0 : Int32)) ∧ h0 = h') := by
  refine met_of (Ls := #[.val (.ref ra), .val (.ref x), .unset, .unset]) (plainFor_of_name pn_rmreX) (fun m => by first | (simp [entryFrame, mkF, argsToLocals, Value.category]; done) | rfl) (fun p e s m below meth c cx => ?_)
  refine g_iconst cx d10_0 (v := (0 : Int32)) rfl ?_
  refine g_istoreN cx d10_1 (Ls' := #[.val (.ref ra), .val (.ref x), .val (.int (0 : Int32)), .unset]) rfl ?_
  refine g_aloadN cx d10_2 rfl rfl ?_
  refine g_instNo cx d10_3 (hw _ (List.mem_of_getElem? (i := 55) rfl)) X_x.1 (own_no (hw _ (List.mem_of_getElem? (i := 70) rfl)) (hw _ (List.mem_of_getElem? (i := 71) rfl)) (hw _ (List.mem_of_getElem? (i := 35) rfl)) (by decide) (by decide)) ?_
  refine g_if_eq cx d10_6 (fun hc6 => ?_) (fun q => absurd q (fun q => by revert q; decide))
  refine g_iloadN cx d10_62 rfl ?_
  refine g_retZ cx d10_63 rfl rfl (by decide) (by decide) ?_
  exact ⟨rfl, rfl⟩
theorem own_nz01 (y : Int32) : own_nz y = (0 : Int32) ∨ own_nz y = (1 : Int32) := by
  unfold own_nz; split
  · exact Or.inl rfl
  · exact Or.inr rfl
theorem d0_262 : Dc code 262 (.iload 6) 2 264 := ⟨by decide +kernel, rfl⟩
theorem d0_264 : Dc code 264 (.iload_n 3) 1 265 := ⟨by decide +kernel, rfl⟩
theorem pd_7 : parseMethodDescriptor "(ZC)Ljava/lang/String;" = some ⟨[.boolean, .char], some (.object "java/lang/String")⟩ := by decide +kernel
theorem d0_265 : Dc code 265 (.invokestatic 12) 3 268 := ⟨by decide +kernel, rfl⟩
theorem d0_268 : Dc code 268 (.astore 19) 2 270 := ⟨by decide +kernel, rfl⟩
theorem d0_270 : Dc code 270 (.iload 7) 2 272 := ⟨by decide +kernel, rfl⟩
theorem d0_272 : Dc code 272 (.iload 4) 2 274 := ⟨by decide +kernel, rfl⟩
theorem d0_274 : Dc code 274 (.invokestatic 12) 3 277 := ⟨by decide +kernel, rfl⟩
theorem d0_277 : Dc code 277 (.astore 20) 2 279 := ⟨by decide +kernel, rfl⟩
theorem d0_279 : Dc code 279 (.iload 8) 2 281 := ⟨by decide +kernel, rfl⟩
theorem d0_281 : Dc code 281 (.iload 5) 2 283 := ⟨by decide +kernel, rfl⟩
theorem d0_283 : Dc code 283 (.invokestatic 12) 3 286 := ⟨by decide +kernel, rfl⟩
theorem d0_286 : Dc code 286 (.astore 21) 2 288 := ⟨by decide +kernel, rfl⟩
theorem d0_288 : Dc code 288 (.iload 15) 2 290 := ⟨by decide +kernel, rfl⟩
theorem d0_290 : Dc code 290 (.iload 12) 2 292 := ⟨by decide +kernel, rfl⟩
theorem d0_292 : Dc code 292 (.invokestatic 12) 3 295 := ⟨by decide +kernel, rfl⟩
theorem d0_295 : Dc code 295 (.astore 22) 2 297 := ⟨by decide +kernel, rfl⟩
theorem d0_297 : Dc code 297 (.iload 16) 2 299 := ⟨by decide +kernel, rfl⟩
theorem d0_299 : Dc code 299 (.iload 13) 2 301 := ⟨by decide +kernel, rfl⟩
theorem d0_301 : Dc code 301 (.invokestatic 12) 3 304 := ⟨by decide +kernel, rfl⟩
theorem d0_304 : Dc code 304 (.astore 23) 2 306 := ⟨by decide +kernel, rfl⟩
theorem d0_306 : Dc code 306 (.iload 17) 2 308 := ⟨by decide +kernel, rfl⟩
theorem d0_308 : Dc code 308 (.iload 14) 2 310 := ⟨by decide +kernel, rfl⟩
theorem d0_310 : Dc code 310 (.invokestatic 12) 3 313 := ⟨by decide +kernel, rfl⟩
theorem d0_313 : Dc code 313 (.astore 24) 2 315 := ⟨by decide +kernel, rfl⟩
theorem d0_315 : Dc code 315 (.new 18) 3 318 := ⟨by decide +kernel, rfl⟩
theorem d0_318 : Dc code 318 (.dup) 1 319 := ⟨by decide +kernel, rfl⟩
theorem d0_319 : Dc code 319 (.aload 19) 2 321 := ⟨by decide +kernel, rfl⟩
theorem d0_321 : Dc code 321 (.aload 20) 2 323 := ⟨by decide +kernel, rfl⟩
theorem d0_323 : Dc code 323 (.aload 21) 2 325 := ⟨by decide +kernel, rfl⟩
theorem pd_8 : parseMethodDescriptor "(Ljava/lang/String;Ljava/lang/String;Ljava/lang/String;)V" = some ⟨[(.object "java/lang/String"), (.object "java/lang/String"), (.object "java/lang/String")], none⟩ := by decide +kernel
theorem d0_325 : Dc code 325 (.invokespecial 20) 3 328 := ⟨by decide +kernel, rfl⟩
theorem d0_328 : Dc code 328 (.astore 25) 2 330 := ⟨by decide +kernel, rfl⟩
theorem d0_330 : Dc code 330 (.new 18) 3 333 := ⟨by decide +kernel, rfl⟩
theorem d0_333 : Dc code 333 (.dup) 1 334 := ⟨by decide +kernel, rfl⟩
theorem d0_334 : Dc code 334 (.aload 22) 2 336 := ⟨by decide +kernel, rfl⟩
theorem d0_336 : Dc code 336 (.aload 23) 2 338 := ⟨by decide +kernel, rfl⟩
theorem d0_338 : Dc code 338 (.aload 24) 2 340 := ⟨by decide +kernel, rfl⟩
theorem d0_340 : Dc code 340 (.invokespecial 20) 3 343 := ⟨by decide +kernel, rfl⟩
theorem d0_343 : Dc code 343 (.astore 26) 2 345 := ⟨by decide +kernel, rfl⟩
theorem d0_345 : Dc code 345 (.iload 18) 2 347 := ⟨by decide +kernel, rfl⟩
theorem d0_347 : Dc code 347 (.iconst 2) 1 348 := ⟨by decide +kernel, rfl⟩
theorem d0_348 : Bi code 348 (Instr.if_icmp .ne) 366 351 := ⟨18, by decide +kernel, by decide, by decide, rfl⟩
theorem d0_366 : Dc code 366 (.iload 18) 2 368 := ⟨by decide +kernel, rfl⟩
theorem d0_368 : Dc code 368 (.iconst 3) 1 369 := ⟨by decide +kernel, rfl⟩
theorem d0_369 : Bi code 369 (Instr.if_icmp .ne) 388 372 := ⟨19, by decide +kernel, by decide, by decide, rfl⟩
theorem d0_388 : Dc code 388 (.iload 6) 2 390 := ⟨by decide +kernel, rfl⟩
theorem d0_390 : Dc code 390 (.iload_n 3) 1 391 := ⟨by decide +kernel, rfl⟩
theorem d0_391 : Dc code 391 (.iload 15) 2 393 := ⟨by decide +kernel, rfl⟩
theorem d0_393 : Dc code 393 (.iload 12) 2 395 := ⟨by decide +kernel, rfl⟩
theorem pd_9 : parseMethodDescriptor "(ZCZC)Z" = some ⟨[.boolean, .char, .boolean, .char], some .boolean⟩ := by decide +kernel
theorem d0_395 : Dc code 395 (.invokestatic 27) 3 398 := ⟨by decide +kernel, rfl⟩
theorem d0_398 : Bi code 398 (Instr.ifCond .eq) 433 401 := ⟨35, by decide +kernel, by decide, by decide, rfl⟩
theorem d0_433 : Dc code 433 (.iconst 0) 1 434 := ⟨by decide +kernel, rfl⟩
theorem d0_434 : Dc code 434 (.istore 27) 2 436 := ⟨by decide +kernel, rfl⟩
theorem d0_436 : Dc code 436 (.aload 25) 2 438 := ⟨by decide +kernel, rfl⟩
theorem d0_438 : Dc code 438 (.aload 26) 2 440 := ⟨by decide +kernel, rfl⟩
theorem d0_440 : Dc code 440 (.invokevirtual 23) 3 443 := ⟨by decide +kernel, rfl⟩
theorem d0_443 : Dc code 443 (.iload 27) 2 445 := ⟨by decide +kernel, rfl⟩
theorem d0_445 : Bi code 445 (Instr.if_icmp .ne) 474 448 := ⟨29, by decide +kernel, by decide, by decide, rfl⟩
theorem d0_448 : Dc code 448 (.aload 26) 2 450 := ⟨by decide +kernel, rfl⟩
theorem d0_450 : Dc code 450 (.aload 25) 2 452 := ⟨by decide +kernel, rfl⟩
theorem d0_452 : Dc code 452 (.invokevirtual 23) 3 455 := ⟨by decide +kernel, rfl⟩
theorem d0_455 : Dc code 455 (.iload 27) 2 457 := ⟨by decide +kernel, rfl⟩
theorem d0_457 : Bi code 457 (Instr.if_icmp .ne) 474 460 := ⟨17, by decide +kernel, by decide, by decide, rfl⟩
theorem d0_460 : Dc code 460 (.aload 25) 2 462 := ⟨by decide +kernel, rfl⟩
theorem d0_462 : Dc code 462 (.aload 25) 2 464 := ⟨by decide +kernel, rfl⟩
theorem d0_464 : Dc code 464 (.invokevirtual 23) 3 467 := ⟨by decide +kernel, rfl⟩
theorem d0_467 : Bi code 467 (Instr.ifCond .eq) 474 470 := ⟨7, by decide +kernel, by decide, by decide, rfl⟩
theorem d0_470 : Dc code 470 (.iconst 1) 1 471 := ⟨by decide +kernel, rfl⟩
theorem d0_471 : Bi code 471 (Instr.goto) 475 474 := ⟨4, by decide +kernel, by decide, by decide, rfl⟩
theorem d0_475 : Dc code 475 (.ireturn) 1 476 := ⟨by decide +kernel, rfl⟩
theorem d0_401 : Dc code 401 (.iload 7) 2 403 := ⟨by decide +kernel, rfl⟩
theorem d0_403 : Dc code 403 (.iload 4) 2 405 := ⟨by decide +kernel, rfl⟩
theorem d0_405 : Dc code 405 (.iload 16) 2 407 := ⟨by decide +kernel, rfl⟩
theorem d0_407 : Dc code 407 (.iload 13) 2 409 := ⟨by decide +kernel, rfl⟩
theorem d0_409 : Dc code 409 (.invokestatic 27) 3 412 := ⟨by decide +kernel, rfl⟩
theorem d0_412 : Bi code 412 (Instr.ifCond .eq) 433 415 := ⟨21, by decide +kernel, by decide, by decide, rfl⟩
theorem d0_415 : Dc code 415 (.iload 8) 2 417 := ⟨by decide +kernel, rfl⟩
theorem d0_417 : Dc code 417 (.iload 5) 2 419 := ⟨by decide +kernel, rfl⟩
theorem d0_419 : Dc code 419 (.iload 17) 2 421 := ⟨by decide +kernel, rfl⟩
theorem d0_421 : Dc code 421 (.iload 14) 2 423 := ⟨by decide +kernel, rfl⟩
theorem d0_423 : Dc code 423 (.invokestatic 27) 3 426 := ⟨by decide +kernel, rfl⟩
theorem d0_426 : Bi code 426 (Instr.ifCond .eq) 433 429 := ⟨7, by decide +kernel, by decide, by decide, rfl⟩
theorem d0_429 : Dc code 429 (.iconst 1) 1 430 := ⟨by decide +kernel, rfl⟩
theorem d0_430 : Bi code 430 (Instr.goto) 434 433 := ⟨4, by decide +kernel, by decide, by decide, rfl⟩
theorem d0_372 : Dc code 372 (.aload 25) 2 374 := ⟨by decide +kernel, rfl⟩
theorem d0_374 : Dc code 374 (.aload 19) 2 376 := ⟨by decide +kernel, rfl⟩
theorem d0_376 : Dc code 376 (.invokevirtual 23) 3 379 := ⟨by decide +kernel, rfl⟩
theorem d0_379 : Bi code 379 (Instr.ifCond .ne) 386 382 := ⟨7, by decide +kernel, by decide, by decide, rfl⟩
theorem d0_382 : Dc code 382 (.iconst 1) 1 383 := ⟨by decide +kernel, rfl⟩
theorem d0_383 : Bi code 383 (Instr.goto) 387 386 := ⟨4, by decide +kernel, by decide, by decide, rfl⟩
theorem d0_387 : Dc code 387 (.ireturn) 1 388 := ⟨by decide +kernel, rfl⟩
theorem d0_351 : Dc code 351 (.aload 25) 2 353 := ⟨by decide +kernel, rfl⟩
theorem d0_353 : Dc code 353 (.aconst_null) 1 354 := ⟨by decide +kernel, rfl⟩
theorem d0_354 : Dc code 354 (.invokevirtual 23) 3 357 := ⟨by decide +kernel, rfl⟩
theorem d0_357 : Bi code 357 (Instr.ifCond .ne) 364 360 := ⟨7, by decide +kernel, by decide, by decide, rfl⟩
theorem d0_360 : Dc code 360 (.iconst 1) 1 361 := ⟨by decide +kernel, rfl⟩
theorem d0_361 : Bi code 361 (Instr.goto) 365 364 := ⟨4, by decide +kernel, by decide, by decide, rfl⟩
theorem d0_365 : Dc code 365 (.ireturn) 1 366 := ⟨by decide +kernel, rfl⟩
theorem d0_0 : Dc code 0 (.iload_n 0) 1 1 := ⟨by decide +kernel, rfl⟩
theorem d0_1 : Dc code 1 (.sipush 255) 3 4 := ⟨by decide +kernel, rfl⟩
theorem d0_4 : Dc code 4 (.iand) 1 5 := ⟨by decide +kernel, rfl⟩
theorem d0_5 : Dc code 5 (.i2c) 1 6 := ⟨by decide +kernel, rfl⟩
theorem d0_6 : Dc code 6 (.istore_n 3) 1 7 := ⟨by decide +kernel, rfl⟩
theorem d0_7 : Dc code 7 (.iload_n 0) 1 8 := ⟨by decide +kernel, rfl⟩
theorem d0_8 : Dc code 8 (.bipush 8) 2 10 := ⟨by decide +kernel, rfl⟩
theorem d0_10 : Dc code 10 (.iushr) 1 11 := ⟨by decide +kernel, rfl⟩
theorem d0_11 : Dc code 11 (.sipush 255) 3 14 := ⟨by decide +kernel, rfl⟩
theorem d0_14 : Dc code 14 (.iand) 1 15 := ⟨by decide +kernel, rfl⟩
theorem d0_15 : Dc code 15 (.i2c) 1 16 := ⟨by decide +kernel, rfl⟩
theorem d0_16 : Dc code 16 (.istore 4) 2 18 := ⟨by decide +kernel, rfl⟩
theorem d0_18 : Dc code 18 (.iload_n 0) 1 19 := ⟨by decide +kernel, rfl⟩
theorem d0_19 : Dc code 19 (.bipush 16) 2 21 := ⟨by decide +kernel, rfl⟩
theorem d0_21 : Dc code 21 (.iushr) 1 22 := ⟨by decide +kernel, rfl⟩
theorem d0_22 : Dc code 22 (.sipush 255) 3 25 := ⟨by decide +kernel, rfl⟩
theorem d0_25 : Dc code 25 (.iand) 1 26 := ⟨by decide +kernel, rfl⟩
theorem d0_26 : Dc code 26 (.i2c) 1 27 := ⟨by decide +kernel, rfl⟩
theorem d0_27 : Dc code 27 (.istore 5) 2 29 := ⟨by decide +kernel, rfl⟩
theorem d0_29 : Dc code 29 (.iload_n 2) 1 30 := ⟨by decide +kernel, rfl⟩
theorem d0_30 : Dc code 30 (.iconst 3) 1 31 := ⟨by decide +kernel, rfl⟩
theorem d0_31 : Dc code 31 (.iushr) 1 32 := ⟨by decide +kernel, rfl⟩
theorem d0_32 : Dc code 32 (.iconst 1) 1 33 := ⟨by decide +kernel, rfl⟩
theorem d0_33 : Dc code 33 (.iand) 1 34 := ⟨by decide +kernel, rfl⟩
theorem d0_34 : Bi code 34 (Instr.ifCond .eq) 41 37 := ⟨7, by decide +kernel, by decide, by decide, rfl⟩
theorem d0_37 : Dc code 37 (.iconst 1) 1 38 := ⟨by decide +kernel, rfl⟩
theorem d0_38 : Bi code 38 (Instr.goto) 42 41 := ⟨4, by decide +kernel, by decide, by decide, rfl⟩
theorem d0_41 : Dc code 41 (.iconst 0) 1 42 := ⟨by decide +kernel, rfl⟩
theorem d0_42 : Dc code 42 (.istore 6) 2 44 := ⟨by decide +kernel, rfl⟩
theorem d0_44 : Dc code 44 (.iload_n 2) 1 45 := ⟨by decide +kernel, rfl⟩
theorem d0_45 : Dc code 45 (.iconst 4) 1 46 := ⟨by decide +kernel, rfl⟩
theorem d0_46 : Dc code 46 (.iushr) 1 47 := ⟨by decide +kernel, rfl⟩
theorem d0_47 : Dc code 47 (.iconst 1) 1 48 := ⟨by decide +kernel, rfl⟩
theorem d0_48 : Dc code 48 (.iand) 1 49 := ⟨by decide +kernel, rfl⟩
theorem d0_49 : Bi code 49 (Instr.ifCond .eq) 56 52 := ⟨7, by decide +kernel, by decide, by decide, rfl⟩
theorem d0_52 : Dc code 52 (.iconst 1) 1 53 := ⟨by decide +kernel, rfl⟩
theorem d0_53 : Bi code 53 (Instr.goto) 57 56 := ⟨4, by decide +kernel, by decide, by decide, rfl⟩
theorem d0_56 : Dc code 56 (.iconst 0) 1 57 := ⟨by decide +kernel, rfl⟩
theorem d0_57 : Dc code 57 (.istore 7) 2 59 := ⟨by decide +kernel, rfl⟩
theorem d0_59 : Dc code 59 (.iload_n 2) 1 60 := ⟨by decide +kernel, rfl⟩
theorem d0_60 : Dc code 60 (.iconst 5) 1 61 := ⟨by decide +kernel, rfl⟩
theorem d0_61 : Dc code 61 (.iushr) 1 62 := ⟨by decide +kernel, rfl⟩
theorem d0_62 : Dc code 62 (.iconst 1) 1 63 := ⟨by decide +kernel, rfl⟩
theorem d0_63 : Dc code 63 (.iand) 1 64 := ⟨by decide +kernel, rfl⟩
theorem d0_64 : Bi code 64 (Instr.ifCond .eq) 71 67 := ⟨7, by decide +kernel, by decide, by decide, rfl⟩
theorem d0_67 : Dc code 67 (.iconst 1) 1 68 := ⟨by decide +kernel, rfl⟩
theorem d0_68 : Bi code 68 (Instr.goto) 72 71 := ⟨4, by decide +kernel, by decide, by decide, rfl⟩
theorem d0_71 : Dc code 71 (.iconst 0) 1 72 := ⟨by decide +kernel, rfl⟩
theorem d0_72 : Dc code 72 (.istore 8) 2 74 := ⟨by decide +kernel, rfl⟩
theorem d0_74 : Dc code 74 (.iload_n 2) 1 75 := ⟨by decide +kernel, rfl⟩
theorem d0_75 : Dc code 75 (.iconst 1) 1 76 := ⟨by decide +kernel, rfl⟩
theorem d0_76 : Dc code 76 (.iand) 1 77 := ⟨by decide +kernel, rfl⟩
theorem d0_77 : Bi code 77 (Instr.ifCond .eq) 84 80 := ⟨7, by decide +kernel, by decide, by decide, rfl⟩
theorem d0_80 : Dc code 80 (.iconst 1) 1 81 := ⟨by decide +kernel, rfl⟩
theorem d0_81 : Bi code 81 (Instr.goto) 85 84 := ⟨4, by decide +kernel, by decide, by decide, rfl⟩
theorem d0_84 : Dc code 84 (.iconst 0) 1 85 := ⟨by decide +kernel, rfl⟩
theorem d0_85 : Dc code 85 (.istore 9) 2 87 := ⟨by decide +kernel, rfl⟩
theorem d0_87 : Dc code 87 (.iload_n 2) 1 88 := ⟨by decide +kernel, rfl⟩
theorem d0_88 : Dc code 88 (.iconst 1) 1 89 := ⟨by decide +kernel, rfl⟩
theorem d0_89 : Dc code 89 (.iushr) 1 90 := ⟨by decide +kernel, rfl⟩
theorem d0_90 : Dc code 90 (.iconst 1) 1 91 := ⟨by decide +kernel, rfl⟩
theorem d0_91 : Dc code 91 (.iand) 1 92 := ⟨by decide +kernel, rfl⟩
theorem d0_92 : Bi code 92 (Instr.ifCond .eq) 99 95 := ⟨7, by decide +kernel, by decide, by decide, rfl⟩
theorem d0_95 : Dc code 95 (.iconst 1) 1 96 := ⟨by decide +kernel, rfl⟩
theorem d0_96 : Bi code 96 (Instr.goto) 100 99 := ⟨4, by decide +kernel, by decide, by decide, rfl⟩
theorem d0_99 : Dc code 99 (.iconst 0) 1 100 := ⟨by decide +kernel, rfl⟩
theorem d0_100 : Dc code 100 (.istore 10) 2 102 := ⟨by decide +kernel, rfl⟩
theorem d0_102 : Dc code 102 (.iload_n 2) 1 103 := ⟨by decide +kernel, rfl⟩
theorem d0_103 : Dc code 103 (.iconst 2) 1 104 := ⟨by decide +kernel, rfl⟩
theorem d0_104 : Dc code 104 (.iushr) 1 105 := ⟨by decide +kernel, rfl⟩
theorem d0_105 : Dc code 105 (.iconst 1) 1 106 := ⟨by decide +kernel, rfl⟩
theorem d0_106 : Dc code 106 (.iand) 1 107 := ⟨by decide +kernel, rfl⟩
theorem d0_107 : Bi code 107 (Instr.ifCond .eq) 114 110 := ⟨7, by decide +kernel, by decide, by decide, rfl⟩
theorem d0_110 : Dc code 110 (.iconst 1) 1 111 := ⟨by decide +kernel, rfl⟩
theorem d0_111 : Bi code 111 (Instr.goto) 115 114 := ⟨4, by decide +kernel, by decide, by decide, rfl⟩
theorem d0_114 : Dc code 114 (.iconst 0) 1 115 := ⟨by decide +kernel, rfl⟩
theorem d0_115 : Dc code 115 (.istore 11) 2 117 := ⟨by decide +kernel, rfl⟩
theorem d0_117 : Dc code 117 (.iload 9) 2 119 := ⟨by decide +kernel, rfl⟩
theorem d0_119 : Bi code 119 (Instr.ifCond .eq) 126 122 := ⟨7, by decide +kernel, by decide, by decide, rfl⟩
theorem d0_126 : Dc code 126 (.iload_n 1) 1 127 := ⟨by decide +kernel, rfl⟩
theorem d0_127 : Dc code 127 (.sipush 255) 3 130 := ⟨by decide +kernel, rfl⟩
theorem d0_130 : Dc code 130 (.iand) 1 131 := ⟨by decide +kernel, rfl⟩
theorem d0_131 : Dc code 131 (.i2c) 1 132 := ⟨by decide +kernel, rfl⟩
theorem d0_132 : Dc code 132 (.istore 12) 2 134 := ⟨by decide +kernel, rfl⟩
theorem d0_134 : Dc code 134 (.iload 10) 2 136 := ⟨by decide +kernel, rfl⟩
theorem d0_136 : Bi code 136 (Instr.ifCond .eq) 144 139 := ⟨8, by decide +kernel, by decide, by decide, rfl⟩
theorem d0_144 : Dc code 144 (.iload_n 1) 1 145 := ⟨by decide +kernel, rfl⟩
theorem d0_145 : Dc code 145 (.bipush 8) 2 147 := ⟨by decide +kernel, rfl⟩
theorem d0_147 : Dc code 147 (.iushr) 1 148 := ⟨by decide +kernel, rfl⟩
theorem d0_148 : Dc code 148 (.sipush 255) 3 151 := ⟨by decide +kernel, rfl⟩
theorem d0_151 : Dc code 151 (.iand) 1 152 := ⟨by decide +kernel, rfl⟩
theorem d0_152 : Dc code 152 (.i2c) 1 153 := ⟨by decide +kernel, rfl⟩
theorem d0_153 : Dc code 153 (.istore 13) 2 155 := ⟨by decide +kernel, rfl⟩
theorem d0_155 : Dc code 155 (.iload 11) 2 157 := ⟨by decide +kernel, rfl⟩
theorem d0_157 : Bi code 157 (Instr.ifCond .eq) 165 160 := ⟨8, by decide +kernel, by decide, by decide, rfl⟩
theorem d0_165 : Dc code 165 (.iload_n 1) 1 166 := ⟨by decide +kernel, rfl⟩
theorem d0_166 : Dc code 166 (.bipush 16) 2 168 := ⟨by decide +kernel, rfl⟩
theorem d0_168 : Dc code 168 (.iushr) 1 169 := ⟨by decide +kernel, rfl⟩
theorem d0_169 : Dc code 169 (.sipush 255) 3 172 := ⟨by decide +kernel, rfl⟩
theorem d0_172 : Dc code 172 (.iand) 1 173 := ⟨by decide +kernel, rfl⟩
theorem d0_173 : Dc code 173 (.i2c) 1 174 := ⟨by decide +kernel, rfl⟩
theorem d0_174 : Dc code 174 (.istore 14) 2 176 := ⟨by decide +kernel, rfl⟩
theorem d0_176 : Dc code 176 (.iload 9) 2 178 := ⟨by decide +kernel, rfl⟩
theorem d0_178 : Bi code 178 (Instr.ifCond .eq) 186 181 := ⟨8, by decide +kernel, by decide, by decide, rfl⟩
theorem d0_186 : Dc code 186 (.iload_n 2) 1 187 := ⟨by decide +kernel, rfl⟩
theorem d0_187 : Dc code 187 (.bipush 6) 2 189 := ⟨by decide +kernel, rfl⟩
theorem d0_189 : Dc code 189 (.iushr) 1 190 := ⟨by decide +kernel, rfl⟩
theorem d0_190 : Dc code 190 (.iconst 1) 1 191 := ⟨by decide +kernel, rfl⟩
theorem d0_191 : Dc code 191 (.iand) 1 192 := ⟨by decide +kernel, rfl⟩
theorem d0_192 : Bi code 192 (Instr.ifCond .eq) 199 195 := ⟨7, by decide +kernel, by decide, by decide, rfl⟩
theorem d0_195 : Dc code 195 (.iconst 1) 1 196 := ⟨by decide +kernel, rfl⟩
theorem d0_196 : Bi code 196 (Instr.goto) 200 199 := ⟨4, by decide +kernel, by decide, by decide, rfl⟩
theorem d0_199 : Dc code 199 (.iconst 0) 1 200 := ⟨by decide +kernel, rfl⟩
theorem d0_200 : Dc code 200 (.istore 15) 2 202 := ⟨by decide +kernel, rfl⟩
theorem d0_202 : Dc code 202 (.iload 10) 2 204 := ⟨by decide +kernel, rfl⟩
theorem d0_204 : Bi code 204 (Instr.ifCond .eq) 212 207 := ⟨8, by decide +kernel, by decide, by decide, rfl⟩
theorem d0_212 : Dc code 212 (.iload_n 2) 1 213 := ⟨by decide +kernel, rfl⟩
theorem d0_213 : Dc code 213 (.bipush 7) 2 215 := ⟨by decide +kernel, rfl⟩
theorem d0_215 : Dc code 215 (.iushr) 1 216 := ⟨by decide +kernel, rfl⟩
theorem d0_216 : Dc code 216 (.iconst 1) 1 217 := ⟨by decide +kernel, rfl⟩
theorem d0_217 : Dc code 217 (.iand) 1 218 := ⟨by decide +kernel, rfl⟩
theorem d0_218 : Bi code 218 (Instr.ifCond .eq) 225 221 := ⟨7, by decide +kernel, by decide, by decide, rfl⟩
theorem d0_221 : Dc code 221 (.iconst 1) 1 222 := ⟨by decide +kernel, rfl⟩
theorem d0_222 : Bi code 222 (Instr.goto) 226 225 := ⟨4, by decide +kernel, by decide, by decide, rfl⟩
theorem d0_225 : Dc code 225 (.iconst 0) 1 226 := ⟨by decide +kernel, rfl⟩
theorem d0_226 : Dc code 226 (.istore 16) 2 228 := ⟨by decide +kernel, rfl⟩
theorem d0_228 : Dc code 228 (.iload 11) 2 230 := ⟨by decide +kernel, rfl⟩
theorem d0_230 : Bi code 230 (Instr.ifCond .eq) 238 233 := ⟨8, by decide +kernel, by decide, by decide, rfl⟩
theorem d0_238 : Dc code 238 (.iload_n 2) 1 239 := ⟨by decide +kernel, rfl⟩
theorem d0_239 : Dc code 239 (.bipush 8) 2 241 := ⟨by decide +kernel, rfl⟩
theorem d0_241 : Dc code 241 (.iushr) 1 242 := ⟨by decide +kernel, rfl⟩
theorem d0_242 : Dc code 242 (.iconst 1) 1 243 := ⟨by decide +kernel, rfl⟩
theorem d0_243 : Dc code 243 (.iand) 1 244 := ⟨by decide +kernel, rfl⟩
theorem d0_244 : Bi code 244 (Instr.ifCond .eq) 251 247 := ⟨7, by decide +kernel, by decide, by decide, rfl⟩
theorem d0_247 : Dc code 247 (.iconst 1) 1 248 := ⟨by decide +kernel, rfl⟩
theorem d0_248 : Bi code 248 (Instr.goto) 252 251 := ⟨4, by decide +kernel, by decide, by decide, rfl⟩
theorem d0_251 : Dc code 251 (.iconst 0) 1 252 := ⟨by decide +kernel, rfl⟩
theorem d0_252 : Dc code 252 (.istore 17) 2 254 := ⟨by decide +kernel, rfl⟩
theorem d0_254 : Dc code 254 (.iload_n 2) 1 255 := ⟨by decide +kernel, rfl⟩
theorem d0_255 : Dc code 255 (.bipush 9) 2 257 := ⟨by decide +kernel, rfl⟩
theorem d0_257 : Dc code 257 (.iushr) 1 258 := ⟨by decide +kernel, rfl⟩
theorem d0_258 : Dc code 258 (.iconst 3) 1 259 := ⟨by decide +kernel, rfl⟩
theorem d0_259 : Dc code 259 (.iand) 1 260 := ⟨by decide +kernel, rfl⟩
theorem d0_260 : Dc code 260 (.istore 18) 2 262 := ⟨by decide +kernel, rfl⟩
theorem d0_160 : Dc code 160 (.iload 5) 2 162 := ⟨by decide +kernel, rfl⟩
theorem d0_162 : Bi code 162 (Instr.goto) 174 165 := ⟨12, by decide +kernel, by decide, by decide, rfl⟩
theorem d0_233 : Dc code 233 (.iload 8) 2 235 := ⟨by decide +kernel, rfl⟩
theorem d0_235 : Bi code 235 (Instr.goto) 252 238 := ⟨17, by decide +kernel, by decide, by decide, rfl⟩
theorem d0_139 : Dc code 139 (.iload 4) 2 141 := ⟨by decide +kernel, rfl⟩
theorem d0_141 : Bi code 141 (Instr.goto) 153 144 := ⟨12, by decide +kernel, by decide, by decide, rfl⟩
theorem d0_207 : Dc code 207 (.iload 7) 2 209 := ⟨by decide +kernel, rfl⟩
theorem d0_209 : Bi code 209 (Instr.goto) 226 212 := ⟨17, by decide +kernel, by decide, by decide, rfl⟩
theorem d0_122 : Dc code 122 (.iload_n 3) 1 123 := ⟨by decide +kernel, rfl⟩
theorem d0_123 : Bi code 123 (Instr.goto) 132 126 := ⟨9, by decide +kernel, by decide, by decide, rfl⟩
theorem d0_181 : Dc code 181 (.iload 6) 2 183 := ⟨by decide +kernel, rfl⟩
theorem d0_183 : Bi code 183 (Instr.goto) 200 186 := ⟨17, by decide +kernel, by decide, by decide, rfl⟩
theorem pn_rm0 : plainName "com/example/dyn_authz/dynauthz/process/RequestEqualsPinLaw" = true := by first | (simp [plainName, overriddenIn]; done) | decide +kernel
set_option maxRecDepth 65536 in
set_option maxHeartbeats 40000000 in
theorem rm0 (l : Launch) (Z : State) (a0 : Array Value) (hw : ∀ d ∈ tables_1, d.before a0 Z = true) (ia ib ic : Int32) (cs : Int32) (SCS : Sta Z Z.heap "java/lang/String" "COMPACT_STRINGS" "Z" (.int cs)) (hcs : ¬ cs = (0 : Int32)) (h0 : Heap) (OL : Old Z Z.heap.size h0) :
    MetW l Z own_EL x code maxLocals ret room_1 #[(.int ia), (.int ib), (.int ic)] h0 (fun v _ => v = some (.int 1)) := by
  have hEL : EW Z a0 own_EL := own_hEL hw
  refine metW_of (Ls := #[.val (.int ia), .val (.int ib), .val (.int ic), .unset, .unset, .unset, .unset, .unset, .unset, .unset, .unset, .unset, .unset, .unset, .unset, .unset, .unset, .unset, .unset, .unset, .unset, .unset, .unset, .unset, .unset, .unset, .unset, .unset]) (plainFor_of_name pn_rm0) (fun m => by first | (simp [entryFrame, mkF, argsToLocals, Value.category, maxLocals]; done) | rfl) (fun p e s m below meth c cx wd => ?_)
  have J262 : ∀ (ch3 ch4 ch5 ch12 ch13 ch14 fl6 fl7 fl8 fl15 fl16 fl17 ot9 ot10 ot11 ot18 : Int32), 0 ≤ ch3.toInt → ch3.toInt ≤ 255 → 0 ≤ ch4.toInt → ch4.toInt ≤ 255 → 0 ≤ ch5.toInt → ch5.toInt ≤ 255 → 0 ≤ ch12.toInt → ch12.toInt ≤ 255 → 0 ≤ ch13.toInt → ch13.toInt ≤ 255 → 0 ≤ ch14.toInt → ch14.toInt ≤ 255 → (fl6 = (0 : Int32) ∨ fl6 = (1 : Int32)) → (fl7 = (0 : Int32) ∨ fl7 = (1 : Int32)) → (fl8 = (0 : Int32) ∨ fl8 = (1 : Int32)) → (fl15 = (0 : Int32) ∨ fl15 = (1 : Int32)) → (fl16 = (0 : Int32) ∨ fl16 = (1 : Int32)) → (fl17 = (0 : Int32) ∨ fl17 = (1 : Int32)) → G p l e room_1 (s.setVm s.vm) m #[.int ia, .int ib, .int ic] below meth c Z.heap.size (KW Z own_EL s room_1 (fun v _ => v = some (.int 1))) h0 0 0 262 #[.val (.int ia), .val (.int ib), .val (.int ic), .val (.int ch3), .val (.int ch4), .val (.int ch5), .val (.int fl6), .val (.int fl7), .val (.int fl8), .val (.int ot9), .val (.int ot10), .val (.int ot11), .val (.int ch12), .val (.int ch13), .val (.int ch14), .val (.int fl15), .val (.int fl16), .val (.int fl17), .val (.int ot18), .unset, .unset, .unset, .unset, .unset, .unset, .unset, .unset, .unset] [] := by
    intro ch3 ch4 ch5 ch12 ch13 ch14 fl6 fl7 fl8 fl15 fl16 fl17 ot9 ot10 ot11 ot18 lo3 hi3 lo4 hi4 lo5 hi5 lo12 hi12 lo13 hi13 lo14 hi14 hf6 hf7 hf8 hf15 hf16 hf17
    refine g_iload cx d0_262 rfl ?_
    refine g_iloadN cx d0_264 rfl ?_
    refine g_staticW hEL cx wd (y := (⟨"com/example/dyn_authz/dynauthz/process/RequestEqualsPinLaw", "mk", "(ZC)Ljava/lang/String;"⟩ : MethodName)) d0_265 (hw _ (List.mem_of_getElem? (i := 0) rfl)) (hw _ (List.mem_of_getElem? (i := 1) rfl)) (hw _ (List.mem_of_getElem? (i := 2) rfl)) (hw _ (List.mem_of_getElem? (i := 3) rfl)) (by decide) (bytes := method_2_code) (maxL' := 2) (M := (rmmk l Z a0 hw cs SCS hcs fl6 ch3 lo3 hi3 _ OL)) rfl (lenOf pd_7 rfl) (by decide) (W := 0) (Nat.le_of_eq rfl) (by decide) (k' := 6) (n' := 12) rfl rfl (by decide) (by decide) (argsL := [(.int fl6), (.int ch3)]) (rest := []) rfl (fun v502 h501 vmh501 q503 cx wd hCr => ?_)
    obtain ⟨x1, rfl, Kx1, st_x1, S_x1⟩ := q503
    have OL := OL.keep Kx1 all0
    refine G.cast (st' := [(.ref x1)]) ?_ rfl
    refine g_astore cx d0_268 rfl (Ls' := #[.val (.int ia), .val (.int ib), .val (.int ic), .val (.int ch3), .val (.int ch4), .val (.int ch5), .val (.int fl6), .val (.int fl7), .val (.int fl8), .val (.int ot9), .val (.int ot10), .val (.int ot11), .val (.int ch12), .val (.int ch13), .val (.int ch14), .val (.int fl15), .val (.int fl16), .val (.int fl17), .val (.int ot18), .val (.ref x1), .unset, .unset, .unset, .unset, .unset, .unset, .unset, .unset]) rfl ?_
    refine g_iload cx d0_270 rfl ?_
    refine g_iload cx d0_272 rfl ?_
    refine g_staticW hEL cx wd (y := (⟨"com/example/dyn_authz/dynauthz/process/RequestEqualsPinLaw", "mk", "(ZC)Ljava/lang/String;"⟩ : MethodName)) d0_274 (hw _ (List.mem_of_getElem? (i := 0) rfl)) (hw _ (List.mem_of_getElem? (i := 1) rfl)) (hw _ (List.mem_of_getElem? (i := 2) rfl)) (hw _ (List.mem_of_getElem? (i := 3) rfl)) (by decide) (bytes := method_2_code) (maxL' := 2) (M := (rmmk l Z a0 hw cs SCS hcs fl7 ch4 lo4 hi4 _ OL)) rfl (lenOf pd_7 rfl) (by decide) (W := 0) (Nat.le_of_eq rfl) (by decide) (k' := 12) (n' := 24) rfl rfl (by decide) (by decide) (argsL := [(.int fl7), (.int ch4)]) (rest := []) rfl (fun v505 h504 vmh504 q506 cx wd hCr => ?_)
    obtain ⟨x2, rfl, Kx2, st_x2, S_x2⟩ := q506
    have OL := OL.keep Kx2 all0
    have S_x1 := S_x1.keep Kx2 (fun y hy => by cases hy)
    refine G.cast (st' := [(.ref x2)]) ?_ rfl
    refine g_astore cx d0_277 rfl (Ls' := #[.val (.int ia), .val (.int ib), .val (.int ic), .val (.int ch3), .val (.int ch4), .val (.int ch5), .val (.int fl6), .val (.int fl7), .val (.int fl8), .val (.int ot9), .val (.int ot10), .val (.int ot11), .val (.int ch12), .val (.int ch13), .val (.int ch14), .val (.int fl15), .val (.int fl16), .val (.int fl17), .val (.int ot18), .val (.ref x1), .val (.ref x2), .unset, .unset, .unset, .unset, .unset, .unset, .unset]) rfl ?_
    refine g_iload cx d0_279 rfl ?_
    refine g_iload cx d0_281 rfl ?_
    refine g_staticW hEL cx wd (y := (⟨"com/example/dyn_authz/dynauthz/process/RequestEqualsPinLaw", "mk", "(ZC)Ljava/lang/String;"⟩ : MethodName)) d0_283 (hw _ (List.mem_of_getElem? (i := 0) rfl)) (hw _ (List.mem_of_getElem? (i := 1) rfl)) (hw _ (List.mem_of_getElem? (i := 2) rfl)) (hw _ (List.mem_of_getElem? (i := 3) rfl)) (by decide) (bytes := method_2_code) (maxL' := 2) (M := (rmmk l Z a0 hw cs SCS hcs fl8 ch5 lo5 hi5 _ OL)) rfl (lenOf pd_7 rfl) (by decide) (W := 0) (Nat.le_of_eq rfl) (by decide) (k' := 18) (n' := 36) rfl rfl (by decide) (by decide) (argsL := [(.int fl8), (.int ch5)]) (rest := []) rfl (fun v508 h507 vmh507 q509 cx wd hCr => ?_)
    obtain ⟨x3, rfl, Kx3, st_x3, S_x3⟩ := q509
    have OL := OL.keep Kx3 all0
    have S_x1 := S_x1.keep Kx3 (fun y hy => by cases hy)
    have S_x2 := S_x2.keep Kx3 (fun y hy => by cases hy)
    refine G.cast (st' := [(.ref x3)]) ?_ rfl
    refine g_astore cx d0_286 rfl (Ls' := #[.val (.int ia), .val (.int ib), .val (.int ic), .val (.int ch3), .val (.int ch4), .val (.int ch5), .val (.int fl6), .val (.int fl7), .val (.int fl8), .val (.int ot9), .val (.int ot10), .val (.int ot11), .val (.int ch12), .val (.int ch13), .val (.int ch14), .val (.int fl15), .val (.int fl16), .val (.int fl17), .val (.int ot18), .val (.ref x1), .val (.ref x2), .val (.ref x3), .unset, .unset, .unset, .unset, .unset, .unset]) rfl ?_
    refine g_iload cx d0_288 rfl ?_
    refine g_iload cx d0_290 rfl ?_
    refine g_staticW hEL cx wd (y := (⟨"com/example/dyn_authz/dynauthz/process/RequestEqualsPinLaw", "mk", "(ZC)Ljava/lang/String;"⟩ : MethodName)) d0_292 (hw _ (List.mem_of_getElem? (i := 0) rfl)) (hw _ (List.mem_of_getElem? (i := 1) rfl)) (hw _ (List.mem_of_getElem? (i := 2) rfl)) (hw _ (List.mem_of_getElem? (i := 3) rfl)) (by decide) (bytes := method_2_code) (maxL' := 2) (M := (rmmk l Z a0 hw cs SCS hcs fl15 ch12 lo12 hi12 _ OL)) rfl (lenOf pd_7 rfl) (by decide) (W := 0) (Nat.le_of_eq rfl) (by decide) (k' := 24) (n' := 48) rfl rfl (by decide) (by decide) (argsL := [(.int fl15), (.int ch12)]) (rest := []) rfl (fun v511 h510 vmh510 q512 cx wd hCr => ?_)
    obtain ⟨x4, rfl, Kx4, st_x4, S_x4⟩ := q512
    have n_x1 : x1 ≠ x4 := Nat.ne_of_lt (Nat.lt_of_lt_of_le (own_Slt S_x1).1 (Nat.le_trans (own_Slt S_x1).2 st_x4))
    have OL := OL.keep Kx4 all0
    have S_x1 := S_x1.keep Kx4 (fun y hy => by cases hy)
    have S_x2 := S_x2.keep Kx4 (fun y hy => by cases hy)
    have S_x3 := S_x3.keep Kx4 (fun y hy => by cases hy)
    refine G.cast (st' := [(.ref x4)]) ?_ rfl
    refine g_astore cx d0_295 rfl (Ls' := #[.val (.int ia), .val (.int ib), .val (.int ic), .val (.int ch3), .val (.int ch4), .val (.int ch5), .val (.int fl6), .val (.int fl7), .val (.int fl8), .val (.int ot9), .val (.int ot10), .val (.int ot11), .val (.int ch12), .val (.int ch13), .val (.int ch14), .val (.int fl15), .val (.int fl16), .val (.int fl17), .val (.int ot18), .val (.ref x1), .val (.ref x2), .val (.ref x3), .val (.ref x4), .unset, .unset, .unset, .unset, .unset]) rfl ?_
    refine g_iload cx d0_297 rfl ?_
    refine g_iload cx d0_299 rfl ?_
    refine g_staticW hEL cx wd (y := (⟨"com/example/dyn_authz/dynauthz/process/RequestEqualsPinLaw", "mk", "(ZC)Ljava/lang/String;"⟩ : MethodName)) d0_301 (hw _ (List.mem_of_getElem? (i := 0) rfl)) (hw _ (List.mem_of_getElem? (i := 1) rfl)) (hw _ (List.mem_of_getElem? (i := 2) rfl)) (hw _ (List.mem_of_getElem? (i := 3) rfl)) (by decide) (bytes := method_2_code) (maxL' := 2) (M := (rmmk l Z a0 hw cs SCS hcs fl16 ch13 lo13 hi13 _ OL)) rfl (lenOf pd_7 rfl) (by decide) (W := 0) (Nat.le_of_eq rfl) (by decide) (k' := 30) (n' := 60) rfl rfl (by decide) (by decide) (argsL := [(.int fl16), (.int ch13)]) (rest := []) rfl (fun v514 h513 vmh513 q515 cx wd hCr => ?_)
    obtain ⟨x5, rfl, Kx5, st_x5, S_x5⟩ := q515
    have n_x2 : x2 ≠ x5 := Nat.ne_of_lt (Nat.lt_of_lt_of_le (own_Slt S_x2).1 (Nat.le_trans (own_Slt S_x2).2 st_x5))
    have OL := OL.keep Kx5 all0
    have S_x1 := S_x1.keep Kx5 (fun y hy => by cases hy)
    have S_x2 := S_x2.keep Kx5 (fun y hy => by cases hy)
    have S_x3 := S_x3.keep Kx5 (fun y hy => by cases hy)
    have S_x4 := S_x4.keep Kx5 (fun y hy => by cases hy)
    refine G.cast (st' := [(.ref x5)]) ?_ rfl
    refine g_astore cx d0_304 rfl (Ls' := #[.val (.int ia), .val (.int ib), .val (.int ic), .val (.int ch3), .val (.int ch4), .val (.int ch5), .val (.int fl6), .val (.int fl7), .val (.int fl8), .val (.int ot9), .val (.int ot10), .val (.int ot11), .val (.int ch12), .val (.int ch13), .val (.int ch14), .val (.int fl15), .val (.int fl16), .val (.int fl17), .val (.int ot18), .val (.ref x1), .val (.ref x2), .val (.ref x3), .val (.ref x4), .val (.ref x5), .unset, .unset, .unset, .unset]) rfl ?_
    refine g_iload cx d0_306 rfl ?_
    refine g_iload cx d0_308 rfl ?_
    refine g_staticW hEL cx wd (y := (⟨"com/example/dyn_authz/dynauthz/process/RequestEqualsPinLaw", "mk", "(ZC)Ljava/lang/String;"⟩ : MethodName)) d0_310 (hw _ (List.mem_of_getElem? (i := 0) rfl)) (hw _ (List.mem_of_getElem? (i := 1) rfl)) (hw _ (List.mem_of_getElem? (i := 2) rfl)) (hw _ (List.mem_of_getElem? (i := 3) rfl)) (by decide) (bytes := method_2_code) (maxL' := 2) (M := (rmmk l Z a0 hw cs SCS hcs fl17 ch14 lo14 hi14 _ OL)) rfl (lenOf pd_7 rfl) (by decide) (W := 0) (Nat.le_of_eq rfl) (by decide) (k' := 36) (n' := 72) rfl rfl (by decide) (by decide) (argsL := [(.int fl17), (.int ch14)]) (rest := []) rfl (fun v517 h516 vmh516 q518 cx wd hCr => ?_)
    obtain ⟨x6, rfl, Kx6, st_x6, S_x6⟩ := q518
    have n_x3 : x3 ≠ x6 := Nat.ne_of_lt (Nat.lt_of_lt_of_le (own_Slt S_x3).1 (Nat.le_trans (own_Slt S_x3).2 st_x6))
    have OL := OL.keep Kx6 all0
    have S_x1 := S_x1.keep Kx6 (fun y hy => by cases hy)
    have S_x2 := S_x2.keep Kx6 (fun y hy => by cases hy)
    have S_x3 := S_x3.keep Kx6 (fun y hy => by cases hy)
    have S_x4 := S_x4.keep Kx6 (fun y hy => by cases hy)
    have S_x5 := S_x5.keep Kx6 (fun y hy => by cases hy)
    refine G.cast (st' := [(.ref x6)]) ?_ rfl
    refine g_astore cx d0_313 rfl (Ls' := #[.val (.int ia), .val (.int ib), .val (.int ic), .val (.int ch3), .val (.int ch4), .val (.int ch5), .val (.int fl6), .val (.int fl7), .val (.int fl8), .val (.int ot9), .val (.int ot10), .val (.int ot11), .val (.int ch12), .val (.int ch13), .val (.int ch14), .val (.int fl15), .val (.int fl16), .val (.int fl17), .val (.int ot18), .val (.ref x1), .val (.ref x2), .val (.ref x3), .val (.ref x4), .val (.ref x5), .val (.ref x6), .unset, .unset, .unset]) rfl ?_
    refine g_new cx d0_315 (hw _ (List.mem_of_getElem? (i := 34) rfl)) (hw _ (List.mem_of_getElem? (i := 35) rfl)) (hw _ (List.mem_of_getElem? (i := 36) rfl)) (k' := 37) (n' := 75) rfl rfl (by decide) (by decide) (fun h519 b520 gb521 E522 X523 D524 => ?_)
    have g_b520 : Z.heap.size ≤ b520 := by rw [gb521]; exact OL.2.1
    have SF_b520 := wd.new gb521
    have mr_b520_x1 := Nat.le_trans (own_Slt S_x1).2 (Nat.le_of_eq gb521.symm)
    have mr_b520_x2 := Nat.le_trans (own_Slt S_x2).2 (Nat.le_of_eq gb521.symm)
    have mr_b520_x3 := Nat.le_trans (own_Slt S_x3).2 (Nat.le_of_eq gb521.symm)
    have mr_b520_x4 := Nat.le_trans (own_Slt S_x4).2 (Nat.le_of_eq gb521.symm)
    have mr_b520_x5 := Nat.le_trans (own_Slt S_x5).2 (Nat.le_of_eq gb521.symm)
    have mr_b520_x6 := Nat.le_trans (own_Slt S_x6).2 (Nat.le_of_eq gb521.symm)
    have SF_b520 := SF_b520.ext E522 wd.2.2.1
    have wd := wd.ext E522
    have OL := OL.ext E522
    have S_x1 := S_x1.ext E522
    have S_x2 := S_x2.ext E522
    have S_x3 := S_x3.ext E522
    have S_x4 := S_x4.ext E522
    have S_x5 := S_x5.ext E522
    have S_x6 := S_x6.ext E522
    have O_b520 := ObR.new hw X523 D524
    refine g_dup cx d0_318 rfl ?_
    refine g_aload cx d0_319 rfl rfl ?_
    refine g_aload cx d0_321 rfl rfl ?_
    refine g_aload cx d0_323 rfl rfl ?_
    refine g_special cx (y := (⟨"com/example/dyn_authz/dynauthz/process/Request", "<init>", "(Ljava/lang/String;Ljava/lang/String;Ljava/lang/String;)V"⟩ : MethodName)) (a := b520) d0_325 rfl rfl (hw _ (List.mem_of_getElem? (i := 37) rfl)) (hw _ (List.mem_of_getElem? (i := 38) rfl)) (hw _ (List.mem_of_getElem? (i := 36) rfl)) (hw _ (List.mem_of_getElem? (i := 39) rfl)) (by decide) (bytes := prog_35_method_1_code) (maxL' := 4) (M := (rmri l Z a0 hw b520 x1 x2 x3 _ O_b520 g_b520 OL)) rfl (lenOf pd_8 rfl) (by decide) (W := 1) (Nat.le_of_eq rfl) (by decide) (k' := 37) (n' := 75) rfl rfl (by decide) (by decide) (argsL := [(.ref x1), (.ref x2), (.ref x3)]) (rest := [(.ref b520)]) rfl (fun v527 h526 q528 => ?_)
    obtain ⟨rfl, K525, O_b520⟩ := q528
    have wd' := wd.keep K525 (sfS SF_b520 (fun y hy => by cases hy))
    have SF_b520' := SF_b520.keep K525 (sfS SF_b520 (fun y hy => by cases hy)) wd.2.2.1
    have SF_b520 := SF_b520'
    have wd := wd'
    have OL := OL.keep K525 (allS g_b520 all0)
    have S_x1 := S_x1.keep K525 (allS mr_b520_x1 all0)
    have S_x2 := S_x2.keep K525 (allS mr_b520_x2 all0)
    have S_x3 := S_x3.keep K525 (allS mr_b520_x3 all0)
    have S_x4 := S_x4.keep K525 (allS mr_b520_x4 all0)
    have S_x5 := S_x5.keep K525 (allS mr_b520_x5 all0)
    have S_x6 := S_x6.keep K525 (allS mr_b520_x6 all0)
    refine G.cast (st' := [(.ref b520)]) ?_ rfl
    refine g_astore cx d0_328 rfl (Ls' := #[.val (.int ia), .val (.int ib), .val (.int ic), .val (.int ch3), .val (.int ch4), .val (.int ch5), .val (.int fl6), .val (.int fl7), .val (.int fl8), .val (.int ot9), .val (.int ot10), .val (.int ot11), .val (.int ch12), .val (.int ch13), .val (.int ch14), .val (.int fl15), .val (.int fl16), .val (.int fl17), .val (.int ot18), .val (.ref x1), .val (.ref x2), .val (.ref x3), .val (.ref x4), .val (.ref x5), .val (.ref x6), .val (.ref b520), .unset, .unset]) rfl ?_
    refine g_new cx d0_330 (hw _ (List.mem_of_getElem? (i := 34) rfl)) (hw _ (List.mem_of_getElem? (i := 35) rfl)) (hw _ (List.mem_of_getElem? (i := 36) rfl)) (k' := 38) (n' := 78) rfl rfl (by decide) (by decide) (fun h529 b530 gb531 E532 X533 D534 => ?_)
    have ne_b520_b530 : b520 ≠ b530 := Nat.ne_of_lt (by rw [gb531]; exact O_b520.lt)
    have g_b530 : Z.heap.size ≤ b530 := by rw [gb531]; exact OL.2.1
    have SF_b530 := wd.new gb531
    have mr_b530_x1 := Nat.le_trans (own_Slt S_x1).2 (Nat.le_of_eq gb531.symm)
    have mr_b530_x2 := Nat.le_trans (own_Slt S_x2).2 (Nat.le_of_eq gb531.symm)
    have mr_b530_x3 := Nat.le_trans (own_Slt S_x3).2 (Nat.le_of_eq gb531.symm)
    have mr_b530_x4 := Nat.le_trans (own_Slt S_x4).2 (Nat.le_of_eq gb531.symm)
    have mr_b530_x5 := Nat.le_trans (own_Slt S_x5).2 (Nat.le_of_eq gb531.symm)
    have mr_b530_x6 := Nat.le_trans (own_Slt S_x6).2 (Nat.le_of_eq gb531.symm)
    have SF_b520 := SF_b520.ext E532 wd.2.2.1
    have SF_b530 := SF_b530.ext E532 wd.2.2.1
    have wd := wd.ext E532
    have O_b520 := O_b520.ext E532
    have OL := OL.ext E532
    have S_x1 := S_x1.ext E532
    have S_x2 := S_x2.ext E532
    have S_x3 := S_x3.ext E532
    have S_x4 := S_x4.ext E532
    have S_x5 := S_x5.ext E532
    have S_x6 := S_x6.ext E532
    have O_b530 := ObR.new hw X533 D534
    refine g_dup cx d0_333 rfl ?_
    refine g_aload cx d0_334 rfl rfl ?_
    refine g_aload cx d0_336 rfl rfl ?_
    refine g_aload cx d0_338 rfl rfl ?_
    refine g_special cx (y := (⟨"com/example/dyn_authz/dynauthz/process/Request", "<init>", "(Ljava/lang/String;Ljava/lang/String;Ljava/lang/String;)V"⟩ : MethodName)) (a := b530) d0_340 rfl rfl (hw _ (List.mem_of_getElem? (i := 37) rfl)) (hw _ (List.mem_of_getElem? (i := 38) rfl)) (hw _ (List.mem_of_getElem? (i := 36) rfl)) (hw _ (List.mem_of_getElem? (i := 39) rfl)) (by decide) (bytes := prog_35_method_1_code) (maxL' := 4) (M := (rmri l Z a0 hw b530 x4 x5 x6 _ O_b530 g_b530 OL)) rfl (lenOf pd_8 rfl) (by decide) (W := 1) (Nat.le_of_eq rfl) (by decide) (k' := 38) (n' := 78) rfl rfl (by decide) (by decide) (argsL := [(.ref x4), (.ref x5), (.ref x6)]) (rest := [(.ref b530)]) rfl (fun v537 h536 q538 => ?_)
    obtain ⟨rfl, K535, O_b530⟩ := q538
    have wd' := wd.keep K535 (sfS SF_b530 (fun y hy => by cases hy))
    have SF_b520' := SF_b520.keep K535 (sfS SF_b530 (fun y hy => by cases hy)) wd.2.2.1
    have SF_b530' := SF_b530.keep K535 (sfS SF_b530 (fun y hy => by cases hy)) wd.2.2.1
    have SF_b520 := SF_b520'
    have SF_b530 := SF_b530'
    have wd := wd'
    have O_b520 := O_b520.keep K535 (ninS ne_b520_b530 nin0)
    have OL := OL.keep K535 (allS g_b530 all0)
    have S_x1 := S_x1.keep K535 (allS mr_b530_x1 all0)
    have S_x2 := S_x2.keep K535 (allS mr_b530_x2 all0)
    have S_x3 := S_x3.keep K535 (allS mr_b530_x3 all0)
    have S_x4 := S_x4.keep K535 (allS mr_b530_x4 all0)
    have S_x5 := S_x5.keep K535 (allS mr_b530_x5 all0)
    have S_x6 := S_x6.keep K535 (allS mr_b530_x6 all0)
    refine G.cast (st' := [(.ref b530)]) ?_ rfl
    refine g_astore cx d0_343 rfl (Ls' := #[.val (.int ia), .val (.int ib), .val (.int ic), .val (.int ch3), .val (.int ch4), .val (.int ch5), .val (.int fl6), .val (.int fl7), .val (.int fl8), .val (.int ot9), .val (.int ot10), .val (.int ot11), .val (.int ch12), .val (.int ch13), .val (.int ch14), .val (.int fl15), .val (.int fl16), .val (.int fl17), .val (.int ot18), .val (.ref x1), .val (.ref x2), .val (.ref x3), .val (.ref x4), .val (.ref x5), .val (.ref x6), .val (.ref b520), .val (.ref b530), .unset]) rfl ?_
    refine g_iload cx d0_345 rfl ?_
    refine g_iconst cx d0_347 (v := (2 : Int32)) rfl ?_
    refine g_icmp_ne cx d0_348 (fun hc348 => ?_) (fun hc348 => ?_)
    · refine g_iload cx d0_366 rfl ?_
      refine g_iconst cx d0_368 (v := (3 : Int32)) rfl ?_
      refine g_icmp_ne cx d0_369 (fun hc369 => ?_) (fun hc369 => ?_)
      · refine g_iload cx d0_388 rfl ?_
        refine g_iloadN cx d0_390 rfl ?_
        refine g_iload cx d0_391 rfl ?_
        refine g_iload cx d0_393 rfl ?_
        refine g_static cx (y := (⟨"com/example/dyn_authz/dynauthz/process/RequestEqualsPinLaw", "eqS", "(ZCZC)Z"⟩ : MethodName)) d0_395 (hw _ (List.mem_of_getElem? (i := 47) rfl)) (hw _ (List.mem_of_getElem? (i := 48) rfl)) (hw _ (List.mem_of_getElem? (i := 2) rfl)) (hw _ (List.mem_of_getElem? (i := 49) rfl)) (by decide) (bytes := method_3_code) (maxL' := 4) (M := (rmes l Z a0 hw _ _ _ _ _)) rfl (lenOf pd_9 rfl) (by decide) (W := 0) (Nat.le_of_eq rfl) (by decide) (k' := 38) (n' := 78) rfl rfl (by decide) (by decide) (argsL := [(.int fl6), (.int ch3), (.int fl15), (.int ch12)]) (rest := []) rfl (fun v540 h539 q541 => ?_)
        obtain ⟨rfl, rfl⟩ := q541
        refine G.cast (st' := [(.int (own_q fl6 ch3 fl15 ch12))]) ?_ rfl
        refine g_if_eq cx d0_398 (fun hc398 => ?_) (fun hc398 => ?_)
        · refine g_iconst cx d0_433 (v := (0 : Int32)) rfl ?_
          refine g_istore cx d0_434 (Ls' := #[.val (.int ia), .val (.int ib), .val (.int ic), .val (.int ch3), .val (.int ch4), .val (.int ch5), .val (.int fl6), .val (.int fl7), .val (.int fl8), .val (.int ot9), .val (.int ot10), .val (.int ot11), .val (.int ch12), .val (.int ch13), .val (.int ch14), .val (.int fl15), .val (.int fl16), .val (.int fl17), .val (.int ot18), .val (.ref x1), .val (.ref x2), .val (.ref x3), .val (.ref x4), .val (.ref x5), .val (.ref x6), .val (.ref b520), .val (.ref b530), .val (.int (0 : Int32))]) rfl ?_
          refine g_aload cx d0_436 rfl rfl ?_
          refine g_aload cx d0_438 rfl rfl ?_
          refine g_virtual cx (y := (⟨"com/example/dyn_authz/dynauthz/process/Request", "equals", "(Ljava/lang/Object;)Z"⟩ : MethodName)) (z := (⟨"com/example/dyn_authz/dynauthz/process/Request", "equals", "(Ljava/lang/Object;)Z"⟩ : MethodName)) (a := b520) d0_440 (hw _ (List.mem_of_getElem? (i := 50) rfl)) (hw _ (List.mem_of_getElem? (i := 51) rfl)) (hw _ (List.mem_of_getElem? (i := 36) rfl)) (hw _ (List.mem_of_getElem? (i := 54) rfl)) (hw _ (List.mem_of_getElem? (i := 53) rfl)) (hw _ (List.mem_of_getElem? (i := 52) rfl)) rfl (by decide) O_b520.1 (bytes := prog_35_method_5_code) (maxL' := 4) (M := (rmre l Z a0 hw cs SCS hcs b520 b530 x1 x4 fl6 ch3 fl15 ch12 hf6 hf15 lo3 hi3 lo12 hi12 _ _ n_x1 x2 x5 fl7 ch4 fl16 ch13 hf7 hf16 lo4 hi4 lo13 hi13 _ _ n_x2 x3 x6 fl8 ch5 fl17 ch14 hf8 hf17 lo5 hi5 lo14 hi14 _ _ n_x3 _ O_b520 O_b530 S_x1 S_x4 S_x2 S_x5 S_x3 S_x6 OL)) rfl (lenOf pd_6 rfl) (by decide) (W := 0) (Nat.le_of_eq rfl) (by decide) (k' := 38) (n' := 78) rfl rfl (by decide) (by decide) (argsL := [(.ref b530)]) (rest := []) rfl (fun v543 h542 q544 => ?_)
          obtain ⟨rfl, rfl⟩ := q544
          refine G.cast (st' := [(.int (own_and3 (own_q fl6 ch3 fl15 ch12) (own_q fl7 ch4 fl16 ch13) (own_q fl8 ch5 fl17 ch14)))]) ?_ rfl
          refine g_iload cx d0_443 rfl ?_
          refine g_icmp_ne cx d0_445 (fun q => absurd q (fun q => q (by simp [own_and3, hc398]))) (fun hc445 => ?_)
          refine g_aload cx d0_448 rfl rfl ?_
          refine g_aload cx d0_450 rfl rfl ?_
          refine g_virtual cx (y := (⟨"com/example/dyn_authz/dynauthz/process/Request", "equals", "(Ljava/lang/Object;)Z"⟩ : MethodName)) (z := (⟨"com/example/dyn_authz/dynauthz/process/Request", "equals", "(Ljava/lang/Object;)Z"⟩ : MethodName)) (a := b530) d0_452 (hw _ (List.mem_of_getElem? (i := 50) rfl)) (hw _ (List.mem_of_getElem? (i := 51) rfl)) (hw _ (List.mem_of_getElem? (i := 36) rfl)) (hw _ (List.mem_of_getElem? (i := 54) rfl)) (hw _ (List.mem_of_getElem? (i := 53) rfl)) (hw _ (List.mem_of_getElem? (i := 52) rfl)) rfl (by decide) O_b530.1 (bytes := prog_35_method_5_code) (maxL' := 4) (M := (rmre l Z a0 hw cs SCS hcs b530 b520 x4 x1 fl15 ch12 fl6 ch3 hf15 hf6 lo12 hi12 lo3 hi3 _ _ n_x1.symm x5 x2 fl16 ch13 fl7 ch4 hf16 hf7 lo13 hi13 lo4 hi4 _ _ n_x2.symm x6 x3 fl17 ch14 fl8 ch5 hf17 hf8 lo14 hi14 lo5 hi5 _ _ n_x3.symm _ O_b530 O_b520 S_x4 S_x1 S_x5 S_x2 S_x6 S_x3 OL)) rfl (lenOf pd_6 rfl) (by decide) (W := 0) (Nat.le_of_eq rfl) (by decide) (k' := 38) (n' := 78) rfl rfl (by decide) (by decide) (argsL := [(.ref b520)]) (rest := []) rfl (fun v546 h545 q547 => ?_)
          obtain ⟨rfl, rfl⟩ := q547
          rw [own_q_symm fl15 ch12 fl6 ch3, own_q_symm fl16 ch13 fl7 ch4, own_q_symm fl17 ch14 fl8 ch5]
          refine G.cast (st' := [(.int (own_and3 (own_q fl6 ch3 fl15 ch12) (own_q fl7 ch4 fl16 ch13) (own_q fl8 ch5 fl17 ch14)))]) ?_ rfl
          refine g_iload cx d0_455 rfl ?_
          refine g_icmp_ne cx d0_457 (fun q => absurd q (fun q => q (by simp [own_and3, hc398]))) (fun hc457 => ?_)
          refine g_aload cx d0_460 rfl rfl ?_
          refine g_aload cx d0_462 rfl rfl ?_
          refine g_virtual cx (y := (⟨"com/example/dyn_authz/dynauthz/process/Request", "equals", "(Ljava/lang/Object;)Z"⟩ : MethodName)) (z := (⟨"com/example/dyn_authz/dynauthz/process/Request", "equals", "(Ljava/lang/Object;)Z"⟩ : MethodName)) (a := b520) d0_464 (hw _ (List.mem_of_getElem? (i := 50) rfl)) (hw _ (List.mem_of_getElem? (i := 51) rfl)) (hw _ (List.mem_of_getElem? (i := 36) rfl)) (hw _ (List.mem_of_getElem? (i := 54) rfl)) (hw _ (List.mem_of_getElem? (i := 53) rfl)) (hw _ (List.mem_of_getElem? (i := 52) rfl)) rfl (by decide) O_b520.1 (bytes := prog_35_method_5_code) (maxL' := 4) (M := (rmreS l Z a0 hw b520 x1 x2 x3 _ O_b520 (own_Sx S_x1) (own_Sx S_x2) (own_Sx S_x3))) rfl (lenOf pd_6 rfl) (by decide) (W := 0) (Nat.le_of_eq rfl) (by decide) (k' := 38) (n' := 78) rfl rfl (by decide) (by decide) (argsL := [(.ref b520)]) (rest := []) rfl (fun v549 h548 q550 => ?_)
          obtain ⟨rfl, rfl⟩ := q550
          refine G.cast (st' := [(.int (1 : Int32))]) ?_ rfl
          refine g_if_eq cx d0_467 (fun q => absurd q (fun q => by revert q; decide)) (fun hc467 => ?_)
          refine g_iconst cx d0_470 (v := (1 : Int32)) rfl ?_
          refine g_goto cx d0_471 ?_
          refine g_retZW hEL cx wd d0_475 rfl rfl (by decide) (by decide) ?_
          rfl
        · refine g_iload cx d0_401 rfl ?_
          refine g_iload cx d0_403 rfl ?_
          refine g_iload cx d0_405 rfl ?_
          refine g_iload cx d0_407 rfl ?_
          refine g_static cx (y := (⟨"com/example/dyn_authz/dynauthz/process/RequestEqualsPinLaw", "eqS", "(ZCZC)Z"⟩ : MethodName)) d0_409 (hw _ (List.mem_of_getElem? (i := 47) rfl)) (hw _ (List.mem_of_getElem? (i := 48) rfl)) (hw _ (List.mem_of_getElem? (i := 2) rfl)) (hw _ (List.mem_of_getElem? (i := 49) rfl)) (by decide) (bytes := method_3_code) (maxL' := 4) (M := (rmes l Z a0 hw _ _ _ _ _)) rfl (lenOf pd_9 rfl) (by decide) (W := 0) (Nat.le_of_eq rfl) (by decide) (k' := 38) (n' := 78) rfl rfl (by decide) (by decide) (argsL := [(.int fl7), (.int ch4), (.int fl16), (.int ch13)]) (rest := []) rfl (fun v552 h551 q553 => ?_)
          obtain ⟨rfl, rfl⟩ := q553
          refine G.cast (st' := [(.int (own_q fl7 ch4 fl16 ch13))]) ?_ rfl
          refine g_if_eq cx d0_412 (fun hc412 => ?_) (fun hc412 => ?_)
          · refine g_iconst cx d0_433 (v := (0 : Int32)) rfl ?_
            refine g_istore cx d0_434 (Ls' := #[.val (.int ia), .val (.int ib), .val (.int ic), .val (.int ch3), .val (.int ch4), .val (.int ch5), .val (.int fl6), .val (.int fl7), .val (.int fl8), .val (.int ot9), .val (.int ot10), .val (.int ot11), .val (.int ch12), .val (.int ch13), .val (.int ch14), .val (.int fl15), .val (.int fl16), .val (.int fl17), .val (.int ot18), .val (.ref x1), .val (.ref x2), .val (.ref x3), .val (.ref x4), .val (.ref x5), .val (.ref x6), .val (.ref b520), .val (.ref b530), .val (.int (0 : Int32))]) rfl ?_
            refine g_aload cx d0_436 rfl rfl ?_
            refine g_aload cx d0_438 rfl rfl ?_
            refine g_virtual cx (y := (⟨"com/example/dyn_authz/dynauthz/process/Request", "equals", "(Ljava/lang/Object;)Z"⟩ : MethodName)) (z := (⟨"com/example/dyn_authz/dynauthz/process/Request", "equals", "(Ljava/lang/Object;)Z"⟩ : MethodName)) (a := b520) d0_440 (hw _ (List.mem_of_getElem? (i := 50) rfl)) (hw _ (List.mem_of_getElem? (i := 51) rfl)) (hw _ (List.mem_of_getElem? (i := 36) rfl)) (hw _ (List.mem_of_getElem? (i := 54) rfl)) (hw _ (List.mem_of_getElem? (i := 53) rfl)) (hw _ (List.mem_of_getElem? (i := 52) rfl)) rfl (by decide) O_b520.1 (bytes := prog_35_method_5_code) (maxL' := 4) (M := (rmre l Z a0 hw cs SCS hcs b520 b530 x1 x4 fl6 ch3 fl15 ch12 hf6 hf15 lo3 hi3 lo12 hi12 _ _ n_x1 x2 x5 fl7 ch4 fl16 ch13 hf7 hf16 lo4 hi4 lo13 hi13 _ _ n_x2 x3 x6 fl8 ch5 fl17 ch14 hf8 hf17 lo5 hi5 lo14 hi14 _ _ n_x3 _ O_b520 O_b530 S_x1 S_x4 S_x2 S_x5 S_x3 S_x6 OL)) rfl (lenOf pd_6 rfl) (by decide) (W := 0) (Nat.le_of_eq rfl) (by decide) (k' := 38) (n' := 78) rfl rfl (by decide) (by decide) (argsL := [(.ref b530)]) (rest := []) rfl (fun v555 h554 q556 => ?_)
            obtain ⟨rfl, rfl⟩ := q556
            refine G.cast (st' := [(.int (own_and3 (own_q fl6 ch3 fl15 ch12) (own_q fl7 ch4 fl16 ch13) (own_q fl8 ch5 fl17 ch14)))]) ?_ rfl
            refine g_iload cx d0_443 rfl ?_
            refine g_icmp_ne cx d0_445 (fun q => absurd q (fun q => q (by simp [own_and3, hc398, hc412]))) (fun hc445 => ?_)
            refine g_aload cx d0_448 rfl rfl ?_
            refine g_aload cx d0_450 rfl rfl ?_
            refine g_virtual cx (y := (⟨"com/example/dyn_authz/dynauthz/process/Request", "equals", "(Ljava/lang/Object;)Z"⟩ : MethodName)) (z := (⟨"com/example/dyn_authz/dynauthz/process/Request", "equals", "(Ljava/lang/Object;)Z"⟩ : MethodName)) (a := b530) d0_452 (hw _ (List.mem_of_getElem? (i := 50) rfl)) (hw _ (List.mem_of_getElem? (i := 51) rfl)) (hw _ (List.mem_of_getElem? (i := 36) rfl)) (hw _ (List.mem_of_getElem? (i := 54) rfl)) (hw _ (List.mem_of_getElem? (i := 53) rfl)) (hw _ (List.mem_of_getElem? (i := 52) rfl)) rfl (by decide) O_b530.1 (bytes := prog_35_method_5_code) (maxL' := 4) (M := (rmre l Z a0 hw cs SCS hcs b530 b520 x4 x1 fl15 ch12 fl6 ch3 hf15 hf6 lo12 hi12 lo3 hi3 _ _ n_x1.symm x5 x2 fl16 ch13 fl7 ch4 hf16 hf7 lo13 hi13 lo4 hi4 _ _ n_x2.symm x6 x3 fl17 ch14 fl8 ch5 hf17 hf8 lo14 hi14 lo5 hi5 _ _ n_x3.symm _ O_b530 O_b520 S_x4 S_x1 S_x5 S_x2 S_x6 S_x3 OL)) rfl (lenOf pd_6 rfl) (by decide) (W := 0) (Nat.le_of_eq rfl) (by decide) (k' := 38) (n' := 78) rfl rfl (by decide) (by decide) (argsL := [(.ref b520)]) (rest := []) rfl (fun v558 h557 q559 => ?_)
            obtain ⟨rfl, rfl⟩ := q559
            rw [own_q_symm fl15 ch12 fl6 ch3, own_q_symm fl16 ch13 fl7 ch4, own_q_symm fl17 ch14 fl8 ch5]
            refine G.cast (st' := [(.int (own_and3 (own_q fl6 ch3 fl15 ch12) (own_q fl7 ch4 fl16 ch13) (own_q fl8 ch5 fl17 ch14)))]) ?_ rfl
            refine g_iload cx d0_455 rfl ?_
            refine g_icmp_ne cx d0_457 (fun q => absurd q (fun q => q (by simp [own_and3, hc398, hc412]))) (fun hc457 => ?_)
            refine g_aload cx d0_460 rfl rfl ?_
            refine g_aload cx d0_462 rfl rfl ?_
            refine g_virtual cx (y := (⟨"com/example/dyn_authz/dynauthz/process/Request", "equals", "(Ljava/lang/Object;)Z"⟩ : MethodName)) (z := (⟨"com/example/dyn_authz/dynauthz/process/Request", "equals", "(Ljava/lang/Object;)Z"⟩ : MethodName)) (a := b520) d0_464 (hw _ (List.mem_of_getElem? (i := 50) rfl)) (hw _ (List.mem_of_getElem? (i := 51) rfl)) (hw _ (List.mem_of_getElem? (i := 36) rfl)) (hw _ (List.mem_of_getElem? (i := 54) rfl)) (hw _ (List.mem_of_getElem? (i := 53) rfl)) (hw _ (List.mem_of_getElem? (i := 52) rfl)) rfl (by decide) O_b520.1 (bytes := prog_35_method_5_code) (maxL' := 4) (M := (rmreS l Z a0 hw b520 x1 x2 x3 _ O_b520 (own_Sx S_x1) (own_Sx S_x2) (own_Sx S_x3))) rfl (lenOf pd_6 rfl) (by decide) (W := 0) (Nat.le_of_eq rfl) (by decide) (k' := 38) (n' := 78) rfl rfl (by decide) (by decide) (argsL := [(.ref b520)]) (rest := []) rfl (fun v561 h560 q562 => ?_)
            obtain ⟨rfl, rfl⟩ := q562
            refine G.cast (st' := [(.int (1 : Int32))]) ?_ rfl
            refine g_if_eq cx d0_467 (fun q => absurd q (fun q => by revert q; decide)) (fun hc467 => ?_)
            refine g_iconst cx d0_470 (v := (1 : Int32)) rfl ?_
            refine g_goto cx d0_471 ?_
            refine g_retZW hEL cx wd d0_475 rfl rfl (by decide) (by decide) ?_
            rfl
          · refine g_iload cx d0_415 rfl ?_
            refine g_iload cx d0_417 rfl ?_
            refine g_iload cx d0_419 rfl ?_
            refine g_iload cx d0_421 rfl ?_
            refine g_static cx (y := (⟨"com/example/dyn_authz/dynauthz/process/RequestEqualsPinLaw", "eqS", "(ZCZC)Z"⟩ : MethodName)) d0_423 (hw _ (List.mem_of_getElem? (i := 47) rfl)) (hw _ (List.mem_of_getElem? (i := 48) rfl)) (hw _ (List.mem_of_getElem? (i := 2) rfl)) (hw _ (List.mem_of_getElem? (i := 49) rfl)) (by decide) (bytes := method_3_code) (maxL' := 4) (M := (rmes l Z a0 hw _ _ _ _ _)) rfl (lenOf pd_9 rfl) (by decide) (W := 0) (Nat.le_of_eq rfl) (by decide) (k' := 38) (n' := 78) rfl rfl (by decide) (by decide) (argsL := [(.int fl8), (.int ch5), (.int fl17), (.int ch14)]) (rest := []) rfl (fun v564 h563 q565 => ?_)
            obtain ⟨rfl, rfl⟩ := q565
            refine G.cast (st' := [(.int (own_q fl8 ch5 fl17 ch14))]) ?_ rfl
            refine g_if_eq cx d0_426 (fun hc426 => ?_) (fun hc426 => ?_)
            · refine g_iconst cx d0_433 (v := (0 : Int32)) rfl ?_
              refine g_istore cx d0_434 (Ls' := #[.val (.int ia), .val (.int ib), .val (.int ic), .val (.int ch3), .val (.int ch4), .val (.int ch5), .val (.int fl6), .val (.int fl7), .val (.int fl8), .val (.int ot9), .val (.int ot10), .val (.int ot11), .val (.int ch12), .val (.int ch13), .val (.int ch14), .val (.int fl15), .val (.int fl16), .val (.int fl17), .val (.int ot18), .val (.ref x1), .val (.ref x2), .val (.ref x3), .val (.ref x4), .val (.ref x5), .val (.ref x6), .val (.ref b520), .val (.ref b530), .val (.int (0 : Int32))]) rfl ?_
              refine g_aload cx d0_436 rfl rfl ?_
              refine g_aload cx d0_438 rfl rfl ?_
              refine g_virtual cx (y := (⟨"com/example/dyn_authz/dynauthz/process/Request", "equals", "(Ljava/lang/Object;)Z"⟩ : MethodName)) (z := (⟨"com/example/dyn_authz/dynauthz/process/Request", "equals", "(Ljava/lang/Object;)Z"⟩ : MethodName)) (a := b520) d0_440 (hw _ (List.mem_of_getElem? (i := 50) rfl)) (hw _ (List.mem_of_getElem? (i := 51) rfl)) (hw _ (List.mem_of_getElem? (i := 36) rfl)) (hw _ (List.mem_of_getElem? (i := 54) rfl)) (hw _ (List.mem_of_getElem? (i := 53) rfl)) (hw _ (List.mem_of_getElem? (i := 52) rfl)) rfl (by decide) O_b520.1 (bytes := prog_35_method_5_code) (maxL' := 4) (M := (rmre l Z a0 hw cs SCS hcs b520 b530 x1 x4 fl6 ch3 fl15 ch12 hf6 hf15 lo3 hi3 lo12 hi12 _ _ n_x1 x2 x5 fl7 ch4 fl16 ch13 hf7 hf16 lo4 hi4 lo13 hi13 _ _ n_x2 x3 x6 fl8 ch5 fl17 ch14 hf8 hf17 lo5 hi5 lo14 hi14 _ _ n_x3 _ O_b520 O_b530 S_x1 S_x4 S_x2 S_x5 S_x3 S_x6 OL)) rfl (lenOf pd_6 rfl) (by decide) (W := 0) (Nat.le_of_eq rfl) (by decide) (k' := 38) (n' := 78) rfl rfl (by decide) (by decide) (argsL := [(.ref b530)]) (rest := []) rfl (fun v567 h566 q568 => ?_)
              obtain ⟨rfl, rfl⟩ := q568
              refine G.cast (st' := [(.int (own_and3 (own_q fl6 ch3 fl15 ch12) (own_q fl7 ch4 fl16 ch13) (own_q fl8 ch5 fl17 ch14)))]) ?_ rfl
              refine g_iload cx d0_443 rfl ?_
              refine g_icmp_ne cx d0_445 (fun q => absurd q (fun q => q (by simp [own_and3, hc398, hc412, hc426]))) (fun hc445 => ?_)
              refine g_aload cx d0_448 rfl rfl ?_
              refine g_aload cx d0_450 rfl rfl ?_
              refine g_virtual cx (y := (⟨"com/example/dyn_authz/dynauthz/process/Request", "equals", "(Ljava/lang/Object;)Z"⟩ : MethodName)) (z := (⟨"com/example/dyn_authz/dynauthz/process/Request", "equals", "(Ljava/lang/Object;)Z"⟩ : MethodName)) (a := b530) d0_452 (hw _ (List.mem_of_getElem? (i := 50) rfl)) (hw _ (List.mem_of_getElem? (i := 51) rfl)) (hw _ (List.mem_of_getElem? (i := 36) rfl)) (hw _ (List.mem_of_getElem? (i := 54) rfl)) (hw _ (List.mem_of_getElem? (i := 53) rfl)) (hw _ (List.mem_of_getElem? (i := 52) rfl)) rfl (by decide) O_b530.1 (bytes := prog_35_method_5_code) (maxL' := 4) (M := (rmre l Z a0 hw cs SCS hcs b530 b520 x4 x1 fl15 ch12 fl6 ch3 hf15 hf6 lo12 hi12 lo3 hi3 _ _ n_x1.symm x5 x2 fl16 ch13 fl7 ch4 hf16 hf7 lo13 hi13 lo4 hi4 _ _ n_x2.symm x6 x3 fl17 ch14 fl8 ch5 hf17 hf8 lo14 hi14 lo5 hi5 _ _ n_x3.symm _ O_b530 O_b520 S_x4 S_x1 S_x5 S_x2 S_x6 S_x3 OL)) rfl (lenOf pd_6 rfl) (by decide) (W := 0) (Nat.le_of_eq rfl) (by decide) (k' := 38) (n' := 78) rfl rfl (by decide) (by decide) (argsL := [(.ref b520)]) (rest := []) rfl (fun v570 h569 q571 => ?_)
              obtain ⟨rfl, rfl⟩ := q571
              rw [own_q_symm fl15 ch12 fl6 ch3, own_q_symm fl16 ch13 fl7 ch4, own_q_symm fl17 ch14 fl8 ch5]
              refine G.cast (st' := [(.int (own_and3 (own_q fl6 ch3 fl15 ch12) (own_q fl7 ch4 fl16 ch13) (own_q fl8 ch5 fl17 ch14)))]) ?_ rfl
              refine g_iload cx d0_455 rfl ?_
              refine g_icmp_ne cx d0_457 (fun q => absurd q (fun q => q (by simp [own_and3, hc398, hc412, hc426]))) (fun hc457 => ?_)
              refine g_aload cx d0_460 rfl rfl ?_
              refine g_aload cx d0_462 rfl rfl ?_
              refine g_virtual cx (y := (⟨"com/example/dyn_authz/dynauthz/process/Request", "equals", "(Ljava/lang/Object;)Z"⟩ : MethodName)) (z := (⟨"com/example/dyn_authz/dynauthz/process/Request", "equals", "(Ljava/lang/Object;)Z"⟩ : MethodName)) (a := b520) d0_464 (hw _ (List.mem_of_getElem? (i := 50) rfl)) (hw _ (List.mem_of_getElem? (i := 51) rfl)) (hw _ (List.mem_of_getElem? (i := 36) rfl)) (hw _ (List.mem_of_getElem? (i := 54) rfl)) (hw _ (List.mem_of_getElem? (i := 53) rfl)) (hw _ (List.mem_of_getElem? (i := 52) rfl)) rfl (by decide) O_b520.1 (bytes := prog_35_method_5_code) (maxL' := 4) (M := (rmreS l Z a0 hw b520 x1 x2 x3 _ O_b520 (own_Sx S_x1) (own_Sx S_x2) (own_Sx S_x3))) rfl (lenOf pd_6 rfl) (by decide) (W := 0) (Nat.le_of_eq rfl) (by decide) (k' := 38) (n' := 78) rfl rfl (by decide) (by decide) (argsL := [(.ref b520)]) (rest := []) rfl (fun v573 h572 q574 => ?_)
              obtain ⟨rfl, rfl⟩ := q574
              refine G.cast (st' := [(.int (1 : Int32))]) ?_ rfl
              refine g_if_eq cx d0_467 (fun q => absurd q (fun q => by revert q; decide)) (fun hc467 => ?_)
              refine g_iconst cx d0_470 (v := (1 : Int32)) rfl ?_
              refine g_goto cx d0_471 ?_
              refine g_retZW hEL cx wd d0_475 rfl rfl (by decide) (by decide) ?_
              rfl
            · refine g_iconst cx d0_429 (v := (1 : Int32)) rfl ?_
              refine g_goto cx d0_430 ?_
              refine g_istore cx d0_434 (Ls' := #[.val (.int ia), .val (.int ib), .val (.int ic), .val (.int ch3), .val (.int ch4), .val (.int ch5), .val (.int fl6), .val (.int fl7), .val (.int fl8), .val (.int ot9), .val (.int ot10), .val (.int ot11), .val (.int ch12), .val (.int ch13), .val (.int ch14), .val (.int fl15), .val (.int fl16), .val (.int fl17), .val (.int ot18), .val (.ref x1), .val (.ref x2), .val (.ref x3), .val (.ref x4), .val (.ref x5), .val (.ref x6), .val (.ref b520), .val (.ref b530), .val (.int (1 : Int32))]) rfl ?_
              refine g_aload cx d0_436 rfl rfl ?_
              refine g_aload cx d0_438 rfl rfl ?_
              refine g_virtual cx (y := (⟨"com/example/dyn_authz/dynauthz/process/Request", "equals", "(Ljava/lang/Object;)Z"⟩ : MethodName)) (z := (⟨"com/example/dyn_authz/dynauthz/process/Request", "equals", "(Ljava/lang/Object;)Z"⟩ : MethodName)) (a := b520) d0_440 (hw _ (List.mem_of_getElem? (i := 50) rfl)) (hw _ (List.mem_of_getElem? (i := 51) rfl)) (hw _ (List.mem_of_getElem? (i := 36) rfl)) (hw _ (List.mem_of_getElem? (i := 54) rfl)) (hw _ (List.mem_of_getElem? (i := 53) rfl)) (hw _ (List.mem_of_getElem? (i := 52) rfl)) rfl (by decide) O_b520.1 (bytes := prog_35_method_5_code) (maxL' := 4) (M := (rmre l Z a0 hw cs SCS hcs b520 b530 x1 x4 fl6 ch3 fl15 ch12 hf6 hf15 lo3 hi3 lo12 hi12 _ _ n_x1 x2 x5 fl7 ch4 fl16 ch13 hf7 hf16 lo4 hi4 lo13 hi13 _ _ n_x2 x3 x6 fl8 ch5 fl17 ch14 hf8 hf17 lo5 hi5 lo14 hi14 _ _ n_x3 _ O_b520 O_b530 S_x1 S_x4 S_x2 S_x5 S_x3 S_x6 OL)) rfl (lenOf pd_6 rfl) (by decide) (W := 0) (Nat.le_of_eq rfl) (by decide) (k' := 38) (n' := 78) rfl rfl (by decide) (by decide) (argsL := [(.ref b530)]) (rest := []) rfl (fun v576 h575 q577 => ?_)
              obtain ⟨rfl, rfl⟩ := q577
              refine G.cast (st' := [(.int (own_and3 (own_q fl6 ch3 fl15 ch12) (own_q fl7 ch4 fl16 ch13) (own_q fl8 ch5 fl17 ch14)))]) ?_ rfl
              refine g_iload cx d0_443 rfl ?_
              refine g_icmp_ne cx d0_445 (fun q => absurd q (fun q => q (by simp [own_and3, hc398, hc412, hc426]))) (fun hc445 => ?_)
              refine g_aload cx d0_448 rfl rfl ?_
              refine g_aload cx d0_450 rfl rfl ?_
              refine g_virtual cx (y := (⟨"com/example/dyn_authz/dynauthz/process/Request", "equals", "(Ljava/lang/Object;)Z"⟩ : MethodName)) (z := (⟨"com/example/dyn_authz/dynauthz/process/Request", "equals", "(Ljava/lang/Object;)Z"⟩ : MethodName)) (a := b530) d0_452 (hw _ (List.mem_of_getElem? (i := 50) rfl)) (hw _ (List.mem_of_getElem? (i := 51) rfl)) (hw _ (List.mem_of_getElem? (i := 36) rfl)) (hw _ (List.mem_of_getElem? (i := 54) rfl)) (hw _ (List.mem_of_getElem? (i := 53) rfl)) (hw _ (List.mem_of_getElem? (i := 52) rfl)) rfl (by decide) O_b530.1 (bytes := prog_35_method_5_code) (maxL' := 4) (M := (rmre l Z a0 hw cs SCS hcs b530 b520 x4 x1 fl15 ch12 fl6 ch3 hf15 hf6 lo12 hi12 lo3 hi3 _ _ n_x1.symm x5 x2 fl16 ch13 fl7 ch4 hf16 hf7 lo13 hi13 lo4 hi4 _ _ n_x2.symm x6 x3 fl17 ch14 fl8 ch5 hf17 hf8 lo14 hi14 lo5 hi5 _ _ n_x3.symm _ O_b530 O_b520 S_x4 S_x1 S_x5 S_x2 S_x6 S_x3 OL)) rfl (lenOf pd_6 rfl) (by decide) (W := 0) (Nat.le_of_eq rfl) (by decide) (k' := 38) (n' := 78) rfl rfl (by decide) (by decide) (argsL := [(.ref b520)]) (rest := []) rfl (fun v579 h578 q580 => ?_)
              obtain ⟨rfl, rfl⟩ := q580
              rw [own_q_symm fl15 ch12 fl6 ch3, own_q_symm fl16 ch13 fl7 ch4, own_q_symm fl17 ch14 fl8 ch5]
              refine G.cast (st' := [(.int (own_and3 (own_q fl6 ch3 fl15 ch12) (own_q fl7 ch4 fl16 ch13) (own_q fl8 ch5 fl17 ch14)))]) ?_ rfl
              refine g_iload cx d0_455 rfl ?_
              refine g_icmp_ne cx d0_457 (fun q => absurd q (fun q => q (by simp [own_and3, hc398, hc412, hc426]))) (fun hc457 => ?_)
              refine g_aload cx d0_460 rfl rfl ?_
              refine g_aload cx d0_462 rfl rfl ?_
              refine g_virtual cx (y := (⟨"com/example/dyn_authz/dynauthz/process/Request", "equals", "(Ljava/lang/Object;)Z"⟩ : MethodName)) (z := (⟨"com/example/dyn_authz/dynauthz/process/Request", "equals", "(Ljava/lang/Object;)Z"⟩ : MethodName)) (a := b520) d0_464 (hw _ (List.mem_of_getElem? (i := 50) rfl)) (hw _ (List.mem_of_getElem? (i := 51) rfl)) (hw _ (List.mem_of_getElem? (i := 36) rfl)) (hw _ (List.mem_of_getElem? (i := 54) rfl)) (hw _ (List.mem_of_getElem? (i := 53) rfl)) (hw _ (List.mem_of_getElem? (i := 52) rfl)) rfl (by decide) O_b520.1 (bytes := prog_35_method_5_code) (maxL' := 4) (M := (rmreS l Z a0 hw b520 x1 x2 x3 _ O_b520 (own_Sx S_x1) (own_Sx S_x2) (own_Sx S_x3))) rfl (lenOf pd_6 rfl) (by decide) (W := 0) (Nat.le_of_eq rfl) (by decide) (k' := 38) (n' := 78) rfl rfl (by decide) (by decide) (argsL := [(.ref b520)]) (rest := []) rfl (fun v582 h581 q583 => ?_)
              obtain ⟨rfl, rfl⟩ := q583
              refine G.cast (st' := [(.int (1 : Int32))]) ?_ rfl
              refine g_if_eq cx d0_467 (fun q => absurd q (fun q => by revert q; decide)) (fun hc467 => ?_)
              refine g_iconst cx d0_470 (v := (1 : Int32)) rfl ?_
              refine g_goto cx d0_471 ?_
              refine g_retZW hEL cx wd d0_475 rfl rfl (by decide) (by decide) ?_
              rfl
      · refine g_aload cx d0_372 rfl rfl ?_
        refine g_aload cx d0_374 rfl rfl ?_
        refine g_virtual cx (y := (⟨"com/example/dyn_authz/dynauthz/process/Request", "equals", "(Ljava/lang/Object;)Z"⟩ : MethodName)) (z := (⟨"com/example/dyn_authz/dynauthz/process/Request", "equals", "(Ljava/lang/Object;)Z"⟩ : MethodName)) (a := b520) d0_376 (hw _ (List.mem_of_getElem? (i := 50) rfl)) (hw _ (List.mem_of_getElem? (i := 51) rfl)) (hw _ (List.mem_of_getElem? (i := 36) rfl)) (hw _ (List.mem_of_getElem? (i := 54) rfl)) (hw _ (List.mem_of_getElem? (i := 53) rfl)) (hw _ (List.mem_of_getElem? (i := 52) rfl)) rfl (by decide) O_b520.1 (bytes := prog_35_method_5_code) (maxL' := 4) (M := (rmreX l Z a0 hw b520 x1 _ (own_Sx S_x1))) rfl (lenOf pd_6 rfl) (by decide) (W := 0) (Nat.le_of_eq rfl) (by decide) (k' := 38) (n' := 78) rfl rfl (by decide) (by decide) (argsL := [(.ref x1)]) (rest := []) rfl (fun v585 h584 q586 => ?_)
        obtain ⟨rfl, rfl⟩ := q586
        refine G.cast (st' := [(.int (0 : Int32))]) ?_ rfl
        refine g_if_ne cx d0_379 (fun q => absurd q (fun q => by revert q; decide)) (fun hc379 => ?_)
        refine g_iconst cx d0_382 (v := (1 : Int32)) rfl ?_
        refine g_goto cx d0_383 ?_
        refine g_retZW hEL cx wd d0_387 rfl rfl (by decide) (by decide) ?_
        rfl
    · refine g_aload cx d0_351 rfl rfl ?_
      refine g_aconst_null cx d0_353 ?_
      refine g_virtual cx (y := (⟨"com/example/dyn_authz/dynauthz/process/Request", "equals", "(Ljava/lang/Object;)Z"⟩ : MethodName)) (z := (⟨"com/example/dyn_authz/dynauthz/process/Request", "equals", "(Ljava/lang/Object;)Z"⟩ : MethodName)) (a := b520) d0_354 (hw _ (List.mem_of_getElem? (i := 50) rfl)) (hw _ (List.mem_of_getElem? (i := 51) rfl)) (hw _ (List.mem_of_getElem? (i := 36) rfl)) (hw _ (List.mem_of_getElem? (i := 54) rfl)) (hw _ (List.mem_of_getElem? (i := 53) rfl)) (hw _ (List.mem_of_getElem? (i := 52) rfl)) rfl (by decide) O_b520.1 (bytes := prog_35_method_5_code) (maxL' := 4) (M := (rmreN l Z a0 hw b520 _)) rfl (lenOf pd_6 rfl) (by decide) (W := 0) (Nat.le_of_eq rfl) (by decide) (k' := 38) (n' := 78) rfl rfl (by decide) (by decide) (argsL := [.null]) (rest := []) rfl (fun v588 h587 q589 => ?_)
      obtain ⟨rfl, rfl⟩ := q589
      refine G.cast (st' := [(.int (0 : Int32))]) ?_ rfl
      refine g_if_ne cx d0_357 (fun q => absurd q (fun q => by revert q; decide)) (fun hc357 => ?_)
      refine g_iconst cx d0_360 (v := (1 : Int32)) rfl ?_
      refine g_goto cx d0_361 ?_
      refine g_retZW hEL cx wd d0_365 rfl rfl (by decide) (by decide) ?_
      rfl
  refine g_iloadN cx d0_0 rfl ?_
  refine g_sipush cx d0_1 (v := (255 : Int32)) rfl ?_
  refine g_iand cx d0_4 ?_
  refine g_i2c cx d0_5 ?_
  refine g_istoreN cx d0_6 (Ls' := #[.val (.int ia), .val (.int ib), .val (.int ic), .val (.int (((ia &&& (255 : Int32))).toUInt32.toUInt16.toUInt32.toInt32)), .unset, .unset, .unset, .unset, .unset, .unset, .unset, .unset, .unset, .unset, .unset, .unset, .unset, .unset, .unset, .unset, .unset, .unset, .unset, .unset, .unset, .unset, .unset, .unset]) rfl ?_
  refine g_iloadN cx d0_7 rfl ?_
  refine g_bipush cx d0_8 (v := (8 : Int32)) rfl ?_
  refine g_iushr cx d0_10 ?_
  refine g_sipush cx d0_11 (v := (255 : Int32)) rfl ?_
  refine g_iand cx d0_14 ?_
  refine g_i2c cx d0_15 ?_
  refine g_istore cx d0_16 (Ls' := #[.val (.int ia), .val (.int ib), .val (.int ic), .val (.int (((ia &&& (255 : Int32))).toUInt32.toUInt16.toUInt32.toInt32)), .val (.int ((((((ia).toUInt32 >>> ((8 : Int32) &&& 31).toUInt32).toInt32) &&& (255 : Int32))).toUInt32.toUInt16.toUInt32.toInt32)), .unset, .unset, .unset, .unset, .unset, .unset, .unset, .unset, .unset, .unset, .unset, .unset, .unset, .unset, .unset, .unset, .unset, .unset, .unset, .unset, .unset, .unset, .unset]) rfl ?_
  refine g_iloadN cx d0_18 rfl ?_
  refine g_bipush cx d0_19 (v := (16 : Int32)) rfl ?_
  refine g_iushr cx d0_21 ?_
  refine g_sipush cx d0_22 (v := (255 : Int32)) rfl ?_
  refine g_iand cx d0_25 ?_
  refine g_i2c cx d0_26 ?_
  refine g_istore cx d0_27 (Ls' := #[.val (.int ia), .val (.int ib), .val (.int ic), .val (.int (((ia &&& (255 : Int32))).toUInt32.toUInt16.toUInt32.toInt32)), .val (.int ((((((ia).toUInt32 >>> ((8 : Int32) &&& 31).toUInt32).toInt32) &&& (255 : Int32))).toUInt32.toUInt16.toUInt32.toInt32)), .val (.int ((((((ia).toUInt32 >>> ((16 : Int32) &&& 31).toUInt32).toInt32) &&& (255 : Int32))).toUInt32.toUInt16.toUInt32.toInt32)), .unset, .unset, .unset, .unset, .unset, .unset, .unset, .unset, .unset, .unset, .unset, .unset, .unset, .unset, .unset, .unset, .unset, .unset, .unset, .unset, .unset, .unset]) rfl ?_
  refine g_iloadN cx d0_29 rfl ?_
  refine g_iconst cx d0_30 (v := (3 : Int32)) rfl ?_
  refine g_iushr cx d0_31 ?_
  refine g_iconst cx d0_32 (v := (1 : Int32)) rfl ?_
  refine g_iand cx d0_33 ?_
  refine g_tern cx d0_34 d0_37 d0_38 d0_41 ?_
  refine g_istore cx d0_42 (Ls' := #[.val (.int ia), .val (.int ib), .val (.int ic), .val (.int (((ia &&& (255 : Int32))).toUInt32.toUInt16.toUInt32.toInt32)), .val (.int ((((((ia).toUInt32 >>> ((8 : Int32) &&& 31).toUInt32).toInt32) &&& (255 : Int32))).toUInt32.toUInt16.toUInt32.toInt32)), .val (.int ((((((ia).toUInt32 >>> ((16 : Int32) &&& 31).toUInt32).toInt32) &&& (255 : Int32))).toUInt32.toUInt16.toUInt32.toInt32)), .val (.int (own_nz ((((ic).toUInt32 >>> ((3 : Int32) &&& 31).toUInt32).toInt32) &&& (1 : Int32)))), .unset, .unset, .unset, .unset, .unset, .unset, .unset, .unset, .unset, .unset, .unset, .unset, .unset, .unset, .unset, .unset, .unset, .unset, .unset, .unset, .unset]) rfl ?_
  refine g_iloadN cx d0_44 rfl ?_
  refine g_iconst cx d0_45 (v := (4 : Int32)) rfl ?_
  refine g_iushr cx d0_46 ?_
  refine g_iconst cx d0_47 (v := (1 : Int32)) rfl ?_
  refine g_iand cx d0_48 ?_
  refine g_tern cx d0_49 d0_52 d0_53 d0_56 ?_
  refine g_istore cx d0_57 (Ls' := #[.val (.int ia), .val (.int ib), .val (.int ic), .val (.int (((ia &&& (255 : Int32))).toUInt32.toUInt16.toUInt32.toInt32)), .val (.int ((((((ia).toUInt32 >>> ((8 : Int32) &&& 31).toUInt32).toInt32) &&& (255 : Int32))).toUInt32.toUInt16.toUInt32.toInt32)), .val (.int ((((((ia).toUInt32 >>> ((16 : Int32) &&& 31).toUInt32).toInt32) &&& (255 : Int32))).toUInt32.toUInt16.toUInt32.toInt32)), .val (.int (own_nz ((((ic).toUInt32 >>> ((3 : Int32) &&& 31).toUInt32).toInt32) &&& (1 : Int32)))), .val (.int (own_nz ((((ic).toUInt32 >>> ((4 : Int32) &&& 31).toUInt32).toInt32) &&& (1 : Int32)))), .unset, .unset, .unset, .unset, .unset, .unset, .unset, .unset, .unset, .unset, .unset, .unset, .unset, .unset, .unset, .unset, .unset, .unset, .unset, .unset]) rfl ?_
  refine g_iloadN cx d0_59 rfl ?_
  refine g_iconst cx d0_60 (v := (5 : Int32)) rfl ?_
  refine g_iushr cx d0_61 ?_
  refine g_iconst cx d0_62 (v := (1 : Int32)) rfl ?_
  refine g_iand cx d0_63 ?_
  refine g_tern cx d0_64 d0_67 d0_68 d0_71 ?_
  refine g_istore cx d0_72 (Ls' := #[.val (.int ia), .val (.int ib), .val (.int ic), .val (.int (((ia &&& (255 : Int32))).toUInt32.toUInt16.toUInt32.toInt32)), .val (.int ((((((ia).toUInt32 >>> ((8 : Int32) &&& 31).toUInt32).toInt32) &&& (255 : Int32))).toUInt32.toUInt16.toUInt32.toInt32)), .val (.int ((((((ia).toUInt32 >>> ((16 : Int32) &&& 31).toUInt32).toInt32) &&& (255 : Int32))).toUInt32.toUInt16.toUInt32.toInt32)), .val (.int (own_nz ((((ic).toUInt32 >>> ((3 : Int32) &&& 31).toUInt32).toInt32) &&& (1 : Int32)))), .val (.int (own_nz ((((ic).toUInt32 >>> ((4 : Int32) &&& 31).toUInt32).toInt32) &&& (1 : Int32)))), .val (.int (own_nz ((((ic).toUInt32 >>> ((5 : Int32) &&& 31).toUInt32).toInt32) &&& (1 : Int32)))), .unset, .unset, .unset, .unset, .unset, .unset, .unset, .unset, .unset, .unset, .unset, .unset, .unset, .unset, .unset, .unset, .unset, .unset, .unset]) rfl ?_
  refine g_iloadN cx d0_74 rfl ?_
  refine g_iconst cx d0_75 (v := (1 : Int32)) rfl ?_
  refine g_iand cx d0_76 ?_
  refine g_tern cx d0_77 d0_80 d0_81 d0_84 ?_
  refine g_istore cx d0_85 (Ls' := #[.val (.int ia), .val (.int ib), .val (.int ic), .val (.int (((ia &&& (255 : Int32))).toUInt32.toUInt16.toUInt32.toInt32)), .val (.int ((((((ia).toUInt32 >>> ((8 : Int32) &&& 31).toUInt32).toInt32) &&& (255 : Int32))).toUInt32.toUInt16.toUInt32.toInt32)), .val (.int ((((((ia).toUInt32 >>> ((16 : Int32) &&& 31).toUInt32).toInt32) &&& (255 : Int32))).toUInt32.toUInt16.toUInt32.toInt32)), .val (.int (own_nz ((((ic).toUInt32 >>> ((3 : Int32) &&& 31).toUInt32).toInt32) &&& (1 : Int32)))), .val (.int (own_nz ((((ic).toUInt32 >>> ((4 : Int32) &&& 31).toUInt32).toInt32) &&& (1 : Int32)))), .val (.int (own_nz ((((ic).toUInt32 >>> ((5 : Int32) &&& 31).toUInt32).toInt32) &&& (1 : Int32)))), .val (.int (own_nz (ic &&& (1 : Int32)))), .unset, .unset, .unset, .unset, .unset, .unset, .unset, .unset, .unset, .unset, .unset, .unset, .unset, .unset, .unset, .unset, .unset, .unset]) rfl ?_
  refine g_iloadN cx d0_87 rfl ?_
  refine g_iconst cx d0_88 (v := (1 : Int32)) rfl ?_
  refine g_iushr cx d0_89 ?_
  refine g_iconst cx d0_90 (v := (1 : Int32)) rfl ?_
  refine g_iand cx d0_91 ?_
  refine g_tern cx d0_92 d0_95 d0_96 d0_99 ?_
  refine g_istore cx d0_100 (Ls' := #[.val (.int ia), .val (.int ib), .val (.int ic), .val (.int (((ia &&& (255 : Int32))).toUInt32.toUInt16.toUInt32.toInt32)), .val (.int ((((((ia).toUInt32 >>> ((8 : Int32) &&& 31).toUInt32).toInt32) &&& (255 : Int32))).toUInt32.toUInt16.toUInt32.toInt32)), .val (.int ((((((ia).toUInt32 >>> ((16 : Int32) &&& 31).toUInt32).toInt32) &&& (255 : Int32))).toUInt32.toUInt16.toUInt32.toInt32)), .val (.int (own_nz ((((ic).toUInt32 >>> ((3 : Int32) &&& 31).toUInt32).toInt32) &&& (1 : Int32)))), .val (.int (own_nz ((((ic).toUInt32 >>> ((4 : Int32) &&& 31).toUInt32).toInt32) &&& (1 : Int32)))), .val (.int (own_nz ((((ic).toUInt32 >>> ((5 : Int32) &&& 31).toUInt32).toInt32) &&& (1 : Int32)))), .val (.int (own_nz (ic &&& (1 : Int32)))), .val (.int (own_nz ((((ic).toUInt32 >>> ((1 : Int32) &&& 31).toUInt32).toInt32) &&& (1 : Int32)))), .unset, .unset, .unset, .unset, .unset, .unset, .unset, .unset, .unset, .unset, .unset, .unset, .unset, .unset, .unset, .unset, .unset]) rfl ?_
  refine g_iloadN cx d0_102 rfl ?_
  refine g_iconst cx d0_103 (v := (2 : Int32)) rfl ?_
  refine g_iushr cx d0_104 ?_
  refine g_iconst cx d0_105 (v := (1 : Int32)) rfl ?_
  refine g_iand cx d0_106 ?_
  refine g_tern cx d0_107 d0_110 d0_111 d0_114 ?_
  refine g_istore cx d0_115 (Ls' := #[.val (.int ia), .val (.int ib), .val (.int ic), .val (.int (((ia &&& (255 : Int32))).toUInt32.toUInt16.toUInt32.toInt32)), .val (.int ((((((ia).toUInt32 >>> ((8 : Int32) &&& 31).toUInt32).toInt32) &&& (255 : Int32))).toUInt32.toUInt16.toUInt32.toInt32)), .val (.int ((((((ia).toUInt32 >>> ((16 : Int32) &&& 31).toUInt32).toInt32) &&& (255 : Int32))).toUInt32.toUInt16.toUInt32.toInt32)), .val (.int (own_nz ((((ic).toUInt32 >>> ((3 : Int32) &&& 31).toUInt32).toInt32) &&& (1 : Int32)))), .val (.int (own_nz ((((ic).toUInt32 >>> ((4 : Int32) &&& 31).toUInt32).toInt32) &&& (1 : Int32)))), .val (.int (own_nz ((((ic).toUInt32 >>> ((5 : Int32) &&& 31).toUInt32).toInt32) &&& (1 : Int32)))), .val (.int (own_nz (ic &&& (1 : Int32)))), .val (.int (own_nz ((((ic).toUInt32 >>> ((1 : Int32) &&& 31).toUInt32).toInt32) &&& (1 : Int32)))), .val (.int (own_nz ((((ic).toUInt32 >>> ((2 : Int32) &&& 31).toUInt32).toInt32) &&& (1 : Int32)))), .unset, .unset, .unset, .unset, .unset, .unset, .unset, .unset, .unset, .unset, .unset, .unset, .unset, .unset, .unset, .unset]) rfl ?_
  refine g_iload cx d0_117 rfl ?_
  refine g_if_eq cx d0_119 (fun hc119 => ?_) (fun hc119 => ?_)
  · refine g_iloadN cx d0_126 rfl ?_
    refine g_sipush cx d0_127 (v := (255 : Int32)) rfl ?_
    refine g_iand cx d0_130 ?_
    refine g_i2c cx d0_131 ?_
    refine g_istore cx d0_132 (Ls' := #[.val (.int ia), .val (.int ib), .val (.int ic), .val (.int (((ia &&& (255 : Int32))).toUInt32.toUInt16.toUInt32.toInt32)), .val (.int ((((((ia).toUInt32 >>> ((8 : Int32) &&& 31).toUInt32).toInt32) &&& (255 : Int32))).toUInt32.toUInt16.toUInt32.toInt32)), .val (.int ((((((ia).toUInt32 >>> ((16 : Int32) &&& 31).toUInt32).toInt32) &&& (255 : Int32))).toUInt32.toUInt16.toUInt32.toInt32)), .val (.int (own_nz ((((ic).toUInt32 >>> ((3 : Int32) &&& 31).toUInt32).toInt32) &&& (1 : Int32)))), .val (.int (own_nz ((((ic).toUInt32 >>> ((4 : Int32) &&& 31).toUInt32).toInt32) &&& (1 : Int32)))), .val (.int (own_nz ((((ic).toUInt32 >>> ((5 : Int32) &&& 31).toUInt32).toInt32) &&& (1 : Int32)))), .val (.int (own_nz (ic &&& (1 : Int32)))), .val (.int (own_nz ((((ic).toUInt32 >>> ((1 : Int32) &&& 31).toUInt32).toInt32) &&& (1 : Int32)))), .val (.int (own_nz ((((ic).toUInt32 >>> ((2 : Int32) &&& 31).toUInt32).toInt32) &&& (1 : Int32)))), .val (.int (((ib &&& (255 : Int32))).toUInt32.toUInt16.toUInt32.toInt32)), .unset, .unset, .unset, .unset, .unset, .unset, .unset, .unset, .unset, .unset, .unset, .unset, .unset, .unset, .unset]) rfl ?_
    refine g_iload cx d0_134 rfl ?_
    refine g_if_eq cx d0_136 (fun hc136 => ?_) (fun hc136 => ?_)
    · refine g_iloadN cx d0_144 rfl ?_
      refine g_bipush cx d0_145 (v := (8 : Int32)) rfl ?_
      refine g_iushr cx d0_147 ?_
      refine g_sipush cx d0_148 (v := (255 : Int32)) rfl ?_
      refine g_iand cx d0_151 ?_
      refine g_i2c cx d0_152 ?_
      refine g_istore cx d0_153 (Ls' := #[.val (.int ia), .val (.int ib), .val (.int ic), .val (.int (((ia &&& (255 : Int32))).toUInt32.toUInt16.toUInt32.toInt32)), .val (.int ((((((ia).toUInt32 >>> ((8 : Int32) &&& 31).toUInt32).toInt32) &&& (255 : Int32))).toUInt32.toUInt16.toUInt32.toInt32)), .val (.int ((((((ia).toUInt32 >>> ((16 : Int32) &&& 31).toUInt32).toInt32) &&& (255 : Int32))).toUInt32.toUInt16.toUInt32.toInt32)), .val (.int (own_nz ((((ic).toUInt32 >>> ((3 : Int32) &&& 31).toUInt32).toInt32) &&& (1 : Int32)))), .val (.int (own_nz ((((ic).toUInt32 >>> ((4 : Int32) &&& 31).toUInt32).toInt32) &&& (1 : Int32)))), .val (.int (own_nz ((((ic).toUInt32 >>> ((5 : Int32) &&& 31).toUInt32).toInt32) &&& (1 : Int32)))), .val (.int (own_nz (ic &&& (1 : Int32)))), .val (.int (own_nz ((((ic).toUInt32 >>> ((1 : Int32) &&& 31).toUInt32).toInt32) &&& (1 : Int32)))), .val (.int (own_nz ((((ic).toUInt32 >>> ((2 : Int32) &&& 31).toUInt32).toInt32) &&& (1 : Int32)))), .val (.int (((ib &&& (255 : Int32))).toUInt32.toUInt16.toUInt32.toInt32)), .val (.int ((((((ib).toUInt32 >>> ((8 : Int32) &&& 31).toUInt32).toInt32) &&& (255 : Int32))).toUInt32.toUInt16.toUInt32.toInt32)), .unset, .unset, .unset, .unset, .unset, .unset, .unset, .unset, .unset, .unset, .unset, .unset, .unset, .unset]) rfl ?_
      refine g_iload cx d0_155 rfl ?_
      refine g_if_eq cx d0_157 (fun hc157 => ?_) (fun hc157 => ?_)
      · refine g_iloadN cx d0_165 rfl ?_
        refine g_bipush cx d0_166 (v := (16 : Int32)) rfl ?_
        refine g_iushr cx d0_168 ?_
        refine g_sipush cx d0_169 (v := (255 : Int32)) rfl ?_
        refine g_iand cx d0_172 ?_
        refine g_i2c cx d0_173 ?_
        refine g_istore cx d0_174 (Ls' := #[.val (.int ia), .val (.int ib), .val (.int ic), .val (.int (((ia &&& (255 : Int32))).toUInt32.toUInt16.toUInt32.toInt32)), .val (.int ((((((ia).toUInt32 >>> ((8 : Int32) &&& 31).toUInt32).toInt32) &&& (255 : Int32))).toUInt32.toUInt16.toUInt32.toInt32)), .val (.int ((((((ia).toUInt32 >>> ((16 : Int32) &&& 31).toUInt32).toInt32) &&& (255 : Int32))).toUInt32.toUInt16.toUInt32.toInt32)), .val (.int (own_nz ((((ic).toUInt32 >>> ((3 : Int32) &&& 31).toUInt32).toInt32) &&& (1 : Int32)))), .val (.int (own_nz ((((ic).toUInt32 >>> ((4 : Int32) &&& 31).toUInt32).toInt32) &&& (1 : Int32)))), .val (.int (own_nz ((((ic).toUInt32 >>> ((5 : Int32) &&& 31).toUInt32).toInt32) &&& (1 : Int32)))), .val (.int (own_nz (ic &&& (1 : Int32)))), .val (.int (own_nz ((((ic).toUInt32 >>> ((1 : Int32) &&& 31).toUInt32).toInt32) &&& (1 : Int32)))), .val (.int (own_nz ((((ic).toUInt32 >>> ((2 : Int32) &&& 31).toUInt32).toInt32) &&& (1 : Int32)))), .val (.int (((ib &&& (255 : Int32))).toUInt32.toUInt16.toUInt32.toInt32)), .val (.int ((((((ib).toUInt32 >>> ((8 : Int32) &&& 31).toUInt32).toInt32) &&& (255 : Int32))).toUInt32.toUInt16.toUInt32.toInt32)), .val (.int ((((((ib).toUInt32 >>> ((16 : Int32) &&& 31).toUInt32).toInt32) &&& (255 : Int32))).toUInt32.toUInt16.toUInt32.toInt32)), .unset, .unset, .unset, .unset, .unset, .unset, .unset, .unset, .unset, .unset, .unset, .unset, .unset]) rfl ?_
        refine g_iload cx d0_176 rfl ?_
        refine g_if_eq cx d0_178 (fun hc178 => ?_) (fun q => absurd q (fun q => q hc119))
        refine g_iloadN cx d0_186 rfl ?_
        refine g_bipush cx d0_187 (v := (6 : Int32)) rfl ?_
        refine g_iushr cx d0_189 ?_
        refine g_iconst cx d0_190 (v := (1 : Int32)) rfl ?_
        refine g_iand cx d0_191 ?_
        refine g_tern cx d0_192 d0_195 d0_196 d0_199 ?_
        refine g_istore cx d0_200 (Ls' := #[.val (.int ia), .val (.int ib), .val (.int ic), .val (.int (((ia &&& (255 : Int32))).toUInt32.toUInt16.toUInt32.toInt32)), .val (.int ((((((ia).toUInt32 >>> ((8 : Int32) &&& 31).toUInt32).toInt32) &&& (255 : Int32))).toUInt32.toUInt16.toUInt32.toInt32)), .val (.int ((((((ia).toUInt32 >>> ((16 : Int32) &&& 31).toUInt32).toInt32) &&& (255 : Int32))).toUInt32.toUInt16.toUInt32.toInt32)), .val (.int (own_nz ((((ic).toUInt32 >>> ((3 : Int32) &&& 31).toUInt32).toInt32) &&& (1 : Int32)))), .val (.int (own_nz ((((ic).toUInt32 >>> ((4 : Int32) &&& 31).toUInt32).toInt32) &&& (1 : Int32)))), .val (.int (own_nz ((((ic).toUInt32 >>> ((5 : Int32) &&& 31).toUInt32).toInt32) &&& (1 : Int32)))), .val (.int (own_nz (ic &&& (1 : Int32)))), .val (.int (own_nz ((((ic).toUInt32 >>> ((1 : Int32) &&& 31).toUInt32).toInt32) &&& (1 : Int32)))), .val (.int (own_nz ((((ic).toUInt32 >>> ((2 : Int32) &&& 31).toUInt32).toInt32) &&& (1 : Int32)))), .val (.int (((ib &&& (255 : Int32))).toUInt32.toUInt16.toUInt32.toInt32)), .val (.int ((((((ib).toUInt32 >>> ((8 : Int32) &&& 31).toUInt32).toInt32) &&& (255 : Int32))).toUInt32.toUInt16.toUInt32.toInt32)), .val (.int ((((((ib).toUInt32 >>> ((16 : Int32) &&& 31).toUInt32).toInt32) &&& (255 : Int32))).toUInt32.toUInt16.toUInt32.toInt32)), .val (.int (own_nz ((((ic).toUInt32 >>> ((6 : Int32) &&& 31).toUInt32).toInt32) &&& (1 : Int32)))), .unset, .unset, .unset, .unset, .unset, .unset, .unset, .unset, .unset, .unset, .unset, .unset]) rfl ?_
        refine g_iload cx d0_202 rfl ?_
        refine g_if_eq cx d0_204 (fun hc204 => ?_) (fun q => absurd q (fun q => q hc136))
        refine g_iloadN cx d0_212 rfl ?_
        refine g_bipush cx d0_213 (v := (7 : Int32)) rfl ?_
        refine g_iushr cx d0_215 ?_
        refine g_iconst cx d0_216 (v := (1 : Int32)) rfl ?_
        refine g_iand cx d0_217 ?_
        refine g_tern cx d0_218 d0_221 d0_222 d0_225 ?_
        refine g_istore cx d0_226 (Ls' := #[.val (.int ia), .val (.int ib), .val (.int ic), .val (.int (((ia &&& (255 : Int32))).toUInt32.toUInt16.toUInt32.toInt32)), .val (.int ((((((ia).toUInt32 >>> ((8 : Int32) &&& 31).toUInt32).toInt32) &&& (255 : Int32))).toUInt32.toUInt16.toUInt32.toInt32)), .val (.int ((((((ia).toUInt32 >>> ((16 : Int32) &&& 31).toUInt32).toInt32) &&& (255 : Int32))).toUInt32.toUInt16.toUInt32.toInt32)), .val (.int (own_nz ((((ic).toUInt32 >>> ((3 : Int32) &&& 31).toUInt32).toInt32) &&& (1 : Int32)))), .val (.int (own_nz ((((ic).toUInt32 >>> ((4 : Int32) &&& 31).toUInt32).toInt32) &&& (1 : Int32)))), .val (.int (own_nz ((((ic).toUInt32 >>> ((5 : Int32) &&& 31).toUInt32).toInt32) &&& (1 : Int32)))), .val (.int (own_nz (ic &&& (1 : Int32)))), .val (.int (own_nz ((((ic).toUInt32 >>> ((1 : Int32) &&& 31).toUInt32).toInt32) &&& (1 : Int32)))), .val (.int (own_nz ((((ic).toUInt32 >>> ((2 : Int32) &&& 31).toUInt32).toInt32) &&& (1 : Int32)))), .val (.int (((ib &&& (255 : Int32))).toUInt32.toUInt16.toUInt32.toInt32)), .val (.int ((((((ib).toUInt32 >>> ((8 : Int32) &&& 31).toUInt32).toInt32) &&& (255 : Int32))).toUInt32.toUInt16.toUInt32.toInt32)), .val (.int ((((((ib).toUInt32 >>> ((16 : Int32) &&& 31).toUInt32).toInt32) &&& (255 : Int32))).toUInt32.toUInt16.toUInt32.toInt32)), .val (.int (own_nz ((((ic).toUInt32 >>> ((6 : Int32) &&& 31).toUInt32).toInt32) &&& (1 : Int32)))), .val (.int (own_nz ((((ic).toUInt32 >>> ((7 : Int32) &&& 31).toUInt32).toInt32) &&& (1 : Int32)))), .unset, .unset, .unset, .unset, .unset, .unset, .unset, .unset, .unset, .unset, .unset]) rfl ?_
        refine g_iload cx d0_228 rfl ?_
        refine g_if_eq cx d0_230 (fun hc230 => ?_) (fun q => absurd q (fun q => q hc157))
        refine g_iloadN cx d0_238 rfl ?_
        refine g_bipush cx d0_239 (v := (8 : Int32)) rfl ?_
        refine g_iushr cx d0_241 ?_
        refine g_iconst cx d0_242 (v := (1 : Int32)) rfl ?_
        refine g_iand cx d0_243 ?_
        refine g_tern cx d0_244 d0_247 d0_248 d0_251 ?_
        refine g_istore cx d0_252 (Ls' := #[.val (.int ia), .val (.int ib), .val (.int ic), .val (.int (((ia &&& (255 : Int32))).toUInt32.toUInt16.toUInt32.toInt32)), .val (.int ((((((ia).toUInt32 >>> ((8 : Int32) &&& 31).toUInt32).toInt32) &&& (255 : Int32))).toUInt32.toUInt16.toUInt32.toInt32)), .val (.int ((((((ia).toUInt32 >>> ((16 : Int32) &&& 31).toUInt32).toInt32) &&& (255 : Int32))).toUInt32.toUInt16.toUInt32.toInt32)), .val (.int (own_nz ((((ic).toUInt32 >>> ((3 : Int32) &&& 31).toUInt32).toInt32) &&& (1 : Int32)))), .val (.int (own_nz ((((ic).toUInt32 >>> ((4 : Int32) &&& 31).toUInt32).toInt32) &&& (1 : Int32)))), .val (.int (own_nz ((((ic).toUInt32 >>> ((5 : Int32) &&& 31).toUInt32).toInt32) &&& (1 : Int32)))), .val (.int (own_nz (ic &&& (1 : Int32)))), .val (.int (own_nz ((((ic).toUInt32 >>> ((1 : Int32) &&& 31).toUInt32).toInt32) &&& (1 : Int32)))), .val (.int (own_nz ((((ic).toUInt32 >>> ((2 : Int32) &&& 31).toUInt32).toInt32) &&& (1 : Int32)))), .val (.int (((ib &&& (255 : Int32))).toUInt32.toUInt16.toUInt32.toInt32)), .val (.int ((((((ib).toUInt32 >>> ((8 : Int32) &&& 31).toUInt32).toInt32) &&& (255 : Int32))).toUInt32.toUInt16.toUInt32.toInt32)), .val (.int ((((((ib).toUInt32 >>> ((16 : Int32) &&& 31).toUInt32).toInt32) &&& (255 : Int32))).toUInt32.toUInt16.toUInt32.toInt32)), .val (.int (own_nz ((((ic).toUInt32 >>> ((6 : Int32) &&& 31).toUInt32).toInt32) &&& (1 : Int32)))), .val (.int (own_nz ((((ic).toUInt32 >>> ((7 : Int32) &&& 31).toUInt32).toInt32) &&& (1 : Int32)))), .val (.int (own_nz ((((ic).toUInt32 >>> ((8 : Int32) &&& 31).toUInt32).toInt32) &&& (1 : Int32)))), .unset, .unset, .unset, .unset, .unset, .unset, .unset, .unset, .unset, .unset]) rfl ?_
        refine g_iloadN cx d0_254 rfl ?_
        refine g_bipush cx d0_255 (v := (9 : Int32)) rfl ?_
        refine g_iushr cx d0_257 ?_
        refine g_iconst cx d0_258 (v := (3 : Int32)) rfl ?_
        refine g_iand cx d0_259 ?_
        refine g_istore cx d0_260 (Ls' := #[.val (.int ia), .val (.int ib), .val (.int ic), .val (.int (((ia &&& (255 : Int32))).toUInt32.toUInt16.toUInt32.toInt32)), .val (.int ((((((ia).toUInt32 >>> ((8 : Int32) &&& 31).toUInt32).toInt32) &&& (255 : Int32))).toUInt32.toUInt16.toUInt32.toInt32)), .val (.int ((((((ia).toUInt32 >>> ((16 : Int32) &&& 31).toUInt32).toInt32) &&& (255 : Int32))).toUInt32.toUInt16.toUInt32.toInt32)), .val (.int (own_nz ((((ic).toUInt32 >>> ((3 : Int32) &&& 31).toUInt32).toInt32) &&& (1 : Int32)))), .val (.int (own_nz ((((ic).toUInt32 >>> ((4 : Int32) &&& 31).toUInt32).toInt32) &&& (1 : Int32)))), .val (.int (own_nz ((((ic).toUInt32 >>> ((5 : Int32) &&& 31).toUInt32).toInt32) &&& (1 : Int32)))), .val (.int (own_nz (ic &&& (1 : Int32)))), .val (.int (own_nz ((((ic).toUInt32 >>> ((1 : Int32) &&& 31).toUInt32).toInt32) &&& (1 : Int32)))), .val (.int (own_nz ((((ic).toUInt32 >>> ((2 : Int32) &&& 31).toUInt32).toInt32) &&& (1 : Int32)))), .val (.int (((ib &&& (255 : Int32))).toUInt32.toUInt16.toUInt32.toInt32)), .val (.int ((((((ib).toUInt32 >>> ((8 : Int32) &&& 31).toUInt32).toInt32) &&& (255 : Int32))).toUInt32.toUInt16.toUInt32.toInt32)), .val (.int ((((((ib).toUInt32 >>> ((16 : Int32) &&& 31).toUInt32).toInt32) &&& (255 : Int32))).toUInt32.toUInt16.toUInt32.toInt32)), .val (.int (own_nz ((((ic).toUInt32 >>> ((6 : Int32) &&& 31).toUInt32).toInt32) &&& (1 : Int32)))), .val (.int (own_nz ((((ic).toUInt32 >>> ((7 : Int32) &&& 31).toUInt32).toInt32) &&& (1 : Int32)))), .val (.int (own_nz ((((ic).toUInt32 >>> ((8 : Int32) &&& 31).toUInt32).toInt32) &&& (1 : Int32)))), .val (.int ((((ic).toUInt32 >>> ((9 : Int32) &&& 31).toUInt32).toInt32) &&& (3 : Int32))), .unset, .unset, .unset, .unset, .unset, .unset, .unset, .unset, .unset]) rfl ?_
        exact J262 _ _ _ _ _ _ _ _ _ _ _ _ _ _ _ _ (by have r3 := rng32 ia; have e2 : ((ia &&& (255 : Int32))).toInt = (ia).toInt % 256 := c_mask ia (255 : Int32) 8 (by decide) (by decide); have e1 := c_i2c (ia &&& (255 : Int32)); omega) (by have r3 := rng32 ia; have e2 : ((ia &&& (255 : Int32))).toInt = (ia).toInt % 256 := c_mask ia (255 : Int32) 8 (by decide) (by decide); have e1 := c_i2c (ia &&& (255 : Int32)); omega) (by have r4 := rng32 ia; have e3 : ((((ia).toUInt32 >>> ((8 : Int32) &&& 31).toUInt32).toInt32)).toInt = ((ia).toInt % 4294967296) / 256 := c_iushr ia (8 : Int32) 8 (by decide) (by decide); have e2 : (((((ia).toUInt32 >>> ((8 : Int32) &&& 31).toUInt32).toInt32) &&& (255 : Int32))).toInt = ((((ia).toUInt32 >>> ((8 : Int32) &&& 31).toUInt32).toInt32)).toInt % 256 := c_mask (((ia).toUInt32 >>> ((8 : Int32) &&& 31).toUInt32).toInt32) (255 : Int32) 8 (by decide) (by decide); have e1 := c_i2c ((((ia).toUInt32 >>> ((8 : Int32) &&& 31).toUInt32).toInt32) &&& (255 : Int32)); omega) (by have r4 := rng32 ia; have e3 : ((((ia).toUInt32 >>> ((8 : Int32) &&& 31).toUInt32).toInt32)).toInt = ((ia).toInt % 4294967296) / 256 := c_iushr ia (8 : Int32) 8 (by decide) (by decide); have e2 : (((((ia).toUInt32 >>> ((8 : Int32) &&& 31).toUInt32).toInt32) &&& (255 : Int32))).toInt = ((((ia).toUInt32 >>> ((8 : Int32) &&& 31).toUInt32).toInt32)).toInt % 256 := c_mask (((ia).toUInt32 >>> ((8 : Int32) &&& 31).toUInt32).toInt32) (255 : Int32) 8 (by decide) (by decide); have e1 := c_i2c ((((ia).toUInt32 >>> ((8 : Int32) &&& 31).toUInt32).toInt32) &&& (255 : Int32)); omega) (by have r4 := rng32 ia; have e3 : ((((ia).toUInt32 >>> ((16 : Int32) &&& 31).toUInt32).toInt32)).toInt = ((ia).toInt % 4294967296) / 65536 := c_iushr ia (16 : Int32) 16 (by decide) (by decide); have e2 : (((((ia).toUInt32 >>> ((16 : Int32) &&& 31).toUInt32).toInt32) &&& (255 : Int32))).toInt = ((((ia).toUInt32 >>> ((16 : Int32) &&& 31).toUInt32).toInt32)).toInt % 256 := c_mask (((ia).toUInt32 >>> ((16 : Int32) &&& 31).toUInt32).toInt32) (255 : Int32) 8 (by decide) (by decide); have e1 := c_i2c ((((ia).toUInt32 >>> ((16 : Int32) &&& 31).toUInt32).toInt32) &&& (255 : Int32)); omega) (by have r4 := rng32 ia; have e3 : ((((ia).toUInt32 >>> ((16 : Int32) &&& 31).toUInt32).toInt32)).toInt = ((ia).toInt % 4294967296) / 65536 := c_iushr ia (16 : Int32) 16 (by decide) (by decide); have e2 : (((((ia).toUInt32 >>> ((16 : Int32) &&& 31).toUInt32).toInt32) &&& (255 : Int32))).toInt = ((((ia).toUInt32 >>> ((16 : Int32) &&& 31).toUInt32).toInt32)).toInt % 256 := c_mask (((ia).toUInt32 >>> ((16 : Int32) &&& 31).toUInt32).toInt32) (255 : Int32) 8 (by decide) (by decide); have e1 := c_i2c ((((ia).toUInt32 >>> ((16 : Int32) &&& 31).toUInt32).toInt32) &&& (255 : Int32)); omega) (by have r3 := rng32 ib; have e2 : ((ib &&& (255 : Int32))).toInt = (ib).toInt % 256 := c_mask ib (255 : Int32) 8 (by decide) (by decide); have e1 := c_i2c (ib &&& (255 : Int32)); omega) (by have r3 := rng32 ib; have e2 : ((ib &&& (255 : Int32))).toInt = (ib).toInt % 256 := c_mask ib (255 : Int32) 8 (by decide) (by decide); have e1 := c_i2c (ib &&& (255 : Int32)); omega) (by have r4 := rng32 ib; have e3 : ((((ib).toUInt32 >>> ((8 : Int32) &&& 31).toUInt32).toInt32)).toInt = ((ib).toInt % 4294967296) / 256 := c_iushr ib (8 : Int32) 8 (by decide) (by decide); have e2 : (((((ib).toUInt32 >>> ((8 : Int32) &&& 31).toUInt32).toInt32) &&& (255 : Int32))).toInt = ((((ib).toUInt32 >>> ((8 : Int32) &&& 31).toUInt32).toInt32)).toInt % 256 := c_mask (((ib).toUInt32 >>> ((8 : Int32) &&& 31).toUInt32).toInt32) (255 : Int32) 8 (by decide) (by decide); have e1 := c_i2c ((((ib).toUInt32 >>> ((8 : Int32) &&& 31).toUInt32).toInt32) &&& (255 : Int32)); omega) (by have r4 := rng32 ib; have e3 : ((((ib).toUInt32 >>> ((8 : Int32) &&& 31).toUInt32).toInt32)).toInt = ((ib).toInt % 4294967296) / 256 := c_iushr ib (8 : Int32) 8 (by decide) (by decide); have e2 : (((((ib).toUInt32 >>> ((8 : Int32) &&& 31).toUInt32).toInt32) &&& (255 : Int32))).toInt = ((((ib).toUInt32 >>> ((8 : Int32) &&& 31).toUInt32).toInt32)).toInt % 256 := c_mask (((ib).toUInt32 >>> ((8 : Int32) &&& 31).toUInt32).toInt32) (255 : Int32) 8 (by decide) (by decide); have e1 := c_i2c ((((ib).toUInt32 >>> ((8 : Int32) &&& 31).toUInt32).toInt32) &&& (255 : Int32)); omega) (by have r4 := rng32 ib; have e3 : ((((ib).toUInt32 >>> ((16 : Int32) &&& 31).toUInt32).toInt32)).toInt = ((ib).toInt % 4294967296) / 65536 := c_iushr ib (16 : Int32) 16 (by decide) (by decide); have e2 : (((((ib).toUInt32 >>> ((16 : Int32) &&& 31).toUInt32).toInt32) &&& (255 : Int32))).toInt = ((((ib).toUInt32 >>> ((16 : Int32) &&& 31).toUInt32).toInt32)).toInt % 256 := c_mask (((ib).toUInt32 >>> ((16 : Int32) &&& 31).toUInt32).toInt32) (255 : Int32) 8 (by decide) (by decide); have e1 := c_i2c ((((ib).toUInt32 >>> ((16 : Int32) &&& 31).toUInt32).toInt32) &&& (255 : Int32)); omega) (by have r4 := rng32 ib; have e3 : ((((ib).toUInt32 >>> ((16 : Int32) &&& 31).toUInt32).toInt32)).toInt = ((ib).toInt % 4294967296) / 65536 := c_iushr ib (16 : Int32) 16 (by decide) (by decide); have e2 : (((((ib).toUInt32 >>> ((16 : Int32) &&& 31).toUInt32).toInt32) &&& (255 : Int32))).toInt = ((((ib).toUInt32 >>> ((16 : Int32) &&& 31).toUInt32).toInt32)).toInt % 256 := c_mask (((ib).toUInt32 >>> ((16 : Int32) &&& 31).toUInt32).toInt32) (255 : Int32) 8 (by decide) (by decide); have e1 := c_i2c ((((ib).toUInt32 >>> ((16 : Int32) &&& 31).toUInt32).toInt32) &&& (255 : Int32)); omega) (own_nz01 _) (own_nz01 _) (own_nz01 _) (own_nz01 _) (own_nz01 _) (own_nz01 _)
      · refine g_iload cx d0_160 rfl ?_
        refine g_goto cx d0_162 ?_
        refine g_istore cx d0_174 (Ls' := #[.val (.int ia), .val (.int ib), .val (.int ic), .val (.int (((ia &&& (255 : Int32))).toUInt32.toUInt16.toUInt32.toInt32)), .val (.int ((((((ia).toUInt32 >>> ((8 : Int32) &&& 31).toUInt32).toInt32) &&& (255 : Int32))).toUInt32.toUInt16.toUInt32.toInt32)), .val (.int ((((((ia).toUInt32 >>> ((16 : Int32) &&& 31).toUInt32).toInt32) &&& (255 : Int32))).toUInt32.toUInt16.toUInt32.toInt32)), .val (.int (own_nz ((((ic).toUInt32 >>> ((3 : Int32) &&& 31).toUInt32).toInt32) &&& (1 : Int32)))), .val (.int (own_nz ((((ic).toUInt32 >>> ((4 : Int32) &&& 31).toUInt32).toInt32) &&& (1 : Int32)))), .val (.int (own_nz ((((ic).toUInt32 >>> ((5 : Int32) &&& 31).toUInt32).toInt32) &&& (1 : Int32)))), .val (.int (own_nz (ic &&& (1 : Int32)))), .val (.int (own_nz ((((ic).toUInt32 >>> ((1 : Int32) &&& 31).toUInt32).toInt32) &&& (1 : Int32)))), .val (.int (own_nz ((((ic).toUInt32 >>> ((2 : Int32) &&& 31).toUInt32).toInt32) &&& (1 : Int32)))), .val (.int (((ib &&& (255 : Int32))).toUInt32.toUInt16.toUInt32.toInt32)), .val (.int ((((((ib).toUInt32 >>> ((8 : Int32) &&& 31).toUInt32).toInt32) &&& (255 : Int32))).toUInt32.toUInt16.toUInt32.toInt32)), .val (.int ((((((ia).toUInt32 >>> ((16 : Int32) &&& 31).toUInt32).toInt32) &&& (255 : Int32))).toUInt32.toUInt16.toUInt32.toInt32)), .unset, .unset, .unset, .unset, .unset, .unset, .unset, .unset, .unset, .unset, .unset, .unset, .unset]) rfl ?_
        refine g_iload cx d0_176 rfl ?_
        refine g_if_eq cx d0_178 (fun hc178 => ?_) (fun q => absurd q (fun q => q hc119))
        refine g_iloadN cx d0_186 rfl ?_
        refine g_bipush cx d0_187 (v := (6 : Int32)) rfl ?_
        refine g_iushr cx d0_189 ?_
        refine g_iconst cx d0_190 (v := (1 : Int32)) rfl ?_
        refine g_iand cx d0_191 ?_
        refine g_tern cx d0_192 d0_195 d0_196 d0_199 ?_
        refine g_istore cx d0_200 (Ls' := #[.val (.int ia), .val (.int ib), .val (.int ic), .val (.int (((ia &&& (255 : Int32))).toUInt32.toUInt16.toUInt32.toInt32)), .val (.int ((((((ia).toUInt32 >>> ((8 : Int32) &&& 31).toUInt32).toInt32) &&& (255 : Int32))).toUInt32.toUInt16.toUInt32.toInt32)), .val (.int ((((((ia).toUInt32 >>> ((16 : Int32) &&& 31).toUInt32).toInt32) &&& (255 : Int32))).toUInt32.toUInt16.toUInt32.toInt32)), .val (.int (own_nz ((((ic).toUInt32 >>> ((3 : Int32) &&& 31).toUInt32).toInt32) &&& (1 : Int32)))), .val (.int (own_nz ((((ic).toUInt32 >>> ((4 : Int32) &&& 31).toUInt32).toInt32) &&& (1 : Int32)))), .val (.int (own_nz ((((ic).toUInt32 >>> ((5 : Int32) &&& 31).toUInt32).toInt32) &&& (1 : Int32)))), .val (.int (own_nz (ic &&& (1 : Int32)))), .val (.int (own_nz ((((ic).toUInt32 >>> ((1 : Int32) &&& 31).toUInt32).toInt32) &&& (1 : Int32)))), .val (.int (own_nz ((((ic).toUInt32 >>> ((2 : Int32) &&& 31).toUInt32).toInt32) &&& (1 : Int32)))), .val (.int (((ib &&& (255 : Int32))).toUInt32.toUInt16.toUInt32.toInt32)), .val (.int ((((((ib).toUInt32 >>> ((8 : Int32) &&& 31).toUInt32).toInt32) &&& (255 : Int32))).toUInt32.toUInt16.toUInt32.toInt32)), .val (.int ((((((ia).toUInt32 >>> ((16 : Int32) &&& 31).toUInt32).toInt32) &&& (255 : Int32))).toUInt32.toUInt16.toUInt32.toInt32)), .val (.int (own_nz ((((ic).toUInt32 >>> ((6 : Int32) &&& 31).toUInt32).toInt32) &&& (1 : Int32)))), .unset, .unset, .unset, .unset, .unset, .unset, .unset, .unset, .unset, .unset, .unset, .unset]) rfl ?_
        refine g_iload cx d0_202 rfl ?_
        refine g_if_eq cx d0_204 (fun hc204 => ?_) (fun q => absurd q (fun q => q hc136))
        refine g_iloadN cx d0_212 rfl ?_
        refine g_bipush cx d0_213 (v := (7 : Int32)) rfl ?_
        refine g_iushr cx d0_215 ?_
        refine g_iconst cx d0_216 (v := (1 : Int32)) rfl ?_
        refine g_iand cx d0_217 ?_
        refine g_tern cx d0_218 d0_221 d0_222 d0_225 ?_
        refine g_istore cx d0_226 (Ls' := #[.val (.int ia), .val (.int ib), .val (.int ic), .val (.int (((ia &&& (255 : Int32))).toUInt32.toUInt16.toUInt32.toInt32)), .val (.int ((((((ia).toUInt32 >>> ((8 : Int32) &&& 31).toUInt32).toInt32) &&& (255 : Int32))).toUInt32.toUInt16.toUInt32.toInt32)), .val (.int ((((((ia).toUInt32 >>> ((16 : Int32) &&& 31).toUInt32).toInt32) &&& (255 : Int32))).toUInt32.toUInt16.toUInt32.toInt32)), .val (.int (own_nz ((((ic).toUInt32 >>> ((3 : Int32) &&& 31).toUInt32).toInt32) &&& (1 : Int32)))), .val (.int (own_nz ((((ic).toUInt32 >>> ((4 : Int32) &&& 31).toUInt32).toInt32) &&& (1 : Int32)))), .val (.int (own_nz ((((ic).toUInt32 >>> ((5 : Int32) &&& 31).toUInt32).toInt32) &&& (1 : Int32)))), .val (.int (own_nz (ic &&& (1 : Int32)))), .val (.int (own_nz ((((ic).toUInt32 >>> ((1 : Int32) &&& 31).toUInt32).toInt32) &&& (1 : Int32)))), .val (.int (own_nz ((((ic).toUInt32 >>> ((2 : Int32) &&& 31).toUInt32).toInt32) &&& (1 : Int32)))), .val (.int (((ib &&& (255 : Int32))).toUInt32.toUInt16.toUInt32.toInt32)), .val (.int ((((((ib).toUInt32 >>> ((8 : Int32) &&& 31).toUInt32).toInt32) &&& (255 : Int32))).toUInt32.toUInt16.toUInt32.toInt32)), .val (.int ((((((ia).toUInt32 >>> ((16 : Int32) &&& 31).toUInt32).toInt32) &&& (255 : Int32))).toUInt32.toUInt16.toUInt32.toInt32)), .val (.int (own_nz ((((ic).toUInt32 >>> ((6 : Int32) &&& 31).toUInt32).toInt32) &&& (1 : Int32)))), .val (.int (own_nz ((((ic).toUInt32 >>> ((7 : Int32) &&& 31).toUInt32).toInt32) &&& (1 : Int32)))), .unset, .unset, .unset, .unset, .unset, .unset, .unset, .unset, .unset, .unset, .unset]) rfl ?_
        refine g_iload cx d0_228 rfl ?_
        refine g_if_eq cx d0_230 (fun q => absurd q (fun q => hc157 q)) (fun hc230 => ?_)
        refine g_iload cx d0_233 rfl ?_
        refine g_goto cx d0_235 ?_
        refine g_istore cx d0_252 (Ls' := #[.val (.int ia), .val (.int ib), .val (.int ic), .val (.int (((ia &&& (255 : Int32))).toUInt32.toUInt16.toUInt32.toInt32)), .val (.int ((((((ia).toUInt32 >>> ((8 : Int32) &&& 31).toUInt32).toInt32) &&& (255 : Int32))).toUInt32.toUInt16.toUInt32.toInt32)), .val (.int ((((((ia).toUInt32 >>> ((16 : Int32) &&& 31).toUInt32).toInt32) &&& (255 : Int32))).toUInt32.toUInt16.toUInt32.toInt32)), .val (.int (own_nz ((((ic).toUInt32 >>> ((3 : Int32) &&& 31).toUInt32).toInt32) &&& (1 : Int32)))), .val (.int (own_nz ((((ic).toUInt32 >>> ((4 : Int32) &&& 31).toUInt32).toInt32) &&& (1 : Int32)))), .val (.int (own_nz ((((ic).toUInt32 >>> ((5 : Int32) &&& 31).toUInt32).toInt32) &&& (1 : Int32)))), .val (.int (own_nz (ic &&& (1 : Int32)))), .val (.int (own_nz ((((ic).toUInt32 >>> ((1 : Int32) &&& 31).toUInt32).toInt32) &&& (1 : Int32)))), .val (.int (own_nz ((((ic).toUInt32 >>> ((2 : Int32) &&& 31).toUInt32).toInt32) &&& (1 : Int32)))), .val (.int (((ib &&& (255 : Int32))).toUInt32.toUInt16.toUInt32.toInt32)), .val (.int ((((((ib).toUInt32 >>> ((8 : Int32) &&& 31).toUInt32).toInt32) &&& (255 : Int32))).toUInt32.toUInt16.toUInt32.toInt32)), .val (.int ((((((ia).toUInt32 >>> ((16 : Int32) &&& 31).toUInt32).toInt32) &&& (255 : Int32))).toUInt32.toUInt16.toUInt32.toInt32)), .val (.int (own_nz ((((ic).toUInt32 >>> ((6 : Int32) &&& 31).toUInt32).toInt32) &&& (1 : Int32)))), .val (.int (own_nz ((((ic).toUInt32 >>> ((7 : Int32) &&& 31).toUInt32).toInt32) &&& (1 : Int32)))), .val (.int (own_nz ((((ic).toUInt32 >>> ((5 : Int32) &&& 31).toUInt32).toInt32) &&& (1 : Int32)))), .unset, .unset, .unset, .unset, .unset, .unset, .unset, .unset, .unset, .unset]) rfl ?_
        refine g_iloadN cx d0_254 rfl ?_
        refine g_bipush cx d0_255 (v := (9 : Int32)) rfl ?_
        refine g_iushr cx d0_257 ?_
        refine g_iconst cx d0_258 (v := (3 : Int32)) rfl ?_
        refine g_iand cx d0_259 ?_
        refine g_istore cx d0_260 (Ls' := #[.val (.int ia), .val (.int ib), .val (.int ic), .val (.int (((ia &&& (255 : Int32))).toUInt32.toUInt16.toUInt32.toInt32)), .val (.int ((((((ia).toUInt32 >>> ((8 : Int32) &&& 31).toUInt32).toInt32) &&& (255 : Int32))).toUInt32.toUInt16.toUInt32.toInt32)), .val (.int ((((((ia).toUInt32 >>> ((16 : Int32) &&& 31).toUInt32).toInt32) &&& (255 : Int32))).toUInt32.toUInt16.toUInt32.toInt32)), .val (.int (own_nz ((((ic).toUInt32 >>> ((3 : Int32) &&& 31).toUInt32).toInt32) &&& (1 : Int32)))), .val (.int (own_nz ((((ic).toUInt32 >>> ((4 : Int32) &&& 31).toUInt32).toInt32) &&& (1 : Int32)))), .val (.int (own_nz ((((ic).toUInt32 >>> ((5 : Int32) &&& 31).toUInt32).toInt32) &&& (1 : Int32)))), .val (.int (own_nz (ic &&& (1 : Int32)))), .val (.int (own_nz ((((ic).toUInt32 >>> ((1 : Int32) &&& 31).toUInt32).toInt32) &&& (1 : Int32)))), .val (.int (own_nz ((((ic).toUInt32 >>> ((2 : Int32) &&& 31).toUInt32).toInt32) &&& (1 : Int32)))), .val (.int (((ib &&& (255 : Int32))).toUInt32.toUInt16.toUInt32.toInt32)), .val (.int ((((((ib).toUInt32 >>> ((8 : Int32) &&& 31).toUInt32).toInt32) &&& (255 : Int32))).toUInt32.toUInt16.toUInt32.toInt32)), .val (.int ((((((ia).toUInt32 >>> ((16 : Int32) &&& 31).toUInt32).toInt32) &&& (255 : Int32))).toUInt32.toUInt16.toUInt32.toInt32)), .val (.int (own_nz ((((ic).toUInt32 >>> ((6 : Int32) &&& 31).toUInt32).toInt32) &&& (1 : Int32)))), .val (.int (own_nz ((((ic).toUInt32 >>> ((7 : Int32) &&& 31).toUInt32).toInt32) &&& (1 : Int32)))), .val (.int (own_nz ((((ic).toUInt32 >>> ((5 : Int32) &&& 31).toUInt32).toInt32) &&& (1 : Int32)))), .val (.int ((((ic).toUInt32 >>> ((9 : Int32) &&& 31).toUInt32).toInt32) &&& (3 : Int32))), .unset, .unset, .unset, .unset, .unset, .unset, .unset, .unset, .unset]) rfl ?_
        exact J262 _ _ _ _ _ _ _ _ _ _ _ _ _ _ _ _ (by have r3 := rng32 ia; have e2 : ((ia &&& (255 : Int32))).toInt = (ia).toInt % 256 := c_mask ia (255 : Int32) 8 (by decide) (by decide); have e1 := c_i2c (ia &&& (255 : Int32)); omega) (by have r3 := rng32 ia; have e2 : ((ia &&& (255 : Int32))).toInt = (ia).toInt % 256 := c_mask ia (255 : Int32) 8 (by decide) (by decide); have e1 := c_i2c (ia &&& (255 : Int32)); omega) (by have r4 := rng32 ia; have e3 : ((((ia).toUInt32 >>> ((8 : Int32) &&& 31).toUInt32).toInt32)).toInt = ((ia).toInt % 4294967296) / 256 := c_iushr ia (8 : Int32) 8 (by decide) (by decide); have e2 : (((((ia).toUInt32 >>> ((8 : Int32) &&& 31).toUInt32).toInt32) &&& (255 : Int32))).toInt = ((((ia).toUInt32 >>> ((8 : Int32) &&& 31).toUInt32).toInt32)).toInt % 256 := c_mask (((ia).toUInt32 >>> ((8 : Int32) &&& 31).toUInt32).toInt32) (255 : Int32) 8 (by decide) (by decide); have e1 := c_i2c ((((ia).toUInt32 >>> ((8 : Int32) &&& 31).toUInt32).toInt32) &&& (255 : Int32)); omega) (by have r4 := rng32 ia; have e3 : ((((ia).toUInt32 >>> ((8 : Int32) &&& 31).toUInt32).toInt32)).toInt = ((ia).toInt % 4294967296) / 256 := c_iushr ia (8 : Int32) 8 (by decide) (by decide); have e2 : (((((ia).toUInt32 >>> ((8 : Int32) &&& 31).toUInt32).toInt32) &&& (255 : Int32))).toInt = ((((ia).toUInt32 >>> ((8 : Int32) &&& 31).toUInt32).toInt32)).toInt % 256 := c_mask (((ia).toUInt32 >>> ((8 : Int32) &&& 31).toUInt32).toInt32) (255 : Int32) 8 (by decide) (by decide); have e1 := c_i2c ((((ia).toUInt32 >>> ((8 : Int32) &&& 31).toUInt32).toInt32) &&& (255 : Int32)); omega) (by have r4 := rng32 ia; have e3 : ((((ia).toUInt32 >>> ((16 : Int32) &&& 31).toUInt32).toInt32)).toInt = ((ia).toInt % 4294967296) / 65536 := c_iushr ia (16 : Int32) 16 (by decide) (by decide); have e2 : (((((ia).toUInt32 >>> ((16 : Int32) &&& 31).toUInt32).toInt32) &&& (255 : Int32))).toInt = ((((ia).toUInt32 >>> ((16 : Int32) &&& 31).toUInt32).toInt32)).toInt % 256 := c_mask (((ia).toUInt32 >>> ((16 : Int32) &&& 31).toUInt32).toInt32) (255 : Int32) 8 (by decide) (by decide); have e1 := c_i2c ((((ia).toUInt32 >>> ((16 : Int32) &&& 31).toUInt32).toInt32) &&& (255 : Int32)); omega) (by have r4 := rng32 ia; have e3 : ((((ia).toUInt32 >>> ((16 : Int32) &&& 31).toUInt32).toInt32)).toInt = ((ia).toInt % 4294967296) / 65536 := c_iushr ia (16 : Int32) 16 (by decide) (by decide); have e2 : (((((ia).toUInt32 >>> ((16 : Int32) &&& 31).toUInt32).toInt32) &&& (255 : Int32))).toInt = ((((ia).toUInt32 >>> ((16 : Int32) &&& 31).toUInt32).toInt32)).toInt % 256 := c_mask (((ia).toUInt32 >>> ((16 : Int32) &&& 31).toUInt32).toInt32) (255 : Int32) 8 (by decide) (by decide); have e1 := c_i2c ((((ia).toUInt32 >>> ((16 : Int32) &&& 31).toUInt32).toInt32) &&& (255 : Int32)); omega) (by have r3 := rng32 ib; have e2 : ((ib &&& (255 : Int32))).toInt = (ib).toInt % 256 := c_mask ib (255 : Int32) 8 (by decide) (by decide); have e1 := c_i2c (ib &&& (255 : Int32)); omega) (by have r3 := rng32 ib; have e2 : ((ib &&& (255 : Int32))).toInt = (ib).toInt % 256 := c_mask ib (255 : Int32) 8 (by decide) (by decide); have e1 := c_i2c (ib &&& (255 : Int32)); omega) (by have r4 := rng32 ib; have e3 : ((((ib).toUInt32 >>> ((8 : Int32) &&& 31).toUInt32).toInt32)).toInt = ((ib).toInt % 4294967296) / 256 := c_iushr ib (8 : Int32) 8 (by decide) (by decide); have e2 : (((((ib).toUInt32 >>> ((8 : Int32) &&& 31).toUInt32).toInt32) &&& (255 : Int32))).toInt = ((((ib).toUInt32 >>> ((8 : Int32) &&& 31).toUInt32).toInt32)).toInt % 256 := c_mask (((ib).toUInt32 >>> ((8 : Int32) &&& 31).toUInt32).toInt32) (255 : Int32) 8 (by decide) (by decide); have e1 := c_i2c ((((ib).toUInt32 >>> ((8 : Int32) &&& 31).toUInt32).toInt32) &&& (255 : Int32)); omega) (by have r4 := rng32 ib; have e3 : ((((ib).toUInt32 >>> ((8 : Int32) &&& 31).toUInt32).toInt32)).toInt = ((ib).toInt % 4294967296) / 256 := c_iushr ib (8 : Int32) 8 (by decide) (by decide); have e2 : (((((ib).toUInt32 >>> ((8 : Int32) &&& 31).toUInt32).toInt32) &&& (255 : Int32))).toInt = ((((ib).toUInt32 >>> ((8 : Int32) &&& 31).toUInt32).toInt32)).toInt % 256 := c_mask (((ib).toUInt32 >>> ((8 : Int32) &&& 31).toUInt32).toInt32) (255 : Int32) 8 (by decide) (by decide); have e1 := c_i2c ((((ib).toUInt32 >>> ((8 : Int32) &&& 31).toUInt32).toInt32) &&& (255 : Int32)); omega) (by have r4 := rng32 ia; have e3 : ((((ia).toUInt32 >>> ((16 : Int32) &&& 31).toUInt32).toInt32)).toInt = ((ia).toInt % 4294967296) / 65536 := c_iushr ia (16 : Int32) 16 (by decide) (by decide); have e2 : (((((ia).toUInt32 >>> ((16 : Int32) &&& 31).toUInt32).toInt32) &&& (255 : Int32))).toInt = ((((ia).toUInt32 >>> ((16 : Int32) &&& 31).toUInt32).toInt32)).toInt % 256 := c_mask (((ia).toUInt32 >>> ((16 : Int32) &&& 31).toUInt32).toInt32) (255 : Int32) 8 (by decide) (by decide); have e1 := c_i2c ((((ia).toUInt32 >>> ((16 : Int32) &&& 31).toUInt32).toInt32) &&& (255 : Int32)); omega) (by have r4 := rng32 ia; have e3 : ((((ia).toUInt32 >>> ((16 : Int32) &&& 31).toUInt32).toInt32)).toInt = ((ia).toInt % 4294967296) / 65536 := c_iushr ia (16 : Int32) 16 (by decide) (by decide); have e2 : (((((ia).toUInt32 >>> ((16 : Int32) &&& 31).toUInt32).toInt32) &&& (255 : Int32))).toInt = ((((ia).toUInt32 >>> ((16 : Int32) &&& 31).toUInt32).toInt32)).toInt % 256 := c_mask (((ia).toUInt32 >>> ((16 : Int32) &&& 31).toUInt32).toInt32) (255 : Int32) 8 (by decide) (by decide); have e1 := c_i2c ((((ia).toUInt32 >>> ((16 : Int32) &&& 31).toUInt32).toInt32) &&& (255 : Int32)); omega) (own_nz01 _) (own_nz01 _) (own_nz01 _) (own_nz01 _) (own_nz01 _) (own_nz01 _)
    · refine g_iload cx d0_139 rfl ?_
      refine g_goto cx d0_141 ?_
      refine g_istore cx d0_153 (Ls' := #[.val (.int ia), .val (.int ib), .val (.int ic), .val (.int (((ia &&& (255 : Int32))).toUInt32.toUInt16.toUInt32.toInt32)), .val (.int ((((((ia).toUInt32 >>> ((8 : Int32) &&& 31).toUInt32).toInt32) &&& (255 : Int32))).toUInt32.toUInt16.toUInt32.toInt32)), .val (.int ((((((ia).toUInt32 >>> ((16 : Int32) &&& 31).toUInt32).toInt32) &&& (255 : Int32))).toUInt32.toUInt16.toUInt32.toInt32)), .val (.int (own_nz ((((ic).toUInt32 >>> ((3 : Int32) &&& 31).toUInt32).toInt32) &&& (1 : Int32)))), .val (.int (own_nz ((((ic).toUInt32 >>> ((4 : Int32) &&& 31).toUInt32).toInt32) &&& (1 : Int32)))), .val (.int (own_nz ((((ic).toUInt32 >>> ((5 : Int32) &&& 31).toUInt32).toInt32) &&& (1 : Int32)))), .val (.int (own_nz (ic &&& (1 : Int32)))), .val (.int (own_nz ((((ic).toUInt32 >>> ((1 : Int32) &&& 31).toUInt32).toInt32) &&& (1 : Int32)))), .val (.int (own_nz ((((ic).toUInt32 >>> ((2 : Int32) &&& 31).toUInt32).toInt32) &&& (1 : Int32)))), .val (.int (((ib &&& (255 : Int32))).toUInt32.toUInt16.toUInt32.toInt32)), .val (.int ((((((ia).toUInt32 >>> ((8 : Int32) &&& 31).toUInt32).toInt32) &&& (255 : Int32))).toUInt32.toUInt16.toUInt32.toInt32)), .unset, .unset, .unset, .unset, .unset, .unset, .unset, .unset, .unset, .unset, .unset, .unset, .unset, .unset]) rfl ?_
      refine g_iload cx d0_155 rfl ?_
      refine g_if_eq cx d0_157 (fun hc157 => ?_) (fun hc157 => ?_)
      · refine g_iloadN cx d0_165 rfl ?_
        refine g_bipush cx d0_166 (v := (16 : Int32)) rfl ?_
        refine g_iushr cx d0_168 ?_
        refine g_sipush cx d0_169 (v := (255 : Int32)) rfl ?_
        refine g_iand cx d0_172 ?_
        refine g_i2c cx d0_173 ?_
        refine g_istore cx d0_174 (Ls' := #[.val (.int ia), .val (.int ib), .val (.int ic), .val (.int (((ia &&& (255 : Int32))).toUInt32.toUInt16.toUInt32.toInt32)), .val (.int ((((((ia).toUInt32 >>> ((8 : Int32) &&& 31).toUInt32).toInt32) &&& (255 : Int32))).toUInt32.toUInt16.toUInt32.toInt32)), .val (.int ((((((ia).toUInt32 >>> ((16 : Int32) &&& 31).toUInt32).toInt32) &&& (255 : Int32))).toUInt32.toUInt16.toUInt32.toInt32)), .val (.int (own_nz ((((ic).toUInt32 >>> ((3 : Int32) &&& 31).toUInt32).toInt32) &&& (1 : Int32)))), .val (.int (own_nz ((((ic).toUInt32 >>> ((4 : Int32) &&& 31).toUInt32).toInt32) &&& (1 : Int32)))), .val (.int (own_nz ((((ic).toUInt32 >>> ((5 : Int32) &&& 31).toUInt32).toInt32) &&& (1 : Int32)))), .val (.int (own_nz (ic &&& (1 : Int32)))), .val (.int (own_nz ((((ic).toUInt32 >>> ((1 : Int32) &&& 31).toUInt32).toInt32) &&& (1 : Int32)))), .val (.int (own_nz ((((ic).toUInt32 >>> ((2 : Int32) &&& 31).toUInt32).toInt32) &&& (1 : Int32)))), .val (.int (((ib &&& (255 : Int32))).toUInt32.toUInt16.toUInt32.toInt32)), .val (.int ((((((ia).toUInt32 >>> ((8 : Int32) &&& 31).toUInt32).toInt32) &&& (255 : Int32))).toUInt32.toUInt16.toUInt32.toInt32)), .val (.int ((((((ib).toUInt32 >>> ((16 : Int32) &&& 31).toUInt32).toInt32) &&& (255 : Int32))).toUInt32.toUInt16.toUInt32.toInt32)), .unset, .unset, .unset, .unset, .unset, .unset, .unset, .unset, .unset, .unset, .unset, .unset, .unset]) rfl ?_
        refine g_iload cx d0_176 rfl ?_
        refine g_if_eq cx d0_178 (fun hc178 => ?_) (fun q => absurd q (fun q => q hc119))
        refine g_iloadN cx d0_186 rfl ?_
        refine g_bipush cx d0_187 (v := (6 : Int32)) rfl ?_
        refine g_iushr cx d0_189 ?_
        refine g_iconst cx d0_190 (v := (1 : Int32)) rfl ?_
        refine g_iand cx d0_191 ?_
        refine g_tern cx d0_192 d0_195 d0_196 d0_199 ?_
        refine g_istore cx d0_200 (Ls' := #[.val (.int ia), .val (.int ib), .val (.int ic), .val (.int (((ia &&& (255 : Int32))).toUInt32.toUInt16.toUInt32.toInt32)), .val (.int ((((((ia).toUInt32 >>> ((8 : Int32) &&& 31).toUInt32).toInt32) &&& (255 : Int32))).toUInt32.toUInt16.toUInt32.toInt32)), .val (.int ((((((ia).toUInt32 >>> ((16 : Int32) &&& 31).toUInt32).toInt32) &&& (255 : Int32))).toUInt32.toUInt16.toUInt32.toInt32)), .val (.int (own_nz ((((ic).toUInt32 >>> ((3 : Int32) &&& 31).toUInt32).toInt32) &&& (1 : Int32)))), .val (.int (own_nz ((((ic).toUInt32 >>> ((4 : Int32) &&& 31).toUInt32).toInt32) &&& (1 : Int32)))), .val (.int (own_nz ((((ic).toUInt32 >>> ((5 : Int32) &&& 31).toUInt32).toInt32) &&& (1 : Int32)))), .val (.int (own_nz (ic &&& (1 : Int32)))), .val (.int (own_nz ((((ic).toUInt32 >>> ((1 : Int32) &&& 31).toUInt32).toInt32) &&& (1 : Int32)))), .val (.int (own_nz ((((ic).toUInt32 >>> ((2 : Int32) &&& 31).toUInt32).toInt32) &&& (1 : Int32)))), .val (.int (((ib &&& (255 : Int32))).toUInt32.toUInt16.toUInt32.toInt32)), .val (.int ((((((ia).toUInt32 >>> ((8 : Int32) &&& 31).toUInt32).toInt32) &&& (255 : Int32))).toUInt32.toUInt16.toUInt32.toInt32)), .val (.int ((((((ib).toUInt32 >>> ((16 : Int32) &&& 31).toUInt32).toInt32) &&& (255 : Int32))).toUInt32.toUInt16.toUInt32.toInt32)), .val (.int (own_nz ((((ic).toUInt32 >>> ((6 : Int32) &&& 31).toUInt32).toInt32) &&& (1 : Int32)))), .unset, .unset, .unset, .unset, .unset, .unset, .unset, .unset, .unset, .unset, .unset, .unset]) rfl ?_
        refine g_iload cx d0_202 rfl ?_
        refine g_if_eq cx d0_204 (fun q => absurd q (fun q => hc136 q)) (fun hc204 => ?_)
        refine g_iload cx d0_207 rfl ?_
        refine g_goto cx d0_209 ?_
        refine g_istore cx d0_226 (Ls' := #[.val (.int ia), .val (.int ib), .val (.int ic), .val (.int (((ia &&& (255 : Int32))).toUInt32.toUInt16.toUInt32.toInt32)), .val (.int ((((((ia).toUInt32 >>> ((8 : Int32) &&& 31).toUInt32).toInt32) &&& (255 : Int32))).toUInt32.toUInt16.toUInt32.toInt32)), .val (.int ((((((ia).toUInt32 >>> ((16 : Int32) &&& 31).toUInt32).toInt32) &&& (255 : Int32))).toUInt32.toUInt16.toUInt32.toInt32)), .val (.int (own_nz ((((ic).toUInt32 >>> ((3 : Int32) &&& 31).toUInt32).toInt32) &&& (1 : Int32)))), .val (.int (own_nz ((((ic).toUInt32 >>> ((4 : Int32) &&& 31).toUInt32).toInt32) &&& (1 : Int32)))), .val (.int (own_nz ((((ic).toUInt32 >>> ((5 : Int32) &&& 31).toUInt32).toInt32) &&& (1 : Int32)))), .val (.int (own_nz (ic &&& (1 : Int32)))), .val (.int (own_nz ((((ic).toUInt32 >>> ((1 : Int32) &&& 31).toUInt32).toInt32) &&& (1 : Int32)))), .val (.int (own_nz ((((ic).toUInt32 >>> ((2 : Int32) &&& 31).toUInt32).toInt32) &&& (1 : Int32)))), .val (.int (((ib &&& (255 : Int32))).toUInt32.toUInt16.toUInt32.toInt32)), .val (.int ((((((ia).toUInt32 >>> ((8 : Int32) &&& 31).toUInt32).toInt32) &&& (255 : Int32))).toUInt32.toUInt16.toUInt32.toInt32)), .val (.int ((((((ib).toUInt32 >>> ((16 : Int32) &&& 31).toUInt32).toInt32) &&& (255 : Int32))).toUInt32.toUInt16.toUInt32.toInt32)), .val (.int (own_nz ((((ic).toUInt32 >>> ((6 : Int32) &&& 31).toUInt32).toInt32) &&& (1 : Int32)))), .val (.int (own_nz ((((ic).toUInt32 >>> ((4 : Int32) &&& 31).toUInt32).toInt32) &&& (1 : Int32)))), .unset, .unset, .unset, .unset, .unset, .unset, .unset, .unset, .unset, .unset, .unset]) rfl ?_
        refine g_iload cx d0_228 rfl ?_
        refine g_if_eq cx d0_230 (fun hc230 => ?_) (fun q => absurd q (fun q => q hc157))
        refine g_iloadN cx d0_238 rfl ?_
        refine g_bipush cx d0_239 (v := (8 : Int32)) rfl ?_
        refine g_iushr cx d0_241 ?_
        refine g_iconst cx d0_242 (v := (1 : Int32)) rfl ?_
        refine g_iand cx d0_243 ?_
        refine g_tern cx d0_244 d0_247 d0_248 d0_251 ?_
        refine g_istore cx d0_252 (Ls' := #[.val (.int ia), .val (.int ib), .val (.int ic), .val (.int (((ia &&& (255 : Int32))).toUInt32.toUInt16.toUInt32.toInt32)), .val (.int ((((((ia).toUInt32 >>> ((8 : Int32) &&& 31).toUInt32).toInt32) &&& (255 : Int32))).toUInt32.toUInt16.toUInt32.toInt32)), .val (.int ((((((ia).toUInt32 >>> ((16 : Int32) &&& 31).toUInt32).toInt32) &&& (255 : Int32))).toUInt32.toUInt16.toUInt32.toInt32)), .val (.int (own_nz ((((ic).toUInt32 >>> ((3 : Int32) &&& 31).toUInt32).toInt32) &&& (1 : Int32)))), .val (.int (own_nz ((((ic).toUInt32 >>> ((4 : Int32) &&& 31).toUInt32).toInt32) &&& (1 : Int32)))), .val (.int (own_nz ((((ic).toUInt32 >>> ((5 : Int32) &&& 31).toUInt32).toInt32) &&& (1 : Int32)))), .val (.int (own_nz (ic &&& (1 : Int32)))), .val (.int (own_nz ((((ic).toUInt32 >>> ((1 : Int32) &&& 31).toUInt32).toInt32) &&& (1 : Int32)))), .val (.int (own_nz ((((ic).toUInt32 >>> ((2 : Int32) &&& 31).toUInt32).toInt32) &&& (1 : Int32)))), .val (.int (((ib &&& (255 : Int32))).toUInt32.toUInt16.toUInt32.toInt32)), .val (.int ((((((ia).toUInt32 >>> ((8 : Int32) &&& 31).toUInt32).toInt32) &&& (255 : Int32))).toUInt32.toUInt16.toUInt32.toInt32)), .val (.int ((((((ib).toUInt32 >>> ((16 : Int32) &&& 31).toUInt32).toInt32) &&& (255 : Int32))).toUInt32.toUInt16.toUInt32.toInt32)), .val (.int (own_nz ((((ic).toUInt32 >>> ((6 : Int32) &&& 31).toUInt32).toInt32) &&& (1 : Int32)))), .val (.int (own_nz ((((ic).toUInt32 >>> ((4 : Int32) &&& 31).toUInt32).toInt32) &&& (1 : Int32)))), .val (.int (own_nz ((((ic).toUInt32 >>> ((8 : Int32) &&& 31).toUInt32).toInt32) &&& (1 : Int32)))), .unset, .unset, .unset, .unset, .unset, .unset, .unset, .unset, .unset, .unset]) rfl ?_
        refine g_iloadN cx d0_254 rfl ?_
        refine g_bipush cx d0_255 (v := (9 : Int32)) rfl ?_
        refine g_iushr cx d0_257 ?_
        refine g_iconst cx d0_258 (v := (3 : Int32)) rfl ?_
        refine g_iand cx d0_259 ?_
        refine g_istore cx d0_260 (Ls' := #[.val (.int ia), .val (.int ib), .val (.int ic), .val (.int (((ia &&& (255 : Int32))).toUInt32.toUInt16.toUInt32.toInt32)), .val (.int ((((((ia).toUInt32 >>> ((8 : Int32) &&& 31).toUInt32).toInt32) &&& (255 : Int32))).toUInt32.toUInt16.toUInt32.toInt32)), .val (.int ((((((ia).toUInt32 >>> ((16 : Int32) &&& 31).toUInt32).toInt32) &&& (255 : Int32))).toUInt32.toUInt16.toUInt32.toInt32)), .val (.int (own_nz ((((ic).toUInt32 >>> ((3 : Int32) &&& 31).toUInt32).toInt32) &&& (1 : Int32)))), .val (.int (own_nz ((((ic).toUInt32 >>> ((4 : Int32) &&& 31).toUInt32).toInt32) &&& (1 : Int32)))), .val (.int (own_nz ((((ic).toUInt32 >>> ((5 : Int32) &&& 31).toUInt32).toInt32) &&& (1 : Int32)))), .val (.int (own_nz (ic &&& (1 : Int32)))), .val (.int (own_nz ((((ic).toUInt32 >>> ((1 : Int32) &&& 31).toUInt32).toInt32) &&& (1 : Int32)))), .val (.int (own_nz ((((ic).toUInt32 >>> ((2 : Int32) &&& 31).toUInt32).toInt32) &&& (1 : Int32)))), .val (.int (((ib &&& (255 : Int32))).toUInt32.toUInt16.toUInt32.toInt32)), .val (.int ((((((ia).toUInt32 >>> ((8 : Int32) &&& 31).toUInt32).toInt32) &&& (255 : Int32))).toUInt32.toUInt16.toUInt32.toInt32)), .val (.int ((((((ib).toUInt32 >>> ((16 : Int32) &&& 31).toUInt32).toInt32) &&& (255 : Int32))).toUInt32.toUInt16.toUInt32.toInt32)), .val (.int (own_nz ((((ic).toUInt32 >>> ((6 : Int32) &&& 31).toUInt32).toInt32) &&& (1 : Int32)))), .val (.int (own_nz ((((ic).toUInt32 >>> ((4 : Int32) &&& 31).toUInt32).toInt32) &&& (1 : Int32)))), .val (.int (own_nz ((((ic).toUInt32 >>> ((8 : Int32) &&& 31).toUInt32).toInt32) &&& (1 : Int32)))), .val (.int ((((ic).toUInt32 >>> ((9 : Int32) &&& 31).toUInt32).toInt32) &&& (3 : Int32))), .unset, .unset, .unset, .unset, .unset, .unset, .unset, .unset, .unset]) rfl ?_
        exact J262 _ _ _ _ _ _ _ _ _ _ _ _ _ _ _ _ (by have r3 := rng32 ia; have e2 : ((ia &&& (255 : Int32))).toInt = (ia).toInt % 256 := c_mask ia (255 : Int32) 8 (by decide) (by decide); have e1 := c_i2c (ia &&& (255 : Int32)); omega) (by have r3 := rng32 ia; have e2 : ((ia &&& (255 : Int32))).toInt = (ia).toInt % 256 := c_mask ia (255 : Int32) 8 (by decide) (by decide); have e1 := c_i2c (ia &&& (255 : Int32)); omega) (by have r4 := rng32 ia; have e3 : ((((ia).toUInt32 >>> ((8 : Int32) &&& 31).toUInt32).toInt32)).toInt = ((ia).toInt % 4294967296) / 256 := c_iushr ia (8 : Int32) 8 (by decide) (by decide); have e2 : (((((ia).toUInt32 >>> ((8 : Int32) &&& 31).toUInt32).toInt32) &&& (255 : Int32))).toInt = ((((ia).toUInt32 >>> ((8 : Int32) &&& 31).toUInt32).toInt32)).toInt % 256 := c_mask (((ia).toUInt32 >>> ((8 : Int32) &&& 31).toUInt32).toInt32) (255 : Int32) 8 (by decide) (by decide); have e1 := c_i2c ((((ia).toUInt32 >>> ((8 : Int32) &&& 31).toUInt32).toInt32) &&& (255 : Int32)); omega) (by have r4 := rng32 ia; have e3 : ((((ia).toUInt32 >>> ((8 : Int32) &&& 31).toUInt32).toInt32)).toInt = ((ia).toInt % 4294967296) / 256 := c_iushr ia (8 : Int32) 8 (by decide) (by decide); have e2 : (((((ia).toUInt32 >>> ((8 : Int32) &&& 31).toUInt32).toInt32) &&& (255 : Int32))).toInt = ((((ia).toUInt32 >>> ((8 : Int32) &&& 31).toUInt32).toInt32)).toInt % 256 := c_mask (((ia).toUInt32 >>> ((8 : Int32) &&& 31).toUInt32).toInt32) (255 : Int32) 8 (by decide) (by decide); have e1 := c_i2c ((((ia).toUInt32 >>> ((8 : Int32) &&& 31).toUInt32).toInt32) &&& (255 : Int32)); omega) (by have r4 := rng32 ia; have e3 : ((((ia).toUInt32 >>> ((16 : Int32) &&& 31).toUInt32).toInt32)).toInt = ((ia).toInt % 4294967296) / 65536 := c_iushr ia (16 : Int32) 16 (by decide) (by decide); have e2 : (((((ia).toUInt32 >>> ((16 : Int32) &&& 31).toUInt32).toInt32) &&& (255 : Int32))).toInt = ((((ia).toUInt32 >>> ((16 : Int32) &&& 31).toUInt32).toInt32)).toInt % 256 := c_mask (((ia).toUInt32 >>> ((16 : Int32) &&& 31).toUInt32).toInt32) (255 : Int32) 8 (by decide) (by decide); have e1 := c_i2c ((((ia).toUInt32 >>> ((16 : Int32) &&& 31).toUInt32).toInt32) &&& (255 : Int32)); omega) (by have r4 := rng32 ia; have e3 : ((((ia).toUInt32 >>> ((16 : Int32) &&& 31).toUInt32).toInt32)).toInt = ((ia).toInt % 4294967296) / 65536 := c_iushr ia (16 : Int32) 16 (by decide) (by decide); have e2 : (((((ia).toUInt32 >>> ((16 : Int32) &&& 31).toUInt32).toInt32) &&& (255 : Int32))).toInt = ((((ia).toUInt32 >>> ((16 : Int32) &&& 31).toUInt32).toInt32)).toInt % 256 := c_mask (((ia).toUInt32 >>> ((16 : Int32) &&& 31).toUInt32).toInt32) (255 : Int32) 8 (by decide) (by decide); have e1 := c_i2c ((((ia).toUInt32 >>> ((16 : Int32) &&& 31).toUInt32).toInt32) &&& (255 : Int32)); omega) (by have r3 := rng32 ib; have e2 : ((ib &&& (255 : Int32))).toInt = (ib).toInt % 256 := c_mask ib (255 : Int32) 8 (by decide) (by decide); have e1 := c_i2c (ib &&& (255 : Int32)); omega) (by have r3 := rng32 ib; have e2 : ((ib &&& (255 : Int32))).toInt = (ib).toInt % 256 := c_mask ib (255 : Int32) 8 (by decide) (by decide); have e1 := c_i2c (ib &&& (255 : Int32)); omega) (by have r4 := rng32 ia; have e3 : ((((ia).toUInt32 >>> ((8 : Int32) &&& 31).toUInt32).toInt32)).toInt = ((ia).toInt % 4294967296) / 256 := c_iushr ia (8 : Int32) 8 (by decide) (by decide); have e2 : (((((ia).toUInt32 >>> ((8 : Int32) &&& 31).toUInt32).toInt32) &&& (255 : Int32))).toInt = ((((ia).toUInt32 >>> ((8 : Int32) &&& 31).toUInt32).toInt32)).toInt % 256 := c_mask (((ia).toUInt32 >>> ((8 : Int32) &&& 31).toUInt32).toInt32) (255 : Int32) 8 (by decide) (by decide); have e1 := c_i2c ((((ia).toUInt32 >>> ((8 : Int32) &&& 31).toUInt32).toInt32) &&& (255 : Int32)); omega) (by have r4 := rng32 ia; have e3 : ((((ia).toUInt32 >>> ((8 : Int32) &&& 31).toUInt32).toInt32)).toInt = ((ia).toInt % 4294967296) / 256 := c_iushr ia (8 : Int32) 8 (by decide) (by decide); have e2 : (((((ia).toUInt32 >>> ((8 : Int32) &&& 31).toUInt32).toInt32) &&& (255 : Int32))).toInt = ((((ia).toUInt32 >>> ((8 : Int32) &&& 31).toUInt32).toInt32)).toInt % 256 := c_mask (((ia).toUInt32 >>> ((8 : Int32) &&& 31).toUInt32).toInt32) (255 : Int32) 8 (by decide) (by decide); have e1 := c_i2c ((((ia).toUInt32 >>> ((8 : Int32) &&& 31).toUInt32).toInt32) &&& (255 : Int32)); omega) (by have r4 := rng32 ib; have e3 : ((((ib).toUInt32 >>> ((16 : Int32) &&& 31).toUInt32).toInt32)).toInt = ((ib).toInt % 4294967296) / 65536 := c_iushr ib (16 : Int32) 16 (by decide) (by decide); have e2 : (((((ib).toUInt32 >>> ((16 : Int32) &&& 31).toUInt32).toInt32) &&& (255 : Int32))).toInt = ((((ib).toUInt32 >>> ((16 : Int32) &&& 31).toUInt32).toInt32)).toInt % 256 := c_mask (((ib).toUInt32 >>> ((16 : Int32) &&& 31).toUInt32).toInt32) (255 : Int32) 8 (by decide) (by decide); have e1 := c_i2c ((((ib).toUInt32 >>> ((16 : Int32) &&& 31).toUInt32).toInt32) &&& (255 : Int32)); omega) (by have r4 := rng32 ib; have e3 : ((((ib).toUInt32 >>> ((16 : Int32) &&& 31).toUInt32).toInt32)).toInt = ((ib).toInt % 4294967296) / 65536 := c_iushr ib (16 : Int32) 16 (by decide) (by decide); have e2 : (((((ib).toUInt32 >>> ((16 : Int32) &&& 31).toUInt32).toInt32) &&& (255 : Int32))).toInt = ((((ib).toUInt32 >>> ((16 : Int32) &&& 31).toUInt32).toInt32)).toInt % 256 := c_mask (((ib).toUInt32 >>> ((16 : Int32) &&& 31).toUInt32).toInt32) (255 : Int32) 8 (by decide) (by decide); have e1 := c_i2c ((((ib).toUInt32 >>> ((16 : Int32) &&& 31).toUInt32).toInt32) &&& (255 : Int32)); omega) (own_nz01 _) (own_nz01 _) (own_nz01 _) (own_nz01 _) (own_nz01 _) (own_nz01 _)
      · refine g_iload cx d0_160 rfl ?_
        refine g_goto cx d0_162 ?_
        refine g_istore cx d0_174 (Ls' := #[.val (.int ia), .val (.int ib), .val (.int ic), .val (.int (((ia &&& (255 : Int32))).toUInt32.toUInt16.toUInt32.toInt32)), .val (.int ((((((ia).toUInt32 >>> ((8 : Int32) &&& 31).toUInt32).toInt32) &&& (255 : Int32))).toUInt32.toUInt16.toUInt32.toInt32)), .val (.int ((((((ia).toUInt32 >>> ((16 : Int32) &&& 31).toUInt32).toInt32) &&& (255 : Int32))).toUInt32.toUInt16.toUInt32.toInt32)), .val (.int (own_nz ((((ic).toUInt32 >>> ((3 : Int32) &&& 31).toUInt32).toInt32) &&& (1 : Int32)))), .val (.int (own_nz ((((ic).toUInt32 >>> ((4 : Int32) &&& 31).toUInt32).toInt32) &&& (1 : Int32)))), .val (.int (own_nz ((((ic).toUInt32 >>> ((5 : Int32) &&& 31).toUInt32).toInt32) &&& (1 : Int32)))), .val (.int (own_nz (ic &&& (1 : Int32)))), .val (.int (own_nz ((((ic).toUInt32 >>> ((1 : Int32) &&& 31).toUInt32).toInt32) &&& (1 : Int32)))), .val (.int (own_nz ((((ic).toUInt32 >>> ((2 : Int32) &&& 31).toUInt32).toInt32) &&& (1 : Int32)))), .val (.int (((ib &&& (255 : Int32))).toUInt32.toUInt16.toUInt32.toInt32)), .val (.int ((((((ia).toUInt32 >>> ((8 : Int32) &&& 31).toUInt32).toInt32) &&& (255 : Int32))).toUInt32.toUInt16.toUInt32.toInt32)), .val (.int ((((((ia).toUInt32 >>> ((16 : Int32) &&& 31).toUInt32).toInt32) &&& (255 : Int32))).toUInt32.toUInt16.toUInt32.toInt32)), .unset, .unset, .unset, .unset, .unset, .unset, .unset, .unset, .unset, .unset, .unset, .unset, .unset]) rfl ?_
        refine g_iload cx d0_176 rfl ?_
        refine g_if_eq cx d0_178 (fun hc178 => ?_) (fun q => absurd q (fun q => q hc119))
        refine g_iloadN cx d0_186 rfl ?_
        refine g_bipush cx d0_187 (v := (6 : Int32)) rfl ?_
        refine g_iushr cx d0_189 ?_
        refine g_iconst cx d0_190 (v := (1 : Int32)) rfl ?_
        refine g_iand cx d0_191 ?_
        refine g_tern cx d0_192 d0_195 d0_196 d0_199 ?_
        refine g_istore cx d0_200 (Ls' := #[.val (.int ia), .val (.int ib), .val (.int ic), .val (.int (((ia &&& (255 : Int32))).toUInt32.toUInt16.toUInt32.toInt32)), .val (.int ((((((ia).toUInt32 >>> ((8 : Int32) &&& 31).toUInt32).toInt32) &&& (255 : Int32))).toUInt32.toUInt16.toUInt32.toInt32)), .val (.int ((((((ia).toUInt32 >>> ((16 : Int32) &&& 31).toUInt32).toInt32) &&& (255 : Int32))).toUInt32.toUInt16.toUInt32.toInt32)), .val (.int (own_nz ((((ic).toUInt32 >>> ((3 : Int32) &&& 31).toUInt32).toInt32) &&& (1 : Int32)))), .val (.int (own_nz ((((ic).toUInt32 >>> ((4 : Int32) &&& 31).toUInt32).toInt32) &&& (1 : Int32)))), .val (.int (own_nz ((((ic).toUInt32 >>> ((5 : Int32) &&& 31).toUInt32).toInt32) &&& (1 : Int32)))), .val (.int (own_nz (ic &&& (1 : Int32)))), .val (.int (own_nz ((((ic).toUInt32 >>> ((1 : Int32) &&& 31).toUInt32).toInt32) &&& (1 : Int32)))), .val (.int (own_nz ((((ic).toUInt32 >>> ((2 : Int32) &&& 31).toUInt32).toInt32) &&& (1 : Int32)))), .val (.int (((ib &&& (255 : Int32))).toUInt32.toUInt16.toUInt32.toInt32)), .val (.int ((((((ia).toUInt32 >>> ((8 : Int32) &&& 31).toUInt32).toInt32) &&& (255 : Int32))).toUInt32.toUInt16.toUInt32.toInt32)), .val (.int ((((((ia).toUInt32 >>> ((16 : Int32) &&& 31).toUInt32).toInt32) &&& (255 : Int32))).toUInt32.toUInt16.toUInt32.toInt32)), .val (.int (own_nz ((((ic).toUInt32 >>> ((6 : Int32) &&& 31).toUInt32).toInt32) &&& (1 : Int32)))), .unset, .unset, .unset, .unset, .unset, .unset, .unset, .unset, .unset, .unset, .unset, .unset]) rfl ?_
        refine g_iload cx d0_202 rfl ?_
        refine g_if_eq cx d0_204 (fun q => absurd q (fun q => hc136 q)) (fun hc204 => ?_)
        refine g_iload cx d0_207 rfl ?_
        refine g_goto cx d0_209 ?_
        refine g_istore cx d0_226 (Ls' := #[.val (.int ia), .val (.int ib), .val (.int ic), .val (.int (((ia &&& (255 : Int32))).toUInt32.toUInt16.toUInt32.toInt32)), .val (.int ((((((ia).toUInt32 >>> ((8 : Int32) &&& 31).toUInt32).toInt32) &&& (255 : Int32))).toUInt32.toUInt16.toUInt32.toInt32)), .val (.int ((((((ia).toUInt32 >>> ((16 : Int32) &&& 31).toUInt32).toInt32) &&& (255 : Int32))).toUInt32.toUInt16.toUInt32.toInt32)), .val (.int (own_nz ((((ic).toUInt32 >>> ((3 : Int32) &&& 31).toUInt32).toInt32) &&& (1 : Int32)))), .val (.int (own_nz ((((ic).toUInt32 >>> ((4 : Int32) &&& 31).toUInt32).toInt32) &&& (1 : Int32)))), .val (.int (own_nz ((((ic).toUInt32 >>> ((5 : Int32) &&& 31).toUInt32).toInt32) &&& (1 : Int32)))), .val (.int (own_nz (ic &&& (1 : Int32)))), .val (.int (own_nz ((((ic).toUInt32 >>> ((1 : Int32) &&& 31).toUInt32).toInt32) &&& (1 : Int32)))), .val (.int (own_nz ((((ic).toUInt32 >>> ((2 : Int32) &&& 31).toUInt32).toInt32) &&& (1 : Int32)))), .val (.int (((ib &&& (255 : Int32))).toUInt32.toUInt16.toUInt32.toInt32)), .val (.int ((((((ia).toUInt32 >>> ((8 : Int32) &&& 31).toUInt32).toInt32) &&& (255 : Int32))).toUInt32.toUInt16.toUInt32.toInt32)), .val (.int ((((((ia).toUInt32 >>> ((16 : Int32) &&& 31).toUInt32).toInt32) &&& (255 : Int32))).toUInt32.toUInt16.toUInt32.toInt32)), .val (.int (own_nz ((((ic).toUInt32 >>> ((6 : Int32) &&& 31).toUInt32).toInt32) &&& (1 : Int32)))), .val (.int (own_nz ((((ic).toUInt32 >>> ((4 : Int32) &&& 31).toUInt32).toInt32) &&& (1 : Int32)))), .unset, .unset, .unset, .unset, .unset, .unset, .unset, .unset, .unset, .unset, .unset]) rfl ?_
        refine g_iload cx d0_228 rfl ?_
        refine g_if_eq cx d0_230 (fun q => absurd q (fun q => hc157 q)) (fun hc230 => ?_)
        refine g_iload cx d0_233 rfl ?_
        refine g_goto cx d0_235 ?_
        refine g_istore cx d0_252 (Ls' := #[.val (.int ia), .val (.int ib), .val (.int ic), .val (.int (((ia &&& (255 : Int32))).toUInt32.toUInt16.toUInt32.toInt32)), .val (.int ((((((ia).toUInt32 >>> ((8 : Int32) &&& 31).toUInt32).toInt32) &&& (255 : Int32))).toUInt32.toUInt16.toUInt32.toInt32)), .val (.int ((((((ia).toUInt32 >>> ((16 : Int32) &&& 31).toUInt32).toInt32) &&& (255 : Int32))).toUInt32.toUInt16.toUInt32.toInt32)), .val (.int (own_nz ((((ic).toUInt32 >>> ((3 : Int32) &&& 31).toUInt32).toInt32) &&& (1 : Int32)))), .val (.int (own_nz ((((ic).toUInt32 >>> ((4 : Int32) &&& 31).toUInt32).toInt32) &&& (1 : Int32)))), .val (.int (own_nz ((((ic).toUInt32 >>> ((5 : Int32) &&& 31).toUInt32).toInt32) &&& (1 : Int32)))), .val (.int (own_nz (ic &&& (1 : Int32)))), .val (.int (own_nz ((((ic).toUInt32 >>> ((1 : Int32) &&& 31).toUInt32).toInt32) &&& (1 : Int32)))), .val (.int (own_nz ((((ic).toUInt32 >>> ((2 : Int32) &&& 31).toUInt32).toInt32) &&& (1 : Int32)))), .val (.int (((ib &&& (255 : Int32))).toUInt32.toUInt16.toUInt32.toInt32)), .val (.int ((((((ia).toUInt32 >>> ((8 : Int32) &&& 31).toUInt32).toInt32) &&& (255 : Int32))).toUInt32.toUInt16.toUInt32.toInt32)), .val (.int ((((((ia).toUInt32 >>> ((16 : Int32) &&& 31).toUInt32).toInt32) &&& (255 : Int32))).toUInt32.toUInt16.toUInt32.toInt32)), .val (.int (own_nz ((((ic).toUInt32 >>> ((6 : Int32) &&& 31).toUInt32).toInt32) &&& (1 : Int32)))), .val (.int (own_nz ((((ic).toUInt32 >>> ((4 : Int32) &&& 31).toUInt32).toInt32) &&& (1 : Int32)))), .val (.int (own_nz ((((ic).toUInt32 >>> ((5 : Int32) &&& 31).toUInt32).toInt32) &&& (1 : Int32)))), .unset, .unset, .unset, .unset, .unset, .unset, .unset, .unset, .unset, .unset]) rfl ?_
        refine g_iloadN cx d0_254 rfl ?_
        refine g_bipush cx d0_255 (v := (9 : Int32)) rfl ?_
        refine g_iushr cx d0_257 ?_
        refine g_iconst cx d0_258 (v := (3 : Int32)) rfl ?_
        refine g_iand cx d0_259 ?_
        refine g_istore cx d0_260 (Ls' := #[.val (.int ia), .val (.int ib), .val (.int ic), .val (.int (((ia &&& (255 : Int32))).toUInt32.toUInt16.toUInt32.toInt32)), .val (.int ((((((ia).toUInt32 >>> ((8 : Int32) &&& 31).toUInt32).toInt32) &&& (255 : Int32))).toUInt32.toUInt16.toUInt32.toInt32)), .val (.int ((((((ia).toUInt32 >>> ((16 : Int32) &&& 31).toUInt32).toInt32) &&& (255 : Int32))).toUInt32.toUInt16.toUInt32.toInt32)), .val (.int (own_nz ((((ic).toUInt32 >>> ((3 : Int32) &&& 31).toUInt32).toInt32) &&& (1 : Int32)))), .val (.int (own_nz ((((ic).toUInt32 >>> ((4 : Int32) &&& 31).toUInt32).toInt32) &&& (1 : Int32)))), .val (.int (own_nz ((((ic).toUInt32 >>> ((5 : Int32) &&& 31).toUInt32).toInt32) &&& (1 : Int32)))), .val (.int (own_nz (ic &&& (1 : Int32)))), .val (.int (own_nz ((((ic).toUInt32 >>> ((1 : Int32) &&& 31).toUInt32).toInt32) &&& (1 : Int32)))), .val (.int (own_nz ((((ic).toUInt32 >>> ((2 : Int32) &&& 31).toUInt32).toInt32) &&& (1 : Int32)))), .val (.int (((ib &&& (255 : Int32))).toUInt32.toUInt16.toUInt32.toInt32)), .val (.int ((((((ia).toUInt32 >>> ((8 : Int32) &&& 31).toUInt32).toInt32) &&& (255 : Int32))).toUInt32.toUInt16.toUInt32.toInt32)), .val (.int ((((((ia).toUInt32 >>> ((16 : Int32) &&& 31).toUInt32).toInt32) &&& (255 : Int32))).toUInt32.toUInt16.toUInt32.toInt32)), .val (.int (own_nz ((((ic).toUInt32 >>> ((6 : Int32) &&& 31).toUInt32).toInt32) &&& (1 : Int32)))), .val (.int (own_nz ((((ic).toUInt32 >>> ((4 : Int32) &&& 31).toUInt32).toInt32) &&& (1 : Int32)))), .val (.int (own_nz ((((ic).toUInt32 >>> ((5 : Int32) &&& 31).toUInt32).toInt32) &&& (1 : Int32)))), .val (.int ((((ic).toUInt32 >>> ((9 : Int32) &&& 31).toUInt32).toInt32) &&& (3 : Int32))), .unset, .unset, .unset, .unset, .unset, .unset, .unset, .unset, .unset]) rfl ?_
        exact J262 _ _ _ _ _ _ _ _ _ _ _ _ _ _ _ _ (by have r3 := rng32 ia; have e2 : ((ia &&& (255 : Int32))).toInt = (ia).toInt % 256 := c_mask ia (255 : Int32) 8 (by decide) (by decide); have e1 := c_i2c (ia &&& (255 : Int32)); omega) (by have r3 := rng32 ia; have e2 : ((ia &&& (255 : Int32))).toInt = (ia).toInt % 256 := c_mask ia (255 : Int32) 8 (by decide) (by decide); have e1 := c_i2c (ia &&& (255 : Int32)); omega) (by have r4 := rng32 ia; have e3 : ((((ia).toUInt32 >>> ((8 : Int32) &&& 31).toUInt32).toInt32)).toInt = ((ia).toInt % 4294967296) / 256 := c_iushr ia (8 : Int32) 8 (by decide) (by decide); have e2 : (((((ia).toUInt32 >>> ((8 : Int32) &&& 31).toUInt32).toInt32) &&& (255 : Int32))).toInt = ((((ia).toUInt32 >>> ((8 : Int32) &&& 31).toUInt32).toInt32)).toInt % 256 := c_mask (((ia).toUInt32 >>> ((8 : Int32) &&& 31).toUInt32).toInt32) (255 : Int32) 8 (by decide) (by decide); have e1 := c_i2c ((((ia).toUInt32 >>> ((8 : Int32) &&& 31).toUInt32).toInt32) &&& (255 : Int32)); omega) (by have r4 := rng32 ia; have e3 : ((((ia).toUInt32 >>> ((8 : Int32) &&& 31).toUInt32).toInt32)).toInt = ((ia).toInt % 4294967296) / 256 := c_iushr ia (8 : Int32) 8 (by decide) (by decide); have e2 : (((((ia).toUInt32 >>> ((8 : Int32) &&& 31).toUInt32).toInt32) &&& (255 : Int32))).toInt = ((((ia).toUInt32 >>> ((8 : Int32) &&& 31).toUInt32).toInt32)).toInt % 256 := c_mask (((ia).toUInt32 >>> ((8 : Int32) &&& 31).toUInt32).toInt32) (255 : Int32) 8 (by decide) (by decide); have e1 := c_i2c ((((ia).toUInt32 >>> ((8 : Int32) &&& 31).toUInt32).toInt32) &&& (255 : Int32)); omega) (by have r4 := rng32 ia; have e3 : ((((ia).toUInt32 >>> ((16 : Int32) &&& 31).toUInt32).toInt32)).toInt = ((ia).toInt % 4294967296) / 65536 := c_iushr ia (16 : Int32) 16 (by decide) (by decide); have e2 : (((((ia).toUInt32 >>> ((16 : Int32) &&& 31).toUInt32).toInt32) &&& (255 : Int32))).toInt = ((((ia).toUInt32 >>> ((16 : Int32) &&& 31).toUInt32).toInt32)).toInt % 256 := c_mask (((ia).toUInt32 >>> ((16 : Int32) &&& 31).toUInt32).toInt32) (255 : Int32) 8 (by decide) (by decide); have e1 := c_i2c ((((ia).toUInt32 >>> ((16 : Int32) &&& 31).toUInt32).toInt32) &&& (255 : Int32)); omega) (by have r4 := rng32 ia; have e3 : ((((ia).toUInt32 >>> ((16 : Int32) &&& 31).toUInt32).toInt32)).toInt = ((ia).toInt % 4294967296) / 65536 := c_iushr ia (16 : Int32) 16 (by decide) (by decide); have e2 : (((((ia).toUInt32 >>> ((16 : Int32) &&& 31).toUInt32).toInt32) &&& (255 : Int32))).toInt = ((((ia).toUInt32 >>> ((16 : Int32) &&& 31).toUInt32).toInt32)).toInt % 256 := c_mask (((ia).toUInt32 >>> ((16 : Int32) &&& 31).toUInt32).toInt32) (255 : Int32) 8 (by decide) (by decide); have e1 := c_i2c ((((ia).toUInt32 >>> ((16 : Int32) &&& 31).toUInt32).toInt32) &&& (255 : Int32)); omega) (by have r3 := rng32 ib; have e2 : ((ib &&& (255 : Int32))).toInt = (ib).toInt % 256 := c_mask ib (255 : Int32) 8 (by decide) (by decide); have e1 := c_i2c (ib &&& (255 : Int32)); omega) (by have r3 := rng32 ib; have e2 : ((ib &&& (255 : Int32))).toInt = (ib).toInt % 256 := c_mask ib (255 : Int32) 8 (by decide) (by decide); have e1 := c_i2c (ib &&& (255 : Int32)); omega) (by have r4 := rng32 ia; have e3 : ((((ia).toUInt32 >>> ((8 : Int32) &&& 31).toUInt32).toInt32)).toInt = ((ia).toInt % 4294967296) / 256 := c_iushr ia (8 : Int32) 8 (by decide) (by decide); have e2 : (((((ia).toUInt32 >>> ((8 : Int32) &&& 31).toUInt32).toInt32) &&& (255 : Int32))).toInt = ((((ia).toUInt32 >>> ((8 : Int32) &&& 31).toUInt32).toInt32)).toInt % 256 := c_mask (((ia).toUInt32 >>> ((8 : Int32) &&& 31).toUInt32).toInt32) (255 : Int32) 8 (by decide) (by decide); have e1 := c_i2c ((((ia).toUInt32 >>> ((8 : Int32) &&& 31).toUInt32).toInt32) &&& (255 : Int32)); omega) (by have r4 := rng32 ia; have e3 : ((((ia).toUInt32 >>> ((8 : Int32) &&& 31).toUInt32).toInt32)).toInt = ((ia).toInt % 4294967296) / 256 := c_iushr ia (8 : Int32) 8 (by decide) (by decide); have e2 : (((((ia).toUInt32 >>> ((8 : Int32) &&& 31).toUInt32).toInt32) &&& (255 : Int32))).toInt = ((((ia).toUInt32 >>> ((8 : Int32) &&& 31).toUInt32).toInt32)).toInt % 256 := c_mask (((ia).toUInt32 >>> ((8 : Int32) &&& 31).toUInt32).toInt32) (255 : Int32) 8 (by decide) (by decide); have e1 := c_i2c ((((ia).toUInt32 >>> ((8 : Int32) &&& 31).toUInt32).toInt32) &&& (255 : Int32)); omega) (by have r4 := rng32 ia; have e3 : ((((ia).toUInt32 >>> ((16 : Int32) &&& 31).toUInt32).toInt32)).toInt = ((ia).toInt % 4294967296) / 65536 := c_iushr ia (16 : Int32) 16 (by decide) (by decide); have e2 : (((((ia).toUInt32 >>> ((16 : Int32) &&& 31).toUInt32).toInt32) &&& (255 : Int32))).toInt = ((((ia).toUInt32 >>> ((16 : Int32) &&& 31).toUInt32).toInt32)).toInt % 256 := c_mask (((ia).toUInt32 >>> ((16 : Int32) &&& 31).toUInt32).toInt32) (255 : Int32) 8 (by decide) (by decide); have e1 := c_i2c ((((ia).toUInt32 >>> ((16 : Int32) &&& 31).toUInt32).toInt32) &&& (255 : Int32)); omega) (by have r4 := rng32 ia; have e3 : ((((ia).toUInt32 >>> ((16 : Int32) &&& 31).toUInt32).toInt32)).toInt = ((ia).toInt % 4294967296) / 65536 := c_iushr ia (16 : Int32) 16 (by decide) (by decide); have e2 : (((((ia).toUInt32 >>> ((16 : Int32) &&& 31).toUInt32).toInt32) &&& (255 : Int32))).toInt = ((((ia).toUInt32 >>> ((16 : Int32) &&& 31).toUInt32).toInt32)).toInt % 256 := c_mask (((ia).toUInt32 >>> ((16 : Int32) &&& 31).toUInt32).toInt32) (255 : Int32) 8 (by decide) (by decide); have e1 := c_i2c ((((ia).toUInt32 >>> ((16 : Int32) &&& 31).toUInt32).toInt32) &&& (255 : Int32)); omega) (own_nz01 _) (own_nz01 _) (own_nz01 _) (own_nz01 _) (own_nz01 _) (own_nz01 _)
  · refine g_iloadN cx d0_122 rfl ?_
    refine g_goto cx d0_123 ?_
    refine g_istore cx d0_132 (Ls' := #[.val (.int ia), .val (.int ib), .val (.int ic), .val (.int (((ia &&& (255 : Int32))).toUInt32.toUInt16.toUInt32.toInt32)), .val (.int ((((((ia).toUInt32 >>> ((8 : Int32) &&& 31).toUInt32).toInt32) &&& (255 : Int32))).toUInt32.toUInt16.toUInt32.toInt32)), .val (.int ((((((ia).toUInt32 >>> ((16 : Int32) &&& 31).toUInt32).toInt32) &&& (255 : Int32))).toUInt32.toUInt16.toUInt32.toInt32)), .val (.int (own_nz ((((ic).toUInt32 >>> ((3 : Int32) &&& 31).toUInt32).toInt32) &&& (1 : Int32)))), .val (.int (own_nz ((((ic).toUInt32 >>> ((4 : Int32) &&& 31).toUInt32).toInt32) &&& (1 : Int32)))), .val (.int (own_nz ((((ic).toUInt32 >>> ((5 : Int32) &&& 31).toUInt32).toInt32) &&& (1 : Int32)))), .val (.int (own_nz (ic &&& (1 : Int32)))), .val (.int (own_nz ((((ic).toUInt32 >>> ((1 : Int32) &&& 31).toUInt32).toInt32) &&& (1 : Int32)))), .val (.int (own_nz ((((ic).toUInt32 >>> ((2 : Int32) &&& 31).toUInt32).toInt32) &&& (1 : Int32)))), .val (.int (((ia &&& (255 : Int32))).toUInt32.toUInt16.toUInt32.toInt32)), .unset, .unset, .unset, .unset, .unset, .unset, .unset, .unset, .unset, .unset, .unset, .unset, .unset, .unset, .unset]) rfl ?_
    refine g_iload cx d0_134 rfl ?_
    refine g_if_eq cx d0_136 (fun hc136 => ?_) (fun hc136 => ?_)
    · refine g_iloadN cx d0_144 rfl ?_
      refine g_bipush cx d0_145 (v := (8 : Int32)) rfl ?_
      refine g_iushr cx d0_147 ?_
      refine g_sipush cx d0_148 (v := (255 : Int32)) rfl ?_
      refine g_iand cx d0_151 ?_
      refine g_i2c cx d0_152 ?_
      refine g_istore cx d0_153 (Ls' := #[.val (.int ia), .val (.int ib), .val (.int ic), .val (.int (((ia &&& (255 : Int32))).toUInt32.toUInt16.toUInt32.toInt32)), .val (.int ((((((ia).toUInt32 >>> ((8 : Int32) &&& 31).toUInt32).toInt32) &&& (255 : Int32))).toUInt32.toUInt16.toUInt32.toInt32)), .val (.int ((((((ia).toUInt32 >>> ((16 : Int32) &&& 31).toUInt32).toInt32) &&& (255 : Int32))).toUInt32.toUInt16.toUInt32.toInt32)), .val (.int (own_nz ((((ic).toUInt32 >>> ((3 : Int32) &&& 31).toUInt32).toInt32) &&& (1 : Int32)))), .val (.int (own_nz ((((ic).toUInt32 >>> ((4 : Int32) &&& 31).toUInt32).toInt32) &&& (1 : Int32)))), .val (.int (own_nz ((((ic).toUInt32 >>> ((5 : Int32) &&& 31).toUInt32).toInt32) &&& (1 : Int32)))), .val (.int (own_nz (ic &&& (1 : Int32)))), .val (.int (own_nz ((((ic).toUInt32 >>> ((1 : Int32) &&& 31).toUInt32).toInt32) &&& (1 : Int32)))), .val (.int (own_nz ((((ic).toUInt32 >>> ((2 : Int32) &&& 31).toUInt32).toInt32) &&& (1 : Int32)))), .val (.int (((ia &&& (255 : Int32))).toUInt32.toUInt16.toUInt32.toInt32)), .val (.int ((((((ib).toUInt32 >>> ((8 : Int32) &&& 31).toUInt32).toInt32) &&& (255 : Int32))).toUInt32.toUInt16.toUInt32.toInt32)), .unset, .unset, .unset, .unset, .unset, .unset, .unset, .unset, .unset, .unset, .unset, .unset, .unset, .unset]) rfl ?_
      refine g_iload cx d0_155 rfl ?_
      refine g_if_eq cx d0_157 (fun hc157 => ?_) (fun hc157 => ?_)
      · refine g_iloadN cx d0_165 rfl ?_
        refine g_bipush cx d0_166 (v := (16 : Int32)) rfl ?_
        refine g_iushr cx d0_168 ?_
        refine g_sipush cx d0_169 (v := (255 : Int32)) rfl ?_
        refine g_iand cx d0_172 ?_
        refine g_i2c cx d0_173 ?_
        refine g_istore cx d0_174 (Ls' := #[.val (.int ia), .val (.int ib), .val (.int ic), .val (.int (((ia &&& (255 : Int32))).toUInt32.toUInt16.toUInt32.toInt32)), .val (.int ((((((ia).toUInt32 >>> ((8 : Int32) &&& 31).toUInt32).toInt32) &&& (255 : Int32))).toUInt32.toUInt16.toUInt32.toInt32)), .val (.int ((((((ia).toUInt32 >>> ((16 : Int32) &&& 31).toUInt32).toInt32) &&& (255 : Int32))).toUInt32.toUInt16.toUInt32.toInt32)), .val (.int (own_nz ((((ic).toUInt32 >>> ((3 : Int32) &&& 31).toUInt32).toInt32) &&& (1 : Int32)))), .val (.int (own_nz ((((ic).toUInt32 >>> ((4 : Int32) &&& 31).toUInt32).toInt32) &&& (1 : Int32)))), .val (.int (own_nz ((((ic).toUInt32 >>> ((5 : Int32) &&& 31).toUInt32).toInt32) &&& (1 : Int32)))), .val (.int (own_nz (ic &&& (1 : Int32)))), .val (.int (own_nz ((((ic).toUInt32 >>> ((1 : Int32) &&& 31).toUInt32).toInt32) &&& (1 : Int32)))), .val (.int (own_nz ((((ic).toUInt32 >>> ((2 : Int32) &&& 31).toUInt32).toInt32) &&& (1 : Int32)))), .val (.int (((ia &&& (255 : Int32))).toUInt32.toUInt16.toUInt32.toInt32)), .val (.int ((((((ib).toUInt32 >>> ((8 : Int32) &&& 31).toUInt32).toInt32) &&& (255 : Int32))).toUInt32.toUInt16.toUInt32.toInt32)), .val (.int ((((((ib).toUInt32 >>> ((16 : Int32) &&& 31).toUInt32).toInt32) &&& (255 : Int32))).toUInt32.toUInt16.toUInt32.toInt32)), .unset, .unset, .unset, .unset, .unset, .unset, .unset, .unset, .unset, .unset, .unset, .unset, .unset]) rfl ?_
        refine g_iload cx d0_176 rfl ?_
        refine g_if_eq cx d0_178 (fun q => absurd q (fun q => hc119 q)) (fun hc178 => ?_)
        refine g_iload cx d0_181 rfl ?_
        refine g_goto cx d0_183 ?_
        refine g_istore cx d0_200 (Ls' := #[.val (.int ia), .val (.int ib), .val (.int ic), .val (.int (((ia &&& (255 : Int32))).toUInt32.toUInt16.toUInt32.toInt32)), .val (.int ((((((ia).toUInt32 >>> ((8 : Int32) &&& 31).toUInt32).toInt32) &&& (255 : Int32))).toUInt32.toUInt16.toUInt32.toInt32)), .val (.int ((((((ia).toUInt32 >>> ((16 : Int32) &&& 31).toUInt32).toInt32) &&& (255 : Int32))).toUInt32.toUInt16.toUInt32.toInt32)), .val (.int (own_nz ((((ic).toUInt32 >>> ((3 : Int32) &&& 31).toUInt32).toInt32) &&& (1 : Int32)))), .val (.int (own_nz ((((ic).toUInt32 >>> ((4 : Int32) &&& 31).toUInt32).toInt32) &&& (1 : Int32)))), .val (.int (own_nz ((((ic).toUInt32 >>> ((5 : Int32) &&& 31).toUInt32).toInt32) &&& (1 : Int32)))), .val (.int (own_nz (ic &&& (1 : Int32)))), .val (.int (own_nz ((((ic).toUInt32 >>> ((1 : Int32) &&& 31).toUInt32).toInt32) &&& (1 : Int32)))), .val (.int (own_nz ((((ic).toUInt32 >>> ((2 : Int32) &&& 31).toUInt32).toInt32) &&& (1 : Int32)))), .val (.int (((ia &&& (255 : Int32))).toUInt32.toUInt16.toUInt32.toInt32)), .val (.int ((((((ib).toUInt32 >>> ((8 : Int32) &&& 31).toUInt32).toInt32) &&& (255 : Int32))).toUInt32.toUInt16.toUInt32.toInt32)), .val (.int ((((((ib).toUInt32 >>> ((16 : Int32) &&& 31).toUInt32).toInt32) &&& (255 : Int32))).toUInt32.toUInt16.toUInt32.toInt32)), .val (.int (own_nz ((((ic).toUInt32 >>> ((3 : Int32) &&& 31).toUInt32).toInt32) &&& (1 : Int32)))), .unset, .unset, .unset, .unset, .unset, .unset, .unset, .unset, .unset, .unset, .unset, .unset]) rfl ?_
        refine g_iload cx d0_202 rfl ?_
        refine g_if_eq cx d0_204 (fun hc204 => ?_) (fun q => absurd q (fun q => q hc136))
        refine g_iloadN cx d0_212 rfl ?_
        refine g_bipush cx d0_213 (v := (7 : Int32)) rfl ?_
        refine g_iushr cx d0_215 ?_
        refine g_iconst cx d0_216 (v := (1 : Int32)) rfl ?_
        refine g_iand cx d0_217 ?_
        refine g_tern cx d0_218 d0_221 d0_222 d0_225 ?_
        refine g_istore cx d0_226 (Ls' := #[.val (.int ia), .val (.int ib), .val (.int ic), .val (.int (((ia &&& (255 : Int32))).toUInt32.toUInt16.toUInt32.toInt32)), .val (.int ((((((ia).toUInt32 >>> ((8 : Int32) &&& 31).toUInt32).toInt32) &&& (255 : Int32))).toUInt32.toUInt16.toUInt32.toInt32)), .val (.int ((((((ia).toUInt32 >>> ((16 : Int32) &&& 31).toUInt32).toInt32) &&& (255 : Int32))).toUInt32.toUInt16.toUInt32.toInt32)), .val (.int (own_nz ((((ic).toUInt32 >>> ((3 : Int32) &&& 31).toUInt32).toInt32) &&& (1 : Int32)))), .val (.int (own_nz ((((ic).toUInt32 >>> ((4 : Int32) &&& 31).toUInt32).toInt32) &&& (1 : Int32)))), .val (.int (own_nz ((((ic).toUInt32 >>> ((5 : Int32) &&& 31).toUInt32).toInt32) &&& (1 : Int32)))), .val (.int (own_nz (ic &&& (1 : Int32)))), .val (.int (own_nz ((((ic).toUInt32 >>> ((1 : Int32) &&& 31).toUInt32).toInt32) &&& (1 : Int32)))), .val (.int (own_nz ((((ic).toUInt32 >>> ((2 : Int32) &&& 31).toUInt32).toInt32) &&& (1 : Int32)))), .val (.int (((ia &&& (255 : Int32))).toUInt32.toUInt16.toUInt32.toInt32)), .val (.int ((((((ib).toUInt32 >>> ((8 : Int32) &&& 31).toUInt32).toInt32) &&& (255 : Int32))).toUInt32.toUInt16.toUInt32.toInt32)), .val (.int ((((((ib).toUInt32 >>> ((16 : Int32) &&& 31).toUInt32).toInt32) &&& (255 : Int32))).toUInt32.toUInt16.toUInt32.toInt32)), .val (.int (own_nz ((((ic).toUInt32 >>> ((3 : Int32) &&& 31).toUInt32).toInt32) &&& (1 : Int32)))), .val (.int (own_nz ((((ic).toUInt32 >>> ((7 : Int32) &&& 31).toUInt32).toInt32) &&& (1 : Int32)))), .unset, .unset, .unset, .unset, .unset, .unset, .unset, .unset, .unset, .unset, .unset]) rfl ?_
        refine g_iload cx d0_228 rfl ?_
        refine g_if_eq cx d0_230 (fun hc230 => ?_) (fun q => absurd q (fun q => q hc157))
        refine g_iloadN cx d0_238 rfl ?_
        refine g_bipush cx d0_239 (v := (8 : Int32)) rfl ?_
        refine g_iushr cx d0_241 ?_
        refine g_iconst cx d0_242 (v := (1 : Int32)) rfl ?_
        refine g_iand cx d0_243 ?_
        refine g_tern cx d0_244 d0_247 d0_248 d0_251 ?_
        refine g_istore cx d0_252 (Ls' := #[.val (.int ia), .val (.int ib), .val (.int ic), .val (.int (((ia &&& (255 : Int32))).toUInt32.toUInt16.toUInt32.toInt32)), .val (.int ((((((ia).toUInt32 >>> ((8 : Int32) &&& 31).toUInt32).toInt32) &&& (255 : Int32))).toUInt32.toUInt16.toUInt32.toInt32)), .val (.int ((((((ia).toUInt32 >>> ((16 : Int32) &&& 31).toUInt32).toInt32) &&& (255 : Int32))).toUInt32.toUInt16.toUInt32.toInt32)), .val (.int (own_nz ((((ic).toUInt32 >>> ((3 : Int32) &&& 31).toUInt32).toInt32) &&& (1 : Int32)))), .val (.int (own_nz ((((ic).toUInt32 >>> ((4 : Int32) &&& 31).toUInt32).toInt32) &&& (1 : Int32)))), .val (.int (own_nz ((((ic).toUInt32 >>> ((5 : Int32) &&& 31).toUInt32).toInt32) &&& (1 : Int32)))), .val (.int (own_nz (ic &&& (1 : Int32)))), .val (.int (own_nz ((((ic).toUInt32 >>> ((1 : Int32) &&& 31).toUInt32).toInt32) &&& (1 : Int32)))), .val (.int (own_nz ((((ic).toUInt32 >>> ((2 : Int32) &&& 31).toUInt32).toInt32) &&& (1 : Int32)))), .val (.int (((ia &&& (255 : Int32))).toUInt32.toUInt16.toUInt32.toInt32)), .val (.int ((((((ib).toUInt32 >>> ((8 : Int32) &&& 31).toUInt32).toInt32) &&& (255 : Int32))).toUInt32.toUInt16.toUInt32.toInt32)), .val (.int ((((((ib).toUInt32 >>> ((16 : Int32) &&& 31).toUInt32).toInt32) &&& (255 : Int32))).toUInt32.toUInt16.toUInt32.toInt32)), .val (.int (own_nz ((((ic).toUInt32 >>> ((3 : Int32) &&& 31).toUInt32).toInt32) &&& (1 : Int32)))), .val (.int (own_nz ((((ic).toUInt32 >>> ((7 : Int32) &&& 31).toUInt32).toInt32) &&& (1 : Int32)))), .val (.int (own_nz ((((ic).toUInt32 >>> ((8 : Int32) &&& 31).toUInt32).toInt32) &&& (1 : Int32)))), .unset, .unset, .unset, .unset, .unset, .unset, .unset, .unset, .unset, .unset]) rfl ?_
        refine g_iloadN cx d0_254 rfl ?_
        refine g_bipush cx d0_255 (v := (9 : Int32)) rfl ?_
        refine g_iushr cx d0_257 ?_
        refine g_iconst cx d0_258 (v := (3 : Int32)) rfl ?_
        refine g_iand cx d0_259 ?_
        refine g_istore cx d0_260 (Ls' := #[.val (.int ia), .val (.int ib), .val (.int ic), .val (.int (((ia &&& (255 : Int32))).toUInt32.toUInt16.toUInt32.toInt32)), .val (.int ((((((ia).toUInt32 >>> ((8 : Int32) &&& 31).toUInt32).toInt32) &&& (255 : Int32))).toUInt32.toUInt16.toUInt32.toInt32)), .val (.int ((((((ia).toUInt32 >>> ((16 : Int32) &&& 31).toUInt32).toInt32) &&& (255 : Int32))).toUInt32.toUInt16.toUInt32.toInt32)), .val (.int (own_nz ((((ic).toUInt32 >>> ((3 : Int32) &&& 31).toUInt32).toInt32) &&& (1 : Int32)))), .val (.int (own_nz ((((ic).toUInt32 >>> ((4 : Int32) &&& 31).toUInt32).toInt32) &&& (1 : Int32)))), .val (.int (own_nz ((((ic).toUInt32 >>> ((5 : Int32) &&& 31).toUInt32).toInt32) &&& (1 : Int32)))), .val (.int (own_nz (ic &&& (1 : Int32)))), .val (.int (own_nz ((((ic).toUInt32 >>> ((1 : Int32) &&& 31).toUInt32).toInt32) &&& (1 : Int32)))), .val (.int (own_nz ((((ic).toUInt32 >>> ((2 : Int32) &&& 31).toUInt32).toInt32) &&& (1 : Int32)))), .val (.int (((ia &&& (255 : Int32))).toUInt32.toUInt16.toUInt32.toInt32)), .val (.int ((((((ib).toUInt32 >>> ((8 : Int32) &&& 31).toUInt32).toInt32) &&& (255 : Int32))).toUInt32.toUInt16.toUInt32.toInt32)), .val (.int ((((((ib).toUInt32 >>> ((16 : Int32) &&& 31).toUInt32).toInt32) &&& (255 : Int32))).toUInt32.toUInt16.toUInt32.toInt32)), .val (.int (own_nz ((((ic).toUInt32 >>> ((3 : Int32) &&& 31).toUInt32).toInt32) &&& (1 : Int32)))), .val (.int (own_nz ((((ic).toUInt32 >>> ((7 : Int32) &&& 31).toUInt32).toInt32) &&& (1 : Int32)))), .val (.int (own_nz ((((ic).toUInt32 >>> ((8 : Int32) &&& 31).toUInt32).toInt32) &&& (1 : Int32)))), .val (.int ((((ic).toUInt32 >>> ((9 : Int32) &&& 31).toUInt32).toInt32) &&& (3 : Int32))), .unset, .unset, .unset, .unset, .unset, .unset, .unset, .unset, .unset]) rfl ?_
        exact J262 _ _ _ _ _ _ _ _ _ _ _ _ _ _ _ _ (by have r3 := rng32 ia; have e2 : ((ia &&& (255 : Int32))).toInt = (ia).toInt % 256 := c_mask ia (255 : Int32) 8 (by decide) (by decide); have e1 := c_i2c (ia &&& (255 : Int32)); omega) (by have r3 := rng32 ia; have e2 : ((ia &&& (255 : Int32))).toInt = (ia).toInt % 256 := c_mask ia (255 : Int32) 8 (by decide) (by decide); have e1 := c_i2c (ia &&& (255 : Int32)); omega) (by have r4 := rng32 ia; have e3 : ((((ia).toUInt32 >>> ((8 : Int32) &&& 31).toUInt32).toInt32)).toInt = ((ia).toInt % 4294967296) / 256 := c_iushr ia (8 : Int32) 8 (by decide) (by decide); have e2 : (((((ia).toUInt32 >>> ((8 : Int32) &&& 31).toUInt32).toInt32) &&& (255 : Int32))).toInt = ((((ia).toUInt32 >>> ((8 : Int32) &&& 31).toUInt32).toInt32)).toInt % 256 := c_mask (((ia).toUInt32 >>> ((8 : Int32) &&& 31).toUInt32).toInt32) (255 : Int32) 8 (by decide) (by decide); have e1 := c_i2c ((((ia).toUInt32 >>> ((8 : Int32) &&& 31).toUInt32).toInt32) &&& (255 : Int32)); omega) (by have r4 := rng32 ia; have e3 : ((((ia).toUInt32 >>> ((8 : Int32) &&& 31).toUInt32).toInt32)).toInt = ((ia).toInt % 4294967296) / 256 := c_iushr ia (8 : Int32) 8 (by decide) (by decide); have e2 : (((((ia).toUInt32 >>> ((8 : Int32) &&& 31).toUInt32).toInt32) &&& (255 : Int32))).toInt = ((((ia).toUInt32 >>> ((8 : Int32) &&& 31).toUInt32).toInt32)).toInt % 256 := c_mask (((ia).toUInt32 >>> ((8 : Int32) &&& 31).toUInt32).toInt32) (255 : Int32) 8 (by decide) (by decide); have e1 := c_i2c ((((ia).toUInt32 >>> ((8 : Int32) &&& 31).toUInt32).toInt32) &&& (255 : Int32)); omega) (by have r4 := rng32 ia; have e3 : ((((ia).toUInt32 >>> ((16 : Int32) &&& 31).toUInt32).toInt32)).toInt = ((ia).toInt % 4294967296) / 65536 := c_iushr ia (16 : Int32) 16 (by decide) (by decide); have e2 : (((((ia).toUInt32 >>> ((16 : Int32) &&& 31).toUInt32).toInt32) &&& (255 : Int32))).toInt = ((((ia).toUInt32 >>> ((16 : Int32) &&& 31).toUInt32).toInt32)).toInt % 256 := c_mask (((ia).toUInt32 >>> ((16 : Int32) &&& 31).toUInt32).toInt32) (255 : Int32) 8 (by decide) (by decide); have e1 := c_i2c ((((ia).toUInt32 >>> ((16 : Int32) &&& 31).toUInt32).toInt32) &&& (255 : Int32)); omega) (by have r4 := rng32 ia; have e3 : ((((ia).toUInt32 >>> ((16 : Int32) &&& 31).toUInt32).toInt32)).toInt = ((ia).toInt % 4294967296) / 65536 := c_iushr ia (16 : Int32) 16 (by decide) (by decide); have e2 : (((((ia).toUInt32 >>> ((16 : Int32) &&& 31).toUInt32).toInt32) &&& (255 : Int32))).toInt = ((((ia).toUInt32 >>> ((16 : Int32) &&& 31).toUInt32).toInt32)).toInt % 256 := c_mask (((ia).toUInt32 >>> ((16 : Int32) &&& 31).toUInt32).toInt32) (255 : Int32) 8 (by decide) (by decide); have e1 := c_i2c ((((ia).toUInt32 >>> ((16 : Int32) &&& 31).toUInt32).toInt32) &&& (255 : Int32)); omega) (by have r3 := rng32 ia; have e2 : ((ia &&& (255 : Int32))).toInt = (ia).toInt % 256 := c_mask ia (255 : Int32) 8 (by decide) (by decide); have e1 := c_i2c (ia &&& (255 : Int32)); omega) (by have r3 := rng32 ia; have e2 : ((ia &&& (255 : Int32))).toInt = (ia).toInt % 256 := c_mask ia (255 : Int32) 8 (by decide) (by decide); have e1 := c_i2c (ia &&& (255 : Int32)); omega) (by have r4 := rng32 ib; have e3 : ((((ib).toUInt32 >>> ((8 : Int32) &&& 31).toUInt32).toInt32)).toInt = ((ib).toInt % 4294967296) / 256 := c_iushr ib (8 : Int32) 8 (by decide) (by decide); have e2 : (((((ib).toUInt32 >>> ((8 : Int32) &&& 31).toUInt32).toInt32) &&& (255 : Int32))).toInt = ((((ib).toUInt32 >>> ((8 : Int32) &&& 31).toUInt32).toInt32)).toInt % 256 := c_mask (((ib).toUInt32 >>> ((8 : Int32) &&& 31).toUInt32).toInt32) (255 : Int32) 8 (by decide) (by decide); have e1 := c_i2c ((((ib).toUInt32 >>> ((8 : Int32) &&& 31).toUInt32).toInt32) &&& (255 : Int32)); omega) (by have r4 := rng32 ib; have e3 : ((((ib).toUInt32 >>> ((8 : Int32) &&& 31).toUInt32).toInt32)).toInt = ((ib).toInt % 4294967296) / 256 := c_iushr ib (8 : Int32) 8 (by decide) (by decide); have e2 : (((((ib).toUInt32 >>> ((8 : Int32) &&& 31).toUInt32).toInt32) &&& (255 : Int32))).toInt = ((((ib).toUInt32 >>> ((8 : Int32) &&& 31).toUInt32).toInt32)).toInt % 256 := c_mask (((ib).toUInt32 >>> ((8 : Int32) &&& 31).toUInt32).toInt32) (255 : Int32) 8 (by decide) (by decide); have e1 := c_i2c ((((ib).toUInt32 >>> ((8 : Int32) &&& 31).toUInt32).toInt32) &&& (255 : Int32)); omega) (by have r4 := rng32 ib; have e3 : ((((ib).toUInt32 >>> ((16 : Int32) &&& 31).toUInt32).toInt32)).toInt = ((ib).toInt % 4294967296) / 65536 := c_iushr ib (16 : Int32) 16 (by decide) (by decide); have e2 : (((((ib).toUInt32 >>> ((16 : Int32) &&& 31).toUInt32).toInt32) &&& (255 : Int32))).toInt = ((((ib).toUInt32 >>> ((16 : Int32) &&& 31).toUInt32).toInt32)).toInt % 256 := c_mask (((ib).toUInt32 >>> ((16 : Int32) &&& 31).toUInt32).toInt32) (255 : Int32) 8 (by decide) (by decide); have e1 := c_i2c ((((ib).toUInt32 >>> ((16 : Int32) &&& 31).toUInt32).toInt32) &&& (255 : Int32)); omega) (by have r4 := rng32 ib; have e3 : ((((ib).toUInt32 >>> ((16 : Int32) &&& 31).toUInt32).toInt32)).toInt = ((ib).toInt % 4294967296) / 65536 := c_iushr ib (16 : Int32) 16 (by decide) (by decide); have e2 : (((((ib).toUInt32 >>> ((16 : Int32) &&& 31).toUInt32).toInt32) &&& (255 : Int32))).toInt = ((((ib).toUInt32 >>> ((16 : Int32) &&& 31).toUInt32).toInt32)).toInt % 256 := c_mask (((ib).toUInt32 >>> ((16 : Int32) &&& 31).toUInt32).toInt32) (255 : Int32) 8 (by decide) (by decide); have e1 := c_i2c ((((ib).toUInt32 >>> ((16 : Int32) &&& 31).toUInt32).toInt32) &&& (255 : Int32)); omega) (own_nz01 _) (own_nz01 _) (own_nz01 _) (own_nz01 _) (own_nz01 _) (own_nz01 _)
      · refine g_iload cx d0_160 rfl ?_
        refine g_goto cx d0_162 ?_
        refine g_istore cx d0_174 (Ls' := #[.val (.int ia), .val (.int ib), .val (.int ic), .val (.int (((ia &&& (255 : Int32))).toUInt32.toUInt16.toUInt32.toInt32)), .val (.int ((((((ia).toUInt32 >>> ((8 : Int32) &&& 31).toUInt32).toInt32) &&& (255 : Int32))).toUInt32.toUInt16.toUInt32.toInt32)), .val (.int ((((((ia).toUInt32 >>> ((16 : Int32) &&& 31).toUInt32).toInt32) &&& (255 : Int32))).toUInt32.toUInt16.toUInt32.toInt32)), .val (.int (own_nz ((((ic).toUInt32 >>> ((3 : Int32) &&& 31).toUInt32).toInt32) &&& (1 : Int32)))), .val (.int (own_nz ((((ic).toUInt32 >>> ((4 : Int32) &&& 31).toUInt32).toInt32) &&& (1 : Int32)))), .val (.int (own_nz ((((ic).toUInt32 >>> ((5 : Int32) &&& 31).toUInt32).toInt32) &&& (1 : Int32)))), .val (.int (own_nz (ic &&& (1 : Int32)))), .val (.int (own_nz ((((ic).toUInt32 >>> ((1 : Int32) &&& 31).toUInt32).toInt32) &&& (1 : Int32)))), .val (.int (own_nz ((((ic).toUInt32 >>> ((2 : Int32) &&& 31).toUInt32).toInt32) &&& (1 : Int32)))), .val (.int (((ia &&& (255 : Int32))).toUInt32.toUInt16.toUInt32.toInt32)), .val (.int ((((((ib).toUInt32 >>> ((8 : Int32) &&& 31).toUInt32).toInt32) &&& (255 : Int32))).toUInt32.toUInt16.toUInt32.toInt32)), .val (.int ((((((ia).toUInt32 >>> ((16 : Int32) &&& 31).toUInt32).toInt32) &&& (255 : Int32))).toUInt32.toUInt16.toUInt32.toInt32)), .unset, .unset, .unset, .unset, .unset, .unset, .unset, .unset, .unset, .unset, .unset, .unset, .unset]) rfl ?_
        refine g_iload cx d0_176 rfl ?_
        refine g_if_eq cx d0_178 (fun q => absurd q (fun q => hc119 q)) (fun hc178 => ?_)
        refine g_iload cx d0_181 rfl ?_
        refine g_goto cx d0_183 ?_
        refine g_istore cx d0_200 (Ls' := #[.val (.int ia), .val (.int ib), .val (.int ic), .val (.int (((ia &&& (255 : Int32))).toUInt32.toUInt16.toUInt32.toInt32)), .val (.int ((((((ia).toUInt32 >>> ((8 : Int32) &&& 31).toUInt32).toInt32) &&& (255 : Int32))).toUInt32.toUInt16.toUInt32.toInt32)), .val (.int ((((((ia).toUInt32 >>> ((16 : Int32) &&& 31).toUInt32).toInt32) &&& (255 : Int32))).toUInt32.toUInt16.toUInt32.toInt32)), .val (.int (own_nz ((((ic).toUInt32 >>> ((3 : Int32) &&& 31).toUInt32).toInt32) &&& (1 : Int32)))), .val (.int (own_nz ((((ic).toUInt32 >>> ((4 : Int32) &&& 31).toUInt32).toInt32) &&& (1 : Int32)))), .val (.int (own_nz ((((ic).toUInt32 >>> ((5 : Int32) &&& 31).toUInt32).toInt32) &&& (1 : Int32)))), .val (.int (own_nz (ic &&& (1 : Int32)))), .val (.int (own_nz ((((ic).toUInt32 >>> ((1 : Int32) &&& 31).toUInt32).toInt32) &&& (1 : Int32)))), .val (.int (own_nz ((((ic).toUInt32 >>> ((2 : Int32) &&& 31).toUInt32).toInt32) &&& (1 : Int32)))), .val (.int (((ia &&& (255 : Int32))).toUInt32.toUInt16.toUInt32.toInt32)), .val (.int ((((((ib).toUInt32 >>> ((8 : Int32) &&& 31).toUInt32).toInt32) &&& (255 : Int32))).toUInt32.toUInt16.toUInt32.toInt32)), .val (.int ((((((ia).toUInt32 >>> ((16 : Int32) &&& 31).toUInt32).toInt32) &&& (255 : Int32))).toUInt32.toUInt16.toUInt32.toInt32)), .val (.int (own_nz ((((ic).toUInt32 >>> ((3 : Int32) &&& 31).toUInt32).toInt32) &&& (1 : Int32)))), .unset, .unset, .unset, .unset, .unset, .unset, .unset, .unset, .unset, .unset, .unset, .unset]) rfl ?_
        refine g_iload cx d0_202 rfl ?_
        refine g_if_eq cx d0_204 (fun hc204 => ?_) (fun q => absurd q (fun q => q hc136))
        refine g_iloadN cx d0_212 rfl ?_
        refine g_bipush cx d0_213 (v := (7 : Int32)) rfl ?_
        refine g_iushr cx d0_215 ?_
        refine g_iconst cx d0_216 (v := (1 : Int32)) rfl ?_
        refine g_iand cx d0_217 ?_
        refine g_tern cx d0_218 d0_221 d0_222 d0_225 ?_
        refine g_istore cx d0_226 (Ls' := #[.val (.int ia), .val (.int ib), .val (.int ic), .val (.int (((ia &&& (255 : Int32))).toUInt32.toUInt16.toUInt32.toInt32)), .val (.int ((((((ia).toUInt32 >>> ((8 : Int32) &&& 31).toUInt32).toInt32) &&& (255 : Int32))).toUInt32.toUInt16.toUInt32.toInt32)), .val (.int ((((((ia).toUInt32 >>> ((16 : Int32) &&& 31).toUInt32).toInt32) &&& (255 : Int32))).toUInt32.toUInt16.toUInt32.toInt32)), .val (.int (own_nz ((((ic).toUInt32 >>> ((3 : Int32) &&& 31).toUInt32).toInt32) &&& (1 : Int32)))), .val (.int (own_nz ((((ic).toUInt32 >>> ((4 : Int32) &&& 31).toUInt32).toInt32) &&& (1 : Int32)))), .val (.int (own_nz ((((ic).toUInt32 >>> ((5 : Int32) &&& 31).toUInt32).toInt32) &&& (1 : Int32)))), .val (.int (own_nz (ic &&& (1 : Int32)))), .val (.int (own_nz ((((ic).toUInt32 >>> ((1 : Int32) &&& 31).toUInt32).toInt32) &&& (1 : Int32)))), .val (.int (own_nz ((((ic).toUInt32 >>> ((2 : Int32) &&& 31).toUInt32).toInt32) &&& (1 : Int32)))), .val (.int (((ia &&& (255 : Int32))).toUInt32.toUInt16.toUInt32.toInt32)), .val (.int ((((((ib).toUInt32 >>> ((8 : Int32) &&& 31).toUInt32).toInt32) &&& (255 : Int32))).toUInt32.toUInt16.toUInt32.toInt32)), .val (.int ((((((ia).toUInt32 >>> ((16 : Int32) &&& 31).toUInt32).toInt32) &&& (255 : Int32))).toUInt32.toUInt16.toUInt32.toInt32)), .val (.int (own_nz ((((ic).toUInt32 >>> ((3 : Int32) &&& 31).toUInt32).toInt32) &&& (1 : Int32)))), .val (.int (own_nz ((((ic).toUInt32 >>> ((7 : Int32) &&& 31).toUInt32).toInt32) &&& (1 : Int32)))), .unset, .unset, .unset, .unset, .unset, .unset, .unset, .unset, .unset, .unset, .unset]) rfl ?_
        refine g_iload cx d0_228 rfl ?_
        refine g_if_eq cx d0_230 (fun q => absurd q (fun q => hc157 q)) (fun hc230 => ?_)
        refine g_iload cx d0_233 rfl ?_
        refine g_goto cx d0_235 ?_
        refine g_istore cx d0_252 (Ls' := #[.val (.int ia), .val (.int ib), .val (.int ic), .val (.int (((ia &&& (255 : Int32))).toUInt32.toUInt16.toUInt32.toInt32)), .val (.int ((((((ia).toUInt32 >>> ((8 : Int32) &&& 31).toUInt32).toInt32) &&& (255 : Int32))).toUInt32.toUInt16.toUInt32.toInt32)), .val (.int ((((((ia).toUInt32 >>> ((16 : Int32) &&& 31).toUInt32).toInt32) &&& (255 : Int32))).toUInt32.toUInt16.toUInt32.toInt32)), .val (.int (own_nz ((((ic).toUInt32 >>> ((3 : Int32) &&& 31).toUInt32).toInt32) &&& (1 : Int32)))), .val (.int (own_nz ((((ic).toUInt32 >>> ((4 : Int32) &&& 31).toUInt32).toInt32) &&& (1 : Int32)))), .val (.int (own_nz ((((ic).toUInt32 >>> ((5 : Int32) &&& 31).toUInt32).toInt32) &&& (1 : Int32)))), .val (.int (own_nz (ic &&& (1 : Int32)))), .val (.int (own_nz ((((ic).toUInt32 >>> ((1 : Int32) &&& 31).toUInt32).toInt32) &&& (1 : Int32)))), .val (.int (own_nz ((((ic).toUInt32 >>> ((2 : Int32) &&& 31).toUInt32).toInt32) &&& (1 : Int32)))), .val (.int (((ia &&& (255 : Int32))).toUInt32.toUInt16.toUInt32.toInt32)), .val (.int ((((((ib).toUInt32 >>> ((8 : Int32) &&& 31).toUInt32).toInt32) &&& (255 : Int32))).toUInt32.toUInt16.toUInt32.toInt32)), .val (.int ((((((ia).toUInt32 >>> ((16 : Int32) &&& 31).toUInt32).toInt32) &&& (255 : Int32))).toUInt32.toUInt16.toUInt32.toInt32)), .val (.int (own_nz ((((ic).toUInt32 >>> ((3 : Int32) &&& 31).toUInt32).toInt32) &&& (1 : Int32)))), .val (.int (own_nz ((((ic).toUInt32 >>> ((7 : Int32) &&& 31).toUInt32).toInt32) &&& (1 : Int32)))), .val (.int (own_nz ((((ic).toUInt32 >>> ((5 : Int32) &&& 31).toUInt32).toInt32) &&& (1 : Int32)))), .unset, .unset, .unset, .unset, .unset, .unset, .unset, .unset, .unset, .unset]) rfl ?_
        refine g_iloadN cx d0_254 rfl ?_
        refine g_bipush cx d0_255 (v := (9 : Int32)) rfl ?_
        refine g_iushr cx d0_257 ?_
        refine g_iconst cx d0_258 (v := (3 : Int32)) rfl ?_
        refine g_iand cx d0_259 ?_
        refine g_istore cx d0_260 (Ls' := #[.val (.int ia), .val (.int ib), .val (.int ic), .val (.int (((ia &&& (255 : Int32))).toUInt32.toUInt16.toUInt32.toInt32)), .val (.int ((((((ia).toUInt32 >>> ((8 : Int32) &&& 31).toUInt32).toInt32) &&& (255 : Int32))).toUInt32.toUInt16.toUInt32.toInt32)), .val (.int ((((((ia).toUInt32 >>> ((16 : Int32) &&& 31).toUInt32).toInt32) &&& (255 : Int32))).toUInt32.toUInt16.toUInt32.toInt32)), .val (.int (own_nz ((((ic).toUInt32 >>> ((3 : Int32) &&& 31).toUInt32).toInt32) &&& (1 : Int32)))), .val (.int (own_nz ((((ic).toUInt32 >>> ((4 : Int32) &&& 31).toUInt32).toInt32) &&& (1 : Int32)))), .val (.int (own_nz ((((ic).toUInt32 >>> ((5 : Int32) &&& 31).toUInt32).toInt32) &&& (1 : Int32)))), .val (.int (own_nz (ic &&& (1 : Int32)))), .val (.int (own_nz ((((ic).toUInt32 >>> ((1 : Int32) &&& 31).toUInt32).toInt32) &&& (1 : Int32)))), .val (.int (own_nz ((((ic).toUInt32 >>> ((2 : Int32) &&& 31).toUInt32).toInt32) &&& (1 : Int32)))), .val (.int (((ia &&& (255 : Int32))).toUInt32.toUInt16.toUInt32.toInt32)), .val (.int ((((((ib).toUInt32 >>> ((8 : Int32) &&& 31).toUInt32).toInt32) &&& (255 : Int32))).toUInt32.toUInt16.toUInt32.toInt32)), .val (.int ((((((ia).toUInt32 >>> ((16 : Int32) &&& 31).toUInt32).toInt32) &&& (255 : Int32))).toUInt32.toUInt16.toUInt32.toInt32)), .val (.int (own_nz ((((ic).toUInt32 >>> ((3 : Int32) &&& 31).toUInt32).toInt32) &&& (1 : Int32)))), .val (.int (own_nz ((((ic).toUInt32 >>> ((7 : Int32) &&& 31).toUInt32).toInt32) &&& (1 : Int32)))), .val (.int (own_nz ((((ic).toUInt32 >>> ((5 : Int32) &&& 31).toUInt32).toInt32) &&& (1 : Int32)))), .val (.int ((((ic).toUInt32 >>> ((9 : Int32) &&& 31).toUInt32).toInt32) &&& (3 : Int32))), .unset, .unset, .unset, .unset, .unset, .unset, .unset, .unset, .unset]) rfl ?_
        exact J262 _ _ _ _ _ _ _ _ _ _ _ _ _ _ _ _ (by have r3 := rng32 ia; have e2 : ((ia &&& (255 : Int32))).toInt = (ia).toInt % 256 := c_mask ia (255 : Int32) 8 (by decide) (by decide); have e1 := c_i2c (ia &&& (255 : Int32)); omega) (by have r3 := rng32 ia; have e2 : ((ia &&& (255 : Int32))).toInt = (ia).toInt % 256 := c_mask ia (255 : Int32) 8 (by decide) (by decide); have e1 := c_i2c (ia &&& (255 : Int32)); omega) (by have r4 := rng32 ia; have e3 : ((((ia).toUInt32 >>> ((8 : Int32) &&& 31).toUInt32).toInt32)).toInt = ((ia).toInt % 4294967296) / 256 := c_iushr ia (8 : Int32) 8 (by decide) (by decide); have e2 : (((((ia).toUInt32 >>> ((8 : Int32) &&& 31).toUInt32).toInt32) &&& (255 : Int32))).toInt = ((((ia).toUInt32 >>> ((8 : Int32) &&& 31).toUInt32).toInt32)).toInt % 256 := c_mask (((ia).toUInt32 >>> ((8 : Int32) &&& 31).toUInt32).toInt32) (255 : Int32) 8 (by decide) (by decide); have e1 := c_i2c ((((ia).toUInt32 >>> ((8 : Int32) &&& 31).toUInt32).toInt32) &&& (255 : Int32)); omega) (by have r4 := rng32 ia; have e3 : ((((ia).toUInt32 >>> ((8 : Int32) &&& 31).toUInt32).toInt32)).toInt = ((ia).toInt % 4294967296) / 256 := c_iushr ia (8 : Int32) 8 (by decide) (by decide); have e2 : (((((ia).toUInt32 >>> ((8 : Int32) &&& 31).toUInt32).toInt32) &&& (255 : Int32))).toInt = ((((ia).toUInt32 >>> ((8 : Int32) &&& 31).toUInt32).toInt32)).toInt % 256 := c_mask (((ia).toUInt32 >>> ((8 : Int32) &&& 31).toUInt32).toInt32) (255 : Int32) 8 (by decide) (by decide); have e1 := c_i2c ((((ia).toUInt32 >>> ((8 : Int32) &&& 31).toUInt32).toInt32) &&& (255 : Int32)); omega) (by have r4 := rng32 ia; have e3 : ((((ia).toUInt32 >>> ((16 : Int32) &&& 31).toUInt32).toInt32)).toInt = ((ia).toInt % 4294967296) / 65536 := c_iushr ia (16 : Int32) 16 (by decide) (by decide); have e2 : (((((ia).toUInt32 >>> ((16 : Int32) &&& 31).toUInt32).toInt32) &&& (255 : Int32))).toInt = ((((ia).toUInt32 >>> ((16 : Int32) &&& 31).toUInt32).toInt32)).toInt % 256 := c_mask (((ia).toUInt32 >>> ((16 : Int32) &&& 31).toUInt32).toInt32) (255 : Int32) 8 (by decide) (by decide); have e1 := c_i2c ((((ia).toUInt32 >>> ((16 : Int32) &&& 31).toUInt32).toInt32) &&& (255 : Int32)); omega) (by have r4 := rng32 ia; have e3 : ((((ia).toUInt32 >>> ((16 : Int32) &&& 31).toUInt32).toInt32)).toInt = ((ia).toInt % 4294967296) / 65536 := c_iushr ia (16 : Int32) 16 (by decide) (by decide); have e2 : (((((ia).toUInt32 >>> ((16 : Int32) &&& 31).toUInt32).toInt32) &&& (255 : Int32))).toInt = ((((ia).toUInt32 >>> ((16 : Int32) &&& 31).toUInt32).toInt32)).toInt % 256 := c_mask (((ia).toUInt32 >>> ((16 : Int32) &&& 31).toUInt32).toInt32) (255 : Int32) 8 (by decide) (by decide); have e1 := c_i2c ((((ia).toUInt32 >>> ((16 : Int32) &&& 31).toUInt32).toInt32) &&& (255 : Int32)); omega) (by have r3 := rng32 ia; have e2 : ((ia &&& (255 : Int32))).toInt = (ia).toInt % 256 := c_mask ia (255 : Int32) 8 (by decide) (by decide); have e1 := c_i2c (ia &&& (255 : Int32)); omega) (by have r3 := rng32 ia; have e2 : ((ia &&& (255 : Int32))).toInt = (ia).toInt % 256 := c_mask ia (255 : Int32) 8 (by decide) (by decide); have e1 := c_i2c (ia &&& (255 : Int32)); omega) (by have r4 := rng32 ib; have e3 : ((((ib).toUInt32 >>> ((8 : Int32) &&& 31).toUInt32).toInt32)).toInt = ((ib).toInt % 4294967296) / 256 := c_iushr ib (8 : Int32) 8 (by decide) (by decide); have e2 : (((((ib).toUInt32 >>> ((8 : Int32) &&& 31).toUInt32).toInt32) &&& (255 : Int32))).toInt = ((((ib).toUInt32 >>> ((8 : Int32) &&& 31).toUInt32).toInt32)).toInt % 256 := c_mask (((ib).toUInt32 >>> ((8 : Int32) &&& 31).toUInt32).toInt32) (255 : Int32) 8 (by decide) (by decide); have e1 := c_i2c ((((ib).toUInt32 >>> ((8 : Int32) &&& 31).toUInt32).toInt32) &&& (255 : Int32)); omega) (by have r4 := rng32 ib; have e3 : ((((ib).toUInt32 >>> ((8 : Int32) &&& 31).toUInt32).toInt32)).toInt = ((ib).toInt % 4294967296) / 256 := c_iushr ib (8 : Int32) 8 (by decide) (by decide); have e2 : (((((ib).toUInt32 >>> ((8 : Int32) &&& 31).toUInt32).toInt32) &&& (255 : Int32))).toInt = ((((ib).toUInt32 >>> ((8 : Int32) &&& 31).toUInt32).toInt32)).toInt % 256 := c_mask (((ib).toUInt32 >>> ((8 : Int32) &&& 31).toUInt32).toInt32) (255 : Int32) 8 (by decide) (by decide); have e1 := c_i2c ((((ib).toUInt32 >>> ((8 : Int32) &&& 31).toUInt32).toInt32) &&& (255 : Int32)); omega) (by have r4 := rng32 ia; have e3 : ((((ia).toUInt32 >>> ((16 : Int32) &&& 31).toUInt32).toInt32)).toInt = ((ia).toInt % 4294967296) / 65536 := c_iushr ia (16 : Int32) 16 (by decide) (by decide); have e2 : (((((ia).toUInt32 >>> ((16 : Int32) &&& 31).toUInt32).toInt32) &&& (255 : Int32))).toInt = ((((ia).toUInt32 >>> ((16 : Int32) &&& 31).toUInt32).toInt32)).toInt % 256 := c_mask (((ia).toUInt32 >>> ((16 : Int32) &&& 31).toUInt32).toInt32) (255 : Int32) 8 (by decide) (by decide); have e1 := c_i2c ((((ia).toUInt32 >>> ((16 : Int32) &&& 31).toUInt32).toInt32) &&& (255 : Int32)); omega) (by have r4 := rng32 ia; have e3 : ((((ia).toUInt32 >>> ((16 : Int32) &&& 31).toUInt32).toInt32)).toInt = ((ia).toInt % 4294967296) / 65536 := c_iushr ia (16 : Int32) 16 (by decide) (by decide); have e2 : (((((ia).toUInt32 >>> ((16 : Int32) &&& 31).toUInt32).toInt32) &&& (255 : Int32))).toInt = ((((ia).toUInt32 >>> ((16 : Int32) &&& 31).toUInt32).toInt32)).toInt % 256 := c_mask (((ia).toUInt32 >>> ((16 : Int32) &&& 31).toUInt32).toInt32) (255 : Int32) 8 (by decide) (by decide); have e1 := c_i2c ((((ia).toUInt32 >>> ((16 : Int32) &&& 31).toUInt32).toInt32) &&& (255 : Int32)); omega) (own_nz01 _) (own_nz01 _) (own_nz01 _) (own_nz01 _) (own_nz01 _) (own_nz01 _)
    · refine g_iload cx d0_139 rfl ?_
      refine g_goto cx d0_141 ?_
      refine g_istore cx d0_153 (Ls' := #[.val (.int ia), .val (.int ib), .val (.int ic), .val (.int (((ia &&& (255 : Int32))).toUInt32.toUInt16.toUInt32.toInt32)), .val (.int ((((((ia).toUInt32 >>> ((8 : Int32) &&& 31).toUInt32).toInt32) &&& (255 : Int32))).toUInt32.toUInt16.toUInt32.toInt32)), .val (.int ((((((ia).toUInt32 >>> ((16 : Int32) &&& 31).toUInt32).toInt32) &&& (255 : Int32))).toUInt32.toUInt16.toUInt32.toInt32)), .val (.int (own_nz ((((ic).toUInt32 >>> ((3 : Int32) &&& 31).toUInt32).toInt32) &&& (1 : Int32)))), .val (.int (own_nz ((((ic).toUInt32 >>> ((4 : Int32) &&& 31).toUInt32).toInt32) &&& (1 : Int32)))), .val (.int (own_nz ((((ic).toUInt32 >>> ((5 : Int32) &&& 31).toUInt32).toInt32) &&& (1 : Int32)))), .val (.int (own_nz (ic &&& (1 : Int32)))), .val (.int (own_nz ((((ic).toUInt32 >>> ((1 : Int32) &&& 31).toUInt32).toInt32) &&& (1 : Int32)))), .val (.int (own_nz ((((ic).toUInt32 >>> ((2 : Int32) &&& 31).toUInt32).toInt32) &&& (1 : Int32)))), .val (.int (((ia &&& (255 : Int32))).toUInt32.toUInt16.toUInt32.toInt32)), .val (.int ((((((ia).toUInt32 >>> ((8 : Int32) &&& 31).toUInt32).toInt32) &&& (255 : Int32))).toUInt32.toUInt16.toUInt32.toInt32)), .unset, .unset, .unset, .unset, .unset, .unset, .unset, .unset, .unset, .unset, .unset, .unset, .unset, .unset]) rfl ?_
      refine g_iload cx d0_155 rfl ?_
      refine g_if_eq cx d0_157 (fun hc157 => ?_) (fun hc157 => ?_)
      · refine g_iloadN cx d0_165 rfl ?_
        refine g_bipush cx d0_166 (v := (16 : Int32)) rfl ?_
        refine g_iushr cx d0_168 ?_
        refine g_sipush cx d0_169 (v := (255 : Int32)) rfl ?_
        refine g_iand cx d0_172 ?_
        refine g_i2c cx d0_173 ?_
        refine g_istore cx d0_174 (Ls' := #[.val (.int ia), .val (.int ib), .val (.int ic), .val (.int (((ia &&& (255 : Int32))).toUInt32.toUInt16.toUInt32.toInt32)), .val (.int ((((((ia).toUInt32 >>> ((8 : Int32) &&& 31).toUInt32).toInt32) &&& (255 : Int32))).toUInt32.toUInt16.toUInt32.toInt32)), .val (.int ((((((ia).toUInt32 >>> ((16 : Int32) &&& 31).toUInt32).toInt32) &&& (255 : Int32))).toUInt32.toUInt16.toUInt32.toInt32)), .val (.int (own_nz ((((ic).toUInt32 >>> ((3 : Int32) &&& 31).toUInt32).toInt32) &&& (1 : Int32)))), .val (.int (own_nz ((((ic).toUInt32 >>> ((4 : Int32) &&& 31).toUInt32).toInt32) &&& (1 : Int32)))), .val (.int (own_nz ((((ic).toUInt32 >>> ((5 : Int32) &&& 31).toUInt32).toInt32) &&& (1 : Int32)))), .val (.int (own_nz (ic &&& (1 : Int32)))), .val (.int (own_nz ((((ic).toUInt32 >>> ((1 : Int32) &&& 31).toUInt32).toInt32) &&& (1 : Int32)))), .val (.int (own_nz ((((ic).toUInt32 >>> ((2 : Int32) &&& 31).toUInt32).toInt32) &&& (1 : Int32)))), .val (.int (((ia &&& (255 : Int32))).toUInt32.toUInt16.toUInt32.toInt32)), .val (.int ((((((ia).toUInt32 >>> ((8 : Int32) &&& 31).toUInt32).toInt32) &&& (255 : Int32))).toUInt32.toUInt16.toUInt32.toInt32)), .val (.int ((((((ib).toUInt32 >>> ((16 : Int32) &&& 31).toUInt32).toInt32) &&& (255 : Int32))).toUInt32.toUInt16.toUInt32.toInt32)), .unset, .unset, .unset, .unset, .unset, .unset, .unset, .unset, .unset, .unset, .unset, .unset, .unset]) rfl ?_
        refine g_iload cx d0_176 rfl ?_
        refine g_if_eq cx d0_178 (fun q => absurd q (fun q => hc119 q)) (fun hc178 => ?_)
        refine g_iload cx d0_181 rfl ?_
        refine g_goto cx d0_183 ?_
        refine g_istore cx d0_200 (Ls' := #[.val (.int ia), .val (.int ib), .val (.int ic), .val (.int (((ia &&& (255 : Int32))).toUInt32.toUInt16.toUInt32.toInt32)), .val (.int ((((((ia).toUInt32 >>> ((8 : Int32) &&& 31).toUInt32).toInt32) &&& (255 : Int32))).toUInt32.toUInt16.toUInt32.toInt32)), .val (.int ((((((ia).toUInt32 >>> ((16 : Int32) &&& 31).toUInt32).toInt32) &&& (255 : Int32))).toUInt32.toUInt16.toUInt32.toInt32)), .val (.int (own_nz ((((ic).toUInt32 >>> ((3 : Int32) &&& 31).toUInt32).toInt32) &&& (1 : Int32)))), .val (.int (own_nz ((((ic).toUInt32 >>> ((4 : Int32) &&& 31).toUInt32).toInt32) &&& (1 : Int32)))), .val (.int (own_nz ((((ic).toUInt32 >>> ((5 : Int32) &&& 31).toUInt32).toInt32) &&& (1 : Int32)))), .val (.int (own_nz (ic &&& (1 : Int32)))), .val (.int (own_nz ((((ic).toUInt32 >>> ((1 : Int32) &&& 31).toUInt32).toInt32) &&& (1 : Int32)))), .val (.int (own_nz ((((ic).toUInt32 >>> ((2 : Int32) &&& 31).toUInt32).toInt32) &&& (1 : Int32)))), .val (.int (((ia &&& (255 : Int32))).toUInt32.toUInt16.toUInt32.toInt32)), .val (.int ((((((ia).toUInt32 >>> ((8 : Int32) &&& 31).toUInt32).toInt32) &&& (255 : Int32))).toUInt32.toUInt16.toUInt32.toInt32)), .val (.int ((((((ib).toUInt32 >>> ((16 : Int32) &&& 31).toUInt32).toInt32) &&& (255 : Int32))).toUInt32.toUInt16.toUInt32.toInt32)), .val (.int (own_nz ((((ic).toUInt32 >>> ((3 : Int32) &&& 31).toUInt32).toInt32) &&& (1 : Int32)))), .unset, .unset, .unset, .unset, .unset, .unset, .unset, .unset, .unset, .unset, .unset, .unset]) rfl ?_
        refine g_iload cx d0_202 rfl ?_
        refine g_if_eq cx d0_204 (fun q => absurd q (fun q => hc136 q)) (fun hc204 => ?_)
        refine g_iload cx d0_207 rfl ?_
        refine g_goto cx d0_209 ?_
        refine g_istore cx d0_226 (Ls' := #[.val (.int ia), .val (.int ib), .val (.int ic), .val (.int (((ia &&& (255 : Int32))).toUInt32.toUInt16.toUInt32.toInt32)), .val (.int ((((((ia).toUInt32 >>> ((8 : Int32) &&& 31).toUInt32).toInt32) &&& (255 : Int32))).toUInt32.toUInt16.toUInt32.toInt32)), .val (.int ((((((ia).toUInt32 >>> ((16 : Int32) &&& 31).toUInt32).toInt32) &&& (255 : Int32))).toUInt32.toUInt16.toUInt32.toInt32)), .val (.int (own_nz ((((ic).toUInt32 >>> ((3 : Int32) &&& 31).toUInt32).toInt32) &&& (1 : Int32)))), .val (.int (own_nz ((((ic).toUInt32 >>> ((4 : Int32) &&& 31).toUInt32).toInt32) &&& (1 : Int32)))), .val (.int (own_nz ((((ic).toUInt32 >>> ((5 : Int32) &&& 31).toUInt32).toInt32) &&& (1 : Int32)))), .val (.int (own_nz (ic &&& (1 : Int32)))), .val (.int (own_nz ((((ic).toUInt32 >>> ((1 : Int32) &&& 31).toUInt32).toInt32) &&& (1 : Int32)))), .val (.int (own_nz ((((ic).toUInt32 >>> ((2 : Int32) &&& 31).toUInt32).toInt32) &&& (1 : Int32)))), .val (.int (((ia &&& (255 : Int32))).toUInt32.toUInt16.toUInt32.toInt32)), .val (.int ((((((ia).toUInt32 >>> ((8 : Int32) &&& 31).toUInt32).toInt32) &&& (255 : Int32))).toUInt32.toUInt16.toUInt32.toInt32)), .val (.int ((((((ib).toUInt32 >>> ((16 : Int32) &&& 31).toUInt32).toInt32) &&& (255 : Int32))).toUInt32.toUInt16.toUInt32.toInt32)), .val (.int (own_nz ((((ic).toUInt32 >>> ((3 : Int32) &&& 31).toUInt32).toInt32) &&& (1 : Int32)))), .val (.int (own_nz ((((ic).toUInt32 >>> ((4 : Int32) &&& 31).toUInt32).toInt32) &&& (1 : Int32)))), .unset, .unset, .unset, .unset, .unset, .unset, .unset, .unset, .unset, .unset, .unset]) rfl ?_
        refine g_iload cx d0_228 rfl ?_
        refine g_if_eq cx d0_230 (fun hc230 => ?_) (fun q => absurd q (fun q => q hc157))
        refine g_iloadN cx d0_238 rfl ?_
        refine g_bipush cx d0_239 (v := (8 : Int32)) rfl ?_
        refine g_iushr cx d0_241 ?_
        refine g_iconst cx d0_242 (v := (1 : Int32)) rfl ?_
        refine g_iand cx d0_243 ?_
        refine g_tern cx d0_244 d0_247 d0_248 d0_251 ?_
        refine g_istore cx d0_252 (Ls' := #[.val (.int ia), .val (.int ib), .val (.int ic), .val (.int (((ia &&& (255 : Int32))).toUInt32.toUInt16.toUInt32.toInt32)), .val (.int ((((((ia).toUInt32 >>> ((8 : Int32) &&& 31).toUInt32).toInt32) &&& (255 : Int32))).toUInt32.toUInt16.toUInt32.toInt32)), .val (.int ((((((ia).toUInt32 >>> ((16 : Int32) &&& 31).toUInt32).toInt32) &&& (255 : Int32))).toUInt32.toUInt16.toUInt32.toInt32)), .val (.int (own_nz ((((ic).toUInt32 >>> ((3 : Int32) &&& 31).toUInt32).toInt32) &&& (1 : Int32)))), .val (.int (own_nz ((((ic).toUInt32 >>> ((4 : Int32) &&& 31).toUInt32).toInt32) &&& (1 : Int32)))), .val (.int (own_nz ((((ic).toUInt32 >>> ((5 : Int32) &&& 31).toUInt32).toInt32) &&& (1 : Int32)))), .val (.int (own_nz (ic &&& (1 : Int32)))), .val (.int (own_nz ((((ic).toUInt32 >>> ((1 : Int32) &&& 31).toUInt32).toInt32) &&& (1 : Int32)))), .val (.int (own_nz ((((ic).toUInt32 >>> ((2 : Int32) &&& 31).toUInt32).toInt32) &&& (1 : Int32)))), .val (.int (((ia &&& (255 : Int32))).toUInt32.toUInt16.toUInt32.toInt32)), .val (.int ((((((ia).toUInt32 >>> ((8 : Int32) &&& 31).toUInt32).toInt32) &&& (255 : Int32))).toUInt32.toUInt16.toUInt32.toInt32)), .val (.int ((((((ib).toUInt32 >>> ((16 : Int32) &&& 31).toUInt32).toInt32) &&& (255 : Int32))).toUInt32.toUInt16.toUInt32.toInt32)), .val (.int (own_nz ((((ic).toUInt32 >>> ((3 : Int32) &&& 31).toUInt32).toInt32) &&& (1 : Int32)))), .val (.int (own_nz ((((ic).toUInt32 >>> ((4 : Int32) &&& 31).toUInt32).toInt32) &&& (1 : Int32)))), .val (.int (own_nz ((((ic).toUInt32 >>> ((8 : Int32) &&& 31).toUInt32).toInt32) &&& (1 : Int32)))), .unset, .unset, .unset, .unset, .unset, .unset, .unset, .unset, .unset, .unset]) rfl ?_
        refine g_iloadN cx d0_254 rfl ?_
        refine g_bipush cx d0_255 (v := (9 : Int32)) rfl ?_
        refine g_iushr cx d0_257 ?_
        refine g_iconst cx d0_258 (v := (3 : Int32)) rfl ?_
        refine g_iand cx d0_259 ?_
        refine g_istore cx d0_260 (Ls' := #[.val (.int ia), .val (.int ib), .val (.int ic), .val (.int (((ia &&& (255 : Int32))).toUInt32.toUInt16.toUInt32.toInt32)), .val (.int ((((((ia).toUInt32 >>> ((8 : Int32) &&& 31).toUInt32).toInt32) &&& (255 : Int32))).toUInt32.toUInt16.toUInt32.toInt32)), .val (.int ((((((ia).toUInt32 >>> ((16 : Int32) &&& 31).toUInt32).toInt32) &&& (255 : Int32))).toUInt32.toUInt16.toUInt32.toInt32)), .val (.int (own_nz ((((ic).toUInt32 >>> ((3 : Int32) &&& 31).toUInt32).toInt32) &&& (1 : Int32)))), .val (.int (own_nz ((((ic).toUInt32 >>> ((4 : Int32) &&& 31).toUInt32).toInt32) &&& (1 : Int32)))), .val (.int (own_nz ((((ic).toUInt32 >>> ((5 : Int32) &&& 31).toUInt32).toInt32) &&& (1 : Int32)))), .val (.int (own_nz (ic &&& (1 : Int32)))), .val (.int (own_nz ((((ic).toUInt32 >>> ((1 : Int32) &&& 31).toUInt32).toInt32) &&& (1 : Int32)))), .val (.int (own_nz ((((ic).toUInt32 >>> ((2 : Int32) &&& 31).toUInt32).toInt32) &&& (1 : Int32)))), .val (.int (((ia &&& (255 : Int32))).toUInt32.toUInt16.toUInt32.toInt32)), .val (.int ((((((ia).toUInt32 >>> ((8 : Int32) &&& 31).toUInt32).toInt32) &&& (255 : Int32))).toUInt32.toUInt16.toUInt32.toInt32)), .val (.int ((((((ib).toUInt32 >>> ((16 : Int32) &&& 31).toUInt32).toInt32) &&& (255 : Int32))).toUInt32.toUInt16.toUInt32.toInt32)), .val (.int (own_nz ((((ic).toUInt32 >>> ((3 : Int32) &&& 31).toUInt32).toInt32) &&& (1 : Int32)))), .val (.int (own_nz ((((ic).toUInt32 >>> ((4 : Int32) &&& 31).toUInt32).toInt32) &&& (1 : Int32)))), .val (.int (own_nz ((((ic).toUInt32 >>> ((8 : Int32) &&& 31).toUInt32).toInt32) &&& (1 : Int32)))), .val (.int ((((ic).toUInt32 >>> ((9 : Int32) &&& 31).toUInt32).toInt32) &&& (3 : Int32))), .unset, .unset, .unset, .unset, .unset, .unset, .unset, .unset, .unset]) rfl ?_
        exact J262 _ _ _ _ _ _ _ _ _ _ _ _ _ _ _ _ (by have r3 := rng32 ia; have e2 : ((ia &&& (255 : Int32))).toInt = (ia).toInt % 256 := c_mask ia (255 : Int32) 8 (by decide) (by decide); have e1 := c_i2c (ia &&& (255 : Int32)); omega) (by have r3 := rng32 ia; have e2 : ((ia &&& (255 : Int32))).toInt = (ia).toInt % 256 := c_mask ia (255 : Int32) 8 (by decide) (by decide); have e1 := c_i2c (ia &&& (255 : Int32)); omega) (by have r4 := rng32 ia; have e3 : ((((ia).toUInt32 >>> ((8 : Int32) &&& 31).toUInt32).toInt32)).toInt = ((ia).toInt % 4294967296) / 256 := c_iushr ia (8 : Int32) 8 (by decide) (by decide); have e2 : (((((ia).toUInt32 >>> ((8 : Int32) &&& 31).toUInt32).toInt32) &&& (255 : Int32))).toInt = ((((ia).toUInt32 >>> ((8 : Int32) &&& 31).toUInt32).toInt32)).toInt % 256 := c_mask (((ia).toUInt32 >>> ((8 : Int32) &&& 31).toUInt32).toInt32) (255 : Int32) 8 (by decide) (by decide); have e1 := c_i2c ((((ia).toUInt32 >>> ((8 : Int32) &&& 31).toUInt32).toInt32) &&& (255 : Int32)); omega) (by have r4 := rng32 ia; have e3 : ((((ia).toUInt32 >>> ((8 : Int32) &&& 31).toUInt32).toInt32)).toInt = ((ia).toInt % 4294967296) / 256 := c_iushr ia (8 : Int32) 8 (by decide) (by decide); have e2 : (((((ia).toUInt32 >>> ((8 : Int32) &&& 31).toUInt32).toInt32) &&& (255 : Int32))).toInt = ((((ia).toUInt32 >>> ((8 : Int32) &&& 31).toUInt32).toInt32)).toInt % 256 := c_mask (((ia).toUInt32 >>> ((8 : Int32) &&& 31).toUInt32).toInt32) (255 : Int32) 8 (by decide) (by decide); have e1 := c_i2c ((((ia).toUInt32 >>> ((8 : Int32) &&& 31).toUInt32).toInt32) &&& (255 : Int32)); omega) (by have r4 := rng32 ia; have e3 : ((((ia).toUInt32 >>> ((16 : Int32) &&& 31).toUInt32).toInt32)).toInt = ((ia).toInt % 4294967296) / 65536 := c_iushr ia (16 : Int32) 16 (by decide) (by decide); have e2 : (((((ia).toUInt32 >>> ((16 : Int32) &&& 31).toUInt32).toInt32) &&& (255 : Int32))).toInt = ((((ia).toUInt32 >>> ((16 : Int32) &&& 31).toUInt32).toInt32)).toInt % 256 := c_mask (((ia).toUInt32 >>> ((16 : Int32) &&& 31).toUInt32).toInt32) (255 : Int32) 8 (by decide) (by decide); have e1 := c_i2c ((((ia).toUInt32 >>> ((16 : Int32) &&& 31).toUInt32).toInt32) &&& (255 : Int32)); omega) (by have r4 := rng32 ia; have e3 : ((((ia).toUInt32 >>> ((16 : Int32) &&& 31).toUInt32).toInt32)).toInt = ((ia).toInt % 4294967296) / 65536 := c_iushr ia (16 : Int32) 16 (by decide) (by decide); have e2 : (((((ia).toUInt32 >>> ((16 : Int32) &&& 31).toUInt32).toInt32) &&& (255 : Int32))).toInt = ((((ia).toUInt32 >>> ((16 : Int32) &&& 31).toUInt32).toInt32)).toInt % 256 := c_mask (((ia).toUInt32 >>> ((16 : Int32) &&& 31).toUInt32).toInt32) (255 : Int32) 8 (by decide) (by decide); have e1 := c_i2c ((((ia).toUInt32 >>> ((16 : Int32) &&& 31).toUInt32).toInt32) &&& (255 : Int32)); omega) (by have r3 := rng32 ia; have e2 : ((ia &&& (255 : Int32))).toInt = (ia).toInt % 256 := c_mask ia (255 : Int32) 8 (by decide) (by decide); have e1 := c_i2c (ia &&& (255 : Int32)); omega) (by have r3 := rng32 ia; have e2 : ((ia &&& (255 : Int32))).toInt = (ia).toInt % 256 := c_mask ia (255 : Int32) 8 (by decide) (by decide); have e1 := c_i2c (ia &&& (255 : Int32)); omega) (by have r4 := rng32 ia; have e3 : ((((ia).toUInt32 >>> ((8 : Int32) &&& 31).toUInt32).toInt32)).toInt = ((ia).toInt % 4294967296) / 256 := c_iushr ia (8 : Int32) 8 (by decide) (by decide); have e2 : (((((ia).toUInt32 >>> ((8 : Int32) &&& 31).toUInt32).toInt32) &&& (255 : Int32))).toInt = ((((ia).toUInt32 >>> ((8 : Int32) &&& 31).toUInt32).toInt32)).toInt % 256 := c_mask (((ia).toUInt32 >>> ((8 : Int32) &&& 31).toUInt32).toInt32) (255 : Int32) 8 (by decide) (by decide); have e1 := c_i2c ((((ia).toUInt32 >>> ((8 : Int32) &&& 31).toUInt32).toInt32) &&& (255 : Int32)); omega) (by have r4 := rng32 ia; have e3 : ((((ia).toUInt32 >>> ((8 : Int32) &&& 31).toUInt32).toInt32)).toInt = ((ia).toInt % 4294967296) / 256 := c_iushr ia (8 : Int32) 8 (by decide) (by decide); have e2 : (((((ia).toUInt32 >>> ((8 : Int32) &&& 31).toUInt32).toInt32) &&& (255 : Int32))).toInt = ((((ia).toUInt32 >>> ((8 : Int32) &&& 31).toUInt32).toInt32)).toInt % 256 := c_mask (((ia).toUInt32 >>> ((8 : Int32) &&& 31).toUInt32).toInt32) (255 : Int32) 8 (by decide) (by decide); have e1 := c_i2c ((((ia).toUInt32 >>> ((8 : Int32) &&& 31).toUInt32).toInt32) &&& (255 : Int32)); omega) (by have r4 := rng32 ib; have e3 : ((((ib).toUInt32 >>> ((16 : Int32) &&& 31).toUInt32).toInt32)).toInt = ((ib).toInt % 4294967296) / 65536 := c_iushr ib (16 : Int32) 16 (by decide) (by decide); have e2 : (((((ib).toUInt32 >>> ((16 : Int32) &&& 31).toUInt32).toInt32) &&& (255 : Int32))).toInt = ((((ib).toUInt32 >>> ((16 : Int32) &&& 31).toUInt32).toInt32)).toInt % 256 := c_mask (((ib).toUInt32 >>> ((16 : Int32) &&& 31).toUInt32).toInt32) (255 : Int32) 8 (by decide) (by decide); have e1 := c_i2c ((((ib).toUInt32 >>> ((16 : Int32) &&& 31).toUInt32).toInt32) &&& (255 : Int32)); omega) (by have r4 := rng32 ib; have e3 : ((((ib).toUInt32 >>> ((16 : Int32) &&& 31).toUInt32).toInt32)).toInt = ((ib).toInt % 4294967296) / 65536 := c_iushr ib (16 : Int32) 16 (by decide) (by decide); have e2 : (((((ib).toUInt32 >>> ((16 : Int32) &&& 31).toUInt32).toInt32) &&& (255 : Int32))).toInt = ((((ib).toUInt32 >>> ((16 : Int32) &&& 31).toUInt32).toInt32)).toInt % 256 := c_mask (((ib).toUInt32 >>> ((16 : Int32) &&& 31).toUInt32).toInt32) (255 : Int32) 8 (by decide) (by decide); have e1 := c_i2c ((((ib).toUInt32 >>> ((16 : Int32) &&& 31).toUInt32).toInt32) &&& (255 : Int32)); omega) (own_nz01 _) (own_nz01 _) (own_nz01 _) (own_nz01 _) (own_nz01 _) (own_nz01 _)
      · refine g_iload cx d0_160 rfl ?_
        refine g_goto cx d0_162 ?_
        refine g_istore cx d0_174 (Ls' := #[.val (.int ia), .val (.int ib), .val (.int ic), .val (.int (((ia &&& (255 : Int32))).toUInt32.toUInt16.toUInt32.toInt32)), .val (.int ((((((ia).toUInt32 >>> ((8 : Int32) &&& 31).toUInt32).toInt32) &&& (255 : Int32))).toUInt32.toUInt16.toUInt32.toInt32)), .val (.int ((((((ia).toUInt32 >>> ((16 : Int32) &&& 31).toUInt32).toInt32) &&& (255 : Int32))).toUInt32.toUInt16.toUInt32.toInt32)), .val (.int (own_nz ((((ic).toUInt32 >>> ((3 : Int32) &&& 31).toUInt32).toInt32) &&& (1 : Int32)))), .val (.int (own_nz ((((ic).toUInt32 >>> ((4 : Int32) &&& 31).toUInt32).toInt32) &&& (1 : Int32)))), .val (.int (own_nz ((((ic).toUInt32 >>> ((5 : Int32) &&& 31).toUInt32).toInt32) &&& (1 : Int32)))), .val (.int (own_nz (ic &&& (1 : Int32)))), .val (.int (own_nz ((((ic).toUInt32 >>> ((1 : Int32) &&& 31).toUInt32).toInt32) &&& (1 : Int32)))), .val (.int (own_nz ((((ic).toUInt32 >>> ((2 : Int32) &&& 31).toUInt32).toInt32) &&& (1 : Int32)))), .val (.int (((ia &&& (255 : Int32))).toUInt32.toUInt16.toUInt32.toInt32)), .val (.int ((((((ia).toUInt32 >>> ((8 : Int32) &&& 31).toUInt32).toInt32) &&& (255 : Int32))).toUInt32.toUInt16.toUInt32.toInt32)), .val (.int ((((((ia).toUInt32 >>> ((16 : Int32) &&& 31).toUInt32).toInt32) &&& (255 : Int32))).toUInt32.toUInt16.toUInt32.toInt32)), .unset, .unset, .unset, .unset, .unset, .unset, .unset, .unset, .unset, .unset, .unset, .unset, .unset]) rfl ?_
        refine g_iload cx d0_176 rfl ?_
        refine g_if_eq cx d0_178 (fun q => absurd q (fun q => hc119 q)) (fun hc178 => ?_)
        refine g_iload cx d0_181 rfl ?_
        refine g_goto cx d0_183 ?_
        refine g_istore cx d0_200 (Ls' := #[.val (.int ia), .val (.int ib), .val (.int ic), .val (.int (((ia &&& (255 : Int32))).toUInt32.toUInt16.toUInt32.toInt32)), .val (.int ((((((ia).toUInt32 >>> ((8 : Int32) &&& 31).toUInt32).toInt32) &&& (255 : Int32))).toUInt32.toUInt16.toUInt32.toInt32)), .val (.int ((((((ia).toUInt32 >>> ((16 : Int32) &&& 31).toUInt32).toInt32) &&& (255 : Int32))).toUInt32.toUInt16.toUInt32.toInt32)), .val (.int (own_nz ((((ic).toUInt32 >>> ((3 : Int32) &&& 31).toUInt32).toInt32) &&& (1 : Int32)))), .val (.int (own_nz ((((ic).toUInt32 >>> ((4 : Int32) &&& 31).toUInt32).toInt32) &&& (1 : Int32)))), .val (.int (own_nz ((((ic).toUInt32 >>> ((5 : Int32) &&& 31).toUInt32).toInt32) &&& (1 : Int32)))), .val (.int (own_nz (ic &&& (1 : Int32)))), .val (.int (own_nz ((((ic).toUInt32 >>> ((1 : Int32) &&& 31).toUInt32).toInt32) &&& (1 : Int32)))), .val (.int (own_nz ((((ic).toUInt32 >>> ((2 : Int32) &&& 31).toUInt32).toInt32) &&& (1 : Int32)))), .val (.int (((ia &&& (255 : Int32))).toUInt32.toUInt16.toUInt32.toInt32)), .val (.int ((((((ia).toUInt32 >>> ((8 : Int32) &&& 31).toUInt32).toInt32) &&& (255 : Int32))).toUInt32.toUInt16.toUInt32.toInt32)), .val (.int ((((((ia).toUInt32 >>> ((16 : Int32) &&& 31).toUInt32).toInt32) &&& (255 : Int32))).toUInt32.toUInt16.toUInt32.toInt32)), .val (.int (own_nz ((((ic).toUInt32 >>> ((3 : Int32) &&& 31).toUInt32).toInt32) &&& (1 : Int32)))), .unset, .unset, .unset, .unset, .unset, .unset, .unset, .unset, .unset, .unset, .unset, .unset]) rfl ?_
        refine g_iload cx d0_202 rfl ?_
        refine g_if_eq cx d0_204 (fun q => absurd q (fun q => hc136 q)) (fun hc204 => ?_)
        refine g_iload cx d0_207 rfl ?_
        refine g_goto cx d0_209 ?_
        refine g_istore cx d0_226 (Ls' := #[.val (.int ia), .val (.int ib), .val (.int ic), .val (.int (((ia &&& (255 : Int32))).toUInt32.toUInt16.toUInt32.toInt32)), .val (.int ((((((ia).toUInt32 >>> ((8 : Int32) &&& 31).toUInt32).toInt32) &&& (255 : Int32))).toUInt32.toUInt16.toUInt32.toInt32)), .val (.int ((((((ia).toUInt32 >>> ((16 : Int32) &&& 31).toUInt32).toInt32) &&& (255 : Int32))).toUInt32.toUInt16.toUInt32.toInt32)), .val (.int (own_nz ((((ic).toUInt32 >>> ((3 : Int32) &&& 31).toUInt32).toInt32) &&& (1 : Int32)))), .val (.int (own_nz ((((ic).toUInt32 >>> ((4 : Int32) &&& 31).toUInt32).toInt32) &&& (1 : Int32)))), .val (.int (own_nz ((((ic).toUInt32 >>> ((5 : Int32) &&& 31).toUInt32).toInt32) &&& (1 : Int32)))), .val (.int (own_nz (ic &&& (1 : Int32)))), .val (.int (own_nz ((((ic).toUInt32 >>> ((1 : Int32) &&& 31).toUInt32).toInt32) &&& (1 : Int32)))), .val (.int (own_nz ((((ic).toUInt32 >>> ((2 : Int32) &&& 31).toUInt32).toInt32) &&& (1 : Int32)))), .val (.int (((ia &&& (255 : Int32))).toUInt32.toUInt16.toUInt32.toInt32)), .val (.int ((((((ia).toUInt32 >>> ((8 : Int32) &&& 31).toUInt32).toInt32) &&& (255 : Int32))).toUInt32.toUInt16.toUInt32.toInt32)), .val (.int ((((((ia).toUInt32 >>> ((16 : Int32) &&& 31).toUInt32).toInt32) &&& (255 : Int32))).toUInt32.toUInt16.toUInt32.toInt32)), .val (.int (own_nz ((((ic).toUInt32 >>> ((3 : Int32) &&& 31).toUInt32).toInt32) &&& (1 : Int32)))), .val (.int (own_nz ((((ic).toUInt32 >>> ((4 : Int32) &&& 31).toUInt32).toInt32) &&& (1 : Int32)))), .unset, .unset, .unset, .unset, .unset, .unset, .unset, .unset, .unset, .unset, .unset]) rfl ?_
        refine g_iload cx d0_228 rfl ?_
        refine g_if_eq cx d0_230 (fun q => absurd q (fun q => hc157 q)) (fun hc230 => ?_)
        refine g_iload cx d0_233 rfl ?_
        refine g_goto cx d0_235 ?_
        refine g_istore cx d0_252 (Ls' := #[.val (.int ia), .val (.int ib), .val (.int ic), .val (.int (((ia &&& (255 : Int32))).toUInt32.toUInt16.toUInt32.toInt32)), .val (.int ((((((ia).toUInt32 >>> ((8 : Int32) &&& 31).toUInt32).toInt32) &&& (255 : Int32))).toUInt32.toUInt16.toUInt32.toInt32)), .val (.int ((((((ia).toUInt32 >>> ((16 : Int32) &&& 31).toUInt32).toInt32) &&& (255 : Int32))).toUInt32.toUInt16.toUInt32.toInt32)), .val (.int (own_nz ((((ic).toUInt32 >>> ((3 : Int32) &&& 31).toUInt32).toInt32) &&& (1 : Int32)))), .val (.int (own_nz ((((ic).toUInt32 >>> ((4 : Int32) &&& 31).toUInt32).toInt32) &&& (1 : Int32)))), .val (.int (own_nz ((((ic).toUInt32 >>> ((5 : Int32) &&& 31).toUInt32).toInt32) &&& (1 : Int32)))), .val (.int (own_nz (ic &&& (1 : Int32)))), .val (.int (own_nz ((((ic).toUInt32 >>> ((1 : Int32) &&& 31).toUInt32).toInt32) &&& (1 : Int32)))), .val (.int (own_nz ((((ic).toUInt32 >>> ((2 : Int32) &&& 31).toUInt32).toInt32) &&& (1 : Int32)))), .val (.int (((ia &&& (255 : Int32))).toUInt32.toUInt16.toUInt32.toInt32)), .val (.int ((((((ia).toUInt32 >>> ((8 : Int32) &&& 31).toUInt32).toInt32) &&& (255 : Int32))).toUInt32.toUInt16.toUInt32.toInt32)), .val (.int ((((((ia).toUInt32 >>> ((16 : Int32) &&& 31).toUInt32).toInt32) &&& (255 : Int32))).toUInt32.toUInt16.toUInt32.toInt32)), .val (.int (own_nz ((((ic).toUInt32 >>> ((3 : Int32) &&& 31).toUInt32).toInt32) &&& (1 : Int32)))), .val (.int (own_nz ((((ic).toUInt32 >>> ((4 : Int32) &&& 31).toUInt32).toInt32) &&& (1 : Int32)))), .val (.int (own_nz ((((ic).toUInt32 >>> ((5 : Int32) &&& 31).toUInt32).toInt32) &&& (1 : Int32)))), .unset, .unset, .unset, .unset, .unset, .unset, .unset, .unset, .unset, .unset]) rfl ?_
        refine g_iloadN cx d0_254 rfl ?_
        refine g_bipush cx d0_255 (v := (9 : Int32)) rfl ?_
        refine g_iushr cx d0_257 ?_
        refine g_iconst cx d0_258 (v := (3 : Int32)) rfl ?_
        refine g_iand cx d0_259 ?_
        refine g_istore cx d0_260 (Ls' := #[.val (.int ia), .val (.int ib), .val (.int ic), .val (.int (((ia &&& (255 : Int32))).toUInt32.toUInt16.toUInt32.toInt32)), .val (.int ((((((ia).toUInt32 >>> ((8 : Int32) &&& 31).toUInt32).toInt32) &&& (255 : Int32))).toUInt32.toUInt16.toUInt32.toInt32)), .val (.int ((((((ia).toUInt32 >>> ((16 : Int32) &&& 31).toUInt32).toInt32) &&& (255 : Int32))).toUInt32.toUInt16.toUInt32.toInt32)), .val (.int (own_nz ((((ic).toUInt32 >>> ((3 : Int32) &&& 31).toUInt32).toInt32) &&& (1 : Int32)))), .val (.int (own_nz ((((ic).toUInt32 >>> ((4 : Int32) &&& 31).toUInt32).toInt32) &&& (1 : Int32)))), .val (.int (own_nz ((((ic).toUInt32 >>> ((5 : Int32) &&& 31).toUInt32).toInt32) &&& (1 : Int32)))), .val (.int (own_nz (ic &&& (1 : Int32)))), .val (.int (own_nz ((((ic).toUInt32 >>> ((1 : Int32) &&& 31).toUInt32).toInt32) &&& (1 : Int32)))), .val (.int (own_nz ((((ic).toUInt32 >>> ((2 : Int32) &&& 31).toUInt32).toInt32) &&& (1 : Int32)))), .val (.int (((ia &&& (255 : Int32))).toUInt32.toUInt16.toUInt32.toInt32)), .val (.int ((((((ia).toUInt32 >>> ((8 : Int32) &&& 31).toUInt32).toInt32) &&& (255 : Int32))).toUInt32.toUInt16.toUInt32.toInt32)), .val (.int ((((((ia).toUInt32 >>> ((16 : Int32) &&& 31).toUInt32).toInt32) &&& (255 : Int32))).toUInt32.toUInt16.toUInt32.toInt32)), .val (.int (own_nz ((((ic).toUInt32 >>> ((3 : Int32) &&& 31).toUInt32).toInt32) &&& (1 : Int32)))), .val (.int (own_nz ((((ic).toUInt32 >>> ((4 : Int32) &&& 31).toUInt32).toInt32) &&& (1 : Int32)))), .val (.int (own_nz ((((ic).toUInt32 >>> ((5 : Int32) &&& 31).toUInt32).toInt32) &&& (1 : Int32)))), .val (.int ((((ic).toUInt32 >>> ((9 : Int32) &&& 31).toUInt32).toInt32) &&& (3 : Int32))), .unset, .unset, .unset, .unset, .unset, .unset, .unset, .unset, .unset]) rfl ?_
        exact J262 _ _ _ _ _ _ _ _ _ _ _ _ _ _ _ _ (by have r3 := rng32 ia; have e2 : ((ia &&& (255 : Int32))).toInt = (ia).toInt % 256 := c_mask ia (255 : Int32) 8 (by decide) (by decide); have e1 := c_i2c (ia &&& (255 : Int32)); omega) (by have r3 := rng32 ia; have e2 : ((ia &&& (255 : Int32))).toInt = (ia).toInt % 256 := c_mask ia (255 : Int32) 8 (by decide) (by decide); have e1 := c_i2c (ia &&& (255 : Int32)); omega) (by have r4 := rng32 ia; have e3 : ((((ia).toUInt32 >>> ((8 : Int32) &&& 31).toUInt32).toInt32)).toInt = ((ia).toInt % 4294967296) / 256 := c_iushr ia (8 : Int32) 8 (by decide) (by decide); have e2 : (((((ia).toUInt32 >>> ((8 : Int32) &&& 31).toUInt32).toInt32) &&& (255 : Int32))).toInt = ((((ia).toUInt32 >>> ((8 : Int32) &&& 31).toUInt32).toInt32)).toInt % 256 := c_mask (((ia).toUInt32 >>> ((8 : Int32) &&& 31).toUInt32).toInt32) (255 : Int32) 8 (by decide) (by decide); have e1 := c_i2c ((((ia).toUInt32 >>> ((8 : Int32) &&& 31).toUInt32).toInt32) &&& (255 : Int32)); omega) (by have r4 := rng32 ia; have e3 : ((((ia).toUInt32 >>> ((8 : Int32) &&& 31).toUInt32).toInt32)).toInt = ((ia).toInt % 4294967296) / 256 := c_iushr ia (8 : Int32) 8 (by decide) (by decide); have e2 : (((((ia).toUInt32 >>> ((8 : Int32) &&& 31).toUInt32).toInt32) &&& (255 : Int32))).toInt = ((((ia).toUInt32 >>> ((8 : Int32) &&& 31).toUInt32).toInt32)).toInt % 256 := c_mask (((ia).toUInt32 >>> ((8 : Int32) &&& 31).toUInt32).toInt32) (255 : Int32) 8 (by decide) (by decide); have e1 := c_i2c ((((ia).toUInt32 >>> ((8 : Int32) &&& 31).toUInt32).toInt32) &&& (255 : Int32)); omega) (by have r4 := rng32 ia; have e3 : ((((ia).toUInt32 >>> ((16 : Int32) &&& 31).toUInt32).toInt32)).toInt = ((ia).toInt % 4294967296) / 65536 := c_iushr ia (16 : Int32) 16 (by decide) (by decide); have e2 : (((((ia).toUInt32 >>> ((16 : Int32) &&& 31).toUInt32).toInt32) &&& (255 : Int32))).toInt = ((((ia).toUInt32 >>> ((16 : Int32) &&& 31).toUInt32).toInt32)).toInt % 256 := c_mask (((ia).toUInt32 >>> ((16 : Int32) &&& 31).toUInt32).toInt32) (255 : Int32) 8 (by decide) (by decide); have e1 := c_i2c ((((ia).toUInt32 >>> ((16 : Int32) &&& 31).toUInt32).toInt32) &&& (255 : Int32)); omega) (by have r4 := rng32 ia; have e3 : ((((ia).toUInt32 >>> ((16 : Int32) &&& 31).toUInt32).toInt32)).toInt = ((ia).toInt % 4294967296) / 65536 := c_iushr ia (16 : Int32) 16 (by decide) (by decide); have e2 : (((((ia).toUInt32 >>> ((16 : Int32) &&& 31).toUInt32).toInt32) &&& (255 : Int32))).toInt = ((((ia).toUInt32 >>> ((16 : Int32) &&& 31).toUInt32).toInt32)).toInt % 256 := c_mask (((ia).toUInt32 >>> ((16 : Int32) &&& 31).toUInt32).toInt32) (255 : Int32) 8 (by decide) (by decide); have e1 := c_i2c ((((ia).toUInt32 >>> ((16 : Int32) &&& 31).toUInt32).toInt32) &&& (255 : Int32)); omega) (by have r3 := rng32 ia; have e2 : ((ia &&& (255 : Int32))).toInt = (ia).toInt % 256 := c_mask ia (255 : Int32) 8 (by decide) (by decide); have e1 := c_i2c (ia &&& (255 : Int32)); omega) (by have r3 := rng32 ia; have e2 : ((ia &&& (255 : Int32))).toInt = (ia).toInt % 256 := c_mask ia (255 : Int32) 8 (by decide) (by decide); have e1 := c_i2c (ia &&& (255 : Int32)); omega) (by have r4 := rng32 ia; have e3 : ((((ia).toUInt32 >>> ((8 : Int32) &&& 31).toUInt32).toInt32)).toInt = ((ia).toInt % 4294967296) / 256 := c_iushr ia (8 : Int32) 8 (by decide) (by decide); have e2 : (((((ia).toUInt32 >>> ((8 : Int32) &&& 31).toUInt32).toInt32) &&& (255 : Int32))).toInt = ((((ia).toUInt32 >>> ((8 : Int32) &&& 31).toUInt32).toInt32)).toInt % 256 := c_mask (((ia).toUInt32 >>> ((8 : Int32) &&& 31).toUInt32).toInt32) (255 : Int32) 8 (by decide) (by decide); have e1 := c_i2c ((((ia).toUInt32 >>> ((8 : Int32) &&& 31).toUInt32).toInt32) &&& (255 : Int32)); omega) (by have r4 := rng32 ia; have e3 : ((((ia).toUInt32 >>> ((8 : Int32) &&& 31).toUInt32).toInt32)).toInt = ((ia).toInt % 4294967296) / 256 := c_iushr ia (8 : Int32) 8 (by decide) (by decide); have e2 : (((((ia).toUInt32 >>> ((8 : Int32) &&& 31).toUInt32).toInt32) &&& (255 : Int32))).toInt = ((((ia).toUInt32 >>> ((8 : Int32) &&& 31).toUInt32).toInt32)).toInt % 256 := c_mask (((ia).toUInt32 >>> ((8 : Int32) &&& 31).toUInt32).toInt32) (255 : Int32) 8 (by decide) (by decide); have e1 := c_i2c ((((ia).toUInt32 >>> ((8 : Int32) &&& 31).toUInt32).toInt32) &&& (255 : Int32)); omega) (by have r4 := rng32 ia; have e3 : ((((ia).toUInt32 >>> ((16 : Int32) &&& 31).toUInt32).toInt32)).toInt = ((ia).toInt % 4294967296) / 65536 := c_iushr ia (16 : Int32) 16 (by decide) (by decide); have e2 : (((((ia).toUInt32 >>> ((16 : Int32) &&& 31).toUInt32).toInt32) &&& (255 : Int32))).toInt = ((((ia).toUInt32 >>> ((16 : Int32) &&& 31).toUInt32).toInt32)).toInt % 256 := c_mask (((ia).toUInt32 >>> ((16 : Int32) &&& 31).toUInt32).toInt32) (255 : Int32) 8 (by decide) (by decide); have e1 := c_i2c ((((ia).toUInt32 >>> ((16 : Int32) &&& 31).toUInt32).toInt32) &&& (255 : Int32)); omega) (by have r4 := rng32 ia; have e3 : ((((ia).toUInt32 >>> ((16 : Int32) &&& 31).toUInt32).toInt32)).toInt = ((ia).toInt % 4294967296) / 65536 := c_iushr ia (16 : Int32) 16 (by decide) (by decide); have e2 : (((((ia).toUInt32 >>> ((16 : Int32) &&& 31).toUInt32).toInt32) &&& (255 : Int32))).toInt = ((((ia).toUInt32 >>> ((16 : Int32) &&& 31).toUInt32).toInt32)).toInt % 256 := c_mask (((ia).toUInt32 >>> ((16 : Int32) &&& 31).toUInt32).toInt32) (255 : Int32) 8 (by decide) (by decide); have e1 := c_i2c ((((ia).toUInt32 >>> ((16 : Int32) &&& 31).toUInt32).toInt32) &&& (255 : Int32)); omega) (own_nz01 _) (own_nz01 _) (own_nz01 _) (own_nz01 _) (own_nz01 _) (own_nz01 _)
theorem own_cw {Z : State} {a0 : Array Value} (h1 : (Jvm.Cond.isInt (.static "java/lang/String" "COMPACT_STRINGS" "Z")).before a0 Z = true) (h2 : (Jvm.Cond.not (.eq (.static "java/lang/String" "COMPACT_STRINGS" "Z") (.int 0))).before a0 Z = true) : Jvm.Lit.compactW.before a0 Z = true := by first | exact h2 | (unfold Jvm.Lit.compactW; first | exact h2 | (rw [Cond.before_and, h1, h2]; rfl))
set_option maxRecDepth 65536 in
set_option maxHeartbeats 40000000 in
theorem comes_1 {Post : Tables → Env → Array Value → State → Outcome → State → Prop} (hpost : ∀ tb e args s v u, (limb_1_1.after args s (.returned v) u = true ∧ limb_1_2.after args s (.returned v) u = true ∧ True) → ReturnedEndW s (.returned v) u (Jvm.fieldLocs frame_1_writes args s ++ Jvm.arrayLocs frame_1_arrays args s ++ Jvm.staticLocs frame_1_statics s) 56 1216 → Post tb e args s (.returned v) u) :
    ArmFor flags0 classFile x code maxLocals ret World_1 tables_1 room_1 Calls_1 rest_1 Pre_1 Post := by
  intro l hfl _ _ p e ha hc hk s m args below hf hA hF happ hP
  obtain ⟨hcalls, hrest, hpre⟩ := hP
  obtain ⟨-, -, -, hnamed, -, -, -, hat⟩ := (Spec.applies_iff hf).mp happ
  obtain ⟨hg, hn⟩ := and_e (Cond.before_iff.mp (show (Jvm.Cond.and given_1 narrow_1).before args s = true from hpre))
  obtain ⟨g1, g2⟩ := and_e hg
  obtain ⟨g3, g4⟩ := and_e g2
  obtain ⟨g5, g6⟩ := and_e g4
  obtain ⟨w0, w1, w2, rfl⟩ : ∃ w0 w1 w2 : Value, args = #[w0, w1, w2] := by
    have hs : args.size = 3 := by simpa [Cond.value, given_1] using g1
    obtain ⟨L⟩ := args
    match L, hs with
    | [w0, w1, w2], _ => exact ⟨w0, w1, w2, rfl⟩
  have hw := fun d (hd : d ∈ tables_1) => atoms_spec (ws := Jvm.Cond.code x code maxLocals ret :: tables_1) hat d (List.mem_cons_of_mem _ hd)
  have hfit : Fit s := fun {y c} hc i hi => by
    obtain ⟨ha, rfl⟩ := Array.getElem?_eq_some_iff.mp hc
    have q := List.all_eq_true.mp ((Array.all_eq_true_iff_forall_mem.mp hF) _ (Array.getElem_mem ha)) i (List.mem_range.mpr hi)
    simpa [Array.getElem?_eq_getElem hi] using q
  obtain ⟨i0, ei0⟩ := is_v g3
  obtain rfl : w0 = (.int i0) := Option.some.inj ei0
  obtain ⟨i1, ei1⟩ := is_v g5
  obtain rfl : w1 = (.int i1) := Option.some.inj ei1
  obtain ⟨i2, ei2⟩ := is_v g6
  obtain rfl : w2 = (.int i2) := Option.some.inj ei2
  obtain ⟨hsets, hown0⟩ := atoms_of _ (rest_1_c_eq ▸ (show rest_1_c.before _ s = true from hrest))
  obtain ⟨cs, SCS, ecs⟩ := sta_int (hsets _ (List.mem_of_getElem? (i := 0) rfl)) (hsets _ (List.mem_of_getElem? (i := 1) rfl))
  have hcs := ne_of_not ecs (hsets _ (List.mem_of_getElem? (i := 2) rfl))
  have hCH : CHv s own_EL s.vm s.heap := CHv.start (own_hEL hw) (fun p hp => hcalls.1 p hp) (own_cw (hsets _ (List.mem_of_getElem? (i := 1) rfl)) (hsets _ (List.mem_of_getElem? (i := 2) rfl))) (hw _ (List.mem_of_getElem? (i := 23) rfl)) (hw _ (List.mem_of_getElem? (i := 5) rfl))
  obtain ⟨n, o, h1, h2, h3, _, L, rfl, ⟨rfl, N⟩, -, hq⟩ := rm0 l s _ hw i0 i1 i2 cs SCS hcs s.heap (Old.start s) tables_1 p e ha hc hk s m _ below hf ((Spec.applies_iff_loose hf).mp happ).1 ⟨rfl, State.Warmed39.refl s, rfl, hCH⟩ trivial
  refine ⟨n, _, h1, h2, h3, hpost _ _ _ _ _ _ ⟨Cond.after_iff.mpr rfl, Cond.after_iff.mpr (eq_i res_at (Term.int_eval (1)) rfl), trivial⟩ ⟨hq.1, hq.2.1, hq.2.2.1, (hq.2.2.2.sift fun y hy => Or.inr (N y hy)).mono (by decide) (by decide)⟩⟩
theorem main_1_1 : Claimed_1_1 := comes_1 fun _ _ _ _ _ _ h hF => ⟨h.1, hF⟩
theorem main_1_2 : Claimed_1_2 := comes_1 fun _ _ _ _ _ _ h hF => ⟨h.2.1, hF⟩
end Jvm.Pilot.@@N@@
namespace Jvm.Pilot.@@N@@
open Jvm Jvm.ClassFile Sem Op Lib Jvm.Free Jvm.Stand Jvm.Pilot.@@N@@.Jvm.D
/-! MADE BY PROGRAM (witnessworld.py) out of the Statement's table words and the real class files: 20 classes; the members and pool entries that the words name. The judged class is class 1, her method 3. -/
namespace start1
open Jvm.ClassFile
def u (s : String) : CpInfo := .utf8 (stringToUtf16 s)
/-- a pool by its gaps: so many unusable entries, then the entry; so many at the end -/
def gap : Nat → List CpInfo → List CpInfo
  | 0, r => r
  | n + 1, r => .unusable :: gap n r
def poolList (es : List (Nat × CpInfo)) (last : Nat) : List CpInfo := es.foldr (fun e r => gap e.1 (e.2 :: r)) (gap last [])
def pool (es : List (Nat × CpInfo)) (last : Nat) : Array CpInfo := ⟨poolList es last⟩
def fileOf (pool : Array CpInfo) (this : Nat) (attrs : Array Attribute := #[]) (ms : Array MethodInfo := #[]) (fl : Nat := 33) (sup : Nat := 0) (ifs : Array Nat := #[]) (fds : Array FieldInfo := #[]) : ClassFile where
  minorVersion := 0
  majorVersion := 65
  constantPool := pool
  accessFlags := fl
  thisClass := this
  superClass := sup
  interfaces := ifs
  fields := fds
  methods := ms
  attributes := attrs
def plain (name : String) (sup : Option ClassId) : Class where
  name := name
  kind := .ordinary
  loader := none
  accessFlags := 33
  super := sup
  interfaces := #[]
  cf := none
  fields := #[]
  methods := #[]
  instanceTypes := #[]
  staticTypes := #[]
  resolved := #[]
  callSites := []
  init := .initialized
  statics := none
  mirror := none

def pool0 : Array CpInfo := pool [(5, u "<init>"), (0, u "()V"), (1, .class_ 10), (1, u "java/lang/Object")] 113

def k0c0 : Code := { maxStack := 0, maxLocals := 1, code := object_method_1_code, exceptionTable := #[], attributes := #[] }
def k0m0 : Method := { name := "<init>", desc := "()V", sig := { parameters := [], returnType := none }, accessFlags := 1, code := some k0c0 }
/-- java/lang/Object -/
def k0 : Class := { plain "java/lang/Object" none with
  accessFlags := 33
  interfaces := #[]
  cf := some (fileOf pool0 8 #[] #[{ accessFlags := 1, nameIndex := 5, descriptorIndex := 6, attributes := #[] }] 33 0 #[] #[])
  fields := #[]
  methods := #[k0m0]
  instanceTypes := #[]
  staticTypes := #[]
  resolved := Array.replicate 124 none
  statics := none }

def pool1 : Array CpInfo := pool [(2, .class_ 4), (1, u "java/lang/Object"), (0, u "<init>"), (0, u "()V"), (0, .class_ 8), (0, u "java/lang/String"), (0, .methodref 7 10), (0, .nameAndType 5 11), (0, u "([C)V"), (0, .methodref 13 14), (0, .class_ 15), (0, .nameAndType 16 17), (0, u "com/example/dyn_authz/dynauthz/process/RequestEqualsPinLaw"), (0, u "mk"), (0, u "(ZC)Ljava/lang/String;"), (0, .class_ 19), (0, u "com/example/dyn_authz/dynauthz/process/Request"), (0, .methodref 18 21), (0, .nameAndType 5 22), (0, u "(Ljava/lang/String;Ljava/lang/String;Ljava/lang/String;)V"), (0, .methodref 18 24), (0, .nameAndType 25 26), (0, u "equals"), (0, u "(Ljava/lang/Object;)Z"), (0, .methodref 13 28), (0, .nameAndType 29 30), (0, u "eqS"), (0, u "(ZCZC)Z"), (3, u "law"), (0, u "(III)Z")] 2

def k1m0 : Method := { name := "<init>", desc := "()V", sig := { parameters := [], returnType := none }, accessFlags := 1, code := none }
def k1c1 : Code := { maxStack := 6, maxLocals := 2, code := method_2_code, exceptionTable := #[], attributes := #[] }
def k1m1 : Method := { name := "mk", desc := "(ZC)Ljava/lang/String;", sig := { parameters := [.boolean, .char], returnType := some (.object "java/lang/String") }, accessFlags := 10, code := some k1c1 }
def k1c2 : Code := { maxStack := 2, maxLocals := 4, code := method_3_code, exceptionTable := #[], attributes := #[] }
def k1m2 : Method := { name := "eqS", desc := "(ZCZC)Z", sig := { parameters := [.boolean, .char, .boolean, .char], returnType := some .boolean }, accessFlags := 10, code := some k1c2 }
def k1c3 : Code := { maxStack := 5, maxLocals := 28, code := code, exceptionTable := #[], attributes := #[] }
def k1m3 : Method := { name := "law", desc := "(III)Z", sig := { parameters := [.int, .int, .int], returnType := some .boolean }, accessFlags := 9, code := some k1c3 }
/-- com/example/dyn_authz/dynauthz/process/RequestEqualsPinLaw -/
def k1 : Class := { plain "com/example/dyn_authz/dynauthz/process/RequestEqualsPinLaw" (some 0) with
  accessFlags := 49
  interfaces := #[]
  cf := some (fileOf pool1 13 #[] #[{ accessFlags := 1, nameIndex := 5, descriptorIndex := 6, attributes := #[] }, { accessFlags := 10, nameIndex := 16, descriptorIndex := 17, attributes := #[] }, { accessFlags := 10, nameIndex := 29, descriptorIndex := 30, attributes := #[] }, { accessFlags := 9, nameIndex := 34, descriptorIndex := 35, attributes := #[] }] 49 2 #[] #[])
  fields := #[]
  methods := #[k1m0, k1m1, k1m2, k1m3]
  instanceTypes := #[]
  staticTypes := #[]
  resolved := Array.replicate 38 none
  statics := none }

def pool2 : Array CpInfo := pool [(1, .class_ 2), (0, u "java/io/Serializable"), (0, .class_ 4), (0, u "java/lang/Object")] 2

/-- java/io/Serializable -/
def k2 : Class := { plain "java/io/Serializable" (some 0) with
  accessFlags := 1537
  interfaces := #[]
  cf := some (fileOf pool2 1 #[] #[] 1537 3 #[] #[])
  fields := #[]
  methods := #[]
  instanceTypes := #[]
  staticTypes := #[]
  resolved := Array.replicate 7 none
  statics := none }

def pool3 : Array CpInfo := pool [(1, .class_ 2), (0, u "java/lang/Comparable"), (0, .class_ 4), (0, u "java/lang/Object")] 7

/-- java/lang/Comparable -/
def k3 : Class := { plain "java/lang/Comparable" (some 0) with
  accessFlags := 1537
  interfaces := #[]
  cf := some (fileOf pool3 1 #[] #[] 1537 3 #[] #[])
  fields := #[]
  methods := #[]
  instanceTypes := #[]
  staticTypes := #[]
  resolved := Array.replicate 12 none
  statics := none }

def pool4 : Array CpInfo := pool [(2, .class_ 4), (1, u "java/lang/CharSequence"), (42, .class_ 48), (0, u "java/lang/CharSequence$1CodePointIterator"), (10, .class_ 60), (0, u "java/lang/CharSequence$1CharIterator"), (5, .class_ 67), (0, u "java/lang/Object")] 63

/-- java/lang/CharSequence -/
def k4 : Class := { plain "java/lang/CharSequence" (some 0) with
  accessFlags := 1537
  interfaces := #[]
  cf := some (fileOf pool4 2 #[.nestMembers #[47, 59]] #[] 1537 66 #[] #[])
  fields := #[]
  methods := #[]
  instanceTypes := #[]
  staticTypes := #[]
  resolved := Array.replicate 131 none
  statics := none }

def pool5 : Array CpInfo := pool [(1, .class_ 2), (0, u "java/lang/constant/Constable"), (0, .class_ 4), (0, u "java/lang/Object")] 6

/-- java/lang/constant/Constable -/
def k5 : Class := { plain "java/lang/constant/Constable" (some 0) with
  accessFlags := 1537
  interfaces := #[]
  cf := some (fileOf pool5 1 #[] #[] 1537 3 #[] #[])
  fields := #[]
  methods := #[]
  instanceTypes := #[]
  staticTypes := #[]
  resolved := Array.replicate 11 none
  statics := none }

def pool6 : Array CpInfo := pool [(1, .class_ 2), (0, u "java/lang/constant/ConstantDesc"), (0, .class_ 4), (0, u "java/lang/Object")] 32

/-- java/lang/constant/ConstantDesc -/
def k6 : Class := { plain "java/lang/constant/ConstantDesc" (some 0) with
  accessFlags := 1537
  interfaces := #[]
  cf := some (fileOf pool6 1 #[] #[] 1537 3 #[] #[])
  fields := #[]
  methods := #[]
  instanceTypes := #[]
  staticTypes := #[]
  resolved := Array.replicate 37 none
  statics := none }

def pool7 : Array CpInfo := pool [(1, .methodref 2 3), (0, .class_ 4), (0, .nameAndType 5 6), (0, u "java/lang/Object"), (0, u "<init>"), (0, u "()V"), (0, .string 8), (0, u ""), (0, .fieldref 10 11), (0, .class_ 12), (0, .nameAndType 13 14), (0, u "java/lang/String"), (0, u "value"), (0, u "[B"), (0, .fieldref 10 16), (0, .nameAndType 17 18), (0, u "coder"), (0, u "B"), (2, u "hash"), (0, u "I"), (2, u "hashIsZero"), (0, u "Z"), (0, .methodref 10 28), (0, .nameAndType 5 29), (0, u "([CIILjava/lang/Void;)V"), (8, .fieldref 10 39), (0, .nameAndType 40 26), (0, u "COMPACT_STRINGS"), (1, .class_ 44), (1, u "java/lang/StringUTF16"), (0, u "compress"), (1, .methodref 42 48), (0, .nameAndType 49 50), (0, u "coderFromArrayLen"), (0, u "([BI)B"), (56, .class_ 109), (1, u "java/lang/StringLatin1"), (67, .methodref 42 178), (0, .nameAndType 45 179), (0, u "([CII)[B"), (361, .methodref 107 542), (0, .nameAndType 543 544), (0, u "equals"), (0, u "([B[B)Z"), (28, u "(Ljava/lang/Object;)Z"), (1, .class_ 576), (0, u "java/lang/CharSequence"), (22, u "CASE_INSENSITIVE_ORDER"), (0, u "Ljava/util/Comparator;"), (409, u "([C)V"), (90, u "serialPersistentFields"), (0, u "[Ljava/io/ObjectStreamField;"), (0, .class_ 1104), (0, u "java/lang/String$CaseInsensitiveComparator"), (1, .class_ 1107), (0, u "java/io/Serializable"), (0, .class_ 1109), (0, u "java/lang/Comparable"), (0, .class_ 1111), (0, u "java/lang/constant/Constable"), (0, .class_ 1113), (0, u "java/lang/constant/ConstantDesc"), (2, u "serialVersionUID"), (0, u "J"), (3, u "REPL"), (0, u "C"), (2, u "LATIN1"), (1, u "UTF16")] 323

def k7m0 : Method := { name := "<init>", desc := "()V", sig := { parameters := [], returnType := none }, accessFlags := 1, code := none }
def k7c1 : Code := { maxStack := 5, maxLocals := 2, code := jdk_42_method_3_code, exceptionTable := #[], attributes := #[] }
def k7m1 : Method := { name := "<init>", desc := "([C)V", sig := { parameters := [(.array .char)], returnType := none }, accessFlags := 1, code := some k7c1 }
def k7c2 : Code := { maxStack := 2, maxLocals := 3, code := jdk_42_method_66_code, exceptionTable := #[], attributes := #[] }
def k7m2 : Method := { name := "equals", desc := "(Ljava/lang/Object;)Z", sig := { parameters := [(.object "java/lang/Object")], returnType := some .boolean }, accessFlags := 1, code := some k7c2 }
def k7c3 : Code := { maxStack := 4, maxLocals := 6, code := jdk_42_method_149_code, exceptionTable := #[], attributes := #[] }
def k7m3 : Method := { name := "<init>", desc := "([CIILjava/lang/Void;)V", sig := { parameters := [(.array .char), .int, .int, (.object "java/lang/Void")], returnType := none }, accessFlags := 2, code := some k7c3 }
/-- java/lang/String -/
def k7 : Class := { plain "java/lang/String" (some 0) with
  accessFlags := 49
  interfaces := #[2, 3, 4, 5, 6]
  cf := some (fileOf pool7 10 #[.nestMembers #[1103]] #[{ accessFlags := 1, nameIndex := 5, descriptorIndex := 6, attributes := #[] }, { accessFlags := 1, nameIndex := 5, descriptorIndex := 1010, attributes := #[] }, { accessFlags := 1, nameIndex := 543, descriptorIndex := 573, attributes := #[] }, { accessFlags := 2, nameIndex := 5, descriptorIndex := 29, attributes := #[] }] 49 2 #[1106, 1108, 575, 1110, 1112] #[{ accessFlags := 18, nameIndex := 13, descriptorIndex := 14, attributes := #[] }, { accessFlags := 18, nameIndex := 17, descriptorIndex := 18, attributes := #[] }, { accessFlags := 2, nameIndex := 21, descriptorIndex := 22, attributes := #[] }, { accessFlags := 2, nameIndex := 25, descriptorIndex := 26, attributes := #[] }, { accessFlags := 26, nameIndex := 1116, descriptorIndex := 1117, attributes := #[] }, { accessFlags := 24, nameIndex := 40, descriptorIndex := 26, attributes := #[] }, { accessFlags := 26, nameIndex := 1101, descriptorIndex := 1102, attributes := #[] }, { accessFlags := 26, nameIndex := 1121, descriptorIndex := 1122, attributes := #[] }, { accessFlags := 25, nameIndex := 599, descriptorIndex := 600, attributes := #[] }, { accessFlags := 24, nameIndex := 1125, descriptorIndex := 18, attributes := #[] }, { accessFlags := 24, nameIndex := 1127, descriptorIndex := 18, attributes := #[] }])
  fields := #[{ name := "value", type := (.array .byte), accessFlags := 18, slot := 0, constantValue := 0 }, { name := "coder", type := .byte, accessFlags := 18, slot := 1, constantValue := 0 }, { name := "hash", type := .int, accessFlags := 2, slot := 2, constantValue := 0 }, { name := "hashIsZero", type := .boolean, accessFlags := 2, slot := 3, constantValue := 0 }, { name := "serialVersionUID", type := .long, accessFlags := 26, slot := 0, constantValue := 0 }, { name := "COMPACT_STRINGS", type := .boolean, accessFlags := 24, slot := 1, constantValue := 0 }, { name := "serialPersistentFields", type := (.array (.object "java/io/ObjectStreamField")), accessFlags := 26, slot := 2, constantValue := 0 }, { name := "REPL", type := .char, accessFlags := 26, slot := 3, constantValue := 0 }, { name := "CASE_INSENSITIVE_ORDER", type := (.object "java/util/Comparator"), accessFlags := 25, slot := 4, constantValue := 0 }, { name := "LATIN1", type := .byte, accessFlags := 24, slot := 5, constantValue := 0 }, { name := "UTF16", type := .byte, accessFlags := 24, slot := 6, constantValue := 0 }]
  methods := #[k7m0, k7m1, k7m2, k7m3]
  instanceTypes := #[(.array .byte), .byte, .int, .boolean]
  staticTypes := #[.long, .boolean, (.array (.object "java/io/ObjectStreamField")), .char, (.object "java/util/Comparator"), .byte, .byte]
  resolved := Array.replicate 1451 none
  statics := some 0 }

def pool8 : Array CpInfo := pool [(6, .class_ 8), (1, u "java/lang/Object"), (0, u "<init>"), (0, u "()V"), (1, .class_ 14), (1, u "java/lang/StringUTF16"), (31, u "$assertionsDisabled"), (0, u "Z"), (13, u "HI_BYTE_SHIFT"), (0, u "I"), (2, u "LO_BYTE_SHIFT"), (49, .methodref 12 116), (0, .nameAndType 117 118), (0, u "compress"), (0, u "([CI[BII)I"), (3, u "([CII)[B"), (138, u "coderFromArrayLen"), (0, u "([BI)B"), (106, .class_ 371), (1, u "java/lang/StringUTF16$LinesSpliterator"), (58, u "MAX_LENGTH"), (196, .class_ 628), (0, u "java/lang/StringUTF16$CodePointsSpliterator"), (0, .class_ 630), (0, u "java/lang/StringUTF16$CharsSpliterator")] 4

def k8m0 : Method := { name := "<init>", desc := "()V", sig := { parameters := [], returnType := none }, accessFlags := 0, code := none }
def k8c1 : Code := { maxStack := 2, maxLocals := 2, code := jdk_52_method_15_code, exceptionTable := #[], attributes := #[] }
def k8m1 : Method := { name := "coderFromArrayLen", desc := "([BI)B", sig := { parameters := [(.array .byte), .int], returnType := some .byte }, accessFlags := 8, code := some k8c1 }
def k8c2 : Code := { maxStack := 5, maxLocals := 6, code := jdk_52_method_16_code, exceptionTable := #[], attributes := #[] }
def k8m2 : Method := { name := "compress", desc := "([CII)[B", sig := { parameters := [(.array .char), .int, .int], returnType := some (.array .byte) }, accessFlags := 9, code := some k8c2 }
def k8c3 : Code := { maxStack := 3, maxLocals := 7, code := jdk_52_method_21_code, exceptionTable := #[], attributes := #[] }
def k8m3 : Method := { name := "compress", desc := "([CI[BII)I", sig := { parameters := [(.array .char), .int, (.array .byte), .int, .int], returnType := some .int }, accessFlags := 9, code := some k8c3 }
/-- java/lang/StringUTF16 -/
def k8 : Class := { plain "java/lang/StringUTF16" (some 0) with
  accessFlags := 48
  interfaces := #[]
  cf := some (fileOf pool8 12 #[.nestMembers #[627, 629, 369]] #[{ accessFlags := 0, nameIndex := 9, descriptorIndex := 10, attributes := #[] }, { accessFlags := 8, nameIndex := 261, descriptorIndex := 262, attributes := #[] }, { accessFlags := 9, nameIndex := 117, descriptorIndex := 122, attributes := #[] }, { accessFlags := 9, nameIndex := 117, descriptorIndex := 118, attributes := #[] }] 48 6 #[] #[{ accessFlags := 26, nameIndex := 61, descriptorIndex := 62, attributes := #[] }, { accessFlags := 26, nameIndex := 65, descriptorIndex := 62, attributes := #[] }, { accessFlags := 24, nameIndex := 430, descriptorIndex := 62, attributes := #[] }, { accessFlags := 4120, nameIndex := 46, descriptorIndex := 47, attributes := #[] }])
  fields := #[{ name := "HI_BYTE_SHIFT", type := .int, accessFlags := 26, slot := 0, constantValue := 0 }, { name := "LO_BYTE_SHIFT", type := .int, accessFlags := 26, slot := 1, constantValue := 0 }, { name := "MAX_LENGTH", type := .int, accessFlags := 24, slot := 2, constantValue := 0 }, { name := "$assertionsDisabled", type := .boolean, accessFlags := 4120, slot := 3, constantValue := 0 }]
  methods := #[k8m0, k8m1, k8m2, k8m3]
  instanceTypes := #[]
  staticTypes := #[.int, .int, .int, .boolean]
  resolved := Array.replicate 635 none
  statics := none }

def pool9 : Array CpInfo := pool [(1, .methodref 2 3), (0, .class_ 4), (0, .nameAndType 5 6), (0, u "java/lang/Object"), (0, u "<init>"), (0, u "()V"), (0, .fieldref 8 9), (0, .class_ 10), (0, .nameAndType 11 12), (0, u "com/example/dyn_authz/dynauthz/process/Request"), (0, u "_user"), (0, u "Ljava/lang/String;"), (0, .fieldref 8 14), (0, .nameAndType 15 12), (0, u "_event"), (0, .fieldref 8 17), (0, .nameAndType 18 12), (0, u "_resource"), (0, .methodref 20 21), (0, .class_ 22), (0, .nameAndType 23 24), (0, u "java/lang/String"), (0, u "equals"), (0, u "(Ljava/lang/Object;)Z"), (6, u "(Ljava/lang/String;Ljava/lang/String;Ljava/lang/String;)V")] 11

def k9c0 : Code := { maxStack := 2, maxLocals := 4, code := prog_35_method_1_code, exceptionTable := #[], attributes := #[] }
def k9m0 : Method := { name := "<init>", desc := "(Ljava/lang/String;Ljava/lang/String;Ljava/lang/String;)V", sig := { parameters := [(.object "java/lang/String"), (.object "java/lang/String"), (.object "java/lang/String")], returnType := none }, accessFlags := 0, code := some k9c0 }
def k9c1 : Code := { maxStack := 2, maxLocals := 4, code := prog_35_method_5_code, exceptionTable := #[], attributes := #[] }
def k9m1 : Method := { name := "equals", desc := "(Ljava/lang/Object;)Z", sig := { parameters := [(.object "java/lang/Object")], returnType := some .boolean }, accessFlags := 1, code := some k9c1 }
/-- com/example/dyn_authz/dynauthz/process/Request -/
def k9 : Class := { plain "com/example/dyn_authz/dynauthz/process/Request" (some 0) with
  accessFlags := 48
  interfaces := #[]
  cf := some (fileOf pool9 8 #[] #[{ accessFlags := 0, nameIndex := 5, descriptorIndex := 31, attributes := #[] }, { accessFlags := 1, nameIndex := 23, descriptorIndex := 24, attributes := #[] }] 48 2 #[] #[{ accessFlags := 18, nameIndex := 11, descriptorIndex := 12, attributes := #[] }, { accessFlags := 18, nameIndex := 15, descriptorIndex := 12, attributes := #[] }, { accessFlags := 18, nameIndex := 18, descriptorIndex := 12, attributes := #[] }])
  fields := #[{ name := "_user", type := (.object "java/lang/String"), accessFlags := 18, slot := 0, constantValue := 0 }, { name := "_event", type := (.object "java/lang/String"), accessFlags := 18, slot := 1, constantValue := 0 }, { name := "_resource", type := (.object "java/lang/String"), accessFlags := 18, slot := 2, constantValue := 0 }]
  methods := #[k9m0, k9m1]
  instanceTypes := #[(.object "java/lang/String"), (.object "java/lang/String"), (.object "java/lang/String")]
  staticTypes := #[]
  resolved := Array.replicate 43 none
  statics := none }

def pool10 : Array CpInfo := pool [(4, .class_ 6), (1, u "java/lang/Object"), (0, u "<init>"), (0, u "()V"), (5, .class_ 16), (1, u "java/lang/StringLatin1"), (104, u "$assertionsDisabled"), (0, u "Z"), (98, .class_ 223), (1, u "java/lang/StringLatin1$LinesSpliterator"), (57, u "equals"), (0, u "([B[B)Z"), (107, .class_ 391), (0, u "java/lang/StringLatin1$CharsSpliterator")] 3

def k10m0 : Method := { name := "<init>", desc := "()V", sig := { parameters := [], returnType := none }, accessFlags := 0, code := none }
def k10c1 : Code := { maxStack := 3, maxLocals := 3, code := jdk_43_method_13_code, exceptionTable := #[], attributes := #[] }
def k10m1 : Method := { name := "equals", desc := "([B[B)Z", sig := { parameters := [(.array .byte), (.array .byte)], returnType := some .boolean }, accessFlags := 9, code := some k10c1 }
/-- java/lang/StringLatin1 -/
def k10 : Class := { plain "java/lang/StringLatin1" (some 0) with
  accessFlags := 48
  interfaces := #[]
  cf := some (fileOf pool10 14 #[.nestMembers #[390, 221]] #[{ accessFlags := 0, nameIndex := 7, descriptorIndex := 8, attributes := #[] }, { accessFlags := 9, nameIndex := 281, descriptorIndex := 282, attributes := #[] }] 48 4 #[] #[{ accessFlags := 4120, nameIndex := 121, descriptorIndex := 122, attributes := #[] }])
  fields := #[{ name := "$assertionsDisabled", type := .boolean, accessFlags := 4120, slot := 0, constantValue := 0 }]
  methods := #[k10m0, k10m1]
  instanceTypes := #[]
  staticTypes := #[.boolean]
  resolved := Array.replicate 395 none
  statics := none }

def pool11 : Array CpInfo := pool [(2, .class_ 4), (1, u "java/lang/Object"), (0, u "<init>"), (0, u "()V"), (17, .class_ 26), (1, u "jdk/internal/util/Preconditions"), (28, .class_ 56), (0, u "jdk/internal/util/Preconditions$4"), (57, .class_ 115), (0, u "jdk/internal/util/Preconditions$1"), (7, u "SIOOBE_FORMATTER"), (0, u "Ljava/util/function/BiFunction;"), (0, .class_ 126), (0, u "jdk/internal/util/Preconditions$2"), (3, u "AIOOBE_FORMATTER"), (0, .class_ 132), (0, u "jdk/internal/util/Preconditions$3"), (3, u "IOOBE_FORMATTER")] 57

def k11m0 : Method := { name := "<init>", desc := "()V", sig := { parameters := [], returnType := none }, accessFlags := 1, code := none }
/-- jdk/internal/util/Preconditions -/
def k11 : Class := { plain "jdk/internal/util/Preconditions" (some 0) with
  accessFlags := 33
  interfaces := #[]
  cf := some (fileOf pool11 24 #[.nestMembers #[55, 131, 125, 114]] #[{ accessFlags := 1, nameIndex := 5, descriptorIndex := 6, attributes := #[] }] 33 2 #[] #[{ accessFlags := 25, nameIndex := 123, descriptorIndex := 124, attributes := #[] }, { accessFlags := 25, nameIndex := 130, descriptorIndex := 124, attributes := #[] }, { accessFlags := 25, nameIndex := 136, descriptorIndex := 124, attributes := #[] }])
  fields := #[{ name := "SIOOBE_FORMATTER", type := (.object "java/util/function/BiFunction"), accessFlags := 25, slot := 0, constantValue := 0 }, { name := "AIOOBE_FORMATTER", type := (.object "java/util/function/BiFunction"), accessFlags := 25, slot := 1, constantValue := 0 }, { name := "IOOBE_FORMATTER", type := (.object "java/util/function/BiFunction"), accessFlags := 25, slot := 2, constantValue := 0 }]
  methods := #[k11m0]
  instanceTypes := #[]
  staticTypes := #[(.object "java/util/function/BiFunction"), (.object "java/util/function/BiFunction"), (.object "java/util/function/BiFunction")]
  resolved := Array.replicate 194 none
  statics := some 1 }

def pool12 : Array CpInfo := pool [(9, u "<init>"), (6, .class_ 18), (1, u "java/lang/Object"), (0, u "()V"), (1, .class_ 23), (1, u "jdk/internal/util/ArraysSupport"), (0, u "LOG2_ARRAY_LONG_INDEX_SCALE"), (0, u "I"), (2, u "U"), (0, u "Ljdk/internal/misc/Unsafe;"), (8, u "BIG_ENDIAN"), (0, u "Z"), (8, u "LOG2_BYTE_BIT_SIZE"), (4, u "LOG2_ARRAY_INT_INDEX_SCALE"), (54, u "JLA"), (0, u "Ljdk/internal/access/JavaLangAccess;"), (11, u "LOG2_ARRAY_BOOLEAN_INDEX_SCALE"), (9, u "LOG2_ARRAY_BYTE_INDEX_SCALE"), (5, u "LOG2_ARRAY_CHAR_INDEX_SCALE"), (5, u "LOG2_ARRAY_SHORT_INDEX_SCALE"), (18, u "LOG2_ARRAY_FLOAT_INDEX_SCALE"), (24, u "LOG2_ARRAY_DOUBLE_INDEX_SCALE"), (89, u "T_BOOLEAN"), (2, u "T_CHAR"), (1, u "T_FLOAT"), (1, u "T_DOUBLE"), (1, u "T_BYTE"), (1, u "T_SHORT"), (1, u "T_INT"), (1, u "T_LONG"), (1, u "SOFT_MAX_ARRAY_LENGTH")] 83

def k12m0 : Method := { name := "<init>", desc := "()V", sig := { parameters := [], returnType := none }, accessFlags := 2, code := none }
/-- jdk/internal/util/ArraysSupport -/
def k12 : Class := { plain "jdk/internal/util/ArraysSupport" (some 0) with
  accessFlags := 33
  interfaces := #[]
  cf := some (fileOf pool12 21 #[] #[{ accessFlags := 2, nameIndex := 9, descriptorIndex := 19, attributes := #[] }] 33 16 #[] #[{ accessFlags := 24, nameIndex := 28, descriptorIndex := 29, attributes := #[] }, { accessFlags := 26, nameIndex := 38, descriptorIndex := 39, attributes := #[] }, { accessFlags := 25, nameIndex := 121, descriptorIndex := 25, attributes := #[] }, { accessFlags := 25, nameIndex := 131, descriptorIndex := 25, attributes := #[] }, { accessFlags := 25, nameIndex := 137, descriptorIndex := 25, attributes := #[] }, { accessFlags := 25, nameIndex := 143, descriptorIndex := 25, attributes := #[] }, { accessFlags := 25, nameIndex := 53, descriptorIndex := 25, attributes := #[] }, { accessFlags := 25, nameIndex := 24, descriptorIndex := 25, attributes := #[] }, { accessFlags := 25, nameIndex := 162, descriptorIndex := 25, attributes := #[] }, { accessFlags := 25, nameIndex := 187, descriptorIndex := 25, attributes := #[] }, { accessFlags := 26, nameIndex := 48, descriptorIndex := 25, attributes := #[] }, { accessFlags := 25, nameIndex := 277, descriptorIndex := 25, attributes := #[] }, { accessFlags := 25, nameIndex := 280, descriptorIndex := 25, attributes := #[] }, { accessFlags := 25, nameIndex := 282, descriptorIndex := 25, attributes := #[] }, { accessFlags := 25, nameIndex := 284, descriptorIndex := 25, attributes := #[] }, { accessFlags := 25, nameIndex := 286, descriptorIndex := 25, attributes := #[] }, { accessFlags := 25, nameIndex := 288, descriptorIndex := 25, attributes := #[] }, { accessFlags := 25, nameIndex := 290, descriptorIndex := 25, attributes := #[] }, { accessFlags := 25, nameIndex := 292, descriptorIndex := 25, attributes := #[] }, { accessFlags := 26, nameIndex := 108, descriptorIndex := 109, attributes := #[] }, { accessFlags := 25, nameIndex := 294, descriptorIndex := 25, attributes := #[] }])
  fields := #[{ name := "U", type := (.object "jdk/internal/misc/Unsafe"), accessFlags := 24, slot := 0, constantValue := 0 }, { name := "BIG_ENDIAN", type := .boolean, accessFlags := 26, slot := 1, constantValue := 0 }, { name := "LOG2_ARRAY_BOOLEAN_INDEX_SCALE", type := .int, accessFlags := 25, slot := 2, constantValue := 0 }, { name := "LOG2_ARRAY_BYTE_INDEX_SCALE", type := .int, accessFlags := 25, slot := 3, constantValue := 0 }, { name := "LOG2_ARRAY_CHAR_INDEX_SCALE", type := .int, accessFlags := 25, slot := 4, constantValue := 0 }, { name := "LOG2_ARRAY_SHORT_INDEX_SCALE", type := .int, accessFlags := 25, slot := 5, constantValue := 0 }, { name := "LOG2_ARRAY_INT_INDEX_SCALE", type := .int, accessFlags := 25, slot := 6, constantValue := 0 }, { name := "LOG2_ARRAY_LONG_INDEX_SCALE", type := .int, accessFlags := 25, slot := 7, constantValue := 0 }, { name := "LOG2_ARRAY_FLOAT_INDEX_SCALE", type := .int, accessFlags := 25, slot := 8, constantValue := 0 }, { name := "LOG2_ARRAY_DOUBLE_INDEX_SCALE", type := .int, accessFlags := 25, slot := 9, constantValue := 0 }, { name := "LOG2_BYTE_BIT_SIZE", type := .int, accessFlags := 26, slot := 10, constantValue := 0 }, { name := "T_BOOLEAN", type := .int, accessFlags := 25, slot := 11, constantValue := 0 }, { name := "T_CHAR", type := .int, accessFlags := 25, slot := 12, constantValue := 0 }, { name := "T_FLOAT", type := .int, accessFlags := 25, slot := 13, constantValue := 0 }, { name := "T_DOUBLE", type := .int, accessFlags := 25, slot := 14, constantValue := 0 }, { name := "T_BYTE", type := .int, accessFlags := 25, slot := 15, constantValue := 0 }, { name := "T_SHORT", type := .int, accessFlags := 25, slot := 16, constantValue := 0 }, { name := "T_INT", type := .int, accessFlags := 25, slot := 17, constantValue := 0 }, { name := "T_LONG", type := .int, accessFlags := 25, slot := 18, constantValue := 0 }, { name := "JLA", type := (.object "jdk/internal/access/JavaLangAccess"), accessFlags := 26, slot := 19, constantValue := 0 }, { name := "SOFT_MAX_ARRAY_LENGTH", type := .int, accessFlags := 25, slot := 20, constantValue := 0 }]
  methods := #[k12m0]
  instanceTypes := #[]
  staticTypes := #[(.object "jdk/internal/misc/Unsafe"), .boolean, .int, .int, .int, .int, .int, .int, .int, .int, .int, .int, .int, .int, .int, .int, .int, .int, .int, (.object "jdk/internal/access/JavaLangAccess"), .int]
  resolved := Array.replicate 378 none
  statics := none }

def pool13 : Array CpInfo := pool [(1, u "java/lang/Cloneable"), (0, .class_ 1), (0, u "java/lang/Object"), (0, .class_ 3)] 3

/-- java/lang/Cloneable -/
def k13 : Class := { plain "java/lang/Cloneable" (some 0) with
  accessFlags := 1537
  interfaces := #[]
  cf := some (fileOf pool13 2 #[] #[] 1537 4 #[] #[])
  fields := #[]
  methods := #[]
  instanceTypes := #[]
  staticTypes := #[]
  resolved := Array.replicate 8 none
  statics := none }

/-- the primitive byte -/
def k14 : Class := { plain "byte" none with kind := .primitive 'B', accessFlags := 0x411 }
/-- [B -/
def k15 : Class := { plain "[B" (some 0) with kind := .array 14 .byte, interfaces := #[13, 2], accessFlags := 1041 }

/-- the primitive char -/
def k16 : Class := { plain "char" none with kind := .primitive 'C', accessFlags := 0x411 }
/-- [C -/
def k17 : Class := { plain "[C" (some 0) with kind := .array 16 .char, interfaces := #[13, 2], accessFlags := 1041 }

/-- the primitive int -/
def k18 : Class := { plain "int" none with kind := .primitive 'I', accessFlags := 0x411 }
/-- [I -/
def k19 : Class := { plain "[I" (some 0) with kind := .array 18 .int, interfaces := #[13, 2], accessFlags := 1041 }

def heap : Heap := #[{ cls := 7, slots := #[.long 0, .int 1, .null, .int 0, .null, .int 0, .int 0], vm := .statics 7 },
  { cls := 11, slots := #[.null, .null, .null], vm := .statics 11 }]
def classes : Array Class := #[k0, k1, k2, k3, k4, k5, k6, k7, k8, k9, k10, k11, k12, k13, k14, k15, k16, k17, k18, k19]
def interned : List (Array UInt16 × Addr) := []
def slotsUsed : Nat := 10
def theMethod : MethodId := ⟨1, 3⟩
def args0 : Array Value := #[.int 5, .int 7, .int 3]
def aboutOver (below : List Frame) : State where
  vm := { classes := classes, interned := interned.toArray }
  heap := heap
  slotsUsed := slotsUsed
  threads := #[{ frames := .invoking theMethod args0 :: below }]
def below0 : List Frame := [.native { method := ⟨0, 0⟩, args := #[] }]
def about1 : State := aboutOver below0
def p0 : Program := .bare "" "" ""
def e0 : Env := launch0.env 0 0 0
theorem w_frames : about1.frames = Frame.invoking theMethod args0 :: below0 := rfl
set_option maxRecDepth 65536 in
theorem w_args : argsFit about1.vm theMethod args0 = true := by decide +kernel
set_option maxRecDepth 65536 in
theorem w_heap : heapFits about1 = true := by decide +kernel
set_option maxRecDepth 65536 in
theorem w_runnable : about1.curStatus? = some .runnable := by decide +kernel
set_option maxRecDepth 65536 in
theorem w_alone : about1.alone = true := by decide +kernel
set_option maxRecDepth 65536 in
theorem w_named : about1.methodNamed? x = some theMethod := by decide +kernel
set_option maxRecDepth 65536 in
theorem w_hears : about1.hears theMethod below0 = true := by decide +kernel
set_option maxRecDepth 65536 in
theorem w_ripe : about1.ripe theMethod args0 below0 = true := by decide +kernel
theorem w_running : about1.status = .running := rfl
set_option maxRecDepth 65536 in
theorem w_room : about1.hasRoom e0.platform room_1 = true :=
  launch0.hasRoom_least _ room_1 (by decide +kernel) (by decide +kernel) (by decide +kernel) (by decide +kernel) (by decide +kernel) (by decide +kernel)
theorem allAtoms_all (ts : List Jvm.Cond) (a : Array Jvm.Value) (st : Jvm.State) : (allAtoms ts).before a st = ts.all (fun c => c.before a st) := by
  induction ts with
  | nil => rfl
  | cons c t ih =>
    show (Jvm.Cond.and c (allAtoms t)).before a st = _
    rw [Jvm.Cond.before_and, ih, List.all_cons]
def words1 : List Jvm.Cond := Jvm.Cond.code x code maxLocals ret :: tables_1
/-- a 'code' word, met by the world's own term for the bytes: nothing is compared byte by byte -/
theorem code_word {y : MethodName} {bytes : ByteArray} {mx : Nat} {rt : Option FieldType} {a : Array Value} {s : State} {m : MethodId} {meth : Method} {c : Code} (h1 : s.methodNamed? y = some m) (h2 : s.vm.method? m = some meth) (h3 : meth.code = some c) (h4 : c.code = bytes)
    (h5 : (c.maxLocals == mx && c.exceptionTable.isEmpty && decide (c.maxStack ≤ mostOperands) && decide (meth.sig.returnType = rt) && !meth.locks && decide (parseMethodDescriptor y.desc = some meth.sig)) = true) : (Jvm.Cond.code y bytes mx rt).before a s = true := by
  simp only [Bool.and_eq_true, beq_iff_eq, Bool.not_eq_true', decide_eq_true_eq] at h5
  obtain ⟨⟨⟨⟨⟨g1, g2⟩, g3⟩, g4⟩, g5⟩, g6⟩ := h5
  simp [Cond.before, Cond.holds, Cond.value, h1, h2, h3, h4, g1, g2, g3, g4, g5, g6]
def isCode : Jvm.Cond → Bool
  | .code _ _ _ _ => true
  | _ => false
theorem all_split {L : List Jvm.Cond} {P : Jvm.Cond → Bool} (h1 : L.all (fun c => isCode c || P c) = true) (h2 : ∀ c ∈ L.filter isCode, P c = true) : L.all P = true := by
  refine List.all_eq_true.mpr fun c hc => ?_
  have h := List.all_eq_true.mp h1 c hc
  rcases Bool.eq_false_or_eq_true (isCode c) with hi | hi
  · exact h2 c (List.mem_filter.mpr ⟨hc, hi⟩)
  · simpa [hi] using h
set_option maxRecDepth 65536 in
theorem w_c0 : (Jvm.Cond.code x code maxLocals ret).before args0 about1 = true := code_word (m := ⟨1, 3⟩) (meth := k1m3) (c := k1c3) (by decide +kernel) rfl rfl rfl (by decide +kernel)
set_option maxRecDepth 65536 in
theorem w_c1 : (Jvm.Cond.code ({ cls := "com/example/dyn_authz/dynauthz/process/RequestEqualsPinLaw", name := "mk", desc := "(ZC)Ljava/lang/String;" } : Jvm.MethodName) method_2_code (2 : Nat) (Option.some (Jvm.ClassFile.FieldType.object "java/lang/String"))).before args0 about1 = true := code_word (m := ⟨1, 1⟩) (meth := k1m1) (c := k1c1) (by decide +kernel) rfl rfl rfl (by decide +kernel)
set_option maxRecDepth 65536 in
theorem w_c2 : (Jvm.Cond.code ({ cls := "java/lang/String", name := "<init>", desc := "([C)V" } : Jvm.MethodName) jdk_42_method_3_code (2 : Nat) (Option.none : Option Jvm.ClassFile.FieldType)).before args0 about1 = true := code_word (m := ⟨7, 1⟩) (meth := k7m1) (c := k7c1) (by decide +kernel) rfl rfl rfl (by decide +kernel)
set_option maxRecDepth 65536 in
theorem w_c3 : (Jvm.Cond.code ({ cls := "java/lang/String", name := "<init>", desc := "([CIILjava/lang/Void;)V" } : Jvm.MethodName) jdk_42_method_149_code (6 : Nat) (Option.none : Option Jvm.ClassFile.FieldType)).before args0 about1 = true := code_word (m := ⟨7, 3⟩) (meth := k7m3) (c := k7c3) (by decide +kernel) rfl rfl rfl (by decide +kernel)
set_option maxRecDepth 65536 in
theorem w_c4 : (Jvm.Cond.code ({ cls := "java/lang/Object", name := "<init>", desc := "()V" } : Jvm.MethodName) object_method_1_code (1 : Nat) (Option.none : Option Jvm.ClassFile.FieldType)).before args0 about1 = true := code_word (m := ⟨0, 0⟩) (meth := k0m0) (c := k0c0) (by decide +kernel) rfl rfl rfl (by decide +kernel)
set_option maxRecDepth 65536 in
theorem w_c5 : (Jvm.Cond.code ({ cls := "java/lang/StringUTF16", name := "compress", desc := "([CII)[B" } : Jvm.MethodName) jdk_52_method_16_code (6 : Nat) (Option.some (Jvm.ClassFile.FieldType.array Jvm.ClassFile.FieldType.byte))).before args0 about1 = true := code_word (m := ⟨8, 2⟩) (meth := k8m2) (c := k8c2) (by decide +kernel) rfl rfl rfl (by decide +kernel)
set_option maxRecDepth 65536 in
theorem w_c6 : (Jvm.Cond.code ({ cls := "java/lang/StringUTF16", name := "compress", desc := "([CI[BII)I" } : Jvm.MethodName) jdk_52_method_21_code (7 : Nat) (Option.some Jvm.ClassFile.FieldType.int)).before args0 about1 = true := code_word (m := ⟨8, 3⟩) (meth := k8m3) (c := k8c3) (by decide +kernel) rfl rfl rfl (by decide +kernel)
set_option maxRecDepth 65536 in
theorem w_c7 : (Jvm.Cond.code ({ cls := "java/lang/StringUTF16", name := "coderFromArrayLen", desc := "([BI)B" } : Jvm.MethodName) jdk_52_method_15_code (2 : Nat) (Option.some Jvm.ClassFile.FieldType.byte)).before args0 about1 = true := code_word (m := ⟨8, 1⟩) (meth := k8m1) (c := k8c1) (by decide +kernel) rfl rfl rfl (by decide +kernel)
set_option maxRecDepth 65536 in
theorem w_c8 : (Jvm.Cond.code ({ cls := "com/example/dyn_authz/dynauthz/process/Request", name := "<init>", desc := "(Ljava/lang/String;Ljava/lang/String;Ljava/lang/String;)V" } : Jvm.MethodName) prog_35_method_1_code (4 : Nat) (Option.none : Option Jvm.ClassFile.FieldType)).before args0 about1 = true := code_word (m := ⟨9, 0⟩) (meth := k9m0) (c := k9c0) (by decide +kernel) rfl rfl rfl (by decide +kernel)
set_option maxRecDepth 65536 in
theorem w_c9 : (Jvm.Cond.code ({ cls := "com/example/dyn_authz/dynauthz/process/RequestEqualsPinLaw", name := "eqS", desc := "(ZCZC)Z" } : Jvm.MethodName) method_3_code (4 : Nat) (Option.some Jvm.ClassFile.FieldType.boolean)).before args0 about1 = true := code_word (m := ⟨1, 2⟩) (meth := k1m2) (c := k1c2) (by decide +kernel) rfl rfl rfl (by decide +kernel)
set_option maxRecDepth 65536 in
theorem w_c10 : (Jvm.Cond.code ({ cls := "com/example/dyn_authz/dynauthz/process/Request", name := "equals", desc := "(Ljava/lang/Object;)Z" } : Jvm.MethodName) prog_35_method_5_code (4 : Nat) (Option.some Jvm.ClassFile.FieldType.boolean)).before args0 about1 = true := code_word (m := ⟨9, 1⟩) (meth := k9m1) (c := k9c1) (by decide +kernel) rfl rfl rfl (by decide +kernel)
set_option maxRecDepth 65536 in
theorem w_c11 : (Jvm.Cond.code ({ cls := "java/lang/String", name := "equals", desc := "(Ljava/lang/Object;)Z" } : Jvm.MethodName) jdk_42_method_66_code (3 : Nat) (Option.some Jvm.ClassFile.FieldType.boolean)).before args0 about1 = true := code_word (m := ⟨7, 2⟩) (meth := k7m2) (c := k7c2) (by decide +kernel) rfl rfl rfl (by decide +kernel)
set_option maxRecDepth 65536 in
theorem w_c12 : (Jvm.Cond.code ({ cls := "java/lang/StringLatin1", name := "equals", desc := "([B[B)Z" } : Jvm.MethodName) jdk_43_method_13_code (3 : Nat) (Option.some Jvm.ClassFile.FieldType.boolean)).before args0 about1 = true := code_word (m := ⟨10, 1⟩) (meth := k10m1) (c := k10c1) (by decide +kernel) rfl rfl rfl (by decide +kernel)
def codes1 : List Jvm.Cond := [Jvm.Cond.code x code maxLocals ret, Jvm.Cond.code ({ cls := "com/example/dyn_authz/dynauthz/process/RequestEqualsPinLaw", name := "mk", desc := "(ZC)Ljava/lang/String;" } : Jvm.MethodName) method_2_code (2 : Nat) (Option.some (Jvm.ClassFile.FieldType.object "java/lang/String")), Jvm.Cond.code ({ cls := "java/lang/String", name := "<init>", desc := "([C)V" } : Jvm.MethodName) jdk_42_method_3_code (2 : Nat) (Option.none : Option Jvm.ClassFile.FieldType), Jvm.Cond.code ({ cls := "java/lang/String", name := "<init>", desc := "([CIILjava/lang/Void;)V" } : Jvm.MethodName) jdk_42_method_149_code (6 : Nat) (Option.none : Option Jvm.ClassFile.FieldType), Jvm.Cond.code ({ cls := "java/lang/Object", name := "<init>", desc := "()V" } : Jvm.MethodName) object_method_1_code (1 : Nat) (Option.none : Option Jvm.ClassFile.FieldType), Jvm.Cond.code ({ cls := "java/lang/StringUTF16", name := "compress", desc := "([CII)[B" } : Jvm.MethodName) jdk_52_method_16_code (6 : Nat) (Option.some (Jvm.ClassFile.FieldType.array Jvm.ClassFile.FieldType.byte)), Jvm.Cond.code ({ cls := "java/lang/StringUTF16", name := "compress", desc := "([CI[BII)I" } : Jvm.MethodName) jdk_52_method_21_code (7 : Nat) (Option.some Jvm.ClassFile.FieldType.int), Jvm.Cond.code ({ cls := "java/lang/StringUTF16", name := "coderFromArrayLen", desc := "([BI)B" } : Jvm.MethodName) jdk_52_method_15_code (2 : Nat) (Option.some Jvm.ClassFile.FieldType.byte), Jvm.Cond.code ({ cls := "com/example/dyn_authz/dynauthz/process/Request", name := "<init>", desc := "(Ljava/lang/String;Ljava/lang/String;Ljava/lang/String;)V" } : Jvm.MethodName) prog_35_method_1_code (4 : Nat) (Option.none : Option Jvm.ClassFile.FieldType), Jvm.Cond.code ({ cls := "com/example/dyn_authz/dynauthz/process/RequestEqualsPinLaw", name := "eqS", desc := "(ZCZC)Z" } : Jvm.MethodName) method_3_code (4 : Nat) (Option.some Jvm.ClassFile.FieldType.boolean), Jvm.Cond.code ({ cls := "com/example/dyn_authz/dynauthz/process/Request", name := "equals", desc := "(Ljava/lang/Object;)Z" } : Jvm.MethodName) prog_35_method_5_code (4 : Nat) (Option.some Jvm.ClassFile.FieldType.boolean), Jvm.Cond.code ({ cls := "java/lang/String", name := "equals", desc := "(Ljava/lang/Object;)Z" } : Jvm.MethodName) jdk_42_method_66_code (3 : Nat) (Option.some Jvm.ClassFile.FieldType.boolean), Jvm.Cond.code ({ cls := "java/lang/StringLatin1", name := "equals", desc := "([B[B)Z" } : Jvm.MethodName) jdk_43_method_13_code (3 : Nat) (Option.some Jvm.ClassFile.FieldType.boolean)]
set_option maxRecDepth 65536 in
theorem codes_eq : words1.filter isCode = codes1 := rfl
theorem w_codes : ∀ c ∈ words1.filter isCode, c.before args0 about1 = true := by
  rw [codes_eq]
  intro c hc
  simp only [codes1, List.mem_cons, List.not_mem_nil, or_false] at hc
  rcases hc with rfl | rfl | rfl | rfl | rfl | rfl | rfl | rfl | rfl | rfl | rfl | rfl | rfl
  · exact w_c0
  · exact w_c1
  · exact w_c2
  · exact w_c3
  · exact w_c4
  · exact w_c5
  · exact w_c6
  · exact w_c7
  · exact w_c8
  · exact w_c9
  · exact w_c10
  · exact w_c11
  · exact w_c12
set_option maxRecDepth 65536 in
theorem w_t1 : (words1.take 24).all (fun c => isCode c || c.before args0 about1) = true := by decide +kernel
set_option maxRecDepth 65536 in
theorem w_t2 : ((words1.drop 24).take 24).all (fun c => isCode c || c.before args0 about1) = true := by decide +kernel
set_option maxRecDepth 65536 in
theorem w_t3 : (((words1.drop 24).drop 24).take 24).all (fun c => isCode c || c.before args0 about1) = true := by decide +kernel
set_option maxRecDepth 65536 in
theorem w_t4 : (((words1.drop 24).drop 24).drop 24).all (fun c => isCode c || c.before args0 about1) = true := by decide +kernel
theorem w_tables : (allAtoms (Jvm.Cond.code x code maxLocals ret :: tables_1)).before args0 about1 = true := by
  rw [allAtoms_all]
  show words1.all (fun c => c.before args0 about1) = true
  refine all_split ?_ w_codes
  rw [← List.take_append_drop 24 words1, List.all_append, w_t1, ← List.take_append_drop 24 (words1.drop 24), List.all_append, w_t2, ← List.take_append_drop 24 ((words1.drop 24).drop 24), List.all_append, w_t3, w_t4]
  rfl
set_option maxRecDepth 65536 in
theorem w_rest : rest_1_c.before args0 about1 = true := by decide +kernel
set_option maxRecDepth 65536 in
theorem w_case : (Jvm.Cond.and given_1 narrow_1).before args0 about1 = true := by decide +kernel
set_option maxRecDepth 65536 in
theorem w_consts : constsHeld consts_1 about1 := Jvm.Lit.constsHeldB_iff.mp (by decide +kernel)
theorem w_applies : (headSpec (Jvm.Cond.code x code maxLocals ret :: tables_1) room_1).applies x e0.platform about1 = true :=
  (Spec.applies_iff w_frames).mpr ⟨w_running, w_runnable, w_alone, w_named, w_hears, w_ripe, w_room, w_tables⟩
theorem atStart : AtStart classFile x code maxLocals ret World_1 tables_1 room_1 Calls_1 rest_1 Pre_1 launch0 p0 e0 about1 theMethod args0 below0 :=
  ⟨lists_1, trivial, launch0.admits_env _ _ _, launch0.least_env, fairChoices_fair.cas, fairChoices_fair.clock, w_frames, w_args, w_heap, w_applies, ⟨w_consts, trivial⟩, w_rest, w_case⟩
end start1
theorem witness_1 : WitnessClaimed_1 := ⟨start1.p0, start1.e0, start1.about1, start1.theMethod, start1.args0, start1.below0, start1.atStart⟩
end Jvm.Pilot.@@N@@
