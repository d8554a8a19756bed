import JvmDerived
import JvmDerived.Pilot.@@N@@Statement
import JvmDerived.Pilot.@@N@@Code
set_option linter.unusedVariables false
set_option linter.unusedSimpArgs false
namespace Jvm.Pilot.@@N@@
open Jvm Jvm.ClassFile Sem Op Lib Jvm.Free Jvm.Stand Jvm.LawKit Jvm.RoadKit Bundle Jvm.Pilot.@@N@@.Jvm.D
def G (p : Program) (l : Launch) (e : Env) (R : Room) (s : State) (m : MethodId) (args : Array Value) (below : List Frame) (meth : Method) (c : Code) (n0 : Nat) (Q : Option Value → Heap → Prop) (h : Heap) (k n : Nat) (pc : Nat) (Ls : Array Slot) (st : List Value) : Prop :=
  ∀ T locs cells slots, Stand p l e R s m args below meth c T locs cells slots → Fr n0 locs → T.heap = h → cells ≤ k → slots ≤ n →
    ∃ s₂ o, Steps p.tables e below (T.setTop (mkF m pc Ls st)) s₂ ∧ s₂.status = .running ∧ Ended s₂ below o ∧ ∃ v L, o = .returned v ∧ (Q v s₂.heap ∧ Fr n0 L) ∧ FrameEnd s o s₂ L R.cells R.slots
def Cx (Z : State) (p : Program) (s : State) (m : MethodId) (meth : Method) (c : Code) (R : Room) (k n : Nat) (own nm : String) (code : ByteArray) (maxL : Nat) (ret : Option FieldType) : Prop :=
  p.tables.exec = Jvm.exec ∧ Z.Warmed39 s.vm ∧ s.vm.findClass own = some m.cls ∧ c.code = code ∧ c.maxLocals = maxL ∧ meth.sig.returnType = ret ∧ meth.name = nm ∧ meth.locks = false
def Dc (code : ByteArray) (pc : Nat) (i : Instr) (len pc' : Nat) : Prop := decode code pc = .ok (i, len) ∧ pc + len = pc'
def Bi (code : ByteArray) (pc : Nat) (f : Int → Instr) (pcY pcN : Nat) : Prop := ∃ o, decode code pc = .ok (f o, 3) ∧ 0 ≤ (pc : Int) + o ∧ ((pc : Int) + o).toNat = pcY ∧ pc + 3 = pcN
def Met (l : Launch) (Z : State) (y : MethodName) (bytes : ByteArray) (maxL : Nat) (ret : Option FieldType) (rm : Room) (as : Array Value) (h0 : Heap) (Q : Option Value → Heap → Prop) : Prop :=
  ∀ ws, MetFree l y (head1 (Jvm.Cond.code y bytes maxL ret :: ws) rm) (fun a U => a = as ∧ Z.Warmed39 U.vm ∧ U.heap = h0) (fun _ _ _ _ _ => True) (fun _ U o U' => ∃ v L, o = .returned v ∧ (Q v U'.heap ∧ Fr Z.heap.size L) ∧ FrameEnd U o U' L rm.cells rm.slots)

def Arx (Z : State) (h : Heap) (a : Addr) (k : ClassId) (ty : FieldType) (z : Int32) (vs : List Value) (dv : Value) (ad : String) : Prop := Arv Z h a k ty z vs dv ∧ Exa Z h a ad
section ArxS
variable {Z : State} {h h' : Heap} {a x : Addr} {k : ClassId} {ty : FieldType} {z : Int32} {vs vs' : List Value} {dv w : Value} {ad : String} {sl : Nat} {ws : List Addr}
theorem Arx.ext (F : Arx Z h a k ty z vs dv ad) (E : Ext h h') : Arx Z h' a k ty z vs dv ad := ⟨F.1.ext E, F.2.ext E⟩
theorem Arx.other (F : Arx Z h a k ty z vs dv ad) (W : Wr h h' x sl w) (q : a ≠ x) : Arx Z h' a k ty z vs dv ad := ⟨F.1.other W q, F.2.wr W⟩
theorem Arx.keep (F : Arx Z h a k ty z vs dv ad) (K : Keep h h' ws) (q : a ∉ ws) : Arx Z h' a k ty z vs dv ad := ⟨F.1.keep K q, F.2.keep K⟩
theorem Arx.lt (F : Arx Z h a k ty z vs dv ad) : a < h.size := F.1.lt
theorem Arx.pad (F : Arx Z h a k ty z vs dv ad) (q : ∀ i, vs'.getD i dv = vs.getD i dv) : Arx Z h a k ty z vs' dv ad := ⟨F.1.pad q, F.2⟩
theorem sto_of {C : String} {y : Addr} (A : Arx Z h a k ty z vs dv ad) (O : Ovr Z k C) (I : Ins Z h y C true) : Sto Z h a (.ref y) := by
  obtain ⟨⟨c, Ar, q, -⟩, -⟩ := A; exact Sto.ofV Ar q O I
theorem sto_ofA {C : String} {y : Addr} {t : FieldType} (A : Arx Z h a k ty z vs dv ad) (O : OvrA Z k t C) (I : Ins Z h y C true) : Sto Z h a (.ref y) := by
  obtain ⟨⟨c, Ar, q, -⟩, -⟩ := A; exact Sto.ofVA Ar q O I
end ArxS
section Walk
variable {p : Program} {l : Launch} {e : Env} {R : Room} {s : State} {m : MethodId} {args : Array Value} {below : List Frame} {meth : Method} {c : Code} {Z : State} {a0 : Array Value} {k n : Nat} {own nm : String} {code : ByteArray} {maxL : Nat} {ret : Option FieldType} {n0 : Nat} {Q : Option Value → Heap → Prop} {h : Heap} {pc pc' pcY pcN : Nat} {Ls : Array Slot} {st rest : List Value}
theorem G.mono {k' n' : Nat} (H : G p l e R s m args below meth c Z.heap.size Q h k n pc Ls st) (hk : k' ≤ k) (hn : n' ≤ n) : G p l e R s m args below meth c Z.heap.size Q h k' n' pc Ls st :=
  fun T locs cells slots X N eT a b => H T locs cells slots X N eT (Nat.le_trans a hk) (Nat.le_trans b hn)
theorem G.cast {st' : List Value} (H : G p l e R s m args below meth c Z.heap.size Q h k n pc Ls st') (q : st = st') : G p l e R s m args below meth c Z.heap.size Q h k n pc Ls st := q ▸ H
theorem G.post {Q' : Option Value → Heap → Prop} (H : G p l e R s m args below meth c Z.heap.size Q h k n pc Ls st) (q : ∀ v h, Q v h → Q' v h) : G p l e R s m args below meth c Z.heap.size Q' h k n pc Ls st :=
  fun T locs cells slots X N eT a b => by
    obtain ⟨s₂, o, h1, h2, h3, v, L, h4, ⟨h5, h6⟩, h7⟩ := H T locs cells slots X N eT a b
    exact ⟨s₂, o, h1, h2, h3, v, L, h4, ⟨q _ _ h5, h6⟩, h7⟩
theorem met_of {y : MethodName} {bytes : ByteArray} {rm : Room} {as : Array Value} {h0 : Heap} (pn : plainFor y = true) (ef : ∀ m, entryFrame m as maxL = mkF m 0 Ls [])
    (body : ∀ p e s m below meth c, Cx Z p s m meth c rm 0 0 y.cls y.name bytes maxL ret → G p l e rm s m as below meth c Z.heap.size Q h0 0 0 0 Ls []) : Met l Z y bytes maxL ret rm as h0 Q := by
  intro ws
  refine MetFree.of_bodySF pn hisR ?_
  intro p e s m args below meth c s₁ Bd hml0 hP hK
  obtain ⟨rfl, hZ, hh⟩ := hP
  have e0 : s₁.heap = h0 := by rw [← hh, Bd.state]; rfl
  have X0 : Stand p l e rm s m args below meth c s₁ [] 0 0 := Stand.of_body Bd
  rw [ef m]
  exact body p e s m below meth c ⟨Bd.exec, hZ, findClass_of_methodNamed Bd.named, Bd.bytes, hml0, Bd.returns, (name_of_methodNamed Bd.named Bd.method).1, BodyLoose.notSynchronized Bd⟩ s₁ [] 0 0 X0 (Fr.nil _) e0 (Nat.le_refl _) (Nat.le_refl _)
theorem g_iloadN {kx nx : Nat} (cx : Cx Z p s m meth c R kx nx own nm code maxL ret) {i : Fin 4} {v : Int32} (d : Dc code pc (.iload_n i) 1 pc') (hl : Ls[i.val]? = some (.val (.int v))) (H : G p l e R s m args below meth c Z.heap.size Q h k n pc' Ls (.int v :: st)) : G p l e R s m args below meth c Z.heap.size Q h k n pc Ls st := by
  obtain ⟨hx, hZ, hown, rfl, hml, hret, hnm, -⟩ := cx
  obtain ⟨d, rfl⟩ := d
  intro T locs cells slots X N eT hk hn
  obtain ⟨s₂, o, st2, r⟩ := H T locs cells slots X N eT hk hn
  exact ⟨s₂, o, Jvm.Free.XS.iloadN X.here hx rfl d hl st2, r⟩
theorem g_iload {kx nx : Nat} (cx : Cx Z p s m meth c R kx nx own nm code maxL ret) {i : Nat} {v : Int32} (d : Dc code pc (.iload i) 2 pc') (hl : Ls[i]? = some (.val (.int v))) (H : G p l e R s m args below meth c Z.heap.size Q h k n pc' Ls (.int v :: st)) : G p l e R s m args below meth c Z.heap.size Q h k n pc Ls st := by
  obtain ⟨hx, hZ, hown, rfl, hml, hret, hnm, -⟩ := cx
  obtain ⟨d, rfl⟩ := d
  intro T locs cells slots X N eT hk hn
  obtain ⟨s₂, o, st2, r⟩ := H T locs cells slots X N eT hk hn
  exact ⟨s₂, o, Jvm.Free.XS.iload X.here hx rfl d hl st2, r⟩
theorem g_istoreN {kx nx : Nat} (cx : Cx Z p s m meth c R kx nx own nm code maxL ret) {i : Fin 4} {v : Int32} {Ls' : Array Slot} (d : Dc code pc (.istore_n i) 1 pc') (hl : storeLocals Ls i.val (.int v) = some Ls') (H : G p l e R s m args below meth c Z.heap.size Q h k n pc' Ls' st) : G p l e R s m args below meth c Z.heap.size Q h k n pc Ls (.int v :: st) := by
  obtain ⟨hx, hZ, hown, rfl, hml, hret, hnm, -⟩ := cx
  obtain ⟨d, rfl⟩ := d
  intro T locs cells slots X N eT hk hn
  obtain ⟨s₂, o, st2, r⟩ := H T locs cells slots X N eT hk hn
  exact ⟨s₂, o, Jvm.Free.XS.istoreN X.here hx rfl d rfl hl st2, r⟩
theorem g_istore {kx nx : Nat} (cx : Cx Z p s m meth c R kx nx own nm code maxL ret) {i : Nat} {v : Int32} {Ls' : Array Slot} (d : Dc code pc (.istore i) 2 pc') (hl : storeLocals Ls i (.int v) = some Ls') (H : G p l e R s m args below meth c Z.heap.size Q h k n pc' Ls' st) : G p l e R s m args below meth c Z.heap.size Q h k n pc Ls (.int v :: st) := by
  obtain ⟨hx, hZ, hown, rfl, hml, hret, hnm, -⟩ := cx
  obtain ⟨d, rfl⟩ := d
  intro T locs cells slots X N eT hk hn
  obtain ⟨s₂, o, st2, r⟩ := H T locs cells slots X N eT hk hn
  exact ⟨s₂, o, Jvm.Free.XS.istore X.here hx rfl d rfl hl st2, r⟩
theorem g_lloadN {kx nx : Nat} (cx : Cx Z p s m meth c R kx nx own nm code maxL ret) {i : Fin 4} {v : Int64} (d : Dc code pc (.lload_n i) 1 pc') (hl : Ls[i.val]? = some (.val (.long v))) (H : G p l e R s m args below meth c Z.heap.size Q h k n pc' Ls (.long v :: st)) : G p l e R s m args below meth c Z.heap.size Q h k n pc Ls st := by
  obtain ⟨hx, hZ, hown, rfl, hml, hret, hnm, -⟩ := cx
  obtain ⟨d, rfl⟩ := d
  intro T locs cells slots X N eT hk hn
  obtain ⟨s₂, o, st2, r⟩ := H T locs cells slots X N eT hk hn
  exact ⟨s₂, o, Jvm.Free.XS.lloadN X.here hx rfl d hl st2, r⟩
theorem g_lload {kx nx : Nat} (cx : Cx Z p s m meth c R kx nx own nm code maxL ret) {i : Nat} {v : Int64} (d : Dc code pc (.lload i) 2 pc') (hl : Ls[i]? = some (.val (.long v))) (H : G p l e R s m args below meth c Z.heap.size Q h k n pc' Ls (.long v :: st)) : G p l e R s m args below meth c Z.heap.size Q h k n pc Ls st := by
  obtain ⟨hx, hZ, hown, rfl, hml, hret, hnm, -⟩ := cx
  obtain ⟨d, rfl⟩ := d
  intro T locs cells slots X N eT hk hn
  obtain ⟨s₂, o, st2, r⟩ := H T locs cells slots X N eT hk hn
  exact ⟨s₂, o, Jvm.Free.XS.lload X.here hx rfl d hl st2, r⟩
theorem g_lstoreN {kx nx : Nat} (cx : Cx Z p s m meth c R kx nx own nm code maxL ret) {i : Fin 4} {v : Int64} {Ls' : Array Slot} (d : Dc code pc (.lstore_n i) 1 pc') (hl : storeLocals Ls i.val (.long v) = some Ls') (H : G p l e R s m args below meth c Z.heap.size Q h k n pc' Ls' st) : G p l e R s m args below meth c Z.heap.size Q h k n pc Ls (.long v :: st) := by
  obtain ⟨hx, hZ, hown, rfl, hml, hret, hnm, -⟩ := cx
  obtain ⟨d, rfl⟩ := d
  intro T locs cells slots X N eT hk hn
  obtain ⟨s₂, o, st2, r⟩ := H T locs cells slots X N eT hk hn
  exact ⟨s₂, o, Jvm.Free.XS.lstoreN X.here hx rfl d rfl hl st2, r⟩
theorem g_lstore {kx nx : Nat} (cx : Cx Z p s m meth c R kx nx own nm code maxL ret) {i : Nat} {v : Int64} {Ls' : Array Slot} (d : Dc code pc (.lstore i) 2 pc') (hl : storeLocals Ls i (.long v) = some Ls') (H : G p l e R s m args below meth c Z.heap.size Q h k n pc' Ls' st) : G p l e R s m args below meth c Z.heap.size Q h k n pc Ls (.long v :: st) := by
  obtain ⟨hx, hZ, hown, rfl, hml, hret, hnm, -⟩ := cx
  obtain ⟨d, rfl⟩ := d
  intro T locs cells slots X N eT hk hn
  obtain ⟨s₂, o, st2, r⟩ := H T locs cells slots X N eT hk hn
  exact ⟨s₂, o, Jvm.Free.XS.lstore X.here hx rfl d rfl hl st2, r⟩
theorem g_aloadN {kx nx : Nat} (cx : Cx Z p s m meth c R kx nx own nm code maxL ret) {i : Fin 4} {v : Value} (d : Dc code pc (.aload_n i) 1 pc') (hl : Ls[i.val]? = some (.val v)) (hv : v.isRef = true) (H : G p l e R s m args below meth c Z.heap.size Q h k n pc' Ls (v :: st)) : G p l e R s m args below meth c Z.heap.size Q h k n pc Ls st := by
  obtain ⟨hx, hZ, hown, rfl, hml, hret, hnm, -⟩ := cx
  obtain ⟨d, rfl⟩ := d
  intro T locs cells slots X N eT hk hn
  obtain ⟨s₂, o, st2, r⟩ := H T locs cells slots X N eT hk hn
  exact ⟨s₂, o, Jvm.Free.XS.aloadN X.here hx rfl d hl hv st2, r⟩
theorem g_aload {kx nx : Nat} (cx : Cx Z p s m meth c R kx nx own nm code maxL ret) {i : Nat} {v : Value} (d : Dc code pc (.aload i) 2 pc') (hl : Ls[i]? = some (.val v)) (hv : v.isRef = true) (H : G p l e R s m args below meth c Z.heap.size Q h k n pc' Ls (v :: st)) : G p l e R s m args below meth c Z.heap.size Q h k n pc Ls st := by
  obtain ⟨hx, hZ, hown, rfl, hml, hret, hnm, -⟩ := cx
  obtain ⟨d, rfl⟩ := d
  intro T locs cells slots X N eT hk hn
  obtain ⟨s₂, o, st2, r⟩ := H T locs cells slots X N eT hk hn
  exact ⟨s₂, o, Jvm.Free.XS.aload X.here hx rfl d hl hv st2, r⟩
theorem g_astoreN {kx nx : Nat} (cx : Cx Z p s m meth c R kx nx own nm code maxL ret) {i : Fin 4} {v : Value} {Ls' : Array Slot} (d : Dc code pc (.astore_n i) 1 pc') (hv : v.isRef = true) (hl : storeLocals Ls i.val v = some Ls') (H : G p l e R s m args below meth c Z.heap.size Q h k n pc' Ls' st) : G p l e R s m args below meth c Z.heap.size Q h k n pc Ls (v :: st) := by
  obtain ⟨hx, hZ, hown, rfl, hml, hret, hnm, -⟩ := cx
  obtain ⟨d, rfl⟩ := d
  intro T locs cells slots X N eT hk hn
  obtain ⟨s₂, o, st2, r⟩ := H T locs cells slots X N eT hk hn
  exact ⟨s₂, o, Jvm.Free.XS.astoreN X.here hx rfl d rfl hv hl st2, r⟩
theorem g_astore {kx nx : Nat} (cx : Cx Z p s m meth c R kx nx own nm code maxL ret) {i : Nat} {v : Value} {Ls' : Array Slot} (d : Dc code pc (.astore i) 2 pc') (hv : v.isRef = true) (hl : storeLocals Ls i v = some Ls') (H : G p l e R s m args below meth c Z.heap.size Q h k n pc' Ls' st) : G p l e R s m args below meth c Z.heap.size Q h k n pc Ls (v :: st) := by
  obtain ⟨hx, hZ, hown, rfl, hml, hret, hnm, -⟩ := cx
  obtain ⟨d, rfl⟩ := d
  intro T locs cells slots X N eT hk hn
  obtain ⟨s₂, o, st2, r⟩ := H T locs cells slots X N eT hk hn
  exact ⟨s₂, o, Jvm.Free.XS.astore X.here hx rfl d rfl hv hl st2, r⟩
theorem g_iconst {kx nx : Nat} (cx : Cx Z p s m meth c R kx nx own nm code maxL ret) {i : Int} {v : Int32} (d : Dc code pc (.iconst i) 1 pc') (hv : Int32.ofInt i = v) (H : G p l e R s m args below meth c Z.heap.size Q h k n pc' Ls (.int v :: st)) : G p l e R s m args below meth c Z.heap.size Q h k n pc Ls st := by
  obtain ⟨hx, hZ, hown, rfl, hml, hret, hnm, -⟩ := cx
  obtain ⟨d, rfl⟩ := d
  intro T locs cells slots X N eT hk hn
  obtain ⟨s₂, o, st2, r⟩ := H T locs cells slots X N eT hk hn
  exact ⟨s₂, o, Jvm.Free.XS.iconst X.here hx rfl d (by rw [hv]; exact st2), r⟩
theorem g_bipush {kx nx : Nat} (cx : Cx Z p s m meth c R kx nx own nm code maxL ret) {i : Int} {v : Int32} (d : Dc code pc (.bipush i) 2 pc') (hv : (Int8.ofInt i).toInt32 = v) (H : G p l e R s m args below meth c Z.heap.size Q h k n pc' Ls (.int v :: st)) : G p l e R s m args below meth c Z.heap.size Q h k n pc Ls st := by
  obtain ⟨hx, hZ, hown, rfl, hml, hret, hnm, -⟩ := cx
  obtain ⟨d, rfl⟩ := d
  intro T locs cells slots X N eT hk hn
  obtain ⟨s₂, o, st2, r⟩ := H T locs cells slots X N eT hk hn
  exact ⟨s₂, o, Jvm.Free.XS.bipush X.here hx rfl d (by rw [hv]; exact st2), r⟩
theorem g_sipush {kx nx : Nat} (cx : Cx Z p s m meth c R kx nx own nm code maxL ret) {i : Int} {v : Int32} (d : Dc code pc (.sipush i) 3 pc') (hv : (Int16.ofInt i).toInt32 = v) (H : G p l e R s m args below meth c Z.heap.size Q h k n pc' Ls (.int v :: st)) : G p l e R s m args below meth c Z.heap.size Q h k n pc Ls st := by
  obtain ⟨hx, hZ, hown, rfl, hml, hret, hnm, -⟩ := cx
  obtain ⟨d, rfl⟩ := d
  intro T locs cells slots X N eT hk hn
  obtain ⟨s₂, o, st2, r⟩ := H T locs cells slots X N eT hk hn
  exact ⟨s₂, o, Jvm.Free.XS.sipush X.here hx rfl d (by rw [hv]; exact st2), r⟩
theorem g_lconst {kx nx : Nat} (cx : Cx Z p s m meth c R kx nx own nm code maxL ret) {i : Fin 2} {v : Int64} (d : Dc code pc (.lconst i) 1 pc') (hv : Int64.ofNat i = v) (H : G p l e R s m args below meth c Z.heap.size Q h k n pc' Ls (.long v :: st)) : G p l e R s m args below meth c Z.heap.size Q h k n pc Ls st := by
  obtain ⟨hx, hZ, hown, rfl, hml, hret, hnm, -⟩ := cx
  obtain ⟨d, rfl⟩ := d
  intro T locs cells slots X N eT hk hn
  obtain ⟨s₂, o, st2, r⟩ := H T locs cells slots X N eT hk hn
  exact ⟨s₂, o, Jvm.Free.XS.lconst X.here hx rfl d (by rw [hv]; exact st2), r⟩
theorem g_aconst_null {kx nx : Nat} (cx : Cx Z p s m meth c R kx nx own nm code maxL ret)  (d : Dc code pc .aconst_null 1 pc') (H : G p l e R s m args below meth c Z.heap.size Q h k n pc' Ls (.null :: st)) : G p l e R s m args below meth c Z.heap.size Q h k n pc Ls st := by
  obtain ⟨hx, hZ, hown, rfl, hml, hret, hnm, -⟩ := cx
  obtain ⟨d, rfl⟩ := d
  intro T locs cells slots X N eT hk hn
  obtain ⟨s₂, o, st2, r⟩ := H T locs cells slots X N eT hk hn
  exact ⟨s₂, o, Jvm.Free.XS.aconstNull X.here hx rfl d  st2, r⟩
theorem g_iadd {kx nx : Nat} (cx : Cx Z p s m meth c R kx nx own nm code maxL ret) {x y : Int32} (d : Dc code pc .iadd 1 pc') (H : G p l e R s m args below meth c Z.heap.size Q h k n pc' Ls (.int (x + y) :: st)) : G p l e R s m args below meth c Z.heap.size Q h k n pc Ls (.int y :: .int x :: st) := by
  obtain ⟨hx, hZ, hown, rfl, hml, hret, hnm, -⟩ := cx
  obtain ⟨d, rfl⟩ := d
  intro T locs cells slots X N eT hk hn
  obtain ⟨s₂, o, st2, r⟩ := H T locs cells slots X N eT hk hn
  exact ⟨s₂, o, Jvm.Free.XS.iadd X.here hx rfl d rfl st2, r⟩
theorem g_ladd {kx nx : Nat} (cx : Cx Z p s m meth c R kx nx own nm code maxL ret) {x y : Int64} (d : Dc code pc .ladd 1 pc') (H : G p l e R s m args below meth c Z.heap.size Q h k n pc' Ls (.long (x + y) :: st)) : G p l e R s m args below meth c Z.heap.size Q h k n pc Ls (.long y :: .long x :: st) := by
  obtain ⟨hx, hZ, hown, rfl, hml, hret, hnm, -⟩ := cx
  obtain ⟨d, rfl⟩ := d
  intro T locs cells slots X N eT hk hn
  obtain ⟨s₂, o, st2, r⟩ := H T locs cells slots X N eT hk hn
  exact ⟨s₂, o, Jvm.Free.XS.ladd X.here hx rfl d rfl st2, r⟩
theorem g_isub {kx nx : Nat} (cx : Cx Z p s m meth c R kx nx own nm code maxL ret) {x y : Int32} (d : Dc code pc .isub 1 pc') (H : G p l e R s m args below meth c Z.heap.size Q h k n pc' Ls (.int (x - y) :: st)) : G p l e R s m args below meth c Z.heap.size Q h k n pc Ls (.int y :: .int x :: st) := by
  obtain ⟨hx, hZ, hown, rfl, hml, hret, hnm, -⟩ := cx
  obtain ⟨d, rfl⟩ := d
  intro T locs cells slots X N eT hk hn
  obtain ⟨s₂, o, st2, r⟩ := H T locs cells slots X N eT hk hn
  exact ⟨s₂, o, Jvm.Free.XS.isub X.here hx rfl d rfl st2, r⟩
theorem g_lsub {kx nx : Nat} (cx : Cx Z p s m meth c R kx nx own nm code maxL ret) {x y : Int64} (d : Dc code pc .lsub 1 pc') (H : G p l e R s m args below meth c Z.heap.size Q h k n pc' Ls (.long (x - y) :: st)) : G p l e R s m args below meth c Z.heap.size Q h k n pc Ls (.long y :: .long x :: st) := by
  obtain ⟨hx, hZ, hown, rfl, hml, hret, hnm, -⟩ := cx
  obtain ⟨d, rfl⟩ := d
  intro T locs cells slots X N eT hk hn
  obtain ⟨s₂, o, st2, r⟩ := H T locs cells slots X N eT hk hn
  exact ⟨s₂, o, Jvm.Free.XS.lsub X.here hx rfl d rfl st2, r⟩
theorem g_imul {kx nx : Nat} (cx : Cx Z p s m meth c R kx nx own nm code maxL ret) {x y : Int32} (d : Dc code pc .imul 1 pc') (H : G p l e R s m args below meth c Z.heap.size Q h k n pc' Ls (.int (x * y) :: st)) : G p l e R s m args below meth c Z.heap.size Q h k n pc Ls (.int y :: .int x :: st) := by
  obtain ⟨hx, hZ, hown, rfl, hml, hret, hnm, -⟩ := cx
  obtain ⟨d, rfl⟩ := d
  intro T locs cells slots X N eT hk hn
  obtain ⟨s₂, o, st2, r⟩ := H T locs cells slots X N eT hk hn
  exact ⟨s₂, o, Jvm.Free.XS.imul X.here hx rfl d rfl st2, r⟩
theorem g_lmul {kx nx : Nat} (cx : Cx Z p s m meth c R kx nx own nm code maxL ret) {x y : Int64} (d : Dc code pc .lmul 1 pc') (H : G p l e R s m args below meth c Z.heap.size Q h k n pc' Ls (.long (x * y) :: st)) : G p l e R s m args below meth c Z.heap.size Q h k n pc Ls (.long y :: .long x :: st) := by
  obtain ⟨hx, hZ, hown, rfl, hml, hret, hnm, -⟩ := cx
  obtain ⟨d, rfl⟩ := d
  intro T locs cells slots X N eT hk hn
  obtain ⟨s₂, o, st2, r⟩ := H T locs cells slots X N eT hk hn
  exact ⟨s₂, o, Jvm.Free.XS.lmul X.here hx rfl d rfl st2, r⟩
theorem g_iand {kx nx : Nat} (cx : Cx Z p s m meth c R kx nx own nm code maxL ret) {x y : Int32} (d : Dc code pc .iand 1 pc') (H : G p l e R s m args below meth c Z.heap.size Q h k n pc' Ls (.int (x &&& y) :: st)) : G p l e R s m args below meth c Z.heap.size Q h k n pc Ls (.int y :: .int x :: st) := by
  obtain ⟨hx, hZ, hown, rfl, hml, hret, hnm, -⟩ := cx
  obtain ⟨d, rfl⟩ := d
  intro T locs cells slots X N eT hk hn
  obtain ⟨s₂, o, st2, r⟩ := H T locs cells slots X N eT hk hn
  exact ⟨s₂, o, Jvm.Free.XS.iand X.here hx rfl d rfl st2, r⟩
theorem g_land {kx nx : Nat} (cx : Cx Z p s m meth c R kx nx own nm code maxL ret) {x y : Int64} (d : Dc code pc .land 1 pc') (H : G p l e R s m args below meth c Z.heap.size Q h k n pc' Ls (.long (x &&& y) :: st)) : G p l e R s m args below meth c Z.heap.size Q h k n pc Ls (.long y :: .long x :: st) := by
  obtain ⟨hx, hZ, hown, rfl, hml, hret, hnm, -⟩ := cx
  obtain ⟨d, rfl⟩ := d
  intro T locs cells slots X N eT hk hn
  obtain ⟨s₂, o, st2, r⟩ := H T locs cells slots X N eT hk hn
  exact ⟨s₂, o, Jvm.Free.XS.land X.here hx rfl d rfl st2, r⟩
theorem g_ior {kx nx : Nat} (cx : Cx Z p s m meth c R kx nx own nm code maxL ret) {x y : Int32} (d : Dc code pc .ior 1 pc') (H : G p l e R s m args below meth c Z.heap.size Q h k n pc' Ls (.int (x ||| y) :: st)) : G p l e R s m args below meth c Z.heap.size Q h k n pc Ls (.int y :: .int x :: st) := by
  obtain ⟨hx, hZ, hown, rfl, hml, hret, hnm, -⟩ := cx
  obtain ⟨d, rfl⟩ := d
  intro T locs cells slots X N eT hk hn
  obtain ⟨s₂, o, st2, r⟩ := H T locs cells slots X N eT hk hn
  exact ⟨s₂, o, Jvm.Free.XS.ior X.here hx rfl d rfl st2, r⟩
theorem g_lor {kx nx : Nat} (cx : Cx Z p s m meth c R kx nx own nm code maxL ret) {x y : Int64} (d : Dc code pc .lor 1 pc') (H : G p l e R s m args below meth c Z.heap.size Q h k n pc' Ls (.long (x ||| y) :: st)) : G p l e R s m args below meth c Z.heap.size Q h k n pc Ls (.long y :: .long x :: st) := by
  obtain ⟨hx, hZ, hown, rfl, hml, hret, hnm, -⟩ := cx
  obtain ⟨d, rfl⟩ := d
  intro T locs cells slots X N eT hk hn
  obtain ⟨s₂, o, st2, r⟩ := H T locs cells slots X N eT hk hn
  exact ⟨s₂, o, Jvm.Free.XS.lor X.here hx rfl d rfl st2, r⟩
theorem g_ixor {kx nx : Nat} (cx : Cx Z p s m meth c R kx nx own nm code maxL ret) {x y : Int32} (d : Dc code pc .ixor 1 pc') (H : G p l e R s m args below meth c Z.heap.size Q h k n pc' Ls (.int (x ^^^ y) :: st)) : G p l e R s m args below meth c Z.heap.size Q h k n pc Ls (.int y :: .int x :: st) := by
  obtain ⟨hx, hZ, hown, rfl, hml, hret, hnm, -⟩ := cx
  obtain ⟨d, rfl⟩ := d
  intro T locs cells slots X N eT hk hn
  obtain ⟨s₂, o, st2, r⟩ := H T locs cells slots X N eT hk hn
  exact ⟨s₂, o, Jvm.Free.XS.ixor X.here hx rfl d rfl st2, r⟩
theorem g_lxor {kx nx : Nat} (cx : Cx Z p s m meth c R kx nx own nm code maxL ret) {x y : Int64} (d : Dc code pc .lxor 1 pc') (H : G p l e R s m args below meth c Z.heap.size Q h k n pc' Ls (.long (x ^^^ y) :: st)) : G p l e R s m args below meth c Z.heap.size Q h k n pc Ls (.long y :: .long x :: st) := by
  obtain ⟨hx, hZ, hown, rfl, hml, hret, hnm, -⟩ := cx
  obtain ⟨d, rfl⟩ := d
  intro T locs cells slots X N eT hk hn
  obtain ⟨s₂, o, st2, r⟩ := H T locs cells slots X N eT hk hn
  exact ⟨s₂, o, Jvm.Free.XS.lxor X.here hx rfl d rfl st2, r⟩
theorem g_ishl {kx nx : Nat} (cx : Cx Z p s m meth c R kx nx own nm code maxL ret) {x : Int32} {y : Int32} (d : Dc code pc .ishl 1 pc') (H : G p l e R s m args below meth c Z.heap.size Q h k n pc' Ls (.int (x <<< (y &&& 31)) :: st)) : G p l e R s m args below meth c Z.heap.size Q h k n pc Ls (.int y :: .int x :: st) := by
  obtain ⟨hx, hZ, hown, rfl, hml, hret, hnm, -⟩ := cx
  obtain ⟨d, rfl⟩ := d
  intro T locs cells slots X N eT hk hn
  obtain ⟨s₂, o, st2, r⟩ := H T locs cells slots X N eT hk hn
  exact ⟨s₂, o, Jvm.Free.XS.ishl X.here hx rfl d rfl st2, r⟩
theorem g_ishr {kx nx : Nat} (cx : Cx Z p s m meth c R kx nx own nm code maxL ret) {x : Int32} {y : Int32} (d : Dc code pc .ishr 1 pc') (H : G p l e R s m args below meth c Z.heap.size Q h k n pc' Ls (.int (x >>> (y &&& 31)) :: st)) : G p l e R s m args below meth c Z.heap.size Q h k n pc Ls (.int y :: .int x :: st) := by
  obtain ⟨hx, hZ, hown, rfl, hml, hret, hnm, -⟩ := cx
  obtain ⟨d, rfl⟩ := d
  intro T locs cells slots X N eT hk hn
  obtain ⟨s₂, o, st2, r⟩ := H T locs cells slots X N eT hk hn
  exact ⟨s₂, o, Jvm.Free.XS.ishr X.here hx rfl d rfl st2, r⟩
theorem g_iushr {kx nx : Nat} (cx : Cx Z p s m meth c R kx nx own nm code maxL ret) {x : Int32} {y : Int32} (d : Dc code pc .iushr 1 pc') (H : G p l e R s m args below meth c Z.heap.size Q h k n pc' Ls (.int ((x.toUInt32 >>> (y &&& 31).toUInt32).toInt32) :: st)) : G p l e R s m args below meth c Z.heap.size Q h k n pc Ls (.int y :: .int x :: st) := by
  obtain ⟨hx, hZ, hown, rfl, hml, hret, hnm, -⟩ := cx
  obtain ⟨d, rfl⟩ := d
  intro T locs cells slots X N eT hk hn
  obtain ⟨s₂, o, st2, r⟩ := H T locs cells slots X N eT hk hn
  exact ⟨s₂, o, Jvm.Free.XS.iushr X.here hx rfl d rfl st2, r⟩
theorem g_lshl {kx nx : Nat} (cx : Cx Z p s m meth c R kx nx own nm code maxL ret) {x : Int64} {y : Int32} (d : Dc code pc .lshl 1 pc') (H : G p l e R s m args below meth c Z.heap.size Q h k n pc' Ls (.long (x <<< (y &&& 0x3f).toInt64) :: st)) : G p l e R s m args below meth c Z.heap.size Q h k n pc Ls (.int y :: .long x :: st) := by
  obtain ⟨hx, hZ, hown, rfl, hml, hret, hnm, -⟩ := cx
  obtain ⟨d, rfl⟩ := d
  intro T locs cells slots X N eT hk hn
  obtain ⟨s₂, o, st2, r⟩ := H T locs cells slots X N eT hk hn
  exact ⟨s₂, o, Jvm.Free.XS.lshl X.here hx rfl d rfl st2, r⟩
theorem g_lshr {kx nx : Nat} (cx : Cx Z p s m meth c R kx nx own nm code maxL ret) {x : Int64} {y : Int32} (d : Dc code pc .lshr 1 pc') (H : G p l e R s m args below meth c Z.heap.size Q h k n pc' Ls (.long (x >>> (y &&& 0x3f).toInt64) :: st)) : G p l e R s m args below meth c Z.heap.size Q h k n pc Ls (.int y :: .long x :: st) := by
  obtain ⟨hx, hZ, hown, rfl, hml, hret, hnm, -⟩ := cx
  obtain ⟨d, rfl⟩ := d
  intro T locs cells slots X N eT hk hn
  obtain ⟨s₂, o, st2, r⟩ := H T locs cells slots X N eT hk hn
  exact ⟨s₂, o, Jvm.Free.XS.lshr X.here hx rfl d rfl st2, r⟩
theorem g_lushr {kx nx : Nat} (cx : Cx Z p s m meth c R kx nx own nm code maxL ret) {x : Int64} {y : Int32} (d : Dc code pc .lushr 1 pc') (H : G p l e R s m args below meth c Z.heap.size Q h k n pc' Ls (.long ((x.toUInt64 >>> (y &&& 0x3f).toInt64.toUInt64).toInt64) :: st)) : G p l e R s m args below meth c Z.heap.size Q h k n pc Ls (.int y :: .long x :: st) := by
  obtain ⟨hx, hZ, hown, rfl, hml, hret, hnm, -⟩ := cx
  obtain ⟨d, rfl⟩ := d
  intro T locs cells slots X N eT hk hn
  obtain ⟨s₂, o, st2, r⟩ := H T locs cells slots X N eT hk hn
  exact ⟨s₂, o, Jvm.Free.XS.lushr X.here hx rfl d rfl st2, r⟩
theorem g_ineg {kx nx : Nat} (cx : Cx Z p s m meth c R kx nx own nm code maxL ret) {x : Int32} (d : Dc code pc .ineg 1 pc') (H : G p l e R s m args below meth c Z.heap.size Q h k n pc' Ls (.int (-x) :: st)) : G p l e R s m args below meth c Z.heap.size Q h k n pc Ls (.int x :: st) := by
  obtain ⟨hx, hZ, hown, rfl, hml, hret, hnm, -⟩ := cx
  obtain ⟨d, rfl⟩ := d
  intro T locs cells slots X N eT hk hn
  obtain ⟨s₂, o, st2, r⟩ := H T locs cells slots X N eT hk hn
  exact ⟨s₂, o, Jvm.Free.XS.ineg X.here hx rfl d rfl st2, r⟩
theorem g_lneg {kx nx : Nat} (cx : Cx Z p s m meth c R kx nx own nm code maxL ret) {x : Int64} (d : Dc code pc .lneg 1 pc') (H : G p l e R s m args below meth c Z.heap.size Q h k n pc' Ls (.long (-x) :: st)) : G p l e R s m args below meth c Z.heap.size Q h k n pc Ls (.long x :: st) := by
  obtain ⟨hx, hZ, hown, rfl, hml, hret, hnm, -⟩ := cx
  obtain ⟨d, rfl⟩ := d
  intro T locs cells slots X N eT hk hn
  obtain ⟨s₂, o, st2, r⟩ := H T locs cells slots X N eT hk hn
  exact ⟨s₂, o, Jvm.Free.XS.lneg X.here hx rfl d rfl st2, r⟩
theorem g_i2l {kx nx : Nat} (cx : Cx Z p s m meth c R kx nx own nm code maxL ret) {x : Int32} (d : Dc code pc .i2l 1 pc') (H : G p l e R s m args below meth c Z.heap.size Q h k n pc' Ls (.long (x.toInt64) :: st)) : G p l e R s m args below meth c Z.heap.size Q h k n pc Ls (.int x :: st) := by
  obtain ⟨hx, hZ, hown, rfl, hml, hret, hnm, -⟩ := cx
  obtain ⟨d, rfl⟩ := d
  intro T locs cells slots X N eT hk hn
  obtain ⟨s₂, o, st2, r⟩ := H T locs cells slots X N eT hk hn
  exact ⟨s₂, o, Jvm.Free.XS.i2l X.here hx rfl d rfl st2, r⟩
theorem g_l2i {kx nx : Nat} (cx : Cx Z p s m meth c R kx nx own nm code maxL ret) {x : Int64} (d : Dc code pc .l2i 1 pc') (H : G p l e R s m args below meth c Z.heap.size Q h k n pc' Ls (.int (x.toInt32) :: st)) : G p l e R s m args below meth c Z.heap.size Q h k n pc Ls (.long x :: st) := by
  obtain ⟨hx, hZ, hown, rfl, hml, hret, hnm, -⟩ := cx
  obtain ⟨d, rfl⟩ := d
  intro T locs cells slots X N eT hk hn
  obtain ⟨s₂, o, st2, r⟩ := H T locs cells slots X N eT hk hn
  exact ⟨s₂, o, Jvm.Free.XS.l2i X.here hx rfl d rfl st2, r⟩
theorem g_i2b {kx nx : Nat} (cx : Cx Z p s m meth c R kx nx own nm code maxL ret) {x : Int32} (d : Dc code pc .i2b 1 pc') (H : G p l e R s m args below meth c Z.heap.size Q h k n pc' Ls (.int (x.toInt8.toInt32) :: st)) : G p l e R s m args below meth c Z.heap.size Q h k n pc Ls (.int x :: st) := by
  obtain ⟨hx, hZ, hown, rfl, hml, hret, hnm, -⟩ := cx
  obtain ⟨d, rfl⟩ := d
  intro T locs cells slots X N eT hk hn
  obtain ⟨s₂, o, st2, r⟩ := H T locs cells slots X N eT hk hn
  exact ⟨s₂, o, Jvm.Free.XS.i2b X.here hx rfl d rfl st2, r⟩
theorem g_i2s {kx nx : Nat} (cx : Cx Z p s m meth c R kx nx own nm code maxL ret) {x : Int32} (d : Dc code pc .i2s 1 pc') (H : G p l e R s m args below meth c Z.heap.size Q h k n pc' Ls (.int (x.toInt16.toInt32) :: st)) : G p l e R s m args below meth c Z.heap.size Q h k n pc Ls (.int x :: st) := by
  obtain ⟨hx, hZ, hown, rfl, hml, hret, hnm, -⟩ := cx
  obtain ⟨d, rfl⟩ := d
  intro T locs cells slots X N eT hk hn
  obtain ⟨s₂, o, st2, r⟩ := H T locs cells slots X N eT hk hn
  exact ⟨s₂, o, Jvm.Free.XS.i2s X.here hx rfl d rfl st2, r⟩
theorem g_i2c {kx nx : Nat} (cx : Cx Z p s m meth c R kx nx own nm code maxL ret) {x : Int32} (d : Dc code pc .i2c 1 pc') (H : G p l e R s m args below meth c Z.heap.size Q h k n pc' Ls (.int (x.toUInt32.toUInt16.toUInt32.toInt32) :: st)) : G p l e R s m args below meth c Z.heap.size Q h k n pc Ls (.int x :: st) := by
  obtain ⟨hx, hZ, hown, rfl, hml, hret, hnm, -⟩ := cx
  obtain ⟨d, rfl⟩ := d
  intro T locs cells slots X N eT hk hn
  obtain ⟨s₂, o, st2, r⟩ := H T locs cells slots X N eT hk hn
  exact ⟨s₂, o, Jvm.Free.XS.i2c X.here hx rfl d rfl st2, r⟩
theorem g_idiv {kx nx : Nat} (cx : Cx Z p s m meth c R kx nx own nm code maxL ret) {x y : Int32} (d : Dc code pc .idiv 1 pc') (hy : y ≠ 0) (H : G p l e R s m args below meth c Z.heap.size Q h k n pc' Ls (.int (x / y) :: st)) : G p l e R s m args below meth c Z.heap.size Q h k n pc Ls (.int y :: .int x :: st) := by
  obtain ⟨hx, hZ, hown, rfl, hml, hret, hnm, -⟩ := cx
  obtain ⟨d, rfl⟩ := d
  intro T locs cells slots X N eT hk hn
  obtain ⟨s₂, o, st2, r⟩ := H T locs cells slots X N eT hk hn
  exact ⟨s₂, o, Jvm.Free.XS.idiv X.here hx rfl d rfl hy st2, r⟩
theorem g_ldiv {kx nx : Nat} (cx : Cx Z p s m meth c R kx nx own nm code maxL ret) {x y : Int64} (d : Dc code pc .ldiv 1 pc') (hy : y ≠ 0) (H : G p l e R s m args below meth c Z.heap.size Q h k n pc' Ls (.long (x / y) :: st)) : G p l e R s m args below meth c Z.heap.size Q h k n pc Ls (.long y :: .long x :: st) := by
  obtain ⟨hx, hZ, hown, rfl, hml, hret, hnm, -⟩ := cx
  obtain ⟨d, rfl⟩ := d
  intro T locs cells slots X N eT hk hn
  obtain ⟨s₂, o, st2, r⟩ := H T locs cells slots X N eT hk hn
  exact ⟨s₂, o, Jvm.Free.XS.ldiv X.here hx rfl d rfl hy st2, r⟩
theorem g_irem {kx nx : Nat} (cx : Cx Z p s m meth c R kx nx own nm code maxL ret) {x y : Int32} (d : Dc code pc .irem 1 pc') (hy : y ≠ 0) (H : G p l e R s m args below meth c Z.heap.size Q h k n pc' Ls (.int (x % y) :: st)) : G p l e R s m args below meth c Z.heap.size Q h k n pc Ls (.int y :: .int x :: st) := by
  obtain ⟨hx, hZ, hown, rfl, hml, hret, hnm, -⟩ := cx
  obtain ⟨d, rfl⟩ := d
  intro T locs cells slots X N eT hk hn
  obtain ⟨s₂, o, st2, r⟩ := H T locs cells slots X N eT hk hn
  exact ⟨s₂, o, Jvm.Free.XS.irem X.here hx rfl d rfl hy (by rw [irem_eq_mod]; exact st2), r⟩
theorem g_lrem {kx nx : Nat} (cx : Cx Z p s m meth c R kx nx own nm code maxL ret) {x y : Int64} (d : Dc code pc .lrem 1 pc') (hy : y ≠ 0) (H : G p l e R s m args below meth c Z.heap.size Q h k n pc' Ls (.long (x % y) :: st)) : G p l e R s m args below meth c Z.heap.size Q h k n pc Ls (.long y :: .long x :: st) := by
  obtain ⟨hx, hZ, hown, rfl, hml, hret, hnm, -⟩ := cx
  obtain ⟨d, rfl⟩ := d
  intro T locs cells slots X N eT hk hn
  obtain ⟨s₂, o, st2, r⟩ := H T locs cells slots X N eT hk hn
  exact ⟨s₂, o, Jvm.Free.XS.lrem X.here hx rfl d rfl hy (by rw [lrem_mod]; exact st2), r⟩
theorem g_iinc {kx nx : Nat} (cx : Cx Z p s m meth c R kx nx own nm code maxL ret) {i : Nat} {z : Int} {x v : Int32} {Ls' : Array Slot} (d : Dc code pc (.iinc i z) 3 pc') (hl : Ls[i]? = some (.val (.int x))) (hv : Int32.ofInt z = v) (hl' : storeLocals Ls i (.int (x + v)) = some Ls') (H : G p l e R s m args below meth c Z.heap.size Q h k n pc' Ls' st) : G p l e R s m args below meth c Z.heap.size Q h k n pc Ls st := by
  obtain ⟨hx, hZ, hown, rfl, hml, hret, hnm, -⟩ := cx
  obtain ⟨d, rfl⟩ := d
  intro T locs cells slots X N eT hk hn
  obtain ⟨s₂, o, st2, r⟩ := H T locs cells slots X N eT hk hn
  exact ⟨s₂, o, Jvm.Free.XS.iinc X.here hx rfl d hl (by rw [hv]; exact hl') st2, r⟩
theorem g_dup {kx nx : Nat} (cx : Cx Z p s m meth c R kx nx own nm code maxL ret) {v : Value} (d : Dc code pc .dup 1 pc') (hc : v.category = 1) (H : G p l e R s m args below meth c Z.heap.size Q h k n pc' Ls (v :: v :: st)) : G p l e R s m args below meth c Z.heap.size Q h k n pc Ls (v :: st) := by
  obtain ⟨hx, hZ, hown, rfl, hml, hret, hnm, -⟩ := cx
  obtain ⟨d, rfl⟩ := d
  intro T locs cells slots X N eT hk hn
  obtain ⟨s₂, o, st2, r⟩ := H T locs cells slots X N eT hk hn
  exact ⟨s₂, o, Jvm.Free.XS.dup X.here hx rfl d rfl hc st2, r⟩
theorem g_pop {kx nx : Nat} (cx : Cx Z p s m meth c R kx nx own nm code maxL ret) {v : Value} (d : Dc code pc .pop 1 pc') (hc : v.category = 1) (H : G p l e R s m args below meth c Z.heap.size Q h k n pc' Ls st) : G p l e R s m args below meth c Z.heap.size Q h k n pc Ls (v :: st) := by
  obtain ⟨hx, hZ, hown, rfl, hml, hret, hnm, -⟩ := cx
  obtain ⟨d, rfl⟩ := d
  intro T locs cells slots X N eT hk hn
  obtain ⟨s₂, o, st2, r⟩ := H T locs cells slots X N eT hk hn
  exact ⟨s₂, o, Jvm.Free.XS.pop X.here hx rfl d rfl hc st2, r⟩
theorem g_dup_x1 {kx nx : Nat} (cx : Cx Z p s m meth c R kx nx own nm code maxL ret) {v w : Value} (d : Dc code pc .dup_x1 1 pc') (hc : v.category = 1) (hc2 : w.category = 1) (H : G p l e R s m args below meth c Z.heap.size Q h k n pc' Ls (v :: w :: v :: st)) : G p l e R s m args below meth c Z.heap.size Q h k n pc Ls (v :: w :: st) := by
  obtain ⟨hx, hZ, hown, rfl, hml, hret, hnm, -⟩ := cx
  obtain ⟨d, rfl⟩ := d
  intro T locs cells slots X N eT hk hn
  obtain ⟨s₂, o, st2, r⟩ := H T locs cells slots X N eT hk hn
  exact ⟨s₂, o, Jvm.Free.XS.dupX1 X.here hx rfl d rfl hc hc2 st2, r⟩
theorem g_dup2 {kx nx : Nat} (cx : Cx Z p s m meth c R kx nx own nm code maxL ret) {v w : Value} (d : Dc code pc .dup2 1 pc') (hc : v.category = 1) (hc2 : w.category = 1) (H : G p l e R s m args below meth c Z.heap.size Q h k n pc' Ls (v :: w :: v :: w :: st)) : G p l e R s m args below meth c Z.heap.size Q h k n pc Ls (v :: w :: st) := by
  obtain ⟨hx, hZ, hown, rfl, hml, hret, hnm, -⟩ := cx
  obtain ⟨d, rfl⟩ := d
  intro T locs cells slots X N eT hk hn
  obtain ⟨s₂, o, st2, r⟩ := H T locs cells slots X N eT hk hn
  exact ⟨s₂, o, Jvm.Free.XT.dup2 X.here hx rfl d rfl hc hc2 st2, r⟩
theorem g_dup2L {kx nx : Nat} (cx : Cx Z p s m meth c R kx nx own nm code maxL ret) {v : Int64} (d : Dc code pc .dup2 1 pc') (H : G p l e R s m args below meth c Z.heap.size Q h k n pc' Ls (.long v :: .long v :: st)) : G p l e R s m args below meth c Z.heap.size Q h k n pc Ls (.long v :: st) := by
  obtain ⟨hx, hZ, hown, rfl, hml, hret, hnm, -⟩ := cx
  obtain ⟨d, rfl⟩ := d
  intro T locs cells slots X N eT hk hn
  obtain ⟨s₂, o, st2, r⟩ := H T locs cells slots X N eT hk hn
  exact ⟨s₂, o, Jvm.Free.XT.dup2L X.here hx rfl d rfl st2, r⟩
theorem g_goto {kx nx : Nat} (cx : Cx Z p s m meth c R kx nx own nm code maxL ret) (d : Bi code pc Instr.goto pcY pcN) (H : G p l e R s m args below meth c Z.heap.size Q h k n pcY Ls st) : G p l e R s m args below meth c Z.heap.size Q h k n pc Ls st := by
  obtain ⟨hx, hZ, hown, rfl, hml, hret, hnm, -⟩ := cx
  obtain ⟨o', d, ho, rfl, rfl⟩ := d
  intro T locs cells slots X N eT hk hn
  obtain ⟨s₂, o, st2, r⟩ := H T locs cells slots X N eT hk hn
  exact ⟨s₂, o, Jvm.Free.XS.goto X.here hx rfl (pc0 := pc) rfl d ho rfl st2, r⟩
theorem g_ifB {kx nx : Nat} (cx : Cx Z p s m meth c R kx nx own nm code maxL ret) {cd : ClassFile.Cond} {x : Int32} (d : Bi code pc (Instr.ifCond cd) pcY pcN) (HY : if_icmp.holds cd x 0 = true → G p l e R s m args below meth c Z.heap.size Q h k n pcY Ls st) (HN : if_icmp.holds cd x 0 = false → G p l e R s m args below meth c Z.heap.size Q h k n pcN Ls st) : G p l e R s m args below meth c Z.heap.size Q h k n pc Ls (.int x :: st) := by
  obtain ⟨hx, hZ, hown, rfl, hml, hret, hnm, -⟩ := cx
  obtain ⟨o', d, ho, rfl, rfl⟩ := d
  intro T locs cells slots X N eT hk hn
  cases hc : if_icmp.holds cd x 0
  · obtain ⟨s₂, o, st2, r⟩ := HN hc T locs cells slots X N eT hk hn
    exact ⟨s₂, o, Jvm.Free.XS.ifNo X.here hx rfl d rfl ((if0 _ _).trans hc) st2, r⟩
  · obtain ⟨s₂, o, st2, r⟩ := HY hc T locs cells slots X N eT hk hn
    exact ⟨s₂, o, Jvm.Free.XS.ifYes X.here hx rfl (pc0 := pc) rfl d rfl ((if0 _ _).trans hc) ho rfl st2, r⟩
theorem g_icmpB {kx nx : Nat} (cx : Cx Z p s m meth c R kx nx own nm code maxL ret) {cd : ClassFile.Cond} {x y : Int32} (d : Bi code pc (Instr.if_icmp cd) pcY pcN) (HY : if_icmp.holds cd x y = true → G p l e R s m args below meth c Z.heap.size Q h k n pcY Ls st) (HN : if_icmp.holds cd x y = false → G p l e R s m args below meth c Z.heap.size Q h k n pcN Ls st) : G p l e R s m args below meth c Z.heap.size Q h k n pc Ls (.int y :: .int x :: st) := by
  obtain ⟨hx, hZ, hown, rfl, hml, hret, hnm, -⟩ := cx
  obtain ⟨o', d, ho, rfl, rfl⟩ := d
  intro T locs cells slots X N eT hk hn
  cases hc : if_icmp.holds cd x y
  · obtain ⟨s₂, o, st2, r⟩ := HN hc T locs cells slots X N eT hk hn
    exact ⟨s₂, o, Jvm.Free.XS.icmpNo X.here hx rfl d rfl hc st2, r⟩
  · obtain ⟨s₂, o, st2, r⟩ := HY hc T locs cells slots X N eT hk hn
    exact ⟨s₂, o, Jvm.Free.XS.icmpYes X.here hx rfl (pc0 := pc) rfl d rfl hc ho rfl st2, r⟩
theorem h_eq {x y : Int32} : if_icmp.holds .eq x y = decide (x = y) := by by_cases h : x = y <;> simp [if_icmp.holds, h]
theorem h_ne {x y : Int32} : if_icmp.holds .ne x y = !decide (x = y) := by by_cases h : x = y <;> simp [if_icmp.holds, h]
theorem h_lt {x y : Int32} : if_icmp.holds .lt x y = decide (x < y) := by by_cases h : x < y <;> simp [if_icmp.holds, h]
theorem h_ge {x y : Int32} : if_icmp.holds .ge x y = !decide (x < y) := by by_cases h : x < y <;> simp [if_icmp.holds, h, Int32.not_le.mpr, Int32.not_lt.mp]
theorem h_gt {x y : Int32} : if_icmp.holds .gt x y = decide (y < x) := by by_cases h : y < x <;> simp [if_icmp.holds, h]
theorem h_le {x y : Int32} : if_icmp.holds .le x y = !decide (y < x) := by by_cases h : y < x <;> simp [if_icmp.holds, h, Int32.not_le.mpr, Int32.not_lt.mp]
theorem g_if_eq {kx nx : Nat} (cx : Cx Z p s m meth c R kx nx own nm code maxL ret) {x : Int32} (d : Bi code pc (Instr.ifCond .eq) pcY pcN) (HY : x = 0 → G p l e R s m args below meth c Z.heap.size Q h k n pcY Ls st) (HN : ¬ x = 0 → G p l e R s m args below meth c Z.heap.size Q h k n pcN Ls st) : G p l e R s m args below meth c Z.heap.size Q h k n pc Ls (.int x :: st) :=
  g_ifB cx d (fun q => HY (by rw [h_eq] at q; simpa using q)) (fun q => HN (by rw [h_eq] at q; simpa using q))
theorem g_icmp_eq {kx nx : Nat} (cx : Cx Z p s m meth c R kx nx own nm code maxL ret) {x y : Int32} (d : Bi code pc (Instr.if_icmp .eq) pcY pcN) (HY : x = y → G p l e R s m args below meth c Z.heap.size Q h k n pcY Ls st) (HN : ¬ x = y → G p l e R s m args below meth c Z.heap.size Q h k n pcN Ls st) : G p l e R s m args below meth c Z.heap.size Q h k n pc Ls (.int y :: .int x :: st) :=
  g_icmpB cx d (fun q => HY (by rw [h_eq] at q; simpa using q)) (fun q => HN (by rw [h_eq] at q; simpa using q))
theorem g_if_ne {kx nx : Nat} (cx : Cx Z p s m meth c R kx nx own nm code maxL ret) {x : Int32} (d : Bi code pc (Instr.ifCond .ne) pcY pcN) (HY : ¬ x = 0 → G p l e R s m args below meth c Z.heap.size Q h k n pcY Ls st) (HN : x = 0 → G p l e R s m args below meth c Z.heap.size Q h k n pcN Ls st) : G p l e R s m args below meth c Z.heap.size Q h k n pc Ls (.int x :: st) :=
  g_ifB cx d (fun q => HY (by rw [h_ne] at q; simpa using q)) (fun q => HN (by rw [h_ne] at q; simpa using q))
theorem g_icmp_ne {kx nx : Nat} (cx : Cx Z p s m meth c R kx nx own nm code maxL ret) {x y : Int32} (d : Bi code pc (Instr.if_icmp .ne) pcY pcN) (HY : ¬ x = y → G p l e R s m args below meth c Z.heap.size Q h k n pcY Ls st) (HN : x = y → G p l e R s m args below meth c Z.heap.size Q h k n pcN Ls st) : G p l e R s m args below meth c Z.heap.size Q h k n pc Ls (.int y :: .int x :: st) :=
  g_icmpB cx d (fun q => HY (by rw [h_ne] at q; simpa using q)) (fun q => HN (by rw [h_ne] at q; simpa using q))
theorem g_if_lt {kx nx : Nat} (cx : Cx Z p s m meth c R kx nx own nm code maxL ret) {x : Int32} (d : Bi code pc (Instr.ifCond .lt) pcY pcN) (HY : x < 0 → G p l e R s m args below meth c Z.heap.size Q h k n pcY Ls st) (HN : ¬ x < 0 → G p l e R s m args below meth c Z.heap.size Q h k n pcN Ls st) : G p l e R s m args below meth c Z.heap.size Q h k n pc Ls (.int x :: st) :=
  g_ifB cx d (fun q => HY (by rw [h_lt] at q; simpa using q)) (fun q => HN (by rw [h_lt] at q; simpa using q))
theorem g_icmp_lt {kx nx : Nat} (cx : Cx Z p s m meth c R kx nx own nm code maxL ret) {x y : Int32} (d : Bi code pc (Instr.if_icmp .lt) pcY pcN) (HY : x < y → G p l e R s m args below meth c Z.heap.size Q h k n pcY Ls st) (HN : ¬ x < y → G p l e R s m args below meth c Z.heap.size Q h k n pcN Ls st) : G p l e R s m args below meth c Z.heap.size Q h k n pc Ls (.int y :: .int x :: st) :=
  g_icmpB cx d (fun q => HY (by rw [h_lt] at q; simpa using q)) (fun q => HN (by rw [h_lt] at q; simpa using q))
theorem g_if_ge {kx nx : Nat} (cx : Cx Z p s m meth c R kx nx own nm code maxL ret) {x : Int32} (d : Bi code pc (Instr.ifCond .ge) pcY pcN) (HY : ¬ x < 0 → G p l e R s m args below meth c Z.heap.size Q h k n pcY Ls st) (HN : x < 0 → G p l e R s m args below meth c Z.heap.size Q h k n pcN Ls st) : G p l e R s m args below meth c Z.heap.size Q h k n pc Ls (.int x :: st) :=
  g_ifB cx d (fun q => HY (by rw [h_ge] at q; simpa using q)) (fun q => HN (by rw [h_ge] at q; simpa using q))
theorem g_icmp_ge {kx nx : Nat} (cx : Cx Z p s m meth c R kx nx own nm code maxL ret) {x y : Int32} (d : Bi code pc (Instr.if_icmp .ge) pcY pcN) (HY : ¬ x < y → G p l e R s m args below meth c Z.heap.size Q h k n pcY Ls st) (HN : x < y → G p l e R s m args below meth c Z.heap.size Q h k n pcN Ls st) : G p l e R s m args below meth c Z.heap.size Q h k n pc Ls (.int y :: .int x :: st) :=
  g_icmpB cx d (fun q => HY (by rw [h_ge] at q; simpa using q)) (fun q => HN (by rw [h_ge] at q; simpa using q))
theorem g_if_gt {kx nx : Nat} (cx : Cx Z p s m meth c R kx nx own nm code maxL ret) {x : Int32} (d : Bi code pc (Instr.ifCond .gt) pcY pcN) (HY : 0 < x → G p l e R s m args below meth c Z.heap.size Q h k n pcY Ls st) (HN : ¬ 0 < x → G p l e R s m args below meth c Z.heap.size Q h k n pcN Ls st) : G p l e R s m args below meth c Z.heap.size Q h k n pc Ls (.int x :: st) :=
  g_ifB cx d (fun q => HY (by rw [h_gt] at q; simpa using q)) (fun q => HN (by rw [h_gt] at q; simpa using q))
theorem g_icmp_gt {kx nx : Nat} (cx : Cx Z p s m meth c R kx nx own nm code maxL ret) {x y : Int32} (d : Bi code pc (Instr.if_icmp .gt) pcY pcN) (HY : y < x → G p l e R s m args below meth c Z.heap.size Q h k n pcY Ls st) (HN : ¬ y < x → G p l e R s m args below meth c Z.heap.size Q h k n pcN Ls st) : G p l e R s m args below meth c Z.heap.size Q h k n pc Ls (.int y :: .int x :: st) :=
  g_icmpB cx d (fun q => HY (by rw [h_gt] at q; simpa using q)) (fun q => HN (by rw [h_gt] at q; simpa using q))
theorem g_if_le {kx nx : Nat} (cx : Cx Z p s m meth c R kx nx own nm code maxL ret) {x : Int32} (d : Bi code pc (Instr.ifCond .le) pcY pcN) (HY : ¬ 0 < x → G p l e R s m args below meth c Z.heap.size Q h k n pcY Ls st) (HN : 0 < x → G p l e R s m args below meth c Z.heap.size Q h k n pcN Ls st) : G p l e R s m args below meth c Z.heap.size Q h k n pc Ls (.int x :: st) :=
  g_ifB cx d (fun q => HY (by rw [h_le] at q; simpa using q)) (fun q => HN (by rw [h_le] at q; simpa using q))
theorem g_icmp_le {kx nx : Nat} (cx : Cx Z p s m meth c R kx nx own nm code maxL ret) {x y : Int32} (d : Bi code pc (Instr.if_icmp .le) pcY pcN) (HY : ¬ y < x → G p l e R s m args below meth c Z.heap.size Q h k n pcY Ls st) (HN : y < x → G p l e R s m args below meth c Z.heap.size Q h k n pcN Ls st) : G p l e R s m args below meth c Z.heap.size Q h k n pc Ls (.int y :: .int x :: st) :=
  g_icmpB cx d (fun q => HY (by rw [h_le] at q; simpa using q)) (fun q => HN (by rw [h_le] at q; simpa using q))
theorem g_lcmp {kx nx : Nat} (cx : Cx Z p s m meth c R kx nx own nm code maxL ret) {x y : Int64} (d : Dc code pc .lcmp 1 pc') (H : G p l e R s m args below meth c Z.heap.size Q h k n pc' Ls (.int (lcmpW x y) :: st)) : G p l e R s m args below meth c Z.heap.size Q h k n pc Ls (.long y :: .long x :: st) := by
  obtain ⟨hx, hZ, hown, rfl, hml, hret, hnm, -⟩ := cx
  obtain ⟨d, rfl⟩ := d
  intro T locs cells slots X N eT hk hn
  obtain ⟨s₂, o, st2, r⟩ := H T locs cells slots X N eT hk hn
  exact ⟨s₂, o, Jvm.Free.XS.lcmp X.here hx rfl d rfl st2, r⟩
theorem g_lif_eq {kx nx : Nat} (cx : Cx Z p s m meth c R kx nx own nm code maxL ret) {x y : Int64} (d0 : Dc code pc .lcmp 1 pc') (d : Bi code pc' (Instr.ifCond .eq) pcY pcN) (HY : x = y → G p l e R s m args below meth c Z.heap.size Q h k n pcY Ls st) (HN : ¬ x = y → G p l e R s m args below meth c Z.heap.size Q h k n pcN Ls st) : G p l e R s m args below meth c Z.heap.size Q h k n pc Ls (.long y :: .long x :: st) :=
  g_lcmp cx d0 (g_if_eq cx d (fun q => HY ((lw_eq x y).mp q)) (fun q => HN (fun z => q ((lw_eq x y).mpr z))))
theorem g_lif_ne {kx nx : Nat} (cx : Cx Z p s m meth c R kx nx own nm code maxL ret) {x y : Int64} (d0 : Dc code pc .lcmp 1 pc') (d : Bi code pc' (Instr.ifCond .ne) pcY pcN) (HY : ¬ x = y → G p l e R s m args below meth c Z.heap.size Q h k n pcY Ls st) (HN : x = y → G p l e R s m args below meth c Z.heap.size Q h k n pcN Ls st) : G p l e R s m args below meth c Z.heap.size Q h k n pc Ls (.long y :: .long x :: st) :=
  g_lcmp cx d0 (g_if_ne cx d (fun q => HY (fun z => q ((lw_eq x y).mpr z))) (fun q => HN ((lw_eq x y).mp q)))
theorem g_lif_lt {kx nx : Nat} (cx : Cx Z p s m meth c R kx nx own nm code maxL ret) {x y : Int64} (d0 : Dc code pc .lcmp 1 pc') (d : Bi code pc' (Instr.ifCond .lt) pcY pcN) (HY : x < y → G p l e R s m args below meth c Z.heap.size Q h k n pcY Ls st) (HN : ¬ x < y → G p l e R s m args below meth c Z.heap.size Q h k n pcN Ls st) : G p l e R s m args below meth c Z.heap.size Q h k n pc Ls (.long y :: .long x :: st) :=
  g_lcmp cx d0 (g_if_lt cx d (fun q => HY ((lw_lt x y).mp q)) (fun q => HN (fun z => q ((lw_lt x y).mpr z))))
theorem g_lif_ge {kx nx : Nat} (cx : Cx Z p s m meth c R kx nx own nm code maxL ret) {x y : Int64} (d0 : Dc code pc .lcmp 1 pc') (d : Bi code pc' (Instr.ifCond .ge) pcY pcN) (HY : ¬ x < y → G p l e R s m args below meth c Z.heap.size Q h k n pcY Ls st) (HN : x < y → G p l e R s m args below meth c Z.heap.size Q h k n pcN Ls st) : G p l e R s m args below meth c Z.heap.size Q h k n pc Ls (.long y :: .long x :: st) :=
  g_lcmp cx d0 (g_if_ge cx d (fun q => HY (fun z => q ((lw_lt x y).mpr z))) (fun q => HN ((lw_lt x y).mp q)))
theorem g_lif_gt {kx nx : Nat} (cx : Cx Z p s m meth c R kx nx own nm code maxL ret) {x y : Int64} (d0 : Dc code pc .lcmp 1 pc') (d : Bi code pc' (Instr.ifCond .gt) pcY pcN) (HY : y < x → G p l e R s m args below meth c Z.heap.size Q h k n pcY Ls st) (HN : ¬ y < x → G p l e R s m args below meth c Z.heap.size Q h k n pcN Ls st) : G p l e R s m args below meth c Z.heap.size Q h k n pc Ls (.long y :: .long x :: st) :=
  g_lcmp cx d0 (g_if_gt cx d (fun q => HY ((lw_gt x y).mp q)) (fun q => HN (fun z => q ((lw_gt x y).mpr z))))
theorem g_lif_le {kx nx : Nat} (cx : Cx Z p s m meth c R kx nx own nm code maxL ret) {x y : Int64} (d0 : Dc code pc .lcmp 1 pc') (d : Bi code pc' (Instr.ifCond .le) pcY pcN) (HY : ¬ y < x → G p l e R s m args below meth c Z.heap.size Q h k n pcY Ls st) (HN : y < x → G p l e R s m args below meth c Z.heap.size Q h k n pcN Ls st) : G p l e R s m args below meth c Z.heap.size Q h k n pc Ls (.long y :: .long x :: st) :=
  g_lcmp cx d0 (g_if_le cx d (fun q => HY (fun z => q ((lw_gt x y).mpr z))) (fun q => HN ((lw_gt x y).mp q)))
theorem g_acmp {kx nx : Nat} (cx : Cx Z p s m meth c R kx nx own nm code maxL ret) {cd : ACond} {x y : Value} (h1 : x.isRef = true) (h2 : y.isRef = true) (d : Bi code pc (Instr.if_acmp cd) pcY pcN) (HY : x = y → G p l e R s m args below meth c Z.heap.size Q h k n (if acV cd true = true then pcY else pcN) Ls st) (HN : ¬ x = y → G p l e R s m args below meth c Z.heap.size Q h k n (if acV cd false = true then pcY else pcN) Ls st) : G p l e R s m args below meth c Z.heap.size Q h k n pc Ls (y :: x :: st) := by
  obtain ⟨hx, hZ, hown, rfl, hml, hret, hnm, -⟩ := cx
  obtain ⟨o', d, ho, rfl, rfl⟩ := d
  intro T locs cells slots X N eT hk hn
  by_cases hc : x = y
  · obtain ⟨s₂, o, st2, r⟩ := HY hc T locs cells slots X N eT hk hn
    exact ⟨s₂, o, Jvm.RoadKit.acmp (g := mkF m pc Ls (y :: x :: st)) X hx rfl h1 h2 (pc0 := pc) (same := true) rfl d rfl (decide_eq_true hc) ho rfl st2, r⟩
  · obtain ⟨s₂, o, st2, r⟩ := HN hc T locs cells slots X N eT hk hn
    exact ⟨s₂, o, Jvm.RoadKit.acmp (g := mkF m pc Ls (y :: x :: st)) X hx rfl h1 h2 (pc0 := pc) (same := false) rfl d rfl (decide_eq_false hc) ho rfl st2, r⟩
theorem g_acmp_eq {kx nx : Nat} (cx : Cx Z p s m meth c R kx nx own nm code maxL ret) {x y : Value} (h1 : x.isRef = true) (h2 : y.isRef = true) (d : Bi code pc (Instr.if_acmp .eq) pcY pcN) (HY : x = y → G p l e R s m args below meth c Z.heap.size Q h k n pcY Ls st) (HN : ¬ x = y → G p l e R s m args below meth c Z.heap.size Q h k n pcN Ls st) : G p l e R s m args below meth c Z.heap.size Q h k n pc Ls (y :: x :: st) := g_acmp cx h1 h2 d HY HN
theorem g_acmp_ne {kx nx : Nat} (cx : Cx Z p s m meth c R kx nx own nm code maxL ret) {x y : Value} (h1 : x.isRef = true) (h2 : y.isRef = true) (d : Bi code pc (Instr.if_acmp .ne) pcY pcN) (HY : ¬ x = y → G p l e R s m args below meth c Z.heap.size Q h k n pcY Ls st) (HN : x = y → G p l e R s m args below meth c Z.heap.size Q h k n pcN Ls st) : G p l e R s m args below meth c Z.heap.size Q h k n pc Ls (y :: x :: st) := g_acmp cx h1 h2 d HN HY
theorem g_ifnull_null {kx nx : Nat} (cx : Cx Z p s m meth c R kx nx own nm code maxL ret) (d : Bi code pc Instr.ifnull pcY pcN) (H : G p l e R s m args below meth c Z.heap.size Q h k n pcY Ls st) : G p l e R s m args below meth c Z.heap.size Q h k n pc Ls (.null :: st) := by
  obtain ⟨hx, hZ, hown, rfl, hml, hret, hnm, -⟩ := cx
  obtain ⟨o', d, ho, rfl, rfl⟩ := d
  intro T locs cells slots X N eT hk hn
  obtain ⟨s₂, o, st2, r⟩ := H T locs cells slots X N eT hk hn
  exact ⟨s₂, o, Jvm.Free.XS.ifnullYes X.here hx rfl (pc0 := pc) rfl d rfl ho rfl st2, r⟩
theorem g_ifnull_ref {kx nx : Nat} (cx : Cx Z p s m meth c R kx nx own nm code maxL ret) {a : Addr} (d : Bi code pc Instr.ifnull pcY pcN) (H : G p l e R s m args below meth c Z.heap.size Q h k n pcN Ls st) : G p l e R s m args below meth c Z.heap.size Q h k n pc Ls (.ref a :: st) := by
  obtain ⟨hx, hZ, hown, rfl, hml, hret, hnm, -⟩ := cx
  obtain ⟨o', d, ho, rfl, rfl⟩ := d
  intro T locs cells slots X N eT hk hn
  obtain ⟨s₂, o, st2, r⟩ := H T locs cells slots X N eT hk hn
  exact ⟨s₂, o, Jvm.Free.XS.ifnullNo X.here hx rfl d rfl st2, r⟩
theorem g_ifnonnull_ref {kx nx : Nat} (cx : Cx Z p s m meth c R kx nx own nm code maxL ret) {a : Addr} (d : Bi code pc Instr.ifnonnull pcY pcN) (H : G p l e R s m args below meth c Z.heap.size Q h k n pcY Ls st) : G p l e R s m args below meth c Z.heap.size Q h k n pc Ls (.ref a :: st) := by
  obtain ⟨hx, hZ, hown, rfl, hml, hret, hnm, -⟩ := cx
  obtain ⟨o', d, ho, rfl, rfl⟩ := d
  intro T locs cells slots X N eT hk hn
  obtain ⟨s₂, o, st2, r⟩ := H T locs cells slots X N eT hk hn
  exact ⟨s₂, o, Jvm.Free.XS.ifnonnullYes X.here hx rfl (pc0 := pc) rfl d rfl ho rfl st2, r⟩
theorem g_ifnonnull_null {kx nx : Nat} (cx : Cx Z p s m meth c R kx nx own nm code maxL ret) (d : Bi code pc Instr.ifnonnull pcY pcN) (H : G p l e R s m args below meth c Z.heap.size Q h k n pcN Ls st) : G p l e R s m args below meth c Z.heap.size Q h k n pc Ls (.null :: st) := by
  obtain ⟨hx, hZ, hown, rfl, hml, hret, hnm, -⟩ := cx
  obtain ⟨o', d, ho, rfl, rfl⟩ := d
  intro T locs cells slots X N eT hk hn
  obtain ⟨s₂, o, st2, r⟩ := H T locs cells slots X N eT hk hn
  exact ⟨s₂, o, Jvm.Free.XS.ifnonnullNo X.here hx rfl d rfl st2, r⟩
theorem g_ldcI {kx nx : Nat} (cx : Cx Z p s m meth c R kx nx own nm code maxL ret) {i : Nat} {v : Int32} (d : Dc code pc (.ldc i) 2 pc') (w : (Jvm.Cond.constant own i v).before a0 Z = true) (H : G p l e R s m args below meth c Z.heap.size Q h k n pc' Ls (.int v :: st)) : G p l e R s m args below meth c Z.heap.size Q h k n pc Ls st := by
  obtain ⟨hx, hZ, hown, rfl, hml, hret, hnm, -⟩ := cx
  obtain ⟨d, rfl⟩ := d
  intro T locs cells slots X N eT hk hn
  obtain ⟨s₂, o, st2, r⟩ := H T locs cells slots X N eT hk hn
  exact ⟨s₂, o, X.ldcInt hx hown (mvT hZ w) (g := mkF m pc Ls st) rfl d _ st2, r⟩
theorem g_ldcJ {kx nx : Nat} (cx : Cx Z p s m meth c R kx nx own nm code maxL ret) {i : Nat} {v : Int64} (d : Dc code pc (.ldc2_w i) 3 pc') (w : (Jvm.Cond.constantLong own i v).before a0 Z = true) (H : G p l e R s m args below meth c Z.heap.size Q h k n pc' Ls (.long v :: st)) : G p l e R s m args below meth c Z.heap.size Q h k n pc Ls st := by
  obtain ⟨hx, hZ, hown, rfl, hml, hret, hnm, -⟩ := cx
  obtain ⟨d, rfl⟩ := d
  intro T locs cells slots X N eT hk hn
  obtain ⟨s₂, o, st2, r⟩ := H T locs cells slots X N eT hk hn
  exact ⟨s₂, o, X.ldc2Long hx hown (mvT hZ w) (g := mkF m pc Ls st) rfl d _ st2, r⟩
theorem g_getF {kx nx : Nat} (cx : Cx Z p s m meth c R kx nx own nm code maxL ret) {R0 O f ds host : String} {i : Nat} {a : Addr} {v : Value} (d : Dc code pc (.getfield i) 3 pc') (w : (Jvm.Cond.fieldLink own i R0 f ds).before a0 Z = true ∨ (Jvm.Cond.fieldLinkNest own i R0 f ds host).before a0 Z = true) (via : Via Z R0 O f ds) (F : Fld Z h a O f ds v) (H : G p l e R s m args below meth c Z.heap.size Q h k n pc' Ls (v :: st)) : G p l e R s m args below meth c Z.heap.size Q h k n pc Ls (.ref a :: st) := by
  obtain ⟨hx, hZ, hown, rfl, hml, hret, hnm, -⟩ := cx
  obtain ⟨d, rfl⟩ := d
  intro T locs cells slots X N eT hk hn
  obtain ⟨T', X', e', stp⟩ := getF X hx hZ hown w via eT F (g := mkF m pc Ls (.ref a :: st)) rfl rfl d
  obtain ⟨s₂, o, st2, r⟩ := H T' locs cells slots X' N e' hk hn
  exact ⟨s₂, o, stp _ st2, r⟩
theorem g_getS {kx nx : Nat} (cx : Cx Z p s m meth c R kx nx own nm code maxL ret) {R0 O f ds host : String} {i : Nat} {v : Value} (d : Dc code pc (.getstatic i) 3 pc') (w : (Jvm.Cond.fieldLink own i R0 f ds).before a0 Z = true ∨ (Jvm.Cond.fieldLinkNest own i R0 f ds host).before a0 Z = true) (via : Via Z R0 O f ds) (F : Sta Z h O f ds v) (H : G p l e R s m args below meth c Z.heap.size Q h k n pc' Ls (v :: st)) : G p l e R s m args below meth c Z.heap.size Q h k n pc Ls st := by
  obtain ⟨hx, hZ, hown, rfl, hml, hret, hnm, -⟩ := cx
  obtain ⟨d, rfl⟩ := d
  intro T locs cells slots X N eT hk hn
  obtain ⟨T', X', e', stp⟩ := getS2 X hx hZ hown w via eT F (g := mkF m pc Ls st) rfl d
  obtain ⟨s₂, o, st2, r⟩ := H T' locs cells slots X' N e' hk hn
  exact ⟨s₂, o, stp _ st2, r⟩
theorem g_putF {kx nx : Nat} (cx : Cx Z p s m meth c R kx nx own nm code maxL ret) {R0 O f ds host C : String} {i kk : Nat} {ty : FieldType} {a : Addr} {v old : Value} (d : Dc code pc (.putfield i) 3 pc') (w : (Jvm.Cond.fieldLink own i R0 f ds).before a0 Z = true ∨ (Jvm.Cond.fieldLinkNest own i R0 f ds host).before a0 Z = true) (via : Via Z R0 O f ds) (F : Fld Z h a O f ds old) (E : Exa Z h a C)
    (L : (Jvm.Cond.lays C O f ds).before a0 Z = true ∨ ((Jvm.Cond.laysFinal C O f ds).before a0 Z = true ∧ own = O ∧ nm = "<init>")) (wi : (Jvm.Cond.instantiable C kk).before a0 Z = true) (hty : parseFieldDescriptor ds = some ty) (hnar : narrow ty v = v) (hfit : fits ty v = true) (g : Z.heap.size ≤ a)
    (H : ∀ h', Wr h h' a (Jvm.RoadKit.slotOf Z O f ds) v → G p l e R s m args below meth c Z.heap.size Q h' k n pc' Ls st) : G p l e R s m args below meth c Z.heap.size Q h k n pc Ls (v :: .ref a :: st) := by
  obtain ⟨hx, hZ, hown, rfl, hml, hret, rfl, -⟩ := cx
  obtain ⟨d, rfl⟩ := d
  intro T locs cells slots X N eT hk hn
  obtain ⟨T', h', X', e', W, stp⟩ := putF X hx hZ hown w via eT F E L wi hty hnar hfit (g := mkF m pc Ls (v :: .ref a :: st)) rfl rfl d
  obtain ⟨s₂, o, st2, r⟩ := H h' W T' _ cells slots X' (Fr.snoc X' N g) e' hk hn
  exact ⟨s₂, o, stp _ st2, r⟩
theorem g_putFN {kx nx : Nat} (cx : Cx Z p s m meth c R kx nx own nm code maxL ret) {R0 O f ds C : String} {i kk : Nat} {ty : FieldType} {a : Addr} {v v' old : Value} (d : Dc code pc (.putfield i) 3 pc') (w : (Jvm.Cond.fieldLink own i R0 f ds).before a0 Z = true) (via : Via Z R0 O f ds) (F : Fld Z h a O f ds old) (E : Exa Z h a C)
    (L : (Jvm.Cond.lays C O f ds).before a0 Z = true ∨ ((Jvm.Cond.laysFinal C O f ds).before a0 Z = true ∧ own = O ∧ nm = "<init>")) (wi : (Jvm.Cond.instantiable C kk).before a0 Z = true) (hty : parseFieldDescriptor ds = some ty) (hnar : narrow ty v = v') (hfit : fits ty v' = true) (g : Z.heap.size ≤ a)
    (H : ∀ h', Wr h h' a (Jvm.RoadKit.slotOf Z O f ds) v' → G p l e R s m args below meth c Z.heap.size Q h' k n pc' Ls st) : G p l e R s m args below meth c Z.heap.size Q h k n pc Ls (v :: .ref a :: st) := by
  obtain ⟨hx, hZ, hown, rfl, hml, hret, rfl, -⟩ := cx
  obtain ⟨d, rfl⟩ := d
  intro T locs cells slots X N eT hk hn
  obtain ⟨T', h', X', e', W, stp⟩ := putFN X hx hZ hown w via eT F E L wi hty hnar hfit (g := mkF m pc Ls (v :: .ref a :: st)) rfl rfl d
  obtain ⟨s₂, o, st2, r⟩ := H h' W T' _ cells slots X' (Fr.snoc X' N g) e' hk hn
  exact ⟨s₂, o, stp _ st2, r⟩
theorem g_new {kx nx : Nat} (cx : Cx Z p s m meth c R kx nx own nm code maxL ret) {C : String} {i sl : Nat} {k' n' : Nat} (d : Dc code pc (.new i) 3 pc') (w : (Jvm.Cond.classLink own i C).before a0 Z = true) (wi : (Jvm.Cond.instantiable C sl).before a0 Z = true) (wz : (Jvm.Cond.initialized C).before a0 Z = true) (hk1 : k + 1 = k') (hn1 : n + sl = n') (hkR : k' ≤ R.cells) (hnR : n' ≤ R.slots)
    (H : ∀ h' b, b = h.size → Ext h h' → Exa Z h' b C → (∀ {O nm d : String} {ty : FieldType}, Laid Z a0 C O nm d → parseFieldDescriptor d = some ty → Fld Z h' b O nm d (defaultValue ty)) → G p l e R s m args below meth c Z.heap.size Q h' k' n' pc' Ls (.ref b :: st)) : G p l e R s m args below meth c Z.heap.size Q h k n pc Ls st := by
  obtain ⟨hx, hZ, hown, rfl, hml, hret, hnm, -⟩ := cx
  obtain ⟨d, rfl⟩ := d
  subst hk1 hn1
  intro T locs cells slots X N eT hk hn
  obtain ⟨T', h', X', e', E, A, D, -, stp⟩ := newO X hx hZ hown w wi wz eT (g := mkF m pc Ls st) rfl d (by omega) (by omega)
  obtain ⟨s₂, o, st2, r⟩ := H h' _ rfl E A D T' locs _ _ X' N e' (by omega) (by omega)
  exact ⟨s₂, o, stp _ st2, r⟩
theorem g_newarray {kx nx : Nat} (cx : Cx Z p s m meth c R kx nx own nm code maxL ret) {aty : ArrayType} {z : Int32} {cap k' n' : Nat} {ad : String} (had : "[" ++ (newarray.typeOf aty).toString = ad) (d : Dc code pc (.newarray aty) 2 pc') (w : (Jvm.Cond.arrayClass (newarray.typeOf aty)).before a0 Z = true) (hz : ¬ z < 0) (hcap : z.toNatClampNeg ≤ cap) (hb : cap * 8 ≤ 536870912) (hk1 : k + 1 = k') (hn1 : n + cap = n') (hkR : k' ≤ R.cells) (hnR : n' ≤ R.slots)
    (H : ∀ h' b cA, b = h.size → Ext h h' → Arx Z h' b cA (newarray.typeOf aty) z [] (defaultValue (newarray.typeOf aty)) ad → G p l e R s m args below meth c Z.heap.size Q h' k' n' pc' Ls (.ref b :: st)) : G p l e R s m args below meth c Z.heap.size Q h k n pc Ls (.int z :: st) := by
  obtain ⟨hx, hZ, hown, rfl, hml, hret, hnm, -⟩ := cx
  obtain ⟨d, rfl⟩ := d
  subst hk1 hn1
  intro T locs cells slots X N eT hk hn
  obtain ⟨T', h', cA, X', e', E, A, Ex, stp⟩ := newPE X hx hZ w eT (g := mkF m pc Ls (.int z :: st)) rfl d rfl hz hcap hb (by omega) (by omega) had
  obtain ⟨s₂, o, st2, r⟩ := H h' _ cA rfl E ⟨Arv.new A hz, Ex⟩ T' locs _ _ X' N e' (by omega) (by omega)
  exact ⟨s₂, o, stp _ st2, r⟩
theorem g_anewarray {kx nx : Nat} (cx : Cx Z p s m meth c R kx nx own nm code maxL ret) {C ad : String} {i : Nat} {z : Int32} {cap k' n' : Nat} (had : "[" ++ (FieldType.object C).toString = ad) (d : Dc code pc (.anewarray i) 3 pc') (w1 : (Jvm.Cond.classLink own i C).before a0 Z = true) (w2 : (Jvm.Cond.arrayOver (.object C)).before a0 Z = true) (hz : ¬ z < 0) (hcap : z.toNatClampNeg ≤ cap) (hb : cap * 8 ≤ 536870912) (hk1 : k + 1 = k') (hn1 : n + cap = n') (hkR : k' ≤ R.cells) (hnR : n' ≤ R.slots)
    (H : ∀ h' b cA, b = h.size → Ext h h' → Arx Z h' b cA (.object C) z [] .null ad → Ovr Z cA C → G p l e R s m args below meth c Z.heap.size Q h' k' n' pc' Ls (.ref b :: st)) : G p l e R s m args below meth c Z.heap.size Q h k n pc Ls (.int z :: st) := by
  obtain ⟨hx, hZ, hown, rfl, hml, hret, hnm, -⟩ := cx
  obtain ⟨d, rfl⟩ := d
  subst hk1 hn1
  intro T locs cells slots X N eT hk hn
  obtain ⟨T', h', cA, X', e', E, A, Ex, O, stp⟩ := newRE X hx hZ hown w1 w2 eT (g := mkF m pc Ls (.int z :: st)) rfl d rfl hz hcap hb (by omega) (by omega) had
  obtain ⟨s₂, o, st2, r⟩ := H h' _ cA rfl E ⟨Arv.new A hz, Ex⟩ O T' locs _ _ X' N e' (by omega) (by omega)
  exact ⟨s₂, o, stp _ st2, r⟩
theorem g_anewarrayA {kx nx : Nat} (cx : Cx Z p s m meth c R kx nx own nm code maxL ret) {C ad : String} {t : FieldType} {i : Nat} {z : Int32} {cap k' n' : Nat} (hC : (FieldType.array t).toString = C) (had : "[" ++ C = ad) (d : Dc code pc (.anewarray i) 3 pc') (w1 : (Jvm.Cond.classLink own i C).before a0 Z = true) (w2 : (Jvm.Cond.arrayOver (.array t)).before a0 Z = true) (hz : ¬ z < 0) (hcap : z.toNatClampNeg ≤ cap) (hb : cap * 8 ≤ 536870912) (hk1 : k + 1 = k') (hn1 : n + cap = n') (hkR : k' ≤ R.cells) (hnR : n' ≤ R.slots)
    (H : ∀ h' b cA, b = h.size → Ext h h' → Arx Z h' b cA (.array t) z [] .null ad → OvrA Z cA t C → G p l e R s m args below meth c Z.heap.size Q h' k' n' pc' Ls (.ref b :: st)) : G p l e R s m args below meth c Z.heap.size Q h k n pc Ls (.int z :: st) := by
  obtain ⟨hx, hZ, hown, rfl, hml, hret, hnm, -⟩ := cx
  obtain ⟨d, rfl⟩ := d
  subst hk1 hn1
  intro T locs cells slots X N eT hk hn
  obtain ⟨T', h', cA, X', e', E, A, Ex, O, stp⟩ := newRA X hx hZ hown hC w1 w2 eT (g := mkF m pc Ls (.int z :: st)) rfl d rfl hz hcap hb (by omega) (by omega) had
  obtain ⟨s₂, o, st2, r⟩ := H h' _ cA rfl E ⟨Arv.new A hz, Ex⟩ O T' locs _ _ X' N e' (by omega) (by omega)
  exact ⟨s₂, o, stp _ st2, r⟩
theorem g_iastore {kx nx : Nat} (cx : Cx Z p s m meth c R kx nx own nm code maxL ret) {a : Addr} {cA : ClassId} {z j : Int32} {ad : String} {vs : List Value} {dv : Value} {x : Int32} (d : Dc code pc .iastore 1 pc') (A : Arx Z h a cA .int z vs dv ad) (hj : ¬ j < 0 ∧ j < z) (hl : j.toNatClampNeg < vs.length) (g : Z.heap.size ≤ a) (H : ∀ h', Wr h h' a j.toNatClampNeg (.int x) → Arx Z h' a cA .int z (vs.set j.toNatClampNeg (.int x)) dv ad → G p l e R s m args below meth c Z.heap.size Q h' k n pc' Ls st) : G p l e R s m args below meth c Z.heap.size Q h k n pc Ls (.int x :: .int j :: .ref a :: st) := by
  obtain ⟨hx, hZ, hown, rfl, hml, hret, hnm, -⟩ := cx
  obtain ⟨d, rfl⟩ := d
  intro T locs cells slots X N eT hk hn
  obtain ⟨⟨cl, Ar, q, S, Nz, Hs, Gf⟩, Ex⟩ := A
  obtain ⟨T', h', X', e', W, stp⟩ := stI X hx hZ eT Ar (j := j) (inb_of S hj) (g := mkF m pc Ls (.int x :: .int j :: .ref a :: st)) rfl rfl d
  obtain ⟨s₂, o, st2, r⟩ := H h' W ⟨Arv.set Ar q S Nz Hs Gf rfl W _ rfl hl, Ex.wr W⟩ T' _ cells slots X' (Fr.snoc X' N g) e' hk hn
  exact ⟨s₂, o, stp _ st2, r⟩
theorem g_lastore {kx nx : Nat} (cx : Cx Z p s m meth c R kx nx own nm code maxL ret) {a : Addr} {cA : ClassId} {z j : Int32} {ad : String} {vs : List Value} {dv : Value} {x : Int64} (d : Dc code pc .lastore 1 pc') (A : Arx Z h a cA .long z vs dv ad) (hj : ¬ j < 0 ∧ j < z) (hl : j.toNatClampNeg < vs.length) (g : Z.heap.size ≤ a) (H : ∀ h', Wr h h' a j.toNatClampNeg (.long x) → Arx Z h' a cA .long z (vs.set j.toNatClampNeg (.long x)) dv ad → G p l e R s m args below meth c Z.heap.size Q h' k n pc' Ls st) : G p l e R s m args below meth c Z.heap.size Q h k n pc Ls (.long x :: .int j :: .ref a :: st) := by
  obtain ⟨hx, hZ, hown, rfl, hml, hret, hnm, -⟩ := cx
  obtain ⟨d, rfl⟩ := d
  intro T locs cells slots X N eT hk hn
  obtain ⟨⟨cl, Ar, q, S, Nz, Hs, Gf⟩, Ex⟩ := A
  obtain ⟨T', h', X', e', W, stp⟩ := stJ X hx hZ eT Ar (j := j) (inb_of S hj) (g := mkF m pc Ls (.long x :: .int j :: .ref a :: st)) rfl rfl d
  obtain ⟨s₂, o, st2, r⟩ := H h' W ⟨Arv.set Ar q S Nz Hs Gf rfl W _ rfl hl, Ex.wr W⟩ T' _ cells slots X' (Fr.snoc X' N g) e' hk hn
  exact ⟨s₂, o, stp _ st2, r⟩
theorem g_castore {kx nx : Nat} (cx : Cx Z p s m meth c R kx nx own nm code maxL ret) {a : Addr} {cA : ClassId} {z j : Int32} {ad : String} {vs : List Value} {dv : Value} {x : Int32} (d : Dc code pc .castore 1 pc') (A : Arx Z h a cA .char z vs dv ad) (hj : ¬ j < 0 ∧ j < z) (hl : j.toNatClampNeg < vs.length) (g : Z.heap.size ≤ a) (H : ∀ h', Wr h h' a j.toNatClampNeg (.int (nar .char x)) → Arx Z h' a cA .char z (vs.set j.toNatClampNeg (.int (nar .char x))) dv ad → G p l e R s m args below meth c Z.heap.size Q h' k n pc' Ls st) : G p l e R s m args below meth c Z.heap.size Q h k n pc Ls (.int x :: .int j :: .ref a :: st) := by
  obtain ⟨hx, hZ, hown, rfl, hml, hret, hnm, -⟩ := cx
  obtain ⟨d, rfl⟩ := d
  intro T locs cells slots X N eT hk hn
  obtain ⟨⟨cl, Ar, q, S, Nz, Hs, Gf⟩, Ex⟩ := A
  obtain ⟨T', h', X', e', W, stp⟩ := stC X hx hZ eT Ar (j := j) (inb_of S hj) (g := mkF m pc Ls (.int x :: .int j :: .ref a :: st)) rfl rfl d
  obtain ⟨s₂, o, st2, r⟩ := H h' W ⟨Arv.set Ar q S Nz Hs Gf (fits_nar_char _) W _ rfl hl, Ex.wr W⟩ T' _ cells slots X' (Fr.snoc X' N g) e' hk hn
  exact ⟨s₂, o, stp _ st2, r⟩
theorem g_bastore {kx nx : Nat} (cx : Cx Z p s m meth c R kx nx own nm code maxL ret) {a : Addr} {cA : ClassId} {z j : Int32} {ad : String} {vs : List Value} {dv : Value} {x : Int32} (d : Dc code pc .bastore 1 pc') (A : Arx Z h a cA .byte z vs dv ad) (hj : ¬ j < 0 ∧ j < z) (hl : j.toNatClampNeg < vs.length) (g : Z.heap.size ≤ a) (H : ∀ h', Wr h h' a j.toNatClampNeg (.int (nar .byte x)) → Arx Z h' a cA .byte z (vs.set j.toNatClampNeg (.int (nar .byte x))) dv ad → G p l e R s m args below meth c Z.heap.size Q h' k n pc' Ls st) : G p l e R s m args below meth c Z.heap.size Q h k n pc Ls (.int x :: .int j :: .ref a :: st) := by
  obtain ⟨hx, hZ, hown, rfl, hml, hret, hnm, -⟩ := cx
  obtain ⟨d, rfl⟩ := d
  intro T locs cells slots X N eT hk hn
  obtain ⟨⟨cl, Ar, q, S, Nz, Hs, Gf⟩, Ex⟩ := A
  obtain ⟨T', h', X', e', W, stp⟩ := stB X hx hZ eT Ar (j := j) (inb_of S hj) (g := mkF m pc Ls (.int x :: .int j :: .ref a :: st)) rfl rfl d
  obtain ⟨s₂, o, st2, r⟩ := H h' W ⟨Arv.set Ar q S Nz Hs Gf (fits_nar_byte _) W _ rfl hl, Ex.wr W⟩ T' _ cells slots X' (Fr.snoc X' N g) e' hk hn
  exact ⟨s₂, o, stp _ st2, r⟩
theorem g_aastore {kx nx : Nat} (cx : Cx Z p s m meth c R kx nx own nm code maxL ret) {a : Addr} {cA : ClassId} {z j : Int32} {ad : String} {vs : List Value} {dv v : Value} {ty : FieldType} (d : Dc code pc .aastore 1 pc') (A : Arx Z h a cA ty z vs dv ad) (hty : ty.isReference = true) (hf : fits ty v = true) (So : Sto Z h a v) (hj : ¬ j < 0 ∧ j < z) (hl : j.toNatClampNeg < vs.length) (g : Z.heap.size ≤ a) (H : ∀ h', Wr h h' a j.toNatClampNeg v → Arx Z h' a cA ty z (vs.set j.toNatClampNeg v) dv ad → G p l e R s m args below meth c Z.heap.size Q h' k n pc' Ls st) : G p l e R s m args below meth c Z.heap.size Q h k n pc Ls (v :: .int j :: .ref a :: st) := by
  obtain ⟨hx, hZ, hown, rfl, hml, hret, hnm, -⟩ := cx
  obtain ⟨d, rfl⟩ := d
  intro T locs cells slots X N eT hk hn
  obtain ⟨⟨cl, Ar, q, S, Nz, Hs, Gf⟩, Ex⟩ := A
  obtain ⟨T', h', X', e', W, stp⟩ := stR X hx hZ eT Ar (j := j) (inb_of S hj) hty So (g := mkF m pc Ls (v :: .int j :: .ref a :: st)) rfl rfl d
  obtain ⟨s₂, o, st2, r⟩ := H h' W ⟨Arv.set Ar q S Nz Hs Gf hf W _ rfl hl, Ex.wr W⟩ T' _ cells slots X' (Fr.snoc X' N g) e' hk hn
  exact ⟨s₂, o, stp _ st2, r⟩
theorem g_iaload {kx nx : Nat} (cx : Cx Z p s m meth c R kx nx own nm code maxL ret) {a : Addr} {cA : ClassId} {z j : Int32} {vs : List Value} {dv v : Value} (d : Dc code pc .iaload 1 pc') (A : Arv Z h a cA .int z vs dv) (hj : ¬ j < 0 ∧ j < z) (hv : vs.getD j.toNatClampNeg dv = v) (H : G p l e R s m args below meth c Z.heap.size Q h k n pc' Ls (v :: st)) : G p l e R s m args below meth c Z.heap.size Q h k n pc Ls (.int j :: .ref a :: st) := by
  obtain ⟨hx, hZ, hown, rfl, hml, hret, hnm, -⟩ := cx
  obtain ⟨d, rfl⟩ := d
  intro T locs cells slots X N eT hk hn
  obtain ⟨cl, Ar, q, S, Nz, Hs, Gf⟩ := A
  obtain ⟨s₂, o, st2, r⟩ := H T _ cells slots X N eT hk hn
  exact ⟨s₂, o, X.iaload hx (j := j) (v := v) (by rw [eT]; exact Ar.1) (State.isArrayOf_alike hZ.alike Ar.2.1) Ar.2.2 (inb_of S hj) (Hs.at (inb_of S hj) hv) (g := mkF m pc Ls (.int j :: .ref a :: st)) rfl rfl d _ st2, r⟩
theorem g_laload {kx nx : Nat} (cx : Cx Z p s m meth c R kx nx own nm code maxL ret) {a : Addr} {cA : ClassId} {z j : Int32} {vs : List Value} {dv v : Value} (d : Dc code pc .laload 1 pc') (A : Arv Z h a cA .long z vs dv) (hj : ¬ j < 0 ∧ j < z) (hv : vs.getD j.toNatClampNeg dv = v) (H : G p l e R s m args below meth c Z.heap.size Q h k n pc' Ls (v :: st)) : G p l e R s m args below meth c Z.heap.size Q h k n pc Ls (.int j :: .ref a :: st) := by
  obtain ⟨hx, hZ, hown, rfl, hml, hret, hnm, -⟩ := cx
  obtain ⟨d, rfl⟩ := d
  intro T locs cells slots X N eT hk hn
  obtain ⟨cl, Ar, q, S, Nz, Hs, Gf⟩ := A
  obtain ⟨s₂, o, st2, r⟩ := H T _ cells slots X N eT hk hn
  exact ⟨s₂, o, X.laload hx (j := j) (v := v) (by rw [eT]; exact Ar.1) (State.isArrayOf_alike hZ.alike Ar.2.1) Ar.2.2 (inb_of S hj) (Hs.at (inb_of S hj) hv) (g := mkF m pc Ls (.int j :: .ref a :: st)) rfl rfl d _ st2, r⟩
theorem g_caload {kx nx : Nat} (cx : Cx Z p s m meth c R kx nx own nm code maxL ret) {a : Addr} {cA : ClassId} {z j : Int32} {vs : List Value} {dv v : Value} (d : Dc code pc .caload 1 pc') (A : Arv Z h a cA .char z vs dv) (hj : ¬ j < 0 ∧ j < z) (hv : vs.getD j.toNatClampNeg dv = v) (H : G p l e R s m args below meth c Z.heap.size Q h k n pc' Ls (v :: st)) : G p l e R s m args below meth c Z.heap.size Q h k n pc Ls (.int j :: .ref a :: st) := by
  obtain ⟨hx, hZ, hown, rfl, hml, hret, hnm, -⟩ := cx
  obtain ⟨d, rfl⟩ := d
  intro T locs cells slots X N eT hk hn
  obtain ⟨cl, Ar, q, S, Nz, Hs, Gf⟩ := A
  obtain ⟨s₂, o, st2, r⟩ := H T _ cells slots X N eT hk hn
  exact ⟨s₂, o, X.caload hx (j := j) (v := v) (by rw [eT]; exact Ar.1) (State.isArrayOf_alike hZ.alike Ar.2.1) Ar.2.2 (inb_of S hj) (Hs.at (inb_of S hj) hv) (g := mkF m pc Ls (.int j :: .ref a :: st)) rfl rfl d _ st2, r⟩
theorem g_baload {kx nx : Nat} (cx : Cx Z p s m meth c R kx nx own nm code maxL ret) {a : Addr} {cA : ClassId} {z j : Int32} {vs : List Value} {dv v : Value} (d : Dc code pc .baload 1 pc') (A : Arv Z h a cA .byte z vs dv) (hj : ¬ j < 0 ∧ j < z) (hv : vs.getD j.toNatClampNeg dv = v) (H : G p l e R s m args below meth c Z.heap.size Q h k n pc' Ls (v :: st)) : G p l e R s m args below meth c Z.heap.size Q h k n pc Ls (.int j :: .ref a :: st) := by
  obtain ⟨hx, hZ, hown, rfl, hml, hret, hnm, -⟩ := cx
  obtain ⟨d, rfl⟩ := d
  intro T locs cells slots X N eT hk hn
  obtain ⟨cl, Ar, q, S, Nz, Hs, Gf⟩ := A
  obtain ⟨s₂, o, st2, r⟩ := H T _ cells slots X N eT hk hn
  exact ⟨s₂, o, X.baloadBytes hx (j := j) (v := v) (by rw [eT]; exact Ar.1) (State.isArrayOf_alike hZ.alike Ar.2.1) Ar.2.2 (inb_of S hj) (Hs.at (inb_of S hj) hv) (g := mkF m pc Ls (.int j :: .ref a :: st)) rfl rfl d _ st2, r⟩
theorem g_aaload {kx nx : Nat} (cx : Cx Z p s m meth c R kx nx own nm code maxL ret) {a : Addr} {cA : ClassId} {z j : Int32} {vs : List Value} {dv v : Value} {ty : FieldType} (d : Dc code pc .aaload 1 pc') (A : Arv Z h a cA ty z vs dv) (hty : ty.isReference = true) (hj : ¬ j < 0 ∧ j < z) (hv : vs.getD j.toNatClampNeg dv = v) (H : G p l e R s m args below meth c Z.heap.size Q h k n pc' Ls (v :: st)) : G p l e R s m args below meth c Z.heap.size Q h k n pc Ls (.int j :: .ref a :: st) := by
  obtain ⟨hx, hZ, hown, rfl, hml, hret, hnm, -⟩ := cx
  obtain ⟨d, rfl⟩ := d
  intro T locs cells slots X N eT hk hn
  obtain ⟨cl, Ar, q, S, Nz, Hs, Gf⟩ := A
  obtain ⟨s₂, o, st2, r⟩ := H T _ cells slots X N eT hk hn
  exact ⟨s₂, o, X.aaload hx (j := j) (v := v) (by rw [eT]; exact Ar.1) (State.isArrayOf_alike hZ.alike Ar.2.1) hty Ar.2.2 (inb_of S hj) (Hs.at (inb_of S hj) hv) (g := mkF m pc Ls (.int j :: .ref a :: st)) rfl rfl d _ st2, r⟩
theorem g_arraylength {kx nx : Nat} (cx : Cx Z p s m meth c R kx nx own nm code maxL ret) {a : Addr} {cA : ClassId} {z : Int32} {vs : List Value} {dv : Value} {ty : FieldType} (d : Dc code pc .arraylength 1 pc') (A : Arv Z h a cA ty z vs dv) (H : G p l e R s m args below meth c Z.heap.size Q h k n pc' Ls (.int z :: st)) : G p l e R s m args below meth c Z.heap.size Q h k n pc Ls (.ref a :: st) := by
  obtain ⟨hx, hZ, hown, rfl, hml, hret, hnm, -⟩ := cx
  obtain ⟨d, rfl⟩ := d
  intro T locs cells slots X N eT hk hn
  obtain ⟨cl, Ar, q, S, Nz, Hs, Gf⟩ := A
  obtain ⟨s₂, o, st2, r⟩ := H T _ cells slots X N eT hk hn
  exact ⟨s₂, o, X.arraylength hx (by rw [eT]; exact Ar.1) (State.isArrayOf_alike hZ.alike Ar.2.1) (g := mkF m pc Ls (.ref a :: st)) rfl rfl d _ (by rw [len_of S Nz]; exact st2), r⟩
theorem g_checkcast {kx nx : Nat} (cx : Cx Z p s m meth c R kx nx own nm code maxL ret) {K : String} {i : Nat} {a : Addr} (d : Dc code pc (.checkcast i) 3 pc') (w : (Jvm.Cond.classLink own i K).before a0 Z = true) (F : Ins Z h a K true) (H : G p l e R s m args below meth c Z.heap.size Q h k n pc' Ls (.ref a :: st)) : G p l e R s m args below meth c Z.heap.size Q h k n pc Ls (.ref a :: st) := by
  obtain ⟨hx, hZ, hown, rfl, hml, hret, hnm, -⟩ := cx
  obtain ⟨d, rfl⟩ := d
  intro T locs cells slots X N eT hk hn
  obtain ⟨T', X', e', stp⟩ := castY X hx hZ hown w eT F (g := mkF m pc Ls (.ref a :: st)) rfl rfl d
  obtain ⟨s₂, o, st2, r⟩ := H T' _ cells slots X' N e' hk hn
  exact ⟨s₂, o, stp _ st2, r⟩
theorem g_instanceY {kx nx : Nat} (cx : Cx Z p s m meth c R kx nx own nm code maxL ret) {K : String} {i : Nat} {a : Addr} (d : Dc code pc (.instanceof i) 3 pc') (w : (Jvm.Cond.classLink own i K).before a0 Z = true) (F : Ins Z h a K true) (H : G p l e R s m args below meth c Z.heap.size Q h k n pc' Ls (.int 1 :: st)) : G p l e R s m args below meth c Z.heap.size Q h k n pc Ls (.ref a :: st) := by
  obtain ⟨hx, hZ, hown, rfl, hml, hret, hnm, -⟩ := cx
  obtain ⟨d, rfl⟩ := d
  intro T locs cells slots X N eT hk hn
  obtain ⟨T', X', e', stp⟩ := instY X hx hZ hown w eT F (g := mkF m pc Ls (.ref a :: st)) rfl rfl d
  obtain ⟨s₂, o, st2, r⟩ := H T' _ cells slots X' N e' hk hn
  exact ⟨s₂, o, stp _ st2, r⟩
theorem g_ret {kx nx : Nat} (cx : Cx Z p s m meth c R kx nx own nm code maxL ret) {t : FieldType} {w v : Value} {i : Instr} (d : Dc code pc i 1 pc') (hR : ret = some t)
    (hs : ∀ T locs cells slots, Stand p l e R s m args below meth c T locs cells slots → ∀ fs, (∀ (f : JFrame) (acts : List Action), f.method = m → f.locked = none → f.entered = [] → (doReturn e (T.setTop f) acts (some v)).1 = T.setFrames fs) → Steps p.tables e below (T.setTop (mkF m pc Ls (w :: st))) (T.setFrames fs))
    (hk : k ≤ R.cells) (hn : n ≤ R.slots) (q : Q (some v) h) : G p l e R s m args below meth c Z.heap.size Q h k n pc Ls (w :: st) := by
  obtain ⟨hx, hZ, hown, rfl, hml, rfl, hnm, hlk⟩ := cx
  intro T locs cells slots X N eT hk' hn'
  obtain ⟨fs, hr, hrun, hended, hW, hsame⟩ := X.leave (v := some v) (fun h => by rw [hR] at h; cases h) hlk
  exact ⟨_, _, hs T locs cells slots X fs hr, hrun, hended, _, locs, rfl, ⟨by show Q _ T.heap; rw [eT]; exact q, N⟩, ⟨_, rfl⟩, hW, hsame.mono (by omega) (by omega)⟩
theorem g_retI {kx nx : Nat} (cx : Cx Z p s m meth c R kx nx own nm code maxL ret) {x : Int32} (d : Dc code pc .ireturn 1 pc') (hR : ret = some .int) (hk : k ≤ R.cells) (hn : n ≤ R.slots) (q : Q (some (.int x)) h) : G p l e R s m args below meth c Z.heap.size Q h k n pc Ls (.int x :: st) :=
  g_ret cx (t := .int) d hR (fun T locs cells slots X fs hl => retOut X cx.1 (cx.2.2.2.2.2.1.trans hR) rfl (Or.inl ⟨rfl, Or.inl rfl, _, rfl⟩) (by rw [cx.2.2.2.1]; exact d.1) hl) hk hn q
theorem g_retJ {kx nx : Nat} (cx : Cx Z p s m meth c R kx nx own nm code maxL ret) {x : Int64} (d : Dc code pc .lreturn 1 pc') (hR : ret = some .long) (hk : k ≤ R.cells) (hn : n ≤ R.slots) (q : Q (some (.long x)) h) : G p l e R s m args below meth c Z.heap.size Q h k n pc Ls (.long x :: st) :=
  g_ret cx (t := .long) d hR (fun T locs cells slots X fs hl => retOut X cx.1 (cx.2.2.2.2.2.1.trans hR) rfl (Or.inr (Or.inl ⟨rfl, rfl, _, rfl⟩)) (by rw [cx.2.2.2.1]; exact d.1) hl) hk hn q
theorem g_retN {kx nx : Nat} (cx : Cx Z p s m meth c R kx nx own nm code maxL ret) {x : Int32} {t : FieldType} (d : Dc code pc .ireturn 1 pc') (hR : ret = some t) (ht : t = .boolean ∨ t = .byte ∨ t = .char ∨ t = .short) (hk : k ≤ R.cells) (hn : n ≤ R.slots) (q : Q (some (.int (nar t x))) h) : G p l e R s m args below meth c Z.heap.size Q h k n pc Ls (.int x :: st) :=
  g_ret cx (t := t) d hR (fun T locs cells slots X fs hl => retN X cx.1 (cx.2.2.2.2.2.1.trans hR) ht (by rw [cx.2.2.2.1]; exact d.1) hl) hk hn q
theorem g_retZ {kx nx : Nat} (cx : Cx Z p s m meth c R kx nx own nm code maxL ret) {x : Int32} (d : Dc code pc .ireturn 1 pc') (hR : ret = some .boolean) (hx01 : nar .boolean x = x) (hk : k ≤ R.cells) (hn : n ≤ R.slots) (q : Q (some (.int x)) h) : G p l e R s m args below meth c Z.heap.size Q h k n pc Ls (.int x :: st) :=
  g_retN cx d hR (Or.inl rfl) hk hn (by rw [hx01]; exact q)
theorem g_retA {kx nx : Nat} (cx : Cx Z p s m meth c R kx nx own nm code maxL ret) {w : Value} {t : FieldType} (d : Dc code pc .areturn 1 pc') (hR : ret = some t) (ht : t.isReference = true) (hw : w.isRef = true) (hnar : narrow t w = w) (hk : k ≤ R.cells) (hn : n ≤ R.slots) (q : Q (some w) h) : G p l e R s m args below meth c Z.heap.size Q h k n pc Ls (w :: st) :=
  g_ret cx (t := t) d hR (fun T locs cells slots X fs hl => retOut X cx.1 (cx.2.2.2.2.2.1.trans hR) hnar (Or.inr (Or.inr (Or.inr (Or.inr ⟨rfl, ht, hw⟩)))) (by rw [cx.2.2.2.1]; exact d.1) hl) hk hn q
theorem g_retV {kx nx : Nat} (cx : Cx Z p s m meth c R kx nx own nm code maxL ret) (d : Dc code pc .return_ 1 pc') (hR : ret = none) (hk : k ≤ R.cells) (hn : n ≤ R.slots) (q : Q none h) : G p l e R s m args below meth c Z.heap.size Q h k n pc Ls [] := by
  obtain ⟨hx, hZ, hown, rfl, hml, rfl, hnm, hlk⟩ := cx
  intro T locs cells slots X N eT hk' hn'
  obtain ⟨fs, hr, hrun, hended, hW, hsame⟩ := X.leave (v := none) (fun _ => rfl) hlk
  exact ⟨_, _, X.returnOut hx hR d.1 hr, hrun, hended, _, locs, rfl, ⟨by show Q _ T.heap; rw [eT]; exact q, N⟩, ⟨_, rfl⟩, hW, hsame.mono (by omega) (by omega)⟩
theorem g_initO {kx nx : Nat} (cx : Cx Z p s m meth c R kx nx own nm code maxL ret) {i W : Nat} {a : Addr} (d : Dc code pc (.invokespecial i) 3 pc') (w1 : (Jvm.Cond.methodLink own i Lib.objectInit).before a0 Z = true) (w2 : (Jvm.Cond.instanceMethod Lib.objectInit).before a0 Z = true) (w3 : (Jvm.Cond.code Lib.objectInit ⟨#[0xb1]⟩ 1 none).before a0 Z = true) (hsz : Ls.size = maxL) (hf : 1 ≤ R.frames) (hW : (st.map fun v => v.category).sum ≤ W) (hl : W + 12 ≤ R.locals)
    (H : G p l e R s m args below meth c Z.heap.size Q h k n pc' Ls st) : G p l e R s m args below meth c Z.heap.size Q h k n pc Ls (.ref a :: st) := by
  obtain ⟨hx, hZ, hown, rfl, hml, hret, hnm, -⟩ := cx
  obtain ⟨d, rfl⟩ := d
  intro T locs cells slots X N eT hk hn
  obtain ⟨T', X', e', stp⟩ := initO X hx hZ hown w1 w2 w3 eT (g := mkF m pc Ls (.ref a :: st)) rfl (by rw [hml]; exact hsz) rfl d hf (W := W) (by show 2 * 0 + _ ≤ _; omega) hl
  obtain ⟨s₂, o, st2, r⟩ := H T' locs cells slots X' N e' hk hn
  exact ⟨s₂, o, stp _ st2, r⟩
theorem own_dummy : True := trivial
theorem g_static {kx nx : Nat} (cx : Cx Z p s m meth c R kx nx own nm code maxL ret) {i W k' n' maxL' : Nat} {bytes : ByteArray} {ret' : Option FieldType} {rm : Room} {argsL : List Value} {Q' : Option Value → Heap → Prop} {y : MethodName} (d : Dc code pc (.invokestatic i) 3 pc') (w1 : (Jvm.Cond.methodLink own i y).before a0 Z = true) (w2 : (Jvm.Cond.static y).before a0 Z = true) (w3 : (Jvm.Cond.initialized y.cls).before a0 Z = true) (w4 : (Jvm.Cond.code y bytes maxL' ret').before a0 Z = true) (hy : y.cls ≠ "java/lang/invoke/MethodHandle" ∧ y.cls ≠ "java/lang/invoke/VarHandle") (M : Met l Z y bytes maxL' ret' rm argsL.toArray h Q') (hsz : Ls.size = maxL) (hlen : ∀ sig, parseMethodDescriptor y.desc = some sig → argsL.length = sig.parameters.length) (hf : rm.frames + 1 ≤ R.frames) (hW : (rest.map fun v => v.category).sum ≤ W) (hl : W + (maxL' + 11) + rm.locals ≤ R.locals) (hk1 : k + rm.cells = k') (hn1 : n + rm.slots = n') (hkR : k' ≤ R.cells) (hnR : n' ≤ R.slots)
    (hst : st = argsL.reverse ++ rest) (H : ∀ v h', Q' v h' → G p l e R s m args below meth c Z.heap.size Q h' k' n' pc' Ls (v.toList ++ rest)) : G p l e R s m args below meth c Z.heap.size Q h k n pc Ls st := by
  obtain ⟨hx, hZ, hown, rfl, hml, hret, hnm, -⟩ := cx
  obtain ⟨d, rfl⟩ := d
  subst hk1 hn1 hst
  intro T locs cells slots X N eT hk hn
  obtain ⟨v, _, ⟨T', L', k1', n1'⟩, -, X', ⟨Lc, hQ, l1, l2, l3⟩, stp⟩ := Jvm.LawKit.callS X hx (y := y) hown (mvT hZ w1) (mvT hZ w2) (mvT hZ w3) (mvT hZ w4) hy (backOf (W := W) (Q := fun v h L => Q' v h ∧ Fr Z.heap.size L) (M []) hZ w4 w3 hf hl) (g := mkF m pc Ls (argsL.reverse ++ rest)) rfl (by rw [hml]; exact hsz)  (argsL := argsL) (rest := rest) hlen rfl (by show 2 * 0 + _ ≤ _; omega) d (fun _ _ => ⟨rfl, eT, (by show cells + rm.cells ≤ _; omega), (by show slots + rm.slots ≤ _; omega)⟩)
  dsimp only [Pt.U, Pt.locs, Pt.cells, Pt.slots] at X' l1 l2 l3 stp hQ
  subst l1 l2 l3
  obtain ⟨s₂, o, st2, r⟩ := H v T'.heap hQ.1 T' _ _ _ X' (Fr.app N hQ.2) rfl (by omega) (by omega)
  exact ⟨s₂, o, stp _ st2, r⟩
theorem g_special {kx nx : Nat} (cx : Cx Z p s m meth c R kx nx own nm code maxL ret) {i W k' n' maxL' : Nat} {bytes : ByteArray} {ret' : Option FieldType} {rm : Room} {argsL : List Value} {Q' : Option Value → Heap → Prop} {y : MethodName} {a : Addr} (d : Dc code pc (.invokespecial i) 3 pc') (hyn : y.name = "<init>") (hr0 : ret' = none) (w1 : (Jvm.Cond.methodLink own i y).before a0 Z = true) (w2 : (Jvm.Cond.instanceMethod y).before a0 Z = true) (w3 : (Jvm.Cond.initialized y.cls).before a0 Z = true) (w4 : (Jvm.Cond.code y bytes maxL' ret').before a0 Z = true) (hy : y.cls ≠ "java/lang/invoke/MethodHandle" ∧ y.cls ≠ "java/lang/invoke/VarHandle") (M : Met l Z y bytes maxL' ret' rm (.ref a :: argsL).toArray h Q') (hsz : Ls.size = maxL) (hlen : ∀ sig, parseMethodDescriptor y.desc = some sig → argsL.length = sig.parameters.length) (hf : rm.frames + 1 ≤ R.frames) (hW : (rest.map fun v => v.category).sum ≤ W) (hl : W + (maxL' + 11) + rm.locals ≤ R.locals) (hk1 : k + rm.cells = k') (hn1 : n + rm.slots = n') (hkR : k' ≤ R.cells) (hnR : n' ≤ R.slots)
    (hst : st = argsL.reverse ++ .ref a :: rest) (H : ∀ v h', Q' v h' → G p l e R s m args below meth c Z.heap.size Q h' k' n' pc' Ls (v.toList ++ rest)) : G p l e R s m args below meth c Z.heap.size Q h k n pc Ls st := by
  obtain ⟨hx, hZ, hown, rfl, hml, hret, hnm, -⟩ := cx
  obtain ⟨d, rfl⟩ := d
  subst hk1 hn1 hst
  intro T locs cells slots X N eT hk hn
  subst hr0
  obtain ⟨v, _, ⟨T', L', k1', n1'⟩, -, X', ⟨Lc, hQ, l1, l2, l3⟩, stp⟩ := X.specialBack hx (y := y) hyn hown (mvT hZ w1) (mvT hZ w2) (mvT hZ w4) hy (backOf (W := W) (Q := fun v h L => Q' v h ∧ Fr Z.heap.size L) (M []) hZ w4 w3 hf hl) (g := mkF m pc Ls (argsL.reverse ++ .ref a :: rest)) rfl (by rw [hml]; exact hsz) (Steps.refl _) (a := a) (argsL := argsL) (rest := rest) hlen rfl (by show 2 * 0 + _ ≤ _; omega) d (fun _ _ => ⟨rfl, eT, (by show cells + rm.cells ≤ _; omega), (by show slots + rm.slots ≤ _; omega)⟩)
  dsimp only [Pt.U, Pt.locs, Pt.cells, Pt.slots] at X' l1 l2 l3 stp hQ
  subst l1 l2 l3
  obtain ⟨s₂, o, st2, r⟩ := H v T'.heap hQ.1 T' _ _ _ X' (Fr.app N hQ.2) rfl (by omega) (by omega)
  exact ⟨s₂, o, stp.trans st2, r⟩
theorem g_virtual {kx nx : Nat} (cx : Cx Z p s m meth c R kx nx own nm code maxL ret) {i W k' n' maxL' : Nat} {bytes : ByteArray} {ret' : Option FieldType} {rm : Room} {argsL : List Value} {Q' : Option Value → Heap → Prop} {y z : MethodName} {a : Addr} {C : String} (d : Dc code pc (.invokevirtual i) 3 pc') (w1 : (Jvm.Cond.methodLink own i y).before a0 Z = true) (w2 : (Jvm.Cond.declares y).before a0 Z = true) (w3 : (Jvm.Cond.initialized z.cls).before a0 Z = true) (w4 : (Jvm.Cond.code z bytes maxL' ret').before a0 Z = true) (w5 : (Jvm.Cond.selects C y z).before a0 Z = true) (w6 : (Jvm.Cond.instanceMethod z).before a0 Z = true) (hnf : y = z) (hy : y.cls ≠ "java/lang/invoke/MethodHandle" ∧ y.cls ≠ "java/lang/invoke/VarHandle") (E : Exa Z h a C) (M : Met l Z z bytes maxL' ret' rm (.ref a :: argsL).toArray h Q') (hsz : Ls.size = maxL) (hlen : ∀ sig, parseMethodDescriptor y.desc = some sig → argsL.length = sig.parameters.length) (hf : rm.frames + 1 ≤ R.frames) (hW : (rest.map fun v => v.category).sum ≤ W) (hl : W + (maxL' + 11) + rm.locals ≤ R.locals) (hk1 : k + rm.cells = k') (hn1 : n + rm.slots = n') (hkR : k' ≤ R.cells) (hnR : n' ≤ R.slots)
    (hst : st = argsL.reverse ++ .ref a :: rest) (H : ∀ v h', Q' v h' → G p l e R s m args below meth c Z.heap.size Q h' k' n' pc' Ls (v.toList ++ rest)) : G p l e R s m args below meth c Z.heap.size Q h k n pc Ls st := by
  obtain ⟨hx, hZ, hown, rfl, hml, hret, hnm, -⟩ := cx
  obtain ⟨d, rfl⟩ := d
  subst hk1 hn1 hst
  intro T locs cells slots X N eT hk hn
  subst hnf
  obtain ⟨cq, kq, q1, q2, q3⟩ := isOf hZ eT E
  obtain ⟨v, _, ⟨T', L', k1', n1'⟩, -, X', ⟨Lc, hQ, l1, l2, l3⟩, stp⟩ := X.virtualBack hx (y := y) (z := y) hown (mvT hZ w1) (mvT hZ w2) (notFace_of_selects (args := #[]) (mvT hZ w5)) (mvT hZ w5) (mvT hZ w6) hy (backOf (W := W) (Q := fun v h L => Q' v h ∧ Fr Z.heap.size L) (M []) hZ w4 w3 hf hl) q1 q3 (g := mkF m pc Ls (argsL.reverse ++ .ref a :: rest)) rfl (by rw [hml]; exact hsz) (Steps.refl _) (argsL := argsL) (rest := rest) hlen rfl (by show 2 * 0 + _ ≤ _; omega) d (fun _ _ => ⟨rfl, eT, (by show cells + rm.cells ≤ _; omega), (by show slots + rm.slots ≤ _; omega)⟩)
  dsimp only [Pt.U, Pt.locs, Pt.cells, Pt.slots] at X' l1 l2 l3 stp hQ
  subst l1 l2 l3
  obtain ⟨s₂, o, st2, r⟩ := H v T'.heap hQ.1 T' _ _ _ X' (Fr.app N hQ.2) rfl (by omega) (by omega)
  exact ⟨s₂, o, stp.trans st2, r⟩
theorem g_private {kx nx : Nat} (cx : Cx Z p s m meth c R kx nx own nm code maxL ret) {i W k' n' maxL' : Nat} {bytes : ByteArray} {ret' : Option FieldType} {rm : Room} {argsL : List Value} {Q' : Option Value → Heap → Prop} {y : MethodName} {a : Addr} (d : Dc code pc (.invokevirtual i) 3 pc') (w1 : (Jvm.Cond.methodLink own i y).before a0 Z = true) (w2 : (Jvm.Cond.instanceMethod y).before a0 Z = true) (w3 : (Jvm.Cond.initialized y.cls).before a0 Z = true) (w4 : (Jvm.Cond.code y bytes maxL' ret').before a0 Z = true) (w5 : (Jvm.Cond.selects y.cls y y).before a0 Z = true) (w6 : (Jvm.Cond.privateMethod y).before a0 Z = true) (hy : y.cls ≠ "java/lang/invoke/MethodHandle" ∧ y.cls ≠ "java/lang/invoke/VarHandle") {C : String} (E : Exa Z h a C) (M : Met l Z y bytes maxL' ret' rm (.ref a :: argsL).toArray h Q') (hsz : Ls.size = maxL) (hlen : ∀ sig, parseMethodDescriptor y.desc = some sig → argsL.length = sig.parameters.length) (hf : rm.frames + 1 ≤ R.frames) (hW : (rest.map fun v => v.category).sum ≤ W) (hl : W + (maxL' + 11) + rm.locals ≤ R.locals) (hk1 : k + rm.cells = k') (hn1 : n + rm.slots = n') (hkR : k' ≤ R.cells) (hnR : n' ≤ R.slots)
    (hst : st = argsL.reverse ++ .ref a :: rest) (H : ∀ v h', Q' v h' → G p l e R s m args below meth c Z.heap.size Q h' k' n' pc' Ls (v.toList ++ rest)) : G p l e R s m args below meth c Z.heap.size Q h k n pc Ls st := by
  obtain ⟨hx, hZ, hown, rfl, hml, hret, hnm, -⟩ := cx
  obtain ⟨d, rfl⟩ := d
  subst hk1 hn1 hst
  intro T locs cells slots X N eT hk hn
  obtain ⟨cq, q1, q2⟩ := E.cell
  obtain ⟨v, _, ⟨T', L', k1', n1'⟩, -, X', ⟨Lc, hQ, l1, l2, l3⟩, stp⟩ := X.privateBack hx (y := y) hown (mvT hZ w1) (mvT hZ w2) (mvT hZ w5) (Cond.privateMethod_at (mvP hZ w6 (args := #[]))) (mvT hZ w4) hy (backOf (W := W) (Q := fun v h L => Q' v h ∧ Fr Z.heap.size L) (M []) hZ w4 w3 hf hl) (g := mkF m pc Ls (argsL.reverse ++ .ref a :: rest)) rfl (by rw [hml]; exact hsz) (Steps.refl _) (a := a) (by rw [eT]; exact q1) q2 (argsL := argsL) (rest := rest) hlen rfl (by show 2 * 0 + _ ≤ _; omega) d (fun _ _ => ⟨rfl, eT, (by show cells + rm.cells ≤ _; omega), (by show slots + rm.slots ≤ _; omega)⟩)
  dsimp only [Pt.U, Pt.locs, Pt.cells, Pt.slots] at X' l1 l2 l3 stp hQ
  subst l1 l2 l3
  obtain ⟨s₂, o, st2, r⟩ := H v T'.heap hQ.1 T' _ _ _ X' (Fr.app N hQ.2) rfl (by omega) (by omega)
  exact ⟨s₂, o, stp.trans st2, r⟩
theorem g_virtualUp {kx nx : Nat} (cx : Cx Z p s m meth c R kx nx own nm code maxL ret) {i W k' n' maxL' : Nat} {bytes : ByteArray} {ret' : Option FieldType} {rm : Room} {argsL : List Value} {Q' : Option Value → Heap → Prop} {x y : MethodName} {a : Addr} {C owner : String} (d : Dc code pc (.invokevirtual i) 3 pc') (w1 : (Jvm.Cond.methodLink own i x).before a0 Z = true) (w0 : (Jvm.Cond.sameMethod x.cls owner x.name x.desc).before a0 Z = true) (w2 : (Jvm.Cond.declares ⟨owner, x.name, x.desc⟩).before a0 Z = true) (w3 : (Jvm.Cond.initialized y.cls).before a0 Z = true) (w4 : (Jvm.Cond.code y bytes maxL' ret').before a0 Z = true) (w5 : (Jvm.Cond.selects C x y).before a0 Z = true) (w6 : (Jvm.Cond.instanceMethod y).before a0 Z = true) (hy : owner ≠ "java/lang/invoke/MethodHandle" ∧ owner ≠ "java/lang/invoke/VarHandle") (E : Exa Z h a C) (M : Met l Z y bytes maxL' ret' rm (.ref a :: argsL).toArray h Q') (hsz : Ls.size = maxL) (hlen : ∀ sig, parseMethodDescriptor x.desc = some sig → argsL.length = sig.parameters.length) (hf : rm.frames + 1 ≤ R.frames) (hW : (rest.map fun v => v.category).sum ≤ W) (hl : W + (maxL' + 11) + rm.locals ≤ R.locals) (hk1 : k + rm.cells = k') (hn1 : n + rm.slots = n') (hkR : k' ≤ R.cells) (hnR : n' ≤ R.slots)
    (hst : st = argsL.reverse ++ .ref a :: rest) (H : ∀ v h', Q' v h' → G p l e R s m args below meth c Z.heap.size Q h' k' n' pc' Ls (v.toList ++ rest)) : G p l e R s m args below meth c Z.heap.size Q h k n pc Ls st := by
  obtain ⟨hx, hZ, hown, rfl, hml, hret, hnm, -⟩ := cx
  obtain ⟨d, rfl⟩ := d
  subst hk1 hn1 hst
  intro T locs cells slots X N eT hk hn
  obtain ⟨cq, kq, q1, q2, q3⟩ := isOf hZ eT E
  obtain ⟨v, _, ⟨T', L', k1', n1'⟩, -, X', ⟨Lc, hQ, l1, l2, l3⟩, stp⟩ := X.virtualBackUp hx (x := x) (y := y) hown (mvT hZ w1) (mvT hZ w0) (mvT hZ w2) hy (mvT hZ w5) (mvT hZ w6) (backOf (W := W) (Q := fun v h L => Q' v h ∧ Fr Z.heap.size L) (M []) hZ w4 w3 hf hl) q1 q3 (g := mkF m pc Ls (argsL.reverse ++ .ref a :: rest)) rfl (by rw [hml]; exact hsz) (Steps.refl _) (argsL := argsL) (rest := rest) hlen rfl (by show 2 * 0 + _ ≤ _; omega) d (fun _ _ => ⟨rfl, eT, (by show cells + rm.cells ≤ _; omega), (by show slots + rm.slots ≤ _; omega)⟩)
  dsimp only [Pt.U, Pt.locs, Pt.cells, Pt.slots] at X' l1 l2 l3 stp hQ
  subst l1 l2 l3
  obtain ⟨s₂, o, st2, r⟩ := H v T'.heap hQ.1 T' _ _ _ X' (Fr.app N hQ.2) rfl (by omega) (by omega)
  exact ⟨s₂, o, stp.trans st2, r⟩
theorem specialRef {T : State} {locs : List Loc} {cells slots : Nat} (X : Stand p l e R s m args below meth c T locs cells slots) (hexec : p.tables.exec = Jvm.exec) (hZ : Z.Warmed39 s.vm) {index : Nat} {y : MethodName} (hy1 : y.name = "<init>") (hown : s.vm.findClass own = some m.cls)
    (href : (Jvm.Cond.methodRef own index y).before a0 Z = true) (hinst : (Jvm.Cond.instanceMethod y).before a0 Z = true) {bytes : ByteArray} {mL : Nat} (hcode : (Jvm.Cond.code y bytes mL none).before a0 Z = true) (hy : y.cls ≠ "java/lang/invoke/MethodHandle" ∧ y.cls ≠ "java/lang/invoke/VarHandle")
    {W : Nat} {Pre : Pt → Array Value → Prop} {Post : Pt → Array Value → Option Value → Pt → Prop} (hK : Back l R p e below s args y 3 W Pre Post)
    {g : JFrame} (hg : g.method = m) (hsize : g.locals.size = c.maxLocals) {a : Addr} {argsL rest : List Value}
    (hlen : ∀ sig, parseMethodDescriptor y.desc = some sig → argsL.length = sig.parameters.length) (hstack : g.stack = argsL.reverse ++ .ref a :: rest) (hW : 2 * g.monitorRoom + (rest.map fun v => v.category).sum ≤ W)
    (hdg : decode c.code g.pc = .ok (.invokespecial index, 3)) (hpre : Pre ⟨T, locs, cells, slots⟩ (.ref a :: argsL).toArray) :
    ∃ (v : Option Value) (B : Pt), Stand p l e R s m args below meth c B.U B.locs B.cells B.slots ∧ Post ⟨T, locs, cells, slots⟩ (.ref a :: argsL).toArray v B ∧
      Steps p.tables e below (T.setTop g) (B.U.setTop { g with pc := g.pc + 3, stack := v.toList ++ rest }) := by
  have hZT : Z.Warmed39 T.vm := wtrans hZ X.warmed
  have hinst' : (Jvm.Cond.instanceMethod y).before args s = true := mvT hZ hinst
  have hcode' : (Jvm.Cond.code y bytes mL none).before args s = true := mvT hZ hcode
  obtain ⟨obj, methO, hnO, hmO, hstO, habO⟩ := Cond.instanceMethod_spec hinst'
  obtain ⟨methO', cO, hmO', hcO, hbO, hlO, -, hlockO, -, hsigO⟩ := Cond.code_spec hnO hcode'
  cases hmO.symm.trans hmO'
  obtain ⟨kO, hkO, hnameO⟩ := className_of_methodNamed hnO
  obtain ⟨hnameMO, hdescO⟩ := name_of_methodNamed hnO hmO
  obtain ⟨objZ, _, hnZ, -⟩ := Cond.instanceMethod_spec hinst
  have hr : (Jvm.Cond.methodRef own index y).before a0 (Z.setVm T.vm) = true := Cond.methodRef_warmed39 hZT hnZ hy href
  have hownT : (Z.setVm T.vm).vm.findClass own = some m.cls := by show T.vm.findClass own = _; rw [X.warmed.alike.findClass]; exact hown
  obtain ⟨m', c', hm', hready, hfind, hnamed⟩ := Cond.methodRef_named e hownT hr
  have hf0 : s.methodFound? y.cls y.name y.desc = some obj := State.methodFound?_of_named hnO hy
  have hf1 : (s.setVm T.vm).methodFound? y.cls y.name y.desc = some obj := (State.methodFound?_setVm_of_named X.warmed.alike hnO hy).trans hf0
  have hf2 : (Z.setVm T.vm).methodFound? y.cls y.name y.desc = some obj := hf1
  cases hf2.symm.trans hm'
  have hcc : c' = obj.cls := by
    have h1 : T.vm.findClass y.cls = some c' := hfind
    rw [X.warmed.alike.findClass, findClass_of_methodNamed hnO] at h1
    exact (Option.some.inj h1).symm
  subst hcc
  obtain ⟨kO₂, hkO₂, heO₂⟩ := X.warmed.alike.2.2 _ _ hkO
  have hmO₂ : T.vm.method? obj = some methO := by rw [X.warmed.alike.method?]; exact hmO
  have hfound : lookupSpecial T.vm obj.cls "<init>" methO.desc = .method obj := by
    rw [X.warmed.alike.lookupSpecial, hdescO, ← hy1]; exact lookupSpecial_of_named hnO hmO hstO
  obtain ⟨v, B, X', hpost, hsteps⟩ := hK m meth c ⟨T, locs, cells, slots⟩ { g with stack := rest } (.invokespecial index) obj (.ref a :: argsL).toArray X hg hsize hdg hW (X.named hnO) hpre
  refine ⟨v, B, X', hpost, Steps.trans ?_ hsteps⟩
  subst hg
  jvm_step X.here [hexec, hdg, invokespecial.wp_init (e := e) (s := T) (k := kO₂) (meth := methO) (m := obj) (a := a) (args := argsL) (rest := rest) (f := g) X.here.top hnamed hready hkO₂ hmO₂ (by rw [hnameMO]; exact hy1) hstO habO hfound (hlen _ hsigO) hstack]
  intro acts
  rw [doInvoke_state]
  exact Steps.refl _
theorem g_specialRef {kx nx : Nat} (cx : Cx Z p s m meth c R kx nx own nm code maxL ret) {i W k' n' maxL' : Nat} {bytes : ByteArray} {ret' : Option FieldType} {rm : Room} {argsL : List Value} {Q' : Option Value → Heap → Prop} {y : MethodName} {a : Addr} (d : Dc code pc (.invokespecial i) 3 pc') (hyn : y.name = "<init>") (hr0 : ret' = none) (w1 : (Jvm.Cond.methodRef own i y).before a0 Z = true) (w2 : (Jvm.Cond.instanceMethod y).before a0 Z = true) (w3 : (Jvm.Cond.initialized y.cls).before a0 Z = true) (w4 : (Jvm.Cond.code y bytes maxL' ret').before a0 Z = true) (hy : y.cls ≠ "java/lang/invoke/MethodHandle" ∧ y.cls ≠ "java/lang/invoke/VarHandle") (M : Met l Z y bytes maxL' ret' rm (.ref a :: argsL).toArray h Q') (hsz : Ls.size = maxL) (hlen : ∀ sig, parseMethodDescriptor y.desc = some sig → argsL.length = sig.parameters.length) (hf : rm.frames + 1 ≤ R.frames) (hW : (rest.map fun v => v.category).sum ≤ W) (hl : W + (maxL' + 11) + rm.locals ≤ R.locals) (hk1 : k + rm.cells = k') (hn1 : n + rm.slots = n') (hkR : k' ≤ R.cells) (hnR : n' ≤ R.slots)
    (hst : st = argsL.reverse ++ .ref a :: rest) (H : ∀ v h', Q' v h' → G p l e R s m args below meth c Z.heap.size Q h' k' n' pc' Ls (v.toList ++ rest)) : G p l e R s m args below meth c Z.heap.size Q h k n pc Ls st := by
  obtain ⟨hx, hZ, hown, rfl, hml, hret, hnm, -⟩ := cx
  obtain ⟨d, rfl⟩ := d
  subst hk1 hn1 hst
  intro T locs cells slots X N eT hk hn
  subst hr0
  obtain ⟨v, ⟨T', L', k1', n1'⟩, X', ⟨Lc, hQ, l1, l2, l3⟩, stp⟩ := specialRef X hx hZ (y := y) hyn hown w1 w2 w4 hy (backOf (W := W) (Q := fun v h L => Q' v h ∧ Fr Z.heap.size L) (M []) hZ w4 w3 hf hl) (g := mkF m pc Ls (argsL.reverse ++ .ref a :: rest)) rfl (by rw [hml]; exact hsz) (a := a) (argsL := argsL) (rest := rest) hlen rfl (by show 2 * 0 + _ ≤ _; omega) d ⟨rfl, eT, (by show cells + rm.cells ≤ _; omega), (by show slots + rm.slots ≤ _; omega)⟩
  dsimp only [Pt.U, Pt.locs, Pt.cells, Pt.slots] at X' l1 l2 l3 stp hQ
  subst l1 l2 l3
  obtain ⟨s₂, o, st2, r⟩ := H v T'.heap hQ.1 T' _ _ _ X' (Fr.app N hQ.2) rfl (by omega) (by omega)
  exact ⟨s₂, o, stp.trans st2, r⟩
theorem g_lsw {kx nx : Nat} (cx : Cx Z p s m meth c R kx nx own nm code maxL ret) {x : Int32} {dflt : Int} {pairs : Array (Int × Int)} {len : Nat} (d : decode code pc = .ok (.lookupswitch dflt pairs, len)) (hs : (pairs.toList.zip (pairs.toList.drop 1)).all (fun (a, next) => a.1 < next.1) = true) {off : Int} (hf : ((pairs.find? (·.1 == x.toInt)).map (·.2)).getD dflt = off) (h0 : 0 ≤ (pc : Int) + off) (hp : ((pc : Int) + off).toNat = pc') (H : G p l e R s m args below meth c Z.heap.size Q h k n pc' Ls st) : G p l e R s m args below meth c Z.heap.size Q h k n pc Ls (.int x :: st) := by
  obtain ⟨hx, hZ, hown, rfl, hml, hret, hnm, -⟩ := cx
  subst hp
  intro T locs cells slots X N eT hk hn
  obtain ⟨s₂, o, st2, r⟩ := H T locs cells slots X N eT hk hn
  cases hq : pairs.find? (·.1 == x.toInt) with
  | none =>
    rw [hq] at hf
    have hf' : dflt = off := hf
    subst hf'
    exact ⟨s₂, o, X.lookupswitchMiss hx (g := mkF m pc Ls (.int x :: st)) rfl rfl d hs hq h0 _ st2, r⟩
  | some ao =>
    rw [hq] at hf
    have hf' : ao.2 = off := hf
    subst hf'
    exact ⟨s₂, o, X.lookupswitchHit hx (g := mkF m pc Ls (.int x :: st)) rfl rfl d hs (a := ao.1) (off := ao.2) hq h0 _ st2, r⟩
theorem lsw_miss {x : Int32} {dflt : Int} {pairs : Array (Int × Int)} (q : ∀ a ∈ pairs.toList, a.1 ≠ x.toInt) : ((pairs.find? (·.1 == x.toInt)).map (·.2)).getD dflt = dflt := by rw [find_miss q]; rfl
theorem g_aaloadR {kx nx : Nat} (cx : Cx Z p s m meth c R kx nx own nm code maxL ret) {a : Addr} {cl : Cell} {j : Int32} {v : Value} {ty : FieldType} (d : Dc code pc .aaload 1 pc') (A : Arr Z h a cl ty) (hty : ty.isReference = true) (hj : ¬ (j < 0 ∨ cl.slots.size ≤ j.toNatClampNeg)) (hv : cl.slots[j.toNatClampNeg]? = some v) (H : G p l e R s m args below meth c Z.heap.size Q h k n pc' Ls (v :: st)) : G p l e R s m args below meth c Z.heap.size Q h k n pc Ls (.int j :: .ref a :: st) := by
  obtain ⟨hx, hZ, hown, rfl, hml, hret, hnm, -⟩ := cx
  obtain ⟨d, rfl⟩ := d
  intro T locs cells slots X N eT hk hn
  obtain ⟨s₂, o, st2, r⟩ := H T _ cells slots X N eT hk hn
  exact ⟨s₂, o, X.aaload hx (j := j) (v := v) (by rw [eT]; exact A.1) (State.isArrayOf_alike hZ.alike A.2.1) hty A.2.2 hj hv (g := mkF m pc Ls (.int j :: .ref a :: st)) rfl rfl d _ st2, r⟩
theorem arr_len {t : Term} {a : Addr} {cl : Cell} {ty : FieldType} {z : Int32} (ev : t.eval args Z none [] Z = some (.ref a)) (A : Arr Z Z.heap a cl ty) (h3 : (Jvm.Cond.eq (.length t) (.int z)).value args Z none Z [] = some true) : cl.slots.size < 2 ^ 31 ∧ cl.slots.size.toInt32 = z := by
  have ex := eqv_i (F := .int z) rfl h3
  have A1 := A.fin (Vm.Alike.refl _)
  have hl : cl.slots.size < 2 ^ 31 := by
    refine Decidable.byContradiction fun hc => ?_
    simp [Term.eval, ev, A1, hc] at ex
  rw [len_f ev A1 hl] at ex
  exact ⟨hl, by simpa using ex⟩
theorem sta_arr {C f d : String} {ty : FieldType} {z : Int32} (hi : (Jvm.Cond.initializedFor C f d).before args Z = true ∨ ((Jvm.Cond.initialized C).before args Z = true ∧ (Jvm.Cond.laysStatic C f d).before args Z = true)) (h1 : (Jvm.Cond.arrayOf (.static C f d) ty).value args Z none Z [] = some true) (h3 : (Jvm.Cond.eq (.length (.static C f d)) (.int z)).value args Z none Z [] = some true) :
    ∃ a cl, Sta Z Z.heap C f d (.ref a) ∧ (Term.static C f d).eval args Z none [] Z = some (.ref a) ∧ Arr Z Z.heap a cl ty ∧ cl.slots.size < 2 ^ 31 ∧ cl.slots.size.toInt32 = z := by
  obtain ⟨a, ev⟩ := arr_v h1
  obtain ⟨cl, A⟩ := Arr.start ev h1
  obtain ⟨q1, q2⟩ := arr_len ev A h3
  exact ⟨a, cl, Sta.start ev hi, ev, A, q1, q2⟩
theorem fld_exa {t : Term} {C f d K : String} {a : Addr} (ev : t.eval args Z none [] Z = some (.ref a)) (h : (Jvm.Cond.exactly (.field t C f d) K).value args Z none Z [] = some true) : ∃ b, Fld Z Z.heap a C f d (.ref b) ∧ Exa Z Z.heap b K ∧ (Term.field t C f d).eval args Z none [] Z = some (.ref b) := by
  obtain ⟨b, eb⟩ := exa_v h
  exact ⟨b, Fld.start ((fld_at ev).symm.trans eb), Exa.start eb h, eb⟩
theorem fld_arr {t : Term} {C f d : String} {a : Addr} {ty : FieldType} {z : Int32} (ev : t.eval args Z none [] Z = some (.ref a)) (h : (Jvm.Cond.arrayOf (.field t C f d) ty).value args Z none Z [] = some true) (h3 : (Jvm.Cond.eq (.length (.field t C f d)) (.int z)).value args Z none Z [] = some true) : ∃ b cl, Fld Z Z.heap a C f d (.ref b) ∧ (Term.field t C f d).eval args Z none [] Z = some (.ref b) ∧ Arr Z Z.heap b cl ty ∧ cl.slots.size < 2 ^ 31 ∧ cl.slots.size.toInt32 = z := by
  obtain ⟨b, eb⟩ := arr_v h
  obtain ⟨cl, A⟩ := Arr.start eb h
  obtain ⟨q1, q2⟩ := arr_len eb A h3
  exact ⟨b, cl, Fld.start ((fld_at ev).symm.trans eb), eb, A, q1, q2⟩
theorem elem_eq {t : Term} {a : Addr} {cl : Cell} {ty : FieldType} {j v : Int32} (ev : t.eval args Z none [] Z = some (.ref a)) (A : Arr Z Z.heap a cl ty) (h : (Jvm.Cond.eq (.elem t (.int j)) (.int v)).value args Z none Z [] = some true) : cl.slots[j.toNatClampNeg]? = some (.int v) := (elem_in (eqv_i (F := .int v) rfl h) ev rfl A.1).2
theorem nar1 : nar .boolean 1 = 1 := rfl
theorem nar0 : nar .boolean 0 = 0 := rfl
theorem sta_exa {C f d K : String} (hx : (Jvm.Cond.exactly (.static C f d) K).value args Z none Z [] = some true) (wi : (Jvm.Cond.initialized C).before args Z = true) (wl : (Jvm.Cond.laysStatic C f d).before args Z = true) : ∃ a, Sta Z Z.heap C f d (.ref a) ∧ Exa Z Z.heap a K ∧ (Term.static C f d).eval args Z none [] Z = some (.ref a) := by
  obtain ⟨a, ev⟩ := exa_v hx
  exact ⟨a, Sta.start ev (Or.inr ⟨wi, wl⟩), Exa.start ev hx, ev⟩
theorem fld_eq {t : Term} {C f d : String} {a : Addr} {v : Int32} (ev : t.eval args Z none [] Z = some (.ref a)) (h : (Jvm.Cond.eq (.field t C f d) (.int v)).value args Z none Z [] = some true) : Fld Z Z.heap a C f d (.int v) := by
  obtain ⟨x, y, ex, ey, -, k2⟩ := cmp_v (Or.inl h)
  have e2 : y = .int v := by simpa [Term.eval] using ey.symm
  subst e2
  obtain ⟨z, rfl⟩ := k2
  have hz : z = v := by simpa [Cond.value, ex, ey] using h
  subst hz
  rw [fld_at ev] at ex
  exact Fld.start ex
theorem sta_int {C f d : String} (hi : (Jvm.Cond.initializedFor C f d).before args Z = true) (h1 : (Jvm.Cond.isInt (.static C f d)).before args Z = true) : ∃ v, Sta Z Z.heap C f d (.int v) ∧ (Term.static C f d).eval args Z none [] Z = some (.int v) := by
  obtain ⟨v, ev⟩ := is_v (Cond.before_iff.mp h1)
  exact ⟨v, Sta.start ev (Or.inl hi), ev⟩
theorem ne_of_not {t : Term} {z v : Int32} (ev : t.eval args Z none [] Z = some (.int z)) (h : (Jvm.Cond.not (.eq t (.int v))).before args Z = true) : ¬ z = v := by
  have h2 := not_v (Cond.before_iff.mp h)
  intro q
  subst q
  simp [Cond.value, ev, Term.eval] at h2
theorem own_lrem (x y : Int64) (d : Int) (hy : y.toInt = d) : (0 ≤ x.toInt → (x % y).toInt = x.toInt % d) ∧ (x.toInt < 0 → (x % y).toInt = -((-x.toInt) % d)) := by
  rw [← lrem_mod]; exact c_lrem x y d hy
end Walk
def ObP (Z : State) (h : Heap) (a : Addr) (v1 v2 v3 v4 : Value) : Prop := Exa Z h a "com/example/thalweg/thalweg/cli/Mpeg1Reader$Picture" ∧ Fld Z h a "com/example/thalweg/thalweg/cli/Mpeg1Reader$Picture" "index" "J" v1 ∧ Fld Z h a "com/example/thalweg/thalweg/cli/Mpeg1Reader$Picture" "type" "C" v2 ∧ Fld Z h a "com/example/thalweg/thalweg/cli/Mpeg1Reader$Picture" "deps" "Ljava/util/List;" v3 ∧ Fld Z h a "com/example/thalweg/thalweg/cli/Mpeg1Reader$Picture" "payload" "[B" v4
theorem ObP.ext {h' : Heap} {Z : State} {h : Heap} {a : Addr} {v1 v2 v3 v4 : Value} (F : ObP Z h a v1 v2 v3 v4) (E : Ext h h') : ObP Z h' a v1 v2 v3 v4 := ⟨F.1.ext E, F.2.1.ext E, F.2.2.1.ext E, F.2.2.2.1.ext E, F.2.2.2.2.ext E⟩
theorem ObP.keep {h' : Heap} {Z : State} {h : Heap} {a : Addr} {v1 v2 v3 v4 : Value} {ws : List Addr} (F : ObP Z h a v1 v2 v3 v4) (K : Keep h h' ws) (q : a ∉ ws) : ObP Z h' a v1 v2 v3 v4 := ⟨F.1.keep K, F.2.1.keep K q, F.2.2.1.keep K q, F.2.2.2.1.keep K q, F.2.2.2.2.keep K q⟩
theorem ObP.oth {x : Addr} {sl : Nat} {w : Value} {h' : Heap} {Z : State} {h : Heap} {a : Addr} {v1 v2 v3 v4 : Value} (F : ObP Z h a v1 v2 v3 v4) (W : Wr h h' x sl w) (q : a ≠ x) : ObP Z h' a v1 v2 v3 v4 := ⟨F.1.wr W, F.2.1.other W (Or.inl q), F.2.2.1.other W (Or.inl q), F.2.2.2.1.other W (Or.inl q), F.2.2.2.2.other W (Or.inl q)⟩
theorem ObP.lt {Z : State} {h : Heap} {a : Addr} {v1 v2 v3 v4 : Value} (F : ObP Z h a v1 v2 v3 v4) : a < h.size := F.1.lt
theorem ObP.put1 {v : Value} {h' : Heap} {Z : State} {h : Heap} {a : Addr} {v1 v2 v3 v4 : Value} {a0 : Array Value} (hw : ∀ d ∈ tables_1, d.before a0 Z = true) (F : ObP Z h a v1 v2 v3 v4) (W : Wr h h' a (Jvm.RoadKit.slotOf Z "com/example/thalweg/thalweg/cli/Mpeg1Reader$Picture" "index" "J") v) : ObP Z h' a v v2 v3 v4 := ⟨F.1.wr W, F.2.1.same W, F.2.2.1.other W (Or.inr (slot_ne (Or.inr (hw _ (List.mem_of_getElem? (i := 83) rfl))) (Or.inr (hw _ (List.mem_of_getElem? (i := 81) rfl))) (by decide) (t := .char) (t' := .long) (by decide) (by decide))), F.2.2.2.1.other W (Or.inr (slot_ne (Or.inr (hw _ (List.mem_of_getElem? (i := 85) rfl))) (Or.inr (hw _ (List.mem_of_getElem? (i := 81) rfl))) (by decide) (t := (.object "java/util/List")) (t' := .long) (by decide) (by decide))), F.2.2.2.2.other W (Or.inr (slot_ne (Or.inr (hw _ (List.mem_of_getElem? (i := 87) rfl))) (Or.inr (hw _ (List.mem_of_getElem? (i := 81) rfl))) (by decide) (t := (.array .byte)) (t' := .long) (by decide) (by decide)))⟩
theorem ObP.put2 {v : Value} {h' : Heap} {Z : State} {h : Heap} {a : Addr} {v1 v2 v3 v4 : Value} {a0 : Array Value} (hw : ∀ d ∈ tables_1, d.before a0 Z = true) (F : ObP Z h a v1 v2 v3 v4) (W : Wr h h' a (Jvm.RoadKit.slotOf Z "com/example/thalweg/thalweg/cli/Mpeg1Reader$Picture" "type" "C") v) : ObP Z h' a v1 v v3 v4 := ⟨F.1.wr W, F.2.1.other W (Or.inr (slot_ne (Or.inr (hw _ (List.mem_of_getElem? (i := 81) rfl))) (Or.inr (hw _ (List.mem_of_getElem? (i := 83) rfl))) (by decide) (t := .long) (t' := .char) (by decide) (by decide))), F.2.2.1.same W, F.2.2.2.1.other W (Or.inr (slot_ne (Or.inr (hw _ (List.mem_of_getElem? (i := 85) rfl))) (Or.inr (hw _ (List.mem_of_getElem? (i := 83) rfl))) (by decide) (t := (.object "java/util/List")) (t' := .char) (by decide) (by decide))), F.2.2.2.2.other W (Or.inr (slot_ne (Or.inr (hw _ (List.mem_of_getElem? (i := 87) rfl))) (Or.inr (hw _ (List.mem_of_getElem? (i := 83) rfl))) (by decide) (t := (.array .byte)) (t' := .char) (by decide) (by decide)))⟩
theorem ObP.put3 {v : Value} {h' : Heap} {Z : State} {h : Heap} {a : Addr} {v1 v2 v3 v4 : Value} {a0 : Array Value} (hw : ∀ d ∈ tables_1, d.before a0 Z = true) (F : ObP Z h a v1 v2 v3 v4) (W : Wr h h' a (Jvm.RoadKit.slotOf Z "com/example/thalweg/thalweg/cli/Mpeg1Reader$Picture" "deps" "Ljava/util/List;") v) : ObP Z h' a v1 v2 v v4 := ⟨F.1.wr W, F.2.1.other W (Or.inr (slot_ne (Or.inr (hw _ (List.mem_of_getElem? (i := 81) rfl))) (Or.inr (hw _ (List.mem_of_getElem? (i := 85) rfl))) (by decide) (t := .long) (t' := (.object "java/util/List")) (by decide) (by decide))), F.2.2.1.other W (Or.inr (slot_ne (Or.inr (hw _ (List.mem_of_getElem? (i := 83) rfl))) (Or.inr (hw _ (List.mem_of_getElem? (i := 85) rfl))) (by decide) (t := .char) (t' := (.object "java/util/List")) (by decide) (by decide))), F.2.2.2.1.same W, F.2.2.2.2.other W (Or.inr (slot_ne (Or.inr (hw _ (List.mem_of_getElem? (i := 87) rfl))) (Or.inr (hw _ (List.mem_of_getElem? (i := 85) rfl))) (by decide) (t := (.array .byte)) (t' := (.object "java/util/List")) (by decide) (by decide)))⟩
theorem ObP.put4 {v : Value} {h' : Heap} {Z : State} {h : Heap} {a : Addr} {v1 v2 v3 v4 : Value} {a0 : Array Value} (hw : ∀ d ∈ tables_1, d.before a0 Z = true) (F : ObP Z h a v1 v2 v3 v4) (W : Wr h h' a (Jvm.RoadKit.slotOf Z "com/example/thalweg/thalweg/cli/Mpeg1Reader$Picture" "payload" "[B") v) : ObP Z h' a v1 v2 v3 v := ⟨F.1.wr W, F.2.1.other W (Or.inr (slot_ne (Or.inr (hw _ (List.mem_of_getElem? (i := 81) rfl))) (Or.inr (hw _ (List.mem_of_getElem? (i := 87) rfl))) (by decide) (t := .long) (t' := (.array .byte)) (by decide) (by decide))), F.2.2.1.other W (Or.inr (slot_ne (Or.inr (hw _ (List.mem_of_getElem? (i := 83) rfl))) (Or.inr (hw _ (List.mem_of_getElem? (i := 87) rfl))) (by decide) (t := .char) (t' := (.array .byte)) (by decide) (by decide))), F.2.2.2.1.other W (Or.inr (slot_ne (Or.inr (hw _ (List.mem_of_getElem? (i := 85) rfl))) (Or.inr (hw _ (List.mem_of_getElem? (i := 87) rfl))) (by decide) (t := (.object "java/util/List")) (t' := (.array .byte)) (by decide) (by decide))), F.2.2.2.2.same W⟩
theorem ObP.new {Z : State} {h : Heap} {b : Addr} {a0 : Array Value} (hw : ∀ d ∈ tables_1, d.before a0 Z = true) (E : Exa Z h b "com/example/thalweg/thalweg/cli/Mpeg1Reader$Picture") (D : ∀ {O nm d : String} {ty : FieldType}, Laid Z a0 "com/example/thalweg/thalweg/cli/Mpeg1Reader$Picture" O nm d → parseFieldDescriptor d = some ty → Fld Z h b O nm d (defaultValue ty)) : ObP Z h b (.long (0 : Int64)) (.int (0 : Int32)) .null .null := ⟨E, D (Or.inr (hw _ (List.mem_of_getElem? (i := 81) rfl))) (ty := .long) (by decide), D (Or.inr (hw _ (List.mem_of_getElem? (i := 83) rfl))) (ty := .char) (by decide), D (Or.inr (hw _ (List.mem_of_getElem? (i := 85) rfl))) (ty := (.object "java/util/List")) (by decide), D (Or.inr (hw _ (List.mem_of_getElem? (i := 87) rfl))) (ty := (.array .byte)) (by decide)⟩
def ObA (Z : State) (h : Heap) (a : Addr) (v1 v2 v3 : Value) : Prop := Exa Z h a "java/util/ArrayList" ∧ Fld Z h a "java/util/AbstractList" "modCount" "I" v1 ∧ Fld Z h a "java/util/ArrayList" "elementData" "[Ljava/lang/Object;" v2 ∧ Fld Z h a "java/util/ArrayList" "size" "I" v3
theorem ObA.ext {h' : Heap} {Z : State} {h : Heap} {a : Addr} {v1 v2 v3 : Value} (F : ObA Z h a v1 v2 v3) (E : Ext h h') : ObA Z h' a v1 v2 v3 := ⟨F.1.ext E, F.2.1.ext E, F.2.2.1.ext E, F.2.2.2.ext E⟩
theorem ObA.keep {h' : Heap} {Z : State} {h : Heap} {a : Addr} {v1 v2 v3 : Value} {ws : List Addr} (F : ObA Z h a v1 v2 v3) (K : Keep h h' ws) (q : a ∉ ws) : ObA Z h' a v1 v2 v3 := ⟨F.1.keep K, F.2.1.keep K q, F.2.2.1.keep K q, F.2.2.2.keep K q⟩
theorem ObA.oth {x : Addr} {sl : Nat} {w : Value} {h' : Heap} {Z : State} {h : Heap} {a : Addr} {v1 v2 v3 : Value} (F : ObA Z h a v1 v2 v3) (W : Wr h h' x sl w) (q : a ≠ x) : ObA Z h' a v1 v2 v3 := ⟨F.1.wr W, F.2.1.other W (Or.inl q), F.2.2.1.other W (Or.inl q), F.2.2.2.other W (Or.inl q)⟩
theorem ObA.lt {Z : State} {h : Heap} {a : Addr} {v1 v2 v3 : Value} (F : ObA Z h a v1 v2 v3) : a < h.size := F.1.lt
theorem ObA.put1 {v : Value} {h' : Heap} {Z : State} {h : Heap} {a : Addr} {v1 v2 v3 : Value} {a0 : Array Value} (hw : ∀ d ∈ tables_1, d.before a0 Z = true) (F : ObA Z h a v1 v2 v3) (W : Wr h h' a (Jvm.RoadKit.slotOf Z "java/util/AbstractList" "modCount" "I") v) : ObA Z h' a v v2 v3 := ⟨F.1.wr W, F.2.1.same W, F.2.2.1.other W (Or.inr (slot_ne (Or.inl (hw _ (List.mem_of_getElem? (i := 27) rfl))) (Or.inl (hw _ (List.mem_of_getElem? (i := 24) rfl))) (by decide) (t := (.array (.object "java/lang/Object"))) (t' := .int) (by decide) (by decide))), F.2.2.2.other W (Or.inr (slot_ne (Or.inl (hw _ (List.mem_of_getElem? (i := 44) rfl))) (Or.inl (hw _ (List.mem_of_getElem? (i := 24) rfl))) (by decide) (t := .int) (t' := .int) (by decide) (by decide)))⟩
theorem ObA.put2 {v : Value} {h' : Heap} {Z : State} {h : Heap} {a : Addr} {v1 v2 v3 : Value} {a0 : Array Value} (hw : ∀ d ∈ tables_1, d.before a0 Z = true) (F : ObA Z h a v1 v2 v3) (W : Wr h h' a (Jvm.RoadKit.slotOf Z "java/util/ArrayList" "elementData" "[Ljava/lang/Object;") v) : ObA Z h' a v1 v v3 := ⟨F.1.wr W, F.2.1.other W (Or.inr (slot_ne (Or.inl (hw _ (List.mem_of_getElem? (i := 24) rfl))) (Or.inl (hw _ (List.mem_of_getElem? (i := 27) rfl))) (by decide) (t := .int) (t' := (.array (.object "java/lang/Object"))) (by decide) (by decide))), F.2.2.1.same W, F.2.2.2.other W (Or.inr (slot_ne (Or.inl (hw _ (List.mem_of_getElem? (i := 44) rfl))) (Or.inl (hw _ (List.mem_of_getElem? (i := 27) rfl))) (by decide) (t := .int) (t' := (.array (.object "java/lang/Object"))) (by decide) (by decide)))⟩
theorem ObA.put3 {v : Value} {h' : Heap} {Z : State} {h : Heap} {a : Addr} {v1 v2 v3 : Value} {a0 : Array Value} (hw : ∀ d ∈ tables_1, d.before a0 Z = true) (F : ObA Z h a v1 v2 v3) (W : Wr h h' a (Jvm.RoadKit.slotOf Z "java/util/ArrayList" "size" "I") v) : ObA Z h' a v1 v2 v := ⟨F.1.wr W, F.2.1.other W (Or.inr (slot_ne (Or.inl (hw _ (List.mem_of_getElem? (i := 24) rfl))) (Or.inl (hw _ (List.mem_of_getElem? (i := 44) rfl))) (by decide) (t := .int) (t' := .int) (by decide) (by decide))), F.2.2.1.other W (Or.inr (slot_ne (Or.inl (hw _ (List.mem_of_getElem? (i := 27) rfl))) (Or.inl (hw _ (List.mem_of_getElem? (i := 44) rfl))) (by decide) (t := (.array (.object "java/lang/Object"))) (t' := .int) (by decide) (by decide))), F.2.2.2.same W⟩
theorem ObA.new {Z : State} {h : Heap} {b : Addr} {a0 : Array Value} (hw : ∀ d ∈ tables_1, d.before a0 Z = true) (E : Exa Z h b "java/util/ArrayList") (D : ∀ {O nm d : String} {ty : FieldType}, Laid Z a0 "java/util/ArrayList" O nm d → parseFieldDescriptor d = some ty → Fld Z h b O nm d (defaultValue ty)) : ObA Z h b (.int (0 : Int32)) .null (.int (0 : Int32)) := ⟨E, D (Or.inl (hw _ (List.mem_of_getElem? (i := 24) rfl))) (ty := .int) (by decide), D (Or.inl (hw _ (List.mem_of_getElem? (i := 27) rfl))) (ty := (.array (.object "java/lang/Object"))) (by decide), D (Or.inl (hw _ (List.mem_of_getElem? (i := 44) rfl))) (ty := .int) (by decide)⟩
def ObL (Z : State) (h : Heap) (a : Addr) (v1 : Value) : Prop := Exa Z h a "java/lang/Long" ∧ Fld Z h a "java/lang/Long" "value" "J" v1
theorem ObL.ext {h' : Heap} {Z : State} {h : Heap} {a : Addr} {v1 : Value} (F : ObL Z h a v1) (E : Ext h h') : ObL Z h' a v1 := ⟨F.1.ext E, F.2.ext E⟩
theorem ObL.keep {h' : Heap} {Z : State} {h : Heap} {a : Addr} {v1 : Value} {ws : List Addr} (F : ObL Z h a v1) (K : Keep h h' ws) (q : a ∉ ws) : ObL Z h' a v1 := ⟨F.1.keep K, F.2.keep K q⟩
theorem ObL.oth {x : Addr} {sl : Nat} {w : Value} {h' : Heap} {Z : State} {h : Heap} {a : Addr} {v1 : Value} (F : ObL Z h a v1) (W : Wr h h' x sl w) (q : a ≠ x) : ObL Z h' a v1 := ⟨F.1.wr W, F.2.other W (Or.inl q)⟩
theorem ObL.lt {Z : State} {h : Heap} {a : Addr} {v1 : Value} (F : ObL Z h a v1) : a < h.size := F.1.lt
theorem ObL.put1 {v : Value} {h' : Heap} {Z : State} {h : Heap} {a : Addr} {v1 : Value} {a0 : Array Value} (hw : ∀ d ∈ tables_1, d.before a0 Z = true) (F : ObL Z h a v1) (W : Wr h h' a (Jvm.RoadKit.slotOf Z "java/lang/Long" "value" "J") v) : ObL Z h' a v := ⟨F.1.wr W, F.2.same W⟩
theorem ObL.new {Z : State} {h : Heap} {b : Addr} {a0 : Array Value} (hw : ∀ d ∈ tables_1, d.before a0 Z = true) (E : Exa Z h b "java/lang/Long") (D : ∀ {O nm d : String} {ty : FieldType}, Laid Z a0 "java/lang/Long" O nm d → parseFieldDescriptor d = some ty → Fld Z h b O nm d (defaultValue ty)) : ObL Z h b (.long (0 : Int64)) := ⟨E, D (Or.inr (hw _ (List.mem_of_getElem? (i := 108) rfl))) (ty := .long) (by decide)⟩
def ObX (Z : State) (h : Heap) (a : Addr)  : Prop := Exa Z h a "java/lang/Long"
theorem ObX.ext {h' : Heap} {Z : State} {h : Heap} {a : Addr}  (F : ObX Z h a ) (E : Ext h h') : ObX Z h' a  := Exa.ext E F
theorem ObX.keep {h' : Heap} {Z : State} {h : Heap} {a : Addr}  {ws : List Addr} (F : ObX Z h a ) (K : Keep h h' ws) (q : a ∉ ws) : ObX Z h' a  := Exa.keep F K
theorem ObX.othX {x : Addr} {sl : Nat} {w : Value} {h' : Heap} {Z : State} {h : Heap} {a : Addr}  (F : ObX Z h a ) (W : Wr h h' x sl w) : ObX Z h' a  := Exa.wr W F
theorem ObX.keepX {h' : Heap} {Z : State} {h : Heap} {a : Addr}  {ws : List Addr} (F : ObX Z h a ) (K : Keep h h' ws) : ObX Z h' a  := Exa.keep F K
theorem ObX.oth {x : Addr} {sl : Nat} {w : Value} {h' : Heap} {Z : State} {h : Heap} {a : Addr}  (F : ObX Z h a ) (W : Wr h h' x sl w) (q : a ≠ x) : ObX Z h' a  := Exa.wr W F
theorem ObX.lt {Z : State} {h : Heap} {a : Addr}  (F : ObX Z h a ) : a < h.size := Exa.lt F
theorem ObX.new {Z : State} {h : Heap} {b : Addr} {a0 : Array Value} (hw : ∀ d ∈ tables_1, d.before a0 Z = true) (E : Exa Z h b "java/lang/Long") (D : ∀ {O nm d : String} {ty : FieldType}, Laid Z a0 "java/lang/Long" O nm d → parseFieldDescriptor d = some ty → Fld Z h b O nm d (defaultValue ty)) : ObX Z h b  := E
theorem d12_0 : Dc jdk_30_method_1_code 0 (.aload_n 0) 1 1 := ⟨by decide +kernel, rfl⟩
theorem d12_1 : Dc jdk_30_method_1_code 1 (.invokespecial 1) 3 4 := ⟨by decide +kernel, rfl⟩
theorem d12_4 : Dc jdk_30_method_1_code 4 (.return_) 1 5 := ⟨by decide +kernel, rfl⟩
theorem pn_rmi0 : plainName "java/lang/Record" = true := by first | (simp [plainName, overriddenIn]; done) | decide +kernel
set_option maxRecDepth 65536 in
set_option maxHeartbeats 40000000 in
theorem rmi0 (l : Launch) (Z : State) (a0 : Array Value) (hw : ∀ d ∈ tables_1, d.before a0 Z = true) (a : Addr) (h0 : Heap) :
    Met l Z (⟨"java/lang/Record", "<init>", "()V"⟩ : MethodName) jdk_30_method_1_code 1 none ({ frames := 1, cells := 0, slots := 0, locals := 12 } : Room) #[(.ref a)] h0 (fun v h' => v = none ∧ h0 = h') := by
  refine met_of (Ls := #[.val (.ref a)]) (plainFor_of_name pn_rmi0) (fun m => by first | (simp [entryFrame, mkF, argsToLocals, Value.category]; done) | rfl) (fun p e s m below meth c cx => ?_)
  refine g_aloadN cx d12_0 rfl rfl ?_
  refine g_initO cx d12_1 (hw _ (List.mem_of_getElem? (i := 79) rfl)) (hw _ (List.mem_of_getElem? (i := 21) rfl)) (hw _ (List.mem_of_getElem? (i := 22) rfl)) rfl (by decide) (W := 0) (Nat.le_of_eq rfl) (by decide) ?_
  refine g_retV cx d12_4 rfl (by decide) (by decide) ?_
  exact ⟨rfl, rfl⟩
theorem d3_0 : Dc jdk_22_method_1_code 0 (.aload_n 0) 1 1 := ⟨by decide +kernel, rfl⟩
theorem d3_1 : Dc jdk_22_method_1_code 1 (.invokespecial 1) 3 4 := ⟨by decide +kernel, rfl⟩
theorem d3_4 : Dc jdk_22_method_1_code 4 (.return_) 1 5 := ⟨by decide +kernel, rfl⟩
theorem pn_rmi1 : plainName "java/util/AbstractCollection" = true := by first | (simp [plainName, overriddenIn]; done) | decide +kernel
set_option maxRecDepth 65536 in
set_option maxHeartbeats 40000000 in
theorem rmi1 (l : Launch) (Z : State) (a0 : Array Value) (hw : ∀ d ∈ tables_1, d.before a0 Z = true) (a : Addr) (h0 : Heap) :
    Met l Z (⟨"java/util/AbstractCollection", "<init>", "()V"⟩ : MethodName) jdk_22_method_1_code 1 none ({ frames := 1, cells := 0, slots := 0, locals := 12 } : Room) #[(.ref a)] h0 (fun v h' => v = none ∧ h0 = h') := by
  refine met_of (Ls := #[.val (.ref a)]) (plainFor_of_name pn_rmi1) (fun m => by first | (simp [entryFrame, mkF, argsToLocals, Value.category]; done) | rfl) (fun p e s m below meth c cx => ?_)
  refine g_aloadN cx d3_0 rfl rfl ?_
  refine g_initO cx d3_1 (hw _ (List.mem_of_getElem? (i := 20) rfl)) (hw _ (List.mem_of_getElem? (i := 21) rfl)) (hw _ (List.mem_of_getElem? (i := 22) rfl)) rfl (by decide) (W := 0) (Nat.le_of_eq rfl) (by decide) ?_
  refine g_retV cx d3_4 rfl (by decide) (by decide) ?_
  exact ⟨rfl, rfl⟩
theorem d15_0 : Dc jdk_18_method_1_code 0 (.aload_n 0) 1 1 := ⟨by decide +kernel, rfl⟩
theorem d15_1 : Dc jdk_18_method_1_code 1 (.invokespecial 1) 3 4 := ⟨by decide +kernel, rfl⟩
theorem d15_4 : Dc jdk_18_method_1_code 4 (.return_) 1 5 := ⟨by decide +kernel, rfl⟩
theorem pn_rmi2 : plainName "java/lang/Number" = true := by first | (simp [plainName, overriddenIn]; done) | decide +kernel
set_option maxRecDepth 65536 in
set_option maxHeartbeats 40000000 in
theorem rmi2 (l : Launch) (Z : State) (a0 : Array Value) (hw : ∀ d ∈ tables_1, d.before a0 Z = true) (a : Addr) (h0 : Heap) :
    Met l Z (⟨"java/lang/Number", "<init>", "()V"⟩ : MethodName) jdk_18_method_1_code 1 none ({ frames := 1, cells := 0, slots := 0, locals := 12 } : Room) #[(.ref a)] h0 (fun v h' => v = none ∧ h0 = h') := by
  refine met_of (Ls := #[.val (.ref a)]) (plainFor_of_name pn_rmi2) (fun m => by first | (simp [entryFrame, mkF, argsToLocals, Value.category]; done) | rfl) (fun p e s m below meth c cx => ?_)
  refine g_aloadN cx d15_0 rfl rfl ?_
  refine g_initO cx d15_1 (hw _ (List.mem_of_getElem? (i := 106) rfl)) (hw _ (List.mem_of_getElem? (i := 21) rfl)) (hw _ (List.mem_of_getElem? (i := 22) rfl)) rfl (by decide) (W := 0) (Nat.le_of_eq rfl) (by decide) ?_
  refine g_retV cx d15_4 rfl (by decide) (by decide) ?_
  exact ⟨rfl, rfl⟩
theorem own_hin {clc : Cell} {ix : Int64} (S : clc.slots.size = (256 : Int32).toNatClampNeg) (h1 : ¬ ix < (-128 : Int64)) (h2 : ¬ (127 : Int64) < ix) : ¬ ((ix.toInt32 + 128) < 0 ∨ clc.slots.size ≤ (ix.toInt32 + 128).toNatClampNeg) := by
  refine inb_of S ?_
  have e1 := c_l2i ix; have r1 := rng32 ix.toInt32
  have e2 := c_iadd ix.toInt32 128; have r2 := rng32 (ix.toInt32 + 128)
  have z1 : (-128 : Int64).toInt = -128 := rfl
  have z2 : (127 : Int64).toInt = 127 := rfl
  have z3 : (128 : Int32).toInt = 128 := rfl
  have z4 : (0 : Int32).toInt = 0 := rfl
  have z5 : (256 : Int32).toInt = 256 := rfl
  rw [Int64.lt_iff_toInt_lt] at h1 h2
  simp only [Int32.lt_iff_toInt_lt]
  omega
theorem d5_0 : Dc jdk_35_method_24_code 0 (.sipush 128) 3 3 := ⟨by decide +kernel, rfl⟩
theorem d5_3 : Dc jdk_35_method_24_code 3 (.istore_n 2) 1 4 := ⟨by decide +kernel, rfl⟩
theorem d5_4 : Dc jdk_35_method_24_code 4 (.lload_n 0) 1 5 := ⟨by decide +kernel, rfl⟩
theorem d5_5 : Dc jdk_35_method_24_code 5 (.ldc2_w 230) 3 8 := ⟨by decide +kernel, rfl⟩
theorem d5_8 : Dc jdk_35_method_24_code 8 (.lcmp) 1 9 := ⟨by decide +kernel, rfl⟩
theorem d5_9 : Bi jdk_35_method_24_code 9 (Instr.ifCond .lt) 31 12 := ⟨22, by decide +kernel, by decide, by decide, rfl⟩
theorem d5_31 : Dc jdk_35_method_24_code 31 (.new 1) 3 34 := ⟨by decide +kernel, rfl⟩
theorem d5_34 : Dc jdk_35_method_24_code 34 (.dup) 1 35 := ⟨by decide +kernel, rfl⟩
theorem d5_35 : Dc jdk_35_method_24_code 35 (.lload_n 0) 1 36 := ⟨by decide +kernel, rfl⟩
theorem d14_0 : Dc jdk_35_method_26_code 0 (.aload_n 0) 1 1 := ⟨by decide +kernel, rfl⟩
theorem pd_0 : parseMethodDescriptor "()V" = some ⟨[], none⟩ := by decide +kernel
theorem d14_1 : Dc jdk_35_method_26_code 1 (.invokespecial 270) 3 4 := ⟨by decide +kernel, rfl⟩
theorem d14_4 : Dc jdk_35_method_26_code 4 (.aload_n 0) 1 5 := ⟨by decide +kernel, rfl⟩
theorem d14_5 : Dc jdk_35_method_26_code 5 (.lload_n 1) 1 6 := ⟨by decide +kernel, rfl⟩
theorem d14_6 : Dc jdk_35_method_26_code 6 (.putfield 273) 3 9 := ⟨by decide +kernel, rfl⟩
theorem d14_9 : Dc jdk_35_method_26_code 9 (.return_) 1 10 := ⟨by decide +kernel, rfl⟩
theorem pn_ra1 : plainName "java/lang/Long" = true := by first | (simp [plainName, overriddenIn]; done) | decide +kernel
set_option maxRecDepth 65536 in
set_option maxHeartbeats 40000000 in
theorem ra1 (l : Launch) (Z : State) (a0 : Array Value) (hw : ∀ d ∈ tables_1, d.before a0 Z = true) (dc lc : Addr) (cdc : ClassId) (clc : Cell) (SDC : Sta Z Z.heap "java/util/ArrayList" "DEFAULTCAPACITY_EMPTY_ELEMENTDATA" "[Ljava/lang/Object;" (.ref dc)) (AD : Arx Z Z.heap dc cdc (.object "java/lang/Object") (0 : Int32) [] .null "[Ljava/lang/Object;") (SLC : Sta Z Z.heap "java/lang/Long$LongCache" "cache" "[Ljava/lang/Long;" (.ref lc)) (BX : Bxs Z lc clc "java/lang/Long" "J" (256 : Int32) (fun j => .long ((j - 128).toInt64))) (ad0 : Addr) (x0 : Int64) (h0 : Heap) (O_ad0 : ObL Z h0 ad0 (.long (0 : Int64))) (g_ad0 : Z.heap.size ≤ ad0) (OL : Old Z Z.heap.size h0) :
    Met l Z (⟨"java/lang/Long", "<init>", "(J)V"⟩ : MethodName) jdk_35_method_26_code 3 none ({ frames := 2, cells := 0, slots := 0, locals := 24 } : Room) #[(.ref ad0), (.long x0)] h0 (fun v h' => (v = none ∧ Keep h0 h' [ad0] ∧ ObL Z h' ad0 (.long x0))) := by
  refine met_of (Ls := #[.val (.ref ad0), .val (.long x0), .second]) (plainFor_of_name pn_ra1) (fun m => by first | (simp [entryFrame, mkF, argsToLocals, Value.category]; done) | rfl) (fun p e s m below meth c cx => ?_)
  have KK := Keep.refl h0 [ad0]
  have A_dc := AD.ext OL.2
  refine g_aloadN cx d14_0 rfl rfl ?_
  refine g_special cx (y := (⟨"java/lang/Number", "<init>", "()V"⟩ : MethodName)) (a := ad0) d14_1 rfl rfl (hw _ (List.mem_of_getElem? (i := 100) rfl)) (hw _ (List.mem_of_getElem? (i := 101) rfl)) (hw _ (List.mem_of_getElem? (i := 104) rfl)) (hw _ (List.mem_of_getElem? (i := 105) rfl)) (by decide) (bytes := jdk_18_method_1_code) (maxL' := 1) (M := (rmi2 l Z a0 hw ad0 _)) rfl (lenOf pd_0 rfl) (by decide) (W := 0) (Nat.le_of_eq rfl) (by decide) (k' := 0) (n' := 0) rfl rfl (by decide) (by decide) (argsL := []) (rest := []) rfl (fun v2 h1 q3 => ?_)
  obtain ⟨rfl, rfl⟩ := q3
  refine G.cast (st' := []) ?_ rfl
  refine g_aloadN cx d14_4 rfl rfl ?_
  refine g_lloadN cx d14_5 rfl ?_
  refine g_putF cx d14_6 (host := "") (Or.inl (hw _ (List.mem_of_getElem? (i := 107) rfl))) Via.refl O_ad0.2 O_ad0.1 (Or.inr ⟨(hw _ (List.mem_of_getElem? (i := 108) rfl)), rfl, rfl⟩) (hw _ (List.mem_of_getElem? (i := 95) rfl)) (ty := .long) (by decide) rfl rfl g_ad0 (fun h4 W5 => ?_)
  have O_ad0 := O_ad0.put1 hw W5
  have OL := OL.wr W5 g_ad0
  have A_dc := AD.ext OL.2
  have KK := KK.wr W5 (Or.inl (List.mem_of_getElem? (i := 0) rfl))
  refine g_retV cx d14_9 rfl (by decide) (by decide) ?_
  exact ⟨rfl, KK, O_ad0⟩
theorem pd_1 : parseMethodDescriptor "(J)V" = some ⟨[.long], none⟩ := by decide +kernel
theorem d5_36 : Dc jdk_35_method_24_code 36 (.invokespecial 240) 3 39 := ⟨by decide +kernel, rfl⟩
theorem d5_39 : Dc jdk_35_method_24_code 39 (.areturn) 1 40 := ⟨by decide +kernel, rfl⟩
theorem d5_12 : Dc jdk_35_method_24_code 12 (.lload_n 0) 1 13 := ⟨by decide +kernel, rfl⟩
theorem d5_13 : Dc jdk_35_method_24_code 13 (.ldc2_w 232) 3 16 := ⟨by decide +kernel, rfl⟩
theorem d5_16 : Dc jdk_35_method_24_code 16 (.lcmp) 1 17 := ⟨by decide +kernel, rfl⟩
theorem d5_17 : Bi jdk_35_method_24_code 17 (Instr.ifCond .gt) 31 20 := ⟨14, by decide +kernel, by decide, by decide, rfl⟩
theorem d5_20 : Dc jdk_35_method_24_code 20 (.getstatic 234) 3 23 := ⟨by decide +kernel, rfl⟩
theorem d5_23 : Dc jdk_35_method_24_code 23 (.lload_n 0) 1 24 := ⟨by decide +kernel, rfl⟩
theorem d5_24 : Dc jdk_35_method_24_code 24 (.l2i) 1 25 := ⟨by decide +kernel, rfl⟩
theorem d5_25 : Dc jdk_35_method_24_code 25 (.sipush 128) 3 28 := ⟨by decide +kernel, rfl⟩
theorem d5_28 : Dc jdk_35_method_24_code 28 (.iadd) 1 29 := ⟨by decide +kernel, rfl⟩
theorem d5_29 : Dc jdk_35_method_24_code 29 (.aaload) 1 30 := ⟨by decide +kernel, rfl⟩
theorem d5_30 : Dc jdk_35_method_24_code 30 (.areturn) 1 31 := ⟨by decide +kernel, rfl⟩
theorem pn_rmV : plainName "java/lang/Long" = true := by first | (simp [plainName, overriddenIn]; done) | decide +kernel
set_option maxRecDepth 65536 in
set_option maxHeartbeats 40000000 in
theorem rmV (l : Launch) (Z : State) (a0 : Array Value) (hw : ∀ d ∈ tables_1, d.before a0 Z = true) (ix : Int64) (h0 : Heap) (OL : Old Z Z.heap.size h0) (dc lc : Addr) (cdc : ClassId) (clc : Cell) (SDC : Sta Z Z.heap "java/util/ArrayList" "DEFAULTCAPACITY_EMPTY_ELEMENTDATA" "[Ljava/lang/Object;" (.ref dc)) (AD : Arx Z Z.heap dc cdc (.object "java/lang/Object") (0 : Int32) [] .null "[Ljava/lang/Object;") (SLC : Sta Z Z.heap "java/lang/Long$LongCache" "cache" "[Ljava/lang/Long;" (.ref lc)) (BX : Bxs Z lc clc "java/lang/Long" "J" (256 : Int32) (fun j => .long ((j - 128).toInt64))) :
    Met l Z (⟨"java/lang/Long", "valueOf", "(J)Ljava/lang/Long;"⟩ : MethodName) jdk_35_method_24_code 3 (some (.object "java/lang/Long")) ({ frames := 3, cells := 1, slots := 1, locals := 39 } : Room) #[(.long ix)] h0 (fun v h' => ∃ b, v = some (.ref b) ∧ Keep h0 h' [] ∧ ObX Z h' b) := by
  refine met_of (Ls := #[.val (.long ix), .second, .unset]) (plainFor_of_name pn_rmV) (fun m => by first | (simp [entryFrame, mkF, argsToLocals, Value.category]; done) | rfl) (fun p e s m below meth c cx => ?_)
  have KK := Keep.refl h0 []
  refine g_sipush cx d5_0 (v := (128 : Int32)) rfl ?_
  refine g_istoreN cx d5_3 (Ls' := #[.val (.long ix), .second, .val (.int (128 : Int32))]) rfl ?_
  refine g_lloadN cx d5_4 rfl ?_
  refine g_ldcJ cx d5_5 (hw _ (List.mem_of_getElem? (i := 32) rfl)) ?_
  refine g_lif_lt cx d5_8 d5_9 (fun hc9 => ?_) (fun hc9 => ?_)
  · refine g_new cx d5_31 (hw _ (List.mem_of_getElem? (i := 94) rfl)) (hw _ (List.mem_of_getElem? (i := 95) rfl)) (hw _ (List.mem_of_getElem? (i := 30) rfl)) (k' := 1) (n' := 1) rfl rfl (by decide) (by decide) (fun h1 b2 gb3 E4 X5 D6 => ?_)
    have g_b2 : Z.heap.size ≤ b2 := by rw [gb3]; exact OL.2.1
    have sz_b2 := (by rw [gb3]; exact KK.1 : h0.size ≤ b2)
    have OL := OL.ext E4
    have A_dc := AD.ext OL.2
    have KK := KK.ext E4
    have O_b2 := ObL.new hw X5 D6
    refine g_dup cx d5_34 rfl ?_
    refine g_lloadN cx d5_35 rfl ?_
    refine g_special cx (y := (⟨"java/lang/Long", "<init>", "(J)V"⟩ : MethodName)) (a := b2) d5_36 rfl rfl (hw _ (List.mem_of_getElem? (i := 96) rfl)) (hw _ (List.mem_of_getElem? (i := 97) rfl)) (hw _ (List.mem_of_getElem? (i := 30) rfl)) (hw _ (List.mem_of_getElem? (i := 99) rfl)) (by decide) (bytes := jdk_35_method_26_code) (maxL' := 3) (M := (ra1 l Z a0 hw dc lc cdc clc SDC AD SLC BX b2 ix _ O_b2 g_b2 OL)) rfl (lenOf pd_1 rfl) (by decide) (W := 1) (Nat.le_of_eq rfl) (by decide) (k' := 1) (n' := 1) rfl rfl (by decide) (by decide) (argsL := [(.long ix)]) (rest := [(.ref b2)]) rfl (fun v9 h8 q10 => ?_)
    obtain ⟨rfl, K7, O_b2⟩ := q10
    have OL := OL.keep K7 (allS g_b2 all0)
    have A_dc := AD.ext OL.2
    have KK := KK.trans K7 (allS (P := fun z => z ∈ _ ∨ _ ≤ z) (Or.inr sz_b2) all0)
    refine G.cast (st' := [(.ref b2)]) ?_ rfl
    refine g_retA cx d5_39 (t := (.object "java/lang/Long")) rfl rfl rfl rfl (by decide) (by decide) ?_
    exact ⟨_, rfl, KK, O_b2.1⟩
  · refine g_lloadN cx d5_12 rfl ?_
    refine g_ldcJ cx d5_13 (hw _ (List.mem_of_getElem? (i := 33) rfl)) ?_
    refine g_lif_gt cx d5_16 d5_17 (fun hc17 => ?_) (fun hc17 => ?_)
    · refine g_new cx d5_31 (hw _ (List.mem_of_getElem? (i := 94) rfl)) (hw _ (List.mem_of_getElem? (i := 95) rfl)) (hw _ (List.mem_of_getElem? (i := 30) rfl)) (k' := 1) (n' := 1) rfl rfl (by decide) (by decide) (fun h11 b12 gb13 E14 X15 D16 => ?_)
      have g_b12 : Z.heap.size ≤ b12 := by rw [gb13]; exact OL.2.1
      have sz_b12 := (by rw [gb13]; exact KK.1 : h0.size ≤ b12)
      have OL := OL.ext E14
      have A_dc := AD.ext OL.2
      have KK := KK.ext E14
      have O_b12 := ObL.new hw X15 D16
      refine g_dup cx d5_34 rfl ?_
      refine g_lloadN cx d5_35 rfl ?_
      refine g_special cx (y := (⟨"java/lang/Long", "<init>", "(J)V"⟩ : MethodName)) (a := b12) d5_36 rfl rfl (hw _ (List.mem_of_getElem? (i := 96) rfl)) (hw _ (List.mem_of_getElem? (i := 97) rfl)) (hw _ (List.mem_of_getElem? (i := 30) rfl)) (hw _ (List.mem_of_getElem? (i := 99) rfl)) (by decide) (bytes := jdk_35_method_26_code) (maxL' := 3) (M := (ra1 l Z a0 hw dc lc cdc clc SDC AD SLC BX b12 ix _ O_b12 g_b12 OL)) rfl (lenOf pd_1 rfl) (by decide) (W := 1) (Nat.le_of_eq rfl) (by decide) (k' := 1) (n' := 1) rfl rfl (by decide) (by decide) (argsL := [(.long ix)]) (rest := [(.ref b12)]) rfl (fun v19 h18 q20 => ?_)
      obtain ⟨rfl, K17, O_b12⟩ := q20
      have OL := OL.keep K17 (allS g_b12 all0)
      have A_dc := AD.ext OL.2
      have KK := KK.trans K17 (allS (P := fun z => z ∈ _ ∨ _ ≤ z) (Or.inr sz_b12) all0)
      refine G.cast (st' := [(.ref b12)]) ?_ rfl
      refine g_retA cx d5_39 (t := (.object "java/lang/Long")) rfl rfl rfl rfl (by decide) (by decide) ?_
      exact ⟨_, rfl, KK, O_b12.1⟩
    · refine g_getS cx d5_20 (host := "") (Or.inl (hw _ (List.mem_of_getElem? (i := 34) rfl))) Via.refl (SLC.ext OL.2) ?_
      refine g_lloadN cx d5_23 rfl ?_
      refine g_l2i cx d5_24 ?_
      refine g_sipush cx d5_25 (v := (128 : Int32)) rfl ?_
      refine g_iadd cx d5_28 ?_
      obtain ⟨bx, hbx, Ebx, -⟩ := BX.2.2.2 _ (own_hin BX.2.1 hc9 hc17)
      refine g_aaloadR cx d5_29 (BX.1.ext OL.2) rfl (own_hin BX.2.1 hc9 hc17) hbx ?_
      refine g_retA cx d5_30 (t := (.object "java/lang/Long")) rfl rfl rfl rfl (by decide) (by decide) ?_
      exact ⟨_, rfl, KK, Ebx.ext OL.2⟩
theorem d0_0 : Dc code 0 (.iconst 4) 1 1 := ⟨by decide +kernel, rfl⟩
theorem d0_1 : Dc code 1 (.newarray .char) 2 3 := ⟨by decide +kernel, rfl⟩
theorem d0_3 : Dc code 3 (.dup) 1 4 := ⟨by decide +kernel, rfl⟩
theorem d0_4 : Dc code 4 (.iconst 0) 1 5 := ⟨by decide +kernel, rfl⟩
theorem d0_5 : Dc code 5 (.bipush 73) 2 7 := ⟨by decide +kernel, rfl⟩
theorem d0_7 : Dc code 7 (.castore) 1 8 := ⟨by decide +kernel, rfl⟩
theorem d0_8 : Dc code 8 (.dup) 1 9 := ⟨by decide +kernel, rfl⟩
theorem d0_9 : Dc code 9 (.iconst 1) 1 10 := ⟨by decide +kernel, rfl⟩
theorem d0_10 : Dc code 10 (.bipush 80) 2 12 := ⟨by decide +kernel, rfl⟩
theorem d0_12 : Dc code 12 (.castore) 1 13 := ⟨by decide +kernel, rfl⟩
theorem d0_13 : Dc code 13 (.dup) 1 14 := ⟨by decide +kernel, rfl⟩
theorem d0_14 : Dc code 14 (.iconst 2) 1 15 := ⟨by decide +kernel, rfl⟩
theorem d0_15 : Dc code 15 (.bipush 66) 2 17 := ⟨by decide +kernel, rfl⟩
theorem d0_17 : Dc code 17 (.castore) 1 18 := ⟨by decide +kernel, rfl⟩
theorem d0_18 : Dc code 18 (.dup) 1 19 := ⟨by decide +kernel, rfl⟩
theorem d0_19 : Dc code 19 (.iconst 3) 1 20 := ⟨by decide +kernel, rfl⟩
theorem d0_20 : Dc code 20 (.bipush 68) 2 22 := ⟨by decide +kernel, rfl⟩
theorem d0_22 : Dc code 22 (.castore) 1 23 := ⟨by decide +kernel, rfl⟩
theorem d0_23 : Dc code 23 (.astore 4) 2 25 := ⟨by decide +kernel, rfl⟩
theorem d0_25 : Dc code 25 (.iconst 4) 1 26 := ⟨by decide +kernel, rfl⟩
theorem d0_26 : Dc code 26 (.newarray .int) 2 28 := ⟨by decide +kernel, rfl⟩
theorem d0_28 : Dc code 28 (.dup) 1 29 := ⟨by decide +kernel, rfl⟩
theorem d0_29 : Dc code 29 (.iconst 0) 1 30 := ⟨by decide +kernel, rfl⟩
theorem d0_30 : Dc code 30 (.iconst 0) 1 31 := ⟨by decide +kernel, rfl⟩
theorem d0_31 : Dc code 31 (.iastore) 1 32 := ⟨by decide +kernel, rfl⟩
theorem d0_32 : Dc code 32 (.dup) 1 33 := ⟨by decide +kernel, rfl⟩
theorem d0_33 : Dc code 33 (.iconst 1) 1 34 := ⟨by decide +kernel, rfl⟩
theorem d0_34 : Dc code 34 (.iconst 1) 1 35 := ⟨by decide +kernel, rfl⟩
theorem d0_35 : Dc code 35 (.iastore) 1 36 := ⟨by decide +kernel, rfl⟩
theorem d0_36 : Dc code 36 (.dup) 1 37 := ⟨by decide +kernel, rfl⟩
theorem d0_37 : Dc code 37 (.iconst 2) 1 38 := ⟨by decide +kernel, rfl⟩
theorem d0_38 : Dc code 38 (.iconst 2) 1 39 := ⟨by decide +kernel, rfl⟩
theorem d0_39 : Dc code 39 (.iastore) 1 40 := ⟨by decide +kernel, rfl⟩
theorem d0_40 : Dc code 40 (.dup) 1 41 := ⟨by decide +kernel, rfl⟩
theorem d0_41 : Dc code 41 (.iconst 3) 1 42 := ⟨by decide +kernel, rfl⟩
theorem d0_42 : Dc code 42 (.iconst 0) 1 43 := ⟨by decide +kernel, rfl⟩
theorem d0_43 : Dc code 43 (.iastore) 1 44 := ⟨by decide +kernel, rfl⟩
theorem d0_44 : Dc code 44 (.astore 5) 2 46 := ⟨by decide +kernel, rfl⟩
theorem d0_46 : Dc code 46 (.iload_n 0) 1 47 := ⟨by decide +kernel, rfl⟩
theorem d0_47 : Dc code 47 (.iconst 3) 1 48 := ⟨by decide +kernel, rfl⟩
theorem d0_48 : Dc code 48 (.iand) 1 49 := ⟨by decide +kernel, rfl⟩
theorem d0_49 : Dc code 49 (.istore 6) 2 51 := ⟨by decide +kernel, rfl⟩
theorem d0_51 : Dc code 51 (.new 7) 3 54 := ⟨by decide +kernel, rfl⟩
theorem d0_54 : Dc code 54 (.dup) 1 55 := ⟨by decide +kernel, rfl⟩
theorem d1_0 : Dc jdk_38_method_2_code 0 (.aload_n 0) 1 1 := ⟨by decide +kernel, rfl⟩
theorem d2_0 : Dc jdk_39_method_1_code 0 (.aload_n 0) 1 1 := ⟨by decide +kernel, rfl⟩
theorem d2_1 : Dc jdk_39_method_1_code 1 (.invokespecial 1) 3 4 := ⟨by decide +kernel, rfl⟩
theorem d2_4 : Dc jdk_39_method_1_code 4 (.aload_n 0) 1 5 := ⟨by decide +kernel, rfl⟩
theorem d2_5 : Dc jdk_39_method_1_code 5 (.iconst 0) 1 6 := ⟨by decide +kernel, rfl⟩
theorem d2_6 : Dc jdk_39_method_1_code 6 (.putfield 7) 3 9 := ⟨by decide +kernel, rfl⟩
theorem d2_9 : Dc jdk_39_method_1_code 9 (.return_) 1 10 := ⟨by decide +kernel, rfl⟩
theorem pn_ra3 : plainName "java/util/AbstractList" = true := by first | (simp [plainName, overriddenIn]; done) | decide +kernel
set_option maxRecDepth 65536 in
set_option maxHeartbeats 40000000 in
theorem ra3 (l : Launch) (Z : State) (a0 : Array Value) (hw : ∀ d ∈ tables_1, d.before a0 Z = true) (dc lc : Addr) (cdc : ClassId) (clc : Cell) (SDC : Sta Z Z.heap "java/util/ArrayList" "DEFAULTCAPACITY_EMPTY_ELEMENTDATA" "[Ljava/lang/Object;" (.ref dc)) (AD : Arx Z Z.heap dc cdc (.object "java/lang/Object") (0 : Int32) [] .null "[Ljava/lang/Object;") (SLC : Sta Z Z.heap "java/lang/Long$LongCache" "cache" "[Ljava/lang/Long;" (.ref lc)) (BX : Bxs Z lc clc "java/lang/Long" "J" (256 : Int32) (fun j => .long ((j - 128).toInt64))) (ad0 : Addr) (h0 : Heap) (O_ad0 : ObA Z h0 ad0 (.int (0 : Int32)) .null (.int (0 : Int32))) (g_ad0 : Z.heap.size ≤ ad0) (OL : Old Z Z.heap.size h0) :
    Met l Z (⟨"java/util/AbstractList", "<init>", "()V"⟩ : MethodName) jdk_39_method_1_code 1 none ({ frames := 2, cells := 0, slots := 0, locals := 24 } : Room) #[(.ref ad0)] h0 (fun v h' => (v = none ∧ Keep h0 h' [ad0] ∧ ObA Z h' ad0 (.int (0 : Int32)) .null (.int (0 : Int32)))) := by
  refine met_of (Ls := #[.val (.ref ad0)]) (plainFor_of_name pn_ra3) (fun m => by first | (simp [entryFrame, mkF, argsToLocals, Value.category]; done) | rfl) (fun p e s m below meth c cx => ?_)
  have KK := Keep.refl h0 [ad0]
  have A_dc := AD.ext OL.2
  refine g_aloadN cx d2_0 rfl rfl ?_
  refine g_special cx (y := (⟨"java/util/AbstractCollection", "<init>", "()V"⟩ : MethodName)) (a := ad0) d2_1 rfl rfl (hw _ (List.mem_of_getElem? (i := 14) rfl)) (hw _ (List.mem_of_getElem? (i := 15) rfl)) (hw _ (List.mem_of_getElem? (i := 18) rfl)) (hw _ (List.mem_of_getElem? (i := 19) rfl)) (by decide) (bytes := jdk_22_method_1_code) (maxL' := 1) (M := (rmi1 l Z a0 hw ad0 _)) rfl (lenOf pd_0 rfl) (by decide) (W := 0) (Nat.le_of_eq rfl) (by decide) (k' := 0) (n' := 0) rfl rfl (by decide) (by decide) (argsL := []) (rest := []) rfl (fun v2 h1 q3 => ?_)
  obtain ⟨rfl, rfl⟩ := q3
  refine G.cast (st' := []) ?_ rfl
  refine g_aloadN cx d2_4 rfl rfl ?_
  refine g_iconst cx d2_5 (v := (0 : Int32)) rfl ?_
  refine g_putF cx d2_6 (host := "") (Or.inl (hw _ (List.mem_of_getElem? (i := 23) rfl))) Via.refl O_ad0.2.1 O_ad0.1 (Or.inl (hw _ (List.mem_of_getElem? (i := 24) rfl))) (hw _ (List.mem_of_getElem? (i := 3) rfl)) (ty := .int) (by decide) rfl rfl g_ad0 (fun h4 W5 => ?_)
  have O_ad0 := O_ad0.put1 hw W5
  have OL := OL.wr W5 g_ad0
  have A_dc := AD.ext OL.2
  have KK := KK.wr W5 (Or.inl (List.mem_of_getElem? (i := 0) rfl))
  refine g_retV cx d2_9 rfl (by decide) (by decide) ?_
  exact ⟨rfl, KK, O_ad0⟩
theorem d1_1 : Dc jdk_38_method_2_code 1 (.invokespecial 1) 3 4 := ⟨by decide +kernel, rfl⟩
theorem d1_4 : Dc jdk_38_method_2_code 4 (.aload_n 0) 1 5 := ⟨by decide +kernel, rfl⟩
theorem d1_5 : Dc jdk_38_method_2_code 5 (.getstatic 39) 3 8 := ⟨by decide +kernel, rfl⟩
theorem d1_8 : Dc jdk_38_method_2_code 8 (.putfield 9) 3 11 := ⟨by decide +kernel, rfl⟩
theorem d1_11 : Dc jdk_38_method_2_code 11 (.return_) 1 12 := ⟨by decide +kernel, rfl⟩
theorem pn_ra2 : plainName "java/util/ArrayList" = true := by first | (simp [plainName, overriddenIn]; done) | decide +kernel
set_option maxRecDepth 65536 in
set_option maxHeartbeats 40000000 in
theorem ra2 (l : Launch) (Z : State) (a0 : Array Value) (hw : ∀ d ∈ tables_1, d.before a0 Z = true) (dc lc : Addr) (cdc : ClassId) (clc : Cell) (SDC : Sta Z Z.heap "java/util/ArrayList" "DEFAULTCAPACITY_EMPTY_ELEMENTDATA" "[Ljava/lang/Object;" (.ref dc)) (AD : Arx Z Z.heap dc cdc (.object "java/lang/Object") (0 : Int32) [] .null "[Ljava/lang/Object;") (SLC : Sta Z Z.heap "java/lang/Long$LongCache" "cache" "[Ljava/lang/Long;" (.ref lc)) (BX : Bxs Z lc clc "java/lang/Long" "J" (256 : Int32) (fun j => .long ((j - 128).toInt64))) (ad0 : Addr) (h0 : Heap) (O_ad0 : ObA Z h0 ad0 (.int (0 : Int32)) .null (.int (0 : Int32))) (g_ad0 : Z.heap.size ≤ ad0) (OL : Old Z Z.heap.size h0) :
    Met l Z (⟨"java/util/ArrayList", "<init>", "()V"⟩ : MethodName) jdk_38_method_2_code 1 none ({ frames := 3, cells := 0, slots := 0, locals := 36 } : Room) #[(.ref ad0)] h0 (fun v h' => (v = none ∧ Keep h0 h' [ad0] ∧ ObA Z h' ad0 (.int (0 : Int32)) (.ref dc) (.int (0 : Int32)))) := by
  refine met_of (Ls := #[.val (.ref ad0)]) (plainFor_of_name pn_ra2) (fun m => by first | (simp [entryFrame, mkF, argsToLocals, Value.category]; done) | rfl) (fun p e s m below meth c cx => ?_)
  have KK := Keep.refl h0 [ad0]
  have A_dc := AD.ext OL.2
  refine g_aloadN cx d1_0 rfl rfl ?_
  refine g_special cx (y := (⟨"java/util/AbstractList", "<init>", "()V"⟩ : MethodName)) (a := ad0) d1_1 rfl rfl (hw _ (List.mem_of_getElem? (i := 8) rfl)) (hw _ (List.mem_of_getElem? (i := 9) rfl)) (hw _ (List.mem_of_getElem? (i := 12) rfl)) (hw _ (List.mem_of_getElem? (i := 13) rfl)) (by decide) (bytes := jdk_39_method_1_code) (maxL' := 1) (M := (ra3 l Z a0 hw dc lc cdc clc SDC AD SLC BX ad0 _ O_ad0 g_ad0 OL)) rfl (lenOf pd_0 rfl) (by decide) (W := 0) (Nat.le_of_eq rfl) (by decide) (k' := 0) (n' := 0) rfl rfl (by decide) (by decide) (argsL := []) (rest := []) rfl (fun v3 h2 q4 => ?_)
  obtain ⟨rfl, K1, O_ad0⟩ := q4
  have OL := OL.keep K1 (allS g_ad0 all0)
  have A_dc := AD.ext OL.2
  have KK := KK.trans K1 (allS (P := fun z => z ∈ _ ∨ _ ≤ z) (Or.inl (List.mem_of_getElem? (i := 0) rfl)) all0)
  refine G.cast (st' := []) ?_ rfl
  refine g_aloadN cx d1_4 rfl rfl ?_
  refine g_getS cx d1_5 (host := "") (Or.inl (hw _ (List.mem_of_getElem? (i := 25) rfl))) Via.refl (SDC.ext OL.2) ?_
  refine g_putF cx d1_8 (host := "") (Or.inl (hw _ (List.mem_of_getElem? (i := 26) rfl))) Via.refl O_ad0.2.2.1 O_ad0.1 (Or.inl (hw _ (List.mem_of_getElem? (i := 27) rfl))) (hw _ (List.mem_of_getElem? (i := 3) rfl)) (ty := (.array (.object "java/lang/Object"))) (by decide) rfl rfl g_ad0 (fun h5 W6 => ?_)
  have O_ad0 := O_ad0.put2 hw W6
  have OL := OL.wr W6 g_ad0
  have A_dc := AD.ext OL.2
  have KK := KK.wr W6 (Or.inl (List.mem_of_getElem? (i := 0) rfl))
  refine g_retV cx d1_11 rfl (by decide) (by decide) ?_
  exact ⟨rfl, KK, O_ad0⟩
theorem d0_55 : Dc code 55 (.invokespecial 9) 3 58 := ⟨by decide +kernel, rfl⟩
theorem d0_58 : Dc code 58 (.astore 7) 2 60 := ⟨by decide +kernel, rfl⟩
theorem d0_60 : Dc code 60 (.aload 7) 2 62 := ⟨by decide +kernel, rfl⟩
theorem d0_62 : Dc code 62 (.lload_n 1) 1 63 := ⟨by decide +kernel, rfl⟩
theorem pd_2 : parseMethodDescriptor "(J)Ljava/lang/Long;" = some ⟨[.long], some (.object "java/lang/Long")⟩ := by decide +kernel
theorem d0_63 : Dc code 63 (.invokestatic 10) 3 66 := ⟨by decide +kernel, rfl⟩
theorem d6_0 : Dc jdk_38_method_25_code 0 (.aload_n 0) 1 1 := ⟨by decide +kernel, rfl⟩
theorem d6_1 : Dc jdk_38_method_25_code 1 (.dup) 1 2 := ⟨by decide +kernel, rfl⟩
theorem d6_2 : Dc jdk_38_method_25_code 2 (.getfield 63) 3 5 := ⟨by decide +kernel, rfl⟩
theorem d6_5 : Dc jdk_38_method_25_code 5 (.iconst 1) 1 6 := ⟨by decide +kernel, rfl⟩
theorem d6_6 : Dc jdk_38_method_25_code 6 (.iadd) 1 7 := ⟨by decide +kernel, rfl⟩
theorem d6_7 : Dc jdk_38_method_25_code 7 (.putfield 63) 3 10 := ⟨by decide +kernel, rfl⟩
theorem d6_10 : Dc jdk_38_method_25_code 10 (.aload_n 0) 1 11 := ⟨by decide +kernel, rfl⟩
theorem d6_11 : Dc jdk_38_method_25_code 11 (.aload_n 1) 1 12 := ⟨by decide +kernel, rfl⟩
theorem d6_12 : Dc jdk_38_method_25_code 12 (.aload_n 0) 1 13 := ⟨by decide +kernel, rfl⟩
theorem d6_13 : Dc jdk_38_method_25_code 13 (.getfield 9) 3 16 := ⟨by decide +kernel, rfl⟩
theorem d6_16 : Dc jdk_38_method_25_code 16 (.aload_n 0) 1 17 := ⟨by decide +kernel, rfl⟩
theorem d6_17 : Dc jdk_38_method_25_code 17 (.getfield 48) 3 20 := ⟨by decide +kernel, rfl⟩
theorem d7_0 : Dc jdk_38_method_24_code 0 (.iload_n 3) 1 1 := ⟨by decide +kernel, rfl⟩
theorem d7_1 : Dc jdk_38_method_24_code 1 (.aload_n 2) 1 2 := ⟨by decide +kernel, rfl⟩
theorem d7_2 : Dc jdk_38_method_24_code 2 (.arraylength) 1 3 := ⟨by decide +kernel, rfl⟩
theorem d7_3 : Bi jdk_38_method_24_code 3 (Instr.if_icmp .ne) 11 6 := ⟨8, by decide +kernel, by decide, by decide, rfl⟩
theorem d7_6 : Dc jdk_38_method_24_code 6 (.aload_n 0) 1 7 := ⟨by decide +kernel, rfl⟩
theorem d8_0 : Dc jdk_38_method_7_code 0 (.aload_n 0) 1 1 := ⟨by decide +kernel, rfl⟩
theorem d8_1 : Dc jdk_38_method_7_code 1 (.aload_n 0) 1 2 := ⟨by decide +kernel, rfl⟩
theorem d8_2 : Dc jdk_38_method_7_code 2 (.getfield 48) 3 5 := ⟨by decide +kernel, rfl⟩
theorem d8_5 : Dc jdk_38_method_7_code 5 (.iconst 1) 1 6 := ⟨by decide +kernel, rfl⟩
theorem d8_6 : Dc jdk_38_method_7_code 6 (.iadd) 1 7 := ⟨by decide +kernel, rfl⟩
theorem d9_0 : Dc jdk_38_method_6_code 0 (.aload_n 0) 1 1 := ⟨by decide +kernel, rfl⟩
theorem d9_1 : Dc jdk_38_method_6_code 1 (.getfield 9) 3 4 := ⟨by decide +kernel, rfl⟩
theorem d9_4 : Dc jdk_38_method_6_code 4 (.arraylength) 1 5 := ⟨by decide +kernel, rfl⟩
theorem d9_5 : Dc jdk_38_method_6_code 5 (.istore_n 2) 1 6 := ⟨by decide +kernel, rfl⟩
theorem d9_6 : Dc jdk_38_method_6_code 6 (.iload_n 2) 1 7 := ⟨by decide +kernel, rfl⟩
theorem d9_7 : Bi jdk_38_method_6_code 7 (Instr.ifCond .gt) 20 10 := ⟨13, by decide +kernel, by decide, by decide, rfl⟩
theorem d9_10 : Dc jdk_38_method_6_code 10 (.aload_n 0) 1 11 := ⟨by decide +kernel, rfl⟩
theorem d9_11 : Dc jdk_38_method_6_code 11 (.getfield 9) 3 14 := ⟨by decide +kernel, rfl⟩
theorem d9_14 : Dc jdk_38_method_6_code 14 (.getstatic 39) 3 17 := ⟨by decide +kernel, rfl⟩
theorem d9_17 : Bi jdk_38_method_6_code 17 (Instr.if_acmp .eq) 45 20 := ⟨28, by decide +kernel, by decide, by decide, rfl⟩
theorem d9_45 : Dc jdk_38_method_6_code 45 (.aload_n 0) 1 46 := ⟨by decide +kernel, rfl⟩
theorem d9_46 : Dc jdk_38_method_6_code 46 (.bipush 10) 2 48 := ⟨by decide +kernel, rfl⟩
theorem d9_48 : Dc jdk_38_method_6_code 48 (.iload_n 1) 1 49 := ⟨by decide +kernel, rfl⟩
theorem d10_0 : Dc jdk_29_method_65_code 0 (.iload_n 0) 1 1 := ⟨by decide +kernel, rfl⟩
theorem d10_1 : Dc jdk_29_method_65_code 1 (.iload_n 1) 1 2 := ⟨by decide +kernel, rfl⟩
theorem d10_2 : Bi jdk_29_method_65_code 2 (Instr.if_icmp .lt) 9 5 := ⟨7, by decide +kernel, by decide, by decide, rfl⟩
theorem d10_5 : Dc jdk_29_method_65_code 5 (.iload_n 0) 1 6 := ⟨by decide +kernel, rfl⟩
theorem d10_6 : Bi jdk_29_method_65_code 6 (Instr.goto) 10 9 := ⟨4, by decide +kernel, by decide, by decide, rfl⟩
theorem d10_10 : Dc jdk_29_method_65_code 10 (.ireturn) 1 11 := ⟨by decide +kernel, rfl⟩
set_option maxRecDepth 65536 in
set_option maxHeartbeats 40000000 in
theorem ra8 (l : Launch) (Z : State) (a0 : Array Value) (hw : ∀ d ∈ tables_1, d.before a0 Z = true) (dc lc : Addr) (cdc : ClassId) (clc : Cell) (SDC : Sta Z Z.heap "java/util/ArrayList" "DEFAULTCAPACITY_EMPTY_ELEMENTDATA" "[Ljava/lang/Object;" (.ref dc)) (AD : Arx Z Z.heap dc cdc (.object "java/lang/Object") (0 : Int32) [] .null "[Ljava/lang/Object;") (SLC : Sta Z Z.heap "java/lang/Long$LongCache" "cache" "[Ljava/lang/Long;" (.ref lc)) (BX : Bxs Z lc clc "java/lang/Long" "J" (256 : Int32) (fun j => .long ((j - 128).toInt64))) (h0 : Heap) (OL : Old Z Z.heap.size h0) :
    Met l Z (⟨"java/lang/Math", "max", "(II)I"⟩ : MethodName) jdk_29_method_65_code 2 (some .int) ({ frames := 0, cells := 0, slots := 0, locals := 0 } : Room) #[(.int (10 : Int32)), (.int (1 : Int32))] h0 (fun v h' => (v = some (.int (10 : Int32)) ∧ h0 = h')) := by
  refine met_of (Ls := #[.val (.int (10 : Int32)), .val (.int (1 : Int32))]) (Jvm.Free.JP.mathPlain rfl (by decide +kernel)) (fun m => by first | (simp [entryFrame, mkF, argsToLocals, Value.category]; done) | rfl) (fun p e s m below meth c cx => ?_)
  have KK := Keep.refl h0 []
  have A_dc := AD.ext OL.2
  refine g_iloadN cx d10_0 rfl ?_
  refine g_iloadN cx d10_1 rfl ?_
  refine g_icmp_lt cx d10_2 (fun q => absurd q (fun q => by revert q; decide)) (fun hc2 => ?_)
  refine g_iloadN cx d10_5 rfl ?_
  refine g_goto cx d10_6 ?_
  refine g_retI cx d10_10 rfl (by decide) (by decide) ?_
  exact ⟨rfl, rfl⟩
theorem pd_3 : parseMethodDescriptor "(II)I" = some ⟨[.int, .int], some .int⟩ := by decide +kernel
theorem d9_49 : Dc jdk_38_method_6_code 49 (.invokestatic 79) 3 52 := ⟨by decide +kernel, rfl⟩
theorem d9_52 : Dc jdk_38_method_6_code 52 (.anewarray 7) 3 55 := ⟨by decide +kernel, rfl⟩
theorem d9_55 : Dc jdk_38_method_6_code 55 (.dup_x1) 1 56 := ⟨by decide +kernel, rfl⟩
theorem d9_56 : Dc jdk_38_method_6_code 56 (.putfield 9) 3 59 := ⟨by decide +kernel, rfl⟩
theorem d9_59 : Dc jdk_38_method_6_code 59 (.areturn) 1 60 := ⟨by decide +kernel, rfl⟩
theorem pn_ra7 : plainName "java/util/ArrayList" = true := by first | (simp [plainName, overriddenIn]; done) | decide +kernel
set_option maxRecDepth 65536 in
set_option maxHeartbeats 40000000 in
theorem ra7 (l : Launch) (Z : State) (a0 : Array Value) (hw : ∀ d ∈ tables_1, d.before a0 Z = true) (dc lc : Addr) (cdc : ClassId) (clc : Cell) (SDC : Sta Z Z.heap "java/util/ArrayList" "DEFAULTCAPACITY_EMPTY_ELEMENTDATA" "[Ljava/lang/Object;" (.ref dc)) (AD : Arx Z Z.heap dc cdc (.object "java/lang/Object") (0 : Int32) [] .null "[Ljava/lang/Object;") (SLC : Sta Z Z.heap "java/lang/Long$LongCache" "cache" "[Ljava/lang/Long;" (.ref lc)) (BX : Bxs Z lc clc "java/lang/Long" "J" (256 : Int32) (fun j => .long ((j - 128).toInt64))) (ad0 : Addr) (h0 : Heap) (O_ad0 : ObA Z h0 ad0 (.int (1 : Int32)) (.ref dc) (.int (0 : Int32))) (g_ad0 : Z.heap.size ≤ ad0) (OL : Old Z Z.heap.size h0) :
    Met l Z (⟨"java/util/ArrayList", "grow", "(I)[Ljava/lang/Object;"⟩ : MethodName) jdk_38_method_6_code 4 (some (.array (.object "java/lang/Object"))) ({ frames := 1, cells := 1, slots := 10, locals := 14 } : Room) #[(.ref ad0), (.int (1 : Int32))] h0 (fun v h' => (∃ (b6 : Addr) (cA7 : ClassId) , v = some (.ref b6) ∧ Keep h0 h' [ad0] ∧ h0.size ≤ b6 ∧ Arx Z h' b6 cA7 (.object "java/lang/Object") (10 : Int32) [.null, .null, .null, .null, .null, .null, .null, .null, .null, .null] .null "[Ljava/lang/Object;" ∧ Ovr Z cA7 "java/lang/Object" ∧ ObA Z h' ad0 (.int (1 : Int32)) (.ref b6) (.int (0 : Int32)))) := by
  refine met_of (Ls := #[.val (.ref ad0), .val (.int (1 : Int32)), .unset, .unset]) (plainFor_of_name pn_ra7) (fun m => by first | (simp [entryFrame, mkF, argsToLocals, Value.category]; done) | rfl) (fun p e s m below meth c cx => ?_)
  have KK := Keep.refl h0 [ad0]
  have A_dc := AD.ext OL.2
  refine g_aloadN cx d9_0 rfl rfl ?_
  refine g_getF cx d9_1 (host := "") (Or.inl (hw _ (List.mem_of_getElem? (i := 26) rfl))) Via.refl O_ad0.2.2.1 ?_
  refine g_arraylength cx d9_4 A_dc.1 ?_
  refine g_istoreN cx d9_5 (Ls' := #[.val (.ref ad0), .val (.int (1 : Int32)), .val (.int (0 : Int32)), .unset]) rfl ?_
  refine g_iloadN cx d9_6 rfl ?_
  refine g_if_gt cx d9_7 (fun q => absurd q (fun q => by revert q; decide)) (fun hc7 => ?_)
  refine g_aloadN cx d9_10 rfl rfl ?_
  refine g_getF cx d9_11 (host := "") (Or.inl (hw _ (List.mem_of_getElem? (i := 26) rfl))) Via.refl O_ad0.2.2.1 ?_
  refine g_getS cx d9_14 (host := "") (Or.inl (hw _ (List.mem_of_getElem? (i := 25) rfl))) Via.refl (SDC.ext OL.2) ?_
  refine g_acmp_eq cx rfl rfl d9_17 (fun hc17 => ?_) (fun q => absurd q (fun q => q rfl))
  refine g_aloadN cx d9_45 rfl rfl ?_
  refine g_bipush cx d9_46 (v := (10 : Int32)) rfl ?_
  refine g_iloadN cx d9_48 rfl ?_
  refine g_static cx (y := (⟨"java/lang/Math", "max", "(II)I"⟩ : MethodName)) d9_49 (hw _ (List.mem_of_getElem? (i := 60) rfl)) (hw _ (List.mem_of_getElem? (i := 61) rfl)) (hw _ (List.mem_of_getElem? (i := 62) rfl)) (hw _ (List.mem_of_getElem? (i := 63) rfl)) (by decide) (bytes := jdk_29_method_65_code) (maxL' := 2) (M := (ra8 l Z a0 hw dc lc cdc clc SDC AD SLC BX  _  OL)) rfl (lenOf pd_3 rfl) (by decide) (W := 1) (Nat.le_of_eq rfl) (by decide) (k' := 0) (n' := 0) rfl rfl (by decide) (by decide) (argsL := [(.int (10 : Int32)), (.int (1 : Int32))]) (rest := [(.ref ad0)]) rfl (fun v3 h2 q4 => ?_)
  obtain ⟨rfl, rfl⟩ := q4
  refine G.cast (st' := [(.int (10 : Int32)), (.ref ad0)]) ?_ rfl
  refine g_anewarray cx (C := "java/lang/Object") (ad := "[Ljava/lang/Object;") (by decide) d9_52 (hw _ (List.mem_of_getElem? (i := 64) rfl)) (hw _ (List.mem_of_getElem? (i := 65) rfl)) (by decide) (cap := 10) (by decide) (by decide) (k' := 1) (n' := 10) rfl rfl (by decide) (by decide) (fun h5 b6 cA7 gb8 E9 X10 OV_b6 => ?_)
  have ne_ad0_b6 : ad0 ≠ b6 := Nat.ne_of_lt (by rw [gb8]; exact O_ad0.lt)
  have g_b6 : Z.heap.size ≤ b6 := by rw [gb8]; exact OL.2.1
  have sz_b6 := (by rw [gb8]; exact KK.1 : h0.size ≤ b6)
  have O_ad0 := O_ad0.ext E9
  have OL := OL.ext E9
  have A_dc := AD.ext OL.2
  have KK := KK.ext E9
  have A_b6 : Arx Z h5 b6 cA7 (.object "java/lang/Object") (10 : Int32) [.null, .null, .null, .null, .null, .null, .null, .null, .null, .null] .null "[Ljava/lang/Object;" := X10.pad (pad_rep [] .null 10)
  refine g_dup_x1 cx d9_55 rfl rfl ?_
  refine g_putF cx d9_56 (host := "") (Or.inl (hw _ (List.mem_of_getElem? (i := 26) rfl))) Via.refl O_ad0.2.2.1 O_ad0.1 (Or.inl (hw _ (List.mem_of_getElem? (i := 27) rfl))) (hw _ (List.mem_of_getElem? (i := 3) rfl)) (ty := (.array (.object "java/lang/Object"))) (by decide) rfl rfl g_ad0 (fun h12 W13 => ?_)
  have O_ad0 := O_ad0.put2 hw W13
  have A_b6 := A_b6.other W13 (Ne.symm ne_ad0_b6)
  have OL := OL.wr W13 g_ad0
  have A_dc := AD.ext OL.2
  have KK := KK.wr W13 (Or.inl (List.mem_of_getElem? (i := 0) rfl))
  refine g_retA cx d9_59 (t := (.array (.object "java/lang/Object"))) rfl rfl rfl rfl (by decide) (by decide) ?_
  exact ⟨b6, cA7, rfl, KK, sz_b6, A_b6, OV_b6, O_ad0⟩
theorem pd_4 : parseMethodDescriptor "(I)[Ljava/lang/Object;" = some ⟨[.int], some (.array (.object "java/lang/Object"))⟩ := by decide +kernel
theorem d8_7 : Dc jdk_38_method_7_code 7 (.invokevirtual 69) 3 10 := ⟨by decide +kernel, rfl⟩
theorem d8_10 : Dc jdk_38_method_7_code 10 (.areturn) 1 11 := ⟨by decide +kernel, rfl⟩
theorem pn_ra6 : plainName "java/util/ArrayList" = true := by first | (simp [plainName, overriddenIn]; done) | decide +kernel
set_option maxRecDepth 65536 in
set_option maxHeartbeats 40000000 in
theorem ra6 (l : Launch) (Z : State) (a0 : Array Value) (hw : ∀ d ∈ tables_1, d.before a0 Z = true) (dc lc : Addr) (cdc : ClassId) (clc : Cell) (SDC : Sta Z Z.heap "java/util/ArrayList" "DEFAULTCAPACITY_EMPTY_ELEMENTDATA" "[Ljava/lang/Object;" (.ref dc)) (AD : Arx Z Z.heap dc cdc (.object "java/lang/Object") (0 : Int32) [] .null "[Ljava/lang/Object;") (SLC : Sta Z Z.heap "java/lang/Long$LongCache" "cache" "[Ljava/lang/Long;" (.ref lc)) (BX : Bxs Z lc clc "java/lang/Long" "J" (256 : Int32) (fun j => .long ((j - 128).toInt64))) (ad0 : Addr) (h0 : Heap) (O_ad0 : ObA Z h0 ad0 (.int (1 : Int32)) (.ref dc) (.int (0 : Int32))) (g_ad0 : Z.heap.size ≤ ad0) (OL : Old Z Z.heap.size h0) :
    Met l Z (⟨"java/util/ArrayList", "grow", "()[Ljava/lang/Object;"⟩ : MethodName) jdk_38_method_7_code 1 (some (.array (.object "java/lang/Object"))) ({ frames := 2, cells := 1, slots := 10, locals := 29 } : Room) #[(.ref ad0)] h0 (fun v h' => (∃ (b1 : Addr) (cA2 : ClassId) , v = some (.ref b1) ∧ Keep h0 h' [ad0] ∧ h0.size ≤ b1 ∧ Arx Z h' b1 cA2 (.object "java/lang/Object") (10 : Int32) [.null, .null, .null, .null, .null, .null, .null, .null, .null, .null] .null "[Ljava/lang/Object;" ∧ Ovr Z cA2 "java/lang/Object" ∧ ObA Z h' ad0 (.int (1 : Int32)) (.ref b1) (.int (0 : Int32)))) := by
  refine met_of (Ls := #[.val (.ref ad0)]) (plainFor_of_name pn_ra6) (fun m => by first | (simp [entryFrame, mkF, argsToLocals, Value.category]; done) | rfl) (fun p e s m below meth c cx => ?_)
  have KK := Keep.refl h0 [ad0]
  have A_dc := AD.ext OL.2
  refine g_aloadN cx d8_0 rfl rfl ?_
  refine g_aloadN cx d8_1 rfl rfl ?_
  refine g_getF cx d8_2 (host := "") (Or.inl (hw _ (List.mem_of_getElem? (i := 43) rfl))) Via.refl O_ad0.2.2.2 ?_
  refine g_iconst cx d8_5 (v := (1 : Int32)) rfl ?_
  refine g_iadd cx d8_6 ?_
  refine G.cast (st' := [(.int (1 : Int32)), (.ref ad0)]) ?_ rfl
  have lt_ad0 := O_ad0.lt
  refine g_private cx (y := (⟨"java/util/ArrayList", "grow", "(I)[Ljava/lang/Object;"⟩ : MethodName)) (a := ad0) d8_7 (hw _ (List.mem_of_getElem? (i := 55) rfl)) (hw _ (List.mem_of_getElem? (i := 56) rfl)) (hw _ (List.mem_of_getElem? (i := 4) rfl)) (hw _ (List.mem_of_getElem? (i := 59) rfl)) (hw _ (List.mem_of_getElem? (i := 58) rfl)) (hw _ (List.mem_of_getElem? (i := 57) rfl)) (by decide) O_ad0.1 (bytes := jdk_38_method_6_code) (maxL' := 4) (M := (ra7 l Z a0 hw dc lc cdc clc SDC AD SLC BX ad0 _ O_ad0 g_ad0 OL)) rfl (lenOf pd_4 rfl) (by decide) (W := 0) (Nat.le_of_eq rfl) (by decide) (k' := 1) (n' := 10) rfl rfl (by decide) (by decide) (argsL := [(.int (1 : Int32))]) (rest := []) rfl (fun v5 h4 q6 => ?_)
  obtain ⟨b1, cA2, rfl, K3, sq_b1, A_b1, OV_b1, O_ad0⟩ := q6
  have ne_ad0_b1 : ad0 ≠ b1 := Nat.ne_of_lt (Nat.lt_of_lt_of_le lt_ad0 sq_b1)
  have g_b1 : Z.heap.size ≤ b1 := Nat.le_trans OL.2.1 sq_b1
  have sz_b1 := Nat.le_trans KK.1 sq_b1
  have OL := OL.keep K3 (allS g_ad0 all0)
  have A_dc := AD.ext OL.2
  have KK := KK.trans K3 (allS (P := fun z => z ∈ _ ∨ _ ≤ z) (Or.inl (List.mem_of_getElem? (i := 0) rfl)) all0)
  refine G.cast (st' := [(.ref b1)]) ?_ rfl
  refine g_retA cx d8_10 (t := (.array (.object "java/lang/Object"))) rfl rfl rfl rfl (by decide) (by decide) ?_
  exact ⟨b1, cA2, rfl, KK, sz_b1, A_b1, OV_b1, O_ad0⟩
theorem pd_5 : parseMethodDescriptor "()[Ljava/lang/Object;" = some ⟨[], some (.array (.object "java/lang/Object"))⟩ := by decide +kernel
theorem d7_7 : Dc jdk_38_method_24_code 7 (.invokevirtual 129) 3 10 := ⟨by decide +kernel, rfl⟩
theorem d7_10 : Dc jdk_38_method_24_code 10 (.astore_n 2) 1 11 := ⟨by decide +kernel, rfl⟩
theorem d7_11 : Dc jdk_38_method_24_code 11 (.aload_n 2) 1 12 := ⟨by decide +kernel, rfl⟩
theorem d7_12 : Dc jdk_38_method_24_code 12 (.iload_n 3) 1 13 := ⟨by decide +kernel, rfl⟩
theorem d7_13 : Dc jdk_38_method_24_code 13 (.aload_n 1) 1 14 := ⟨by decide +kernel, rfl⟩
theorem d7_14 : Dc jdk_38_method_24_code 14 (.aastore) 1 15 := ⟨by decide +kernel, rfl⟩
theorem d7_15 : Dc jdk_38_method_24_code 15 (.aload_n 0) 1 16 := ⟨by decide +kernel, rfl⟩
theorem d7_16 : Dc jdk_38_method_24_code 16 (.iload_n 3) 1 17 := ⟨by decide +kernel, rfl⟩
theorem d7_17 : Dc jdk_38_method_24_code 17 (.iconst 1) 1 18 := ⟨by decide +kernel, rfl⟩
theorem d7_18 : Dc jdk_38_method_24_code 18 (.iadd) 1 19 := ⟨by decide +kernel, rfl⟩
theorem d7_19 : Dc jdk_38_method_24_code 19 (.putfield 48) 3 22 := ⟨by decide +kernel, rfl⟩
theorem d7_22 : Dc jdk_38_method_24_code 22 (.return_) 1 23 := ⟨by decide +kernel, rfl⟩
theorem pn_ra5 : plainName "java/util/ArrayList" = true := by first | (simp [plainName, overriddenIn]; done) | decide +kernel
set_option maxRecDepth 65536 in
set_option maxHeartbeats 40000000 in
theorem ra5 (l : Launch) (Z : State) (a0 : Array Value) (hw : ∀ d ∈ tables_1, d.before a0 Z = true) (dc lc : Addr) (cdc : ClassId) (clc : Cell) (SDC : Sta Z Z.heap "java/util/ArrayList" "DEFAULTCAPACITY_EMPTY_ELEMENTDATA" "[Ljava/lang/Object;" (.ref dc)) (AD : Arx Z Z.heap dc cdc (.object "java/lang/Object") (0 : Int32) [] .null "[Ljava/lang/Object;") (SLC : Sta Z Z.heap "java/lang/Long$LongCache" "cache" "[Ljava/lang/Long;" (.ref lc)) (BX : Bxs Z lc clc "java/lang/Long" "J" (256 : Int32) (fun j => .long ((j - 128).toInt64))) (ad0 ad2 : Addr) (h0 : Heap) (O_ad0 : ObA Z h0 ad0 (.int (1 : Int32)) (.ref dc) (.int (0 : Int32))) (O_ad2 : ObX Z h0 ad2 ) (g_ad0 : Z.heap.size ≤ ad0) (OL : Old Z Z.heap.size h0) :
    Met l Z (⟨"java/util/ArrayList", "add", "(Ljava/lang/Object;[Ljava/lang/Object;I)V"⟩ : MethodName) jdk_38_method_24_code 4 none ({ frames := 3, cells := 1, slots := 10, locals := 41 } : Room) #[(.ref ad0), (.ref ad2), (.ref dc), (.int (0 : Int32))] h0 (fun v h' => (∃ (b1 : Addr) (cA2 : ClassId) , v = none ∧ Keep h0 h' [ad0] ∧ h0.size ≤ b1 ∧ Arx Z h' b1 cA2 (.object "java/lang/Object") (10 : Int32) [(.ref ad2), .null, .null, .null, .null, .null, .null, .null, .null, .null] .null "[Ljava/lang/Object;" ∧ Ovr Z cA2 "java/lang/Object" ∧ ObA Z h' ad0 (.int (1 : Int32)) (.ref b1) (.int (1 : Int32)))) := by
  refine met_of (Ls := #[.val (.ref ad0), .val (.ref ad2), .val (.ref dc), .val (.int (0 : Int32))]) (plainFor_of_name pn_ra5) (fun m => by first | (simp [entryFrame, mkF, argsToLocals, Value.category]; done) | rfl) (fun p e s m below meth c cx => ?_)
  have KK := Keep.refl h0 [ad0]
  have A_dc := AD.ext OL.2
  refine g_iloadN cx d7_0 rfl ?_
  refine g_aloadN cx d7_1 rfl rfl ?_
  refine g_arraylength cx d7_2 A_dc.1 ?_
  refine g_icmp_ne cx d7_3 (fun q => absurd q (fun q => by revert q; decide)) (fun hc3 => ?_)
  refine g_aloadN cx d7_6 rfl rfl ?_
  have lt_ad0 := O_ad0.lt
  refine g_private cx (y := (⟨"java/util/ArrayList", "grow", "()[Ljava/lang/Object;"⟩ : MethodName)) (a := ad0) d7_7 (hw _ (List.mem_of_getElem? (i := 50) rfl)) (hw _ (List.mem_of_getElem? (i := 51) rfl)) (hw _ (List.mem_of_getElem? (i := 4) rfl)) (hw _ (List.mem_of_getElem? (i := 54) rfl)) (hw _ (List.mem_of_getElem? (i := 53) rfl)) (hw _ (List.mem_of_getElem? (i := 52) rfl)) (by decide) O_ad0.1 (bytes := jdk_38_method_7_code) (maxL' := 1) (M := (ra6 l Z a0 hw dc lc cdc clc SDC AD SLC BX ad0 _ O_ad0 g_ad0 OL)) rfl (lenOf pd_5 rfl) (by decide) (W := 0) (Nat.le_of_eq rfl) (by decide) (k' := 1) (n' := 10) rfl rfl (by decide) (by decide) (argsL := []) (rest := []) rfl (fun v5 h4 q6 => ?_)
  obtain ⟨b1, cA2, rfl, K3, sq_b1, A_b1, OV_b1, O_ad0⟩ := q6
  have ne_ad0_b1 : ad0 ≠ b1 := Nat.ne_of_lt (Nat.lt_of_lt_of_le lt_ad0 sq_b1)
  have ne_ad2_b1 : ad2 ≠ b1 := Nat.ne_of_lt (Nat.lt_of_lt_of_le O_ad2.lt sq_b1)
  have g_b1 : Z.heap.size ≤ b1 := Nat.le_trans OL.2.1 sq_b1
  have sz_b1 := Nat.le_trans KK.1 sq_b1
  have O_ad2 := O_ad2.keepX K3
  have OL := OL.keep K3 (allS g_ad0 all0)
  have A_dc := AD.ext OL.2
  have KK := KK.trans K3 (allS (P := fun z => z ∈ _ ∨ _ ≤ z) (Or.inl (List.mem_of_getElem? (i := 0) rfl)) all0)
  refine G.cast (st' := [(.ref b1)]) ?_ rfl
  refine g_astoreN cx d7_10 rfl (Ls' := #[.val (.ref ad0), .val (.ref ad2), .val (.ref b1), .val (.int (0 : Int32))]) rfl ?_
  refine g_aloadN cx d7_11 rfl rfl ?_
  refine g_iloadN cx d7_12 rfl ?_
  refine g_aloadN cx d7_13 rfl rfl ?_
  refine g_aastore cx d7_14 A_b1 rfl rfl (sto_of A_b1 OV_b1 (Ins.of_exa O_ad2 (hw _ (List.mem_of_getElem? (i := 66) rfl)))) ⟨by decide, by decide⟩ (Nat.le_of_ble_eq_true rfl) g_b1 (fun h7 W8 AA9 => ?_)
  have O_ad0 := O_ad0.oth W8 ne_ad0_b1
  have O_ad2 := O_ad2.othX W8
  have A_b1 : Arx Z h7 b1 cA2 (.object "java/lang/Object") (10 : Int32) [(.ref ad2), .null, .null, .null, .null, .null, .null, .null, .null, .null] .null "[Ljava/lang/Object;" := AA9
  have OL := OL.wr W8 g_b1
  have A_dc := AD.ext OL.2
  have KK := KK.wr W8 (Or.inr sz_b1)
  refine g_aloadN cx d7_15 rfl rfl ?_
  refine g_iloadN cx d7_16 rfl ?_
  refine g_iconst cx d7_17 (v := (1 : Int32)) rfl ?_
  refine g_iadd cx d7_18 ?_
  refine G.cast (st' := [(.int (1 : Int32)), (.ref ad0)]) ?_ rfl
  refine g_putF cx d7_19 (host := "") (Or.inl (hw _ (List.mem_of_getElem? (i := 43) rfl))) Via.refl O_ad0.2.2.2 O_ad0.1 (Or.inl (hw _ (List.mem_of_getElem? (i := 44) rfl))) (hw _ (List.mem_of_getElem? (i := 3) rfl)) (ty := .int) (by decide) rfl rfl g_ad0 (fun h10 W11 => ?_)
  have O_ad0 := O_ad0.put3 hw W11
  have O_ad2 := O_ad2.othX W11
  have A_b1 := A_b1.other W11 (Ne.symm ne_ad0_b1)
  have OL := OL.wr W11 g_ad0
  have A_dc := AD.ext OL.2
  have KK := KK.wr W11 (Or.inl (List.mem_of_getElem? (i := 0) rfl))
  refine g_retV cx d7_22 rfl (by decide) (by decide) ?_
  exact ⟨b1, cA2, rfl, KK, sz_b1, A_b1, OV_b1, O_ad0⟩
theorem pd_6 : parseMethodDescriptor "(Ljava/lang/Object;[Ljava/lang/Object;I)V" = some ⟨[(.object "java/lang/Object"), (.array (.object "java/lang/Object")), .int], none⟩ := by decide +kernel
theorem d6_20 : Dc jdk_38_method_25_code 20 (.invokevirtual 131) 3 23 := ⟨by decide +kernel, rfl⟩
theorem d6_23 : Dc jdk_38_method_25_code 23 (.iconst 1) 1 24 := ⟨by decide +kernel, rfl⟩
theorem d6_24 : Dc jdk_38_method_25_code 24 (.ireturn) 1 25 := ⟨by decide +kernel, rfl⟩
theorem pn_ra4 : plainName "java/util/ArrayList" = true := by first | (simp [plainName, overriddenIn]; done) | decide +kernel
set_option maxRecDepth 65536 in
set_option maxHeartbeats 40000000 in
theorem ra4 (l : Launch) (Z : State) (a0 : Array Value) (hw : ∀ d ∈ tables_1, d.before a0 Z = true) (dc lc : Addr) (cdc : ClassId) (clc : Cell) (SDC : Sta Z Z.heap "java/util/ArrayList" "DEFAULTCAPACITY_EMPTY_ELEMENTDATA" "[Ljava/lang/Object;" (.ref dc)) (AD : Arx Z Z.heap dc cdc (.object "java/lang/Object") (0 : Int32) [] .null "[Ljava/lang/Object;") (SLC : Sta Z Z.heap "java/lang/Long$LongCache" "cache" "[Ljava/lang/Long;" (.ref lc)) (BX : Bxs Z lc clc "java/lang/Long" "J" (256 : Int32) (fun j => .long ((j - 128).toInt64))) (ad0 ad2 : Addr) (h0 : Heap) (O_ad0 : ObA Z h0 ad0 (.int (0 : Int32)) (.ref dc) (.int (0 : Int32))) (O_ad2 : ObX Z h0 ad2 ) (g_ad0 : Z.heap.size ≤ ad0) (OL : Old Z Z.heap.size h0) :
    Met l Z (⟨"java/util/ArrayList", "add", "(Ljava/lang/Object;)Z"⟩ : MethodName) jdk_38_method_25_code 2 (some .boolean) ({ frames := 4, cells := 1, slots := 10, locals := 56 } : Room) #[(.ref ad0), (.ref ad2)] h0 (fun v h' => (∃ (b3 : Addr) (cA4 : ClassId) , v = some (.int (1 : Int32)) ∧ Keep h0 h' [ad0] ∧ h0.size ≤ b3 ∧ Arx Z h' b3 cA4 (.object "java/lang/Object") (10 : Int32) [(.ref ad2), .null, .null, .null, .null, .null, .null, .null, .null, .null] .null "[Ljava/lang/Object;" ∧ Ovr Z cA4 "java/lang/Object" ∧ ObA Z h' ad0 (.int (1 : Int32)) (.ref b3) (.int (1 : Int32)))) := by
  refine met_of (Ls := #[.val (.ref ad0), .val (.ref ad2)]) (plainFor_of_name pn_ra4) (fun m => by first | (simp [entryFrame, mkF, argsToLocals, Value.category]; done) | rfl) (fun p e s m below meth c cx => ?_)
  have KK := Keep.refl h0 [ad0]
  have A_dc := AD.ext OL.2
  refine g_aloadN cx d6_0 rfl rfl ?_
  refine g_dup cx d6_1 rfl ?_
  refine g_getF cx d6_2 (host := "") (Or.inl (hw _ (List.mem_of_getElem? (i := 41) rfl))) (Via.of (hw _ (List.mem_of_getElem? (i := 42) rfl))) O_ad0.2.1 ?_
  refine g_iconst cx d6_5 (v := (1 : Int32)) rfl ?_
  refine g_iadd cx d6_6 ?_
  refine G.cast (st' := [(.int (1 : Int32)), (.ref ad0)]) ?_ rfl
  refine g_putF cx d6_7 (host := "") (Or.inl (hw _ (List.mem_of_getElem? (i := 41) rfl))) (Via.of (hw _ (List.mem_of_getElem? (i := 42) rfl))) O_ad0.2.1 O_ad0.1 (Or.inl (hw _ (List.mem_of_getElem? (i := 24) rfl))) (hw _ (List.mem_of_getElem? (i := 3) rfl)) (ty := .int) (by decide) rfl rfl g_ad0 (fun h1 W2 => ?_)
  have O_ad0 := O_ad0.put1 hw W2
  have O_ad2 := O_ad2.othX W2
  have OL := OL.wr W2 g_ad0
  have A_dc := AD.ext OL.2
  have KK := KK.wr W2 (Or.inl (List.mem_of_getElem? (i := 0) rfl))
  refine g_aloadN cx d6_10 rfl rfl ?_
  refine g_aloadN cx d6_11 rfl rfl ?_
  refine g_aloadN cx d6_12 rfl rfl ?_
  refine g_getF cx d6_13 (host := "") (Or.inl (hw _ (List.mem_of_getElem? (i := 26) rfl))) Via.refl O_ad0.2.2.1 ?_
  refine g_aloadN cx d6_16 rfl rfl ?_
  refine g_getF cx d6_17 (host := "") (Or.inl (hw _ (List.mem_of_getElem? (i := 43) rfl))) Via.refl O_ad0.2.2.2 ?_
  have lt_ad0 := O_ad0.lt
  refine g_private cx (y := (⟨"java/util/ArrayList", "add", "(Ljava/lang/Object;[Ljava/lang/Object;I)V"⟩ : MethodName)) (a := ad0) d6_20 (hw _ (List.mem_of_getElem? (i := 45) rfl)) (hw _ (List.mem_of_getElem? (i := 46) rfl)) (hw _ (List.mem_of_getElem? (i := 4) rfl)) (hw _ (List.mem_of_getElem? (i := 49) rfl)) (hw _ (List.mem_of_getElem? (i := 48) rfl)) (hw _ (List.mem_of_getElem? (i := 47) rfl)) (by decide) O_ad0.1 (bytes := jdk_38_method_24_code) (maxL' := 4) (M := (ra5 l Z a0 hw dc lc cdc clc SDC AD SLC BX ad0 ad2 _ O_ad0 O_ad2 g_ad0 OL)) rfl (lenOf pd_6 rfl) (by decide) (W := 0) (Nat.le_of_eq rfl) (by decide) (k' := 1) (n' := 10) rfl rfl (by decide) (by decide) (argsL := [(.ref ad2), (.ref dc), (.int (0 : Int32))]) (rest := []) rfl (fun v7 h6 q8 => ?_)
  obtain ⟨b3, cA4, rfl, K5, sq_b3, A_b3, OV_b3, O_ad0⟩ := q8
  have ne_ad0_b3 : ad0 ≠ b3 := Nat.ne_of_lt (Nat.lt_of_lt_of_le lt_ad0 sq_b3)
  have ne_ad2_b3 : ad2 ≠ b3 := Nat.ne_of_lt (Nat.lt_of_lt_of_le O_ad2.lt sq_b3)
  have g_b3 : Z.heap.size ≤ b3 := Nat.le_trans OL.2.1 sq_b3
  have sz_b3 := Nat.le_trans KK.1 sq_b3
  have O_ad2 := O_ad2.keepX K5
  have OL := OL.keep K5 (allS g_ad0 all0)
  have A_dc := AD.ext OL.2
  have KK := KK.trans K5 (allS (P := fun z => z ∈ _ ∨ _ ≤ z) (Or.inl (List.mem_of_getElem? (i := 0) rfl)) all0)
  refine G.cast (st' := []) ?_ rfl
  refine g_iconst cx d6_23 (v := (1 : Int32)) rfl ?_
  refine g_retZ cx d6_24 rfl rfl (by decide) (by decide) ?_
  exact ⟨b3, cA4, rfl, KK, sz_b3, A_b3, OV_b3, O_ad0⟩
theorem pd_7 : parseMethodDescriptor "(Ljava/lang/Object;)Z" = some ⟨[(.object "java/lang/Object")], some .boolean⟩ := by decide +kernel
theorem d0_66 : Dc code 66 (.invokevirtual 16) 3 69 := ⟨by decide +kernel, rfl⟩
theorem d0_69 : Dc code 69 (.pop) 1 70 := ⟨by decide +kernel, rfl⟩
theorem d0_70 : Dc code 70 (.iconst 2) 1 71 := ⟨by decide +kernel, rfl⟩
theorem d0_71 : Dc code 71 (.newarray .byte) 2 73 := ⟨by decide +kernel, rfl⟩
theorem d0_73 : Dc code 73 (.astore 8) 2 75 := ⟨by decide +kernel, rfl⟩
theorem d0_75 : Dc code 75 (.new 20) 3 78 := ⟨by decide +kernel, rfl⟩
theorem d0_78 : Dc code 78 (.dup) 1 79 := ⟨by decide +kernel, rfl⟩
theorem d0_79 : Dc code 79 (.lload_n 1) 1 80 := ⟨by decide +kernel, rfl⟩
theorem d0_80 : Dc code 80 (.aload 4) 2 82 := ⟨by decide +kernel, rfl⟩
theorem d0_82 : Dc code 82 (.iload 6) 2 84 := ⟨by decide +kernel, rfl⟩
theorem d0_84 : Dc code 84 (.caload) 1 85 := ⟨by decide +kernel, rfl⟩
theorem d0_85 : Dc code 85 (.aload 7) 2 87 := ⟨by decide +kernel, rfl⟩
theorem d0_87 : Dc code 87 (.aload 8) 2 89 := ⟨by decide +kernel, rfl⟩
theorem d11_0 : Dc prog_8_method_1_code 0 (.aload_n 0) 1 1 := ⟨by decide +kernel, rfl⟩
theorem d11_1 : Dc prog_8_method_1_code 1 (.invokespecial 1) 3 4 := ⟨by decide +kernel, rfl⟩
theorem d11_4 : Dc prog_8_method_1_code 4 (.aload_n 0) 1 5 := ⟨by decide +kernel, rfl⟩
theorem d11_5 : Dc prog_8_method_1_code 5 (.lload_n 1) 1 6 := ⟨by decide +kernel, rfl⟩
theorem d11_6 : Dc prog_8_method_1_code 6 (.putfield 7) 3 9 := ⟨by decide +kernel, rfl⟩
theorem d11_9 : Dc prog_8_method_1_code 9 (.aload_n 0) 1 10 := ⟨by decide +kernel, rfl⟩
theorem d11_10 : Dc prog_8_method_1_code 10 (.iload_n 3) 1 11 := ⟨by decide +kernel, rfl⟩
theorem d11_11 : Dc prog_8_method_1_code 11 (.putfield 13) 3 14 := ⟨by decide +kernel, rfl⟩
theorem d11_14 : Dc prog_8_method_1_code 14 (.aload_n 0) 1 15 := ⟨by decide +kernel, rfl⟩
theorem d11_15 : Dc prog_8_method_1_code 15 (.aload 4) 2 17 := ⟨by decide +kernel, rfl⟩
theorem d11_17 : Dc prog_8_method_1_code 17 (.putfield 17) 3 20 := ⟨by decide +kernel, rfl⟩
theorem d11_20 : Dc prog_8_method_1_code 20 (.aload_n 0) 1 21 := ⟨by decide +kernel, rfl⟩
theorem d11_21 : Dc prog_8_method_1_code 21 (.aload 5) 2 23 := ⟨by decide +kernel, rfl⟩
theorem d11_23 : Dc prog_8_method_1_code 23 (.putfield 21) 3 26 := ⟨by decide +kernel, rfl⟩
theorem d11_26 : Dc prog_8_method_1_code 26 (.return_) 1 27 := ⟨by decide +kernel, rfl⟩
theorem pn_ra9 : plainName "com/example/thalweg/thalweg/cli/Mpeg1Reader$Picture" = true := by first | (simp [plainName, overriddenIn]; done) | decide +kernel
set_option maxRecDepth 65536 in
set_option maxHeartbeats 40000000 in
theorem ra9 (l : Launch) (Z : State) (a0 : Array Value) (hw : ∀ d ∈ tables_1, d.before a0 Z = true) (dc lc : Addr) (cdc : ClassId) (clc : Cell) (SDC : Sta Z Z.heap "java/util/ArrayList" "DEFAULTCAPACITY_EMPTY_ELEMENTDATA" "[Ljava/lang/Object;" (.ref dc)) (AD : Arx Z Z.heap dc cdc (.object "java/lang/Object") (0 : Int32) [] .null "[Ljava/lang/Object;") (SLC : Sta Z Z.heap "java/lang/Long$LongCache" "cache" "[Ljava/lang/Long;" (.ref lc)) (BX : Bxs Z lc clc "java/lang/Long" "J" (256 : Int32) (fun j => .long ((j - 128).toInt64))) (ad0 ad1 ad2 ad3 ad4 : Addr) (x0 : Int64) (y2 : Int32) (cA_ad2 : ClassId) (cA_ad4 : ClassId) (h0 : Heap) (O_ad0 : ObP Z h0 ad0 (.long (0 : Int64)) (.int (0 : Int32)) .null .null) (O_ad1 : ObA Z h0 ad1 (.int (1 : Int32)) (.ref ad2) (.int (1 : Int32))) (O_ad3 : ObX Z h0 ad3 ) (A_ad2 : Arx Z h0 ad2 cA_ad2 (.object "java/lang/Object") (10 : Int32) [(.ref ad3), .null, .null, .null, .null, .null, .null, .null, .null, .null] .null "[Ljava/lang/Object;") (A_ad4 : Arx Z h0 ad4 cA_ad4 .byte (2 : Int32) [(.int (0 : Int32)), (.int (0 : Int32))] (.int (0 : Int32)) "[B") (OV_ad2 : Ovr Z cA_ad2 "java/lang/Object") (ne_ad0_ad1 : ad0 ≠ ad1) (ne_ad0_ad2 : ad0 ≠ ad2) (ne_ad1_ad2 : ad1 ≠ ad2) (ne_ad0_ad4 : ad0 ≠ ad4) (ne_ad1_ad4 : ad1 ≠ ad4) (ne_ad2_ad4 : ad2 ≠ ad4) (g_ad0 : Z.heap.size ≤ ad0) (g_ad1 : Z.heap.size ≤ ad1) (g_ad2 : Z.heap.size ≤ ad2) (g_ad4 : Z.heap.size ≤ ad4) (OL : Old Z Z.heap.size h0) :
    Met l Z (⟨"com/example/thalweg/thalweg/cli/Mpeg1Reader$Picture", "<init>", "(JCLjava/util/List;[B)V"⟩ : MethodName) prog_8_method_1_code 6 none ({ frames := 2, cells := 0, slots := 0, locals := 24 } : Room) #[(.ref ad0), (.long x0), (.int y2), (.ref ad1), (.ref ad4)] h0 (fun v h' => (v = none ∧ Keep h0 h' [ad0] ∧ ObP Z h' ad0 (.long x0) (.int (nar .char y2)) (.ref ad1) (.ref ad4))) := by
  refine met_of (Ls := #[.val (.ref ad0), .val (.long x0), .second, .val (.int y2), .val (.ref ad1), .val (.ref ad4)]) (plainFor_of_name pn_ra9) (fun m => by first | (simp [entryFrame, mkF, argsToLocals, Value.category]; done) | rfl) (fun p e s m below meth c cx => ?_)
  have KK := Keep.refl h0 [ad0]
  have A_dc := AD.ext OL.2
  refine g_aloadN cx d11_0 rfl rfl ?_
  refine g_special cx (y := (⟨"java/lang/Record", "<init>", "()V"⟩ : MethodName)) (a := ad0) d11_1 rfl rfl (hw _ (List.mem_of_getElem? (i := 74) rfl)) (hw _ (List.mem_of_getElem? (i := 75) rfl)) (hw _ (List.mem_of_getElem? (i := 77) rfl)) (hw _ (List.mem_of_getElem? (i := 78) rfl)) (by decide) (bytes := jdk_30_method_1_code) (maxL' := 1) (M := (rmi0 l Z a0 hw ad0 _)) rfl (lenOf pd_0 rfl) (by decide) (W := 0) (Nat.le_of_eq rfl) (by decide) (k' := 0) (n' := 0) rfl rfl (by decide) (by decide) (argsL := []) (rest := []) rfl (fun v2 h1 q3 => ?_)
  obtain ⟨rfl, rfl⟩ := q3
  refine G.cast (st' := []) ?_ rfl
  refine g_aloadN cx d11_4 rfl rfl ?_
  refine g_lloadN cx d11_5 rfl ?_
  refine g_putF cx d11_6 (host := "") (Or.inl (hw _ (List.mem_of_getElem? (i := 80) rfl))) Via.refl O_ad0.2.1 O_ad0.1 (Or.inr ⟨(hw _ (List.mem_of_getElem? (i := 81) rfl)), rfl, rfl⟩) (hw _ (List.mem_of_getElem? (i := 69) rfl)) (ty := .long) (by decide) rfl rfl g_ad0 (fun h4 W5 => ?_)
  have O_ad0 := O_ad0.put1 hw W5
  have O_ad1 := O_ad1.oth W5 (Ne.symm ne_ad0_ad1)
  have O_ad3 := O_ad3.othX W5
  have A_ad2 := A_ad2.other W5 (Ne.symm ne_ad0_ad2)
  have A_ad4 := A_ad4.other W5 (Ne.symm ne_ad0_ad4)
  have OL := OL.wr W5 g_ad0
  have A_dc := AD.ext OL.2
  have KK := KK.wr W5 (Or.inl (List.mem_of_getElem? (i := 0) rfl))
  refine g_aloadN cx d11_9 rfl rfl ?_
  refine g_iloadN cx d11_10 rfl ?_
  refine g_putFN cx d11_11 (hw _ (List.mem_of_getElem? (i := 82) rfl)) Via.refl O_ad0.2.2.1 O_ad0.1 (Or.inr ⟨(hw _ (List.mem_of_getElem? (i := 83) rfl)), rfl, rfl⟩) (hw _ (List.mem_of_getElem? (i := 69) rfl)) (ty := .char) (v' := (.int (nar .char y2))) (by decide) rfl (fits_nar_char _) g_ad0 (fun h6 W7 => ?_)
  have O_ad0 := O_ad0.put2 hw W7
  have O_ad1 := O_ad1.oth W7 (Ne.symm ne_ad0_ad1)
  have O_ad3 := O_ad3.othX W7
  have A_ad2 := A_ad2.other W7 (Ne.symm ne_ad0_ad2)
  have A_ad4 := A_ad4.other W7 (Ne.symm ne_ad0_ad4)
  have OL := OL.wr W7 g_ad0
  have A_dc := AD.ext OL.2
  have KK := KK.wr W7 (Or.inl (List.mem_of_getElem? (i := 0) rfl))
  refine g_aloadN cx d11_14 rfl rfl ?_
  refine g_aload cx d11_15 rfl rfl ?_
  refine g_putF cx d11_17 (host := "") (Or.inl (hw _ (List.mem_of_getElem? (i := 84) rfl))) Via.refl O_ad0.2.2.2.1 O_ad0.1 (Or.inr ⟨(hw _ (List.mem_of_getElem? (i := 85) rfl)), rfl, rfl⟩) (hw _ (List.mem_of_getElem? (i := 69) rfl)) (ty := (.object "java/util/List")) (by decide) rfl rfl g_ad0 (fun h8 W9 => ?_)
  have O_ad0 := O_ad0.put3 hw W9
  have O_ad1 := O_ad1.oth W9 (Ne.symm ne_ad0_ad1)
  have O_ad3 := O_ad3.othX W9
  have A_ad2 := A_ad2.other W9 (Ne.symm ne_ad0_ad2)
  have A_ad4 := A_ad4.other W9 (Ne.symm ne_ad0_ad4)
  have OL := OL.wr W9 g_ad0
  have A_dc := AD.ext OL.2
  have KK := KK.wr W9 (Or.inl (List.mem_of_getElem? (i := 0) rfl))
  refine g_aloadN cx d11_20 rfl rfl ?_
  refine g_aload cx d11_21 rfl rfl ?_
  refine g_putF cx d11_23 (host := "") (Or.inl (hw _ (List.mem_of_getElem? (i := 86) rfl))) Via.refl O_ad0.2.2.2.2 O_ad0.1 (Or.inr ⟨(hw _ (List.mem_of_getElem? (i := 87) rfl)), rfl, rfl⟩) (hw _ (List.mem_of_getElem? (i := 69) rfl)) (ty := (.array .byte)) (by decide) rfl rfl g_ad0 (fun h10 W11 => ?_)
  have O_ad0 := O_ad0.put4 hw W11
  have O_ad1 := O_ad1.oth W11 (Ne.symm ne_ad0_ad1)
  have O_ad3 := O_ad3.othX W11
  have A_ad2 := A_ad2.other W11 (Ne.symm ne_ad0_ad2)
  have A_ad4 := A_ad4.other W11 (Ne.symm ne_ad0_ad4)
  have OL := OL.wr W11 g_ad0
  have A_dc := AD.ext OL.2
  have KK := KK.wr W11 (Or.inl (List.mem_of_getElem? (i := 0) rfl))
  refine g_retV cx d11_26 rfl (by decide) (by decide) ?_
  exact ⟨rfl, KK, O_ad0⟩
theorem pd_8 : parseMethodDescriptor "(JCLjava/util/List;[B)V" = some ⟨[.long, .char, (.object "java/util/List"), (.array .byte)], none⟩ := by decide +kernel
theorem d0_89 : Dc code 89 (.invokespecial 22) 3 92 := ⟨by decide +kernel, rfl⟩
theorem d0_92 : Dc code 92 (.astore 9) 2 94 := ⟨by decide +kernel, rfl⟩
theorem d0_94 : Dc code 94 (.aload 9) 2 96 := ⟨by decide +kernel, rfl⟩
theorem d13_0 : Dc prog_8_method_2_code 0 (.aload_n 0) 1 1 := ⟨by decide +kernel, rfl⟩
theorem d13_1 : Dc prog_8_method_2_code 1 (.getfield 13) 3 4 := ⟨by decide +kernel, rfl⟩
theorem d13_4 : decode prog_8_method_2_code 4 = .ok (.lookupswitch 36 #[(66, 32), (80, 28)], 28) := by decide +kernel
theorem d13_36 : Dc prog_8_method_2_code 36 (.iconst 2) 1 37 := ⟨by decide +kernel, rfl⟩
theorem d13_37 : Bi prog_8_method_2_code 37 (Instr.goto) 41 40 := ⟨4, by decide +kernel, by decide, by decide, rfl⟩
theorem d13_41 : Dc prog_8_method_2_code 41 (.ireturn) 1 42 := ⟨by decide +kernel, rfl⟩
theorem d13_32 : Dc prog_8_method_2_code 32 (.iconst 1) 1 33 := ⟨by decide +kernel, rfl⟩
theorem d13_33 : Bi prog_8_method_2_code 33 (Instr.goto) 41 36 := ⟨8, by decide +kernel, by decide, by decide, rfl⟩
theorem d13_40 : Dc prog_8_method_2_code 40 (.iconst 0) 1 41 := ⟨by decide +kernel, rfl⟩
theorem pn_ra10 : plainName "com/example/thalweg/thalweg/cli/Mpeg1Reader$Picture" = true := by first | (simp [plainName, overriddenIn]; done) | decide +kernel
set_option maxRecDepth 65536 in
set_option maxHeartbeats 40000000 in
theorem ra10 (l : Launch) (Z : State) (a0 : Array Value) (hw : ∀ d ∈ tables_1, d.before a0 Z = true) (dc lc : Addr) (cdc : ClassId) (clc : Cell) (SDC : Sta Z Z.heap "java/util/ArrayList" "DEFAULTCAPACITY_EMPTY_ELEMENTDATA" "[Ljava/lang/Object;" (.ref dc)) (AD : Arx Z Z.heap dc cdc (.object "java/lang/Object") (0 : Int32) [] .null "[Ljava/lang/Object;") (SLC : Sta Z Z.heap "java/lang/Long$LongCache" "cache" "[Ljava/lang/Long;" (.ref lc)) (BX : Bxs Z lc clc "java/lang/Long" "J" (256 : Int32) (fun j => .long ((j - 128).toInt64))) (ad0 ad1 ad2 ad3 ad4 : Addr) (x0 : Int64) (x1 : Int32) (cA_ad2 : ClassId) (cA_ad4 : ClassId) (h0 : Heap) (O_ad0 : ObP Z h0 ad0 (.long x0) (.int x1) (.ref ad1) (.ref ad4)) (O_ad1 : ObA Z h0 ad1 (.int (1 : Int32)) (.ref ad2) (.int (1 : Int32))) (O_ad3 : ObX Z h0 ad3 ) (A_ad2 : Arx Z h0 ad2 cA_ad2 (.object "java/lang/Object") (10 : Int32) [(.ref ad3), .null, .null, .null, .null, .null, .null, .null, .null, .null] .null "[Ljava/lang/Object;") (A_ad4 : Arx Z h0 ad4 cA_ad4 .byte (2 : Int32) [(.int (0 : Int32)), (.int (0 : Int32))] (.int (0 : Int32)) "[B") (OV_ad2 : Ovr Z cA_ad2 "java/lang/Object") (ne_ad0_ad1 : ad0 ≠ ad1) (ne_ad0_ad2 : ad0 ≠ ad2) (ne_ad1_ad2 : ad1 ≠ ad2) (ne_ad0_ad4 : ad0 ≠ ad4) (ne_ad1_ad4 : ad1 ≠ ad4) (ne_ad2_ad4 : ad2 ≠ ad4) (g_ad0 : Z.heap.size ≤ ad0) (g_ad1 : Z.heap.size ≤ ad1) (g_ad2 : Z.heap.size ≤ ad2) (g_ad4 : Z.heap.size ≤ ad4) (OL : Old Z Z.heap.size h0) :
    Met l Z (⟨"com/example/thalweg/thalweg/cli/Mpeg1Reader$Picture", "rank", "()I"⟩ : MethodName) prog_8_method_2_code 1 (some .int) ({ frames := 0, cells := 0, slots := 0, locals := 0 } : Room) #[(.ref ad0)] h0 (fun v h' => (x1 = (66 : Int32) ∧ v = some (.int (2 : Int32)) ∧ h0 = h') ∨ (¬ (x1 = (66 : Int32)) ∧ x1 = (80 : Int32) ∧ v = some (.int (1 : Int32)) ∧ h0 = h') ∨ (¬ (x1 = (66 : Int32)) ∧ ¬ (x1 = (80 : Int32)) ∧ v = some (.int (0 : Int32)) ∧ h0 = h')) := by
  refine met_of (Ls := #[.val (.ref ad0)]) (plainFor_of_name pn_ra10) (fun m => by first | (simp [entryFrame, mkF, argsToLocals, Value.category]; done) | rfl) (fun p e s m below meth c cx => ?_)
  have KK := Keep.refl h0 []
  have A_dc := AD.ext OL.2
  refine g_aloadN cx d13_0 rfl rfl ?_
  refine g_getF cx d13_1 (host := "") (Or.inl (hw _ (List.mem_of_getElem? (i := 82) rfl))) Via.refl O_ad0.2.2.1 ?_
  by_cases hl4_0 : x1 = (66 : Int32)
  · refine g_lsw cx d13_4 (by decide) (off := 32) (pc' := 36) (by rw [hl4_0]; decide) (by decide) (by decide) ?_
    refine g_iconst cx d13_36 (v := (2 : Int32)) rfl ?_
    refine g_goto cx d13_37 ?_
    refine g_retI cx d13_41 rfl (by decide) (by decide) ?_
    exact Or.inl ⟨hl4_0, rfl, rfl⟩
  · by_cases hl4_1 : x1 = (80 : Int32)
    · refine g_lsw cx d13_4 (by decide) (off := 28) (pc' := 32) (by rw [hl4_1]; decide) (by decide) (by decide) ?_
      refine g_iconst cx d13_32 (v := (1 : Int32)) rfl ?_
      refine g_goto cx d13_33 ?_
      refine g_retI cx d13_41 rfl (by decide) (by decide) ?_
      exact Or.inr (Or.inl ⟨hl4_0, hl4_1, rfl, rfl⟩)
    · have hm1 : ∀ a ∈ (#[(66, 32), (80, 28)] : Array (Int × Int)).toList, a.1 ≠ (x1).toInt := by
        intro a ha
        change a ∈ [(66, 32), (80, 28)] at ha
        simp only [List.mem_cons, List.not_mem_nil, or_false] at ha
        rcases ha with rfl | rfl
        · exact fun z => hl4_0 (Int32.toInt_inj.mp z.symm)
        · exact fun z => hl4_1 (Int32.toInt_inj.mp z.symm)
      refine g_lsw cx d13_4 (by decide) (off := 36) (pc' := 40) (lsw_miss hm1) (by decide) (by decide) ?_
      refine g_iconst cx d13_40 (v := (0 : Int32)) rfl ?_
      refine g_retI cx d13_41 rfl (by decide) (by decide) ?_
      exact Or.inr (Or.inr (⟨hl4_0, hl4_1, rfl, rfl⟩))
theorem pd_9 : parseMethodDescriptor "()I" = some ⟨[], some .int⟩ := by decide +kernel
theorem d0_96 : Dc code 96 (.invokevirtual 25) 3 99 := ⟨by decide +kernel, rfl⟩
theorem d0_99 : Dc code 99 (.aload 5) 2 101 := ⟨by decide +kernel, rfl⟩
theorem d0_101 : Dc code 101 (.iload 6) 2 103 := ⟨by decide +kernel, rfl⟩
theorem d0_103 : Dc code 103 (.iaload) 1 104 := ⟨by decide +kernel, rfl⟩
theorem d0_104 : Bi code 104 (Instr.if_icmp .ne) 111 107 := ⟨7, by decide +kernel, by decide, by decide, rfl⟩
theorem d0_111 : Dc code 111 (.iconst 0) 1 112 := ⟨by decide +kernel, rfl⟩
theorem d0_112 : Dc code 112 (.istore 10) 2 114 := ⟨by decide +kernel, rfl⟩
theorem d0_114 : Dc code 114 (.iload_n 3) 1 115 := ⟨by decide +kernel, rfl⟩
theorem d0_115 : Dc code 115 (.ldc 29) 2 117 := ⟨by decide +kernel, rfl⟩
theorem d0_117 : Dc code 117 (.iand) 1 118 := ⟨by decide +kernel, rfl⟩
theorem d0_118 : Dc code 118 (.i2c) 1 119 := ⟨by decide +kernel, rfl⟩
theorem d0_119 : Dc code 119 (.istore 11) 2 121 := ⟨by decide +kernel, rfl⟩
theorem d0_121 : Dc code 121 (.new 20) 3 124 := ⟨by decide +kernel, rfl⟩
theorem d0_124 : Dc code 124 (.dup) 1 125 := ⟨by decide +kernel, rfl⟩
theorem d0_125 : Dc code 125 (.lload_n 1) 1 126 := ⟨by decide +kernel, rfl⟩
theorem d0_126 : Dc code 126 (.iload 11) 2 128 := ⟨by decide +kernel, rfl⟩
theorem d0_128 : Dc code 128 (.aload 7) 2 130 := ⟨by decide +kernel, rfl⟩
theorem d0_130 : Dc code 130 (.aload 8) 2 132 := ⟨by decide +kernel, rfl⟩
theorem pn_ra11 : plainName "com/example/thalweg/thalweg/cli/Mpeg1Reader$Picture" = true := by first | (simp [plainName, overriddenIn]; done) | decide +kernel
set_option maxRecDepth 65536 in
set_option maxHeartbeats 40000000 in
theorem ra11 (l : Launch) (Z : State) (a0 : Array Value) (hw : ∀ d ∈ tables_1, d.before a0 Z = true) (dc lc : Addr) (cdc : ClassId) (clc : Cell) (SDC : Sta Z Z.heap "java/util/ArrayList" "DEFAULTCAPACITY_EMPTY_ELEMENTDATA" "[Ljava/lang/Object;" (.ref dc)) (AD : Arx Z Z.heap dc cdc (.object "java/lang/Object") (0 : Int32) [] .null "[Ljava/lang/Object;") (SLC : Sta Z Z.heap "java/lang/Long$LongCache" "cache" "[Ljava/lang/Long;" (.ref lc)) (BX : Bxs Z lc clc "java/lang/Long" "J" (256 : Int32) (fun j => .long ((j - 128).toInt64))) (ad0 ad1 ad2 ad3 ad4 : Addr) (x0 : Int64) (x1 : Int32) (cA_ad2 : ClassId) (cA_ad4 : ClassId) (h0 : Heap) (O_ad0 : ObP Z h0 ad0 (.long (0 : Int64)) (.int (0 : Int32)) .null .null) (O_ad1 : ObA Z h0 ad1 (.int (1 : Int32)) (.ref ad2) (.int (1 : Int32))) (O_ad3 : ObX Z h0 ad3 ) (A_ad2 : Arx Z h0 ad2 cA_ad2 (.object "java/lang/Object") (10 : Int32) [(.ref ad3), .null, .null, .null, .null, .null, .null, .null, .null, .null] .null "[Ljava/lang/Object;") (A_ad4 : Arx Z h0 ad4 cA_ad4 .byte (2 : Int32) [(.int (0 : Int32)), (.int (0 : Int32))] (.int (0 : Int32)) "[B") (OV_ad2 : Ovr Z cA_ad2 "java/lang/Object") (ne_ad0_ad1 : ad0 ≠ ad1) (ne_ad0_ad2 : ad0 ≠ ad2) (ne_ad1_ad2 : ad1 ≠ ad2) (ne_ad0_ad4 : ad0 ≠ ad4) (ne_ad1_ad4 : ad1 ≠ ad4) (ne_ad2_ad4 : ad2 ≠ ad4) (g_ad0 : Z.heap.size ≤ ad0) (g_ad1 : Z.heap.size ≤ ad1) (g_ad2 : Z.heap.size ≤ ad2) (g_ad4 : Z.heap.size ≤ ad4) (OL : Old Z Z.heap.size h0) :
    Met l Z (⟨"com/example/thalweg/thalweg/cli/Mpeg1Reader$Picture", "<init>", "(JCLjava/util/List;[B)V"⟩ : MethodName) prog_8_method_1_code 6 none ({ frames := 2, cells := 0, slots := 0, locals := 24 } : Room) #[(.ref ad0), (.long x0), (.int x1), (.ref ad1), (.ref ad4)] h0 (fun v h' => (v = none ∧ Keep h0 h' [ad0] ∧ ObP Z h' ad0 (.long x0) (.int (nar .char x1)) (.ref ad1) (.ref ad4))) := by
  refine met_of (Ls := #[.val (.ref ad0), .val (.long x0), .second, .val (.int x1), .val (.ref ad1), .val (.ref ad4)]) (plainFor_of_name pn_ra11) (fun m => by first | (simp [entryFrame, mkF, argsToLocals, Value.category]; done) | rfl) (fun p e s m below meth c cx => ?_)
  have KK := Keep.refl h0 [ad0]
  have A_dc := AD.ext OL.2
  refine g_aloadN cx d11_0 rfl rfl ?_
  refine g_special cx (y := (⟨"java/lang/Record", "<init>", "()V"⟩ : MethodName)) (a := ad0) d11_1 rfl rfl (hw _ (List.mem_of_getElem? (i := 74) rfl)) (hw _ (List.mem_of_getElem? (i := 75) rfl)) (hw _ (List.mem_of_getElem? (i := 77) rfl)) (hw _ (List.mem_of_getElem? (i := 78) rfl)) (by decide) (bytes := jdk_30_method_1_code) (maxL' := 1) (M := (rmi0 l Z a0 hw ad0 _)) rfl (lenOf pd_0 rfl) (by decide) (W := 0) (Nat.le_of_eq rfl) (by decide) (k' := 0) (n' := 0) rfl rfl (by decide) (by decide) (argsL := []) (rest := []) rfl (fun v2 h1 q3 => ?_)
  obtain ⟨rfl, rfl⟩ := q3
  refine G.cast (st' := []) ?_ rfl
  refine g_aloadN cx d11_4 rfl rfl ?_
  refine g_lloadN cx d11_5 rfl ?_
  refine g_putF cx d11_6 (host := "") (Or.inl (hw _ (List.mem_of_getElem? (i := 80) rfl))) Via.refl O_ad0.2.1 O_ad0.1 (Or.inr ⟨(hw _ (List.mem_of_getElem? (i := 81) rfl)), rfl, rfl⟩) (hw _ (List.mem_of_getElem? (i := 69) rfl)) (ty := .long) (by decide) rfl rfl g_ad0 (fun h4 W5 => ?_)
  have O_ad0 := O_ad0.put1 hw W5
  have O_ad1 := O_ad1.oth W5 (Ne.symm ne_ad0_ad1)
  have O_ad3 := O_ad3.othX W5
  have A_ad2 := A_ad2.other W5 (Ne.symm ne_ad0_ad2)
  have A_ad4 := A_ad4.other W5 (Ne.symm ne_ad0_ad4)
  have OL := OL.wr W5 g_ad0
  have A_dc := AD.ext OL.2
  have KK := KK.wr W5 (Or.inl (List.mem_of_getElem? (i := 0) rfl))
  refine g_aloadN cx d11_9 rfl rfl ?_
  refine g_iloadN cx d11_10 rfl ?_
  refine g_putFN cx d11_11 (hw _ (List.mem_of_getElem? (i := 82) rfl)) Via.refl O_ad0.2.2.1 O_ad0.1 (Or.inr ⟨(hw _ (List.mem_of_getElem? (i := 83) rfl)), rfl, rfl⟩) (hw _ (List.mem_of_getElem? (i := 69) rfl)) (ty := .char) (v' := (.int (nar .char x1))) (by decide) rfl (fits_nar_char _) g_ad0 (fun h6 W7 => ?_)
  have O_ad0 := O_ad0.put2 hw W7
  have O_ad1 := O_ad1.oth W7 (Ne.symm ne_ad0_ad1)
  have O_ad3 := O_ad3.othX W7
  have A_ad2 := A_ad2.other W7 (Ne.symm ne_ad0_ad2)
  have A_ad4 := A_ad4.other W7 (Ne.symm ne_ad0_ad4)
  have OL := OL.wr W7 g_ad0
  have A_dc := AD.ext OL.2
  have KK := KK.wr W7 (Or.inl (List.mem_of_getElem? (i := 0) rfl))
  refine g_aloadN cx d11_14 rfl rfl ?_
  refine g_aload cx d11_15 rfl rfl ?_
  refine g_putF cx d11_17 (host := "") (Or.inl (hw _ (List.mem_of_getElem? (i := 84) rfl))) Via.refl O_ad0.2.2.2.1 O_ad0.1 (Or.inr ⟨(hw _ (List.mem_of_getElem? (i := 85) rfl)), rfl, rfl⟩) (hw _ (List.mem_of_getElem? (i := 69) rfl)) (ty := (.object "java/util/List")) (by decide) rfl rfl g_ad0 (fun h8 W9 => ?_)
  have O_ad0 := O_ad0.put3 hw W9
  have O_ad1 := O_ad1.oth W9 (Ne.symm ne_ad0_ad1)
  have O_ad3 := O_ad3.othX W9
  have A_ad2 := A_ad2.other W9 (Ne.symm ne_ad0_ad2)
  have A_ad4 := A_ad4.other W9 (Ne.symm ne_ad0_ad4)
  have OL := OL.wr W9 g_ad0
  have A_dc := AD.ext OL.2
  have KK := KK.wr W9 (Or.inl (List.mem_of_getElem? (i := 0) rfl))
  refine g_aloadN cx d11_20 rfl rfl ?_
  refine g_aload cx d11_21 rfl rfl ?_
  refine g_putF cx d11_23 (host := "") (Or.inl (hw _ (List.mem_of_getElem? (i := 86) rfl))) Via.refl O_ad0.2.2.2.2 O_ad0.1 (Or.inr ⟨(hw _ (List.mem_of_getElem? (i := 87) rfl)), rfl, rfl⟩) (hw _ (List.mem_of_getElem? (i := 69) rfl)) (ty := (.array .byte)) (by decide) rfl rfl g_ad0 (fun h10 W11 => ?_)
  have O_ad0 := O_ad0.put4 hw W11
  have O_ad1 := O_ad1.oth W11 (Ne.symm ne_ad0_ad1)
  have O_ad3 := O_ad3.othX W11
  have A_ad2 := A_ad2.other W11 (Ne.symm ne_ad0_ad2)
  have A_ad4 := A_ad4.other W11 (Ne.symm ne_ad0_ad4)
  have OL := OL.wr W11 g_ad0
  have A_dc := AD.ext OL.2
  have KK := KK.wr W11 (Or.inl (List.mem_of_getElem? (i := 0) rfl))
  refine g_retV cx d11_26 rfl (by decide) (by decide) ?_
  exact ⟨rfl, KK, O_ad0⟩
theorem d0_132 : Dc code 132 (.invokespecial 22) 3 135 := ⟨by decide +kernel, rfl⟩
theorem d0_135 : Dc code 135 (.astore 12) 2 137 := ⟨by decide +kernel, rfl⟩
theorem d0_137 : Dc code 137 (.aload 12) 2 139 := ⟨by decide +kernel, rfl⟩
theorem d0_139 : Dc code 139 (.invokevirtual 25) 3 142 := ⟨by decide +kernel, rfl⟩
theorem d0_142 : Dc code 142 (.istore 13) 2 144 := ⟨by decide +kernel, rfl⟩
theorem d0_144 : Dc code 144 (.iload 10) 2 146 := ⟨by decide +kernel, rfl⟩
theorem d0_146 : Bi code 146 (Instr.ifCond .eq) 216 149 := ⟨70, by decide +kernel, by decide, by decide, rfl⟩
theorem d0_216 : Dc code 216 (.iconst 0) 1 217 := ⟨by decide +kernel, rfl⟩
theorem d0_217 : Dc code 217 (.istore 10) 2 219 := ⟨by decide +kernel, rfl⟩
theorem d0_219 : Dc code 219 (.iload 10) 2 221 := ⟨by decide +kernel, rfl⟩
theorem d0_221 : Dc code 221 (.ireturn) 1 222 := ⟨by decide +kernel, rfl⟩
theorem d0_107 : Dc code 107 (.iconst 1) 1 108 := ⟨by decide +kernel, rfl⟩
theorem d0_108 : Bi code 108 (Instr.goto) 112 111 := ⟨4, by decide +kernel, by decide, by decide, rfl⟩
theorem d0_149 : Dc code 149 (.iload 13) 2 151 := ⟨by decide +kernel, rfl⟩
theorem d0_151 : Bi code 151 (Instr.ifCond .lt) 216 154 := ⟨65, by decide +kernel, by decide, by decide, rfl⟩
theorem d0_154 : Dc code 154 (.iload 13) 2 156 := ⟨by decide +kernel, rfl⟩
theorem d0_156 : Dc code 156 (.iconst 2) 1 157 := ⟨by decide +kernel, rfl⟩
theorem d0_157 : Bi code 157 (Instr.if_icmp .gt) 216 160 := ⟨59, by decide +kernel, by decide, by decide, rfl⟩
theorem d0_160 : Dc code 160 (.iload 13) 2 162 := ⟨by decide +kernel, rfl⟩
theorem d0_162 : Dc code 162 (.iconst 1) 1 163 := ⟨by decide +kernel, rfl⟩
theorem d0_163 : Bi code 163 (Instr.if_icmp .ne) 170 166 := ⟨7, by decide +kernel, by decide, by decide, rfl⟩
theorem d0_170 : Dc code 170 (.iconst 0) 1 171 := ⟨by decide +kernel, rfl⟩
theorem d0_171 : Dc code 171 (.iload 11) 2 173 := ⟨by decide +kernel, rfl⟩
theorem d0_173 : Dc code 173 (.bipush 80) 2 175 := ⟨by decide +kernel, rfl⟩
theorem d0_175 : Bi code 175 (Instr.if_icmp .ne) 182 178 := ⟨7, by decide +kernel, by decide, by decide, rfl⟩
theorem d0_182 : Dc code 182 (.iconst 0) 1 183 := ⟨by decide +kernel, rfl⟩
theorem d0_183 : Bi code 183 (Instr.if_icmp .ne) 216 186 := ⟨33, by decide +kernel, by decide, by decide, rfl⟩
theorem d0_186 : Dc code 186 (.iload 13) 2 188 := ⟨by decide +kernel, rfl⟩
theorem d0_188 : Dc code 188 (.iconst 2) 1 189 := ⟨by decide +kernel, rfl⟩
theorem d0_189 : Bi code 189 (Instr.if_icmp .ne) 196 192 := ⟨7, by decide +kernel, by decide, by decide, rfl⟩
theorem d0_192 : Dc code 192 (.iconst 1) 1 193 := ⟨by decide +kernel, rfl⟩
theorem d0_193 : Bi code 193 (Instr.goto) 197 196 := ⟨4, by decide +kernel, by decide, by decide, rfl⟩
theorem d0_197 : Dc code 197 (.iload 11) 2 199 := ⟨by decide +kernel, rfl⟩
theorem d0_199 : Dc code 199 (.bipush 66) 2 201 := ⟨by decide +kernel, rfl⟩
theorem d0_201 : Bi code 201 (Instr.if_icmp .ne) 208 204 := ⟨7, by decide +kernel, by decide, by decide, rfl⟩
theorem d0_208 : Dc code 208 (.iconst 0) 1 209 := ⟨by decide +kernel, rfl⟩
theorem d0_209 : Bi code 209 (Instr.if_icmp .ne) 216 212 := ⟨7, by decide +kernel, by decide, by decide, rfl⟩
theorem d0_204 : Dc code 204 (.iconst 1) 1 205 := ⟨by decide +kernel, rfl⟩
theorem d0_205 : Bi code 205 (Instr.goto) 209 208 := ⟨4, by decide +kernel, by decide, by decide, rfl⟩
theorem d0_212 : Dc code 212 (.iconst 1) 1 213 := ⟨by decide +kernel, rfl⟩
theorem d0_213 : Bi code 213 (Instr.goto) 217 216 := ⟨4, by decide +kernel, by decide, by decide, rfl⟩
theorem d0_178 : Dc code 178 (.iconst 1) 1 179 := ⟨by decide +kernel, rfl⟩
theorem d0_179 : Bi code 179 (Instr.goto) 183 182 := ⟨4, by decide +kernel, by decide, by decide, rfl⟩
theorem d0_166 : Dc code 166 (.iconst 1) 1 167 := ⟨by decide +kernel, rfl⟩
theorem d0_167 : Bi code 167 (Instr.goto) 171 170 := ⟨4, by decide +kernel, by decide, by decide, rfl⟩
theorem d0_196 : Dc code 196 (.iconst 0) 1 197 := ⟨by decide +kernel, rfl⟩
theorem pn_rm0 : plainName "com/example/thalweg/thalweg/cli/PictureRankPinLaw" = true := by first | (simp [plainName, overriddenIn]; done) | decide +kernel
set_option maxRecDepth 65536 in
set_option maxHeartbeats 40000000 in
theorem rm0 (l : Launch) (Z : State) (a0 : Array Value) (hw : ∀ d ∈ tables_1, d.before a0 Z = true) (sel : Int32) (ix : Int64) (ot : Int32) (h0 : Heap) (OL : Old Z Z.heap.size h0) (dc lc : Addr) (cdc : ClassId) (clc : Cell) (SDC : Sta Z Z.heap "java/util/ArrayList" "DEFAULTCAPACITY_EMPTY_ELEMENTDATA" "[Ljava/lang/Object;" (.ref dc)) (AD : Arx Z Z.heap dc cdc (.object "java/lang/Object") (0 : Int32) [] .null "[Ljava/lang/Object;") (SLC : Sta Z Z.heap "java/lang/Long$LongCache" "cache" "[Ljava/lang/Long;" (.ref lc)) (BX : Bxs Z lc clc "java/lang/Long" "J" (256 : Int32) (fun j => .long ((j - 128).toInt64))) :
    Met l Z x code maxLocals ret room_1 #[(.int sel), (.long ix), (.int ot)] h0 (fun v _ => v = some (.int 1)) := by
  refine met_of (Ls := #[.val (.int sel), .val (.long ix), .second, .val (.int ot), .unset, .unset, .unset, .unset, .unset, .unset, .unset, .unset, .unset, .unset]) (plainFor_of_name pn_rm0) (fun m => by first | (simp [entryFrame, mkF, argsToLocals, Value.category, maxLocals]; done) | rfl) (fun p e s m below meth c cx => ?_)
  have A_dc := AD.ext OL.2
  refine g_iconst cx d0_0 (v := (4 : Int32)) rfl ?_
  refine g_newarray cx (ad := "[C") (by decide) d0_1 (hw _ (List.mem_of_getElem? (i := 0) rfl)) (by decide) (cap := 4) (by decide) (by decide) (k' := 1) (n' := 4) rfl rfl (by decide) (by decide) (fun h1 b2 cA3 gb4 E5 X6 => ?_)
  have g_b2 : Z.heap.size ≤ b2 := by rw [gb4]; exact OL.2.1
  have OL := OL.ext E5
  have A_dc := AD.ext OL.2
  have A_b2 : Arx Z h1 b2 cA3 .char (4 : Int32) [(.int (0 : Int32)), (.int (0 : Int32)), (.int (0 : Int32)), (.int (0 : Int32))] (.int (0 : Int32)) "[C" := X6.pad (pad_rep [] (.int (0 : Int32)) 4)
  refine g_dup cx d0_3 rfl ?_
  refine g_iconst cx d0_4 (v := (0 : Int32)) rfl ?_
  refine g_bipush cx d0_5 (v := (73 : Int32)) rfl ?_
  refine g_castore cx d0_7 A_b2 ⟨by decide, by decide⟩ (Nat.le_of_ble_eq_true rfl) g_b2 (fun h7 W8 AA9 => ?_)
  have A_b2 : Arx Z h7 b2 cA3 .char (4 : Int32) [(.int (73 : Int32)), (.int (0 : Int32)), (.int (0 : Int32)), (.int (0 : Int32))] (.int (0 : Int32)) "[C" := AA9
  have OL := OL.wr W8 g_b2
  have A_dc := AD.ext OL.2
  refine g_dup cx d0_8 rfl ?_
  refine g_iconst cx d0_9 (v := (1 : Int32)) rfl ?_
  refine g_bipush cx d0_10 (v := (80 : Int32)) rfl ?_
  refine g_castore cx d0_12 A_b2 ⟨by decide, by decide⟩ (Nat.le_of_ble_eq_true rfl) g_b2 (fun h10 W11 AA12 => ?_)
  have A_b2 : Arx Z h10 b2 cA3 .char (4 : Int32) [(.int (73 : Int32)), (.int (80 : Int32)), (.int (0 : Int32)), (.int (0 : Int32))] (.int (0 : Int32)) "[C" := AA12
  have OL := OL.wr W11 g_b2
  have A_dc := AD.ext OL.2
  refine g_dup cx d0_13 rfl ?_
  refine g_iconst cx d0_14 (v := (2 : Int32)) rfl ?_
  refine g_bipush cx d0_15 (v := (66 : Int32)) rfl ?_
  refine g_castore cx d0_17 A_b2 ⟨by decide, by decide⟩ (Nat.le_of_ble_eq_true rfl) g_b2 (fun h13 W14 AA15 => ?_)
  have A_b2 : Arx Z h13 b2 cA3 .char (4 : Int32) [(.int (73 : Int32)), (.int (80 : Int32)), (.int (66 : Int32)), (.int (0 : Int32))] (.int (0 : Int32)) "[C" := AA15
  have OL := OL.wr W14 g_b2
  have A_dc := AD.ext OL.2
  refine g_dup cx d0_18 rfl ?_
  refine g_iconst cx d0_19 (v := (3 : Int32)) rfl ?_
  refine g_bipush cx d0_20 (v := (68 : Int32)) rfl ?_
  refine g_castore cx d0_22 A_b2 ⟨by decide, by decide⟩ (Nat.le_of_ble_eq_true rfl) g_b2 (fun h16 W17 AA18 => ?_)
  have A_b2 : Arx Z h16 b2 cA3 .char (4 : Int32) [(.int (73 : Int32)), (.int (80 : Int32)), (.int (66 : Int32)), (.int (68 : Int32))] (.int (0 : Int32)) "[C" := AA18
  have OL := OL.wr W17 g_b2
  have A_dc := AD.ext OL.2
  refine g_astore cx d0_23 rfl (Ls' := #[.val (.int sel), .val (.long ix), .second, .val (.int ot), .val (.ref b2), .unset, .unset, .unset, .unset, .unset, .unset, .unset, .unset, .unset]) rfl ?_
  refine g_iconst cx d0_25 (v := (4 : Int32)) rfl ?_
  refine g_newarray cx (ad := "[I") (by decide) d0_26 (hw _ (List.mem_of_getElem? (i := 1) rfl)) (by decide) (cap := 4) (by decide) (by decide) (k' := 2) (n' := 8) rfl rfl (by decide) (by decide) (fun h19 b20 cA21 gb22 E23 X24 => ?_)
  have ne_b2_b20 : b2 ≠ b20 := Nat.ne_of_lt (by rw [gb22]; exact A_b2.lt)
  have g_b20 : Z.heap.size ≤ b20 := by rw [gb22]; exact OL.2.1
  have A_b2 := A_b2.ext E23
  have OL := OL.ext E23
  have A_dc := AD.ext OL.2
  have A_b20 : Arx Z h19 b20 cA21 .int (4 : Int32) [(.int (0 : Int32)), (.int (0 : Int32)), (.int (0 : Int32)), (.int (0 : Int32))] (.int (0 : Int32)) "[I" := X24.pad (pad_rep [] (.int (0 : Int32)) 4)
  refine g_dup cx d0_28 rfl ?_
  refine g_iconst cx d0_29 (v := (0 : Int32)) rfl ?_
  refine g_iconst cx d0_30 (v := (0 : Int32)) rfl ?_
  refine g_iastore cx d0_31 A_b20 ⟨by decide, by decide⟩ (Nat.le_of_ble_eq_true rfl) g_b20 (fun h25 W26 AA27 => ?_)
  have A_b2 := A_b2.other W26 ne_b2_b20
  have A_b20 : Arx Z h25 b20 cA21 .int (4 : Int32) [(.int (0 : Int32)), (.int (0 : Int32)), (.int (0 : Int32)), (.int (0 : Int32))] (.int (0 : Int32)) "[I" := AA27
  have OL := OL.wr W26 g_b20
  have A_dc := AD.ext OL.2
  refine g_dup cx d0_32 rfl ?_
  refine g_iconst cx d0_33 (v := (1 : Int32)) rfl ?_
  refine g_iconst cx d0_34 (v := (1 : Int32)) rfl ?_
  refine g_iastore cx d0_35 A_b20 ⟨by decide, by decide⟩ (Nat.le_of_ble_eq_true rfl) g_b20 (fun h28 W29 AA30 => ?_)
  have A_b2 := A_b2.other W29 ne_b2_b20
  have A_b20 : Arx Z h28 b20 cA21 .int (4 : Int32) [(.int (0 : Int32)), (.int (1 : Int32)), (.int (0 : Int32)), (.int (0 : Int32))] (.int (0 : Int32)) "[I" := AA30
  have OL := OL.wr W29 g_b20
  have A_dc := AD.ext OL.2
  refine g_dup cx d0_36 rfl ?_
  refine g_iconst cx d0_37 (v := (2 : Int32)) rfl ?_
  refine g_iconst cx d0_38 (v := (2 : Int32)) rfl ?_
  refine g_iastore cx d0_39 A_b20 ⟨by decide, by decide⟩ (Nat.le_of_ble_eq_true rfl) g_b20 (fun h31 W32 AA33 => ?_)
  have A_b2 := A_b2.other W32 ne_b2_b20
  have A_b20 : Arx Z h31 b20 cA21 .int (4 : Int32) [(.int (0 : Int32)), (.int (1 : Int32)), (.int (2 : Int32)), (.int (0 : Int32))] (.int (0 : Int32)) "[I" := AA33
  have OL := OL.wr W32 g_b20
  have A_dc := AD.ext OL.2
  refine g_dup cx d0_40 rfl ?_
  refine g_iconst cx d0_41 (v := (3 : Int32)) rfl ?_
  refine g_iconst cx d0_42 (v := (0 : Int32)) rfl ?_
  refine g_iastore cx d0_43 A_b20 ⟨by decide, by decide⟩ (Nat.le_of_ble_eq_true rfl) g_b20 (fun h34 W35 AA36 => ?_)
  have A_b2 := A_b2.other W35 ne_b2_b20
  have A_b20 : Arx Z h34 b20 cA21 .int (4 : Int32) [(.int (0 : Int32)), (.int (1 : Int32)), (.int (2 : Int32)), (.int (0 : Int32))] (.int (0 : Int32)) "[I" := AA36
  have OL := OL.wr W35 g_b20
  have A_dc := AD.ext OL.2
  refine g_astore cx d0_44 rfl (Ls' := #[.val (.int sel), .val (.long ix), .second, .val (.int ot), .val (.ref b2), .val (.ref b20), .unset, .unset, .unset, .unset, .unset, .unset, .unset, .unset]) rfl ?_
  refine g_iloadN cx d0_46 rfl ?_
  refine g_iconst cx d0_47 (v := (3 : Int32)) rfl ?_
  refine g_iand cx d0_48 ?_
  have Dhs37 : (sel &&& (3 : Int32)) = (0 : Int32) ∨ (sel &&& (3 : Int32)) = (1 : Int32) ∨ (sel &&& (3 : Int32)) = (2 : Int32) ∨ (sel &&& (3 : Int32)) = (3 : Int32) := by
    have r2 := rng32 sel
    have e1 : ((sel &&& (3 : Int32))).toInt = (sel).toInt % 4 := c_mask sel (3 : Int32) 2 (by decide) (by decide)
    have e3 : (0 : Int32).toInt = 0 := rfl
    have e4 : (1 : Int32).toInt = 1 := rfl
    have e5 : (2 : Int32).toInt = 2 := rfl
    have e6 : (3 : Int32).toInt = 3 := rfl
    simp only [← Int32.toInt_inj]
    omega
  rcases Dhs37 with hs37 | hs37 | hs37 | hs37
  · rw [hs37]
    refine g_istore cx d0_49 (Ls' := #[.val (.int sel), .val (.long ix), .second, .val (.int ot), .val (.ref b2), .val (.ref b20), .val (.int (0 : Int32)), .unset, .unset, .unset, .unset, .unset, .unset, .unset]) rfl ?_
    refine g_new cx d0_51 (hw _ (List.mem_of_getElem? (i := 2) rfl)) (hw _ (List.mem_of_getElem? (i := 3) rfl)) (hw _ (List.mem_of_getElem? (i := 4) rfl)) (k' := 3) (n' := 11) rfl rfl (by decide) (by decide) (fun h38 b39 gb40 E41 X42 D43 => ?_)
    have ne_b2_b39 : b2 ≠ b39 := Nat.ne_of_lt (by rw [gb40]; exact A_b2.lt)
    have ne_b20_b39 : b20 ≠ b39 := Nat.ne_of_lt (by rw [gb40]; exact A_b20.lt)
    have g_b39 : Z.heap.size ≤ b39 := by rw [gb40]; exact OL.2.1
    have A_b2 := A_b2.ext E41
    have A_b20 := A_b20.ext E41
    have OL := OL.ext E41
    have A_dc := AD.ext OL.2
    have O_b39 := ObA.new hw X42 D43
    refine g_dup cx d0_54 rfl ?_
    refine g_special cx (y := (⟨"java/util/ArrayList", "<init>", "()V"⟩ : MethodName)) (a := b39) d0_55 rfl rfl (hw _ (List.mem_of_getElem? (i := 5) rfl)) (hw _ (List.mem_of_getElem? (i := 6) rfl)) (hw _ (List.mem_of_getElem? (i := 4) rfl)) (hw _ (List.mem_of_getElem? (i := 7) rfl)) (by decide) (bytes := jdk_38_method_2_code) (maxL' := 1) (M := (ra2 l Z a0 hw dc lc cdc clc SDC AD SLC BX b39 _ O_b39 g_b39 OL)) rfl (lenOf pd_0 rfl) (by decide) (W := 1) (Nat.le_of_eq rfl) (by decide) (k' := 3) (n' := 11) rfl rfl (by decide) (by decide) (argsL := []) (rest := [(.ref b39)]) rfl (fun v46 h45 q47 => ?_)
    obtain ⟨rfl, K44, O_b39⟩ := q47
    have A_b2 := A_b2.keep K44 (ninS ne_b2_b39 nin0)
    have A_b20 := A_b20.keep K44 (ninS ne_b20_b39 nin0)
    have OL := OL.keep K44 (allS g_b39 all0)
    have A_dc := AD.ext OL.2
    refine G.cast (st' := [(.ref b39)]) ?_ rfl
    refine g_astore cx d0_58 rfl (Ls' := #[.val (.int sel), .val (.long ix), .second, .val (.int ot), .val (.ref b2), .val (.ref b20), .val (.int (0 : Int32)), .val (.ref b39), .unset, .unset, .unset, .unset, .unset, .unset]) rfl ?_
    refine g_aload cx d0_60 rfl rfl ?_
    refine g_lloadN cx d0_62 rfl ?_
    refine g_static cx (y := (⟨"java/lang/Long", "valueOf", "(J)Ljava/lang/Long;"⟩ : MethodName)) d0_63 (hw _ (List.mem_of_getElem? (i := 28) rfl)) (hw _ (List.mem_of_getElem? (i := 29) rfl)) (hw _ (List.mem_of_getElem? (i := 30) rfl)) (hw _ (List.mem_of_getElem? (i := 31) rfl)) (by decide) (bytes := jdk_35_method_24_code) (maxL' := 3) (M := (rmV l Z a0 hw _ _ OL dc lc cdc clc SDC AD SLC BX)) rfl (lenOf pd_2 rfl) (by decide) (W := 1) (Nat.le_of_eq rfl) (by decide) (k' := 4) (n' := 12) rfl rfl (by decide) (by decide) (argsL := [(.long ix)]) (rest := [(.ref b39)]) rfl (fun v51 h50 q52 => ?_)
    obtain ⟨b48, rfl, K49, O_b48⟩ := q52
    have O_b39 := O_b39.keep K49 nin0
    have A_b2 := A_b2.keep K49 nin0
    have A_b20 := A_b20.keep K49 nin0
    have OL := OL.keep K49 all0
    have A_dc := AD.ext OL.2
    refine G.cast (st' := [(.ref b48), (.ref b39)]) ?_ rfl
    have lt_b39 := O_b39.lt
    refine g_virtual cx (y := (⟨"java/util/ArrayList", "add", "(Ljava/lang/Object;)Z"⟩ : MethodName)) (z := (⟨"java/util/ArrayList", "add", "(Ljava/lang/Object;)Z"⟩ : MethodName)) (a := b39) d0_66 (hw _ (List.mem_of_getElem? (i := 36) rfl)) (hw _ (List.mem_of_getElem? (i := 37) rfl)) (hw _ (List.mem_of_getElem? (i := 4) rfl)) (hw _ (List.mem_of_getElem? (i := 40) rfl)) (hw _ (List.mem_of_getElem? (i := 39) rfl)) (hw _ (List.mem_of_getElem? (i := 38) rfl)) rfl (by decide) O_b39.1 (bytes := jdk_38_method_25_code) (maxL' := 2) (M := (ra4 l Z a0 hw dc lc cdc clc SDC AD SLC BX b39 b48 _ O_b39 O_b48 g_b39 OL)) rfl (lenOf pd_7 rfl) (by decide) (W := 0) (Nat.le_of_eq rfl) (by decide) (k' := 5) (n' := 22) rfl rfl (by decide) (by decide) (argsL := [(.ref b48)]) (rest := []) rfl (fun v57 h56 q58 => ?_)
    obtain ⟨b53, cA54, rfl, K55, sq_b53, A_b53, OV_b53, O_b39⟩ := q58
    have ne_b39_b53 : b39 ≠ b53 := Nat.ne_of_lt (Nat.lt_of_lt_of_le lt_b39 sq_b53)
    have ne_b48_b53 : b48 ≠ b53 := Nat.ne_of_lt (Nat.lt_of_lt_of_le O_b48.lt sq_b53)
    have ne_b2_b53 : b2 ≠ b53 := Nat.ne_of_lt (Nat.lt_of_lt_of_le A_b2.lt sq_b53)
    have ne_b20_b53 : b20 ≠ b53 := Nat.ne_of_lt (Nat.lt_of_lt_of_le A_b20.lt sq_b53)
    have g_b53 : Z.heap.size ≤ b53 := Nat.le_trans OL.2.1 sq_b53
    have O_b48 := O_b48.keepX K55
    have A_b2 := A_b2.keep K55 (ninS ne_b2_b39 nin0)
    have A_b20 := A_b20.keep K55 (ninS ne_b20_b39 nin0)
    have OL := OL.keep K55 (allS g_b39 all0)
    have A_dc := AD.ext OL.2
    refine G.cast (st' := [(.int (1 : Int32))]) ?_ rfl
    refine g_pop cx d0_69 rfl ?_
    refine g_iconst cx d0_70 (v := (2 : Int32)) rfl ?_
    refine g_newarray cx (ad := "[B") (by decide) d0_71 (hw _ (List.mem_of_getElem? (i := 67) rfl)) (by decide) (cap := 2) (by decide) (by decide) (k' := 6) (n' := 24) rfl rfl (by decide) (by decide) (fun h59 b60 cA61 gb62 E63 X64 => ?_)
    have ne_b39_b60 : b39 ≠ b60 := Nat.ne_of_lt (by rw [gb62]; exact O_b39.lt)
    have ne_b48_b60 : b48 ≠ b60 := Nat.ne_of_lt (by rw [gb62]; exact O_b48.lt)
    have ne_b2_b60 : b2 ≠ b60 := Nat.ne_of_lt (by rw [gb62]; exact A_b2.lt)
    have ne_b20_b60 : b20 ≠ b60 := Nat.ne_of_lt (by rw [gb62]; exact A_b20.lt)
    have ne_b53_b60 : b53 ≠ b60 := Nat.ne_of_lt (by rw [gb62]; exact A_b53.lt)
    have g_b60 : Z.heap.size ≤ b60 := by rw [gb62]; exact OL.2.1
    have O_b39 := O_b39.ext E63
    have O_b48 := O_b48.ext E63
    have A_b2 := A_b2.ext E63
    have A_b20 := A_b20.ext E63
    have A_b53 := A_b53.ext E63
    have OL := OL.ext E63
    have A_dc := AD.ext OL.2
    have A_b60 : Arx Z h59 b60 cA61 .byte (2 : Int32) [(.int (0 : Int32)), (.int (0 : Int32))] (.int (0 : Int32)) "[B" := X64.pad (pad_rep [] (.int (0 : Int32)) 2)
    refine g_astore cx d0_73 rfl (Ls' := #[.val (.int sel), .val (.long ix), .second, .val (.int ot), .val (.ref b2), .val (.ref b20), .val (.int (0 : Int32)), .val (.ref b39), .val (.ref b60), .unset, .unset, .unset, .unset, .unset]) rfl ?_
    refine g_new cx d0_75 (hw _ (List.mem_of_getElem? (i := 68) rfl)) (hw _ (List.mem_of_getElem? (i := 69) rfl)) (hw _ (List.mem_of_getElem? (i := 70) rfl)) (k' := 7) (n' := 28) rfl rfl (by decide) (by decide) (fun h65 b66 gb67 E68 X69 D70 => ?_)
    have ne_b39_b66 : b39 ≠ b66 := Nat.ne_of_lt (by rw [gb67]; exact O_b39.lt)
    have ne_b48_b66 : b48 ≠ b66 := Nat.ne_of_lt (by rw [gb67]; exact O_b48.lt)
    have ne_b2_b66 : b2 ≠ b66 := Nat.ne_of_lt (by rw [gb67]; exact A_b2.lt)
    have ne_b20_b66 : b20 ≠ b66 := Nat.ne_of_lt (by rw [gb67]; exact A_b20.lt)
    have ne_b53_b66 : b53 ≠ b66 := Nat.ne_of_lt (by rw [gb67]; exact A_b53.lt)
    have ne_b60_b66 : b60 ≠ b66 := Nat.ne_of_lt (by rw [gb67]; exact A_b60.lt)
    have g_b66 : Z.heap.size ≤ b66 := by rw [gb67]; exact OL.2.1
    have O_b39 := O_b39.ext E68
    have O_b48 := O_b48.ext E68
    have A_b2 := A_b2.ext E68
    have A_b20 := A_b20.ext E68
    have A_b53 := A_b53.ext E68
    have A_b60 := A_b60.ext E68
    have OL := OL.ext E68
    have A_dc := AD.ext OL.2
    have O_b66 := ObP.new hw X69 D70
    refine g_dup cx d0_78 rfl ?_
    refine g_lloadN cx d0_79 rfl ?_
    refine g_aload cx d0_80 rfl rfl ?_
    refine g_iload cx d0_82 rfl ?_
    refine g_caload cx d0_84 A_b2.1 ⟨by decide, by decide⟩ (v := (.int (73 : Int32))) rfl ?_
    refine g_aload cx d0_85 rfl rfl ?_
    refine g_aload cx d0_87 rfl rfl ?_
    refine g_special cx (y := (⟨"com/example/thalweg/thalweg/cli/Mpeg1Reader$Picture", "<init>", "(JCLjava/util/List;[B)V"⟩ : MethodName)) (a := b66) d0_89 rfl rfl (hw _ (List.mem_of_getElem? (i := 71) rfl)) (hw _ (List.mem_of_getElem? (i := 72) rfl)) (hw _ (List.mem_of_getElem? (i := 70) rfl)) (hw _ (List.mem_of_getElem? (i := 73) rfl)) (by decide) (bytes := prog_8_method_1_code) (maxL' := 6) (M := (ra9 l Z a0 hw dc lc cdc clc SDC AD SLC BX b66 b39 b53 b48 b60 ix (73 : Int32) cA54 cA61 _ O_b66 O_b39 O_b48 A_b53 A_b60 OV_b53 (Ne.symm ne_b39_b66) (Ne.symm ne_b53_b66) ne_b39_b53 (Ne.symm ne_b60_b66) ne_b39_b60 ne_b53_b60 g_b66 g_b39 g_b53 g_b60 OL)) rfl (lenOf pd_8 rfl) (by decide) (W := 1) (Nat.le_of_eq rfl) (by decide) (k' := 7) (n' := 28) rfl rfl (by decide) (by decide) (argsL := [(.long ix), (.int (73 : Int32)), (.ref b39), (.ref b60)]) (rest := [(.ref b66)]) rfl (fun v73 h72 q74 => ?_)
    obtain ⟨rfl, K71, O_b66⟩ := q74
    have O_b39 := O_b39.keep K71 (ninS ne_b39_b66 nin0)
    have O_b48 := O_b48.keepX K71
    have A_b2 := A_b2.keep K71 (ninS ne_b2_b66 nin0)
    have A_b20 := A_b20.keep K71 (ninS ne_b20_b66 nin0)
    have A_b53 := A_b53.keep K71 (ninS ne_b53_b66 nin0)
    have A_b60 := A_b60.keep K71 (ninS ne_b60_b66 nin0)
    have OL := OL.keep K71 (allS g_b66 all0)
    have A_dc := AD.ext OL.2
    refine G.cast (st' := [(.ref b66)]) ?_ rfl
    refine g_astore cx d0_92 rfl (Ls' := #[.val (.int sel), .val (.long ix), .second, .val (.int ot), .val (.ref b2), .val (.ref b20), .val (.int (0 : Int32)), .val (.ref b39), .val (.ref b60), .val (.ref b66), .unset, .unset, .unset, .unset]) rfl ?_
    refine g_aload cx d0_94 rfl rfl ?_
    refine g_virtual cx (y := (⟨"com/example/thalweg/thalweg/cli/Mpeg1Reader$Picture", "rank", "()I"⟩ : MethodName)) (z := (⟨"com/example/thalweg/thalweg/cli/Mpeg1Reader$Picture", "rank", "()I"⟩ : MethodName)) (a := b66) d0_96 (hw _ (List.mem_of_getElem? (i := 88) rfl)) (hw _ (List.mem_of_getElem? (i := 89) rfl)) (hw _ (List.mem_of_getElem? (i := 70) rfl)) (hw _ (List.mem_of_getElem? (i := 92) rfl)) (hw _ (List.mem_of_getElem? (i := 91) rfl)) (hw _ (List.mem_of_getElem? (i := 90) rfl)) rfl (by decide) O_b66.1 (bytes := prog_8_method_2_code) (maxL' := 1) (M := (ra10 l Z a0 hw dc lc cdc clc SDC AD SLC BX b66 b39 b53 b48 b60 ix (nar .char (73 : Int32)) cA54 cA61 _ O_b66 O_b39 O_b48 A_b53 A_b60 OV_b53 (Ne.symm ne_b39_b66) (Ne.symm ne_b53_b66) ne_b39_b53 (Ne.symm ne_b60_b66) ne_b39_b60 ne_b53_b60 g_b66 g_b39 g_b53 g_b60 OL)) rfl (lenOf pd_9 rfl) (by decide) (W := 0) (Nat.le_of_eq rfl) (by decide) (k' := 7) (n' := 28) rfl rfl (by decide) (by decide) (argsL := []) (rest := []) rfl (fun v84 h83 q85 => ?_)
    rcases q85 with ⟨hq75, rfl, rfl⟩ | ⟨hq77, hq78, rfl, rfl⟩ | ⟨hq80, hq81, rfl, rfl⟩
    · refine G.cast (st' := [(.int (2 : Int32))]) ?_ rfl
      refine g_aload cx d0_99 rfl rfl ?_
      refine g_iload cx d0_101 rfl ?_
      refine g_iaload cx d0_103 A_b20.1 ⟨by decide, by decide⟩ (v := (.int (0 : Int32))) rfl ?_
      refine g_icmp_ne cx d0_104 (fun hc104 => ?_) (fun q => absurd q (fun q => by revert q; decide))
      refine g_iconst cx d0_111 (v := (0 : Int32)) rfl ?_
      refine g_istore cx d0_112 (Ls' := #[.val (.int sel), .val (.long ix), .second, .val (.int ot), .val (.ref b2), .val (.ref b20), .val (.int (0 : Int32)), .val (.ref b39), .val (.ref b60), .val (.ref b66), .val (.int (0 : Int32)), .unset, .unset, .unset]) rfl ?_
      refine g_iloadN cx d0_114 rfl ?_
      refine g_ldcI cx d0_115 (hw _ (List.mem_of_getElem? (i := 93) rfl)) ?_
      refine g_iand cx d0_117 ?_
      refine g_i2c cx d0_118 ?_
      refine g_istore cx d0_119 (Ls' := #[.val (.int sel), .val (.long ix), .second, .val (.int ot), .val (.ref b2), .val (.ref b20), .val (.int (0 : Int32)), .val (.ref b39), .val (.ref b60), .val (.ref b66), .val (.int (0 : Int32)), .val (.int (((ot &&& (65535 : Int32))).toUInt32.toUInt16.toUInt32.toInt32)), .unset, .unset]) rfl ?_
      refine g_new cx d0_121 (hw _ (List.mem_of_getElem? (i := 68) rfl)) (hw _ (List.mem_of_getElem? (i := 69) rfl)) (hw _ (List.mem_of_getElem? (i := 70) rfl)) (k' := 8) (n' := 32) rfl rfl (by decide) (by decide) (fun h86 b87 gb88 E89 X90 D91 => ?_)
      have ne_b39_b87 : b39 ≠ b87 := Nat.ne_of_lt (by rw [gb88]; exact O_b39.lt)
      have ne_b48_b87 : b48 ≠ b87 := Nat.ne_of_lt (by rw [gb88]; exact O_b48.lt)
      have ne_b66_b87 : b66 ≠ b87 := Nat.ne_of_lt (by rw [gb88]; exact O_b66.lt)
      have ne_b2_b87 : b2 ≠ b87 := Nat.ne_of_lt (by rw [gb88]; exact A_b2.lt)
      have ne_b20_b87 : b20 ≠ b87 := Nat.ne_of_lt (by rw [gb88]; exact A_b20.lt)
      have ne_b53_b87 : b53 ≠ b87 := Nat.ne_of_lt (by rw [gb88]; exact A_b53.lt)
      have ne_b60_b87 : b60 ≠ b87 := Nat.ne_of_lt (by rw [gb88]; exact A_b60.lt)
      have g_b87 : Z.heap.size ≤ b87 := by rw [gb88]; exact OL.2.1
      have O_b39 := O_b39.ext E89
      have O_b48 := O_b48.ext E89
      have O_b66 := O_b66.ext E89
      have A_b2 := A_b2.ext E89
      have A_b20 := A_b20.ext E89
      have A_b53 := A_b53.ext E89
      have A_b60 := A_b60.ext E89
      have OL := OL.ext E89
      have A_dc := AD.ext OL.2
      have O_b87 := ObP.new hw X90 D91
      refine g_dup cx d0_124 rfl ?_
      refine g_lloadN cx d0_125 rfl ?_
      refine g_iload cx d0_126 rfl ?_
      refine g_aload cx d0_128 rfl rfl ?_
      refine g_aload cx d0_130 rfl rfl ?_
      refine g_special cx (y := (⟨"com/example/thalweg/thalweg/cli/Mpeg1Reader$Picture", "<init>", "(JCLjava/util/List;[B)V"⟩ : MethodName)) (a := b87) d0_132 rfl rfl (hw _ (List.mem_of_getElem? (i := 71) rfl)) (hw _ (List.mem_of_getElem? (i := 72) rfl)) (hw _ (List.mem_of_getElem? (i := 70) rfl)) (hw _ (List.mem_of_getElem? (i := 73) rfl)) (by decide) (bytes := prog_8_method_1_code) (maxL' := 6) (M := (ra11 l Z a0 hw dc lc cdc clc SDC AD SLC BX b87 b39 b53 b48 b60 ix (((ot &&& (65535 : Int32))).toUInt32.toUInt16.toUInt32.toInt32) cA54 cA61 _ O_b87 O_b39 O_b48 A_b53 A_b60 OV_b53 (Ne.symm ne_b39_b87) (Ne.symm ne_b53_b87) ne_b39_b53 (Ne.symm ne_b60_b87) ne_b39_b60 ne_b53_b60 g_b87 g_b39 g_b53 g_b60 OL)) rfl (lenOf pd_8 rfl) (by decide) (W := 1) (Nat.le_of_eq rfl) (by decide) (k' := 8) (n' := 32) rfl rfl (by decide) (by decide) (argsL := [(.long ix), (.int (((ot &&& (65535 : Int32))).toUInt32.toUInt16.toUInt32.toInt32)), (.ref b39), (.ref b60)]) (rest := [(.ref b87)]) rfl (fun v94 h93 q95 => ?_)
      obtain ⟨rfl, K92, O_b87⟩ := q95
      have O_b39 := O_b39.keep K92 (ninS ne_b39_b87 nin0)
      have O_b48 := O_b48.keepX K92
      have O_b66 := O_b66.keep K92 (ninS ne_b66_b87 nin0)
      have A_b2 := A_b2.keep K92 (ninS ne_b2_b87 nin0)
      have A_b20 := A_b20.keep K92 (ninS ne_b20_b87 nin0)
      have A_b53 := A_b53.keep K92 (ninS ne_b53_b87 nin0)
      have A_b60 := A_b60.keep K92 (ninS ne_b60_b87 nin0)
      have OL := OL.keep K92 (allS g_b87 all0)
      have A_dc := AD.ext OL.2
      refine G.cast (st' := [(.ref b87)]) ?_ rfl
      refine g_astore cx d0_135 rfl (Ls' := #[.val (.int sel), .val (.long ix), .second, .val (.int ot), .val (.ref b2), .val (.ref b20), .val (.int (0 : Int32)), .val (.ref b39), .val (.ref b60), .val (.ref b66), .val (.int (0 : Int32)), .val (.int (((ot &&& (65535 : Int32))).toUInt32.toUInt16.toUInt32.toInt32)), .val (.ref b87), .unset]) rfl ?_
      refine g_aload cx d0_137 rfl rfl ?_
      refine g_virtual cx (y := (⟨"com/example/thalweg/thalweg/cli/Mpeg1Reader$Picture", "rank", "()I"⟩ : MethodName)) (z := (⟨"com/example/thalweg/thalweg/cli/Mpeg1Reader$Picture", "rank", "()I"⟩ : MethodName)) (a := b87) d0_139 (hw _ (List.mem_of_getElem? (i := 88) rfl)) (hw _ (List.mem_of_getElem? (i := 89) rfl)) (hw _ (List.mem_of_getElem? (i := 70) rfl)) (hw _ (List.mem_of_getElem? (i := 92) rfl)) (hw _ (List.mem_of_getElem? (i := 91) rfl)) (hw _ (List.mem_of_getElem? (i := 90) rfl)) rfl (by decide) O_b87.1 (bytes := prog_8_method_2_code) (maxL' := 1) (M := (ra10 l Z a0 hw dc lc cdc clc SDC AD SLC BX b87 b39 b53 b48 b60 ix (nar .char (((ot &&& (65535 : Int32))).toUInt32.toUInt16.toUInt32.toInt32)) cA54 cA61 _ O_b87 O_b39 O_b48 A_b53 A_b60 OV_b53 (Ne.symm ne_b39_b87) (Ne.symm ne_b53_b87) ne_b39_b53 (Ne.symm ne_b60_b87) ne_b39_b60 ne_b53_b60 g_b87 g_b39 g_b53 g_b60 OL)) rfl (lenOf pd_9 rfl) (by decide) (W := 0) (Nat.le_of_eq rfl) (by decide) (k' := 8) (n' := 32) rfl rfl (by decide) (by decide) (argsL := []) (rest := []) rfl (fun v105 h104 q106 => ?_)
      rcases q106 with ⟨hq96, rfl, rfl⟩ | ⟨hq98, hq99, rfl, rfl⟩ | ⟨hq101, hq102, rfl, rfl⟩
      · refine G.cast (st' := [(.int (2 : Int32))]) ?_ rfl
        refine g_istore cx d0_142 (Ls' := #[.val (.int sel), .val (.long ix), .second, .val (.int ot), .val (.ref b2), .val (.ref b20), .val (.int (0 : Int32)), .val (.ref b39), .val (.ref b60), .val (.ref b66), .val (.int (0 : Int32)), .val (.int (((ot &&& (65535 : Int32))).toUInt32.toUInt16.toUInt32.toInt32)), .val (.ref b87), .val (.int (2 : Int32))]) rfl ?_
        refine g_iload cx d0_144 rfl ?_
        refine g_if_eq cx d0_146 (fun hc146 => ?_) (fun q => absurd q (fun q => by revert q; decide))
        refine g_iconst cx d0_216 (v := (0 : Int32)) rfl ?_
        refine g_istore cx d0_217 (Ls' := #[.val (.int sel), .val (.long ix), .second, .val (.int ot), .val (.ref b2), .val (.ref b20), .val (.int (0 : Int32)), .val (.ref b39), .val (.ref b60), .val (.ref b66), .val (.int (0 : Int32)), .val (.int (((ot &&& (65535 : Int32))).toUInt32.toUInt16.toUInt32.toInt32)), .val (.ref b87), .val (.int (2 : Int32))]) rfl ?_
        refine g_iload cx d0_219 rfl ?_
        refine g_retZ cx d0_221 rfl rfl (by decide) (by decide) ?_
        exfalso
        have i_hs37 : ((sel &&& (3 : Int32))).toInt = ((0 : Int32)).toInt := congrArg Int32.toInt hs37
        have i_hq75 : ((nar .char (73 : Int32))).toInt = ((66 : Int32)).toInt := congrArg Int32.toInt hq75
        have i_hc104 : ¬ ((2 : Int32)).toInt = ((0 : Int32)).toInt := fun z => hc104 (Int32.toInt_inj.mp z)
        have i_hq96 : ((nar .char (((ot &&& (65535 : Int32))).toUInt32.toUInt16.toUInt32.toInt32))).toInt = ((66 : Int32)).toInt := congrArg Int32.toInt hq96
        have i_hc146 : ((0 : Int32)).toInt = ((0 : Int32)).toInt := congrArg Int32.toInt hc146
        have r2 := rng32 sel
        have e1 : ((sel &&& (3 : Int32))).toInt = (sel).toInt % 4 := c_mask sel (3 : Int32) 2 (by decide) (by decide)
        have e3 : (0 : Int32).toInt = 0 := rfl
        have e5 : (73 : Int32).toInt = 73 := rfl
        have e4 : (((nar .char (73 : Int32))).toInt - ((73 : Int32)).toInt) % 65536 = 0 ∧ 0 ≤ ((nar .char (73 : Int32))).toInt ∧ ((nar .char (73 : Int32))).toInt < 65536 := c_i2c (73 : Int32)
        have e6 : (66 : Int32).toInt = 66 := rfl
        have e7 : (2 : Int32).toInt = 2 := rfl
        have r11 := rng32 ot
        have e10 : ((ot &&& (65535 : Int32))).toInt = (ot).toInt % 65536 := c_mask ot (65535 : Int32) 16 (by decide) (by decide)
        have e9 := c_i2c (ot &&& (65535 : Int32))
        have e8 : (((nar .char (((ot &&& (65535 : Int32))).toUInt32.toUInt16.toUInt32.toInt32))).toInt - ((((ot &&& (65535 : Int32))).toUInt32.toUInt16.toUInt32.toInt32)).toInt) % 65536 = 0 ∧ 0 ≤ ((nar .char (((ot &&& (65535 : Int32))).toUInt32.toUInt16.toUInt32.toInt32))).toInt ∧ ((nar .char (((ot &&& (65535 : Int32))).toUInt32.toUInt16.toUInt32.toInt32))).toInt < 65536 := c_i2c (((ot &&& (65535 : Int32))).toUInt32.toUInt16.toUInt32.toInt32)
        omega
      · refine G.cast (st' := [(.int (1 : Int32))]) ?_ rfl
        refine g_istore cx d0_142 (Ls' := #[.val (.int sel), .val (.long ix), .second, .val (.int ot), .val (.ref b2), .val (.ref b20), .val (.int (0 : Int32)), .val (.ref b39), .val (.ref b60), .val (.ref b66), .val (.int (0 : Int32)), .val (.int (((ot &&& (65535 : Int32))).toUInt32.toUInt16.toUInt32.toInt32)), .val (.ref b87), .val (.int (1 : Int32))]) rfl ?_
        refine g_iload cx d0_144 rfl ?_
        refine g_if_eq cx d0_146 (fun hc146 => ?_) (fun q => absurd q (fun q => by revert q; decide))
        refine g_iconst cx d0_216 (v := (0 : Int32)) rfl ?_
        refine g_istore cx d0_217 (Ls' := #[.val (.int sel), .val (.long ix), .second, .val (.int ot), .val (.ref b2), .val (.ref b20), .val (.int (0 : Int32)), .val (.ref b39), .val (.ref b60), .val (.ref b66), .val (.int (0 : Int32)), .val (.int (((ot &&& (65535 : Int32))).toUInt32.toUInt16.toUInt32.toInt32)), .val (.ref b87), .val (.int (1 : Int32))]) rfl ?_
        refine g_iload cx d0_219 rfl ?_
        refine g_retZ cx d0_221 rfl rfl (by decide) (by decide) ?_
        exfalso
        have i_hs37 : ((sel &&& (3 : Int32))).toInt = ((0 : Int32)).toInt := congrArg Int32.toInt hs37
        have i_hq75 : ((nar .char (73 : Int32))).toInt = ((66 : Int32)).toInt := congrArg Int32.toInt hq75
        have i_hc104 : ¬ ((2 : Int32)).toInt = ((0 : Int32)).toInt := fun z => hc104 (Int32.toInt_inj.mp z)
        have i_hq98 : ¬ ((nar .char (((ot &&& (65535 : Int32))).toUInt32.toUInt16.toUInt32.toInt32))).toInt = ((66 : Int32)).toInt := fun z => hq98 (Int32.toInt_inj.mp z)
        have i_hq99 : ((nar .char (((ot &&& (65535 : Int32))).toUInt32.toUInt16.toUInt32.toInt32))).toInt = ((80 : Int32)).toInt := congrArg Int32.toInt hq99
        have i_hc146 : ((0 : Int32)).toInt = ((0 : Int32)).toInt := congrArg Int32.toInt hc146
        have r2 := rng32 sel
        have e1 : ((sel &&& (3 : Int32))).toInt = (sel).toInt % 4 := c_mask sel (3 : Int32) 2 (by decide) (by decide)
        have e3 : (0 : Int32).toInt = 0 := rfl
        have e5 : (73 : Int32).toInt = 73 := rfl
        have e4 : (((nar .char (73 : Int32))).toInt - ((73 : Int32)).toInt) % 65536 = 0 ∧ 0 ≤ ((nar .char (73 : Int32))).toInt ∧ ((nar .char (73 : Int32))).toInt < 65536 := c_i2c (73 : Int32)
        have e6 : (66 : Int32).toInt = 66 := rfl
        have e7 : (2 : Int32).toInt = 2 := rfl
        have r11 := rng32 ot
        have e10 : ((ot &&& (65535 : Int32))).toInt = (ot).toInt % 65536 := c_mask ot (65535 : Int32) 16 (by decide) (by decide)
        have e9 := c_i2c (ot &&& (65535 : Int32))
        have e8 : (((nar .char (((ot &&& (65535 : Int32))).toUInt32.toUInt16.toUInt32.toInt32))).toInt - ((((ot &&& (65535 : Int32))).toUInt32.toUInt16.toUInt32.toInt32)).toInt) % 65536 = 0 ∧ 0 ≤ ((nar .char (((ot &&& (65535 : Int32))).toUInt32.toUInt16.toUInt32.toInt32))).toInt ∧ ((nar .char (((ot &&& (65535 : Int32))).toUInt32.toUInt16.toUInt32.toInt32))).toInt < 65536 := c_i2c (((ot &&& (65535 : Int32))).toUInt32.toUInt16.toUInt32.toInt32)
        have e12 : (80 : Int32).toInt = 80 := rfl
        omega
      · refine G.cast (st' := [(.int (0 : Int32))]) ?_ rfl
        refine g_istore cx d0_142 (Ls' := #[.val (.int sel), .val (.long ix), .second, .val (.int ot), .val (.ref b2), .val (.ref b20), .val (.int (0 : Int32)), .val (.ref b39), .val (.ref b60), .val (.ref b66), .val (.int (0 : Int32)), .val (.int (((ot &&& (65535 : Int32))).toUInt32.toUInt16.toUInt32.toInt32)), .val (.ref b87), .val (.int (0 : Int32))]) rfl ?_
        refine g_iload cx d0_144 rfl ?_
        refine g_if_eq cx d0_146 (fun hc146 => ?_) (fun q => absurd q (fun q => by revert q; decide))
        refine g_iconst cx d0_216 (v := (0 : Int32)) rfl ?_
        refine g_istore cx d0_217 (Ls' := #[.val (.int sel), .val (.long ix), .second, .val (.int ot), .val (.ref b2), .val (.ref b20), .val (.int (0 : Int32)), .val (.ref b39), .val (.ref b60), .val (.ref b66), .val (.int (0 : Int32)), .val (.int (((ot &&& (65535 : Int32))).toUInt32.toUInt16.toUInt32.toInt32)), .val (.ref b87), .val (.int (0 : Int32))]) rfl ?_
        refine g_iload cx d0_219 rfl ?_
        refine g_retZ cx d0_221 rfl rfl (by decide) (by decide) ?_
        exfalso
        have i_hs37 : ((sel &&& (3 : Int32))).toInt = ((0 : Int32)).toInt := congrArg Int32.toInt hs37
        have i_hq75 : ((nar .char (73 : Int32))).toInt = ((66 : Int32)).toInt := congrArg Int32.toInt hq75
        have i_hc104 : ¬ ((2 : Int32)).toInt = ((0 : Int32)).toInt := fun z => hc104 (Int32.toInt_inj.mp z)
        have i_hq101 : ¬ ((nar .char (((ot &&& (65535 : Int32))).toUInt32.toUInt16.toUInt32.toInt32))).toInt = ((66 : Int32)).toInt := fun z => hq101 (Int32.toInt_inj.mp z)
        have i_hq102 : ¬ ((nar .char (((ot &&& (65535 : Int32))).toUInt32.toUInt16.toUInt32.toInt32))).toInt = ((80 : Int32)).toInt := fun z => hq102 (Int32.toInt_inj.mp z)
        have i_hc146 : ((0 : Int32)).toInt = ((0 : Int32)).toInt := congrArg Int32.toInt hc146
        have r2 := rng32 sel
        have e1 : ((sel &&& (3 : Int32))).toInt = (sel).toInt % 4 := c_mask sel (3 : Int32) 2 (by decide) (by decide)
        have e3 : (0 : Int32).toInt = 0 := rfl
        have e5 : (73 : Int32).toInt = 73 := rfl
        have e4 : (((nar .char (73 : Int32))).toInt - ((73 : Int32)).toInt) % 65536 = 0 ∧ 0 ≤ ((nar .char (73 : Int32))).toInt ∧ ((nar .char (73 : Int32))).toInt < 65536 := c_i2c (73 : Int32)
        have e6 : (66 : Int32).toInt = 66 := rfl
        have e7 : (2 : Int32).toInt = 2 := rfl
        have r11 := rng32 ot
        have e10 : ((ot &&& (65535 : Int32))).toInt = (ot).toInt % 65536 := c_mask ot (65535 : Int32) 16 (by decide) (by decide)
        have e9 := c_i2c (ot &&& (65535 : Int32))
        have e8 : (((nar .char (((ot &&& (65535 : Int32))).toUInt32.toUInt16.toUInt32.toInt32))).toInt - ((((ot &&& (65535 : Int32))).toUInt32.toUInt16.toUInt32.toInt32)).toInt) % 65536 = 0 ∧ 0 ≤ ((nar .char (((ot &&& (65535 : Int32))).toUInt32.toUInt16.toUInt32.toInt32))).toInt ∧ ((nar .char (((ot &&& (65535 : Int32))).toUInt32.toUInt16.toUInt32.toInt32))).toInt < 65536 := c_i2c (((ot &&& (65535 : Int32))).toUInt32.toUInt16.toUInt32.toInt32)
        have e12 : (80 : Int32).toInt = 80 := rfl
        omega
    · refine G.cast (st' := [(.int (1 : Int32))]) ?_ rfl
      refine g_aload cx d0_99 rfl rfl ?_
      refine g_iload cx d0_101 rfl ?_
      refine g_iaload cx d0_103 A_b20.1 ⟨by decide, by decide⟩ (v := (.int (0 : Int32))) rfl ?_
      refine g_icmp_ne cx d0_104 (fun hc104 => ?_) (fun q => absurd q (fun q => by revert q; decide))
      refine g_iconst cx d0_111 (v := (0 : Int32)) rfl ?_
      refine g_istore cx d0_112 (Ls' := #[.val (.int sel), .val (.long ix), .second, .val (.int ot), .val (.ref b2), .val (.ref b20), .val (.int (0 : Int32)), .val (.ref b39), .val (.ref b60), .val (.ref b66), .val (.int (0 : Int32)), .unset, .unset, .unset]) rfl ?_
      refine g_iloadN cx d0_114 rfl ?_
      refine g_ldcI cx d0_115 (hw _ (List.mem_of_getElem? (i := 93) rfl)) ?_
      refine g_iand cx d0_117 ?_
      refine g_i2c cx d0_118 ?_
      refine g_istore cx d0_119 (Ls' := #[.val (.int sel), .val (.long ix), .second, .val (.int ot), .val (.ref b2), .val (.ref b20), .val (.int (0 : Int32)), .val (.ref b39), .val (.ref b60), .val (.ref b66), .val (.int (0 : Int32)), .val (.int (((ot &&& (65535 : Int32))).toUInt32.toUInt16.toUInt32.toInt32)), .unset, .unset]) rfl ?_
      refine g_new cx d0_121 (hw _ (List.mem_of_getElem? (i := 68) rfl)) (hw _ (List.mem_of_getElem? (i := 69) rfl)) (hw _ (List.mem_of_getElem? (i := 70) rfl)) (k' := 8) (n' := 32) rfl rfl (by decide) (by decide) (fun h107 b108 gb109 E110 X111 D112 => ?_)
      have ne_b39_b108 : b39 ≠ b108 := Nat.ne_of_lt (by rw [gb109]; exact O_b39.lt)
      have ne_b48_b108 : b48 ≠ b108 := Nat.ne_of_lt (by rw [gb109]; exact O_b48.lt)
      have ne_b66_b108 : b66 ≠ b108 := Nat.ne_of_lt (by rw [gb109]; exact O_b66.lt)
      have ne_b2_b108 : b2 ≠ b108 := Nat.ne_of_lt (by rw [gb109]; exact A_b2.lt)
      have ne_b20_b108 : b20 ≠ b108 := Nat.ne_of_lt (by rw [gb109]; exact A_b20.lt)
      have ne_b53_b108 : b53 ≠ b108 := Nat.ne_of_lt (by rw [gb109]; exact A_b53.lt)
      have ne_b60_b108 : b60 ≠ b108 := Nat.ne_of_lt (by rw [gb109]; exact A_b60.lt)
      have g_b108 : Z.heap.size ≤ b108 := by rw [gb109]; exact OL.2.1
      have O_b39 := O_b39.ext E110
      have O_b48 := O_b48.ext E110
      have O_b66 := O_b66.ext E110
      have A_b2 := A_b2.ext E110
      have A_b20 := A_b20.ext E110
      have A_b53 := A_b53.ext E110
      have A_b60 := A_b60.ext E110
      have OL := OL.ext E110
      have A_dc := AD.ext OL.2
      have O_b108 := ObP.new hw X111 D112
      refine g_dup cx d0_124 rfl ?_
      refine g_lloadN cx d0_125 rfl ?_
      refine g_iload cx d0_126 rfl ?_
      refine g_aload cx d0_128 rfl rfl ?_
      refine g_aload cx d0_130 rfl rfl ?_
      refine g_special cx (y := (⟨"com/example/thalweg/thalweg/cli/Mpeg1Reader$Picture", "<init>", "(JCLjava/util/List;[B)V"⟩ : MethodName)) (a := b108) d0_132 rfl rfl (hw _ (List.mem_of_getElem? (i := 71) rfl)) (hw _ (List.mem_of_getElem? (i := 72) rfl)) (hw _ (List.mem_of_getElem? (i := 70) rfl)) (hw _ (List.mem_of_getElem? (i := 73) rfl)) (by decide) (bytes := prog_8_method_1_code) (maxL' := 6) (M := (ra11 l Z a0 hw dc lc cdc clc SDC AD SLC BX b108 b39 b53 b48 b60 ix (((ot &&& (65535 : Int32))).toUInt32.toUInt16.toUInt32.toInt32) cA54 cA61 _ O_b108 O_b39 O_b48 A_b53 A_b60 OV_b53 (Ne.symm ne_b39_b108) (Ne.symm ne_b53_b108) ne_b39_b53 (Ne.symm ne_b60_b108) ne_b39_b60 ne_b53_b60 g_b108 g_b39 g_b53 g_b60 OL)) rfl (lenOf pd_8 rfl) (by decide) (W := 1) (Nat.le_of_eq rfl) (by decide) (k' := 8) (n' := 32) rfl rfl (by decide) (by decide) (argsL := [(.long ix), (.int (((ot &&& (65535 : Int32))).toUInt32.toUInt16.toUInt32.toInt32)), (.ref b39), (.ref b60)]) (rest := [(.ref b108)]) rfl (fun v115 h114 q116 => ?_)
      obtain ⟨rfl, K113, O_b108⟩ := q116
      have O_b39 := O_b39.keep K113 (ninS ne_b39_b108 nin0)
      have O_b48 := O_b48.keepX K113
      have O_b66 := O_b66.keep K113 (ninS ne_b66_b108 nin0)
      have A_b2 := A_b2.keep K113 (ninS ne_b2_b108 nin0)
      have A_b20 := A_b20.keep K113 (ninS ne_b20_b108 nin0)
      have A_b53 := A_b53.keep K113 (ninS ne_b53_b108 nin0)
      have A_b60 := A_b60.keep K113 (ninS ne_b60_b108 nin0)
      have OL := OL.keep K113 (allS g_b108 all0)
      have A_dc := AD.ext OL.2
      refine G.cast (st' := [(.ref b108)]) ?_ rfl
      refine g_astore cx d0_135 rfl (Ls' := #[.val (.int sel), .val (.long ix), .second, .val (.int ot), .val (.ref b2), .val (.ref b20), .val (.int (0 : Int32)), .val (.ref b39), .val (.ref b60), .val (.ref b66), .val (.int (0 : Int32)), .val (.int (((ot &&& (65535 : Int32))).toUInt32.toUInt16.toUInt32.toInt32)), .val (.ref b108), .unset]) rfl ?_
      refine g_aload cx d0_137 rfl rfl ?_
      refine g_virtual cx (y := (⟨"com/example/thalweg/thalweg/cli/Mpeg1Reader$Picture", "rank", "()I"⟩ : MethodName)) (z := (⟨"com/example/thalweg/thalweg/cli/Mpeg1Reader$Picture", "rank", "()I"⟩ : MethodName)) (a := b108) d0_139 (hw _ (List.mem_of_getElem? (i := 88) rfl)) (hw _ (List.mem_of_getElem? (i := 89) rfl)) (hw _ (List.mem_of_getElem? (i := 70) rfl)) (hw _ (List.mem_of_getElem? (i := 92) rfl)) (hw _ (List.mem_of_getElem? (i := 91) rfl)) (hw _ (List.mem_of_getElem? (i := 90) rfl)) rfl (by decide) O_b108.1 (bytes := prog_8_method_2_code) (maxL' := 1) (M := (ra10 l Z a0 hw dc lc cdc clc SDC AD SLC BX b108 b39 b53 b48 b60 ix (nar .char (((ot &&& (65535 : Int32))).toUInt32.toUInt16.toUInt32.toInt32)) cA54 cA61 _ O_b108 O_b39 O_b48 A_b53 A_b60 OV_b53 (Ne.symm ne_b39_b108) (Ne.symm ne_b53_b108) ne_b39_b53 (Ne.symm ne_b60_b108) ne_b39_b60 ne_b53_b60 g_b108 g_b39 g_b53 g_b60 OL)) rfl (lenOf pd_9 rfl) (by decide) (W := 0) (Nat.le_of_eq rfl) (by decide) (k' := 8) (n' := 32) rfl rfl (by decide) (by decide) (argsL := []) (rest := []) rfl (fun v126 h125 q127 => ?_)
      rcases q127 with ⟨hq117, rfl, rfl⟩ | ⟨hq119, hq120, rfl, rfl⟩ | ⟨hq122, hq123, rfl, rfl⟩
      · refine G.cast (st' := [(.int (2 : Int32))]) ?_ rfl
        refine g_istore cx d0_142 (Ls' := #[.val (.int sel), .val (.long ix), .second, .val (.int ot), .val (.ref b2), .val (.ref b20), .val (.int (0 : Int32)), .val (.ref b39), .val (.ref b60), .val (.ref b66), .val (.int (0 : Int32)), .val (.int (((ot &&& (65535 : Int32))).toUInt32.toUInt16.toUInt32.toInt32)), .val (.ref b108), .val (.int (2 : Int32))]) rfl ?_
        refine g_iload cx d0_144 rfl ?_
        refine g_if_eq cx d0_146 (fun hc146 => ?_) (fun q => absurd q (fun q => by revert q; decide))
        refine g_iconst cx d0_216 (v := (0 : Int32)) rfl ?_
        refine g_istore cx d0_217 (Ls' := #[.val (.int sel), .val (.long ix), .second, .val (.int ot), .val (.ref b2), .val (.ref b20), .val (.int (0 : Int32)), .val (.ref b39), .val (.ref b60), .val (.ref b66), .val (.int (0 : Int32)), .val (.int (((ot &&& (65535 : Int32))).toUInt32.toUInt16.toUInt32.toInt32)), .val (.ref b108), .val (.int (2 : Int32))]) rfl ?_
        refine g_iload cx d0_219 rfl ?_
        refine g_retZ cx d0_221 rfl rfl (by decide) (by decide) ?_
        exfalso
        have i_hs37 : ((sel &&& (3 : Int32))).toInt = ((0 : Int32)).toInt := congrArg Int32.toInt hs37
        have i_hq77 : ¬ ((nar .char (73 : Int32))).toInt = ((66 : Int32)).toInt := fun z => hq77 (Int32.toInt_inj.mp z)
        have i_hq78 : ((nar .char (73 : Int32))).toInt = ((80 : Int32)).toInt := congrArg Int32.toInt hq78
        have i_hc104 : ¬ ((1 : Int32)).toInt = ((0 : Int32)).toInt := fun z => hc104 (Int32.toInt_inj.mp z)
        have i_hq117 : ((nar .char (((ot &&& (65535 : Int32))).toUInt32.toUInt16.toUInt32.toInt32))).toInt = ((66 : Int32)).toInt := congrArg Int32.toInt hq117
        have i_hc146 : ((0 : Int32)).toInt = ((0 : Int32)).toInt := congrArg Int32.toInt hc146
        have r2 := rng32 sel
        have e1 : ((sel &&& (3 : Int32))).toInt = (sel).toInt % 4 := c_mask sel (3 : Int32) 2 (by decide) (by decide)
        have e3 : (0 : Int32).toInt = 0 := rfl
        have e5 : (73 : Int32).toInt = 73 := rfl
        have e4 : (((nar .char (73 : Int32))).toInt - ((73 : Int32)).toInt) % 65536 = 0 ∧ 0 ≤ ((nar .char (73 : Int32))).toInt ∧ ((nar .char (73 : Int32))).toInt < 65536 := c_i2c (73 : Int32)
        have e6 : (66 : Int32).toInt = 66 := rfl
        have e7 : (80 : Int32).toInt = 80 := rfl
        have e8 : (1 : Int32).toInt = 1 := rfl
        have r12 := rng32 ot
        have e11 : ((ot &&& (65535 : Int32))).toInt = (ot).toInt % 65536 := c_mask ot (65535 : Int32) 16 (by decide) (by decide)
        have e10 := c_i2c (ot &&& (65535 : Int32))
        have e9 : (((nar .char (((ot &&& (65535 : Int32))).toUInt32.toUInt16.toUInt32.toInt32))).toInt - ((((ot &&& (65535 : Int32))).toUInt32.toUInt16.toUInt32.toInt32)).toInt) % 65536 = 0 ∧ 0 ≤ ((nar .char (((ot &&& (65535 : Int32))).toUInt32.toUInt16.toUInt32.toInt32))).toInt ∧ ((nar .char (((ot &&& (65535 : Int32))).toUInt32.toUInt16.toUInt32.toInt32))).toInt < 65536 := c_i2c (((ot &&& (65535 : Int32))).toUInt32.toUInt16.toUInt32.toInt32)
        omega
      · refine G.cast (st' := [(.int (1 : Int32))]) ?_ rfl
        refine g_istore cx d0_142 (Ls' := #[.val (.int sel), .val (.long ix), .second, .val (.int ot), .val (.ref b2), .val (.ref b20), .val (.int (0 : Int32)), .val (.ref b39), .val (.ref b60), .val (.ref b66), .val (.int (0 : Int32)), .val (.int (((ot &&& (65535 : Int32))).toUInt32.toUInt16.toUInt32.toInt32)), .val (.ref b108), .val (.int (1 : Int32))]) rfl ?_
        refine g_iload cx d0_144 rfl ?_
        refine g_if_eq cx d0_146 (fun hc146 => ?_) (fun q => absurd q (fun q => by revert q; decide))
        refine g_iconst cx d0_216 (v := (0 : Int32)) rfl ?_
        refine g_istore cx d0_217 (Ls' := #[.val (.int sel), .val (.long ix), .second, .val (.int ot), .val (.ref b2), .val (.ref b20), .val (.int (0 : Int32)), .val (.ref b39), .val (.ref b60), .val (.ref b66), .val (.int (0 : Int32)), .val (.int (((ot &&& (65535 : Int32))).toUInt32.toUInt16.toUInt32.toInt32)), .val (.ref b108), .val (.int (1 : Int32))]) rfl ?_
        refine g_iload cx d0_219 rfl ?_
        refine g_retZ cx d0_221 rfl rfl (by decide) (by decide) ?_
        exfalso
        have i_hs37 : ((sel &&& (3 : Int32))).toInt = ((0 : Int32)).toInt := congrArg Int32.toInt hs37
        have i_hq77 : ¬ ((nar .char (73 : Int32))).toInt = ((66 : Int32)).toInt := fun z => hq77 (Int32.toInt_inj.mp z)
        have i_hq78 : ((nar .char (73 : Int32))).toInt = ((80 : Int32)).toInt := congrArg Int32.toInt hq78
        have i_hc104 : ¬ ((1 : Int32)).toInt = ((0 : Int32)).toInt := fun z => hc104 (Int32.toInt_inj.mp z)
        have i_hq119 : ¬ ((nar .char (((ot &&& (65535 : Int32))).toUInt32.toUInt16.toUInt32.toInt32))).toInt = ((66 : Int32)).toInt := fun z => hq119 (Int32.toInt_inj.mp z)
        have i_hq120 : ((nar .char (((ot &&& (65535 : Int32))).toUInt32.toUInt16.toUInt32.toInt32))).toInt = ((80 : Int32)).toInt := congrArg Int32.toInt hq120
        have i_hc146 : ((0 : Int32)).toInt = ((0 : Int32)).toInt := congrArg Int32.toInt hc146
        have r2 := rng32 sel
        have e1 : ((sel &&& (3 : Int32))).toInt = (sel).toInt % 4 := c_mask sel (3 : Int32) 2 (by decide) (by decide)
        have e3 : (0 : Int32).toInt = 0 := rfl
        have e5 : (73 : Int32).toInt = 73 := rfl
        have e4 : (((nar .char (73 : Int32))).toInt - ((73 : Int32)).toInt) % 65536 = 0 ∧ 0 ≤ ((nar .char (73 : Int32))).toInt ∧ ((nar .char (73 : Int32))).toInt < 65536 := c_i2c (73 : Int32)
        have e6 : (66 : Int32).toInt = 66 := rfl
        have e7 : (80 : Int32).toInt = 80 := rfl
        have e8 : (1 : Int32).toInt = 1 := rfl
        have r12 := rng32 ot
        have e11 : ((ot &&& (65535 : Int32))).toInt = (ot).toInt % 65536 := c_mask ot (65535 : Int32) 16 (by decide) (by decide)
        have e10 := c_i2c (ot &&& (65535 : Int32))
        have e9 : (((nar .char (((ot &&& (65535 : Int32))).toUInt32.toUInt16.toUInt32.toInt32))).toInt - ((((ot &&& (65535 : Int32))).toUInt32.toUInt16.toUInt32.toInt32)).toInt) % 65536 = 0 ∧ 0 ≤ ((nar .char (((ot &&& (65535 : Int32))).toUInt32.toUInt16.toUInt32.toInt32))).toInt ∧ ((nar .char (((ot &&& (65535 : Int32))).toUInt32.toUInt16.toUInt32.toInt32))).toInt < 65536 := c_i2c (((ot &&& (65535 : Int32))).toUInt32.toUInt16.toUInt32.toInt32)
        omega
      · refine G.cast (st' := [(.int (0 : Int32))]) ?_ rfl
        refine g_istore cx d0_142 (Ls' := #[.val (.int sel), .val (.long ix), .second, .val (.int ot), .val (.ref b2), .val (.ref b20), .val (.int (0 : Int32)), .val (.ref b39), .val (.ref b60), .val (.ref b66), .val (.int (0 : Int32)), .val (.int (((ot &&& (65535 : Int32))).toUInt32.toUInt16.toUInt32.toInt32)), .val (.ref b108), .val (.int (0 : Int32))]) rfl ?_
        refine g_iload cx d0_144 rfl ?_
        refine g_if_eq cx d0_146 (fun hc146 => ?_) (fun q => absurd q (fun q => by revert q; decide))
        refine g_iconst cx d0_216 (v := (0 : Int32)) rfl ?_
        refine g_istore cx d0_217 (Ls' := #[.val (.int sel), .val (.long ix), .second, .val (.int ot), .val (.ref b2), .val (.ref b20), .val (.int (0 : Int32)), .val (.ref b39), .val (.ref b60), .val (.ref b66), .val (.int (0 : Int32)), .val (.int (((ot &&& (65535 : Int32))).toUInt32.toUInt16.toUInt32.toInt32)), .val (.ref b108), .val (.int (0 : Int32))]) rfl ?_
        refine g_iload cx d0_219 rfl ?_
        refine g_retZ cx d0_221 rfl rfl (by decide) (by decide) ?_
        exfalso
        have i_hs37 : ((sel &&& (3 : Int32))).toInt = ((0 : Int32)).toInt := congrArg Int32.toInt hs37
        have i_hq77 : ¬ ((nar .char (73 : Int32))).toInt = ((66 : Int32)).toInt := fun z => hq77 (Int32.toInt_inj.mp z)
        have i_hq78 : ((nar .char (73 : Int32))).toInt = ((80 : Int32)).toInt := congrArg Int32.toInt hq78
        have i_hc104 : ¬ ((1 : Int32)).toInt = ((0 : Int32)).toInt := fun z => hc104 (Int32.toInt_inj.mp z)
        have i_hq122 : ¬ ((nar .char (((ot &&& (65535 : Int32))).toUInt32.toUInt16.toUInt32.toInt32))).toInt = ((66 : Int32)).toInt := fun z => hq122 (Int32.toInt_inj.mp z)
        have i_hq123 : ¬ ((nar .char (((ot &&& (65535 : Int32))).toUInt32.toUInt16.toUInt32.toInt32))).toInt = ((80 : Int32)).toInt := fun z => hq123 (Int32.toInt_inj.mp z)
        have i_hc146 : ((0 : Int32)).toInt = ((0 : Int32)).toInt := congrArg Int32.toInt hc146
        have r2 := rng32 sel
        have e1 : ((sel &&& (3 : Int32))).toInt = (sel).toInt % 4 := c_mask sel (3 : Int32) 2 (by decide) (by decide)
        have e3 : (0 : Int32).toInt = 0 := rfl
        have e5 : (73 : Int32).toInt = 73 := rfl
        have e4 : (((nar .char (73 : Int32))).toInt - ((73 : Int32)).toInt) % 65536 = 0 ∧ 0 ≤ ((nar .char (73 : Int32))).toInt ∧ ((nar .char (73 : Int32))).toInt < 65536 := c_i2c (73 : Int32)
        have e6 : (66 : Int32).toInt = 66 := rfl
        have e7 : (80 : Int32).toInt = 80 := rfl
        have e8 : (1 : Int32).toInt = 1 := rfl
        have r12 := rng32 ot
        have e11 : ((ot &&& (65535 : Int32))).toInt = (ot).toInt % 65536 := c_mask ot (65535 : Int32) 16 (by decide) (by decide)
        have e10 := c_i2c (ot &&& (65535 : Int32))
        have e9 : (((nar .char (((ot &&& (65535 : Int32))).toUInt32.toUInt16.toUInt32.toInt32))).toInt - ((((ot &&& (65535 : Int32))).toUInt32.toUInt16.toUInt32.toInt32)).toInt) % 65536 = 0 ∧ 0 ≤ ((nar .char (((ot &&& (65535 : Int32))).toUInt32.toUInt16.toUInt32.toInt32))).toInt ∧ ((nar .char (((ot &&& (65535 : Int32))).toUInt32.toUInt16.toUInt32.toInt32))).toInt < 65536 := c_i2c (((ot &&& (65535 : Int32))).toUInt32.toUInt16.toUInt32.toInt32)
        omega
    · refine G.cast (st' := [(.int (0 : Int32))]) ?_ rfl
      refine g_aload cx d0_99 rfl rfl ?_
      refine g_iload cx d0_101 rfl ?_
      refine g_iaload cx d0_103 A_b20.1 ⟨by decide, by decide⟩ (v := (.int (0 : Int32))) rfl ?_
      refine g_icmp_ne cx d0_104 (fun q => absurd q (fun q => by revert q; decide)) (fun hc104 => ?_)
      refine g_iconst cx d0_107 (v := (1 : Int32)) rfl ?_
      refine g_goto cx d0_108 ?_
      refine g_istore cx d0_112 (Ls' := #[.val (.int sel), .val (.long ix), .second, .val (.int ot), .val (.ref b2), .val (.ref b20), .val (.int (0 : Int32)), .val (.ref b39), .val (.ref b60), .val (.ref b66), .val (.int (1 : Int32)), .unset, .unset, .unset]) rfl ?_
      refine g_iloadN cx d0_114 rfl ?_
      refine g_ldcI cx d0_115 (hw _ (List.mem_of_getElem? (i := 93) rfl)) ?_
      refine g_iand cx d0_117 ?_
      refine g_i2c cx d0_118 ?_
      refine g_istore cx d0_119 (Ls' := #[.val (.int sel), .val (.long ix), .second, .val (.int ot), .val (.ref b2), .val (.ref b20), .val (.int (0 : Int32)), .val (.ref b39), .val (.ref b60), .val (.ref b66), .val (.int (1 : Int32)), .val (.int (((ot &&& (65535 : Int32))).toUInt32.toUInt16.toUInt32.toInt32)), .unset, .unset]) rfl ?_
      refine g_new cx d0_121 (hw _ (List.mem_of_getElem? (i := 68) rfl)) (hw _ (List.mem_of_getElem? (i := 69) rfl)) (hw _ (List.mem_of_getElem? (i := 70) rfl)) (k' := 8) (n' := 32) rfl rfl (by decide) (by decide) (fun h128 b129 gb130 E131 X132 D133 => ?_)
      have ne_b39_b129 : b39 ≠ b129 := Nat.ne_of_lt (by rw [gb130]; exact O_b39.lt)
      have ne_b48_b129 : b48 ≠ b129 := Nat.ne_of_lt (by rw [gb130]; exact O_b48.lt)
      have ne_b66_b129 : b66 ≠ b129 := Nat.ne_of_lt (by rw [gb130]; exact O_b66.lt)
      have ne_b2_b129 : b2 ≠ b129 := Nat.ne_of_lt (by rw [gb130]; exact A_b2.lt)
      have ne_b20_b129 : b20 ≠ b129 := Nat.ne_of_lt (by rw [gb130]; exact A_b20.lt)
      have ne_b53_b129 : b53 ≠ b129 := Nat.ne_of_lt (by rw [gb130]; exact A_b53.lt)
      have ne_b60_b129 : b60 ≠ b129 := Nat.ne_of_lt (by rw [gb130]; exact A_b60.lt)
      have g_b129 : Z.heap.size ≤ b129 := by rw [gb130]; exact OL.2.1
      have O_b39 := O_b39.ext E131
      have O_b48 := O_b48.ext E131
      have O_b66 := O_b66.ext E131
      have A_b2 := A_b2.ext E131
      have A_b20 := A_b20.ext E131
      have A_b53 := A_b53.ext E131
      have A_b60 := A_b60.ext E131
      have OL := OL.ext E131
      have A_dc := AD.ext OL.2
      have O_b129 := ObP.new hw X132 D133
      refine g_dup cx d0_124 rfl ?_
      refine g_lloadN cx d0_125 rfl ?_
      refine g_iload cx d0_126 rfl ?_
      refine g_aload cx d0_128 rfl rfl ?_
      refine g_aload cx d0_130 rfl rfl ?_
      refine g_special cx (y := (⟨"com/example/thalweg/thalweg/cli/Mpeg1Reader$Picture", "<init>", "(JCLjava/util/List;[B)V"⟩ : MethodName)) (a := b129) d0_132 rfl rfl (hw _ (List.mem_of_getElem? (i := 71) rfl)) (hw _ (List.mem_of_getElem? (i := 72) rfl)) (hw _ (List.mem_of_getElem? (i := 70) rfl)) (hw _ (List.mem_of_getElem? (i := 73) rfl)) (by decide) (bytes := prog_8_method_1_code) (maxL' := 6) (M := (ra11 l Z a0 hw dc lc cdc clc SDC AD SLC BX b129 b39 b53 b48 b60 ix (((ot &&& (65535 : Int32))).toUInt32.toUInt16.toUInt32.toInt32) cA54 cA61 _ O_b129 O_b39 O_b48 A_b53 A_b60 OV_b53 (Ne.symm ne_b39_b129) (Ne.symm ne_b53_b129) ne_b39_b53 (Ne.symm ne_b60_b129) ne_b39_b60 ne_b53_b60 g_b129 g_b39 g_b53 g_b60 OL)) rfl (lenOf pd_8 rfl) (by decide) (W := 1) (Nat.le_of_eq rfl) (by decide) (k' := 8) (n' := 32) rfl rfl (by decide) (by decide) (argsL := [(.long ix), (.int (((ot &&& (65535 : Int32))).toUInt32.toUInt16.toUInt32.toInt32)), (.ref b39), (.ref b60)]) (rest := [(.ref b129)]) rfl (fun v136 h135 q137 => ?_)
      obtain ⟨rfl, K134, O_b129⟩ := q137
      have O_b39 := O_b39.keep K134 (ninS ne_b39_b129 nin0)
      have O_b48 := O_b48.keepX K134
      have O_b66 := O_b66.keep K134 (ninS ne_b66_b129 nin0)
      have A_b2 := A_b2.keep K134 (ninS ne_b2_b129 nin0)
      have A_b20 := A_b20.keep K134 (ninS ne_b20_b129 nin0)
      have A_b53 := A_b53.keep K134 (ninS ne_b53_b129 nin0)
      have A_b60 := A_b60.keep K134 (ninS ne_b60_b129 nin0)
      have OL := OL.keep K134 (allS g_b129 all0)
      have A_dc := AD.ext OL.2
      refine G.cast (st' := [(.ref b129)]) ?_ rfl
      refine g_astore cx d0_135 rfl (Ls' := #[.val (.int sel), .val (.long ix), .second, .val (.int ot), .val (.ref b2), .val (.ref b20), .val (.int (0 : Int32)), .val (.ref b39), .val (.ref b60), .val (.ref b66), .val (.int (1 : Int32)), .val (.int (((ot &&& (65535 : Int32))).toUInt32.toUInt16.toUInt32.toInt32)), .val (.ref b129), .unset]) rfl ?_
      refine g_aload cx d0_137 rfl rfl ?_
      refine g_virtual cx (y := (⟨"com/example/thalweg/thalweg/cli/Mpeg1Reader$Picture", "rank", "()I"⟩ : MethodName)) (z := (⟨"com/example/thalweg/thalweg/cli/Mpeg1Reader$Picture", "rank", "()I"⟩ : MethodName)) (a := b129) d0_139 (hw _ (List.mem_of_getElem? (i := 88) rfl)) (hw _ (List.mem_of_getElem? (i := 89) rfl)) (hw _ (List.mem_of_getElem? (i := 70) rfl)) (hw _ (List.mem_of_getElem? (i := 92) rfl)) (hw _ (List.mem_of_getElem? (i := 91) rfl)) (hw _ (List.mem_of_getElem? (i := 90) rfl)) rfl (by decide) O_b129.1 (bytes := prog_8_method_2_code) (maxL' := 1) (M := (ra10 l Z a0 hw dc lc cdc clc SDC AD SLC BX b129 b39 b53 b48 b60 ix (nar .char (((ot &&& (65535 : Int32))).toUInt32.toUInt16.toUInt32.toInt32)) cA54 cA61 _ O_b129 O_b39 O_b48 A_b53 A_b60 OV_b53 (Ne.symm ne_b39_b129) (Ne.symm ne_b53_b129) ne_b39_b53 (Ne.symm ne_b60_b129) ne_b39_b60 ne_b53_b60 g_b129 g_b39 g_b53 g_b60 OL)) rfl (lenOf pd_9 rfl) (by decide) (W := 0) (Nat.le_of_eq rfl) (by decide) (k' := 8) (n' := 32) rfl rfl (by decide) (by decide) (argsL := []) (rest := []) rfl (fun v147 h146 q148 => ?_)
      rcases q148 with ⟨hq138, rfl, rfl⟩ | ⟨hq140, hq141, rfl, rfl⟩ | ⟨hq143, hq144, rfl, rfl⟩
      · refine G.cast (st' := [(.int (2 : Int32))]) ?_ rfl
        refine g_istore cx d0_142 (Ls' := #[.val (.int sel), .val (.long ix), .second, .val (.int ot), .val (.ref b2), .val (.ref b20), .val (.int (0 : Int32)), .val (.ref b39), .val (.ref b60), .val (.ref b66), .val (.int (1 : Int32)), .val (.int (((ot &&& (65535 : Int32))).toUInt32.toUInt16.toUInt32.toInt32)), .val (.ref b129), .val (.int (2 : Int32))]) rfl ?_
        refine g_iload cx d0_144 rfl ?_
        refine g_if_eq cx d0_146 (fun q => absurd q (fun q => by revert q; decide)) (fun hc146 => ?_)
        refine g_iload cx d0_149 rfl ?_
        refine g_if_lt cx d0_151 (fun q => absurd q (fun q => by revert q; decide)) (fun hc151 => ?_)
        refine g_iload cx d0_154 rfl ?_
        refine g_iconst cx d0_156 (v := (2 : Int32)) rfl ?_
        refine g_icmp_gt cx d0_157 (fun q => absurd q (fun q => by revert q; decide)) (fun hc157 => ?_)
        refine g_iload cx d0_160 rfl ?_
        refine g_iconst cx d0_162 (v := (1 : Int32)) rfl ?_
        refine g_icmp_ne cx d0_163 (fun hc163 => ?_) (fun q => absurd q (fun q => by revert q; decide))
        refine g_iconst cx d0_170 (v := (0 : Int32)) rfl ?_
        refine g_iload cx d0_171 rfl ?_
        refine g_bipush cx d0_173 (v := (80 : Int32)) rfl ?_
        refine g_icmp_ne cx d0_175 (fun hc175 => ?_) (fun hc175 => ?_)
        · refine g_iconst cx d0_182 (v := (0 : Int32)) rfl ?_
          refine g_icmp_ne cx d0_183 (fun q => absurd q (fun q => by revert q; decide)) (fun hc183 => ?_)
          refine g_iload cx d0_186 rfl ?_
          refine g_iconst cx d0_188 (v := (2 : Int32)) rfl ?_
          refine g_icmp_ne cx d0_189 (fun q => absurd q (fun q => by revert q; decide)) (fun hc189 => ?_)
          refine g_iconst cx d0_192 (v := (1 : Int32)) rfl ?_
          refine g_goto cx d0_193 ?_
          refine g_iload cx d0_197 rfl ?_
          refine g_bipush cx d0_199 (v := (66 : Int32)) rfl ?_
          refine g_icmp_ne cx d0_201 (fun hc201 => ?_) (fun hc201 => ?_)
          · refine g_iconst cx d0_208 (v := (0 : Int32)) rfl ?_
            refine g_icmp_ne cx d0_209 (fun hc209 => ?_) (fun q => absurd q (fun q => by revert q; decide))
            refine g_iconst cx d0_216 (v := (0 : Int32)) rfl ?_
            refine g_istore cx d0_217 (Ls' := #[.val (.int sel), .val (.long ix), .second, .val (.int ot), .val (.ref b2), .val (.ref b20), .val (.int (0 : Int32)), .val (.ref b39), .val (.ref b60), .val (.ref b66), .val (.int (0 : Int32)), .val (.int (((ot &&& (65535 : Int32))).toUInt32.toUInt16.toUInt32.toInt32)), .val (.ref b129), .val (.int (2 : Int32))]) rfl ?_
            refine g_iload cx d0_219 rfl ?_
            refine g_retZ cx d0_221 rfl rfl (by decide) (by decide) ?_
            exfalso
            have i_hs37 : ((sel &&& (3 : Int32))).toInt = ((0 : Int32)).toInt := congrArg Int32.toInt hs37
            have i_hq80 : ¬ ((nar .char (73 : Int32))).toInt = ((66 : Int32)).toInt := fun z => hq80 (Int32.toInt_inj.mp z)
            have i_hq81 : ¬ ((nar .char (73 : Int32))).toInt = ((80 : Int32)).toInt := fun z => hq81 (Int32.toInt_inj.mp z)
            have i_hc104 : ((0 : Int32)).toInt = ((0 : Int32)).toInt := congrArg Int32.toInt hc104
            have i_hq138 : ((nar .char (((ot &&& (65535 : Int32))).toUInt32.toUInt16.toUInt32.toInt32))).toInt = ((66 : Int32)).toInt := congrArg Int32.toInt hq138
            have i_hc146 : ¬ ((1 : Int32)).toInt = ((0 : Int32)).toInt := fun z => hc146 (Int32.toInt_inj.mp z)
            have i_hc151 : ¬ ((2 : Int32)).toInt < ((0 : Int32)).toInt := fun z => hc151 (Int32.lt_iff_toInt_lt.mpr z)
            have i_hc157 : ¬ ((2 : Int32)).toInt < ((2 : Int32)).toInt := fun z => hc157 (Int32.lt_iff_toInt_lt.mpr z)
            have i_hc163 : ¬ ((2 : Int32)).toInt = ((1 : Int32)).toInt := fun z => hc163 (Int32.toInt_inj.mp z)
            have i_hc175 : ¬ ((((ot &&& (65535 : Int32))).toUInt32.toUInt16.toUInt32.toInt32)).toInt = ((80 : Int32)).toInt := fun z => hc175 (Int32.toInt_inj.mp z)
            have i_hc183 : ((0 : Int32)).toInt = ((0 : Int32)).toInt := congrArg Int32.toInt hc183
            have i_hc189 : ((2 : Int32)).toInt = ((2 : Int32)).toInt := congrArg Int32.toInt hc189
            have i_hc201 : ¬ ((((ot &&& (65535 : Int32))).toUInt32.toUInt16.toUInt32.toInt32)).toInt = ((66 : Int32)).toInt := fun z => hc201 (Int32.toInt_inj.mp z)
            have i_hc209 : ¬ ((1 : Int32)).toInt = ((0 : Int32)).toInt := fun z => hc209 (Int32.toInt_inj.mp z)
            have r2 := rng32 sel
            have e1 : ((sel &&& (3 : Int32))).toInt = (sel).toInt % 4 := c_mask sel (3 : Int32) 2 (by decide) (by decide)
            have e3 : (0 : Int32).toInt = 0 := rfl
            have e5 : (73 : Int32).toInt = 73 := rfl
            have e4 : (((nar .char (73 : Int32))).toInt - ((73 : Int32)).toInt) % 65536 = 0 ∧ 0 ≤ ((nar .char (73 : Int32))).toInt ∧ ((nar .char (73 : Int32))).toInt < 65536 := c_i2c (73 : Int32)
            have e6 : (66 : Int32).toInt = 66 := rfl
            have e7 : (80 : Int32).toInt = 80 := rfl
            have r11 := rng32 ot
            have e10 : ((ot &&& (65535 : Int32))).toInt = (ot).toInt % 65536 := c_mask ot (65535 : Int32) 16 (by decide) (by decide)
            have e9 := c_i2c (ot &&& (65535 : Int32))
            have e8 : (((nar .char (((ot &&& (65535 : Int32))).toUInt32.toUInt16.toUInt32.toInt32))).toInt - ((((ot &&& (65535 : Int32))).toUInt32.toUInt16.toUInt32.toInt32)).toInt) % 65536 = 0 ∧ 0 ≤ ((nar .char (((ot &&& (65535 : Int32))).toUInt32.toUInt16.toUInt32.toInt32))).toInt ∧ ((nar .char (((ot &&& (65535 : Int32))).toUInt32.toUInt16.toUInt32.toInt32))).toInt < 65536 := c_i2c (((ot &&& (65535 : Int32))).toUInt32.toUInt16.toUInt32.toInt32)
            have e12 : (1 : Int32).toInt = 1 := rfl
            have e13 : (2 : Int32).toInt = 2 := rfl
            omega
          · refine g_iconst cx d0_204 (v := (1 : Int32)) rfl ?_
            refine g_goto cx d0_205 ?_
            refine g_icmp_ne cx d0_209 (fun q => absurd q (fun q => by revert q; decide)) (fun hc209 => ?_)
            refine g_iconst cx d0_212 (v := (1 : Int32)) rfl ?_
            refine g_goto cx d0_213 ?_
            refine g_istore cx d0_217 (Ls' := #[.val (.int sel), .val (.long ix), .second, .val (.int ot), .val (.ref b2), .val (.ref b20), .val (.int (0 : Int32)), .val (.ref b39), .val (.ref b60), .val (.ref b66), .val (.int (1 : Int32)), .val (.int (((ot &&& (65535 : Int32))).toUInt32.toUInt16.toUInt32.toInt32)), .val (.ref b129), .val (.int (2 : Int32))]) rfl ?_
            refine g_iload cx d0_219 rfl ?_
            refine g_retZ cx d0_221 rfl rfl (by decide) (by decide) ?_
            rfl
        · refine g_iconst cx d0_178 (v := (1 : Int32)) rfl ?_
          refine g_goto cx d0_179 ?_
          refine g_icmp_ne cx d0_183 (fun hc183 => ?_) (fun q => absurd q (fun q => by revert q; decide))
          refine g_iconst cx d0_216 (v := (0 : Int32)) rfl ?_
          refine g_istore cx d0_217 (Ls' := #[.val (.int sel), .val (.long ix), .second, .val (.int ot), .val (.ref b2), .val (.ref b20), .val (.int (0 : Int32)), .val (.ref b39), .val (.ref b60), .val (.ref b66), .val (.int (0 : Int32)), .val (.int (((ot &&& (65535 : Int32))).toUInt32.toUInt16.toUInt32.toInt32)), .val (.ref b129), .val (.int (2 : Int32))]) rfl ?_
          refine g_iload cx d0_219 rfl ?_
          refine g_retZ cx d0_221 rfl rfl (by decide) (by decide) ?_
          exfalso
          have i_hs37 : ((sel &&& (3 : Int32))).toInt = ((0 : Int32)).toInt := congrArg Int32.toInt hs37
          have i_hq80 : ¬ ((nar .char (73 : Int32))).toInt = ((66 : Int32)).toInt := fun z => hq80 (Int32.toInt_inj.mp z)
          have i_hq81 : ¬ ((nar .char (73 : Int32))).toInt = ((80 : Int32)).toInt := fun z => hq81 (Int32.toInt_inj.mp z)
          have i_hc104 : ((0 : Int32)).toInt = ((0 : Int32)).toInt := congrArg Int32.toInt hc104
          have i_hq138 : ((nar .char (((ot &&& (65535 : Int32))).toUInt32.toUInt16.toUInt32.toInt32))).toInt = ((66 : Int32)).toInt := congrArg Int32.toInt hq138
          have i_hc146 : ¬ ((1 : Int32)).toInt = ((0 : Int32)).toInt := fun z => hc146 (Int32.toInt_inj.mp z)
          have i_hc151 : ¬ ((2 : Int32)).toInt < ((0 : Int32)).toInt := fun z => hc151 (Int32.lt_iff_toInt_lt.mpr z)
          have i_hc157 : ¬ ((2 : Int32)).toInt < ((2 : Int32)).toInt := fun z => hc157 (Int32.lt_iff_toInt_lt.mpr z)
          have i_hc163 : ¬ ((2 : Int32)).toInt = ((1 : Int32)).toInt := fun z => hc163 (Int32.toInt_inj.mp z)
          have i_hc175 : ((((ot &&& (65535 : Int32))).toUInt32.toUInt16.toUInt32.toInt32)).toInt = ((80 : Int32)).toInt := congrArg Int32.toInt hc175
          have i_hc183 : ¬ ((0 : Int32)).toInt = ((1 : Int32)).toInt := fun z => hc183 (Int32.toInt_inj.mp z)
          have r2 := rng32 sel
          have e1 : ((sel &&& (3 : Int32))).toInt = (sel).toInt % 4 := c_mask sel (3 : Int32) 2 (by decide) (by decide)
          have e3 : (0 : Int32).toInt = 0 := rfl
          have e5 : (73 : Int32).toInt = 73 := rfl
          have e4 : (((nar .char (73 : Int32))).toInt - ((73 : Int32)).toInt) % 65536 = 0 ∧ 0 ≤ ((nar .char (73 : Int32))).toInt ∧ ((nar .char (73 : Int32))).toInt < 65536 := c_i2c (73 : Int32)
          have e6 : (66 : Int32).toInt = 66 := rfl
          have e7 : (80 : Int32).toInt = 80 := rfl
          have r11 := rng32 ot
          have e10 : ((ot &&& (65535 : Int32))).toInt = (ot).toInt % 65536 := c_mask ot (65535 : Int32) 16 (by decide) (by decide)
          have e9 := c_i2c (ot &&& (65535 : Int32))
          have e8 : (((nar .char (((ot &&& (65535 : Int32))).toUInt32.toUInt16.toUInt32.toInt32))).toInt - ((((ot &&& (65535 : Int32))).toUInt32.toUInt16.toUInt32.toInt32)).toInt) % 65536 = 0 ∧ 0 ≤ ((nar .char (((ot &&& (65535 : Int32))).toUInt32.toUInt16.toUInt32.toInt32))).toInt ∧ ((nar .char (((ot &&& (65535 : Int32))).toUInt32.toUInt16.toUInt32.toInt32))).toInt < 65536 := c_i2c (((ot &&& (65535 : Int32))).toUInt32.toUInt16.toUInt32.toInt32)
          have e12 : (1 : Int32).toInt = 1 := rfl
          have e13 : (2 : Int32).toInt = 2 := rfl
          omega
      · refine G.cast (st' := [(.int (1 : Int32))]) ?_ rfl
        refine g_istore cx d0_142 (Ls' := #[.val (.int sel), .val (.long ix), .second, .val (.int ot), .val (.ref b2), .val (.ref b20), .val (.int (0 : Int32)), .val (.ref b39), .val (.ref b60), .val (.ref b66), .val (.int (1 : Int32)), .val (.int (((ot &&& (65535 : Int32))).toUInt32.toUInt16.toUInt32.toInt32)), .val (.ref b129), .val (.int (1 : Int32))]) rfl ?_
        refine g_iload cx d0_144 rfl ?_
        refine g_if_eq cx d0_146 (fun q => absurd q (fun q => by revert q; decide)) (fun hc146 => ?_)
        refine g_iload cx d0_149 rfl ?_
        refine g_if_lt cx d0_151 (fun q => absurd q (fun q => by revert q; decide)) (fun hc151 => ?_)
        refine g_iload cx d0_154 rfl ?_
        refine g_iconst cx d0_156 (v := (2 : Int32)) rfl ?_
        refine g_icmp_gt cx d0_157 (fun q => absurd q (fun q => by revert q; decide)) (fun hc157 => ?_)
        refine g_iload cx d0_160 rfl ?_
        refine g_iconst cx d0_162 (v := (1 : Int32)) rfl ?_
        refine g_icmp_ne cx d0_163 (fun q => absurd q (fun q => by revert q; decide)) (fun hc163 => ?_)
        refine g_iconst cx d0_166 (v := (1 : Int32)) rfl ?_
        refine g_goto cx d0_167 ?_
        refine g_iload cx d0_171 rfl ?_
        refine g_bipush cx d0_173 (v := (80 : Int32)) rfl ?_
        refine g_icmp_ne cx d0_175 (fun hc175 => ?_) (fun hc175 => ?_)
        · refine g_iconst cx d0_182 (v := (0 : Int32)) rfl ?_
          refine g_icmp_ne cx d0_183 (fun hc183 => ?_) (fun q => absurd q (fun q => by revert q; decide))
          refine g_iconst cx d0_216 (v := (0 : Int32)) rfl ?_
          refine g_istore cx d0_217 (Ls' := #[.val (.int sel), .val (.long ix), .second, .val (.int ot), .val (.ref b2), .val (.ref b20), .val (.int (0 : Int32)), .val (.ref b39), .val (.ref b60), .val (.ref b66), .val (.int (0 : Int32)), .val (.int (((ot &&& (65535 : Int32))).toUInt32.toUInt16.toUInt32.toInt32)), .val (.ref b129), .val (.int (1 : Int32))]) rfl ?_
          refine g_iload cx d0_219 rfl ?_
          refine g_retZ cx d0_221 rfl rfl (by decide) (by decide) ?_
          exfalso
          have i_hs37 : ((sel &&& (3 : Int32))).toInt = ((0 : Int32)).toInt := congrArg Int32.toInt hs37
          have i_hq80 : ¬ ((nar .char (73 : Int32))).toInt = ((66 : Int32)).toInt := fun z => hq80 (Int32.toInt_inj.mp z)
          have i_hq81 : ¬ ((nar .char (73 : Int32))).toInt = ((80 : Int32)).toInt := fun z => hq81 (Int32.toInt_inj.mp z)
          have i_hc104 : ((0 : Int32)).toInt = ((0 : Int32)).toInt := congrArg Int32.toInt hc104
          have i_hq140 : ¬ ((nar .char (((ot &&& (65535 : Int32))).toUInt32.toUInt16.toUInt32.toInt32))).toInt = ((66 : Int32)).toInt := fun z => hq140 (Int32.toInt_inj.mp z)
          have i_hq141 : ((nar .char (((ot &&& (65535 : Int32))).toUInt32.toUInt16.toUInt32.toInt32))).toInt = ((80 : Int32)).toInt := congrArg Int32.toInt hq141
          have i_hc146 : ¬ ((1 : Int32)).toInt = ((0 : Int32)).toInt := fun z => hc146 (Int32.toInt_inj.mp z)
          have i_hc151 : ¬ ((1 : Int32)).toInt < ((0 : Int32)).toInt := fun z => hc151 (Int32.lt_iff_toInt_lt.mpr z)
          have i_hc157 : ¬ ((2 : Int32)).toInt < ((1 : Int32)).toInt := fun z => hc157 (Int32.lt_iff_toInt_lt.mpr z)
          have i_hc163 : ((1 : Int32)).toInt = ((1 : Int32)).toInt := congrArg Int32.toInt hc163
          have i_hc175 : ¬ ((((ot &&& (65535 : Int32))).toUInt32.toUInt16.toUInt32.toInt32)).toInt = ((80 : Int32)).toInt := fun z => hc175 (Int32.toInt_inj.mp z)
          have i_hc183 : ¬ ((1 : Int32)).toInt = ((0 : Int32)).toInt := fun z => hc183 (Int32.toInt_inj.mp z)
          have r2 := rng32 sel
          have e1 : ((sel &&& (3 : Int32))).toInt = (sel).toInt % 4 := c_mask sel (3 : Int32) 2 (by decide) (by decide)
          have e3 : (0 : Int32).toInt = 0 := rfl
          have e5 : (73 : Int32).toInt = 73 := rfl
          have e4 : (((nar .char (73 : Int32))).toInt - ((73 : Int32)).toInt) % 65536 = 0 ∧ 0 ≤ ((nar .char (73 : Int32))).toInt ∧ ((nar .char (73 : Int32))).toInt < 65536 := c_i2c (73 : Int32)
          have e6 : (66 : Int32).toInt = 66 := rfl
          have e7 : (80 : Int32).toInt = 80 := rfl
          have r11 := rng32 ot
          have e10 : ((ot &&& (65535 : Int32))).toInt = (ot).toInt % 65536 := c_mask ot (65535 : Int32) 16 (by decide) (by decide)
          have e9 := c_i2c (ot &&& (65535 : Int32))
          have e8 : (((nar .char (((ot &&& (65535 : Int32))).toUInt32.toUInt16.toUInt32.toInt32))).toInt - ((((ot &&& (65535 : Int32))).toUInt32.toUInt16.toUInt32.toInt32)).toInt) % 65536 = 0 ∧ 0 ≤ ((nar .char (((ot &&& (65535 : Int32))).toUInt32.toUInt16.toUInt32.toInt32))).toInt ∧ ((nar .char (((ot &&& (65535 : Int32))).toUInt32.toUInt16.toUInt32.toInt32))).toInt < 65536 := c_i2c (((ot &&& (65535 : Int32))).toUInt32.toUInt16.toUInt32.toInt32)
          have e12 : (1 : Int32).toInt = 1 := rfl
          have e13 : (2 : Int32).toInt = 2 := rfl
          omega
        · refine g_iconst cx d0_178 (v := (1 : Int32)) rfl ?_
          refine g_goto cx d0_179 ?_
          refine g_icmp_ne cx d0_183 (fun q => absurd q (fun q => by revert q; decide)) (fun hc183 => ?_)
          refine g_iload cx d0_186 rfl ?_
          refine g_iconst cx d0_188 (v := (2 : Int32)) rfl ?_
          refine g_icmp_ne cx d0_189 (fun hc189 => ?_) (fun q => absurd q (fun q => by revert q; decide))
          refine g_iconst cx d0_196 (v := (0 : Int32)) rfl ?_
          refine g_iload cx d0_197 rfl ?_
          refine g_bipush cx d0_199 (v := (66 : Int32)) rfl ?_
          refine g_icmp_ne cx d0_201 (fun hc201 => ?_) (fun hc201 => ?_)
          · refine g_iconst cx d0_208 (v := (0 : Int32)) rfl ?_
            refine g_icmp_ne cx d0_209 (fun q => absurd q (fun q => by revert q; decide)) (fun hc209 => ?_)
            refine g_iconst cx d0_212 (v := (1 : Int32)) rfl ?_
            refine g_goto cx d0_213 ?_
            refine g_istore cx d0_217 (Ls' := #[.val (.int sel), .val (.long ix), .second, .val (.int ot), .val (.ref b2), .val (.ref b20), .val (.int (0 : Int32)), .val (.ref b39), .val (.ref b60), .val (.ref b66), .val (.int (1 : Int32)), .val (.int (((ot &&& (65535 : Int32))).toUInt32.toUInt16.toUInt32.toInt32)), .val (.ref b129), .val (.int (1 : Int32))]) rfl ?_
            refine g_iload cx d0_219 rfl ?_
            refine g_retZ cx d0_221 rfl rfl (by decide) (by decide) ?_
            rfl
          · refine g_iconst cx d0_204 (v := (1 : Int32)) rfl ?_
            refine g_goto cx d0_205 ?_
            refine g_icmp_ne cx d0_209 (fun hc209 => ?_) (fun q => absurd q (fun q => by revert q; decide))
            refine g_iconst cx d0_216 (v := (0 : Int32)) rfl ?_
            refine g_istore cx d0_217 (Ls' := #[.val (.int sel), .val (.long ix), .second, .val (.int ot), .val (.ref b2), .val (.ref b20), .val (.int (0 : Int32)), .val (.ref b39), .val (.ref b60), .val (.ref b66), .val (.int (0 : Int32)), .val (.int (((ot &&& (65535 : Int32))).toUInt32.toUInt16.toUInt32.toInt32)), .val (.ref b129), .val (.int (1 : Int32))]) rfl ?_
            refine g_iload cx d0_219 rfl ?_
            refine g_retZ cx d0_221 rfl rfl (by decide) (by decide) ?_
            exfalso
            have i_hs37 : ((sel &&& (3 : Int32))).toInt = ((0 : Int32)).toInt := congrArg Int32.toInt hs37
            have i_hq80 : ¬ ((nar .char (73 : Int32))).toInt = ((66 : Int32)).toInt := fun z => hq80 (Int32.toInt_inj.mp z)
            have i_hq81 : ¬ ((nar .char (73 : Int32))).toInt = ((80 : Int32)).toInt := fun z => hq81 (Int32.toInt_inj.mp z)
            have i_hc104 : ((0 : Int32)).toInt = ((0 : Int32)).toInt := congrArg Int32.toInt hc104
            have i_hq140 : ¬ ((nar .char (((ot &&& (65535 : Int32))).toUInt32.toUInt16.toUInt32.toInt32))).toInt = ((66 : Int32)).toInt := fun z => hq140 (Int32.toInt_inj.mp z)
            have i_hq141 : ((nar .char (((ot &&& (65535 : Int32))).toUInt32.toUInt16.toUInt32.toInt32))).toInt = ((80 : Int32)).toInt := congrArg Int32.toInt hq141
            have i_hc146 : ¬ ((1 : Int32)).toInt = ((0 : Int32)).toInt := fun z => hc146 (Int32.toInt_inj.mp z)
            have i_hc151 : ¬ ((1 : Int32)).toInt < ((0 : Int32)).toInt := fun z => hc151 (Int32.lt_iff_toInt_lt.mpr z)
            have i_hc157 : ¬ ((2 : Int32)).toInt < ((1 : Int32)).toInt := fun z => hc157 (Int32.lt_iff_toInt_lt.mpr z)
            have i_hc163 : ((1 : Int32)).toInt = ((1 : Int32)).toInt := congrArg Int32.toInt hc163
            have i_hc175 : ((((ot &&& (65535 : Int32))).toUInt32.toUInt16.toUInt32.toInt32)).toInt = ((80 : Int32)).toInt := congrArg Int32.toInt hc175
            have i_hc183 : ((1 : Int32)).toInt = ((1 : Int32)).toInt := congrArg Int32.toInt hc183
            have i_hc189 : ¬ ((1 : Int32)).toInt = ((2 : Int32)).toInt := fun z => hc189 (Int32.toInt_inj.mp z)
            have i_hc201 : ((((ot &&& (65535 : Int32))).toUInt32.toUInt16.toUInt32.toInt32)).toInt = ((66 : Int32)).toInt := congrArg Int32.toInt hc201
            have i_hc209 : ¬ ((0 : Int32)).toInt = ((1 : Int32)).toInt := fun z => hc209 (Int32.toInt_inj.mp z)
            have r2 := rng32 sel
            have e1 : ((sel &&& (3 : Int32))).toInt = (sel).toInt % 4 := c_mask sel (3 : Int32) 2 (by decide) (by decide)
            have e3 : (0 : Int32).toInt = 0 := rfl
            have e5 : (73 : Int32).toInt = 73 := rfl
            have e4 : (((nar .char (73 : Int32))).toInt - ((73 : Int32)).toInt) % 65536 = 0 ∧ 0 ≤ ((nar .char (73 : Int32))).toInt ∧ ((nar .char (73 : Int32))).toInt < 65536 := c_i2c (73 : Int32)
            have e6 : (66 : Int32).toInt = 66 := rfl
            have e7 : (80 : Int32).toInt = 80 := rfl
            have r11 := rng32 ot
            have e10 : ((ot &&& (65535 : Int32))).toInt = (ot).toInt % 65536 := c_mask ot (65535 : Int32) 16 (by decide) (by decide)
            have e9 := c_i2c (ot &&& (65535 : Int32))
            have e8 : (((nar .char (((ot &&& (65535 : Int32))).toUInt32.toUInt16.toUInt32.toInt32))).toInt - ((((ot &&& (65535 : Int32))).toUInt32.toUInt16.toUInt32.toInt32)).toInt) % 65536 = 0 ∧ 0 ≤ ((nar .char (((ot &&& (65535 : Int32))).toUInt32.toUInt16.toUInt32.toInt32))).toInt ∧ ((nar .char (((ot &&& (65535 : Int32))).toUInt32.toUInt16.toUInt32.toInt32))).toInt < 65536 := c_i2c (((ot &&& (65535 : Int32))).toUInt32.toUInt16.toUInt32.toInt32)
            have e12 : (1 : Int32).toInt = 1 := rfl
            have e13 : (2 : Int32).toInt = 2 := rfl
            omega
      · refine G.cast (st' := [(.int (0 : Int32))]) ?_ rfl
        refine g_istore cx d0_142 (Ls' := #[.val (.int sel), .val (.long ix), .second, .val (.int ot), .val (.ref b2), .val (.ref b20), .val (.int (0 : Int32)), .val (.ref b39), .val (.ref b60), .val (.ref b66), .val (.int (1 : Int32)), .val (.int (((ot &&& (65535 : Int32))).toUInt32.toUInt16.toUInt32.toInt32)), .val (.ref b129), .val (.int (0 : Int32))]) rfl ?_
        refine g_iload cx d0_144 rfl ?_
        refine g_if_eq cx d0_146 (fun q => absurd q (fun q => by revert q; decide)) (fun hc146 => ?_)
        refine g_iload cx d0_149 rfl ?_
        refine g_if_lt cx d0_151 (fun q => absurd q (fun q => by revert q; decide)) (fun hc151 => ?_)
        refine g_iload cx d0_154 rfl ?_
        refine g_iconst cx d0_156 (v := (2 : Int32)) rfl ?_
        refine g_icmp_gt cx d0_157 (fun q => absurd q (fun q => by revert q; decide)) (fun hc157 => ?_)
        refine g_iload cx d0_160 rfl ?_
        refine g_iconst cx d0_162 (v := (1 : Int32)) rfl ?_
        refine g_icmp_ne cx d0_163 (fun hc163 => ?_) (fun q => absurd q (fun q => by revert q; decide))
        refine g_iconst cx d0_170 (v := (0 : Int32)) rfl ?_
        refine g_iload cx d0_171 rfl ?_
        refine g_bipush cx d0_173 (v := (80 : Int32)) rfl ?_
        refine g_icmp_ne cx d0_175 (fun hc175 => ?_) (fun hc175 => ?_)
        · refine g_iconst cx d0_182 (v := (0 : Int32)) rfl ?_
          refine g_icmp_ne cx d0_183 (fun q => absurd q (fun q => by revert q; decide)) (fun hc183 => ?_)
          refine g_iload cx d0_186 rfl ?_
          refine g_iconst cx d0_188 (v := (2 : Int32)) rfl ?_
          refine g_icmp_ne cx d0_189 (fun hc189 => ?_) (fun q => absurd q (fun q => by revert q; decide))
          refine g_iconst cx d0_196 (v := (0 : Int32)) rfl ?_
          refine g_iload cx d0_197 rfl ?_
          refine g_bipush cx d0_199 (v := (66 : Int32)) rfl ?_
          refine g_icmp_ne cx d0_201 (fun hc201 => ?_) (fun hc201 => ?_)
          · refine g_iconst cx d0_208 (v := (0 : Int32)) rfl ?_
            refine g_icmp_ne cx d0_209 (fun q => absurd q (fun q => by revert q; decide)) (fun hc209 => ?_)
            refine g_iconst cx d0_212 (v := (1 : Int32)) rfl ?_
            refine g_goto cx d0_213 ?_
            refine g_istore cx d0_217 (Ls' := #[.val (.int sel), .val (.long ix), .second, .val (.int ot), .val (.ref b2), .val (.ref b20), .val (.int (0 : Int32)), .val (.ref b39), .val (.ref b60), .val (.ref b66), .val (.int (1 : Int32)), .val (.int (((ot &&& (65535 : Int32))).toUInt32.toUInt16.toUInt32.toInt32)), .val (.ref b129), .val (.int (0 : Int32))]) rfl ?_
            refine g_iload cx d0_219 rfl ?_
            refine g_retZ cx d0_221 rfl rfl (by decide) (by decide) ?_
            rfl
          · refine g_iconst cx d0_204 (v := (1 : Int32)) rfl ?_
            refine g_goto cx d0_205 ?_
            refine g_icmp_ne cx d0_209 (fun hc209 => ?_) (fun q => absurd q (fun q => by revert q; decide))
            refine g_iconst cx d0_216 (v := (0 : Int32)) rfl ?_
            refine g_istore cx d0_217 (Ls' := #[.val (.int sel), .val (.long ix), .second, .val (.int ot), .val (.ref b2), .val (.ref b20), .val (.int (0 : Int32)), .val (.ref b39), .val (.ref b60), .val (.ref b66), .val (.int (0 : Int32)), .val (.int (((ot &&& (65535 : Int32))).toUInt32.toUInt16.toUInt32.toInt32)), .val (.ref b129), .val (.int (0 : Int32))]) rfl ?_
            refine g_iload cx d0_219 rfl ?_
            refine g_retZ cx d0_221 rfl rfl (by decide) (by decide) ?_
            exfalso
            have i_hs37 : ((sel &&& (3 : Int32))).toInt = ((0 : Int32)).toInt := congrArg Int32.toInt hs37
            have i_hq80 : ¬ ((nar .char (73 : Int32))).toInt = ((66 : Int32)).toInt := fun z => hq80 (Int32.toInt_inj.mp z)
            have i_hq81 : ¬ ((nar .char (73 : Int32))).toInt = ((80 : Int32)).toInt := fun z => hq81 (Int32.toInt_inj.mp z)
            have i_hc104 : ((0 : Int32)).toInt = ((0 : Int32)).toInt := congrArg Int32.toInt hc104
            have i_hq143 : ¬ ((nar .char (((ot &&& (65535 : Int32))).toUInt32.toUInt16.toUInt32.toInt32))).toInt = ((66 : Int32)).toInt := fun z => hq143 (Int32.toInt_inj.mp z)
            have i_hq144 : ¬ ((nar .char (((ot &&& (65535 : Int32))).toUInt32.toUInt16.toUInt32.toInt32))).toInt = ((80 : Int32)).toInt := fun z => hq144 (Int32.toInt_inj.mp z)
            have i_hc146 : ¬ ((1 : Int32)).toInt = ((0 : Int32)).toInt := fun z => hc146 (Int32.toInt_inj.mp z)
            have i_hc151 : ¬ ((0 : Int32)).toInt < ((0 : Int32)).toInt := fun z => hc151 (Int32.lt_iff_toInt_lt.mpr z)
            have i_hc157 : ¬ ((2 : Int32)).toInt < ((0 : Int32)).toInt := fun z => hc157 (Int32.lt_iff_toInt_lt.mpr z)
            have i_hc163 : ¬ ((0 : Int32)).toInt = ((1 : Int32)).toInt := fun z => hc163 (Int32.toInt_inj.mp z)
            have i_hc175 : ¬ ((((ot &&& (65535 : Int32))).toUInt32.toUInt16.toUInt32.toInt32)).toInt = ((80 : Int32)).toInt := fun z => hc175 (Int32.toInt_inj.mp z)
            have i_hc183 : ((0 : Int32)).toInt = ((0 : Int32)).toInt := congrArg Int32.toInt hc183
            have i_hc189 : ¬ ((0 : Int32)).toInt = ((2 : Int32)).toInt := fun z => hc189 (Int32.toInt_inj.mp z)
            have i_hc201 : ((((ot &&& (65535 : Int32))).toUInt32.toUInt16.toUInt32.toInt32)).toInt = ((66 : Int32)).toInt := congrArg Int32.toInt hc201
            have i_hc209 : ¬ ((0 : Int32)).toInt = ((1 : Int32)).toInt := fun z => hc209 (Int32.toInt_inj.mp z)
            have r2 := rng32 sel
            have e1 : ((sel &&& (3 : Int32))).toInt = (sel).toInt % 4 := c_mask sel (3 : Int32) 2 (by decide) (by decide)
            have e3 : (0 : Int32).toInt = 0 := rfl
            have e5 : (73 : Int32).toInt = 73 := rfl
            have e4 : (((nar .char (73 : Int32))).toInt - ((73 : Int32)).toInt) % 65536 = 0 ∧ 0 ≤ ((nar .char (73 : Int32))).toInt ∧ ((nar .char (73 : Int32))).toInt < 65536 := c_i2c (73 : Int32)
            have e6 : (66 : Int32).toInt = 66 := rfl
            have e7 : (80 : Int32).toInt = 80 := rfl
            have r11 := rng32 ot
            have e10 : ((ot &&& (65535 : Int32))).toInt = (ot).toInt % 65536 := c_mask ot (65535 : Int32) 16 (by decide) (by decide)
            have e9 := c_i2c (ot &&& (65535 : Int32))
            have e8 : (((nar .char (((ot &&& (65535 : Int32))).toUInt32.toUInt16.toUInt32.toInt32))).toInt - ((((ot &&& (65535 : Int32))).toUInt32.toUInt16.toUInt32.toInt32)).toInt) % 65536 = 0 ∧ 0 ≤ ((nar .char (((ot &&& (65535 : Int32))).toUInt32.toUInt16.toUInt32.toInt32))).toInt ∧ ((nar .char (((ot &&& (65535 : Int32))).toUInt32.toUInt16.toUInt32.toInt32))).toInt < 65536 := c_i2c (((ot &&& (65535 : Int32))).toUInt32.toUInt16.toUInt32.toInt32)
            have e12 : (1 : Int32).toInt = 1 := rfl
            have e13 : (2 : Int32).toInt = 2 := rfl
            omega
        · refine g_iconst cx d0_178 (v := (1 : Int32)) rfl ?_
          refine g_goto cx d0_179 ?_
          refine g_icmp_ne cx d0_183 (fun hc183 => ?_) (fun q => absurd q (fun q => by revert q; decide))
          refine g_iconst cx d0_216 (v := (0 : Int32)) rfl ?_
          refine g_istore cx d0_217 (Ls' := #[.val (.int sel), .val (.long ix), .second, .val (.int ot), .val (.ref b2), .val (.ref b20), .val (.int (0 : Int32)), .val (.ref b39), .val (.ref b60), .val (.ref b66), .val (.int (0 : Int32)), .val (.int (((ot &&& (65535 : Int32))).toUInt32.toUInt16.toUInt32.toInt32)), .val (.ref b129), .val (.int (0 : Int32))]) rfl ?_
          refine g_iload cx d0_219 rfl ?_
          refine g_retZ cx d0_221 rfl rfl (by decide) (by decide) ?_
          exfalso
          have i_hs37 : ((sel &&& (3 : Int32))).toInt = ((0 : Int32)).toInt := congrArg Int32.toInt hs37
          have i_hq80 : ¬ ((nar .char (73 : Int32))).toInt = ((66 : Int32)).toInt := fun z => hq80 (Int32.toInt_inj.mp z)
          have i_hq81 : ¬ ((nar .char (73 : Int32))).toInt = ((80 : Int32)).toInt := fun z => hq81 (Int32.toInt_inj.mp z)
          have i_hc104 : ((0 : Int32)).toInt = ((0 : Int32)).toInt := congrArg Int32.toInt hc104
          have i_hq143 : ¬ ((nar .char (((ot &&& (65535 : Int32))).toUInt32.toUInt16.toUInt32.toInt32))).toInt = ((66 : Int32)).toInt := fun z => hq143 (Int32.toInt_inj.mp z)
          have i_hq144 : ¬ ((nar .char (((ot &&& (65535 : Int32))).toUInt32.toUInt16.toUInt32.toInt32))).toInt = ((80 : Int32)).toInt := fun z => hq144 (Int32.toInt_inj.mp z)
          have i_hc146 : ¬ ((1 : Int32)).toInt = ((0 : Int32)).toInt := fun z => hc146 (Int32.toInt_inj.mp z)
          have i_hc151 : ¬ ((0 : Int32)).toInt < ((0 : Int32)).toInt := fun z => hc151 (Int32.lt_iff_toInt_lt.mpr z)
          have i_hc157 : ¬ ((2 : Int32)).toInt < ((0 : Int32)).toInt := fun z => hc157 (Int32.lt_iff_toInt_lt.mpr z)
          have i_hc163 : ¬ ((0 : Int32)).toInt = ((1 : Int32)).toInt := fun z => hc163 (Int32.toInt_inj.mp z)
          have i_hc175 : ((((ot &&& (65535 : Int32))).toUInt32.toUInt16.toUInt32.toInt32)).toInt = ((80 : Int32)).toInt := congrArg Int32.toInt hc175
          have i_hc183 : ¬ ((0 : Int32)).toInt = ((1 : Int32)).toInt := fun z => hc183 (Int32.toInt_inj.mp z)
          have r2 := rng32 sel
          have e1 : ((sel &&& (3 : Int32))).toInt = (sel).toInt % 4 := c_mask sel (3 : Int32) 2 (by decide) (by decide)
          have e3 : (0 : Int32).toInt = 0 := rfl
          have e5 : (73 : Int32).toInt = 73 := rfl
          have e4 : (((nar .char (73 : Int32))).toInt - ((73 : Int32)).toInt) % 65536 = 0 ∧ 0 ≤ ((nar .char (73 : Int32))).toInt ∧ ((nar .char (73 : Int32))).toInt < 65536 := c_i2c (73 : Int32)
          have e6 : (66 : Int32).toInt = 66 := rfl
          have e7 : (80 : Int32).toInt = 80 := rfl
          have r11 := rng32 ot
          have e10 : ((ot &&& (65535 : Int32))).toInt = (ot).toInt % 65536 := c_mask ot (65535 : Int32) 16 (by decide) (by decide)
          have e9 := c_i2c (ot &&& (65535 : Int32))
          have e8 : (((nar .char (((ot &&& (65535 : Int32))).toUInt32.toUInt16.toUInt32.toInt32))).toInt - ((((ot &&& (65535 : Int32))).toUInt32.toUInt16.toUInt32.toInt32)).toInt) % 65536 = 0 ∧ 0 ≤ ((nar .char (((ot &&& (65535 : Int32))).toUInt32.toUInt16.toUInt32.toInt32))).toInt ∧ ((nar .char (((ot &&& (65535 : Int32))).toUInt32.toUInt16.toUInt32.toInt32))).toInt < 65536 := c_i2c (((ot &&& (65535 : Int32))).toUInt32.toUInt16.toUInt32.toInt32)
          have e12 : (1 : Int32).toInt = 1 := rfl
          have e13 : (2 : Int32).toInt = 2 := rfl
          omega
  · rw [hs37]
    refine g_istore cx d0_49 (Ls' := #[.val (.int sel), .val (.long ix), .second, .val (.int ot), .val (.ref b2), .val (.ref b20), .val (.int (1 : Int32)), .unset, .unset, .unset, .unset, .unset, .unset, .unset]) rfl ?_
    refine g_new cx d0_51 (hw _ (List.mem_of_getElem? (i := 2) rfl)) (hw _ (List.mem_of_getElem? (i := 3) rfl)) (hw _ (List.mem_of_getElem? (i := 4) rfl)) (k' := 3) (n' := 11) rfl rfl (by decide) (by decide) (fun h149 b150 gb151 E152 X153 D154 => ?_)
    have ne_b2_b150 : b2 ≠ b150 := Nat.ne_of_lt (by rw [gb151]; exact A_b2.lt)
    have ne_b20_b150 : b20 ≠ b150 := Nat.ne_of_lt (by rw [gb151]; exact A_b20.lt)
    have g_b150 : Z.heap.size ≤ b150 := by rw [gb151]; exact OL.2.1
    have A_b2 := A_b2.ext E152
    have A_b20 := A_b20.ext E152
    have OL := OL.ext E152
    have A_dc := AD.ext OL.2
    have O_b150 := ObA.new hw X153 D154
    refine g_dup cx d0_54 rfl ?_
    refine g_special cx (y := (⟨"java/util/ArrayList", "<init>", "()V"⟩ : MethodName)) (a := b150) d0_55 rfl rfl (hw _ (List.mem_of_getElem? (i := 5) rfl)) (hw _ (List.mem_of_getElem? (i := 6) rfl)) (hw _ (List.mem_of_getElem? (i := 4) rfl)) (hw _ (List.mem_of_getElem? (i := 7) rfl)) (by decide) (bytes := jdk_38_method_2_code) (maxL' := 1) (M := (ra2 l Z a0 hw dc lc cdc clc SDC AD SLC BX b150 _ O_b150 g_b150 OL)) rfl (lenOf pd_0 rfl) (by decide) (W := 1) (Nat.le_of_eq rfl) (by decide) (k' := 3) (n' := 11) rfl rfl (by decide) (by decide) (argsL := []) (rest := [(.ref b150)]) rfl (fun v157 h156 q158 => ?_)
    obtain ⟨rfl, K155, O_b150⟩ := q158
    have A_b2 := A_b2.keep K155 (ninS ne_b2_b150 nin0)
    have A_b20 := A_b20.keep K155 (ninS ne_b20_b150 nin0)
    have OL := OL.keep K155 (allS g_b150 all0)
    have A_dc := AD.ext OL.2
    refine G.cast (st' := [(.ref b150)]) ?_ rfl
    refine g_astore cx d0_58 rfl (Ls' := #[.val (.int sel), .val (.long ix), .second, .val (.int ot), .val (.ref b2), .val (.ref b20), .val (.int (1 : Int32)), .val (.ref b150), .unset, .unset, .unset, .unset, .unset, .unset]) rfl ?_
    refine g_aload cx d0_60 rfl rfl ?_
    refine g_lloadN cx d0_62 rfl ?_
    refine g_static cx (y := (⟨"java/lang/Long", "valueOf", "(J)Ljava/lang/Long;"⟩ : MethodName)) d0_63 (hw _ (List.mem_of_getElem? (i := 28) rfl)) (hw _ (List.mem_of_getElem? (i := 29) rfl)) (hw _ (List.mem_of_getElem? (i := 30) rfl)) (hw _ (List.mem_of_getElem? (i := 31) rfl)) (by decide) (bytes := jdk_35_method_24_code) (maxL' := 3) (M := (rmV l Z a0 hw _ _ OL dc lc cdc clc SDC AD SLC BX)) rfl (lenOf pd_2 rfl) (by decide) (W := 1) (Nat.le_of_eq rfl) (by decide) (k' := 4) (n' := 12) rfl rfl (by decide) (by decide) (argsL := [(.long ix)]) (rest := [(.ref b150)]) rfl (fun v162 h161 q163 => ?_)
    obtain ⟨b159, rfl, K160, O_b159⟩ := q163
    have O_b150 := O_b150.keep K160 nin0
    have A_b2 := A_b2.keep K160 nin0
    have A_b20 := A_b20.keep K160 nin0
    have OL := OL.keep K160 all0
    have A_dc := AD.ext OL.2
    refine G.cast (st' := [(.ref b159), (.ref b150)]) ?_ rfl
    have lt_b150 := O_b150.lt
    refine g_virtual cx (y := (⟨"java/util/ArrayList", "add", "(Ljava/lang/Object;)Z"⟩ : MethodName)) (z := (⟨"java/util/ArrayList", "add", "(Ljava/lang/Object;)Z"⟩ : MethodName)) (a := b150) d0_66 (hw _ (List.mem_of_getElem? (i := 36) rfl)) (hw _ (List.mem_of_getElem? (i := 37) rfl)) (hw _ (List.mem_of_getElem? (i := 4) rfl)) (hw _ (List.mem_of_getElem? (i := 40) rfl)) (hw _ (List.mem_of_getElem? (i := 39) rfl)) (hw _ (List.mem_of_getElem? (i := 38) rfl)) rfl (by decide) O_b150.1 (bytes := jdk_38_method_25_code) (maxL' := 2) (M := (ra4 l Z a0 hw dc lc cdc clc SDC AD SLC BX b150 b159 _ O_b150 O_b159 g_b150 OL)) rfl (lenOf pd_7 rfl) (by decide) (W := 0) (Nat.le_of_eq rfl) (by decide) (k' := 5) (n' := 22) rfl rfl (by decide) (by decide) (argsL := [(.ref b159)]) (rest := []) rfl (fun v168 h167 q169 => ?_)
    obtain ⟨b164, cA165, rfl, K166, sq_b164, A_b164, OV_b164, O_b150⟩ := q169
    have ne_b150_b164 : b150 ≠ b164 := Nat.ne_of_lt (Nat.lt_of_lt_of_le lt_b150 sq_b164)
    have ne_b159_b164 : b159 ≠ b164 := Nat.ne_of_lt (Nat.lt_of_lt_of_le O_b159.lt sq_b164)
    have ne_b2_b164 : b2 ≠ b164 := Nat.ne_of_lt (Nat.lt_of_lt_of_le A_b2.lt sq_b164)
    have ne_b20_b164 : b20 ≠ b164 := Nat.ne_of_lt (Nat.lt_of_lt_of_le A_b20.lt sq_b164)
    have g_b164 : Z.heap.size ≤ b164 := Nat.le_trans OL.2.1 sq_b164
    have O_b159 := O_b159.keepX K166
    have A_b2 := A_b2.keep K166 (ninS ne_b2_b150 nin0)
    have A_b20 := A_b20.keep K166 (ninS ne_b20_b150 nin0)
    have OL := OL.keep K166 (allS g_b150 all0)
    have A_dc := AD.ext OL.2
    refine G.cast (st' := [(.int (1 : Int32))]) ?_ rfl
    refine g_pop cx d0_69 rfl ?_
    refine g_iconst cx d0_70 (v := (2 : Int32)) rfl ?_
    refine g_newarray cx (ad := "[B") (by decide) d0_71 (hw _ (List.mem_of_getElem? (i := 67) rfl)) (by decide) (cap := 2) (by decide) (by decide) (k' := 6) (n' := 24) rfl rfl (by decide) (by decide) (fun h170 b171 cA172 gb173 E174 X175 => ?_)
    have ne_b150_b171 : b150 ≠ b171 := Nat.ne_of_lt (by rw [gb173]; exact O_b150.lt)
    have ne_b159_b171 : b159 ≠ b171 := Nat.ne_of_lt (by rw [gb173]; exact O_b159.lt)
    have ne_b2_b171 : b2 ≠ b171 := Nat.ne_of_lt (by rw [gb173]; exact A_b2.lt)
    have ne_b20_b171 : b20 ≠ b171 := Nat.ne_of_lt (by rw [gb173]; exact A_b20.lt)
    have ne_b164_b171 : b164 ≠ b171 := Nat.ne_of_lt (by rw [gb173]; exact A_b164.lt)
    have g_b171 : Z.heap.size ≤ b171 := by rw [gb173]; exact OL.2.1
    have O_b150 := O_b150.ext E174
    have O_b159 := O_b159.ext E174
    have A_b2 := A_b2.ext E174
    have A_b20 := A_b20.ext E174
    have A_b164 := A_b164.ext E174
    have OL := OL.ext E174
    have A_dc := AD.ext OL.2
    have A_b171 : Arx Z h170 b171 cA172 .byte (2 : Int32) [(.int (0 : Int32)), (.int (0 : Int32))] (.int (0 : Int32)) "[B" := X175.pad (pad_rep [] (.int (0 : Int32)) 2)
    refine g_astore cx d0_73 rfl (Ls' := #[.val (.int sel), .val (.long ix), .second, .val (.int ot), .val (.ref b2), .val (.ref b20), .val (.int (1 : Int32)), .val (.ref b150), .val (.ref b171), .unset, .unset, .unset, .unset, .unset]) rfl ?_
    refine g_new cx d0_75 (hw _ (List.mem_of_getElem? (i := 68) rfl)) (hw _ (List.mem_of_getElem? (i := 69) rfl)) (hw _ (List.mem_of_getElem? (i := 70) rfl)) (k' := 7) (n' := 28) rfl rfl (by decide) (by decide) (fun h176 b177 gb178 E179 X180 D181 => ?_)
    have ne_b150_b177 : b150 ≠ b177 := Nat.ne_of_lt (by rw [gb178]; exact O_b150.lt)
    have ne_b159_b177 : b159 ≠ b177 := Nat.ne_of_lt (by rw [gb178]; exact O_b159.lt)
    have ne_b2_b177 : b2 ≠ b177 := Nat.ne_of_lt (by rw [gb178]; exact A_b2.lt)
    have ne_b20_b177 : b20 ≠ b177 := Nat.ne_of_lt (by rw [gb178]; exact A_b20.lt)
    have ne_b164_b177 : b164 ≠ b177 := Nat.ne_of_lt (by rw [gb178]; exact A_b164.lt)
    have ne_b171_b177 : b171 ≠ b177 := Nat.ne_of_lt (by rw [gb178]; exact A_b171.lt)
    have g_b177 : Z.heap.size ≤ b177 := by rw [gb178]; exact OL.2.1
    have O_b150 := O_b150.ext E179
    have O_b159 := O_b159.ext E179
    have A_b2 := A_b2.ext E179
    have A_b20 := A_b20.ext E179
    have A_b164 := A_b164.ext E179
    have A_b171 := A_b171.ext E179
    have OL := OL.ext E179
    have A_dc := AD.ext OL.2
    have O_b177 := ObP.new hw X180 D181
    refine g_dup cx d0_78 rfl ?_
    refine g_lloadN cx d0_79 rfl ?_
    refine g_aload cx d0_80 rfl rfl ?_
    refine g_iload cx d0_82 rfl ?_
    refine g_caload cx d0_84 A_b2.1 ⟨by decide, by decide⟩ (v := (.int (80 : Int32))) rfl ?_
    refine g_aload cx d0_85 rfl rfl ?_
    refine g_aload cx d0_87 rfl rfl ?_
    refine g_special cx (y := (⟨"com/example/thalweg/thalweg/cli/Mpeg1Reader$Picture", "<init>", "(JCLjava/util/List;[B)V"⟩ : MethodName)) (a := b177) d0_89 rfl rfl (hw _ (List.mem_of_getElem? (i := 71) rfl)) (hw _ (List.mem_of_getElem? (i := 72) rfl)) (hw _ (List.mem_of_getElem? (i := 70) rfl)) (hw _ (List.mem_of_getElem? (i := 73) rfl)) (by decide) (bytes := prog_8_method_1_code) (maxL' := 6) (M := (ra9 l Z a0 hw dc lc cdc clc SDC AD SLC BX b177 b150 b164 b159 b171 ix (80 : Int32) cA165 cA172 _ O_b177 O_b150 O_b159 A_b164 A_b171 OV_b164 (Ne.symm ne_b150_b177) (Ne.symm ne_b164_b177) ne_b150_b164 (Ne.symm ne_b171_b177) ne_b150_b171 ne_b164_b171 g_b177 g_b150 g_b164 g_b171 OL)) rfl (lenOf pd_8 rfl) (by decide) (W := 1) (Nat.le_of_eq rfl) (by decide) (k' := 7) (n' := 28) rfl rfl (by decide) (by decide) (argsL := [(.long ix), (.int (80 : Int32)), (.ref b150), (.ref b171)]) (rest := [(.ref b177)]) rfl (fun v184 h183 q185 => ?_)
    obtain ⟨rfl, K182, O_b177⟩ := q185
    have O_b150 := O_b150.keep K182 (ninS ne_b150_b177 nin0)
    have O_b159 := O_b159.keepX K182
    have A_b2 := A_b2.keep K182 (ninS ne_b2_b177 nin0)
    have A_b20 := A_b20.keep K182 (ninS ne_b20_b177 nin0)
    have A_b164 := A_b164.keep K182 (ninS ne_b164_b177 nin0)
    have A_b171 := A_b171.keep K182 (ninS ne_b171_b177 nin0)
    have OL := OL.keep K182 (allS g_b177 all0)
    have A_dc := AD.ext OL.2
    refine G.cast (st' := [(.ref b177)]) ?_ rfl
    refine g_astore cx d0_92 rfl (Ls' := #[.val (.int sel), .val (.long ix), .second, .val (.int ot), .val (.ref b2), .val (.ref b20), .val (.int (1 : Int32)), .val (.ref b150), .val (.ref b171), .val (.ref b177), .unset, .unset, .unset, .unset]) rfl ?_
    refine g_aload cx d0_94 rfl rfl ?_
    refine g_virtual cx (y := (⟨"com/example/thalweg/thalweg/cli/Mpeg1Reader$Picture", "rank", "()I"⟩ : MethodName)) (z := (⟨"com/example/thalweg/thalweg/cli/Mpeg1Reader$Picture", "rank", "()I"⟩ : MethodName)) (a := b177) d0_96 (hw _ (List.mem_of_getElem? (i := 88) rfl)) (hw _ (List.mem_of_getElem? (i := 89) rfl)) (hw _ (List.mem_of_getElem? (i := 70) rfl)) (hw _ (List.mem_of_getElem? (i := 92) rfl)) (hw _ (List.mem_of_getElem? (i := 91) rfl)) (hw _ (List.mem_of_getElem? (i := 90) rfl)) rfl (by decide) O_b177.1 (bytes := prog_8_method_2_code) (maxL' := 1) (M := (ra10 l Z a0 hw dc lc cdc clc SDC AD SLC BX b177 b150 b164 b159 b171 ix (nar .char (80 : Int32)) cA165 cA172 _ O_b177 O_b150 O_b159 A_b164 A_b171 OV_b164 (Ne.symm ne_b150_b177) (Ne.symm ne_b164_b177) ne_b150_b164 (Ne.symm ne_b171_b177) ne_b150_b171 ne_b164_b171 g_b177 g_b150 g_b164 g_b171 OL)) rfl (lenOf pd_9 rfl) (by decide) (W := 0) (Nat.le_of_eq rfl) (by decide) (k' := 7) (n' := 28) rfl rfl (by decide) (by decide) (argsL := []) (rest := []) rfl (fun v195 h194 q196 => ?_)
    rcases q196 with ⟨hq186, rfl, rfl⟩ | ⟨hq188, hq189, rfl, rfl⟩ | ⟨hq191, hq192, rfl, rfl⟩
    · refine G.cast (st' := [(.int (2 : Int32))]) ?_ rfl
      refine g_aload cx d0_99 rfl rfl ?_
      refine g_iload cx d0_101 rfl ?_
      refine g_iaload cx d0_103 A_b20.1 ⟨by decide, by decide⟩ (v := (.int (1 : Int32))) rfl ?_
      refine g_icmp_ne cx d0_104 (fun hc104 => ?_) (fun q => absurd q (fun q => by revert q; decide))
      refine g_iconst cx d0_111 (v := (0 : Int32)) rfl ?_
      refine g_istore cx d0_112 (Ls' := #[.val (.int sel), .val (.long ix), .second, .val (.int ot), .val (.ref b2), .val (.ref b20), .val (.int (1 : Int32)), .val (.ref b150), .val (.ref b171), .val (.ref b177), .val (.int (0 : Int32)), .unset, .unset, .unset]) rfl ?_
      refine g_iloadN cx d0_114 rfl ?_
      refine g_ldcI cx d0_115 (hw _ (List.mem_of_getElem? (i := 93) rfl)) ?_
      refine g_iand cx d0_117 ?_
      refine g_i2c cx d0_118 ?_
      refine g_istore cx d0_119 (Ls' := #[.val (.int sel), .val (.long ix), .second, .val (.int ot), .val (.ref b2), .val (.ref b20), .val (.int (1 : Int32)), .val (.ref b150), .val (.ref b171), .val (.ref b177), .val (.int (0 : Int32)), .val (.int (((ot &&& (65535 : Int32))).toUInt32.toUInt16.toUInt32.toInt32)), .unset, .unset]) rfl ?_
      refine g_new cx d0_121 (hw _ (List.mem_of_getElem? (i := 68) rfl)) (hw _ (List.mem_of_getElem? (i := 69) rfl)) (hw _ (List.mem_of_getElem? (i := 70) rfl)) (k' := 8) (n' := 32) rfl rfl (by decide) (by decide) (fun h197 b198 gb199 E200 X201 D202 => ?_)
      have ne_b150_b198 : b150 ≠ b198 := Nat.ne_of_lt (by rw [gb199]; exact O_b150.lt)
      have ne_b159_b198 : b159 ≠ b198 := Nat.ne_of_lt (by rw [gb199]; exact O_b159.lt)
      have ne_b177_b198 : b177 ≠ b198 := Nat.ne_of_lt (by rw [gb199]; exact O_b177.lt)
      have ne_b2_b198 : b2 ≠ b198 := Nat.ne_of_lt (by rw [gb199]; exact A_b2.lt)
      have ne_b20_b198 : b20 ≠ b198 := Nat.ne_of_lt (by rw [gb199]; exact A_b20.lt)
      have ne_b164_b198 : b164 ≠ b198 := Nat.ne_of_lt (by rw [gb199]; exact A_b164.lt)
      have ne_b171_b198 : b171 ≠ b198 := Nat.ne_of_lt (by rw [gb199]; exact A_b171.lt)
      have g_b198 : Z.heap.size ≤ b198 := by rw [gb199]; exact OL.2.1
      have O_b150 := O_b150.ext E200
      have O_b159 := O_b159.ext E200
      have O_b177 := O_b177.ext E200
      have A_b2 := A_b2.ext E200
      have A_b20 := A_b20.ext E200
      have A_b164 := A_b164.ext E200
      have A_b171 := A_b171.ext E200
      have OL := OL.ext E200
      have A_dc := AD.ext OL.2
      have O_b198 := ObP.new hw X201 D202
      refine g_dup cx d0_124 rfl ?_
      refine g_lloadN cx d0_125 rfl ?_
      refine g_iload cx d0_126 rfl ?_
      refine g_aload cx d0_128 rfl rfl ?_
      refine g_aload cx d0_130 rfl rfl ?_
      refine g_special cx (y := (⟨"com/example/thalweg/thalweg/cli/Mpeg1Reader$Picture", "<init>", "(JCLjava/util/List;[B)V"⟩ : MethodName)) (a := b198) d0_132 rfl rfl (hw _ (List.mem_of_getElem? (i := 71) rfl)) (hw _ (List.mem_of_getElem? (i := 72) rfl)) (hw _ (List.mem_of_getElem? (i := 70) rfl)) (hw _ (List.mem_of_getElem? (i := 73) rfl)) (by decide) (bytes := prog_8_method_1_code) (maxL' := 6) (M := (ra11 l Z a0 hw dc lc cdc clc SDC AD SLC BX b198 b150 b164 b159 b171 ix (((ot &&& (65535 : Int32))).toUInt32.toUInt16.toUInt32.toInt32) cA165 cA172 _ O_b198 O_b150 O_b159 A_b164 A_b171 OV_b164 (Ne.symm ne_b150_b198) (Ne.symm ne_b164_b198) ne_b150_b164 (Ne.symm ne_b171_b198) ne_b150_b171 ne_b164_b171 g_b198 g_b150 g_b164 g_b171 OL)) rfl (lenOf pd_8 rfl) (by decide) (W := 1) (Nat.le_of_eq rfl) (by decide) (k' := 8) (n' := 32) rfl rfl (by decide) (by decide) (argsL := [(.long ix), (.int (((ot &&& (65535 : Int32))).toUInt32.toUInt16.toUInt32.toInt32)), (.ref b150), (.ref b171)]) (rest := [(.ref b198)]) rfl (fun v205 h204 q206 => ?_)
      obtain ⟨rfl, K203, O_b198⟩ := q206
      have O_b150 := O_b150.keep K203 (ninS ne_b150_b198 nin0)
      have O_b159 := O_b159.keepX K203
      have O_b177 := O_b177.keep K203 (ninS ne_b177_b198 nin0)
      have A_b2 := A_b2.keep K203 (ninS ne_b2_b198 nin0)
      have A_b20 := A_b20.keep K203 (ninS ne_b20_b198 nin0)
      have A_b164 := A_b164.keep K203 (ninS ne_b164_b198 nin0)
      have A_b171 := A_b171.keep K203 (ninS ne_b171_b198 nin0)
      have OL := OL.keep K203 (allS g_b198 all0)
      have A_dc := AD.ext OL.2
      refine G.cast (st' := [(.ref b198)]) ?_ rfl
      refine g_astore cx d0_135 rfl (Ls' := #[.val (.int sel), .val (.long ix), .second, .val (.int ot), .val (.ref b2), .val (.ref b20), .val (.int (1 : Int32)), .val (.ref b150), .val (.ref b171), .val (.ref b177), .val (.int (0 : Int32)), .val (.int (((ot &&& (65535 : Int32))).toUInt32.toUInt16.toUInt32.toInt32)), .val (.ref b198), .unset]) rfl ?_
      refine g_aload cx d0_137 rfl rfl ?_
      refine g_virtual cx (y := (⟨"com/example/thalweg/thalweg/cli/Mpeg1Reader$Picture", "rank", "()I"⟩ : MethodName)) (z := (⟨"com/example/thalweg/thalweg/cli/Mpeg1Reader$Picture", "rank", "()I"⟩ : MethodName)) (a := b198) d0_139 (hw _ (List.mem_of_getElem? (i := 88) rfl)) (hw _ (List.mem_of_getElem? (i := 89) rfl)) (hw _ (List.mem_of_getElem? (i := 70) rfl)) (hw _ (List.mem_of_getElem? (i := 92) rfl)) (hw _ (List.mem_of_getElem? (i := 91) rfl)) (hw _ (List.mem_of_getElem? (i := 90) rfl)) rfl (by decide) O_b198.1 (bytes := prog_8_method_2_code) (maxL' := 1) (M := (ra10 l Z a0 hw dc lc cdc clc SDC AD SLC BX b198 b150 b164 b159 b171 ix (nar .char (((ot &&& (65535 : Int32))).toUInt32.toUInt16.toUInt32.toInt32)) cA165 cA172 _ O_b198 O_b150 O_b159 A_b164 A_b171 OV_b164 (Ne.symm ne_b150_b198) (Ne.symm ne_b164_b198) ne_b150_b164 (Ne.symm ne_b171_b198) ne_b150_b171 ne_b164_b171 g_b198 g_b150 g_b164 g_b171 OL)) rfl (lenOf pd_9 rfl) (by decide) (W := 0) (Nat.le_of_eq rfl) (by decide) (k' := 8) (n' := 32) rfl rfl (by decide) (by decide) (argsL := []) (rest := []) rfl (fun v216 h215 q217 => ?_)
      rcases q217 with ⟨hq207, rfl, rfl⟩ | ⟨hq209, hq210, rfl, rfl⟩ | ⟨hq212, hq213, rfl, rfl⟩
      · refine G.cast (st' := [(.int (2 : Int32))]) ?_ rfl
        refine g_istore cx d0_142 (Ls' := #[.val (.int sel), .val (.long ix), .second, .val (.int ot), .val (.ref b2), .val (.ref b20), .val (.int (1 : Int32)), .val (.ref b150), .val (.ref b171), .val (.ref b177), .val (.int (0 : Int32)), .val (.int (((ot &&& (65535 : Int32))).toUInt32.toUInt16.toUInt32.toInt32)), .val (.ref b198), .val (.int (2 : Int32))]) rfl ?_
        refine g_iload cx d0_144 rfl ?_
        refine g_if_eq cx d0_146 (fun hc146 => ?_) (fun q => absurd q (fun q => by revert q; decide))
        refine g_iconst cx d0_216 (v := (0 : Int32)) rfl ?_
        refine g_istore cx d0_217 (Ls' := #[.val (.int sel), .val (.long ix), .second, .val (.int ot), .val (.ref b2), .val (.ref b20), .val (.int (1 : Int32)), .val (.ref b150), .val (.ref b171), .val (.ref b177), .val (.int (0 : Int32)), .val (.int (((ot &&& (65535 : Int32))).toUInt32.toUInt16.toUInt32.toInt32)), .val (.ref b198), .val (.int (2 : Int32))]) rfl ?_
        refine g_iload cx d0_219 rfl ?_
        refine g_retZ cx d0_221 rfl rfl (by decide) (by decide) ?_
        exfalso
        have i_hs37 : ((sel &&& (3 : Int32))).toInt = ((1 : Int32)).toInt := congrArg Int32.toInt hs37
        have i_hq186 : ((nar .char (80 : Int32))).toInt = ((66 : Int32)).toInt := congrArg Int32.toInt hq186
        have i_hc104 : ¬ ((2 : Int32)).toInt = ((1 : Int32)).toInt := fun z => hc104 (Int32.toInt_inj.mp z)
        have i_hq207 : ((nar .char (((ot &&& (65535 : Int32))).toUInt32.toUInt16.toUInt32.toInt32))).toInt = ((66 : Int32)).toInt := congrArg Int32.toInt hq207
        have i_hc146 : ((0 : Int32)).toInt = ((0 : Int32)).toInt := congrArg Int32.toInt hc146
        have r2 := rng32 sel
        have e1 : ((sel &&& (3 : Int32))).toInt = (sel).toInt % 4 := c_mask sel (3 : Int32) 2 (by decide) (by decide)
        have e3 : (1 : Int32).toInt = 1 := rfl
        have e5 : (80 : Int32).toInt = 80 := rfl
        have e4 : (((nar .char (80 : Int32))).toInt - ((80 : Int32)).toInt) % 65536 = 0 ∧ 0 ≤ ((nar .char (80 : Int32))).toInt ∧ ((nar .char (80 : Int32))).toInt < 65536 := c_i2c (80 : Int32)
        have e6 : (66 : Int32).toInt = 66 := rfl
        have e7 : (2 : Int32).toInt = 2 := rfl
        have r11 := rng32 ot
        have e10 : ((ot &&& (65535 : Int32))).toInt = (ot).toInt % 65536 := c_mask ot (65535 : Int32) 16 (by decide) (by decide)
        have e9 := c_i2c (ot &&& (65535 : Int32))
        have e8 : (((nar .char (((ot &&& (65535 : Int32))).toUInt32.toUInt16.toUInt32.toInt32))).toInt - ((((ot &&& (65535 : Int32))).toUInt32.toUInt16.toUInt32.toInt32)).toInt) % 65536 = 0 ∧ 0 ≤ ((nar .char (((ot &&& (65535 : Int32))).toUInt32.toUInt16.toUInt32.toInt32))).toInt ∧ ((nar .char (((ot &&& (65535 : Int32))).toUInt32.toUInt16.toUInt32.toInt32))).toInt < 65536 := c_i2c (((ot &&& (65535 : Int32))).toUInt32.toUInt16.toUInt32.toInt32)
        have e12 : (0 : Int32).toInt = 0 := rfl
        omega
      · refine G.cast (st' := [(.int (1 : Int32))]) ?_ rfl
        refine g_istore cx d0_142 (Ls' := #[.val (.int sel), .val (.long ix), .second, .val (.int ot), .val (.ref b2), .val (.ref b20), .val (.int (1 : Int32)), .val (.ref b150), .val (.ref b171), .val (.ref b177), .val (.int (0 : Int32)), .val (.int (((ot &&& (65535 : Int32))).toUInt32.toUInt16.toUInt32.toInt32)), .val (.ref b198), .val (.int (1 : Int32))]) rfl ?_
        refine g_iload cx d0_144 rfl ?_
        refine g_if_eq cx d0_146 (fun hc146 => ?_) (fun q => absurd q (fun q => by revert q; decide))
        refine g_iconst cx d0_216 (v := (0 : Int32)) rfl ?_
        refine g_istore cx d0_217 (Ls' := #[.val (.int sel), .val (.long ix), .second, .val (.int ot), .val (.ref b2), .val (.ref b20), .val (.int (1 : Int32)), .val (.ref b150), .val (.ref b171), .val (.ref b177), .val (.int (0 : Int32)), .val (.int (((ot &&& (65535 : Int32))).toUInt32.toUInt16.toUInt32.toInt32)), .val (.ref b198), .val (.int (1 : Int32))]) rfl ?_
        refine g_iload cx d0_219 rfl ?_
        refine g_retZ cx d0_221 rfl rfl (by decide) (by decide) ?_
        exfalso
        have i_hs37 : ((sel &&& (3 : Int32))).toInt = ((1 : Int32)).toInt := congrArg Int32.toInt hs37
        have i_hq186 : ((nar .char (80 : Int32))).toInt = ((66 : Int32)).toInt := congrArg Int32.toInt hq186
        have i_hc104 : ¬ ((2 : Int32)).toInt = ((1 : Int32)).toInt := fun z => hc104 (Int32.toInt_inj.mp z)
        have i_hq209 : ¬ ((nar .char (((ot &&& (65535 : Int32))).toUInt32.toUInt16.toUInt32.toInt32))).toInt = ((66 : Int32)).toInt := fun z => hq209 (Int32.toInt_inj.mp z)
        have i_hq210 : ((nar .char (((ot &&& (65535 : Int32))).toUInt32.toUInt16.toUInt32.toInt32))).toInt = ((80 : Int32)).toInt := congrArg Int32.toInt hq210
        have i_hc146 : ((0 : Int32)).toInt = ((0 : Int32)).toInt := congrArg Int32.toInt hc146
        have r2 := rng32 sel
        have e1 : ((sel &&& (3 : Int32))).toInt = (sel).toInt % 4 := c_mask sel (3 : Int32) 2 (by decide) (by decide)
        have e3 : (1 : Int32).toInt = 1 := rfl
        have e5 : (80 : Int32).toInt = 80 := rfl
        have e4 : (((nar .char (80 : Int32))).toInt - ((80 : Int32)).toInt) % 65536 = 0 ∧ 0 ≤ ((nar .char (80 : Int32))).toInt ∧ ((nar .char (80 : Int32))).toInt < 65536 := c_i2c (80 : Int32)
        have e6 : (66 : Int32).toInt = 66 := rfl
        have e7 : (2 : Int32).toInt = 2 := rfl
        have r11 := rng32 ot
        have e10 : ((ot &&& (65535 : Int32))).toInt = (ot).toInt % 65536 := c_mask ot (65535 : Int32) 16 (by decide) (by decide)
        have e9 := c_i2c (ot &&& (65535 : Int32))
        have e8 : (((nar .char (((ot &&& (65535 : Int32))).toUInt32.toUInt16.toUInt32.toInt32))).toInt - ((((ot &&& (65535 : Int32))).toUInt32.toUInt16.toUInt32.toInt32)).toInt) % 65536 = 0 ∧ 0 ≤ ((nar .char (((ot &&& (65535 : Int32))).toUInt32.toUInt16.toUInt32.toInt32))).toInt ∧ ((nar .char (((ot &&& (65535 : Int32))).toUInt32.toUInt16.toUInt32.toInt32))).toInt < 65536 := c_i2c (((ot &&& (65535 : Int32))).toUInt32.toUInt16.toUInt32.toInt32)
        have e12 : (0 : Int32).toInt = 0 := rfl
        omega
      · refine G.cast (st' := [(.int (0 : Int32))]) ?_ rfl
        refine g_istore cx d0_142 (Ls' := #[.val (.int sel), .val (.long ix), .second, .val (.int ot), .val (.ref b2), .val (.ref b20), .val (.int (1 : Int32)), .val (.ref b150), .val (.ref b171), .val (.ref b177), .val (.int (0 : Int32)), .val (.int (((ot &&& (65535 : Int32))).toUInt32.toUInt16.toUInt32.toInt32)), .val (.ref b198), .val (.int (0 : Int32))]) rfl ?_
        refine g_iload cx d0_144 rfl ?_
        refine g_if_eq cx d0_146 (fun hc146 => ?_) (fun q => absurd q (fun q => by revert q; decide))
        refine g_iconst cx d0_216 (v := (0 : Int32)) rfl ?_
        refine g_istore cx d0_217 (Ls' := #[.val (.int sel), .val (.long ix), .second, .val (.int ot), .val (.ref b2), .val (.ref b20), .val (.int (1 : Int32)), .val (.ref b150), .val (.ref b171), .val (.ref b177), .val (.int (0 : Int32)), .val (.int (((ot &&& (65535 : Int32))).toUInt32.toUInt16.toUInt32.toInt32)), .val (.ref b198), .val (.int (0 : Int32))]) rfl ?_
        refine g_iload cx d0_219 rfl ?_
        refine g_retZ cx d0_221 rfl rfl (by decide) (by decide) ?_
        exfalso
        have i_hs37 : ((sel &&& (3 : Int32))).toInt = ((1 : Int32)).toInt := congrArg Int32.toInt hs37
        have i_hq186 : ((nar .char (80 : Int32))).toInt = ((66 : Int32)).toInt := congrArg Int32.toInt hq186
        have i_hc104 : ¬ ((2 : Int32)).toInt = ((1 : Int32)).toInt := fun z => hc104 (Int32.toInt_inj.mp z)
        have i_hq212 : ¬ ((nar .char (((ot &&& (65535 : Int32))).toUInt32.toUInt16.toUInt32.toInt32))).toInt = ((66 : Int32)).toInt := fun z => hq212 (Int32.toInt_inj.mp z)
        have i_hq213 : ¬ ((nar .char (((ot &&& (65535 : Int32))).toUInt32.toUInt16.toUInt32.toInt32))).toInt = ((80 : Int32)).toInt := fun z => hq213 (Int32.toInt_inj.mp z)
        have i_hc146 : ((0 : Int32)).toInt = ((0 : Int32)).toInt := congrArg Int32.toInt hc146
        have r2 := rng32 sel
        have e1 : ((sel &&& (3 : Int32))).toInt = (sel).toInt % 4 := c_mask sel (3 : Int32) 2 (by decide) (by decide)
        have e3 : (1 : Int32).toInt = 1 := rfl
        have e5 : (80 : Int32).toInt = 80 := rfl
        have e4 : (((nar .char (80 : Int32))).toInt - ((80 : Int32)).toInt) % 65536 = 0 ∧ 0 ≤ ((nar .char (80 : Int32))).toInt ∧ ((nar .char (80 : Int32))).toInt < 65536 := c_i2c (80 : Int32)
        have e6 : (66 : Int32).toInt = 66 := rfl
        have e7 : (2 : Int32).toInt = 2 := rfl
        have r11 := rng32 ot
        have e10 : ((ot &&& (65535 : Int32))).toInt = (ot).toInt % 65536 := c_mask ot (65535 : Int32) 16 (by decide) (by decide)
        have e9 := c_i2c (ot &&& (65535 : Int32))
        have e8 : (((nar .char (((ot &&& (65535 : Int32))).toUInt32.toUInt16.toUInt32.toInt32))).toInt - ((((ot &&& (65535 : Int32))).toUInt32.toUInt16.toUInt32.toInt32)).toInt) % 65536 = 0 ∧ 0 ≤ ((nar .char (((ot &&& (65535 : Int32))).toUInt32.toUInt16.toUInt32.toInt32))).toInt ∧ ((nar .char (((ot &&& (65535 : Int32))).toUInt32.toUInt16.toUInt32.toInt32))).toInt < 65536 := c_i2c (((ot &&& (65535 : Int32))).toUInt32.toUInt16.toUInt32.toInt32)
        have e12 : (0 : Int32).toInt = 0 := rfl
        omega
    · refine G.cast (st' := [(.int (1 : Int32))]) ?_ rfl
      refine g_aload cx d0_99 rfl rfl ?_
      refine g_iload cx d0_101 rfl ?_
      refine g_iaload cx d0_103 A_b20.1 ⟨by decide, by decide⟩ (v := (.int (1 : Int32))) rfl ?_
      refine g_icmp_ne cx d0_104 (fun q => absurd q (fun q => by revert q; decide)) (fun hc104 => ?_)
      refine g_iconst cx d0_107 (v := (1 : Int32)) rfl ?_
      refine g_goto cx d0_108 ?_
      refine g_istore cx d0_112 (Ls' := #[.val (.int sel), .val (.long ix), .second, .val (.int ot), .val (.ref b2), .val (.ref b20), .val (.int (1 : Int32)), .val (.ref b150), .val (.ref b171), .val (.ref b177), .val (.int (1 : Int32)), .unset, .unset, .unset]) rfl ?_
      refine g_iloadN cx d0_114 rfl ?_
      refine g_ldcI cx d0_115 (hw _ (List.mem_of_getElem? (i := 93) rfl)) ?_
      refine g_iand cx d0_117 ?_
      refine g_i2c cx d0_118 ?_
      refine g_istore cx d0_119 (Ls' := #[.val (.int sel), .val (.long ix), .second, .val (.int ot), .val (.ref b2), .val (.ref b20), .val (.int (1 : Int32)), .val (.ref b150), .val (.ref b171), .val (.ref b177), .val (.int (1 : Int32)), .val (.int (((ot &&& (65535 : Int32))).toUInt32.toUInt16.toUInt32.toInt32)), .unset, .unset]) rfl ?_
      refine g_new cx d0_121 (hw _ (List.mem_of_getElem? (i := 68) rfl)) (hw _ (List.mem_of_getElem? (i := 69) rfl)) (hw _ (List.mem_of_getElem? (i := 70) rfl)) (k' := 8) (n' := 32) rfl rfl (by decide) (by decide) (fun h218 b219 gb220 E221 X222 D223 => ?_)
      have ne_b150_b219 : b150 ≠ b219 := Nat.ne_of_lt (by rw [gb220]; exact O_b150.lt)
      have ne_b159_b219 : b159 ≠ b219 := Nat.ne_of_lt (by rw [gb220]; exact O_b159.lt)
      have ne_b177_b219 : b177 ≠ b219 := Nat.ne_of_lt (by rw [gb220]; exact O_b177.lt)
      have ne_b2_b219 : b2 ≠ b219 := Nat.ne_of_lt (by rw [gb220]; exact A_b2.lt)
      have ne_b20_b219 : b20 ≠ b219 := Nat.ne_of_lt (by rw [gb220]; exact A_b20.lt)
      have ne_b164_b219 : b164 ≠ b219 := Nat.ne_of_lt (by rw [gb220]; exact A_b164.lt)
      have ne_b171_b219 : b171 ≠ b219 := Nat.ne_of_lt (by rw [gb220]; exact A_b171.lt)
      have g_b219 : Z.heap.size ≤ b219 := by rw [gb220]; exact OL.2.1
      have O_b150 := O_b150.ext E221
      have O_b159 := O_b159.ext E221
      have O_b177 := O_b177.ext E221
      have A_b2 := A_b2.ext E221
      have A_b20 := A_b20.ext E221
      have A_b164 := A_b164.ext E221
      have A_b171 := A_b171.ext E221
      have OL := OL.ext E221
      have A_dc := AD.ext OL.2
      have O_b219 := ObP.new hw X222 D223
      refine g_dup cx d0_124 rfl ?_
      refine g_lloadN cx d0_125 rfl ?_
      refine g_iload cx d0_126 rfl ?_
      refine g_aload cx d0_128 rfl rfl ?_
      refine g_aload cx d0_130 rfl rfl ?_
      refine g_special cx (y := (⟨"com/example/thalweg/thalweg/cli/Mpeg1Reader$Picture", "<init>", "(JCLjava/util/List;[B)V"⟩ : MethodName)) (a := b219) d0_132 rfl rfl (hw _ (List.mem_of_getElem? (i := 71) rfl)) (hw _ (List.mem_of_getElem? (i := 72) rfl)) (hw _ (List.mem_of_getElem? (i := 70) rfl)) (hw _ (List.mem_of_getElem? (i := 73) rfl)) (by decide) (bytes := prog_8_method_1_code) (maxL' := 6) (M := (ra11 l Z a0 hw dc lc cdc clc SDC AD SLC BX b219 b150 b164 b159 b171 ix (((ot &&& (65535 : Int32))).toUInt32.toUInt16.toUInt32.toInt32) cA165 cA172 _ O_b219 O_b150 O_b159 A_b164 A_b171 OV_b164 (Ne.symm ne_b150_b219) (Ne.symm ne_b164_b219) ne_b150_b164 (Ne.symm ne_b171_b219) ne_b150_b171 ne_b164_b171 g_b219 g_b150 g_b164 g_b171 OL)) rfl (lenOf pd_8 rfl) (by decide) (W := 1) (Nat.le_of_eq rfl) (by decide) (k' := 8) (n' := 32) rfl rfl (by decide) (by decide) (argsL := [(.long ix), (.int (((ot &&& (65535 : Int32))).toUInt32.toUInt16.toUInt32.toInt32)), (.ref b150), (.ref b171)]) (rest := [(.ref b219)]) rfl (fun v226 h225 q227 => ?_)
      obtain ⟨rfl, K224, O_b219⟩ := q227
      have O_b150 := O_b150.keep K224 (ninS ne_b150_b219 nin0)
      have O_b159 := O_b159.keepX K224
      have O_b177 := O_b177.keep K224 (ninS ne_b177_b219 nin0)
      have A_b2 := A_b2.keep K224 (ninS ne_b2_b219 nin0)
      have A_b20 := A_b20.keep K224 (ninS ne_b20_b219 nin0)
      have A_b164 := A_b164.keep K224 (ninS ne_b164_b219 nin0)
      have A_b171 := A_b171.keep K224 (ninS ne_b171_b219 nin0)
      have OL := OL.keep K224 (allS g_b219 all0)
      have A_dc := AD.ext OL.2
      refine G.cast (st' := [(.ref b219)]) ?_ rfl
      refine g_astore cx d0_135 rfl (Ls' := #[.val (.int sel), .val (.long ix), .second, .val (.int ot), .val (.ref b2), .val (.ref b20), .val (.int (1 : Int32)), .val (.ref b150), .val (.ref b171), .val (.ref b177), .val (.int (1 : Int32)), .val (.int (((ot &&& (65535 : Int32))).toUInt32.toUInt16.toUInt32.toInt32)), .val (.ref b219), .unset]) rfl ?_
      refine g_aload cx d0_137 rfl rfl ?_
      refine g_virtual cx (y := (⟨"com/example/thalweg/thalweg/cli/Mpeg1Reader$Picture", "rank", "()I"⟩ : MethodName)) (z := (⟨"com/example/thalweg/thalweg/cli/Mpeg1Reader$Picture", "rank", "()I"⟩ : MethodName)) (a := b219) d0_139 (hw _ (List.mem_of_getElem? (i := 88) rfl)) (hw _ (List.mem_of_getElem? (i := 89) rfl)) (hw _ (List.mem_of_getElem? (i := 70) rfl)) (hw _ (List.mem_of_getElem? (i := 92) rfl)) (hw _ (List.mem_of_getElem? (i := 91) rfl)) (hw _ (List.mem_of_getElem? (i := 90) rfl)) rfl (by decide) O_b219.1 (bytes := prog_8_method_2_code) (maxL' := 1) (M := (ra10 l Z a0 hw dc lc cdc clc SDC AD SLC BX b219 b150 b164 b159 b171 ix (nar .char (((ot &&& (65535 : Int32))).toUInt32.toUInt16.toUInt32.toInt32)) cA165 cA172 _ O_b219 O_b150 O_b159 A_b164 A_b171 OV_b164 (Ne.symm ne_b150_b219) (Ne.symm ne_b164_b219) ne_b150_b164 (Ne.symm ne_b171_b219) ne_b150_b171 ne_b164_b171 g_b219 g_b150 g_b164 g_b171 OL)) rfl (lenOf pd_9 rfl) (by decide) (W := 0) (Nat.le_of_eq rfl) (by decide) (k' := 8) (n' := 32) rfl rfl (by decide) (by decide) (argsL := []) (rest := []) rfl (fun v237 h236 q238 => ?_)
      rcases q238 with ⟨hq228, rfl, rfl⟩ | ⟨hq230, hq231, rfl, rfl⟩ | ⟨hq233, hq234, rfl, rfl⟩
      · refine G.cast (st' := [(.int (2 : Int32))]) ?_ rfl
        refine g_istore cx d0_142 (Ls' := #[.val (.int sel), .val (.long ix), .second, .val (.int ot), .val (.ref b2), .val (.ref b20), .val (.int (1 : Int32)), .val (.ref b150), .val (.ref b171), .val (.ref b177), .val (.int (1 : Int32)), .val (.int (((ot &&& (65535 : Int32))).toUInt32.toUInt16.toUInt32.toInt32)), .val (.ref b219), .val (.int (2 : Int32))]) rfl ?_
        refine g_iload cx d0_144 rfl ?_
        refine g_if_eq cx d0_146 (fun q => absurd q (fun q => by revert q; decide)) (fun hc146 => ?_)
        refine g_iload cx d0_149 rfl ?_
        refine g_if_lt cx d0_151 (fun q => absurd q (fun q => by revert q; decide)) (fun hc151 => ?_)
        refine g_iload cx d0_154 rfl ?_
        refine g_iconst cx d0_156 (v := (2 : Int32)) rfl ?_
        refine g_icmp_gt cx d0_157 (fun q => absurd q (fun q => by revert q; decide)) (fun hc157 => ?_)
        refine g_iload cx d0_160 rfl ?_
        refine g_iconst cx d0_162 (v := (1 : Int32)) rfl ?_
        refine g_icmp_ne cx d0_163 (fun hc163 => ?_) (fun q => absurd q (fun q => by revert q; decide))
        refine g_iconst cx d0_170 (v := (0 : Int32)) rfl ?_
        refine g_iload cx d0_171 rfl ?_
        refine g_bipush cx d0_173 (v := (80 : Int32)) rfl ?_
        refine g_icmp_ne cx d0_175 (fun hc175 => ?_) (fun hc175 => ?_)
        · refine g_iconst cx d0_182 (v := (0 : Int32)) rfl ?_
          refine g_icmp_ne cx d0_183 (fun q => absurd q (fun q => by revert q; decide)) (fun hc183 => ?_)
          refine g_iload cx d0_186 rfl ?_
          refine g_iconst cx d0_188 (v := (2 : Int32)) rfl ?_
          refine g_icmp_ne cx d0_189 (fun q => absurd q (fun q => by revert q; decide)) (fun hc189 => ?_)
          refine g_iconst cx d0_192 (v := (1 : Int32)) rfl ?_
          refine g_goto cx d0_193 ?_
          refine g_iload cx d0_197 rfl ?_
          refine g_bipush cx d0_199 (v := (66 : Int32)) rfl ?_
          refine g_icmp_ne cx d0_201 (fun hc201 => ?_) (fun hc201 => ?_)
          · refine g_iconst cx d0_208 (v := (0 : Int32)) rfl ?_
            refine g_icmp_ne cx d0_209 (fun hc209 => ?_) (fun q => absurd q (fun q => by revert q; decide))
            refine g_iconst cx d0_216 (v := (0 : Int32)) rfl ?_
            refine g_istore cx d0_217 (Ls' := #[.val (.int sel), .val (.long ix), .second, .val (.int ot), .val (.ref b2), .val (.ref b20), .val (.int (1 : Int32)), .val (.ref b150), .val (.ref b171), .val (.ref b177), .val (.int (0 : Int32)), .val (.int (((ot &&& (65535 : Int32))).toUInt32.toUInt16.toUInt32.toInt32)), .val (.ref b219), .val (.int (2 : Int32))]) rfl ?_
            refine g_iload cx d0_219 rfl ?_
            refine g_retZ cx d0_221 rfl rfl (by decide) (by decide) ?_
            exfalso
            have i_hs37 : ((sel &&& (3 : Int32))).toInt = ((1 : Int32)).toInt := congrArg Int32.toInt hs37
            have i_hq188 : ¬ ((nar .char (80 : Int32))).toInt = ((66 : Int32)).toInt := fun z => hq188 (Int32.toInt_inj.mp z)
            have i_hq189 : ((nar .char (80 : Int32))).toInt = ((80 : Int32)).toInt := congrArg Int32.toInt hq189
            have i_hc104 : ((1 : Int32)).toInt = ((1 : Int32)).toInt := congrArg Int32.toInt hc104
            have i_hq228 : ((nar .char (((ot &&& (65535 : Int32))).toUInt32.toUInt16.toUInt32.toInt32))).toInt = ((66 : Int32)).toInt := congrArg Int32.toInt hq228
            have i_hc146 : ¬ ((1 : Int32)).toInt = ((0 : Int32)).toInt := fun z => hc146 (Int32.toInt_inj.mp z)
            have i_hc151 : ¬ ((2 : Int32)).toInt < ((0 : Int32)).toInt := fun z => hc151 (Int32.lt_iff_toInt_lt.mpr z)
            have i_hc157 : ¬ ((2 : Int32)).toInt < ((2 : Int32)).toInt := fun z => hc157 (Int32.lt_iff_toInt_lt.mpr z)
            have i_hc163 : ¬ ((2 : Int32)).toInt = ((1 : Int32)).toInt := fun z => hc163 (Int32.toInt_inj.mp z)
            have i_hc175 : ¬ ((((ot &&& (65535 : Int32))).toUInt32.toUInt16.toUInt32.toInt32)).toInt = ((80 : Int32)).toInt := fun z => hc175 (Int32.toInt_inj.mp z)
            have i_hc183 : ((0 : Int32)).toInt = ((0 : Int32)).toInt := congrArg Int32.toInt hc183
            have i_hc189 : ((2 : Int32)).toInt = ((2 : Int32)).toInt := congrArg Int32.toInt hc189
            have i_hc201 : ¬ ((((ot &&& (65535 : Int32))).toUInt32.toUInt16.toUInt32.toInt32)).toInt = ((66 : Int32)).toInt := fun z => hc201 (Int32.toInt_inj.mp z)
            have i_hc209 : ¬ ((1 : Int32)).toInt = ((0 : Int32)).toInt := fun z => hc209 (Int32.toInt_inj.mp z)
            have r2 := rng32 sel
            have e1 : ((sel &&& (3 : Int32))).toInt = (sel).toInt % 4 := c_mask sel (3 : Int32) 2 (by decide) (by decide)
            have e3 : (1 : Int32).toInt = 1 := rfl
            have e5 : (80 : Int32).toInt = 80 := rfl
            have e4 : (((nar .char (80 : Int32))).toInt - ((80 : Int32)).toInt) % 65536 = 0 ∧ 0 ≤ ((nar .char (80 : Int32))).toInt ∧ ((nar .char (80 : Int32))).toInt < 65536 := c_i2c (80 : Int32)
            have e6 : (66 : Int32).toInt = 66 := rfl
            have r10 := rng32 ot
            have e9 : ((ot &&& (65535 : Int32))).toInt = (ot).toInt % 65536 := c_mask ot (65535 : Int32) 16 (by decide) (by decide)
            have e8 := c_i2c (ot &&& (65535 : Int32))
            have e7 : (((nar .char (((ot &&& (65535 : Int32))).toUInt32.toUInt16.toUInt32.toInt32))).toInt - ((((ot &&& (65535 : Int32))).toUInt32.toUInt16.toUInt32.toInt32)).toInt) % 65536 = 0 ∧ 0 ≤ ((nar .char (((ot &&& (65535 : Int32))).toUInt32.toUInt16.toUInt32.toInt32))).toInt ∧ ((nar .char (((ot &&& (65535 : Int32))).toUInt32.toUInt16.toUInt32.toInt32))).toInt < 65536 := c_i2c (((ot &&& (65535 : Int32))).toUInt32.toUInt16.toUInt32.toInt32)
            have e11 : (0 : Int32).toInt = 0 := rfl
            have e12 : (2 : Int32).toInt = 2 := rfl
            omega
          · refine g_iconst cx d0_204 (v := (1 : Int32)) rfl ?_
            refine g_goto cx d0_205 ?_
            refine g_icmp_ne cx d0_209 (fun q => absurd q (fun q => by revert q; decide)) (fun hc209 => ?_)
            refine g_iconst cx d0_212 (v := (1 : Int32)) rfl ?_
            refine g_goto cx d0_213 ?_
            refine g_istore cx d0_217 (Ls' := #[.val (.int sel), .val (.long ix), .second, .val (.int ot), .val (.ref b2), .val (.ref b20), .val (.int (1 : Int32)), .val (.ref b150), .val (.ref b171), .val (.ref b177), .val (.int (1 : Int32)), .val (.int (((ot &&& (65535 : Int32))).toUInt32.toUInt16.toUInt32.toInt32)), .val (.ref b219), .val (.int (2 : Int32))]) rfl ?_
            refine g_iload cx d0_219 rfl ?_
            refine g_retZ cx d0_221 rfl rfl (by decide) (by decide) ?_
            rfl
        · refine g_iconst cx d0_178 (v := (1 : Int32)) rfl ?_
          refine g_goto cx d0_179 ?_
          refine g_icmp_ne cx d0_183 (fun hc183 => ?_) (fun q => absurd q (fun q => by revert q; decide))
          refine g_iconst cx d0_216 (v := (0 : Int32)) rfl ?_
          refine g_istore cx d0_217 (Ls' := #[.val (.int sel), .val (.long ix), .second, .val (.int ot), .val (.ref b2), .val (.ref b20), .val (.int (1 : Int32)), .val (.ref b150), .val (.ref b171), .val (.ref b177), .val (.int (0 : Int32)), .val (.int (((ot &&& (65535 : Int32))).toUInt32.toUInt16.toUInt32.toInt32)), .val (.ref b219), .val (.int (2 : Int32))]) rfl ?_
          refine g_iload cx d0_219 rfl ?_
          refine g_retZ cx d0_221 rfl rfl (by decide) (by decide) ?_
          exfalso
          have i_hs37 : ((sel &&& (3 : Int32))).toInt = ((1 : Int32)).toInt := congrArg Int32.toInt hs37
          have i_hq188 : ¬ ((nar .char (80 : Int32))).toInt = ((66 : Int32)).toInt := fun z => hq188 (Int32.toInt_inj.mp z)
          have i_hq189 : ((nar .char (80 : Int32))).toInt = ((80 : Int32)).toInt := congrArg Int32.toInt hq189
          have i_hc104 : ((1 : Int32)).toInt = ((1 : Int32)).toInt := congrArg Int32.toInt hc104
          have i_hq228 : ((nar .char (((ot &&& (65535 : Int32))).toUInt32.toUInt16.toUInt32.toInt32))).toInt = ((66 : Int32)).toInt := congrArg Int32.toInt hq228
          have i_hc146 : ¬ ((1 : Int32)).toInt = ((0 : Int32)).toInt := fun z => hc146 (Int32.toInt_inj.mp z)
          have i_hc151 : ¬ ((2 : Int32)).toInt < ((0 : Int32)).toInt := fun z => hc151 (Int32.lt_iff_toInt_lt.mpr z)
          have i_hc157 : ¬ ((2 : Int32)).toInt < ((2 : Int32)).toInt := fun z => hc157 (Int32.lt_iff_toInt_lt.mpr z)
          have i_hc163 : ¬ ((2 : Int32)).toInt = ((1 : Int32)).toInt := fun z => hc163 (Int32.toInt_inj.mp z)
          have i_hc175 : ((((ot &&& (65535 : Int32))).toUInt32.toUInt16.toUInt32.toInt32)).toInt = ((80 : Int32)).toInt := congrArg Int32.toInt hc175
          have i_hc183 : ¬ ((0 : Int32)).toInt = ((1 : Int32)).toInt := fun z => hc183 (Int32.toInt_inj.mp z)
          have r2 := rng32 sel
          have e1 : ((sel &&& (3 : Int32))).toInt = (sel).toInt % 4 := c_mask sel (3 : Int32) 2 (by decide) (by decide)
          have e3 : (1 : Int32).toInt = 1 := rfl
          have e5 : (80 : Int32).toInt = 80 := rfl
          have e4 : (((nar .char (80 : Int32))).toInt - ((80 : Int32)).toInt) % 65536 = 0 ∧ 0 ≤ ((nar .char (80 : Int32))).toInt ∧ ((nar .char (80 : Int32))).toInt < 65536 := c_i2c (80 : Int32)
          have e6 : (66 : Int32).toInt = 66 := rfl
          have r10 := rng32 ot
          have e9 : ((ot &&& (65535 : Int32))).toInt = (ot).toInt % 65536 := c_mask ot (65535 : Int32) 16 (by decide) (by decide)
          have e8 := c_i2c (ot &&& (65535 : Int32))
          have e7 : (((nar .char (((ot &&& (65535 : Int32))).toUInt32.toUInt16.toUInt32.toInt32))).toInt - ((((ot &&& (65535 : Int32))).toUInt32.toUInt16.toUInt32.toInt32)).toInt) % 65536 = 0 ∧ 0 ≤ ((nar .char (((ot &&& (65535 : Int32))).toUInt32.toUInt16.toUInt32.toInt32))).toInt ∧ ((nar .char (((ot &&& (65535 : Int32))).toUInt32.toUInt16.toUInt32.toInt32))).toInt < 65536 := c_i2c (((ot &&& (65535 : Int32))).toUInt32.toUInt16.toUInt32.toInt32)
          have e11 : (0 : Int32).toInt = 0 := rfl
          have e12 : (2 : Int32).toInt = 2 := rfl
          omega
      · refine G.cast (st' := [(.int (1 : Int32))]) ?_ rfl
        refine g_istore cx d0_142 (Ls' := #[.val (.int sel), .val (.long ix), .second, .val (.int ot), .val (.ref b2), .val (.ref b20), .val (.int (1 : Int32)), .val (.ref b150), .val (.ref b171), .val (.ref b177), .val (.int (1 : Int32)), .val (.int (((ot &&& (65535 : Int32))).toUInt32.toUInt16.toUInt32.toInt32)), .val (.ref b219), .val (.int (1 : Int32))]) rfl ?_
        refine g_iload cx d0_144 rfl ?_
        refine g_if_eq cx d0_146 (fun q => absurd q (fun q => by revert q; decide)) (fun hc146 => ?_)
        refine g_iload cx d0_149 rfl ?_
        refine g_if_lt cx d0_151 (fun q => absurd q (fun q => by revert q; decide)) (fun hc151 => ?_)
        refine g_iload cx d0_154 rfl ?_
        refine g_iconst cx d0_156 (v := (2 : Int32)) rfl ?_
        refine g_icmp_gt cx d0_157 (fun q => absurd q (fun q => by revert q; decide)) (fun hc157 => ?_)
        refine g_iload cx d0_160 rfl ?_
        refine g_iconst cx d0_162 (v := (1 : Int32)) rfl ?_
        refine g_icmp_ne cx d0_163 (fun q => absurd q (fun q => by revert q; decide)) (fun hc163 => ?_)
        refine g_iconst cx d0_166 (v := (1 : Int32)) rfl ?_
        refine g_goto cx d0_167 ?_
        refine g_iload cx d0_171 rfl ?_
        refine g_bipush cx d0_173 (v := (80 : Int32)) rfl ?_
        refine g_icmp_ne cx d0_175 (fun hc175 => ?_) (fun hc175 => ?_)
        · refine g_iconst cx d0_182 (v := (0 : Int32)) rfl ?_
          refine g_icmp_ne cx d0_183 (fun hc183 => ?_) (fun q => absurd q (fun q => by revert q; decide))
          refine g_iconst cx d0_216 (v := (0 : Int32)) rfl ?_
          refine g_istore cx d0_217 (Ls' := #[.val (.int sel), .val (.long ix), .second, .val (.int ot), .val (.ref b2), .val (.ref b20), .val (.int (1 : Int32)), .val (.ref b150), .val (.ref b171), .val (.ref b177), .val (.int (0 : Int32)), .val (.int (((ot &&& (65535 : Int32))).toUInt32.toUInt16.toUInt32.toInt32)), .val (.ref b219), .val (.int (1 : Int32))]) rfl ?_
          refine g_iload cx d0_219 rfl ?_
          refine g_retZ cx d0_221 rfl rfl (by decide) (by decide) ?_
          exfalso
          have i_hs37 : ((sel &&& (3 : Int32))).toInt = ((1 : Int32)).toInt := congrArg Int32.toInt hs37
          have i_hq188 : ¬ ((nar .char (80 : Int32))).toInt = ((66 : Int32)).toInt := fun z => hq188 (Int32.toInt_inj.mp z)
          have i_hq189 : ((nar .char (80 : Int32))).toInt = ((80 : Int32)).toInt := congrArg Int32.toInt hq189
          have i_hc104 : ((1 : Int32)).toInt = ((1 : Int32)).toInt := congrArg Int32.toInt hc104
          have i_hq230 : ¬ ((nar .char (((ot &&& (65535 : Int32))).toUInt32.toUInt16.toUInt32.toInt32))).toInt = ((66 : Int32)).toInt := fun z => hq230 (Int32.toInt_inj.mp z)
          have i_hq231 : ((nar .char (((ot &&& (65535 : Int32))).toUInt32.toUInt16.toUInt32.toInt32))).toInt = ((80 : Int32)).toInt := congrArg Int32.toInt hq231
          have i_hc146 : ¬ ((1 : Int32)).toInt = ((0 : Int32)).toInt := fun z => hc146 (Int32.toInt_inj.mp z)
          have i_hc151 : ¬ ((1 : Int32)).toInt < ((0 : Int32)).toInt := fun z => hc151 (Int32.lt_iff_toInt_lt.mpr z)
          have i_hc157 : ¬ ((2 : Int32)).toInt < ((1 : Int32)).toInt := fun z => hc157 (Int32.lt_iff_toInt_lt.mpr z)
          have i_hc163 : ((1 : Int32)).toInt = ((1 : Int32)).toInt := congrArg Int32.toInt hc163
          have i_hc175 : ¬ ((((ot &&& (65535 : Int32))).toUInt32.toUInt16.toUInt32.toInt32)).toInt = ((80 : Int32)).toInt := fun z => hc175 (Int32.toInt_inj.mp z)
          have i_hc183 : ¬ ((1 : Int32)).toInt = ((0 : Int32)).toInt := fun z => hc183 (Int32.toInt_inj.mp z)
          have r2 := rng32 sel
          have e1 : ((sel &&& (3 : Int32))).toInt = (sel).toInt % 4 := c_mask sel (3 : Int32) 2 (by decide) (by decide)
          have e3 : (1 : Int32).toInt = 1 := rfl
          have e5 : (80 : Int32).toInt = 80 := rfl
          have e4 : (((nar .char (80 : Int32))).toInt - ((80 : Int32)).toInt) % 65536 = 0 ∧ 0 ≤ ((nar .char (80 : Int32))).toInt ∧ ((nar .char (80 : Int32))).toInt < 65536 := c_i2c (80 : Int32)
          have e6 : (66 : Int32).toInt = 66 := rfl
          have r10 := rng32 ot
          have e9 : ((ot &&& (65535 : Int32))).toInt = (ot).toInt % 65536 := c_mask ot (65535 : Int32) 16 (by decide) (by decide)
          have e8 := c_i2c (ot &&& (65535 : Int32))
          have e7 : (((nar .char (((ot &&& (65535 : Int32))).toUInt32.toUInt16.toUInt32.toInt32))).toInt - ((((ot &&& (65535 : Int32))).toUInt32.toUInt16.toUInt32.toInt32)).toInt) % 65536 = 0 ∧ 0 ≤ ((nar .char (((ot &&& (65535 : Int32))).toUInt32.toUInt16.toUInt32.toInt32))).toInt ∧ ((nar .char (((ot &&& (65535 : Int32))).toUInt32.toUInt16.toUInt32.toInt32))).toInt < 65536 := c_i2c (((ot &&& (65535 : Int32))).toUInt32.toUInt16.toUInt32.toInt32)
          have e11 : (0 : Int32).toInt = 0 := rfl
          have e12 : (2 : Int32).toInt = 2 := rfl
          omega
        · refine g_iconst cx d0_178 (v := (1 : Int32)) rfl ?_
          refine g_goto cx d0_179 ?_
          refine g_icmp_ne cx d0_183 (fun q => absurd q (fun q => by revert q; decide)) (fun hc183 => ?_)
          refine g_iload cx d0_186 rfl ?_
          refine g_iconst cx d0_188 (v := (2 : Int32)) rfl ?_
          refine g_icmp_ne cx d0_189 (fun hc189 => ?_) (fun q => absurd q (fun q => by revert q; decide))
          refine g_iconst cx d0_196 (v := (0 : Int32)) rfl ?_
          refine g_iload cx d0_197 rfl ?_
          refine g_bipush cx d0_199 (v := (66 : Int32)) rfl ?_
          refine g_icmp_ne cx d0_201 (fun hc201 => ?_) (fun hc201 => ?_)
          · refine g_iconst cx d0_208 (v := (0 : Int32)) rfl ?_
            refine g_icmp_ne cx d0_209 (fun q => absurd q (fun q => by revert q; decide)) (fun hc209 => ?_)
            refine g_iconst cx d0_212 (v := (1 : Int32)) rfl ?_
            refine g_goto cx d0_213 ?_
            refine g_istore cx d0_217 (Ls' := #[.val (.int sel), .val (.long ix), .second, .val (.int ot), .val (.ref b2), .val (.ref b20), .val (.int (1 : Int32)), .val (.ref b150), .val (.ref b171), .val (.ref b177), .val (.int (1 : Int32)), .val (.int (((ot &&& (65535 : Int32))).toUInt32.toUInt16.toUInt32.toInt32)), .val (.ref b219), .val (.int (1 : Int32))]) rfl ?_
            refine g_iload cx d0_219 rfl ?_
            refine g_retZ cx d0_221 rfl rfl (by decide) (by decide) ?_
            rfl
          · refine g_iconst cx d0_204 (v := (1 : Int32)) rfl ?_
            refine g_goto cx d0_205 ?_
            refine g_icmp_ne cx d0_209 (fun hc209 => ?_) (fun q => absurd q (fun q => by revert q; decide))
            refine g_iconst cx d0_216 (v := (0 : Int32)) rfl ?_
            refine g_istore cx d0_217 (Ls' := #[.val (.int sel), .val (.long ix), .second, .val (.int ot), .val (.ref b2), .val (.ref b20), .val (.int (1 : Int32)), .val (.ref b150), .val (.ref b171), .val (.ref b177), .val (.int (0 : Int32)), .val (.int (((ot &&& (65535 : Int32))).toUInt32.toUInt16.toUInt32.toInt32)), .val (.ref b219), .val (.int (1 : Int32))]) rfl ?_
            refine g_iload cx d0_219 rfl ?_
            refine g_retZ cx d0_221 rfl rfl (by decide) (by decide) ?_
            exfalso
            have i_hs37 : ((sel &&& (3 : Int32))).toInt = ((1 : Int32)).toInt := congrArg Int32.toInt hs37
            have i_hq188 : ¬ ((nar .char (80 : Int32))).toInt = ((66 : Int32)).toInt := fun z => hq188 (Int32.toInt_inj.mp z)
            have i_hq189 : ((nar .char (80 : Int32))).toInt = ((80 : Int32)).toInt := congrArg Int32.toInt hq189
            have i_hc104 : ((1 : Int32)).toInt = ((1 : Int32)).toInt := congrArg Int32.toInt hc104
            have i_hq230 : ¬ ((nar .char (((ot &&& (65535 : Int32))).toUInt32.toUInt16.toUInt32.toInt32))).toInt = ((66 : Int32)).toInt := fun z => hq230 (Int32.toInt_inj.mp z)
            have i_hq231 : ((nar .char (((ot &&& (65535 : Int32))).toUInt32.toUInt16.toUInt32.toInt32))).toInt = ((80 : Int32)).toInt := congrArg Int32.toInt hq231
            have i_hc146 : ¬ ((1 : Int32)).toInt = ((0 : Int32)).toInt := fun z => hc146 (Int32.toInt_inj.mp z)
            have i_hc151 : ¬ ((1 : Int32)).toInt < ((0 : Int32)).toInt := fun z => hc151 (Int32.lt_iff_toInt_lt.mpr z)
            have i_hc157 : ¬ ((2 : Int32)).toInt < ((1 : Int32)).toInt := fun z => hc157 (Int32.lt_iff_toInt_lt.mpr z)
            have i_hc163 : ((1 : Int32)).toInt = ((1 : Int32)).toInt := congrArg Int32.toInt hc163
            have i_hc175 : ((((ot &&& (65535 : Int32))).toUInt32.toUInt16.toUInt32.toInt32)).toInt = ((80 : Int32)).toInt := congrArg Int32.toInt hc175
            have i_hc183 : ((1 : Int32)).toInt = ((1 : Int32)).toInt := congrArg Int32.toInt hc183
            have i_hc189 : ¬ ((1 : Int32)).toInt = ((2 : Int32)).toInt := fun z => hc189 (Int32.toInt_inj.mp z)
            have i_hc201 : ((((ot &&& (65535 : Int32))).toUInt32.toUInt16.toUInt32.toInt32)).toInt = ((66 : Int32)).toInt := congrArg Int32.toInt hc201
            have i_hc209 : ¬ ((0 : Int32)).toInt = ((1 : Int32)).toInt := fun z => hc209 (Int32.toInt_inj.mp z)
            have r2 := rng32 sel
            have e1 : ((sel &&& (3 : Int32))).toInt = (sel).toInt % 4 := c_mask sel (3 : Int32) 2 (by decide) (by decide)
            have e3 : (1 : Int32).toInt = 1 := rfl
            have e5 : (80 : Int32).toInt = 80 := rfl
            have e4 : (((nar .char (80 : Int32))).toInt - ((80 : Int32)).toInt) % 65536 = 0 ∧ 0 ≤ ((nar .char (80 : Int32))).toInt ∧ ((nar .char (80 : Int32))).toInt < 65536 := c_i2c (80 : Int32)
            have e6 : (66 : Int32).toInt = 66 := rfl
            have r10 := rng32 ot
            have e9 : ((ot &&& (65535 : Int32))).toInt = (ot).toInt % 65536 := c_mask ot (65535 : Int32) 16 (by decide) (by decide)
            have e8 := c_i2c (ot &&& (65535 : Int32))
            have e7 : (((nar .char (((ot &&& (65535 : Int32))).toUInt32.toUInt16.toUInt32.toInt32))).toInt - ((((ot &&& (65535 : Int32))).toUInt32.toUInt16.toUInt32.toInt32)).toInt) % 65536 = 0 ∧ 0 ≤ ((nar .char (((ot &&& (65535 : Int32))).toUInt32.toUInt16.toUInt32.toInt32))).toInt ∧ ((nar .char (((ot &&& (65535 : Int32))).toUInt32.toUInt16.toUInt32.toInt32))).toInt < 65536 := c_i2c (((ot &&& (65535 : Int32))).toUInt32.toUInt16.toUInt32.toInt32)
            have e11 : (0 : Int32).toInt = 0 := rfl
            have e12 : (2 : Int32).toInt = 2 := rfl
            omega
      · refine G.cast (st' := [(.int (0 : Int32))]) ?_ rfl
        refine g_istore cx d0_142 (Ls' := #[.val (.int sel), .val (.long ix), .second, .val (.int ot), .val (.ref b2), .val (.ref b20), .val (.int (1 : Int32)), .val (.ref b150), .val (.ref b171), .val (.ref b177), .val (.int (1 : Int32)), .val (.int (((ot &&& (65535 : Int32))).toUInt32.toUInt16.toUInt32.toInt32)), .val (.ref b219), .val (.int (0 : Int32))]) rfl ?_
        refine g_iload cx d0_144 rfl ?_
        refine g_if_eq cx d0_146 (fun q => absurd q (fun q => by revert q; decide)) (fun hc146 => ?_)
        refine g_iload cx d0_149 rfl ?_
        refine g_if_lt cx d0_151 (fun q => absurd q (fun q => by revert q; decide)) (fun hc151 => ?_)
        refine g_iload cx d0_154 rfl ?_
        refine g_iconst cx d0_156 (v := (2 : Int32)) rfl ?_
        refine g_icmp_gt cx d0_157 (fun q => absurd q (fun q => by revert q; decide)) (fun hc157 => ?_)
        refine g_iload cx d0_160 rfl ?_
        refine g_iconst cx d0_162 (v := (1 : Int32)) rfl ?_
        refine g_icmp_ne cx d0_163 (fun hc163 => ?_) (fun q => absurd q (fun q => by revert q; decide))
        refine g_iconst cx d0_170 (v := (0 : Int32)) rfl ?_
        refine g_iload cx d0_171 rfl ?_
        refine g_bipush cx d0_173 (v := (80 : Int32)) rfl ?_
        refine g_icmp_ne cx d0_175 (fun hc175 => ?_) (fun hc175 => ?_)
        · refine g_iconst cx d0_182 (v := (0 : Int32)) rfl ?_
          refine g_icmp_ne cx d0_183 (fun q => absurd q (fun q => by revert q; decide)) (fun hc183 => ?_)
          refine g_iload cx d0_186 rfl ?_
          refine g_iconst cx d0_188 (v := (2 : Int32)) rfl ?_
          refine g_icmp_ne cx d0_189 (fun hc189 => ?_) (fun q => absurd q (fun q => by revert q; decide))
          refine g_iconst cx d0_196 (v := (0 : Int32)) rfl ?_
          refine g_iload cx d0_197 rfl ?_
          refine g_bipush cx d0_199 (v := (66 : Int32)) rfl ?_
          refine g_icmp_ne cx d0_201 (fun hc201 => ?_) (fun hc201 => ?_)
          · refine g_iconst cx d0_208 (v := (0 : Int32)) rfl ?_
            refine g_icmp_ne cx d0_209 (fun q => absurd q (fun q => by revert q; decide)) (fun hc209 => ?_)
            refine g_iconst cx d0_212 (v := (1 : Int32)) rfl ?_
            refine g_goto cx d0_213 ?_
            refine g_istore cx d0_217 (Ls' := #[.val (.int sel), .val (.long ix), .second, .val (.int ot), .val (.ref b2), .val (.ref b20), .val (.int (1 : Int32)), .val (.ref b150), .val (.ref b171), .val (.ref b177), .val (.int (1 : Int32)), .val (.int (((ot &&& (65535 : Int32))).toUInt32.toUInt16.toUInt32.toInt32)), .val (.ref b219), .val (.int (0 : Int32))]) rfl ?_
            refine g_iload cx d0_219 rfl ?_
            refine g_retZ cx d0_221 rfl rfl (by decide) (by decide) ?_
            rfl
          · refine g_iconst cx d0_204 (v := (1 : Int32)) rfl ?_
            refine g_goto cx d0_205 ?_
            refine g_icmp_ne cx d0_209 (fun hc209 => ?_) (fun q => absurd q (fun q => by revert q; decide))
            refine g_iconst cx d0_216 (v := (0 : Int32)) rfl ?_
            refine g_istore cx d0_217 (Ls' := #[.val (.int sel), .val (.long ix), .second, .val (.int ot), .val (.ref b2), .val (.ref b20), .val (.int (1 : Int32)), .val (.ref b150), .val (.ref b171), .val (.ref b177), .val (.int (0 : Int32)), .val (.int (((ot &&& (65535 : Int32))).toUInt32.toUInt16.toUInt32.toInt32)), .val (.ref b219), .val (.int (0 : Int32))]) rfl ?_
            refine g_iload cx d0_219 rfl ?_
            refine g_retZ cx d0_221 rfl rfl (by decide) (by decide) ?_
            exfalso
            have i_hs37 : ((sel &&& (3 : Int32))).toInt = ((1 : Int32)).toInt := congrArg Int32.toInt hs37
            have i_hq188 : ¬ ((nar .char (80 : Int32))).toInt = ((66 : Int32)).toInt := fun z => hq188 (Int32.toInt_inj.mp z)
            have i_hq189 : ((nar .char (80 : Int32))).toInt = ((80 : Int32)).toInt := congrArg Int32.toInt hq189
            have i_hc104 : ((1 : Int32)).toInt = ((1 : Int32)).toInt := congrArg Int32.toInt hc104
            have i_hq233 : ¬ ((nar .char (((ot &&& (65535 : Int32))).toUInt32.toUInt16.toUInt32.toInt32))).toInt = ((66 : Int32)).toInt := fun z => hq233 (Int32.toInt_inj.mp z)
            have i_hq234 : ¬ ((nar .char (((ot &&& (65535 : Int32))).toUInt32.toUInt16.toUInt32.toInt32))).toInt = ((80 : Int32)).toInt := fun z => hq234 (Int32.toInt_inj.mp z)
            have i_hc146 : ¬ ((1 : Int32)).toInt = ((0 : Int32)).toInt := fun z => hc146 (Int32.toInt_inj.mp z)
            have i_hc151 : ¬ ((0 : Int32)).toInt < ((0 : Int32)).toInt := fun z => hc151 (Int32.lt_iff_toInt_lt.mpr z)
            have i_hc157 : ¬ ((2 : Int32)).toInt < ((0 : Int32)).toInt := fun z => hc157 (Int32.lt_iff_toInt_lt.mpr z)
            have i_hc163 : ¬ ((0 : Int32)).toInt = ((1 : Int32)).toInt := fun z => hc163 (Int32.toInt_inj.mp z)
            have i_hc175 : ¬ ((((ot &&& (65535 : Int32))).toUInt32.toUInt16.toUInt32.toInt32)).toInt = ((80 : Int32)).toInt := fun z => hc175 (Int32.toInt_inj.mp z)
            have i_hc183 : ((0 : Int32)).toInt = ((0 : Int32)).toInt := congrArg Int32.toInt hc183
            have i_hc189 : ¬ ((0 : Int32)).toInt = ((2 : Int32)).toInt := fun z => hc189 (Int32.toInt_inj.mp z)
            have i_hc201 : ((((ot &&& (65535 : Int32))).toUInt32.toUInt16.toUInt32.toInt32)).toInt = ((66 : Int32)).toInt := congrArg Int32.toInt hc201
            have i_hc209 : ¬ ((0 : Int32)).toInt = ((1 : Int32)).toInt := fun z => hc209 (Int32.toInt_inj.mp z)
            have r2 := rng32 sel
            have e1 : ((sel &&& (3 : Int32))).toInt = (sel).toInt % 4 := c_mask sel (3 : Int32) 2 (by decide) (by decide)
            have e3 : (1 : Int32).toInt = 1 := rfl
            have e5 : (80 : Int32).toInt = 80 := rfl
            have e4 : (((nar .char (80 : Int32))).toInt - ((80 : Int32)).toInt) % 65536 = 0 ∧ 0 ≤ ((nar .char (80 : Int32))).toInt ∧ ((nar .char (80 : Int32))).toInt < 65536 := c_i2c (80 : Int32)
            have e6 : (66 : Int32).toInt = 66 := rfl
            have r10 := rng32 ot
            have e9 : ((ot &&& (65535 : Int32))).toInt = (ot).toInt % 65536 := c_mask ot (65535 : Int32) 16 (by decide) (by decide)
            have e8 := c_i2c (ot &&& (65535 : Int32))
            have e7 : (((nar .char (((ot &&& (65535 : Int32))).toUInt32.toUInt16.toUInt32.toInt32))).toInt - ((((ot &&& (65535 : Int32))).toUInt32.toUInt16.toUInt32.toInt32)).toInt) % 65536 = 0 ∧ 0 ≤ ((nar .char (((ot &&& (65535 : Int32))).toUInt32.toUInt16.toUInt32.toInt32))).toInt ∧ ((nar .char (((ot &&& (65535 : Int32))).toUInt32.toUInt16.toUInt32.toInt32))).toInt < 65536 := c_i2c (((ot &&& (65535 : Int32))).toUInt32.toUInt16.toUInt32.toInt32)
            have e11 : (0 : Int32).toInt = 0 := rfl
            have e12 : (2 : Int32).toInt = 2 := rfl
            omega
        · refine g_iconst cx d0_178 (v := (1 : Int32)) rfl ?_
          refine g_goto cx d0_179 ?_
          refine g_icmp_ne cx d0_183 (fun hc183 => ?_) (fun q => absurd q (fun q => by revert q; decide))
          refine g_iconst cx d0_216 (v := (0 : Int32)) rfl ?_
          refine g_istore cx d0_217 (Ls' := #[.val (.int sel), .val (.long ix), .second, .val (.int ot), .val (.ref b2), .val (.ref b20), .val (.int (1 : Int32)), .val (.ref b150), .val (.ref b171), .val (.ref b177), .val (.int (0 : Int32)), .val (.int (((ot &&& (65535 : Int32))).toUInt32.toUInt16.toUInt32.toInt32)), .val (.ref b219), .val (.int (0 : Int32))]) rfl ?_
          refine g_iload cx d0_219 rfl ?_
          refine g_retZ cx d0_221 rfl rfl (by decide) (by decide) ?_
          exfalso
          have i_hs37 : ((sel &&& (3 : Int32))).toInt = ((1 : Int32)).toInt := congrArg Int32.toInt hs37
          have i_hq188 : ¬ ((nar .char (80 : Int32))).toInt = ((66 : Int32)).toInt := fun z => hq188 (Int32.toInt_inj.mp z)
          have i_hq189 : ((nar .char (80 : Int32))).toInt = ((80 : Int32)).toInt := congrArg Int32.toInt hq189
          have i_hc104 : ((1 : Int32)).toInt = ((1 : Int32)).toInt := congrArg Int32.toInt hc104
          have i_hq233 : ¬ ((nar .char (((ot &&& (65535 : Int32))).toUInt32.toUInt16.toUInt32.toInt32))).toInt = ((66 : Int32)).toInt := fun z => hq233 (Int32.toInt_inj.mp z)
          have i_hq234 : ¬ ((nar .char (((ot &&& (65535 : Int32))).toUInt32.toUInt16.toUInt32.toInt32))).toInt = ((80 : Int32)).toInt := fun z => hq234 (Int32.toInt_inj.mp z)
          have i_hc146 : ¬ ((1 : Int32)).toInt = ((0 : Int32)).toInt := fun z => hc146 (Int32.toInt_inj.mp z)
          have i_hc151 : ¬ ((0 : Int32)).toInt < ((0 : Int32)).toInt := fun z => hc151 (Int32.lt_iff_toInt_lt.mpr z)
          have i_hc157 : ¬ ((2 : Int32)).toInt < ((0 : Int32)).toInt := fun z => hc157 (Int32.lt_iff_toInt_lt.mpr z)
          have i_hc163 : ¬ ((0 : Int32)).toInt = ((1 : Int32)).toInt := fun z => hc163 (Int32.toInt_inj.mp z)
          have i_hc175 : ((((ot &&& (65535 : Int32))).toUInt32.toUInt16.toUInt32.toInt32)).toInt = ((80 : Int32)).toInt := congrArg Int32.toInt hc175
          have i_hc183 : ¬ ((0 : Int32)).toInt = ((1 : Int32)).toInt := fun z => hc183 (Int32.toInt_inj.mp z)
          have r2 := rng32 sel
          have e1 : ((sel &&& (3 : Int32))).toInt = (sel).toInt % 4 := c_mask sel (3 : Int32) 2 (by decide) (by decide)
          have e3 : (1 : Int32).toInt = 1 := rfl
          have e5 : (80 : Int32).toInt = 80 := rfl
          have e4 : (((nar .char (80 : Int32))).toInt - ((80 : Int32)).toInt) % 65536 = 0 ∧ 0 ≤ ((nar .char (80 : Int32))).toInt ∧ ((nar .char (80 : Int32))).toInt < 65536 := c_i2c (80 : Int32)
          have e6 : (66 : Int32).toInt = 66 := rfl
          have r10 := rng32 ot
          have e9 : ((ot &&& (65535 : Int32))).toInt = (ot).toInt % 65536 := c_mask ot (65535 : Int32) 16 (by decide) (by decide)
          have e8 := c_i2c (ot &&& (65535 : Int32))
          have e7 : (((nar .char (((ot &&& (65535 : Int32))).toUInt32.toUInt16.toUInt32.toInt32))).toInt - ((((ot &&& (65535 : Int32))).toUInt32.toUInt16.toUInt32.toInt32)).toInt) % 65536 = 0 ∧ 0 ≤ ((nar .char (((ot &&& (65535 : Int32))).toUInt32.toUInt16.toUInt32.toInt32))).toInt ∧ ((nar .char (((ot &&& (65535 : Int32))).toUInt32.toUInt16.toUInt32.toInt32))).toInt < 65536 := c_i2c (((ot &&& (65535 : Int32))).toUInt32.toUInt16.toUInt32.toInt32)
          have e11 : (0 : Int32).toInt = 0 := rfl
          have e12 : (2 : Int32).toInt = 2 := rfl
          omega
    · refine G.cast (st' := [(.int (0 : Int32))]) ?_ rfl
      refine g_aload cx d0_99 rfl rfl ?_
      refine g_iload cx d0_101 rfl ?_
      refine g_iaload cx d0_103 A_b20.1 ⟨by decide, by decide⟩ (v := (.int (1 : Int32))) rfl ?_
      refine g_icmp_ne cx d0_104 (fun hc104 => ?_) (fun q => absurd q (fun q => by revert q; decide))
      refine g_iconst cx d0_111 (v := (0 : Int32)) rfl ?_
      refine g_istore cx d0_112 (Ls' := #[.val (.int sel), .val (.long ix), .second, .val (.int ot), .val (.ref b2), .val (.ref b20), .val (.int (1 : Int32)), .val (.ref b150), .val (.ref b171), .val (.ref b177), .val (.int (0 : Int32)), .unset, .unset, .unset]) rfl ?_
      refine g_iloadN cx d0_114 rfl ?_
      refine g_ldcI cx d0_115 (hw _ (List.mem_of_getElem? (i := 93) rfl)) ?_
      refine g_iand cx d0_117 ?_
      refine g_i2c cx d0_118 ?_
      refine g_istore cx d0_119 (Ls' := #[.val (.int sel), .val (.long ix), .second, .val (.int ot), .val (.ref b2), .val (.ref b20), .val (.int (1 : Int32)), .val (.ref b150), .val (.ref b171), .val (.ref b177), .val (.int (0 : Int32)), .val (.int (((ot &&& (65535 : Int32))).toUInt32.toUInt16.toUInt32.toInt32)), .unset, .unset]) rfl ?_
      refine g_new cx d0_121 (hw _ (List.mem_of_getElem? (i := 68) rfl)) (hw _ (List.mem_of_getElem? (i := 69) rfl)) (hw _ (List.mem_of_getElem? (i := 70) rfl)) (k' := 8) (n' := 32) rfl rfl (by decide) (by decide) (fun h239 b240 gb241 E242 X243 D244 => ?_)
      have ne_b150_b240 : b150 ≠ b240 := Nat.ne_of_lt (by rw [gb241]; exact O_b150.lt)
      have ne_b159_b240 : b159 ≠ b240 := Nat.ne_of_lt (by rw [gb241]; exact O_b159.lt)
      have ne_b177_b240 : b177 ≠ b240 := Nat.ne_of_lt (by rw [gb241]; exact O_b177.lt)
      have ne_b2_b240 : b2 ≠ b240 := Nat.ne_of_lt (by rw [gb241]; exact A_b2.lt)
      have ne_b20_b240 : b20 ≠ b240 := Nat.ne_of_lt (by rw [gb241]; exact A_b20.lt)
      have ne_b164_b240 : b164 ≠ b240 := Nat.ne_of_lt (by rw [gb241]; exact A_b164.lt)
      have ne_b171_b240 : b171 ≠ b240 := Nat.ne_of_lt (by rw [gb241]; exact A_b171.lt)
      have g_b240 : Z.heap.size ≤ b240 := by rw [gb241]; exact OL.2.1
      have O_b150 := O_b150.ext E242
      have O_b159 := O_b159.ext E242
      have O_b177 := O_b177.ext E242
      have A_b2 := A_b2.ext E242
      have A_b20 := A_b20.ext E242
      have A_b164 := A_b164.ext E242
      have A_b171 := A_b171.ext E242
      have OL := OL.ext E242
      have A_dc := AD.ext OL.2
      have O_b240 := ObP.new hw X243 D244
      refine g_dup cx d0_124 rfl ?_
      refine g_lloadN cx d0_125 rfl ?_
      refine g_iload cx d0_126 rfl ?_
      refine g_aload cx d0_128 rfl rfl ?_
      refine g_aload cx d0_130 rfl rfl ?_
      refine g_special cx (y := (⟨"com/example/thalweg/thalweg/cli/Mpeg1Reader$Picture", "<init>", "(JCLjava/util/List;[B)V"⟩ : MethodName)) (a := b240) d0_132 rfl rfl (hw _ (List.mem_of_getElem? (i := 71) rfl)) (hw _ (List.mem_of_getElem? (i := 72) rfl)) (hw _ (List.mem_of_getElem? (i := 70) rfl)) (hw _ (List.mem_of_getElem? (i := 73) rfl)) (by decide) (bytes := prog_8_method_1_code) (maxL' := 6) (M := (ra11 l Z a0 hw dc lc cdc clc SDC AD SLC BX b240 b150 b164 b159 b171 ix (((ot &&& (65535 : Int32))).toUInt32.toUInt16.toUInt32.toInt32) cA165 cA172 _ O_b240 O_b150 O_b159 A_b164 A_b171 OV_b164 (Ne.symm ne_b150_b240) (Ne.symm ne_b164_b240) ne_b150_b164 (Ne.symm ne_b171_b240) ne_b150_b171 ne_b164_b171 g_b240 g_b150 g_b164 g_b171 OL)) rfl (lenOf pd_8 rfl) (by decide) (W := 1) (Nat.le_of_eq rfl) (by decide) (k' := 8) (n' := 32) rfl rfl (by decide) (by decide) (argsL := [(.long ix), (.int (((ot &&& (65535 : Int32))).toUInt32.toUInt16.toUInt32.toInt32)), (.ref b150), (.ref b171)]) (rest := [(.ref b240)]) rfl (fun v247 h246 q248 => ?_)
      obtain ⟨rfl, K245, O_b240⟩ := q248
      have O_b150 := O_b150.keep K245 (ninS ne_b150_b240 nin0)
      have O_b159 := O_b159.keepX K245
      have O_b177 := O_b177.keep K245 (ninS ne_b177_b240 nin0)
      have A_b2 := A_b2.keep K245 (ninS ne_b2_b240 nin0)
      have A_b20 := A_b20.keep K245 (ninS ne_b20_b240 nin0)
      have A_b164 := A_b164.keep K245 (ninS ne_b164_b240 nin0)
      have A_b171 := A_b171.keep K245 (ninS ne_b171_b240 nin0)
      have OL := OL.keep K245 (allS g_b240 all0)
      have A_dc := AD.ext OL.2
      refine G.cast (st' := [(.ref b240)]) ?_ rfl
      refine g_astore cx d0_135 rfl (Ls' := #[.val (.int sel), .val (.long ix), .second, .val (.int ot), .val (.ref b2), .val (.ref b20), .val (.int (1 : Int32)), .val (.ref b150), .val (.ref b171), .val (.ref b177), .val (.int (0 : Int32)), .val (.int (((ot &&& (65535 : Int32))).toUInt32.toUInt16.toUInt32.toInt32)), .val (.ref b240), .unset]) rfl ?_
      refine g_aload cx d0_137 rfl rfl ?_
      refine g_virtual cx (y := (⟨"com/example/thalweg/thalweg/cli/Mpeg1Reader$Picture", "rank", "()I"⟩ : MethodName)) (z := (⟨"com/example/thalweg/thalweg/cli/Mpeg1Reader$Picture", "rank", "()I"⟩ : MethodName)) (a := b240) d0_139 (hw _ (List.mem_of_getElem? (i := 88) rfl)) (hw _ (List.mem_of_getElem? (i := 89) rfl)) (hw _ (List.mem_of_getElem? (i := 70) rfl)) (hw _ (List.mem_of_getElem? (i := 92) rfl)) (hw _ (List.mem_of_getElem? (i := 91) rfl)) (hw _ (List.mem_of_getElem? (i := 90) rfl)) rfl (by decide) O_b240.1 (bytes := prog_8_method_2_code) (maxL' := 1) (M := (ra10 l Z a0 hw dc lc cdc clc SDC AD SLC BX b240 b150 b164 b159 b171 ix (nar .char (((ot &&& (65535 : Int32))).toUInt32.toUInt16.toUInt32.toInt32)) cA165 cA172 _ O_b240 O_b150 O_b159 A_b164 A_b171 OV_b164 (Ne.symm ne_b150_b240) (Ne.symm ne_b164_b240) ne_b150_b164 (Ne.symm ne_b171_b240) ne_b150_b171 ne_b164_b171 g_b240 g_b150 g_b164 g_b171 OL)) rfl (lenOf pd_9 rfl) (by decide) (W := 0) (Nat.le_of_eq rfl) (by decide) (k' := 8) (n' := 32) rfl rfl (by decide) (by decide) (argsL := []) (rest := []) rfl (fun v258 h257 q259 => ?_)
      rcases q259 with ⟨hq249, rfl, rfl⟩ | ⟨hq251, hq252, rfl, rfl⟩ | ⟨hq254, hq255, rfl, rfl⟩
      · refine G.cast (st' := [(.int (2 : Int32))]) ?_ rfl
        refine g_istore cx d0_142 (Ls' := #[.val (.int sel), .val (.long ix), .second, .val (.int ot), .val (.ref b2), .val (.ref b20), .val (.int (1 : Int32)), .val (.ref b150), .val (.ref b171), .val (.ref b177), .val (.int (0 : Int32)), .val (.int (((ot &&& (65535 : Int32))).toUInt32.toUInt16.toUInt32.toInt32)), .val (.ref b240), .val (.int (2 : Int32))]) rfl ?_
        refine g_iload cx d0_144 rfl ?_
        refine g_if_eq cx d0_146 (fun hc146 => ?_) (fun q => absurd q (fun q => by revert q; decide))
        refine g_iconst cx d0_216 (v := (0 : Int32)) rfl ?_
        refine g_istore cx d0_217 (Ls' := #[.val (.int sel), .val (.long ix), .second, .val (.int ot), .val (.ref b2), .val (.ref b20), .val (.int (1 : Int32)), .val (.ref b150), .val (.ref b171), .val (.ref b177), .val (.int (0 : Int32)), .val (.int (((ot &&& (65535 : Int32))).toUInt32.toUInt16.toUInt32.toInt32)), .val (.ref b240), .val (.int (2 : Int32))]) rfl ?_
        refine g_iload cx d0_219 rfl ?_
        refine g_retZ cx d0_221 rfl rfl (by decide) (by decide) ?_
        exfalso
        have i_hs37 : ((sel &&& (3 : Int32))).toInt = ((1 : Int32)).toInt := congrArg Int32.toInt hs37
        have i_hq191 : ¬ ((nar .char (80 : Int32))).toInt = ((66 : Int32)).toInt := fun z => hq191 (Int32.toInt_inj.mp z)
        have i_hq192 : ¬ ((nar .char (80 : Int32))).toInt = ((80 : Int32)).toInt := fun z => hq192 (Int32.toInt_inj.mp z)
        have i_hc104 : ¬ ((0 : Int32)).toInt = ((1 : Int32)).toInt := fun z => hc104 (Int32.toInt_inj.mp z)
        have i_hq249 : ((nar .char (((ot &&& (65535 : Int32))).toUInt32.toUInt16.toUInt32.toInt32))).toInt = ((66 : Int32)).toInt := congrArg Int32.toInt hq249
        have i_hc146 : ((0 : Int32)).toInt = ((0 : Int32)).toInt := congrArg Int32.toInt hc146
        have r2 := rng32 sel
        have e1 : ((sel &&& (3 : Int32))).toInt = (sel).toInt % 4 := c_mask sel (3 : Int32) 2 (by decide) (by decide)
        have e3 : (1 : Int32).toInt = 1 := rfl
        have e5 : (80 : Int32).toInt = 80 := rfl
        have e4 : (((nar .char (80 : Int32))).toInt - ((80 : Int32)).toInt) % 65536 = 0 ∧ 0 ≤ ((nar .char (80 : Int32))).toInt ∧ ((nar .char (80 : Int32))).toInt < 65536 := c_i2c (80 : Int32)
        have e6 : (66 : Int32).toInt = 66 := rfl
        have e7 : (0 : Int32).toInt = 0 := rfl
        have r11 := rng32 ot
        have e10 : ((ot &&& (65535 : Int32))).toInt = (ot).toInt % 65536 := c_mask ot (65535 : Int32) 16 (by decide) (by decide)
        have e9 := c_i2c (ot &&& (65535 : Int32))
        have e8 : (((nar .char (((ot &&& (65535 : Int32))).toUInt32.toUInt16.toUInt32.toInt32))).toInt - ((((ot &&& (65535 : Int32))).toUInt32.toUInt16.toUInt32.toInt32)).toInt) % 65536 = 0 ∧ 0 ≤ ((nar .char (((ot &&& (65535 : Int32))).toUInt32.toUInt16.toUInt32.toInt32))).toInt ∧ ((nar .char (((ot &&& (65535 : Int32))).toUInt32.toUInt16.toUInt32.toInt32))).toInt < 65536 := c_i2c (((ot &&& (65535 : Int32))).toUInt32.toUInt16.toUInt32.toInt32)
        omega
      · refine G.cast (st' := [(.int (1 : Int32))]) ?_ rfl
        refine g_istore cx d0_142 (Ls' := #[.val (.int sel), .val (.long ix), .second, .val (.int ot), .val (.ref b2), .val (.ref b20), .val (.int (1 : Int32)), .val (.ref b150), .val (.ref b171), .val (.ref b177), .val (.int (0 : Int32)), .val (.int (((ot &&& (65535 : Int32))).toUInt32.toUInt16.toUInt32.toInt32)), .val (.ref b240), .val (.int (1 : Int32))]) rfl ?_
        refine g_iload cx d0_144 rfl ?_
        refine g_if_eq cx d0_146 (fun hc146 => ?_) (fun q => absurd q (fun q => by revert q; decide))
        refine g_iconst cx d0_216 (v := (0 : Int32)) rfl ?_
        refine g_istore cx d0_217 (Ls' := #[.val (.int sel), .val (.long ix), .second, .val (.int ot), .val (.ref b2), .val (.ref b20), .val (.int (1 : Int32)), .val (.ref b150), .val (.ref b171), .val (.ref b177), .val (.int (0 : Int32)), .val (.int (((ot &&& (65535 : Int32))).toUInt32.toUInt16.toUInt32.toInt32)), .val (.ref b240), .val (.int (1 : Int32))]) rfl ?_
        refine g_iload cx d0_219 rfl ?_
        refine g_retZ cx d0_221 rfl rfl (by decide) (by decide) ?_
        exfalso
        have i_hs37 : ((sel &&& (3 : Int32))).toInt = ((1 : Int32)).toInt := congrArg Int32.toInt hs37
        have i_hq191 : ¬ ((nar .char (80 : Int32))).toInt = ((66 : Int32)).toInt := fun z => hq191 (Int32.toInt_inj.mp z)
        have i_hq192 : ¬ ((nar .char (80 : Int32))).toInt = ((80 : Int32)).toInt := fun z => hq192 (Int32.toInt_inj.mp z)
        have i_hc104 : ¬ ((0 : Int32)).toInt = ((1 : Int32)).toInt := fun z => hc104 (Int32.toInt_inj.mp z)
        have i_hq251 : ¬ ((nar .char (((ot &&& (65535 : Int32))).toUInt32.toUInt16.toUInt32.toInt32))).toInt = ((66 : Int32)).toInt := fun z => hq251 (Int32.toInt_inj.mp z)
        have i_hq252 : ((nar .char (((ot &&& (65535 : Int32))).toUInt32.toUInt16.toUInt32.toInt32))).toInt = ((80 : Int32)).toInt := congrArg Int32.toInt hq252
        have i_hc146 : ((0 : Int32)).toInt = ((0 : Int32)).toInt := congrArg Int32.toInt hc146
        have r2 := rng32 sel
        have e1 : ((sel &&& (3 : Int32))).toInt = (sel).toInt % 4 := c_mask sel (3 : Int32) 2 (by decide) (by decide)
        have e3 : (1 : Int32).toInt = 1 := rfl
        have e5 : (80 : Int32).toInt = 80 := rfl
        have e4 : (((nar .char (80 : Int32))).toInt - ((80 : Int32)).toInt) % 65536 = 0 ∧ 0 ≤ ((nar .char (80 : Int32))).toInt ∧ ((nar .char (80 : Int32))).toInt < 65536 := c_i2c (80 : Int32)
        have e6 : (66 : Int32).toInt = 66 := rfl
        have e7 : (0 : Int32).toInt = 0 := rfl
        have r11 := rng32 ot
        have e10 : ((ot &&& (65535 : Int32))).toInt = (ot).toInt % 65536 := c_mask ot (65535 : Int32) 16 (by decide) (by decide)
        have e9 := c_i2c (ot &&& (65535 : Int32))
        have e8 : (((nar .char (((ot &&& (65535 : Int32))).toUInt32.toUInt16.toUInt32.toInt32))).toInt - ((((ot &&& (65535 : Int32))).toUInt32.toUInt16.toUInt32.toInt32)).toInt) % 65536 = 0 ∧ 0 ≤ ((nar .char (((ot &&& (65535 : Int32))).toUInt32.toUInt16.toUInt32.toInt32))).toInt ∧ ((nar .char (((ot &&& (65535 : Int32))).toUInt32.toUInt16.toUInt32.toInt32))).toInt < 65536 := c_i2c (((ot &&& (65535 : Int32))).toUInt32.toUInt16.toUInt32.toInt32)
        omega
      · refine G.cast (st' := [(.int (0 : Int32))]) ?_ rfl
        refine g_istore cx d0_142 (Ls' := #[.val (.int sel), .val (.long ix), .second, .val (.int ot), .val (.ref b2), .val (.ref b20), .val (.int (1 : Int32)), .val (.ref b150), .val (.ref b171), .val (.ref b177), .val (.int (0 : Int32)), .val (.int (((ot &&& (65535 : Int32))).toUInt32.toUInt16.toUInt32.toInt32)), .val (.ref b240), .val (.int (0 : Int32))]) rfl ?_
        refine g_iload cx d0_144 rfl ?_
        refine g_if_eq cx d0_146 (fun hc146 => ?_) (fun q => absurd q (fun q => by revert q; decide))
        refine g_iconst cx d0_216 (v := (0 : Int32)) rfl ?_
        refine g_istore cx d0_217 (Ls' := #[.val (.int sel), .val (.long ix), .second, .val (.int ot), .val (.ref b2), .val (.ref b20), .val (.int (1 : Int32)), .val (.ref b150), .val (.ref b171), .val (.ref b177), .val (.int (0 : Int32)), .val (.int (((ot &&& (65535 : Int32))).toUInt32.toUInt16.toUInt32.toInt32)), .val (.ref b240), .val (.int (0 : Int32))]) rfl ?_
        refine g_iload cx d0_219 rfl ?_
        refine g_retZ cx d0_221 rfl rfl (by decide) (by decide) ?_
        exfalso
        have i_hs37 : ((sel &&& (3 : Int32))).toInt = ((1 : Int32)).toInt := congrArg Int32.toInt hs37
        have i_hq191 : ¬ ((nar .char (80 : Int32))).toInt = ((66 : Int32)).toInt := fun z => hq191 (Int32.toInt_inj.mp z)
        have i_hq192 : ¬ ((nar .char (80 : Int32))).toInt = ((80 : Int32)).toInt := fun z => hq192 (Int32.toInt_inj.mp z)
        have i_hc104 : ¬ ((0 : Int32)).toInt = ((1 : Int32)).toInt := fun z => hc104 (Int32.toInt_inj.mp z)
        have i_hq254 : ¬ ((nar .char (((ot &&& (65535 : Int32))).toUInt32.toUInt16.toUInt32.toInt32))).toInt = ((66 : Int32)).toInt := fun z => hq254 (Int32.toInt_inj.mp z)
        have i_hq255 : ¬ ((nar .char (((ot &&& (65535 : Int32))).toUInt32.toUInt16.toUInt32.toInt32))).toInt = ((80 : Int32)).toInt := fun z => hq255 (Int32.toInt_inj.mp z)
        have i_hc146 : ((0 : Int32)).toInt = ((0 : Int32)).toInt := congrArg Int32.toInt hc146
        have r2 := rng32 sel
        have e1 : ((sel &&& (3 : Int32))).toInt = (sel).toInt % 4 := c_mask sel (3 : Int32) 2 (by decide) (by decide)
        have e3 : (1 : Int32).toInt = 1 := rfl
        have e5 : (80 : Int32).toInt = 80 := rfl
        have e4 : (((nar .char (80 : Int32))).toInt - ((80 : Int32)).toInt) % 65536 = 0 ∧ 0 ≤ ((nar .char (80 : Int32))).toInt ∧ ((nar .char (80 : Int32))).toInt < 65536 := c_i2c (80 : Int32)
        have e6 : (66 : Int32).toInt = 66 := rfl
        have e7 : (0 : Int32).toInt = 0 := rfl
        have r11 := rng32 ot
        have e10 : ((ot &&& (65535 : Int32))).toInt = (ot).toInt % 65536 := c_mask ot (65535 : Int32) 16 (by decide) (by decide)
        have e9 := c_i2c (ot &&& (65535 : Int32))
        have e8 : (((nar .char (((ot &&& (65535 : Int32))).toUInt32.toUInt16.toUInt32.toInt32))).toInt - ((((ot &&& (65535 : Int32))).toUInt32.toUInt16.toUInt32.toInt32)).toInt) % 65536 = 0 ∧ 0 ≤ ((nar .char (((ot &&& (65535 : Int32))).toUInt32.toUInt16.toUInt32.toInt32))).toInt ∧ ((nar .char (((ot &&& (65535 : Int32))).toUInt32.toUInt16.toUInt32.toInt32))).toInt < 65536 := c_i2c (((ot &&& (65535 : Int32))).toUInt32.toUInt16.toUInt32.toInt32)
        omega
  · rw [hs37]
    refine g_istore cx d0_49 (Ls' := #[.val (.int sel), .val (.long ix), .second, .val (.int ot), .val (.ref b2), .val (.ref b20), .val (.int (2 : Int32)), .unset, .unset, .unset, .unset, .unset, .unset, .unset]) rfl ?_
    refine g_new cx d0_51 (hw _ (List.mem_of_getElem? (i := 2) rfl)) (hw _ (List.mem_of_getElem? (i := 3) rfl)) (hw _ (List.mem_of_getElem? (i := 4) rfl)) (k' := 3) (n' := 11) rfl rfl (by decide) (by decide) (fun h260 b261 gb262 E263 X264 D265 => ?_)
    have ne_b2_b261 : b2 ≠ b261 := Nat.ne_of_lt (by rw [gb262]; exact A_b2.lt)
    have ne_b20_b261 : b20 ≠ b261 := Nat.ne_of_lt (by rw [gb262]; exact A_b20.lt)
    have g_b261 : Z.heap.size ≤ b261 := by rw [gb262]; exact OL.2.1
    have A_b2 := A_b2.ext E263
    have A_b20 := A_b20.ext E263
    have OL := OL.ext E263
    have A_dc := AD.ext OL.2
    have O_b261 := ObA.new hw X264 D265
    refine g_dup cx d0_54 rfl ?_
    refine g_special cx (y := (⟨"java/util/ArrayList", "<init>", "()V"⟩ : MethodName)) (a := b261) d0_55 rfl rfl (hw _ (List.mem_of_getElem? (i := 5) rfl)) (hw _ (List.mem_of_getElem? (i := 6) rfl)) (hw _ (List.mem_of_getElem? (i := 4) rfl)) (hw _ (List.mem_of_getElem? (i := 7) rfl)) (by decide) (bytes := jdk_38_method_2_code) (maxL' := 1) (M := (ra2 l Z a0 hw dc lc cdc clc SDC AD SLC BX b261 _ O_b261 g_b261 OL)) rfl (lenOf pd_0 rfl) (by decide) (W := 1) (Nat.le_of_eq rfl) (by decide) (k' := 3) (n' := 11) rfl rfl (by decide) (by decide) (argsL := []) (rest := [(.ref b261)]) rfl (fun v268 h267 q269 => ?_)
    obtain ⟨rfl, K266, O_b261⟩ := q269
    have A_b2 := A_b2.keep K266 (ninS ne_b2_b261 nin0)
    have A_b20 := A_b20.keep K266 (ninS ne_b20_b261 nin0)
    have OL := OL.keep K266 (allS g_b261 all0)
    have A_dc := AD.ext OL.2
    refine G.cast (st' := [(.ref b261)]) ?_ rfl
    refine g_astore cx d0_58 rfl (Ls' := #[.val (.int sel), .val (.long ix), .second, .val (.int ot), .val (.ref b2), .val (.ref b20), .val (.int (2 : Int32)), .val (.ref b261), .unset, .unset, .unset, .unset, .unset, .unset]) rfl ?_
    refine g_aload cx d0_60 rfl rfl ?_
    refine g_lloadN cx d0_62 rfl ?_
    refine g_static cx (y := (⟨"java/lang/Long", "valueOf", "(J)Ljava/lang/Long;"⟩ : MethodName)) d0_63 (hw _ (List.mem_of_getElem? (i := 28) rfl)) (hw _ (List.mem_of_getElem? (i := 29) rfl)) (hw _ (List.mem_of_getElem? (i := 30) rfl)) (hw _ (List.mem_of_getElem? (i := 31) rfl)) (by decide) (bytes := jdk_35_method_24_code) (maxL' := 3) (M := (rmV l Z a0 hw _ _ OL dc lc cdc clc SDC AD SLC BX)) rfl (lenOf pd_2 rfl) (by decide) (W := 1) (Nat.le_of_eq rfl) (by decide) (k' := 4) (n' := 12) rfl rfl (by decide) (by decide) (argsL := [(.long ix)]) (rest := [(.ref b261)]) rfl (fun v273 h272 q274 => ?_)
    obtain ⟨b270, rfl, K271, O_b270⟩ := q274
    have O_b261 := O_b261.keep K271 nin0
    have A_b2 := A_b2.keep K271 nin0
    have A_b20 := A_b20.keep K271 nin0
    have OL := OL.keep K271 all0
    have A_dc := AD.ext OL.2
    refine G.cast (st' := [(.ref b270), (.ref b261)]) ?_ rfl
    have lt_b261 := O_b261.lt
    refine g_virtual cx (y := (⟨"java/util/ArrayList", "add", "(Ljava/lang/Object;)Z"⟩ : MethodName)) (z := (⟨"java/util/ArrayList", "add", "(Ljava/lang/Object;)Z"⟩ : MethodName)) (a := b261) d0_66 (hw _ (List.mem_of_getElem? (i := 36) rfl)) (hw _ (List.mem_of_getElem? (i := 37) rfl)) (hw _ (List.mem_of_getElem? (i := 4) rfl)) (hw _ (List.mem_of_getElem? (i := 40) rfl)) (hw _ (List.mem_of_getElem? (i := 39) rfl)) (hw _ (List.mem_of_getElem? (i := 38) rfl)) rfl (by decide) O_b261.1 (bytes := jdk_38_method_25_code) (maxL' := 2) (M := (ra4 l Z a0 hw dc lc cdc clc SDC AD SLC BX b261 b270 _ O_b261 O_b270 g_b261 OL)) rfl (lenOf pd_7 rfl) (by decide) (W := 0) (Nat.le_of_eq rfl) (by decide) (k' := 5) (n' := 22) rfl rfl (by decide) (by decide) (argsL := [(.ref b270)]) (rest := []) rfl (fun v279 h278 q280 => ?_)
    obtain ⟨b275, cA276, rfl, K277, sq_b275, A_b275, OV_b275, O_b261⟩ := q280
    have ne_b261_b275 : b261 ≠ b275 := Nat.ne_of_lt (Nat.lt_of_lt_of_le lt_b261 sq_b275)
    have ne_b270_b275 : b270 ≠ b275 := Nat.ne_of_lt (Nat.lt_of_lt_of_le O_b270.lt sq_b275)
    have ne_b2_b275 : b2 ≠ b275 := Nat.ne_of_lt (Nat.lt_of_lt_of_le A_b2.lt sq_b275)
    have ne_b20_b275 : b20 ≠ b275 := Nat.ne_of_lt (Nat.lt_of_lt_of_le A_b20.lt sq_b275)
    have g_b275 : Z.heap.size ≤ b275 := Nat.le_trans OL.2.1 sq_b275
    have O_b270 := O_b270.keepX K277
    have A_b2 := A_b2.keep K277 (ninS ne_b2_b261 nin0)
    have A_b20 := A_b20.keep K277 (ninS ne_b20_b261 nin0)
    have OL := OL.keep K277 (allS g_b261 all0)
    have A_dc := AD.ext OL.2
    refine G.cast (st' := [(.int (1 : Int32))]) ?_ rfl
    refine g_pop cx d0_69 rfl ?_
    refine g_iconst cx d0_70 (v := (2 : Int32)) rfl ?_
    refine g_newarray cx (ad := "[B") (by decide) d0_71 (hw _ (List.mem_of_getElem? (i := 67) rfl)) (by decide) (cap := 2) (by decide) (by decide) (k' := 6) (n' := 24) rfl rfl (by decide) (by decide) (fun h281 b282 cA283 gb284 E285 X286 => ?_)
    have ne_b261_b282 : b261 ≠ b282 := Nat.ne_of_lt (by rw [gb284]; exact O_b261.lt)
    have ne_b270_b282 : b270 ≠ b282 := Nat.ne_of_lt (by rw [gb284]; exact O_b270.lt)
    have ne_b2_b282 : b2 ≠ b282 := Nat.ne_of_lt (by rw [gb284]; exact A_b2.lt)
    have ne_b20_b282 : b20 ≠ b282 := Nat.ne_of_lt (by rw [gb284]; exact A_b20.lt)
    have ne_b275_b282 : b275 ≠ b282 := Nat.ne_of_lt (by rw [gb284]; exact A_b275.lt)
    have g_b282 : Z.heap.size ≤ b282 := by rw [gb284]; exact OL.2.1
    have O_b261 := O_b261.ext E285
    have O_b270 := O_b270.ext E285
    have A_b2 := A_b2.ext E285
    have A_b20 := A_b20.ext E285
    have A_b275 := A_b275.ext E285
    have OL := OL.ext E285
    have A_dc := AD.ext OL.2
    have A_b282 : Arx Z h281 b282 cA283 .byte (2 : Int32) [(.int (0 : Int32)), (.int (0 : Int32))] (.int (0 : Int32)) "[B" := X286.pad (pad_rep [] (.int (0 : Int32)) 2)
    refine g_astore cx d0_73 rfl (Ls' := #[.val (.int sel), .val (.long ix), .second, .val (.int ot), .val (.ref b2), .val (.ref b20), .val (.int (2 : Int32)), .val (.ref b261), .val (.ref b282), .unset, .unset, .unset, .unset, .unset]) rfl ?_
    refine g_new cx d0_75 (hw _ (List.mem_of_getElem? (i := 68) rfl)) (hw _ (List.mem_of_getElem? (i := 69) rfl)) (hw _ (List.mem_of_getElem? (i := 70) rfl)) (k' := 7) (n' := 28) rfl rfl (by decide) (by decide) (fun h287 b288 gb289 E290 X291 D292 => ?_)
    have ne_b261_b288 : b261 ≠ b288 := Nat.ne_of_lt (by rw [gb289]; exact O_b261.lt)
    have ne_b270_b288 : b270 ≠ b288 := Nat.ne_of_lt (by rw [gb289]; exact O_b270.lt)
    have ne_b2_b288 : b2 ≠ b288 := Nat.ne_of_lt (by rw [gb289]; exact A_b2.lt)
    have ne_b20_b288 : b20 ≠ b288 := Nat.ne_of_lt (by rw [gb289]; exact A_b20.lt)
    have ne_b275_b288 : b275 ≠ b288 := Nat.ne_of_lt (by rw [gb289]; exact A_b275.lt)
    have ne_b282_b288 : b282 ≠ b288 := Nat.ne_of_lt (by rw [gb289]; exact A_b282.lt)
    have g_b288 : Z.heap.size ≤ b288 := by rw [gb289]; exact OL.2.1
    have O_b261 := O_b261.ext E290
    have O_b270 := O_b270.ext E290
    have A_b2 := A_b2.ext E290
    have A_b20 := A_b20.ext E290
    have A_b275 := A_b275.ext E290
    have A_b282 := A_b282.ext E290
    have OL := OL.ext E290
    have A_dc := AD.ext OL.2
    have O_b288 := ObP.new hw X291 D292
    refine g_dup cx d0_78 rfl ?_
    refine g_lloadN cx d0_79 rfl ?_
    refine g_aload cx d0_80 rfl rfl ?_
    refine g_iload cx d0_82 rfl ?_
    refine g_caload cx d0_84 A_b2.1 ⟨by decide, by decide⟩ (v := (.int (66 : Int32))) rfl ?_
    refine g_aload cx d0_85 rfl rfl ?_
    refine g_aload cx d0_87 rfl rfl ?_
    refine g_special cx (y := (⟨"com/example/thalweg/thalweg/cli/Mpeg1Reader$Picture", "<init>", "(JCLjava/util/List;[B)V"⟩ : MethodName)) (a := b288) d0_89 rfl rfl (hw _ (List.mem_of_getElem? (i := 71) rfl)) (hw _ (List.mem_of_getElem? (i := 72) rfl)) (hw _ (List.mem_of_getElem? (i := 70) rfl)) (hw _ (List.mem_of_getElem? (i := 73) rfl)) (by decide) (bytes := prog_8_method_1_code) (maxL' := 6) (M := (ra9 l Z a0 hw dc lc cdc clc SDC AD SLC BX b288 b261 b275 b270 b282 ix (66 : Int32) cA276 cA283 _ O_b288 O_b261 O_b270 A_b275 A_b282 OV_b275 (Ne.symm ne_b261_b288) (Ne.symm ne_b275_b288) ne_b261_b275 (Ne.symm ne_b282_b288) ne_b261_b282 ne_b275_b282 g_b288 g_b261 g_b275 g_b282 OL)) rfl (lenOf pd_8 rfl) (by decide) (W := 1) (Nat.le_of_eq rfl) (by decide) (k' := 7) (n' := 28) rfl rfl (by decide) (by decide) (argsL := [(.long ix), (.int (66 : Int32)), (.ref b261), (.ref b282)]) (rest := [(.ref b288)]) rfl (fun v295 h294 q296 => ?_)
    obtain ⟨rfl, K293, O_b288⟩ := q296
    have O_b261 := O_b261.keep K293 (ninS ne_b261_b288 nin0)
    have O_b270 := O_b270.keepX K293
    have A_b2 := A_b2.keep K293 (ninS ne_b2_b288 nin0)
    have A_b20 := A_b20.keep K293 (ninS ne_b20_b288 nin0)
    have A_b275 := A_b275.keep K293 (ninS ne_b275_b288 nin0)
    have A_b282 := A_b282.keep K293 (ninS ne_b282_b288 nin0)
    have OL := OL.keep K293 (allS g_b288 all0)
    have A_dc := AD.ext OL.2
    refine G.cast (st' := [(.ref b288)]) ?_ rfl
    refine g_astore cx d0_92 rfl (Ls' := #[.val (.int sel), .val (.long ix), .second, .val (.int ot), .val (.ref b2), .val (.ref b20), .val (.int (2 : Int32)), .val (.ref b261), .val (.ref b282), .val (.ref b288), .unset, .unset, .unset, .unset]) rfl ?_
    refine g_aload cx d0_94 rfl rfl ?_
    refine g_virtual cx (y := (⟨"com/example/thalweg/thalweg/cli/Mpeg1Reader$Picture", "rank", "()I"⟩ : MethodName)) (z := (⟨"com/example/thalweg/thalweg/cli/Mpeg1Reader$Picture", "rank", "()I"⟩ : MethodName)) (a := b288) d0_96 (hw _ (List.mem_of_getElem? (i := 88) rfl)) (hw _ (List.mem_of_getElem? (i := 89) rfl)) (hw _ (List.mem_of_getElem? (i := 70) rfl)) (hw _ (List.mem_of_getElem? (i := 92) rfl)) (hw _ (List.mem_of_getElem? (i := 91) rfl)) (hw _ (List.mem_of_getElem? (i := 90) rfl)) rfl (by decide) O_b288.1 (bytes := prog_8_method_2_code) (maxL' := 1) (M := (ra10 l Z a0 hw dc lc cdc clc SDC AD SLC BX b288 b261 b275 b270 b282 ix (nar .char (66 : Int32)) cA276 cA283 _ O_b288 O_b261 O_b270 A_b275 A_b282 OV_b275 (Ne.symm ne_b261_b288) (Ne.symm ne_b275_b288) ne_b261_b275 (Ne.symm ne_b282_b288) ne_b261_b282 ne_b275_b282 g_b288 g_b261 g_b275 g_b282 OL)) rfl (lenOf pd_9 rfl) (by decide) (W := 0) (Nat.le_of_eq rfl) (by decide) (k' := 7) (n' := 28) rfl rfl (by decide) (by decide) (argsL := []) (rest := []) rfl (fun v306 h305 q307 => ?_)
    rcases q307 with ⟨hq297, rfl, rfl⟩ | ⟨hq299, hq300, rfl, rfl⟩ | ⟨hq302, hq303, rfl, rfl⟩
    · refine G.cast (st' := [(.int (2 : Int32))]) ?_ rfl
      refine g_aload cx d0_99 rfl rfl ?_
      refine g_iload cx d0_101 rfl ?_
      refine g_iaload cx d0_103 A_b20.1 ⟨by decide, by decide⟩ (v := (.int (2 : Int32))) rfl ?_
      refine g_icmp_ne cx d0_104 (fun q => absurd q (fun q => by revert q; decide)) (fun hc104 => ?_)
      refine g_iconst cx d0_107 (v := (1 : Int32)) rfl ?_
      refine g_goto cx d0_108 ?_
      refine g_istore cx d0_112 (Ls' := #[.val (.int sel), .val (.long ix), .second, .val (.int ot), .val (.ref b2), .val (.ref b20), .val (.int (2 : Int32)), .val (.ref b261), .val (.ref b282), .val (.ref b288), .val (.int (1 : Int32)), .unset, .unset, .unset]) rfl ?_
      refine g_iloadN cx d0_114 rfl ?_
      refine g_ldcI cx d0_115 (hw _ (List.mem_of_getElem? (i := 93) rfl)) ?_
      refine g_iand cx d0_117 ?_
      refine g_i2c cx d0_118 ?_
      refine g_istore cx d0_119 (Ls' := #[.val (.int sel), .val (.long ix), .second, .val (.int ot), .val (.ref b2), .val (.ref b20), .val (.int (2 : Int32)), .val (.ref b261), .val (.ref b282), .val (.ref b288), .val (.int (1 : Int32)), .val (.int (((ot &&& (65535 : Int32))).toUInt32.toUInt16.toUInt32.toInt32)), .unset, .unset]) rfl ?_
      refine g_new cx d0_121 (hw _ (List.mem_of_getElem? (i := 68) rfl)) (hw _ (List.mem_of_getElem? (i := 69) rfl)) (hw _ (List.mem_of_getElem? (i := 70) rfl)) (k' := 8) (n' := 32) rfl rfl (by decide) (by decide) (fun h308 b309 gb310 E311 X312 D313 => ?_)
      have ne_b261_b309 : b261 ≠ b309 := Nat.ne_of_lt (by rw [gb310]; exact O_b261.lt)
      have ne_b270_b309 : b270 ≠ b309 := Nat.ne_of_lt (by rw [gb310]; exact O_b270.lt)
      have ne_b288_b309 : b288 ≠ b309 := Nat.ne_of_lt (by rw [gb310]; exact O_b288.lt)
      have ne_b2_b309 : b2 ≠ b309 := Nat.ne_of_lt (by rw [gb310]; exact A_b2.lt)
      have ne_b20_b309 : b20 ≠ b309 := Nat.ne_of_lt (by rw [gb310]; exact A_b20.lt)
      have ne_b275_b309 : b275 ≠ b309 := Nat.ne_of_lt (by rw [gb310]; exact A_b275.lt)
      have ne_b282_b309 : b282 ≠ b309 := Nat.ne_of_lt (by rw [gb310]; exact A_b282.lt)
      have g_b309 : Z.heap.size ≤ b309 := by rw [gb310]; exact OL.2.1
      have O_b261 := O_b261.ext E311
      have O_b270 := O_b270.ext E311
      have O_b288 := O_b288.ext E311
      have A_b2 := A_b2.ext E311
      have A_b20 := A_b20.ext E311
      have A_b275 := A_b275.ext E311
      have A_b282 := A_b282.ext E311
      have OL := OL.ext E311
      have A_dc := AD.ext OL.2
      have O_b309 := ObP.new hw X312 D313
      refine g_dup cx d0_124 rfl ?_
      refine g_lloadN cx d0_125 rfl ?_
      refine g_iload cx d0_126 rfl ?_
      refine g_aload cx d0_128 rfl rfl ?_
      refine g_aload cx d0_130 rfl rfl ?_
      refine g_special cx (y := (⟨"com/example/thalweg/thalweg/cli/Mpeg1Reader$Picture", "<init>", "(JCLjava/util/List;[B)V"⟩ : MethodName)) (a := b309) d0_132 rfl rfl (hw _ (List.mem_of_getElem? (i := 71) rfl)) (hw _ (List.mem_of_getElem? (i := 72) rfl)) (hw _ (List.mem_of_getElem? (i := 70) rfl)) (hw _ (List.mem_of_getElem? (i := 73) rfl)) (by decide) (bytes := prog_8_method_1_code) (maxL' := 6) (M := (ra11 l Z a0 hw dc lc cdc clc SDC AD SLC BX b309 b261 b275 b270 b282 ix (((ot &&& (65535 : Int32))).toUInt32.toUInt16.toUInt32.toInt32) cA276 cA283 _ O_b309 O_b261 O_b270 A_b275 A_b282 OV_b275 (Ne.symm ne_b261_b309) (Ne.symm ne_b275_b309) ne_b261_b275 (Ne.symm ne_b282_b309) ne_b261_b282 ne_b275_b282 g_b309 g_b261 g_b275 g_b282 OL)) rfl (lenOf pd_8 rfl) (by decide) (W := 1) (Nat.le_of_eq rfl) (by decide) (k' := 8) (n' := 32) rfl rfl (by decide) (by decide) (argsL := [(.long ix), (.int (((ot &&& (65535 : Int32))).toUInt32.toUInt16.toUInt32.toInt32)), (.ref b261), (.ref b282)]) (rest := [(.ref b309)]) rfl (fun v316 h315 q317 => ?_)
      obtain ⟨rfl, K314, O_b309⟩ := q317
      have O_b261 := O_b261.keep K314 (ninS ne_b261_b309 nin0)
      have O_b270 := O_b270.keepX K314
      have O_b288 := O_b288.keep K314 (ninS ne_b288_b309 nin0)
      have A_b2 := A_b2.keep K314 (ninS ne_b2_b309 nin0)
      have A_b20 := A_b20.keep K314 (ninS ne_b20_b309 nin0)
      have A_b275 := A_b275.keep K314 (ninS ne_b275_b309 nin0)
      have A_b282 := A_b282.keep K314 (ninS ne_b282_b309 nin0)
      have OL := OL.keep K314 (allS g_b309 all0)
      have A_dc := AD.ext OL.2
      refine G.cast (st' := [(.ref b309)]) ?_ rfl
      refine g_astore cx d0_135 rfl (Ls' := #[.val (.int sel), .val (.long ix), .second, .val (.int ot), .val (.ref b2), .val (.ref b20), .val (.int (2 : Int32)), .val (.ref b261), .val (.ref b282), .val (.ref b288), .val (.int (1 : Int32)), .val (.int (((ot &&& (65535 : Int32))).toUInt32.toUInt16.toUInt32.toInt32)), .val (.ref b309), .unset]) rfl ?_
      refine g_aload cx d0_137 rfl rfl ?_
      refine g_virtual cx (y := (⟨"com/example/thalweg/thalweg/cli/Mpeg1Reader$Picture", "rank", "()I"⟩ : MethodName)) (z := (⟨"com/example/thalweg/thalweg/cli/Mpeg1Reader$Picture", "rank", "()I"⟩ : MethodName)) (a := b309) d0_139 (hw _ (List.mem_of_getElem? (i := 88) rfl)) (hw _ (List.mem_of_getElem? (i := 89) rfl)) (hw _ (List.mem_of_getElem? (i := 70) rfl)) (hw _ (List.mem_of_getElem? (i := 92) rfl)) (hw _ (List.mem_of_getElem? (i := 91) rfl)) (hw _ (List.mem_of_getElem? (i := 90) rfl)) rfl (by decide) O_b309.1 (bytes := prog_8_method_2_code) (maxL' := 1) (M := (ra10 l Z a0 hw dc lc cdc clc SDC AD SLC BX b309 b261 b275 b270 b282 ix (nar .char (((ot &&& (65535 : Int32))).toUInt32.toUInt16.toUInt32.toInt32)) cA276 cA283 _ O_b309 O_b261 O_b270 A_b275 A_b282 OV_b275 (Ne.symm ne_b261_b309) (Ne.symm ne_b275_b309) ne_b261_b275 (Ne.symm ne_b282_b309) ne_b261_b282 ne_b275_b282 g_b309 g_b261 g_b275 g_b282 OL)) rfl (lenOf pd_9 rfl) (by decide) (W := 0) (Nat.le_of_eq rfl) (by decide) (k' := 8) (n' := 32) rfl rfl (by decide) (by decide) (argsL := []) (rest := []) rfl (fun v327 h326 q328 => ?_)
      rcases q328 with ⟨hq318, rfl, rfl⟩ | ⟨hq320, hq321, rfl, rfl⟩ | ⟨hq323, hq324, rfl, rfl⟩
      · refine G.cast (st' := [(.int (2 : Int32))]) ?_ rfl
        refine g_istore cx d0_142 (Ls' := #[.val (.int sel), .val (.long ix), .second, .val (.int ot), .val (.ref b2), .val (.ref b20), .val (.int (2 : Int32)), .val (.ref b261), .val (.ref b282), .val (.ref b288), .val (.int (1 : Int32)), .val (.int (((ot &&& (65535 : Int32))).toUInt32.toUInt16.toUInt32.toInt32)), .val (.ref b309), .val (.int (2 : Int32))]) rfl ?_
        refine g_iload cx d0_144 rfl ?_
        refine g_if_eq cx d0_146 (fun q => absurd q (fun q => by revert q; decide)) (fun hc146 => ?_)
        refine g_iload cx d0_149 rfl ?_
        refine g_if_lt cx d0_151 (fun q => absurd q (fun q => by revert q; decide)) (fun hc151 => ?_)
        refine g_iload cx d0_154 rfl ?_
        refine g_iconst cx d0_156 (v := (2 : Int32)) rfl ?_
        refine g_icmp_gt cx d0_157 (fun q => absurd q (fun q => by revert q; decide)) (fun hc157 => ?_)
        refine g_iload cx d0_160 rfl ?_
        refine g_iconst cx d0_162 (v := (1 : Int32)) rfl ?_
        refine g_icmp_ne cx d0_163 (fun hc163 => ?_) (fun q => absurd q (fun q => by revert q; decide))
        refine g_iconst cx d0_170 (v := (0 : Int32)) rfl ?_
        refine g_iload cx d0_171 rfl ?_
        refine g_bipush cx d0_173 (v := (80 : Int32)) rfl ?_
        refine g_icmp_ne cx d0_175 (fun hc175 => ?_) (fun hc175 => ?_)
        · refine g_iconst cx d0_182 (v := (0 : Int32)) rfl ?_
          refine g_icmp_ne cx d0_183 (fun q => absurd q (fun q => by revert q; decide)) (fun hc183 => ?_)
          refine g_iload cx d0_186 rfl ?_
          refine g_iconst cx d0_188 (v := (2 : Int32)) rfl ?_
          refine g_icmp_ne cx d0_189 (fun q => absurd q (fun q => by revert q; decide)) (fun hc189 => ?_)
          refine g_iconst cx d0_192 (v := (1 : Int32)) rfl ?_
          refine g_goto cx d0_193 ?_
          refine g_iload cx d0_197 rfl ?_
          refine g_bipush cx d0_199 (v := (66 : Int32)) rfl ?_
          refine g_icmp_ne cx d0_201 (fun hc201 => ?_) (fun hc201 => ?_)
          · refine g_iconst cx d0_208 (v := (0 : Int32)) rfl ?_
            refine g_icmp_ne cx d0_209 (fun hc209 => ?_) (fun q => absurd q (fun q => by revert q; decide))
            refine g_iconst cx d0_216 (v := (0 : Int32)) rfl ?_
            refine g_istore cx d0_217 (Ls' := #[.val (.int sel), .val (.long ix), .second, .val (.int ot), .val (.ref b2), .val (.ref b20), .val (.int (2 : Int32)), .val (.ref b261), .val (.ref b282), .val (.ref b288), .val (.int (0 : Int32)), .val (.int (((ot &&& (65535 : Int32))).toUInt32.toUInt16.toUInt32.toInt32)), .val (.ref b309), .val (.int (2 : Int32))]) rfl ?_
            refine g_iload cx d0_219 rfl ?_
            refine g_retZ cx d0_221 rfl rfl (by decide) (by decide) ?_
            exfalso
            have i_hs37 : ((sel &&& (3 : Int32))).toInt = ((2 : Int32)).toInt := congrArg Int32.toInt hs37
            have i_hq297 : ((nar .char (66 : Int32))).toInt = ((66 : Int32)).toInt := congrArg Int32.toInt hq297
            have i_hc104 : ((2 : Int32)).toInt = ((2 : Int32)).toInt := congrArg Int32.toInt hc104
            have i_hq318 : ((nar .char (((ot &&& (65535 : Int32))).toUInt32.toUInt16.toUInt32.toInt32))).toInt = ((66 : Int32)).toInt := congrArg Int32.toInt hq318
            have i_hc146 : ¬ ((1 : Int32)).toInt = ((0 : Int32)).toInt := fun z => hc146 (Int32.toInt_inj.mp z)
            have i_hc151 : ¬ ((2 : Int32)).toInt < ((0 : Int32)).toInt := fun z => hc151 (Int32.lt_iff_toInt_lt.mpr z)
            have i_hc157 : ¬ ((2 : Int32)).toInt < ((2 : Int32)).toInt := fun z => hc157 (Int32.lt_iff_toInt_lt.mpr z)
            have i_hc163 : ¬ ((2 : Int32)).toInt = ((1 : Int32)).toInt := fun z => hc163 (Int32.toInt_inj.mp z)
            have i_hc175 : ¬ ((((ot &&& (65535 : Int32))).toUInt32.toUInt16.toUInt32.toInt32)).toInt = ((80 : Int32)).toInt := fun z => hc175 (Int32.toInt_inj.mp z)
            have i_hc183 : ((0 : Int32)).toInt = ((0 : Int32)).toInt := congrArg Int32.toInt hc183
            have i_hc189 : ((2 : Int32)).toInt = ((2 : Int32)).toInt := congrArg Int32.toInt hc189
            have i_hc201 : ¬ ((((ot &&& (65535 : Int32))).toUInt32.toUInt16.toUInt32.toInt32)).toInt = ((66 : Int32)).toInt := fun z => hc201 (Int32.toInt_inj.mp z)
            have i_hc209 : ¬ ((1 : Int32)).toInt = ((0 : Int32)).toInt := fun z => hc209 (Int32.toInt_inj.mp z)
            have r2 := rng32 sel
            have e1 : ((sel &&& (3 : Int32))).toInt = (sel).toInt % 4 := c_mask sel (3 : Int32) 2 (by decide) (by decide)
            have e3 : (2 : Int32).toInt = 2 := rfl
            have e5 : (66 : Int32).toInt = 66 := rfl
            have e4 : (((nar .char (66 : Int32))).toInt - ((66 : Int32)).toInt) % 65536 = 0 ∧ 0 ≤ ((nar .char (66 : Int32))).toInt ∧ ((nar .char (66 : Int32))).toInt < 65536 := c_i2c (66 : Int32)
            have r9 := rng32 ot
            have e8 : ((ot &&& (65535 : Int32))).toInt = (ot).toInt % 65536 := c_mask ot (65535 : Int32) 16 (by decide) (by decide)
            have e7 := c_i2c (ot &&& (65535 : Int32))
            have e6 : (((nar .char (((ot &&& (65535 : Int32))).toUInt32.toUInt16.toUInt32.toInt32))).toInt - ((((ot &&& (65535 : Int32))).toUInt32.toUInt16.toUInt32.toInt32)).toInt) % 65536 = 0 ∧ 0 ≤ ((nar .char (((ot &&& (65535 : Int32))).toUInt32.toUInt16.toUInt32.toInt32))).toInt ∧ ((nar .char (((ot &&& (65535 : Int32))).toUInt32.toUInt16.toUInt32.toInt32))).toInt < 65536 := c_i2c (((ot &&& (65535 : Int32))).toUInt32.toUInt16.toUInt32.toInt32)
            have e10 : (1 : Int32).toInt = 1 := rfl
            have e11 : (0 : Int32).toInt = 0 := rfl
            have e12 : (80 : Int32).toInt = 80 := rfl
            omega
          · refine g_iconst cx d0_204 (v := (1 : Int32)) rfl ?_
            refine g_goto cx d0_205 ?_
            refine g_icmp_ne cx d0_209 (fun q => absurd q (fun q => by revert q; decide)) (fun hc209 => ?_)
            refine g_iconst cx d0_212 (v := (1 : Int32)) rfl ?_
            refine g_goto cx d0_213 ?_
            refine g_istore cx d0_217 (Ls' := #[.val (.int sel), .val (.long ix), .second, .val (.int ot), .val (.ref b2), .val (.ref b20), .val (.int (2 : Int32)), .val (.ref b261), .val (.ref b282), .val (.ref b288), .val (.int (1 : Int32)), .val (.int (((ot &&& (65535 : Int32))).toUInt32.toUInt16.toUInt32.toInt32)), .val (.ref b309), .val (.int (2 : Int32))]) rfl ?_
            refine g_iload cx d0_219 rfl ?_
            refine g_retZ cx d0_221 rfl rfl (by decide) (by decide) ?_
            rfl
        · refine g_iconst cx d0_178 (v := (1 : Int32)) rfl ?_
          refine g_goto cx d0_179 ?_
          refine g_icmp_ne cx d0_183 (fun hc183 => ?_) (fun q => absurd q (fun q => by revert q; decide))
          refine g_iconst cx d0_216 (v := (0 : Int32)) rfl ?_
          refine g_istore cx d0_217 (Ls' := #[.val (.int sel), .val (.long ix), .second, .val (.int ot), .val (.ref b2), .val (.ref b20), .val (.int (2 : Int32)), .val (.ref b261), .val (.ref b282), .val (.ref b288), .val (.int (0 : Int32)), .val (.int (((ot &&& (65535 : Int32))).toUInt32.toUInt16.toUInt32.toInt32)), .val (.ref b309), .val (.int (2 : Int32))]) rfl ?_
          refine g_iload cx d0_219 rfl ?_
          refine g_retZ cx d0_221 rfl rfl (by decide) (by decide) ?_
          exfalso
          have i_hs37 : ((sel &&& (3 : Int32))).toInt = ((2 : Int32)).toInt := congrArg Int32.toInt hs37
          have i_hq297 : ((nar .char (66 : Int32))).toInt = ((66 : Int32)).toInt := congrArg Int32.toInt hq297
          have i_hc104 : ((2 : Int32)).toInt = ((2 : Int32)).toInt := congrArg Int32.toInt hc104
          have i_hq318 : ((nar .char (((ot &&& (65535 : Int32))).toUInt32.toUInt16.toUInt32.toInt32))).toInt = ((66 : Int32)).toInt := congrArg Int32.toInt hq318
          have i_hc146 : ¬ ((1 : Int32)).toInt = ((0 : Int32)).toInt := fun z => hc146 (Int32.toInt_inj.mp z)
          have i_hc151 : ¬ ((2 : Int32)).toInt < ((0 : Int32)).toInt := fun z => hc151 (Int32.lt_iff_toInt_lt.mpr z)
          have i_hc157 : ¬ ((2 : Int32)).toInt < ((2 : Int32)).toInt := fun z => hc157 (Int32.lt_iff_toInt_lt.mpr z)
          have i_hc163 : ¬ ((2 : Int32)).toInt = ((1 : Int32)).toInt := fun z => hc163 (Int32.toInt_inj.mp z)
          have i_hc175 : ((((ot &&& (65535 : Int32))).toUInt32.toUInt16.toUInt32.toInt32)).toInt = ((80 : Int32)).toInt := congrArg Int32.toInt hc175
          have i_hc183 : ¬ ((0 : Int32)).toInt = ((1 : Int32)).toInt := fun z => hc183 (Int32.toInt_inj.mp z)
          have r2 := rng32 sel
          have e1 : ((sel &&& (3 : Int32))).toInt = (sel).toInt % 4 := c_mask sel (3 : Int32) 2 (by decide) (by decide)
          have e3 : (2 : Int32).toInt = 2 := rfl
          have e5 : (66 : Int32).toInt = 66 := rfl
          have e4 : (((nar .char (66 : Int32))).toInt - ((66 : Int32)).toInt) % 65536 = 0 ∧ 0 ≤ ((nar .char (66 : Int32))).toInt ∧ ((nar .char (66 : Int32))).toInt < 65536 := c_i2c (66 : Int32)
          have r9 := rng32 ot
          have e8 : ((ot &&& (65535 : Int32))).toInt = (ot).toInt % 65536 := c_mask ot (65535 : Int32) 16 (by decide) (by decide)
          have e7 := c_i2c (ot &&& (65535 : Int32))
          have e6 : (((nar .char (((ot &&& (65535 : Int32))).toUInt32.toUInt16.toUInt32.toInt32))).toInt - ((((ot &&& (65535 : Int32))).toUInt32.toUInt16.toUInt32.toInt32)).toInt) % 65536 = 0 ∧ 0 ≤ ((nar .char (((ot &&& (65535 : Int32))).toUInt32.toUInt16.toUInt32.toInt32))).toInt ∧ ((nar .char (((ot &&& (65535 : Int32))).toUInt32.toUInt16.toUInt32.toInt32))).toInt < 65536 := c_i2c (((ot &&& (65535 : Int32))).toUInt32.toUInt16.toUInt32.toInt32)
          have e10 : (1 : Int32).toInt = 1 := rfl
          have e11 : (0 : Int32).toInt = 0 := rfl
          have e12 : (80 : Int32).toInt = 80 := rfl
          omega
      · refine G.cast (st' := [(.int (1 : Int32))]) ?_ rfl
        refine g_istore cx d0_142 (Ls' := #[.val (.int sel), .val (.long ix), .second, .val (.int ot), .val (.ref b2), .val (.ref b20), .val (.int (2 : Int32)), .val (.ref b261), .val (.ref b282), .val (.ref b288), .val (.int (1 : Int32)), .val (.int (((ot &&& (65535 : Int32))).toUInt32.toUInt16.toUInt32.toInt32)), .val (.ref b309), .val (.int (1 : Int32))]) rfl ?_
        refine g_iload cx d0_144 rfl ?_
        refine g_if_eq cx d0_146 (fun q => absurd q (fun q => by revert q; decide)) (fun hc146 => ?_)
        refine g_iload cx d0_149 rfl ?_
        refine g_if_lt cx d0_151 (fun q => absurd q (fun q => by revert q; decide)) (fun hc151 => ?_)
        refine g_iload cx d0_154 rfl ?_
        refine g_iconst cx d0_156 (v := (2 : Int32)) rfl ?_
        refine g_icmp_gt cx d0_157 (fun q => absurd q (fun q => by revert q; decide)) (fun hc157 => ?_)
        refine g_iload cx d0_160 rfl ?_
        refine g_iconst cx d0_162 (v := (1 : Int32)) rfl ?_
        refine g_icmp_ne cx d0_163 (fun q => absurd q (fun q => by revert q; decide)) (fun hc163 => ?_)
        refine g_iconst cx d0_166 (v := (1 : Int32)) rfl ?_
        refine g_goto cx d0_167 ?_
        refine g_iload cx d0_171 rfl ?_
        refine g_bipush cx d0_173 (v := (80 : Int32)) rfl ?_
        refine g_icmp_ne cx d0_175 (fun hc175 => ?_) (fun hc175 => ?_)
        · refine g_iconst cx d0_182 (v := (0 : Int32)) rfl ?_
          refine g_icmp_ne cx d0_183 (fun hc183 => ?_) (fun q => absurd q (fun q => by revert q; decide))
          refine g_iconst cx d0_216 (v := (0 : Int32)) rfl ?_
          refine g_istore cx d0_217 (Ls' := #[.val (.int sel), .val (.long ix), .second, .val (.int ot), .val (.ref b2), .val (.ref b20), .val (.int (2 : Int32)), .val (.ref b261), .val (.ref b282), .val (.ref b288), .val (.int (0 : Int32)), .val (.int (((ot &&& (65535 : Int32))).toUInt32.toUInt16.toUInt32.toInt32)), .val (.ref b309), .val (.int (1 : Int32))]) rfl ?_
          refine g_iload cx d0_219 rfl ?_
          refine g_retZ cx d0_221 rfl rfl (by decide) (by decide) ?_
          exfalso
          have i_hs37 : ((sel &&& (3 : Int32))).toInt = ((2 : Int32)).toInt := congrArg Int32.toInt hs37
          have i_hq297 : ((nar .char (66 : Int32))).toInt = ((66 : Int32)).toInt := congrArg Int32.toInt hq297
          have i_hc104 : ((2 : Int32)).toInt = ((2 : Int32)).toInt := congrArg Int32.toInt hc104
          have i_hq320 : ¬ ((nar .char (((ot &&& (65535 : Int32))).toUInt32.toUInt16.toUInt32.toInt32))).toInt = ((66 : Int32)).toInt := fun z => hq320 (Int32.toInt_inj.mp z)
          have i_hq321 : ((nar .char (((ot &&& (65535 : Int32))).toUInt32.toUInt16.toUInt32.toInt32))).toInt = ((80 : Int32)).toInt := congrArg Int32.toInt hq321
          have i_hc146 : ¬ ((1 : Int32)).toInt = ((0 : Int32)).toInt := fun z => hc146 (Int32.toInt_inj.mp z)
          have i_hc151 : ¬ ((1 : Int32)).toInt < ((0 : Int32)).toInt := fun z => hc151 (Int32.lt_iff_toInt_lt.mpr z)
          have i_hc157 : ¬ ((2 : Int32)).toInt < ((1 : Int32)).toInt := fun z => hc157 (Int32.lt_iff_toInt_lt.mpr z)
          have i_hc163 : ((1 : Int32)).toInt = ((1 : Int32)).toInt := congrArg Int32.toInt hc163
          have i_hc175 : ¬ ((((ot &&& (65535 : Int32))).toUInt32.toUInt16.toUInt32.toInt32)).toInt = ((80 : Int32)).toInt := fun z => hc175 (Int32.toInt_inj.mp z)
          have i_hc183 : ¬ ((1 : Int32)).toInt = ((0 : Int32)).toInt := fun z => hc183 (Int32.toInt_inj.mp z)
          have r2 := rng32 sel
          have e1 : ((sel &&& (3 : Int32))).toInt = (sel).toInt % 4 := c_mask sel (3 : Int32) 2 (by decide) (by decide)
          have e3 : (2 : Int32).toInt = 2 := rfl
          have e5 : (66 : Int32).toInt = 66 := rfl
          have e4 : (((nar .char (66 : Int32))).toInt - ((66 : Int32)).toInt) % 65536 = 0 ∧ 0 ≤ ((nar .char (66 : Int32))).toInt ∧ ((nar .char (66 : Int32))).toInt < 65536 := c_i2c (66 : Int32)
          have r9 := rng32 ot
          have e8 : ((ot &&& (65535 : Int32))).toInt = (ot).toInt % 65536 := c_mask ot (65535 : Int32) 16 (by decide) (by decide)
          have e7 := c_i2c (ot &&& (65535 : Int32))
          have e6 : (((nar .char (((ot &&& (65535 : Int32))).toUInt32.toUInt16.toUInt32.toInt32))).toInt - ((((ot &&& (65535 : Int32))).toUInt32.toUInt16.toUInt32.toInt32)).toInt) % 65536 = 0 ∧ 0 ≤ ((nar .char (((ot &&& (65535 : Int32))).toUInt32.toUInt16.toUInt32.toInt32))).toInt ∧ ((nar .char (((ot &&& (65535 : Int32))).toUInt32.toUInt16.toUInt32.toInt32))).toInt < 65536 := c_i2c (((ot &&& (65535 : Int32))).toUInt32.toUInt16.toUInt32.toInt32)
          have e10 : (80 : Int32).toInt = 80 := rfl
          have e11 : (1 : Int32).toInt = 1 := rfl
          have e12 : (0 : Int32).toInt = 0 := rfl
          omega
        · refine g_iconst cx d0_178 (v := (1 : Int32)) rfl ?_
          refine g_goto cx d0_179 ?_
          refine g_icmp_ne cx d0_183 (fun q => absurd q (fun q => by revert q; decide)) (fun hc183 => ?_)
          refine g_iload cx d0_186 rfl ?_
          refine g_iconst cx d0_188 (v := (2 : Int32)) rfl ?_
          refine g_icmp_ne cx d0_189 (fun hc189 => ?_) (fun q => absurd q (fun q => by revert q; decide))
          refine g_iconst cx d0_196 (v := (0 : Int32)) rfl ?_
          refine g_iload cx d0_197 rfl ?_
          refine g_bipush cx d0_199 (v := (66 : Int32)) rfl ?_
          refine g_icmp_ne cx d0_201 (fun hc201 => ?_) (fun hc201 => ?_)
          · refine g_iconst cx d0_208 (v := (0 : Int32)) rfl ?_
            refine g_icmp_ne cx d0_209 (fun q => absurd q (fun q => by revert q; decide)) (fun hc209 => ?_)
            refine g_iconst cx d0_212 (v := (1 : Int32)) rfl ?_
            refine g_goto cx d0_213 ?_
            refine g_istore cx d0_217 (Ls' := #[.val (.int sel), .val (.long ix), .second, .val (.int ot), .val (.ref b2), .val (.ref b20), .val (.int (2 : Int32)), .val (.ref b261), .val (.ref b282), .val (.ref b288), .val (.int (1 : Int32)), .val (.int (((ot &&& (65535 : Int32))).toUInt32.toUInt16.toUInt32.toInt32)), .val (.ref b309), .val (.int (1 : Int32))]) rfl ?_
            refine g_iload cx d0_219 rfl ?_
            refine g_retZ cx d0_221 rfl rfl (by decide) (by decide) ?_
            rfl
          · refine g_iconst cx d0_204 (v := (1 : Int32)) rfl ?_
            refine g_goto cx d0_205 ?_
            refine g_icmp_ne cx d0_209 (fun hc209 => ?_) (fun q => absurd q (fun q => by revert q; decide))
            refine g_iconst cx d0_216 (v := (0 : Int32)) rfl ?_
            refine g_istore cx d0_217 (Ls' := #[.val (.int sel), .val (.long ix), .second, .val (.int ot), .val (.ref b2), .val (.ref b20), .val (.int (2 : Int32)), .val (.ref b261), .val (.ref b282), .val (.ref b288), .val (.int (0 : Int32)), .val (.int (((ot &&& (65535 : Int32))).toUInt32.toUInt16.toUInt32.toInt32)), .val (.ref b309), .val (.int (1 : Int32))]) rfl ?_
            refine g_iload cx d0_219 rfl ?_
            refine g_retZ cx d0_221 rfl rfl (by decide) (by decide) ?_
            exfalso
            have i_hs37 : ((sel &&& (3 : Int32))).toInt = ((2 : Int32)).toInt := congrArg Int32.toInt hs37
            have i_hq297 : ((nar .char (66 : Int32))).toInt = ((66 : Int32)).toInt := congrArg Int32.toInt hq297
            have i_hc104 : ((2 : Int32)).toInt = ((2 : Int32)).toInt := congrArg Int32.toInt hc104
            have i_hq320 : ¬ ((nar .char (((ot &&& (65535 : Int32))).toUInt32.toUInt16.toUInt32.toInt32))).toInt = ((66 : Int32)).toInt := fun z => hq320 (Int32.toInt_inj.mp z)
            have i_hq321 : ((nar .char (((ot &&& (65535 : Int32))).toUInt32.toUInt16.toUInt32.toInt32))).toInt = ((80 : Int32)).toInt := congrArg Int32.toInt hq321
            have i_hc146 : ¬ ((1 : Int32)).toInt = ((0 : Int32)).toInt := fun z => hc146 (Int32.toInt_inj.mp z)
            have i_hc151 : ¬ ((1 : Int32)).toInt < ((0 : Int32)).toInt := fun z => hc151 (Int32.lt_iff_toInt_lt.mpr z)
            have i_hc157 : ¬ ((2 : Int32)).toInt < ((1 : Int32)).toInt := fun z => hc157 (Int32.lt_iff_toInt_lt.mpr z)
            have i_hc163 : ((1 : Int32)).toInt = ((1 : Int32)).toInt := congrArg Int32.toInt hc163
            have i_hc175 : ((((ot &&& (65535 : Int32))).toUInt32.toUInt16.toUInt32.toInt32)).toInt = ((80 : Int32)).toInt := congrArg Int32.toInt hc175
            have i_hc183 : ((1 : Int32)).toInt = ((1 : Int32)).toInt := congrArg Int32.toInt hc183
            have i_hc189 : ¬ ((1 : Int32)).toInt = ((2 : Int32)).toInt := fun z => hc189 (Int32.toInt_inj.mp z)
            have i_hc201 : ((((ot &&& (65535 : Int32))).toUInt32.toUInt16.toUInt32.toInt32)).toInt = ((66 : Int32)).toInt := congrArg Int32.toInt hc201
            have i_hc209 : ¬ ((0 : Int32)).toInt = ((1 : Int32)).toInt := fun z => hc209 (Int32.toInt_inj.mp z)
            have r2 := rng32 sel
            have e1 : ((sel &&& (3 : Int32))).toInt = (sel).toInt % 4 := c_mask sel (3 : Int32) 2 (by decide) (by decide)
            have e3 : (2 : Int32).toInt = 2 := rfl
            have e5 : (66 : Int32).toInt = 66 := rfl
            have e4 : (((nar .char (66 : Int32))).toInt - ((66 : Int32)).toInt) % 65536 = 0 ∧ 0 ≤ ((nar .char (66 : Int32))).toInt ∧ ((nar .char (66 : Int32))).toInt < 65536 := c_i2c (66 : Int32)
            have r9 := rng32 ot
            have e8 : ((ot &&& (65535 : Int32))).toInt = (ot).toInt % 65536 := c_mask ot (65535 : Int32) 16 (by decide) (by decide)
            have e7 := c_i2c (ot &&& (65535 : Int32))
            have e6 : (((nar .char (((ot &&& (65535 : Int32))).toUInt32.toUInt16.toUInt32.toInt32))).toInt - ((((ot &&& (65535 : Int32))).toUInt32.toUInt16.toUInt32.toInt32)).toInt) % 65536 = 0 ∧ 0 ≤ ((nar .char (((ot &&& (65535 : Int32))).toUInt32.toUInt16.toUInt32.toInt32))).toInt ∧ ((nar .char (((ot &&& (65535 : Int32))).toUInt32.toUInt16.toUInt32.toInt32))).toInt < 65536 := c_i2c (((ot &&& (65535 : Int32))).toUInt32.toUInt16.toUInt32.toInt32)
            have e10 : (80 : Int32).toInt = 80 := rfl
            have e11 : (1 : Int32).toInt = 1 := rfl
            have e12 : (0 : Int32).toInt = 0 := rfl
            omega
      · refine G.cast (st' := [(.int (0 : Int32))]) ?_ rfl
        refine g_istore cx d0_142 (Ls' := #[.val (.int sel), .val (.long ix), .second, .val (.int ot), .val (.ref b2), .val (.ref b20), .val (.int (2 : Int32)), .val (.ref b261), .val (.ref b282), .val (.ref b288), .val (.int (1 : Int32)), .val (.int (((ot &&& (65535 : Int32))).toUInt32.toUInt16.toUInt32.toInt32)), .val (.ref b309), .val (.int (0 : Int32))]) rfl ?_
        refine g_iload cx d0_144 rfl ?_
        refine g_if_eq cx d0_146 (fun q => absurd q (fun q => by revert q; decide)) (fun hc146 => ?_)
        refine g_iload cx d0_149 rfl ?_
        refine g_if_lt cx d0_151 (fun q => absurd q (fun q => by revert q; decide)) (fun hc151 => ?_)
        refine g_iload cx d0_154 rfl ?_
        refine g_iconst cx d0_156 (v := (2 : Int32)) rfl ?_
        refine g_icmp_gt cx d0_157 (fun q => absurd q (fun q => by revert q; decide)) (fun hc157 => ?_)
        refine g_iload cx d0_160 rfl ?_
        refine g_iconst cx d0_162 (v := (1 : Int32)) rfl ?_
        refine g_icmp_ne cx d0_163 (fun hc163 => ?_) (fun q => absurd q (fun q => by revert q; decide))
        refine g_iconst cx d0_170 (v := (0 : Int32)) rfl ?_
        refine g_iload cx d0_171 rfl ?_
        refine g_bipush cx d0_173 (v := (80 : Int32)) rfl ?_
        refine g_icmp_ne cx d0_175 (fun hc175 => ?_) (fun hc175 => ?_)
        · refine g_iconst cx d0_182 (v := (0 : Int32)) rfl ?_
          refine g_icmp_ne cx d0_183 (fun q => absurd q (fun q => by revert q; decide)) (fun hc183 => ?_)
          refine g_iload cx d0_186 rfl ?_
          refine g_iconst cx d0_188 (v := (2 : Int32)) rfl ?_
          refine g_icmp_ne cx d0_189 (fun hc189 => ?_) (fun q => absurd q (fun q => by revert q; decide))
          refine g_iconst cx d0_196 (v := (0 : Int32)) rfl ?_
          refine g_iload cx d0_197 rfl ?_
          refine g_bipush cx d0_199 (v := (66 : Int32)) rfl ?_
          refine g_icmp_ne cx d0_201 (fun hc201 => ?_) (fun hc201 => ?_)
          · refine g_iconst cx d0_208 (v := (0 : Int32)) rfl ?_
            refine g_icmp_ne cx d0_209 (fun q => absurd q (fun q => by revert q; decide)) (fun hc209 => ?_)
            refine g_iconst cx d0_212 (v := (1 : Int32)) rfl ?_
            refine g_goto cx d0_213 ?_
            refine g_istore cx d0_217 (Ls' := #[.val (.int sel), .val (.long ix), .second, .val (.int ot), .val (.ref b2), .val (.ref b20), .val (.int (2 : Int32)), .val (.ref b261), .val (.ref b282), .val (.ref b288), .val (.int (1 : Int32)), .val (.int (((ot &&& (65535 : Int32))).toUInt32.toUInt16.toUInt32.toInt32)), .val (.ref b309), .val (.int (0 : Int32))]) rfl ?_
            refine g_iload cx d0_219 rfl ?_
            refine g_retZ cx d0_221 rfl rfl (by decide) (by decide) ?_
            rfl
          · refine g_iconst cx d0_204 (v := (1 : Int32)) rfl ?_
            refine g_goto cx d0_205 ?_
            refine g_icmp_ne cx d0_209 (fun hc209 => ?_) (fun q => absurd q (fun q => by revert q; decide))
            refine g_iconst cx d0_216 (v := (0 : Int32)) rfl ?_
            refine g_istore cx d0_217 (Ls' := #[.val (.int sel), .val (.long ix), .second, .val (.int ot), .val (.ref b2), .val (.ref b20), .val (.int (2 : Int32)), .val (.ref b261), .val (.ref b282), .val (.ref b288), .val (.int (0 : Int32)), .val (.int (((ot &&& (65535 : Int32))).toUInt32.toUInt16.toUInt32.toInt32)), .val (.ref b309), .val (.int (0 : Int32))]) rfl ?_
            refine g_iload cx d0_219 rfl ?_
            refine g_retZ cx d0_221 rfl rfl (by decide) (by decide) ?_
            exfalso
            have i_hs37 : ((sel &&& (3 : Int32))).toInt = ((2 : Int32)).toInt := congrArg Int32.toInt hs37
            have i_hq297 : ((nar .char (66 : Int32))).toInt = ((66 : Int32)).toInt := congrArg Int32.toInt hq297
            have i_hc104 : ((2 : Int32)).toInt = ((2 : Int32)).toInt := congrArg Int32.toInt hc104
            have i_hq323 : ¬ ((nar .char (((ot &&& (65535 : Int32))).toUInt32.toUInt16.toUInt32.toInt32))).toInt = ((66 : Int32)).toInt := fun z => hq323 (Int32.toInt_inj.mp z)
            have i_hq324 : ¬ ((nar .char (((ot &&& (65535 : Int32))).toUInt32.toUInt16.toUInt32.toInt32))).toInt = ((80 : Int32)).toInt := fun z => hq324 (Int32.toInt_inj.mp z)
            have i_hc146 : ¬ ((1 : Int32)).toInt = ((0 : Int32)).toInt := fun z => hc146 (Int32.toInt_inj.mp z)
            have i_hc151 : ¬ ((0 : Int32)).toInt < ((0 : Int32)).toInt := fun z => hc151 (Int32.lt_iff_toInt_lt.mpr z)
            have i_hc157 : ¬ ((2 : Int32)).toInt < ((0 : Int32)).toInt := fun z => hc157 (Int32.lt_iff_toInt_lt.mpr z)
            have i_hc163 : ¬ ((0 : Int32)).toInt = ((1 : Int32)).toInt := fun z => hc163 (Int32.toInt_inj.mp z)
            have i_hc175 : ¬ ((((ot &&& (65535 : Int32))).toUInt32.toUInt16.toUInt32.toInt32)).toInt = ((80 : Int32)).toInt := fun z => hc175 (Int32.toInt_inj.mp z)
            have i_hc183 : ((0 : Int32)).toInt = ((0 : Int32)).toInt := congrArg Int32.toInt hc183
            have i_hc189 : ¬ ((0 : Int32)).toInt = ((2 : Int32)).toInt := fun z => hc189 (Int32.toInt_inj.mp z)
            have i_hc201 : ((((ot &&& (65535 : Int32))).toUInt32.toUInt16.toUInt32.toInt32)).toInt = ((66 : Int32)).toInt := congrArg Int32.toInt hc201
            have i_hc209 : ¬ ((0 : Int32)).toInt = ((1 : Int32)).toInt := fun z => hc209 (Int32.toInt_inj.mp z)
            have r2 := rng32 sel
            have e1 : ((sel &&& (3 : Int32))).toInt = (sel).toInt % 4 := c_mask sel (3 : Int32) 2 (by decide) (by decide)
            have e3 : (2 : Int32).toInt = 2 := rfl
            have e5 : (66 : Int32).toInt = 66 := rfl
            have e4 : (((nar .char (66 : Int32))).toInt - ((66 : Int32)).toInt) % 65536 = 0 ∧ 0 ≤ ((nar .char (66 : Int32))).toInt ∧ ((nar .char (66 : Int32))).toInt < 65536 := c_i2c (66 : Int32)
            have r9 := rng32 ot
            have e8 : ((ot &&& (65535 : Int32))).toInt = (ot).toInt % 65536 := c_mask ot (65535 : Int32) 16 (by decide) (by decide)
            have e7 := c_i2c (ot &&& (65535 : Int32))
            have e6 : (((nar .char (((ot &&& (65535 : Int32))).toUInt32.toUInt16.toUInt32.toInt32))).toInt - ((((ot &&& (65535 : Int32))).toUInt32.toUInt16.toUInt32.toInt32)).toInt) % 65536 = 0 ∧ 0 ≤ ((nar .char (((ot &&& (65535 : Int32))).toUInt32.toUInt16.toUInt32.toInt32))).toInt ∧ ((nar .char (((ot &&& (65535 : Int32))).toUInt32.toUInt16.toUInt32.toInt32))).toInt < 65536 := c_i2c (((ot &&& (65535 : Int32))).toUInt32.toUInt16.toUInt32.toInt32)
            have e10 : (80 : Int32).toInt = 80 := rfl
            have e11 : (1 : Int32).toInt = 1 := rfl
            have e12 : (0 : Int32).toInt = 0 := rfl
            omega
        · refine g_iconst cx d0_178 (v := (1 : Int32)) rfl ?_
          refine g_goto cx d0_179 ?_
          refine g_icmp_ne cx d0_183 (fun hc183 => ?_) (fun q => absurd q (fun q => by revert q; decide))
          refine g_iconst cx d0_216 (v := (0 : Int32)) rfl ?_
          refine g_istore cx d0_217 (Ls' := #[.val (.int sel), .val (.long ix), .second, .val (.int ot), .val (.ref b2), .val (.ref b20), .val (.int (2 : Int32)), .val (.ref b261), .val (.ref b282), .val (.ref b288), .val (.int (0 : Int32)), .val (.int (((ot &&& (65535 : Int32))).toUInt32.toUInt16.toUInt32.toInt32)), .val (.ref b309), .val (.int (0 : Int32))]) rfl ?_
          refine g_iload cx d0_219 rfl ?_
          refine g_retZ cx d0_221 rfl rfl (by decide) (by decide) ?_
          exfalso
          have i_hs37 : ((sel &&& (3 : Int32))).toInt = ((2 : Int32)).toInt := congrArg Int32.toInt hs37
          have i_hq297 : ((nar .char (66 : Int32))).toInt = ((66 : Int32)).toInt := congrArg Int32.toInt hq297
          have i_hc104 : ((2 : Int32)).toInt = ((2 : Int32)).toInt := congrArg Int32.toInt hc104
          have i_hq323 : ¬ ((nar .char (((ot &&& (65535 : Int32))).toUInt32.toUInt16.toUInt32.toInt32))).toInt = ((66 : Int32)).toInt := fun z => hq323 (Int32.toInt_inj.mp z)
          have i_hq324 : ¬ ((nar .char (((ot &&& (65535 : Int32))).toUInt32.toUInt16.toUInt32.toInt32))).toInt = ((80 : Int32)).toInt := fun z => hq324 (Int32.toInt_inj.mp z)
          have i_hc146 : ¬ ((1 : Int32)).toInt = ((0 : Int32)).toInt := fun z => hc146 (Int32.toInt_inj.mp z)
          have i_hc151 : ¬ ((0 : Int32)).toInt < ((0 : Int32)).toInt := fun z => hc151 (Int32.lt_iff_toInt_lt.mpr z)
          have i_hc157 : ¬ ((2 : Int32)).toInt < ((0 : Int32)).toInt := fun z => hc157 (Int32.lt_iff_toInt_lt.mpr z)
          have i_hc163 : ¬ ((0 : Int32)).toInt = ((1 : Int32)).toInt := fun z => hc163 (Int32.toInt_inj.mp z)
          have i_hc175 : ((((ot &&& (65535 : Int32))).toUInt32.toUInt16.toUInt32.toInt32)).toInt = ((80 : Int32)).toInt := congrArg Int32.toInt hc175
          have i_hc183 : ¬ ((0 : Int32)).toInt = ((1 : Int32)).toInt := fun z => hc183 (Int32.toInt_inj.mp z)
          have r2 := rng32 sel
          have e1 : ((sel &&& (3 : Int32))).toInt = (sel).toInt % 4 := c_mask sel (3 : Int32) 2 (by decide) (by decide)
          have e3 : (2 : Int32).toInt = 2 := rfl
          have e5 : (66 : Int32).toInt = 66 := rfl
          have e4 : (((nar .char (66 : Int32))).toInt - ((66 : Int32)).toInt) % 65536 = 0 ∧ 0 ≤ ((nar .char (66 : Int32))).toInt ∧ ((nar .char (66 : Int32))).toInt < 65536 := c_i2c (66 : Int32)
          have r9 := rng32 ot
          have e8 : ((ot &&& (65535 : Int32))).toInt = (ot).toInt % 65536 := c_mask ot (65535 : Int32) 16 (by decide) (by decide)
          have e7 := c_i2c (ot &&& (65535 : Int32))
          have e6 : (((nar .char (((ot &&& (65535 : Int32))).toUInt32.toUInt16.toUInt32.toInt32))).toInt - ((((ot &&& (65535 : Int32))).toUInt32.toUInt16.toUInt32.toInt32)).toInt) % 65536 = 0 ∧ 0 ≤ ((nar .char (((ot &&& (65535 : Int32))).toUInt32.toUInt16.toUInt32.toInt32))).toInt ∧ ((nar .char (((ot &&& (65535 : Int32))).toUInt32.toUInt16.toUInt32.toInt32))).toInt < 65536 := c_i2c (((ot &&& (65535 : Int32))).toUInt32.toUInt16.toUInt32.toInt32)
          have e10 : (80 : Int32).toInt = 80 := rfl
          have e11 : (1 : Int32).toInt = 1 := rfl
          have e12 : (0 : Int32).toInt = 0 := rfl
          omega
    · refine G.cast (st' := [(.int (1 : Int32))]) ?_ rfl
      refine g_aload cx d0_99 rfl rfl ?_
      refine g_iload cx d0_101 rfl ?_
      refine g_iaload cx d0_103 A_b20.1 ⟨by decide, by decide⟩ (v := (.int (2 : Int32))) rfl ?_
      refine g_icmp_ne cx d0_104 (fun hc104 => ?_) (fun q => absurd q (fun q => by revert q; decide))
      refine g_iconst cx d0_111 (v := (0 : Int32)) rfl ?_
      refine g_istore cx d0_112 (Ls' := #[.val (.int sel), .val (.long ix), .second, .val (.int ot), .val (.ref b2), .val (.ref b20), .val (.int (2 : Int32)), .val (.ref b261), .val (.ref b282), .val (.ref b288), .val (.int (0 : Int32)), .unset, .unset, .unset]) rfl ?_
      refine g_iloadN cx d0_114 rfl ?_
      refine g_ldcI cx d0_115 (hw _ (List.mem_of_getElem? (i := 93) rfl)) ?_
      refine g_iand cx d0_117 ?_
      refine g_i2c cx d0_118 ?_
      refine g_istore cx d0_119 (Ls' := #[.val (.int sel), .val (.long ix), .second, .val (.int ot), .val (.ref b2), .val (.ref b20), .val (.int (2 : Int32)), .val (.ref b261), .val (.ref b282), .val (.ref b288), .val (.int (0 : Int32)), .val (.int (((ot &&& (65535 : Int32))).toUInt32.toUInt16.toUInt32.toInt32)), .unset, .unset]) rfl ?_
      refine g_new cx d0_121 (hw _ (List.mem_of_getElem? (i := 68) rfl)) (hw _ (List.mem_of_getElem? (i := 69) rfl)) (hw _ (List.mem_of_getElem? (i := 70) rfl)) (k' := 8) (n' := 32) rfl rfl (by decide) (by decide) (fun h329 b330 gb331 E332 X333 D334 => ?_)
      have ne_b261_b330 : b261 ≠ b330 := Nat.ne_of_lt (by rw [gb331]; exact O_b261.lt)
      have ne_b270_b330 : b270 ≠ b330 := Nat.ne_of_lt (by rw [gb331]; exact O_b270.lt)
      have ne_b288_b330 : b288 ≠ b330 := Nat.ne_of_lt (by rw [gb331]; exact O_b288.lt)
      have ne_b2_b330 : b2 ≠ b330 := Nat.ne_of_lt (by rw [gb331]; exact A_b2.lt)
      have ne_b20_b330 : b20 ≠ b330 := Nat.ne_of_lt (by rw [gb331]; exact A_b20.lt)
      have ne_b275_b330 : b275 ≠ b330 := Nat.ne_of_lt (by rw [gb331]; exact A_b275.lt)
      have ne_b282_b330 : b282 ≠ b330 := Nat.ne_of_lt (by rw [gb331]; exact A_b282.lt)
      have g_b330 : Z.heap.size ≤ b330 := by rw [gb331]; exact OL.2.1
      have O_b261 := O_b261.ext E332
      have O_b270 := O_b270.ext E332
      have O_b288 := O_b288.ext E332
      have A_b2 := A_b2.ext E332
      have A_b20 := A_b20.ext E332
      have A_b275 := A_b275.ext E332
      have A_b282 := A_b282.ext E332
      have OL := OL.ext E332
      have A_dc := AD.ext OL.2
      have O_b330 := ObP.new hw X333 D334
      refine g_dup cx d0_124 rfl ?_
      refine g_lloadN cx d0_125 rfl ?_
      refine g_iload cx d0_126 rfl ?_
      refine g_aload cx d0_128 rfl rfl ?_
      refine g_aload cx d0_130 rfl rfl ?_
      refine g_special cx (y := (⟨"com/example/thalweg/thalweg/cli/Mpeg1Reader$Picture", "<init>", "(JCLjava/util/List;[B)V"⟩ : MethodName)) (a := b330) d0_132 rfl rfl (hw _ (List.mem_of_getElem? (i := 71) rfl)) (hw _ (List.mem_of_getElem? (i := 72) rfl)) (hw _ (List.mem_of_getElem? (i := 70) rfl)) (hw _ (List.mem_of_getElem? (i := 73) rfl)) (by decide) (bytes := prog_8_method_1_code) (maxL' := 6) (M := (ra11 l Z a0 hw dc lc cdc clc SDC AD SLC BX b330 b261 b275 b270 b282 ix (((ot &&& (65535 : Int32))).toUInt32.toUInt16.toUInt32.toInt32) cA276 cA283 _ O_b330 O_b261 O_b270 A_b275 A_b282 OV_b275 (Ne.symm ne_b261_b330) (Ne.symm ne_b275_b330) ne_b261_b275 (Ne.symm ne_b282_b330) ne_b261_b282 ne_b275_b282 g_b330 g_b261 g_b275 g_b282 OL)) rfl (lenOf pd_8 rfl) (by decide) (W := 1) (Nat.le_of_eq rfl) (by decide) (k' := 8) (n' := 32) rfl rfl (by decide) (by decide) (argsL := [(.long ix), (.int (((ot &&& (65535 : Int32))).toUInt32.toUInt16.toUInt32.toInt32)), (.ref b261), (.ref b282)]) (rest := [(.ref b330)]) rfl (fun v337 h336 q338 => ?_)
      obtain ⟨rfl, K335, O_b330⟩ := q338
      have O_b261 := O_b261.keep K335 (ninS ne_b261_b330 nin0)
      have O_b270 := O_b270.keepX K335
      have O_b288 := O_b288.keep K335 (ninS ne_b288_b330 nin0)
      have A_b2 := A_b2.keep K335 (ninS ne_b2_b330 nin0)
      have A_b20 := A_b20.keep K335 (ninS ne_b20_b330 nin0)
      have A_b275 := A_b275.keep K335 (ninS ne_b275_b330 nin0)
      have A_b282 := A_b282.keep K335 (ninS ne_b282_b330 nin0)
      have OL := OL.keep K335 (allS g_b330 all0)
      have A_dc := AD.ext OL.2
      refine G.cast (st' := [(.ref b330)]) ?_ rfl
      refine g_astore cx d0_135 rfl (Ls' := #[.val (.int sel), .val (.long ix), .second, .val (.int ot), .val (.ref b2), .val (.ref b20), .val (.int (2 : Int32)), .val (.ref b261), .val (.ref b282), .val (.ref b288), .val (.int (0 : Int32)), .val (.int (((ot &&& (65535 : Int32))).toUInt32.toUInt16.toUInt32.toInt32)), .val (.ref b330), .unset]) rfl ?_
      refine g_aload cx d0_137 rfl rfl ?_
      refine g_virtual cx (y := (⟨"com/example/thalweg/thalweg/cli/Mpeg1Reader$Picture", "rank", "()I"⟩ : MethodName)) (z := (⟨"com/example/thalweg/thalweg/cli/Mpeg1Reader$Picture", "rank", "()I"⟩ : MethodName)) (a := b330) d0_139 (hw _ (List.mem_of_getElem? (i := 88) rfl)) (hw _ (List.mem_of_getElem? (i := 89) rfl)) (hw _ (List.mem_of_getElem? (i := 70) rfl)) (hw _ (List.mem_of_getElem? (i := 92) rfl)) (hw _ (List.mem_of_getElem? (i := 91) rfl)) (hw _ (List.mem_of_getElem? (i := 90) rfl)) rfl (by decide) O_b330.1 (bytes := prog_8_method_2_code) (maxL' := 1) (M := (ra10 l Z a0 hw dc lc cdc clc SDC AD SLC BX b330 b261 b275 b270 b282 ix (nar .char (((ot &&& (65535 : Int32))).toUInt32.toUInt16.toUInt32.toInt32)) cA276 cA283 _ O_b330 O_b261 O_b270 A_b275 A_b282 OV_b275 (Ne.symm ne_b261_b330) (Ne.symm ne_b275_b330) ne_b261_b275 (Ne.symm ne_b282_b330) ne_b261_b282 ne_b275_b282 g_b330 g_b261 g_b275 g_b282 OL)) rfl (lenOf pd_9 rfl) (by decide) (W := 0) (Nat.le_of_eq rfl) (by decide) (k' := 8) (n' := 32) rfl rfl (by decide) (by decide) (argsL := []) (rest := []) rfl (fun v348 h347 q349 => ?_)
      rcases q349 with ⟨hq339, rfl, rfl⟩ | ⟨hq341, hq342, rfl, rfl⟩ | ⟨hq344, hq345, rfl, rfl⟩
      · refine G.cast (st' := [(.int (2 : Int32))]) ?_ rfl
        refine g_istore cx d0_142 (Ls' := #[.val (.int sel), .val (.long ix), .second, .val (.int ot), .val (.ref b2), .val (.ref b20), .val (.int (2 : Int32)), .val (.ref b261), .val (.ref b282), .val (.ref b288), .val (.int (0 : Int32)), .val (.int (((ot &&& (65535 : Int32))).toUInt32.toUInt16.toUInt32.toInt32)), .val (.ref b330), .val (.int (2 : Int32))]) rfl ?_
        refine g_iload cx d0_144 rfl ?_
        refine g_if_eq cx d0_146 (fun hc146 => ?_) (fun q => absurd q (fun q => by revert q; decide))
        refine g_iconst cx d0_216 (v := (0 : Int32)) rfl ?_
        refine g_istore cx d0_217 (Ls' := #[.val (.int sel), .val (.long ix), .second, .val (.int ot), .val (.ref b2), .val (.ref b20), .val (.int (2 : Int32)), .val (.ref b261), .val (.ref b282), .val (.ref b288), .val (.int (0 : Int32)), .val (.int (((ot &&& (65535 : Int32))).toUInt32.toUInt16.toUInt32.toInt32)), .val (.ref b330), .val (.int (2 : Int32))]) rfl ?_
        refine g_iload cx d0_219 rfl ?_
        refine g_retZ cx d0_221 rfl rfl (by decide) (by decide) ?_
        exfalso
        have i_hs37 : ((sel &&& (3 : Int32))).toInt = ((2 : Int32)).toInt := congrArg Int32.toInt hs37
        have i_hq299 : ¬ ((nar .char (66 : Int32))).toInt = ((66 : Int32)).toInt := fun z => hq299 (Int32.toInt_inj.mp z)
        have i_hq300 : ((nar .char (66 : Int32))).toInt = ((80 : Int32)).toInt := congrArg Int32.toInt hq300
        have i_hc104 : ¬ ((1 : Int32)).toInt = ((2 : Int32)).toInt := fun z => hc104 (Int32.toInt_inj.mp z)
        have i_hq339 : ((nar .char (((ot &&& (65535 : Int32))).toUInt32.toUInt16.toUInt32.toInt32))).toInt = ((66 : Int32)).toInt := congrArg Int32.toInt hq339
        have i_hc146 : ((0 : Int32)).toInt = ((0 : Int32)).toInt := congrArg Int32.toInt hc146
        have r2 := rng32 sel
        have e1 : ((sel &&& (3 : Int32))).toInt = (sel).toInt % 4 := c_mask sel (3 : Int32) 2 (by decide) (by decide)
        have e3 : (2 : Int32).toInt = 2 := rfl
        have e5 : (66 : Int32).toInt = 66 := rfl
        have e4 : (((nar .char (66 : Int32))).toInt - ((66 : Int32)).toInt) % 65536 = 0 ∧ 0 ≤ ((nar .char (66 : Int32))).toInt ∧ ((nar .char (66 : Int32))).toInt < 65536 := c_i2c (66 : Int32)
        have e6 : (80 : Int32).toInt = 80 := rfl
        have e7 : (1 : Int32).toInt = 1 := rfl
        have r11 := rng32 ot
        have e10 : ((ot &&& (65535 : Int32))).toInt = (ot).toInt % 65536 := c_mask ot (65535 : Int32) 16 (by decide) (by decide)
        have e9 := c_i2c (ot &&& (65535 : Int32))
        have e8 : (((nar .char (((ot &&& (65535 : Int32))).toUInt32.toUInt16.toUInt32.toInt32))).toInt - ((((ot &&& (65535 : Int32))).toUInt32.toUInt16.toUInt32.toInt32)).toInt) % 65536 = 0 ∧ 0 ≤ ((nar .char (((ot &&& (65535 : Int32))).toUInt32.toUInt16.toUInt32.toInt32))).toInt ∧ ((nar .char (((ot &&& (65535 : Int32))).toUInt32.toUInt16.toUInt32.toInt32))).toInt < 65536 := c_i2c (((ot &&& (65535 : Int32))).toUInt32.toUInt16.toUInt32.toInt32)
        have e12 : (0 : Int32).toInt = 0 := rfl
        omega
      · refine G.cast (st' := [(.int (1 : Int32))]) ?_ rfl
        refine g_istore cx d0_142 (Ls' := #[.val (.int sel), .val (.long ix), .second, .val (.int ot), .val (.ref b2), .val (.ref b20), .val (.int (2 : Int32)), .val (.ref b261), .val (.ref b282), .val (.ref b288), .val (.int (0 : Int32)), .val (.int (((ot &&& (65535 : Int32))).toUInt32.toUInt16.toUInt32.toInt32)), .val (.ref b330), .val (.int (1 : Int32))]) rfl ?_
        refine g_iload cx d0_144 rfl ?_
        refine g_if_eq cx d0_146 (fun hc146 => ?_) (fun q => absurd q (fun q => by revert q; decide))
        refine g_iconst cx d0_216 (v := (0 : Int32)) rfl ?_
        refine g_istore cx d0_217 (Ls' := #[.val (.int sel), .val (.long ix), .second, .val (.int ot), .val (.ref b2), .val (.ref b20), .val (.int (2 : Int32)), .val (.ref b261), .val (.ref b282), .val (.ref b288), .val (.int (0 : Int32)), .val (.int (((ot &&& (65535 : Int32))).toUInt32.toUInt16.toUInt32.toInt32)), .val (.ref b330), .val (.int (1 : Int32))]) rfl ?_
        refine g_iload cx d0_219 rfl ?_
        refine g_retZ cx d0_221 rfl rfl (by decide) (by decide) ?_
        exfalso
        have i_hs37 : ((sel &&& (3 : Int32))).toInt = ((2 : Int32)).toInt := congrArg Int32.toInt hs37
        have i_hq299 : ¬ ((nar .char (66 : Int32))).toInt = ((66 : Int32)).toInt := fun z => hq299 (Int32.toInt_inj.mp z)
        have i_hq300 : ((nar .char (66 : Int32))).toInt = ((80 : Int32)).toInt := congrArg Int32.toInt hq300
        have i_hc104 : ¬ ((1 : Int32)).toInt = ((2 : Int32)).toInt := fun z => hc104 (Int32.toInt_inj.mp z)
        have i_hq341 : ¬ ((nar .char (((ot &&& (65535 : Int32))).toUInt32.toUInt16.toUInt32.toInt32))).toInt = ((66 : Int32)).toInt := fun z => hq341 (Int32.toInt_inj.mp z)
        have i_hq342 : ((nar .char (((ot &&& (65535 : Int32))).toUInt32.toUInt16.toUInt32.toInt32))).toInt = ((80 : Int32)).toInt := congrArg Int32.toInt hq342
        have i_hc146 : ((0 : Int32)).toInt = ((0 : Int32)).toInt := congrArg Int32.toInt hc146
        have r2 := rng32 sel
        have e1 : ((sel &&& (3 : Int32))).toInt = (sel).toInt % 4 := c_mask sel (3 : Int32) 2 (by decide) (by decide)
        have e3 : (2 : Int32).toInt = 2 := rfl
        have e5 : (66 : Int32).toInt = 66 := rfl
        have e4 : (((nar .char (66 : Int32))).toInt - ((66 : Int32)).toInt) % 65536 = 0 ∧ 0 ≤ ((nar .char (66 : Int32))).toInt ∧ ((nar .char (66 : Int32))).toInt < 65536 := c_i2c (66 : Int32)
        have e6 : (80 : Int32).toInt = 80 := rfl
        have e7 : (1 : Int32).toInt = 1 := rfl
        have r11 := rng32 ot
        have e10 : ((ot &&& (65535 : Int32))).toInt = (ot).toInt % 65536 := c_mask ot (65535 : Int32) 16 (by decide) (by decide)
        have e9 := c_i2c (ot &&& (65535 : Int32))
        have e8 : (((nar .char (((ot &&& (65535 : Int32))).toUInt32.toUInt16.toUInt32.toInt32))).toInt - ((((ot &&& (65535 : Int32))).toUInt32.toUInt16.toUInt32.toInt32)).toInt) % 65536 = 0 ∧ 0 ≤ ((nar .char (((ot &&& (65535 : Int32))).toUInt32.toUInt16.toUInt32.toInt32))).toInt ∧ ((nar .char (((ot &&& (65535 : Int32))).toUInt32.toUInt16.toUInt32.toInt32))).toInt < 65536 := c_i2c (((ot &&& (65535 : Int32))).toUInt32.toUInt16.toUInt32.toInt32)
        have e12 : (0 : Int32).toInt = 0 := rfl
        omega
      · refine G.cast (st' := [(.int (0 : Int32))]) ?_ rfl
        refine g_istore cx d0_142 (Ls' := #[.val (.int sel), .val (.long ix), .second, .val (.int ot), .val (.ref b2), .val (.ref b20), .val (.int (2 : Int32)), .val (.ref b261), .val (.ref b282), .val (.ref b288), .val (.int (0 : Int32)), .val (.int (((ot &&& (65535 : Int32))).toUInt32.toUInt16.toUInt32.toInt32)), .val (.ref b330), .val (.int (0 : Int32))]) rfl ?_
        refine g_iload cx d0_144 rfl ?_
        refine g_if_eq cx d0_146 (fun hc146 => ?_) (fun q => absurd q (fun q => by revert q; decide))
        refine g_iconst cx d0_216 (v := (0 : Int32)) rfl ?_
        refine g_istore cx d0_217 (Ls' := #[.val (.int sel), .val (.long ix), .second, .val (.int ot), .val (.ref b2), .val (.ref b20), .val (.int (2 : Int32)), .val (.ref b261), .val (.ref b282), .val (.ref b288), .val (.int (0 : Int32)), .val (.int (((ot &&& (65535 : Int32))).toUInt32.toUInt16.toUInt32.toInt32)), .val (.ref b330), .val (.int (0 : Int32))]) rfl ?_
        refine g_iload cx d0_219 rfl ?_
        refine g_retZ cx d0_221 rfl rfl (by decide) (by decide) ?_
        exfalso
        have i_hs37 : ((sel &&& (3 : Int32))).toInt = ((2 : Int32)).toInt := congrArg Int32.toInt hs37
        have i_hq299 : ¬ ((nar .char (66 : Int32))).toInt = ((66 : Int32)).toInt := fun z => hq299 (Int32.toInt_inj.mp z)
        have i_hq300 : ((nar .char (66 : Int32))).toInt = ((80 : Int32)).toInt := congrArg Int32.toInt hq300
        have i_hc104 : ¬ ((1 : Int32)).toInt = ((2 : Int32)).toInt := fun z => hc104 (Int32.toInt_inj.mp z)
        have i_hq344 : ¬ ((nar .char (((ot &&& (65535 : Int32))).toUInt32.toUInt16.toUInt32.toInt32))).toInt = ((66 : Int32)).toInt := fun z => hq344 (Int32.toInt_inj.mp z)
        have i_hq345 : ¬ ((nar .char (((ot &&& (65535 : Int32))).toUInt32.toUInt16.toUInt32.toInt32))).toInt = ((80 : Int32)).toInt := fun z => hq345 (Int32.toInt_inj.mp z)
        have i_hc146 : ((0 : Int32)).toInt = ((0 : Int32)).toInt := congrArg Int32.toInt hc146
        have r2 := rng32 sel
        have e1 : ((sel &&& (3 : Int32))).toInt = (sel).toInt % 4 := c_mask sel (3 : Int32) 2 (by decide) (by decide)
        have e3 : (2 : Int32).toInt = 2 := rfl
        have e5 : (66 : Int32).toInt = 66 := rfl
        have e4 : (((nar .char (66 : Int32))).toInt - ((66 : Int32)).toInt) % 65536 = 0 ∧ 0 ≤ ((nar .char (66 : Int32))).toInt ∧ ((nar .char (66 : Int32))).toInt < 65536 := c_i2c (66 : Int32)
        have e6 : (80 : Int32).toInt = 80 := rfl
        have e7 : (1 : Int32).toInt = 1 := rfl
        have r11 := rng32 ot
        have e10 : ((ot &&& (65535 : Int32))).toInt = (ot).toInt % 65536 := c_mask ot (65535 : Int32) 16 (by decide) (by decide)
        have e9 := c_i2c (ot &&& (65535 : Int32))
        have e8 : (((nar .char (((ot &&& (65535 : Int32))).toUInt32.toUInt16.toUInt32.toInt32))).toInt - ((((ot &&& (65535 : Int32))).toUInt32.toUInt16.toUInt32.toInt32)).toInt) % 65536 = 0 ∧ 0 ≤ ((nar .char (((ot &&& (65535 : Int32))).toUInt32.toUInt16.toUInt32.toInt32))).toInt ∧ ((nar .char (((ot &&& (65535 : Int32))).toUInt32.toUInt16.toUInt32.toInt32))).toInt < 65536 := c_i2c (((ot &&& (65535 : Int32))).toUInt32.toUInt16.toUInt32.toInt32)
        have e12 : (0 : Int32).toInt = 0 := rfl
        omega
    · refine G.cast (st' := [(.int (0 : Int32))]) ?_ rfl
      refine g_aload cx d0_99 rfl rfl ?_
      refine g_iload cx d0_101 rfl ?_
      refine g_iaload cx d0_103 A_b20.1 ⟨by decide, by decide⟩ (v := (.int (2 : Int32))) rfl ?_
      refine g_icmp_ne cx d0_104 (fun hc104 => ?_) (fun q => absurd q (fun q => by revert q; decide))
      refine g_iconst cx d0_111 (v := (0 : Int32)) rfl ?_
      refine g_istore cx d0_112 (Ls' := #[.val (.int sel), .val (.long ix), .second, .val (.int ot), .val (.ref b2), .val (.ref b20), .val (.int (2 : Int32)), .val (.ref b261), .val (.ref b282), .val (.ref b288), .val (.int (0 : Int32)), .unset, .unset, .unset]) rfl ?_
      refine g_iloadN cx d0_114 rfl ?_
      refine g_ldcI cx d0_115 (hw _ (List.mem_of_getElem? (i := 93) rfl)) ?_
      refine g_iand cx d0_117 ?_
      refine g_i2c cx d0_118 ?_
      refine g_istore cx d0_119 (Ls' := #[.val (.int sel), .val (.long ix), .second, .val (.int ot), .val (.ref b2), .val (.ref b20), .val (.int (2 : Int32)), .val (.ref b261), .val (.ref b282), .val (.ref b288), .val (.int (0 : Int32)), .val (.int (((ot &&& (65535 : Int32))).toUInt32.toUInt16.toUInt32.toInt32)), .unset, .unset]) rfl ?_
      refine g_new cx d0_121 (hw _ (List.mem_of_getElem? (i := 68) rfl)) (hw _ (List.mem_of_getElem? (i := 69) rfl)) (hw _ (List.mem_of_getElem? (i := 70) rfl)) (k' := 8) (n' := 32) rfl rfl (by decide) (by decide) (fun h350 b351 gb352 E353 X354 D355 => ?_)
      have ne_b261_b351 : b261 ≠ b351 := Nat.ne_of_lt (by rw [gb352]; exact O_b261.lt)
      have ne_b270_b351 : b270 ≠ b351 := Nat.ne_of_lt (by rw [gb352]; exact O_b270.lt)
      have ne_b288_b351 : b288 ≠ b351 := Nat.ne_of_lt (by rw [gb352]; exact O_b288.lt)
      have ne_b2_b351 : b2 ≠ b351 := Nat.ne_of_lt (by rw [gb352]; exact A_b2.lt)
      have ne_b20_b351 : b20 ≠ b351 := Nat.ne_of_lt (by rw [gb352]; exact A_b20.lt)
      have ne_b275_b351 : b275 ≠ b351 := Nat.ne_of_lt (by rw [gb352]; exact A_b275.lt)
      have ne_b282_b351 : b282 ≠ b351 := Nat.ne_of_lt (by rw [gb352]; exact A_b282.lt)
      have g_b351 : Z.heap.size ≤ b351 := by rw [gb352]; exact OL.2.1
      have O_b261 := O_b261.ext E353
      have O_b270 := O_b270.ext E353
      have O_b288 := O_b288.ext E353
      have A_b2 := A_b2.ext E353
      have A_b20 := A_b20.ext E353
      have A_b275 := A_b275.ext E353
      have A_b282 := A_b282.ext E353
      have OL := OL.ext E353
      have A_dc := AD.ext OL.2
      have O_b351 := ObP.new hw X354 D355
      refine g_dup cx d0_124 rfl ?_
      refine g_lloadN cx d0_125 rfl ?_
      refine g_iload cx d0_126 rfl ?_
      refine g_aload cx d0_128 rfl rfl ?_
      refine g_aload cx d0_130 rfl rfl ?_
      refine g_special cx (y := (⟨"com/example/thalweg/thalweg/cli/Mpeg1Reader$Picture", "<init>", "(JCLjava/util/List;[B)V"⟩ : MethodName)) (a := b351) d0_132 rfl rfl (hw _ (List.mem_of_getElem? (i := 71) rfl)) (hw _ (List.mem_of_getElem? (i := 72) rfl)) (hw _ (List.mem_of_getElem? (i := 70) rfl)) (hw _ (List.mem_of_getElem? (i := 73) rfl)) (by decide) (bytes := prog_8_method_1_code) (maxL' := 6) (M := (ra11 l Z a0 hw dc lc cdc clc SDC AD SLC BX b351 b261 b275 b270 b282 ix (((ot &&& (65535 : Int32))).toUInt32.toUInt16.toUInt32.toInt32) cA276 cA283 _ O_b351 O_b261 O_b270 A_b275 A_b282 OV_b275 (Ne.symm ne_b261_b351) (Ne.symm ne_b275_b351) ne_b261_b275 (Ne.symm ne_b282_b351) ne_b261_b282 ne_b275_b282 g_b351 g_b261 g_b275 g_b282 OL)) rfl (lenOf pd_8 rfl) (by decide) (W := 1) (Nat.le_of_eq rfl) (by decide) (k' := 8) (n' := 32) rfl rfl (by decide) (by decide) (argsL := [(.long ix), (.int (((ot &&& (65535 : Int32))).toUInt32.toUInt16.toUInt32.toInt32)), (.ref b261), (.ref b282)]) (rest := [(.ref b351)]) rfl (fun v358 h357 q359 => ?_)
      obtain ⟨rfl, K356, O_b351⟩ := q359
      have O_b261 := O_b261.keep K356 (ninS ne_b261_b351 nin0)
      have O_b270 := O_b270.keepX K356
      have O_b288 := O_b288.keep K356 (ninS ne_b288_b351 nin0)
      have A_b2 := A_b2.keep K356 (ninS ne_b2_b351 nin0)
      have A_b20 := A_b20.keep K356 (ninS ne_b20_b351 nin0)
      have A_b275 := A_b275.keep K356 (ninS ne_b275_b351 nin0)
      have A_b282 := A_b282.keep K356 (ninS ne_b282_b351 nin0)
      have OL := OL.keep K356 (allS g_b351 all0)
      have A_dc := AD.ext OL.2
      refine G.cast (st' := [(.ref b351)]) ?_ rfl
      refine g_astore cx d0_135 rfl (Ls' := #[.val (.int sel), .val (.long ix), .second, .val (.int ot), .val (.ref b2), .val (.ref b20), .val (.int (2 : Int32)), .val (.ref b261), .val (.ref b282), .val (.ref b288), .val (.int (0 : Int32)), .val (.int (((ot &&& (65535 : Int32))).toUInt32.toUInt16.toUInt32.toInt32)), .val (.ref b351), .unset]) rfl ?_
      refine g_aload cx d0_137 rfl rfl ?_
      refine g_virtual cx (y := (⟨"com/example/thalweg/thalweg/cli/Mpeg1Reader$Picture", "rank", "()I"⟩ : MethodName)) (z := (⟨"com/example/thalweg/thalweg/cli/Mpeg1Reader$Picture", "rank", "()I"⟩ : MethodName)) (a := b351) d0_139 (hw _ (List.mem_of_getElem? (i := 88) rfl)) (hw _ (List.mem_of_getElem? (i := 89) rfl)) (hw _ (List.mem_of_getElem? (i := 70) rfl)) (hw _ (List.mem_of_getElem? (i := 92) rfl)) (hw _ (List.mem_of_getElem? (i := 91) rfl)) (hw _ (List.mem_of_getElem? (i := 90) rfl)) rfl (by decide) O_b351.1 (bytes := prog_8_method_2_code) (maxL' := 1) (M := (ra10 l Z a0 hw dc lc cdc clc SDC AD SLC BX b351 b261 b275 b270 b282 ix (nar .char (((ot &&& (65535 : Int32))).toUInt32.toUInt16.toUInt32.toInt32)) cA276 cA283 _ O_b351 O_b261 O_b270 A_b275 A_b282 OV_b275 (Ne.symm ne_b261_b351) (Ne.symm ne_b275_b351) ne_b261_b275 (Ne.symm ne_b282_b351) ne_b261_b282 ne_b275_b282 g_b351 g_b261 g_b275 g_b282 OL)) rfl (lenOf pd_9 rfl) (by decide) (W := 0) (Nat.le_of_eq rfl) (by decide) (k' := 8) (n' := 32) rfl rfl (by decide) (by decide) (argsL := []) (rest := []) rfl (fun v369 h368 q370 => ?_)
      rcases q370 with ⟨hq360, rfl, rfl⟩ | ⟨hq362, hq363, rfl, rfl⟩ | ⟨hq365, hq366, rfl, rfl⟩
      · refine G.cast (st' := [(.int (2 : Int32))]) ?_ rfl
        refine g_istore cx d0_142 (Ls' := #[.val (.int sel), .val (.long ix), .second, .val (.int ot), .val (.ref b2), .val (.ref b20), .val (.int (2 : Int32)), .val (.ref b261), .val (.ref b282), .val (.ref b288), .val (.int (0 : Int32)), .val (.int (((ot &&& (65535 : Int32))).toUInt32.toUInt16.toUInt32.toInt32)), .val (.ref b351), .val (.int (2 : Int32))]) rfl ?_
        refine g_iload cx d0_144 rfl ?_
        refine g_if_eq cx d0_146 (fun hc146 => ?_) (fun q => absurd q (fun q => by revert q; decide))
        refine g_iconst cx d0_216 (v := (0 : Int32)) rfl ?_
        refine g_istore cx d0_217 (Ls' := #[.val (.int sel), .val (.long ix), .second, .val (.int ot), .val (.ref b2), .val (.ref b20), .val (.int (2 : Int32)), .val (.ref b261), .val (.ref b282), .val (.ref b288), .val (.int (0 : Int32)), .val (.int (((ot &&& (65535 : Int32))).toUInt32.toUInt16.toUInt32.toInt32)), .val (.ref b351), .val (.int (2 : Int32))]) rfl ?_
        refine g_iload cx d0_219 rfl ?_
        refine g_retZ cx d0_221 rfl rfl (by decide) (by decide) ?_
        exfalso
        have i_hs37 : ((sel &&& (3 : Int32))).toInt = ((2 : Int32)).toInt := congrArg Int32.toInt hs37
        have i_hq302 : ¬ ((nar .char (66 : Int32))).toInt = ((66 : Int32)).toInt := fun z => hq302 (Int32.toInt_inj.mp z)
        have i_hq303 : ¬ ((nar .char (66 : Int32))).toInt = ((80 : Int32)).toInt := fun z => hq303 (Int32.toInt_inj.mp z)
        have i_hc104 : ¬ ((0 : Int32)).toInt = ((2 : Int32)).toInt := fun z => hc104 (Int32.toInt_inj.mp z)
        have i_hq360 : ((nar .char (((ot &&& (65535 : Int32))).toUInt32.toUInt16.toUInt32.toInt32))).toInt = ((66 : Int32)).toInt := congrArg Int32.toInt hq360
        have i_hc146 : ((0 : Int32)).toInt = ((0 : Int32)).toInt := congrArg Int32.toInt hc146
        have r2 := rng32 sel
        have e1 : ((sel &&& (3 : Int32))).toInt = (sel).toInt % 4 := c_mask sel (3 : Int32) 2 (by decide) (by decide)
        have e3 : (2 : Int32).toInt = 2 := rfl
        have e5 : (66 : Int32).toInt = 66 := rfl
        have e4 : (((nar .char (66 : Int32))).toInt - ((66 : Int32)).toInt) % 65536 = 0 ∧ 0 ≤ ((nar .char (66 : Int32))).toInt ∧ ((nar .char (66 : Int32))).toInt < 65536 := c_i2c (66 : Int32)
        have e6 : (80 : Int32).toInt = 80 := rfl
        have e7 : (0 : Int32).toInt = 0 := rfl
        have r11 := rng32 ot
        have e10 : ((ot &&& (65535 : Int32))).toInt = (ot).toInt % 65536 := c_mask ot (65535 : Int32) 16 (by decide) (by decide)
        have e9 := c_i2c (ot &&& (65535 : Int32))
        have e8 : (((nar .char (((ot &&& (65535 : Int32))).toUInt32.toUInt16.toUInt32.toInt32))).toInt - ((((ot &&& (65535 : Int32))).toUInt32.toUInt16.toUInt32.toInt32)).toInt) % 65536 = 0 ∧ 0 ≤ ((nar .char (((ot &&& (65535 : Int32))).toUInt32.toUInt16.toUInt32.toInt32))).toInt ∧ ((nar .char (((ot &&& (65535 : Int32))).toUInt32.toUInt16.toUInt32.toInt32))).toInt < 65536 := c_i2c (((ot &&& (65535 : Int32))).toUInt32.toUInt16.toUInt32.toInt32)
        omega
      · refine G.cast (st' := [(.int (1 : Int32))]) ?_ rfl
        refine g_istore cx d0_142 (Ls' := #[.val (.int sel), .val (.long ix), .second, .val (.int ot), .val (.ref b2), .val (.ref b20), .val (.int (2 : Int32)), .val (.ref b261), .val (.ref b282), .val (.ref b288), .val (.int (0 : Int32)), .val (.int (((ot &&& (65535 : Int32))).toUInt32.toUInt16.toUInt32.toInt32)), .val (.ref b351), .val (.int (1 : Int32))]) rfl ?_
        refine g_iload cx d0_144 rfl ?_
        refine g_if_eq cx d0_146 (fun hc146 => ?_) (fun q => absurd q (fun q => by revert q; decide))
        refine g_iconst cx d0_216 (v := (0 : Int32)) rfl ?_
        refine g_istore cx d0_217 (Ls' := #[.val (.int sel), .val (.long ix), .second, .val (.int ot), .val (.ref b2), .val (.ref b20), .val (.int (2 : Int32)), .val (.ref b261), .val (.ref b282), .val (.ref b288), .val (.int (0 : Int32)), .val (.int (((ot &&& (65535 : Int32))).toUInt32.toUInt16.toUInt32.toInt32)), .val (.ref b351), .val (.int (1 : Int32))]) rfl ?_
        refine g_iload cx d0_219 rfl ?_
        refine g_retZ cx d0_221 rfl rfl (by decide) (by decide) ?_
        exfalso
        have i_hs37 : ((sel &&& (3 : Int32))).toInt = ((2 : Int32)).toInt := congrArg Int32.toInt hs37
        have i_hq302 : ¬ ((nar .char (66 : Int32))).toInt = ((66 : Int32)).toInt := fun z => hq302 (Int32.toInt_inj.mp z)
        have i_hq303 : ¬ ((nar .char (66 : Int32))).toInt = ((80 : Int32)).toInt := fun z => hq303 (Int32.toInt_inj.mp z)
        have i_hc104 : ¬ ((0 : Int32)).toInt = ((2 : Int32)).toInt := fun z => hc104 (Int32.toInt_inj.mp z)
        have i_hq362 : ¬ ((nar .char (((ot &&& (65535 : Int32))).toUInt32.toUInt16.toUInt32.toInt32))).toInt = ((66 : Int32)).toInt := fun z => hq362 (Int32.toInt_inj.mp z)
        have i_hq363 : ((nar .char (((ot &&& (65535 : Int32))).toUInt32.toUInt16.toUInt32.toInt32))).toInt = ((80 : Int32)).toInt := congrArg Int32.toInt hq363
        have i_hc146 : ((0 : Int32)).toInt = ((0 : Int32)).toInt := congrArg Int32.toInt hc146
        have r2 := rng32 sel
        have e1 : ((sel &&& (3 : Int32))).toInt = (sel).toInt % 4 := c_mask sel (3 : Int32) 2 (by decide) (by decide)
        have e3 : (2 : Int32).toInt = 2 := rfl
        have e5 : (66 : Int32).toInt = 66 := rfl
        have e4 : (((nar .char (66 : Int32))).toInt - ((66 : Int32)).toInt) % 65536 = 0 ∧ 0 ≤ ((nar .char (66 : Int32))).toInt ∧ ((nar .char (66 : Int32))).toInt < 65536 := c_i2c (66 : Int32)
        have e6 : (80 : Int32).toInt = 80 := rfl
        have e7 : (0 : Int32).toInt = 0 := rfl
        have r11 := rng32 ot
        have e10 : ((ot &&& (65535 : Int32))).toInt = (ot).toInt % 65536 := c_mask ot (65535 : Int32) 16 (by decide) (by decide)
        have e9 := c_i2c (ot &&& (65535 : Int32))
        have e8 : (((nar .char (((ot &&& (65535 : Int32))).toUInt32.toUInt16.toUInt32.toInt32))).toInt - ((((ot &&& (65535 : Int32))).toUInt32.toUInt16.toUInt32.toInt32)).toInt) % 65536 = 0 ∧ 0 ≤ ((nar .char (((ot &&& (65535 : Int32))).toUInt32.toUInt16.toUInt32.toInt32))).toInt ∧ ((nar .char (((ot &&& (65535 : Int32))).toUInt32.toUInt16.toUInt32.toInt32))).toInt < 65536 := c_i2c (((ot &&& (65535 : Int32))).toUInt32.toUInt16.toUInt32.toInt32)
        omega
      · refine G.cast (st' := [(.int (0 : Int32))]) ?_ rfl
        refine g_istore cx d0_142 (Ls' := #[.val (.int sel), .val (.long ix), .second, .val (.int ot), .val (.ref b2), .val (.ref b20), .val (.int (2 : Int32)), .val (.ref b261), .val (.ref b282), .val (.ref b288), .val (.int (0 : Int32)), .val (.int (((ot &&& (65535 : Int32))).toUInt32.toUInt16.toUInt32.toInt32)), .val (.ref b351), .val (.int (0 : Int32))]) rfl ?_
        refine g_iload cx d0_144 rfl ?_
        refine g_if_eq cx d0_146 (fun hc146 => ?_) (fun q => absurd q (fun q => by revert q; decide))
        refine g_iconst cx d0_216 (v := (0 : Int32)) rfl ?_
        refine g_istore cx d0_217 (Ls' := #[.val (.int sel), .val (.long ix), .second, .val (.int ot), .val (.ref b2), .val (.ref b20), .val (.int (2 : Int32)), .val (.ref b261), .val (.ref b282), .val (.ref b288), .val (.int (0 : Int32)), .val (.int (((ot &&& (65535 : Int32))).toUInt32.toUInt16.toUInt32.toInt32)), .val (.ref b351), .val (.int (0 : Int32))]) rfl ?_
        refine g_iload cx d0_219 rfl ?_
        refine g_retZ cx d0_221 rfl rfl (by decide) (by decide) ?_
        exfalso
        have i_hs37 : ((sel &&& (3 : Int32))).toInt = ((2 : Int32)).toInt := congrArg Int32.toInt hs37
        have i_hq302 : ¬ ((nar .char (66 : Int32))).toInt = ((66 : Int32)).toInt := fun z => hq302 (Int32.toInt_inj.mp z)
        have i_hq303 : ¬ ((nar .char (66 : Int32))).toInt = ((80 : Int32)).toInt := fun z => hq303 (Int32.toInt_inj.mp z)
        have i_hc104 : ¬ ((0 : Int32)).toInt = ((2 : Int32)).toInt := fun z => hc104 (Int32.toInt_inj.mp z)
        have i_hq365 : ¬ ((nar .char (((ot &&& (65535 : Int32))).toUInt32.toUInt16.toUInt32.toInt32))).toInt = ((66 : Int32)).toInt := fun z => hq365 (Int32.toInt_inj.mp z)
        have i_hq366 : ¬ ((nar .char (((ot &&& (65535 : Int32))).toUInt32.toUInt16.toUInt32.toInt32))).toInt = ((80 : Int32)).toInt := fun z => hq366 (Int32.toInt_inj.mp z)
        have i_hc146 : ((0 : Int32)).toInt = ((0 : Int32)).toInt := congrArg Int32.toInt hc146
        have r2 := rng32 sel
        have e1 : ((sel &&& (3 : Int32))).toInt = (sel).toInt % 4 := c_mask sel (3 : Int32) 2 (by decide) (by decide)
        have e3 : (2 : Int32).toInt = 2 := rfl
        have e5 : (66 : Int32).toInt = 66 := rfl
        have e4 : (((nar .char (66 : Int32))).toInt - ((66 : Int32)).toInt) % 65536 = 0 ∧ 0 ≤ ((nar .char (66 : Int32))).toInt ∧ ((nar .char (66 : Int32))).toInt < 65536 := c_i2c (66 : Int32)
        have e6 : (80 : Int32).toInt = 80 := rfl
        have e7 : (0 : Int32).toInt = 0 := rfl
        have r11 := rng32 ot
        have e10 : ((ot &&& (65535 : Int32))).toInt = (ot).toInt % 65536 := c_mask ot (65535 : Int32) 16 (by decide) (by decide)
        have e9 := c_i2c (ot &&& (65535 : Int32))
        have e8 : (((nar .char (((ot &&& (65535 : Int32))).toUInt32.toUInt16.toUInt32.toInt32))).toInt - ((((ot &&& (65535 : Int32))).toUInt32.toUInt16.toUInt32.toInt32)).toInt) % 65536 = 0 ∧ 0 ≤ ((nar .char (((ot &&& (65535 : Int32))).toUInt32.toUInt16.toUInt32.toInt32))).toInt ∧ ((nar .char (((ot &&& (65535 : Int32))).toUInt32.toUInt16.toUInt32.toInt32))).toInt < 65536 := c_i2c (((ot &&& (65535 : Int32))).toUInt32.toUInt16.toUInt32.toInt32)
        omega
  · rw [hs37]
    refine g_istore cx d0_49 (Ls' := #[.val (.int sel), .val (.long ix), .second, .val (.int ot), .val (.ref b2), .val (.ref b20), .val (.int (3 : Int32)), .unset, .unset, .unset, .unset, .unset, .unset, .unset]) rfl ?_
    refine g_new cx d0_51 (hw _ (List.mem_of_getElem? (i := 2) rfl)) (hw _ (List.mem_of_getElem? (i := 3) rfl)) (hw _ (List.mem_of_getElem? (i := 4) rfl)) (k' := 3) (n' := 11) rfl rfl (by decide) (by decide) (fun h371 b372 gb373 E374 X375 D376 => ?_)
    have ne_b2_b372 : b2 ≠ b372 := Nat.ne_of_lt (by rw [gb373]; exact A_b2.lt)
    have ne_b20_b372 : b20 ≠ b372 := Nat.ne_of_lt (by rw [gb373]; exact A_b20.lt)
    have g_b372 : Z.heap.size ≤ b372 := by rw [gb373]; exact OL.2.1
    have A_b2 := A_b2.ext E374
    have A_b20 := A_b20.ext E374
    have OL := OL.ext E374
    have A_dc := AD.ext OL.2
    have O_b372 := ObA.new hw X375 D376
    refine g_dup cx d0_54 rfl ?_
    refine g_special cx (y := (⟨"java/util/ArrayList", "<init>", "()V"⟩ : MethodName)) (a := b372) d0_55 rfl rfl (hw _ (List.mem_of_getElem? (i := 5) rfl)) (hw _ (List.mem_of_getElem? (i := 6) rfl)) (hw _ (List.mem_of_getElem? (i := 4) rfl)) (hw _ (List.mem_of_getElem? (i := 7) rfl)) (by decide) (bytes := jdk_38_method_2_code) (maxL' := 1) (M := (ra2 l Z a0 hw dc lc cdc clc SDC AD SLC BX b372 _ O_b372 g_b372 OL)) rfl (lenOf pd_0 rfl) (by decide) (W := 1) (Nat.le_of_eq rfl) (by decide) (k' := 3) (n' := 11) rfl rfl (by decide) (by decide) (argsL := []) (rest := [(.ref b372)]) rfl (fun v379 h378 q380 => ?_)
    obtain ⟨rfl, K377, O_b372⟩ := q380
    have A_b2 := A_b2.keep K377 (ninS ne_b2_b372 nin0)
    have A_b20 := A_b20.keep K377 (ninS ne_b20_b372 nin0)
    have OL := OL.keep K377 (allS g_b372 all0)
    have A_dc := AD.ext OL.2
    refine G.cast (st' := [(.ref b372)]) ?_ rfl
    refine g_astore cx d0_58 rfl (Ls' := #[.val (.int sel), .val (.long ix), .second, .val (.int ot), .val (.ref b2), .val (.ref b20), .val (.int (3 : Int32)), .val (.ref b372), .unset, .unset, .unset, .unset, .unset, .unset]) rfl ?_
    refine g_aload cx d0_60 rfl rfl ?_
    refine g_lloadN cx d0_62 rfl ?_
    refine g_static cx (y := (⟨"java/lang/Long", "valueOf", "(J)Ljava/lang/Long;"⟩ : MethodName)) d0_63 (hw _ (List.mem_of_getElem? (i := 28) rfl)) (hw _ (List.mem_of_getElem? (i := 29) rfl)) (hw _ (List.mem_of_getElem? (i := 30) rfl)) (hw _ (List.mem_of_getElem? (i := 31) rfl)) (by decide) (bytes := jdk_35_method_24_code) (maxL' := 3) (M := (rmV l Z a0 hw _ _ OL dc lc cdc clc SDC AD SLC BX)) rfl (lenOf pd_2 rfl) (by decide) (W := 1) (Nat.le_of_eq rfl) (by decide) (k' := 4) (n' := 12) rfl rfl (by decide) (by decide) (argsL := [(.long ix)]) (rest := [(.ref b372)]) rfl (fun v384 h383 q385 => ?_)
    obtain ⟨b381, rfl, K382, O_b381⟩ := q385
    have O_b372 := O_b372.keep K382 nin0
    have A_b2 := A_b2.keep K382 nin0
    have A_b20 := A_b20.keep K382 nin0
    have OL := OL.keep K382 all0
    have A_dc := AD.ext OL.2
    refine G.cast (st' := [(.ref b381), (.ref b372)]) ?_ rfl
    have lt_b372 := O_b372.lt
    refine g_virtual cx (y := (⟨"java/util/ArrayList", "add", "(Ljava/lang/Object;)Z"⟩ : MethodName)) (z := (⟨"java/util/ArrayList", "add", "(Ljava/lang/Object;)Z"⟩ : MethodName)) (a := b372) d0_66 (hw _ (List.mem_of_getElem? (i := 36) rfl)) (hw _ (List.mem_of_getElem? (i := 37) rfl)) (hw _ (List.mem_of_getElem? (i := 4) rfl)) (hw _ (List.mem_of_getElem? (i := 40) rfl)) (hw _ (List.mem_of_getElem? (i := 39) rfl)) (hw _ (List.mem_of_getElem? (i := 38) rfl)) rfl (by decide) O_b372.1 (bytes := jdk_38_method_25_code) (maxL' := 2) (M := (ra4 l Z a0 hw dc lc cdc clc SDC AD SLC BX b372 b381 _ O_b372 O_b381 g_b372 OL)) rfl (lenOf pd_7 rfl) (by decide) (W := 0) (Nat.le_of_eq rfl) (by decide) (k' := 5) (n' := 22) rfl rfl (by decide) (by decide) (argsL := [(.ref b381)]) (rest := []) rfl (fun v390 h389 q391 => ?_)
    obtain ⟨b386, cA387, rfl, K388, sq_b386, A_b386, OV_b386, O_b372⟩ := q391
    have ne_b372_b386 : b372 ≠ b386 := Nat.ne_of_lt (Nat.lt_of_lt_of_le lt_b372 sq_b386)
    have ne_b381_b386 : b381 ≠ b386 := Nat.ne_of_lt (Nat.lt_of_lt_of_le O_b381.lt sq_b386)
    have ne_b2_b386 : b2 ≠ b386 := Nat.ne_of_lt (Nat.lt_of_lt_of_le A_b2.lt sq_b386)
    have ne_b20_b386 : b20 ≠ b386 := Nat.ne_of_lt (Nat.lt_of_lt_of_le A_b20.lt sq_b386)
    have g_b386 : Z.heap.size ≤ b386 := Nat.le_trans OL.2.1 sq_b386
    have O_b381 := O_b381.keepX K388
    have A_b2 := A_b2.keep K388 (ninS ne_b2_b372 nin0)
    have A_b20 := A_b20.keep K388 (ninS ne_b20_b372 nin0)
    have OL := OL.keep K388 (allS g_b372 all0)
    have A_dc := AD.ext OL.2
    refine G.cast (st' := [(.int (1 : Int32))]) ?_ rfl
    refine g_pop cx d0_69 rfl ?_
    refine g_iconst cx d0_70 (v := (2 : Int32)) rfl ?_
    refine g_newarray cx (ad := "[B") (by decide) d0_71 (hw _ (List.mem_of_getElem? (i := 67) rfl)) (by decide) (cap := 2) (by decide) (by decide) (k' := 6) (n' := 24) rfl rfl (by decide) (by decide) (fun h392 b393 cA394 gb395 E396 X397 => ?_)
    have ne_b372_b393 : b372 ≠ b393 := Nat.ne_of_lt (by rw [gb395]; exact O_b372.lt)
    have ne_b381_b393 : b381 ≠ b393 := Nat.ne_of_lt (by rw [gb395]; exact O_b381.lt)
    have ne_b2_b393 : b2 ≠ b393 := Nat.ne_of_lt (by rw [gb395]; exact A_b2.lt)
    have ne_b20_b393 : b20 ≠ b393 := Nat.ne_of_lt (by rw [gb395]; exact A_b20.lt)
    have ne_b386_b393 : b386 ≠ b393 := Nat.ne_of_lt (by rw [gb395]; exact A_b386.lt)
    have g_b393 : Z.heap.size ≤ b393 := by rw [gb395]; exact OL.2.1
    have O_b372 := O_b372.ext E396
    have O_b381 := O_b381.ext E396
    have A_b2 := A_b2.ext E396
    have A_b20 := A_b20.ext E396
    have A_b386 := A_b386.ext E396
    have OL := OL.ext E396
    have A_dc := AD.ext OL.2
    have A_b393 : Arx Z h392 b393 cA394 .byte (2 : Int32) [(.int (0 : Int32)), (.int (0 : Int32))] (.int (0 : Int32)) "[B" := X397.pad (pad_rep [] (.int (0 : Int32)) 2)
    refine g_astore cx d0_73 rfl (Ls' := #[.val (.int sel), .val (.long ix), .second, .val (.int ot), .val (.ref b2), .val (.ref b20), .val (.int (3 : Int32)), .val (.ref b372), .val (.ref b393), .unset, .unset, .unset, .unset, .unset]) rfl ?_
    refine g_new cx d0_75 (hw _ (List.mem_of_getElem? (i := 68) rfl)) (hw _ (List.mem_of_getElem? (i := 69) rfl)) (hw _ (List.mem_of_getElem? (i := 70) rfl)) (k' := 7) (n' := 28) rfl rfl (by decide) (by decide) (fun h398 b399 gb400 E401 X402 D403 => ?_)
    have ne_b372_b399 : b372 ≠ b399 := Nat.ne_of_lt (by rw [gb400]; exact O_b372.lt)
    have ne_b381_b399 : b381 ≠ b399 := Nat.ne_of_lt (by rw [gb400]; exact O_b381.lt)
    have ne_b2_b399 : b2 ≠ b399 := Nat.ne_of_lt (by rw [gb400]; exact A_b2.lt)
    have ne_b20_b399 : b20 ≠ b399 := Nat.ne_of_lt (by rw [gb400]; exact A_b20.lt)
    have ne_b386_b399 : b386 ≠ b399 := Nat.ne_of_lt (by rw [gb400]; exact A_b386.lt)
    have ne_b393_b399 : b393 ≠ b399 := Nat.ne_of_lt (by rw [gb400]; exact A_b393.lt)
    have g_b399 : Z.heap.size ≤ b399 := by rw [gb400]; exact OL.2.1
    have O_b372 := O_b372.ext E401
    have O_b381 := O_b381.ext E401
    have A_b2 := A_b2.ext E401
    have A_b20 := A_b20.ext E401
    have A_b386 := A_b386.ext E401
    have A_b393 := A_b393.ext E401
    have OL := OL.ext E401
    have A_dc := AD.ext OL.2
    have O_b399 := ObP.new hw X402 D403
    refine g_dup cx d0_78 rfl ?_
    refine g_lloadN cx d0_79 rfl ?_
    refine g_aload cx d0_80 rfl rfl ?_
    refine g_iload cx d0_82 rfl ?_
    refine g_caload cx d0_84 A_b2.1 ⟨by decide, by decide⟩ (v := (.int (68 : Int32))) rfl ?_
    refine g_aload cx d0_85 rfl rfl ?_
    refine g_aload cx d0_87 rfl rfl ?_
    refine g_special cx (y := (⟨"com/example/thalweg/thalweg/cli/Mpeg1Reader$Picture", "<init>", "(JCLjava/util/List;[B)V"⟩ : MethodName)) (a := b399) d0_89 rfl rfl (hw _ (List.mem_of_getElem? (i := 71) rfl)) (hw _ (List.mem_of_getElem? (i := 72) rfl)) (hw _ (List.mem_of_getElem? (i := 70) rfl)) (hw _ (List.mem_of_getElem? (i := 73) rfl)) (by decide) (bytes := prog_8_method_1_code) (maxL' := 6) (M := (ra9 l Z a0 hw dc lc cdc clc SDC AD SLC BX b399 b372 b386 b381 b393 ix (68 : Int32) cA387 cA394 _ O_b399 O_b372 O_b381 A_b386 A_b393 OV_b386 (Ne.symm ne_b372_b399) (Ne.symm ne_b386_b399) ne_b372_b386 (Ne.symm ne_b393_b399) ne_b372_b393 ne_b386_b393 g_b399 g_b372 g_b386 g_b393 OL)) rfl (lenOf pd_8 rfl) (by decide) (W := 1) (Nat.le_of_eq rfl) (by decide) (k' := 7) (n' := 28) rfl rfl (by decide) (by decide) (argsL := [(.long ix), (.int (68 : Int32)), (.ref b372), (.ref b393)]) (rest := [(.ref b399)]) rfl (fun v406 h405 q407 => ?_)
    obtain ⟨rfl, K404, O_b399⟩ := q407
    have O_b372 := O_b372.keep K404 (ninS ne_b372_b399 nin0)
    have O_b381 := O_b381.keepX K404
    have A_b2 := A_b2.keep K404 (ninS ne_b2_b399 nin0)
    have A_b20 := A_b20.keep K404 (ninS ne_b20_b399 nin0)
    have A_b386 := A_b386.keep K404 (ninS ne_b386_b399 nin0)
    have A_b393 := A_b393.keep K404 (ninS ne_b393_b399 nin0)
    have OL := OL.keep K404 (allS g_b399 all0)
    have A_dc := AD.ext OL.2
    refine G.cast (st' := [(.ref b399)]) ?_ rfl
    refine g_astore cx d0_92 rfl (Ls' := #[.val (.int sel), .val (.long ix), .second, .val (.int ot), .val (.ref b2), .val (.ref b20), .val (.int (3 : Int32)), .val (.ref b372), .val (.ref b393), .val (.ref b399), .unset, .unset, .unset, .unset]) rfl ?_
    refine g_aload cx d0_94 rfl rfl ?_
    refine g_virtual cx (y := (⟨"com/example/thalweg/thalweg/cli/Mpeg1Reader$Picture", "rank", "()I"⟩ : MethodName)) (z := (⟨"com/example/thalweg/thalweg/cli/Mpeg1Reader$Picture", "rank", "()I"⟩ : MethodName)) (a := b399) d0_96 (hw _ (List.mem_of_getElem? (i := 88) rfl)) (hw _ (List.mem_of_getElem? (i := 89) rfl)) (hw _ (List.mem_of_getElem? (i := 70) rfl)) (hw _ (List.mem_of_getElem? (i := 92) rfl)) (hw _ (List.mem_of_getElem? (i := 91) rfl)) (hw _ (List.mem_of_getElem? (i := 90) rfl)) rfl (by decide) O_b399.1 (bytes := prog_8_method_2_code) (maxL' := 1) (M := (ra10 l Z a0 hw dc lc cdc clc SDC AD SLC BX b399 b372 b386 b381 b393 ix (nar .char (68 : Int32)) cA387 cA394 _ O_b399 O_b372 O_b381 A_b386 A_b393 OV_b386 (Ne.symm ne_b372_b399) (Ne.symm ne_b386_b399) ne_b372_b386 (Ne.symm ne_b393_b399) ne_b372_b393 ne_b386_b393 g_b399 g_b372 g_b386 g_b393 OL)) rfl (lenOf pd_9 rfl) (by decide) (W := 0) (Nat.le_of_eq rfl) (by decide) (k' := 7) (n' := 28) rfl rfl (by decide) (by decide) (argsL := []) (rest := []) rfl (fun v417 h416 q418 => ?_)
    rcases q418 with ⟨hq408, rfl, rfl⟩ | ⟨hq410, hq411, rfl, rfl⟩ | ⟨hq413, hq414, rfl, rfl⟩
    · refine G.cast (st' := [(.int (2 : Int32))]) ?_ rfl
      refine g_aload cx d0_99 rfl rfl ?_
      refine g_iload cx d0_101 rfl ?_
      refine g_iaload cx d0_103 A_b20.1 ⟨by decide, by decide⟩ (v := (.int (0 : Int32))) rfl ?_
      refine g_icmp_ne cx d0_104 (fun hc104 => ?_) (fun q => absurd q (fun q => by revert q; decide))
      refine g_iconst cx d0_111 (v := (0 : Int32)) rfl ?_
      refine g_istore cx d0_112 (Ls' := #[.val (.int sel), .val (.long ix), .second, .val (.int ot), .val (.ref b2), .val (.ref b20), .val (.int (3 : Int32)), .val (.ref b372), .val (.ref b393), .val (.ref b399), .val (.int (0 : Int32)), .unset, .unset, .unset]) rfl ?_
      refine g_iloadN cx d0_114 rfl ?_
      refine g_ldcI cx d0_115 (hw _ (List.mem_of_getElem? (i := 93) rfl)) ?_
      refine g_iand cx d0_117 ?_
      refine g_i2c cx d0_118 ?_
      refine g_istore cx d0_119 (Ls' := #[.val (.int sel), .val (.long ix), .second, .val (.int ot), .val (.ref b2), .val (.ref b20), .val (.int (3 : Int32)), .val (.ref b372), .val (.ref b393), .val (.ref b399), .val (.int (0 : Int32)), .val (.int (((ot &&& (65535 : Int32))).toUInt32.toUInt16.toUInt32.toInt32)), .unset, .unset]) rfl ?_
      refine g_new cx d0_121 (hw _ (List.mem_of_getElem? (i := 68) rfl)) (hw _ (List.mem_of_getElem? (i := 69) rfl)) (hw _ (List.mem_of_getElem? (i := 70) rfl)) (k' := 8) (n' := 32) rfl rfl (by decide) (by decide) (fun h419 b420 gb421 E422 X423 D424 => ?_)
      have ne_b372_b420 : b372 ≠ b420 := Nat.ne_of_lt (by rw [gb421]; exact O_b372.lt)
      have ne_b381_b420 : b381 ≠ b420 := Nat.ne_of_lt (by rw [gb421]; exact O_b381.lt)
      have ne_b399_b420 : b399 ≠ b420 := Nat.ne_of_lt (by rw [gb421]; exact O_b399.lt)
      have ne_b2_b420 : b2 ≠ b420 := Nat.ne_of_lt (by rw [gb421]; exact A_b2.lt)
      have ne_b20_b420 : b20 ≠ b420 := Nat.ne_of_lt (by rw [gb421]; exact A_b20.lt)
      have ne_b386_b420 : b386 ≠ b420 := Nat.ne_of_lt (by rw [gb421]; exact A_b386.lt)
      have ne_b393_b420 : b393 ≠ b420 := Nat.ne_of_lt (by rw [gb421]; exact A_b393.lt)
      have g_b420 : Z.heap.size ≤ b420 := by rw [gb421]; exact OL.2.1
      have O_b372 := O_b372.ext E422
      have O_b381 := O_b381.ext E422
      have O_b399 := O_b399.ext E422
      have A_b2 := A_b2.ext E422
      have A_b20 := A_b20.ext E422
      have A_b386 := A_b386.ext E422
      have A_b393 := A_b393.ext E422
      have OL := OL.ext E422
      have A_dc := AD.ext OL.2
      have O_b420 := ObP.new hw X423 D424
      refine g_dup cx d0_124 rfl ?_
      refine g_lloadN cx d0_125 rfl ?_
      refine g_iload cx d0_126 rfl ?_
      refine g_aload cx d0_128 rfl rfl ?_
      refine g_aload cx d0_130 rfl rfl ?_
      refine g_special cx (y := (⟨"com/example/thalweg/thalweg/cli/Mpeg1Reader$Picture", "<init>", "(JCLjava/util/List;[B)V"⟩ : MethodName)) (a := b420) d0_132 rfl rfl (hw _ (List.mem_of_getElem? (i := 71) rfl)) (hw _ (List.mem_of_getElem? (i := 72) rfl)) (hw _ (List.mem_of_getElem? (i := 70) rfl)) (hw _ (List.mem_of_getElem? (i := 73) rfl)) (by decide) (bytes := prog_8_method_1_code) (maxL' := 6) (M := (ra11 l Z a0 hw dc lc cdc clc SDC AD SLC BX b420 b372 b386 b381 b393 ix (((ot &&& (65535 : Int32))).toUInt32.toUInt16.toUInt32.toInt32) cA387 cA394 _ O_b420 O_b372 O_b381 A_b386 A_b393 OV_b386 (Ne.symm ne_b372_b420) (Ne.symm ne_b386_b420) ne_b372_b386 (Ne.symm ne_b393_b420) ne_b372_b393 ne_b386_b393 g_b420 g_b372 g_b386 g_b393 OL)) rfl (lenOf pd_8 rfl) (by decide) (W := 1) (Nat.le_of_eq rfl) (by decide) (k' := 8) (n' := 32) rfl rfl (by decide) (by decide) (argsL := [(.long ix), (.int (((ot &&& (65535 : Int32))).toUInt32.toUInt16.toUInt32.toInt32)), (.ref b372), (.ref b393)]) (rest := [(.ref b420)]) rfl (fun v427 h426 q428 => ?_)
      obtain ⟨rfl, K425, O_b420⟩ := q428
      have O_b372 := O_b372.keep K425 (ninS ne_b372_b420 nin0)
      have O_b381 := O_b381.keepX K425
      have O_b399 := O_b399.keep K425 (ninS ne_b399_b420 nin0)
      have A_b2 := A_b2.keep K425 (ninS ne_b2_b420 nin0)
      have A_b20 := A_b20.keep K425 (ninS ne_b20_b420 nin0)
      have A_b386 := A_b386.keep K425 (ninS ne_b386_b420 nin0)
      have A_b393 := A_b393.keep K425 (ninS ne_b393_b420 nin0)
      have OL := OL.keep K425 (allS g_b420 all0)
      have A_dc := AD.ext OL.2
      refine G.cast (st' := [(.ref b420)]) ?_ rfl
      refine g_astore cx d0_135 rfl (Ls' := #[.val (.int sel), .val (.long ix), .second, .val (.int ot), .val (.ref b2), .val (.ref b20), .val (.int (3 : Int32)), .val (.ref b372), .val (.ref b393), .val (.ref b399), .val (.int (0 : Int32)), .val (.int (((ot &&& (65535 : Int32))).toUInt32.toUInt16.toUInt32.toInt32)), .val (.ref b420), .unset]) rfl ?_
      refine g_aload cx d0_137 rfl rfl ?_
      refine g_virtual cx (y := (⟨"com/example/thalweg/thalweg/cli/Mpeg1Reader$Picture", "rank", "()I"⟩ : MethodName)) (z := (⟨"com/example/thalweg/thalweg/cli/Mpeg1Reader$Picture", "rank", "()I"⟩ : MethodName)) (a := b420) d0_139 (hw _ (List.mem_of_getElem? (i := 88) rfl)) (hw _ (List.mem_of_getElem? (i := 89) rfl)) (hw _ (List.mem_of_getElem? (i := 70) rfl)) (hw _ (List.mem_of_getElem? (i := 92) rfl)) (hw _ (List.mem_of_getElem? (i := 91) rfl)) (hw _ (List.mem_of_getElem? (i := 90) rfl)) rfl (by decide) O_b420.1 (bytes := prog_8_method_2_code) (maxL' := 1) (M := (ra10 l Z a0 hw dc lc cdc clc SDC AD SLC BX b420 b372 b386 b381 b393 ix (nar .char (((ot &&& (65535 : Int32))).toUInt32.toUInt16.toUInt32.toInt32)) cA387 cA394 _ O_b420 O_b372 O_b381 A_b386 A_b393 OV_b386 (Ne.symm ne_b372_b420) (Ne.symm ne_b386_b420) ne_b372_b386 (Ne.symm ne_b393_b420) ne_b372_b393 ne_b386_b393 g_b420 g_b372 g_b386 g_b393 OL)) rfl (lenOf pd_9 rfl) (by decide) (W := 0) (Nat.le_of_eq rfl) (by decide) (k' := 8) (n' := 32) rfl rfl (by decide) (by decide) (argsL := []) (rest := []) rfl (fun v438 h437 q439 => ?_)
      rcases q439 with ⟨hq429, rfl, rfl⟩ | ⟨hq431, hq432, rfl, rfl⟩ | ⟨hq434, hq435, rfl, rfl⟩
      · refine G.cast (st' := [(.int (2 : Int32))]) ?_ rfl
        refine g_istore cx d0_142 (Ls' := #[.val (.int sel), .val (.long ix), .second, .val (.int ot), .val (.ref b2), .val (.ref b20), .val (.int (3 : Int32)), .val (.ref b372), .val (.ref b393), .val (.ref b399), .val (.int (0 : Int32)), .val (.int (((ot &&& (65535 : Int32))).toUInt32.toUInt16.toUInt32.toInt32)), .val (.ref b420), .val (.int (2 : Int32))]) rfl ?_
        refine g_iload cx d0_144 rfl ?_
        refine g_if_eq cx d0_146 (fun hc146 => ?_) (fun q => absurd q (fun q => by revert q; decide))
        refine g_iconst cx d0_216 (v := (0 : Int32)) rfl ?_
        refine g_istore cx d0_217 (Ls' := #[.val (.int sel), .val (.long ix), .second, .val (.int ot), .val (.ref b2), .val (.ref b20), .val (.int (3 : Int32)), .val (.ref b372), .val (.ref b393), .val (.ref b399), .val (.int (0 : Int32)), .val (.int (((ot &&& (65535 : Int32))).toUInt32.toUInt16.toUInt32.toInt32)), .val (.ref b420), .val (.int (2 : Int32))]) rfl ?_
        refine g_iload cx d0_219 rfl ?_
        refine g_retZ cx d0_221 rfl rfl (by decide) (by decide) ?_
        exfalso
        have i_hs37 : ((sel &&& (3 : Int32))).toInt = ((3 : Int32)).toInt := congrArg Int32.toInt hs37
        have i_hq408 : ((nar .char (68 : Int32))).toInt = ((66 : Int32)).toInt := congrArg Int32.toInt hq408
        have i_hc104 : ¬ ((2 : Int32)).toInt = ((0 : Int32)).toInt := fun z => hc104 (Int32.toInt_inj.mp z)
        have i_hq429 : ((nar .char (((ot &&& (65535 : Int32))).toUInt32.toUInt16.toUInt32.toInt32))).toInt = ((66 : Int32)).toInt := congrArg Int32.toInt hq429
        have i_hc146 : ((0 : Int32)).toInt = ((0 : Int32)).toInt := congrArg Int32.toInt hc146
        have r2 := rng32 sel
        have e1 : ((sel &&& (3 : Int32))).toInt = (sel).toInt % 4 := c_mask sel (3 : Int32) 2 (by decide) (by decide)
        have e3 : (3 : Int32).toInt = 3 := rfl
        have e5 : (68 : Int32).toInt = 68 := rfl
        have e4 : (((nar .char (68 : Int32))).toInt - ((68 : Int32)).toInt) % 65536 = 0 ∧ 0 ≤ ((nar .char (68 : Int32))).toInt ∧ ((nar .char (68 : Int32))).toInt < 65536 := c_i2c (68 : Int32)
        have e6 : (66 : Int32).toInt = 66 := rfl
        have e7 : (2 : Int32).toInt = 2 := rfl
        have e8 : (0 : Int32).toInt = 0 := rfl
        have r12 := rng32 ot
        have e11 : ((ot &&& (65535 : Int32))).toInt = (ot).toInt % 65536 := c_mask ot (65535 : Int32) 16 (by decide) (by decide)
        have e10 := c_i2c (ot &&& (65535 : Int32))
        have e9 : (((nar .char (((ot &&& (65535 : Int32))).toUInt32.toUInt16.toUInt32.toInt32))).toInt - ((((ot &&& (65535 : Int32))).toUInt32.toUInt16.toUInt32.toInt32)).toInt) % 65536 = 0 ∧ 0 ≤ ((nar .char (((ot &&& (65535 : Int32))).toUInt32.toUInt16.toUInt32.toInt32))).toInt ∧ ((nar .char (((ot &&& (65535 : Int32))).toUInt32.toUInt16.toUInt32.toInt32))).toInt < 65536 := c_i2c (((ot &&& (65535 : Int32))).toUInt32.toUInt16.toUInt32.toInt32)
        omega
      · refine G.cast (st' := [(.int (1 : Int32))]) ?_ rfl
        refine g_istore cx d0_142 (Ls' := #[.val (.int sel), .val (.long ix), .second, .val (.int ot), .val (.ref b2), .val (.ref b20), .val (.int (3 : Int32)), .val (.ref b372), .val (.ref b393), .val (.ref b399), .val (.int (0 : Int32)), .val (.int (((ot &&& (65535 : Int32))).toUInt32.toUInt16.toUInt32.toInt32)), .val (.ref b420), .val (.int (1 : Int32))]) rfl ?_
        refine g_iload cx d0_144 rfl ?_
        refine g_if_eq cx d0_146 (fun hc146 => ?_) (fun q => absurd q (fun q => by revert q; decide))
        refine g_iconst cx d0_216 (v := (0 : Int32)) rfl ?_
        refine g_istore cx d0_217 (Ls' := #[.val (.int sel), .val (.long ix), .second, .val (.int ot), .val (.ref b2), .val (.ref b20), .val (.int (3 : Int32)), .val (.ref b372), .val (.ref b393), .val (.ref b399), .val (.int (0 : Int32)), .val (.int (((ot &&& (65535 : Int32))).toUInt32.toUInt16.toUInt32.toInt32)), .val (.ref b420), .val (.int (1 : Int32))]) rfl ?_
        refine g_iload cx d0_219 rfl ?_
        refine g_retZ cx d0_221 rfl rfl (by decide) (by decide) ?_
        exfalso
        have i_hs37 : ((sel &&& (3 : Int32))).toInt = ((3 : Int32)).toInt := congrArg Int32.toInt hs37
        have i_hq408 : ((nar .char (68 : Int32))).toInt = ((66 : Int32)).toInt := congrArg Int32.toInt hq408
        have i_hc104 : ¬ ((2 : Int32)).toInt = ((0 : Int32)).toInt := fun z => hc104 (Int32.toInt_inj.mp z)
        have i_hq431 : ¬ ((nar .char (((ot &&& (65535 : Int32))).toUInt32.toUInt16.toUInt32.toInt32))).toInt = ((66 : Int32)).toInt := fun z => hq431 (Int32.toInt_inj.mp z)
        have i_hq432 : ((nar .char (((ot &&& (65535 : Int32))).toUInt32.toUInt16.toUInt32.toInt32))).toInt = ((80 : Int32)).toInt := congrArg Int32.toInt hq432
        have i_hc146 : ((0 : Int32)).toInt = ((0 : Int32)).toInt := congrArg Int32.toInt hc146
        have r2 := rng32 sel
        have e1 : ((sel &&& (3 : Int32))).toInt = (sel).toInt % 4 := c_mask sel (3 : Int32) 2 (by decide) (by decide)
        have e3 : (3 : Int32).toInt = 3 := rfl
        have e5 : (68 : Int32).toInt = 68 := rfl
        have e4 : (((nar .char (68 : Int32))).toInt - ((68 : Int32)).toInt) % 65536 = 0 ∧ 0 ≤ ((nar .char (68 : Int32))).toInt ∧ ((nar .char (68 : Int32))).toInt < 65536 := c_i2c (68 : Int32)
        have e6 : (66 : Int32).toInt = 66 := rfl
        have e7 : (2 : Int32).toInt = 2 := rfl
        have e8 : (0 : Int32).toInt = 0 := rfl
        have r12 := rng32 ot
        have e11 : ((ot &&& (65535 : Int32))).toInt = (ot).toInt % 65536 := c_mask ot (65535 : Int32) 16 (by decide) (by decide)
        have e10 := c_i2c (ot &&& (65535 : Int32))
        have e9 : (((nar .char (((ot &&& (65535 : Int32))).toUInt32.toUInt16.toUInt32.toInt32))).toInt - ((((ot &&& (65535 : Int32))).toUInt32.toUInt16.toUInt32.toInt32)).toInt) % 65536 = 0 ∧ 0 ≤ ((nar .char (((ot &&& (65535 : Int32))).toUInt32.toUInt16.toUInt32.toInt32))).toInt ∧ ((nar .char (((ot &&& (65535 : Int32))).toUInt32.toUInt16.toUInt32.toInt32))).toInt < 65536 := c_i2c (((ot &&& (65535 : Int32))).toUInt32.toUInt16.toUInt32.toInt32)
        have e13 : (80 : Int32).toInt = 80 := rfl
        omega
      · refine G.cast (st' := [(.int (0 : Int32))]) ?_ rfl
        refine g_istore cx d0_142 (Ls' := #[.val (.int sel), .val (.long ix), .second, .val (.int ot), .val (.ref b2), .val (.ref b20), .val (.int (3 : Int32)), .val (.ref b372), .val (.ref b393), .val (.ref b399), .val (.int (0 : Int32)), .val (.int (((ot &&& (65535 : Int32))).toUInt32.toUInt16.toUInt32.toInt32)), .val (.ref b420), .val (.int (0 : Int32))]) rfl ?_
        refine g_iload cx d0_144 rfl ?_
        refine g_if_eq cx d0_146 (fun hc146 => ?_) (fun q => absurd q (fun q => by revert q; decide))
        refine g_iconst cx d0_216 (v := (0 : Int32)) rfl ?_
        refine g_istore cx d0_217 (Ls' := #[.val (.int sel), .val (.long ix), .second, .val (.int ot), .val (.ref b2), .val (.ref b20), .val (.int (3 : Int32)), .val (.ref b372), .val (.ref b393), .val (.ref b399), .val (.int (0 : Int32)), .val (.int (((ot &&& (65535 : Int32))).toUInt32.toUInt16.toUInt32.toInt32)), .val (.ref b420), .val (.int (0 : Int32))]) rfl ?_
        refine g_iload cx d0_219 rfl ?_
        refine g_retZ cx d0_221 rfl rfl (by decide) (by decide) ?_
        exfalso
        have i_hs37 : ((sel &&& (3 : Int32))).toInt = ((3 : Int32)).toInt := congrArg Int32.toInt hs37
        have i_hq408 : ((nar .char (68 : Int32))).toInt = ((66 : Int32)).toInt := congrArg Int32.toInt hq408
        have i_hc104 : ¬ ((2 : Int32)).toInt = ((0 : Int32)).toInt := fun z => hc104 (Int32.toInt_inj.mp z)
        have i_hq434 : ¬ ((nar .char (((ot &&& (65535 : Int32))).toUInt32.toUInt16.toUInt32.toInt32))).toInt = ((66 : Int32)).toInt := fun z => hq434 (Int32.toInt_inj.mp z)
        have i_hq435 : ¬ ((nar .char (((ot &&& (65535 : Int32))).toUInt32.toUInt16.toUInt32.toInt32))).toInt = ((80 : Int32)).toInt := fun z => hq435 (Int32.toInt_inj.mp z)
        have i_hc146 : ((0 : Int32)).toInt = ((0 : Int32)).toInt := congrArg Int32.toInt hc146
        have r2 := rng32 sel
        have e1 : ((sel &&& (3 : Int32))).toInt = (sel).toInt % 4 := c_mask sel (3 : Int32) 2 (by decide) (by decide)
        have e3 : (3 : Int32).toInt = 3 := rfl
        have e5 : (68 : Int32).toInt = 68 := rfl
        have e4 : (((nar .char (68 : Int32))).toInt - ((68 : Int32)).toInt) % 65536 = 0 ∧ 0 ≤ ((nar .char (68 : Int32))).toInt ∧ ((nar .char (68 : Int32))).toInt < 65536 := c_i2c (68 : Int32)
        have e6 : (66 : Int32).toInt = 66 := rfl
        have e7 : (2 : Int32).toInt = 2 := rfl
        have e8 : (0 : Int32).toInt = 0 := rfl
        have r12 := rng32 ot
        have e11 : ((ot &&& (65535 : Int32))).toInt = (ot).toInt % 65536 := c_mask ot (65535 : Int32) 16 (by decide) (by decide)
        have e10 := c_i2c (ot &&& (65535 : Int32))
        have e9 : (((nar .char (((ot &&& (65535 : Int32))).toUInt32.toUInt16.toUInt32.toInt32))).toInt - ((((ot &&& (65535 : Int32))).toUInt32.toUInt16.toUInt32.toInt32)).toInt) % 65536 = 0 ∧ 0 ≤ ((nar .char (((ot &&& (65535 : Int32))).toUInt32.toUInt16.toUInt32.toInt32))).toInt ∧ ((nar .char (((ot &&& (65535 : Int32))).toUInt32.toUInt16.toUInt32.toInt32))).toInt < 65536 := c_i2c (((ot &&& (65535 : Int32))).toUInt32.toUInt16.toUInt32.toInt32)
        have e13 : (80 : Int32).toInt = 80 := rfl
        omega
    · refine G.cast (st' := [(.int (1 : Int32))]) ?_ rfl
      refine g_aload cx d0_99 rfl rfl ?_
      refine g_iload cx d0_101 rfl ?_
      refine g_iaload cx d0_103 A_b20.1 ⟨by decide, by decide⟩ (v := (.int (0 : Int32))) rfl ?_
      refine g_icmp_ne cx d0_104 (fun hc104 => ?_) (fun q => absurd q (fun q => by revert q; decide))
      refine g_iconst cx d0_111 (v := (0 : Int32)) rfl ?_
      refine g_istore cx d0_112 (Ls' := #[.val (.int sel), .val (.long ix), .second, .val (.int ot), .val (.ref b2), .val (.ref b20), .val (.int (3 : Int32)), .val (.ref b372), .val (.ref b393), .val (.ref b399), .val (.int (0 : Int32)), .unset, .unset, .unset]) rfl ?_
      refine g_iloadN cx d0_114 rfl ?_
      refine g_ldcI cx d0_115 (hw _ (List.mem_of_getElem? (i := 93) rfl)) ?_
      refine g_iand cx d0_117 ?_
      refine g_i2c cx d0_118 ?_
      refine g_istore cx d0_119 (Ls' := #[.val (.int sel), .val (.long ix), .second, .val (.int ot), .val (.ref b2), .val (.ref b20), .val (.int (3 : Int32)), .val (.ref b372), .val (.ref b393), .val (.ref b399), .val (.int (0 : Int32)), .val (.int (((ot &&& (65535 : Int32))).toUInt32.toUInt16.toUInt32.toInt32)), .unset, .unset]) rfl ?_
      refine g_new cx d0_121 (hw _ (List.mem_of_getElem? (i := 68) rfl)) (hw _ (List.mem_of_getElem? (i := 69) rfl)) (hw _ (List.mem_of_getElem? (i := 70) rfl)) (k' := 8) (n' := 32) rfl rfl (by decide) (by decide) (fun h440 b441 gb442 E443 X444 D445 => ?_)
      have ne_b372_b441 : b372 ≠ b441 := Nat.ne_of_lt (by rw [gb442]; exact O_b372.lt)
      have ne_b381_b441 : b381 ≠ b441 := Nat.ne_of_lt (by rw [gb442]; exact O_b381.lt)
      have ne_b399_b441 : b399 ≠ b441 := Nat.ne_of_lt (by rw [gb442]; exact O_b399.lt)
      have ne_b2_b441 : b2 ≠ b441 := Nat.ne_of_lt (by rw [gb442]; exact A_b2.lt)
      have ne_b20_b441 : b20 ≠ b441 := Nat.ne_of_lt (by rw [gb442]; exact A_b20.lt)
      have ne_b386_b441 : b386 ≠ b441 := Nat.ne_of_lt (by rw [gb442]; exact A_b386.lt)
      have ne_b393_b441 : b393 ≠ b441 := Nat.ne_of_lt (by rw [gb442]; exact A_b393.lt)
      have g_b441 : Z.heap.size ≤ b441 := by rw [gb442]; exact OL.2.1
      have O_b372 := O_b372.ext E443
      have O_b381 := O_b381.ext E443
      have O_b399 := O_b399.ext E443
      have A_b2 := A_b2.ext E443
      have A_b20 := A_b20.ext E443
      have A_b386 := A_b386.ext E443
      have A_b393 := A_b393.ext E443
      have OL := OL.ext E443
      have A_dc := AD.ext OL.2
      have O_b441 := ObP.new hw X444 D445
      refine g_dup cx d0_124 rfl ?_
      refine g_lloadN cx d0_125 rfl ?_
      refine g_iload cx d0_126 rfl ?_
      refine g_aload cx d0_128 rfl rfl ?_
      refine g_aload cx d0_130 rfl rfl ?_
      refine g_special cx (y := (⟨"com/example/thalweg/thalweg/cli/Mpeg1Reader$Picture", "<init>", "(JCLjava/util/List;[B)V"⟩ : MethodName)) (a := b441) d0_132 rfl rfl (hw _ (List.mem_of_getElem? (i := 71) rfl)) (hw _ (List.mem_of_getElem? (i := 72) rfl)) (hw _ (List.mem_of_getElem? (i := 70) rfl)) (hw _ (List.mem_of_getElem? (i := 73) rfl)) (by decide) (bytes := prog_8_method_1_code) (maxL' := 6) (M := (ra11 l Z a0 hw dc lc cdc clc SDC AD SLC BX b441 b372 b386 b381 b393 ix (((ot &&& (65535 : Int32))).toUInt32.toUInt16.toUInt32.toInt32) cA387 cA394 _ O_b441 O_b372 O_b381 A_b386 A_b393 OV_b386 (Ne.symm ne_b372_b441) (Ne.symm ne_b386_b441) ne_b372_b386 (Ne.symm ne_b393_b441) ne_b372_b393 ne_b386_b393 g_b441 g_b372 g_b386 g_b393 OL)) rfl (lenOf pd_8 rfl) (by decide) (W := 1) (Nat.le_of_eq rfl) (by decide) (k' := 8) (n' := 32) rfl rfl (by decide) (by decide) (argsL := [(.long ix), (.int (((ot &&& (65535 : Int32))).toUInt32.toUInt16.toUInt32.toInt32)), (.ref b372), (.ref b393)]) (rest := [(.ref b441)]) rfl (fun v448 h447 q449 => ?_)
      obtain ⟨rfl, K446, O_b441⟩ := q449
      have O_b372 := O_b372.keep K446 (ninS ne_b372_b441 nin0)
      have O_b381 := O_b381.keepX K446
      have O_b399 := O_b399.keep K446 (ninS ne_b399_b441 nin0)
      have A_b2 := A_b2.keep K446 (ninS ne_b2_b441 nin0)
      have A_b20 := A_b20.keep K446 (ninS ne_b20_b441 nin0)
      have A_b386 := A_b386.keep K446 (ninS ne_b386_b441 nin0)
      have A_b393 := A_b393.keep K446 (ninS ne_b393_b441 nin0)
      have OL := OL.keep K446 (allS g_b441 all0)
      have A_dc := AD.ext OL.2
      refine G.cast (st' := [(.ref b441)]) ?_ rfl
      refine g_astore cx d0_135 rfl (Ls' := #[.val (.int sel), .val (.long ix), .second, .val (.int ot), .val (.ref b2), .val (.ref b20), .val (.int (3 : Int32)), .val (.ref b372), .val (.ref b393), .val (.ref b399), .val (.int (0 : Int32)), .val (.int (((ot &&& (65535 : Int32))).toUInt32.toUInt16.toUInt32.toInt32)), .val (.ref b441), .unset]) rfl ?_
      refine g_aload cx d0_137 rfl rfl ?_
      refine g_virtual cx (y := (⟨"com/example/thalweg/thalweg/cli/Mpeg1Reader$Picture", "rank", "()I"⟩ : MethodName)) (z := (⟨"com/example/thalweg/thalweg/cli/Mpeg1Reader$Picture", "rank", "()I"⟩ : MethodName)) (a := b441) d0_139 (hw _ (List.mem_of_getElem? (i := 88) rfl)) (hw _ (List.mem_of_getElem? (i := 89) rfl)) (hw _ (List.mem_of_getElem? (i := 70) rfl)) (hw _ (List.mem_of_getElem? (i := 92) rfl)) (hw _ (List.mem_of_getElem? (i := 91) rfl)) (hw _ (List.mem_of_getElem? (i := 90) rfl)) rfl (by decide) O_b441.1 (bytes := prog_8_method_2_code) (maxL' := 1) (M := (ra10 l Z a0 hw dc lc cdc clc SDC AD SLC BX b441 b372 b386 b381 b393 ix (nar .char (((ot &&& (65535 : Int32))).toUInt32.toUInt16.toUInt32.toInt32)) cA387 cA394 _ O_b441 O_b372 O_b381 A_b386 A_b393 OV_b386 (Ne.symm ne_b372_b441) (Ne.symm ne_b386_b441) ne_b372_b386 (Ne.symm ne_b393_b441) ne_b372_b393 ne_b386_b393 g_b441 g_b372 g_b386 g_b393 OL)) rfl (lenOf pd_9 rfl) (by decide) (W := 0) (Nat.le_of_eq rfl) (by decide) (k' := 8) (n' := 32) rfl rfl (by decide) (by decide) (argsL := []) (rest := []) rfl (fun v459 h458 q460 => ?_)
      rcases q460 with ⟨hq450, rfl, rfl⟩ | ⟨hq452, hq453, rfl, rfl⟩ | ⟨hq455, hq456, rfl, rfl⟩
      · refine G.cast (st' := [(.int (2 : Int32))]) ?_ rfl
        refine g_istore cx d0_142 (Ls' := #[.val (.int sel), .val (.long ix), .second, .val (.int ot), .val (.ref b2), .val (.ref b20), .val (.int (3 : Int32)), .val (.ref b372), .val (.ref b393), .val (.ref b399), .val (.int (0 : Int32)), .val (.int (((ot &&& (65535 : Int32))).toUInt32.toUInt16.toUInt32.toInt32)), .val (.ref b441), .val (.int (2 : Int32))]) rfl ?_
        refine g_iload cx d0_144 rfl ?_
        refine g_if_eq cx d0_146 (fun hc146 => ?_) (fun q => absurd q (fun q => by revert q; decide))
        refine g_iconst cx d0_216 (v := (0 : Int32)) rfl ?_
        refine g_istore cx d0_217 (Ls' := #[.val (.int sel), .val (.long ix), .second, .val (.int ot), .val (.ref b2), .val (.ref b20), .val (.int (3 : Int32)), .val (.ref b372), .val (.ref b393), .val (.ref b399), .val (.int (0 : Int32)), .val (.int (((ot &&& (65535 : Int32))).toUInt32.toUInt16.toUInt32.toInt32)), .val (.ref b441), .val (.int (2 : Int32))]) rfl ?_
        refine g_iload cx d0_219 rfl ?_
        refine g_retZ cx d0_221 rfl rfl (by decide) (by decide) ?_
        exfalso
        have i_hs37 : ((sel &&& (3 : Int32))).toInt = ((3 : Int32)).toInt := congrArg Int32.toInt hs37
        have i_hq410 : ¬ ((nar .char (68 : Int32))).toInt = ((66 : Int32)).toInt := fun z => hq410 (Int32.toInt_inj.mp z)
        have i_hq411 : ((nar .char (68 : Int32))).toInt = ((80 : Int32)).toInt := congrArg Int32.toInt hq411
        have i_hc104 : ¬ ((1 : Int32)).toInt = ((0 : Int32)).toInt := fun z => hc104 (Int32.toInt_inj.mp z)
        have i_hq450 : ((nar .char (((ot &&& (65535 : Int32))).toUInt32.toUInt16.toUInt32.toInt32))).toInt = ((66 : Int32)).toInt := congrArg Int32.toInt hq450
        have i_hc146 : ((0 : Int32)).toInt = ((0 : Int32)).toInt := congrArg Int32.toInt hc146
        have r2 := rng32 sel
        have e1 : ((sel &&& (3 : Int32))).toInt = (sel).toInt % 4 := c_mask sel (3 : Int32) 2 (by decide) (by decide)
        have e3 : (3 : Int32).toInt = 3 := rfl
        have e5 : (68 : Int32).toInt = 68 := rfl
        have e4 : (((nar .char (68 : Int32))).toInt - ((68 : Int32)).toInt) % 65536 = 0 ∧ 0 ≤ ((nar .char (68 : Int32))).toInt ∧ ((nar .char (68 : Int32))).toInt < 65536 := c_i2c (68 : Int32)
        have e6 : (66 : Int32).toInt = 66 := rfl
        have e7 : (80 : Int32).toInt = 80 := rfl
        have e8 : (1 : Int32).toInt = 1 := rfl
        have e9 : (0 : Int32).toInt = 0 := rfl
        have r13 := rng32 ot
        have e12 : ((ot &&& (65535 : Int32))).toInt = (ot).toInt % 65536 := c_mask ot (65535 : Int32) 16 (by decide) (by decide)
        have e11 := c_i2c (ot &&& (65535 : Int32))
        have e10 : (((nar .char (((ot &&& (65535 : Int32))).toUInt32.toUInt16.toUInt32.toInt32))).toInt - ((((ot &&& (65535 : Int32))).toUInt32.toUInt16.toUInt32.toInt32)).toInt) % 65536 = 0 ∧ 0 ≤ ((nar .char (((ot &&& (65535 : Int32))).toUInt32.toUInt16.toUInt32.toInt32))).toInt ∧ ((nar .char (((ot &&& (65535 : Int32))).toUInt32.toUInt16.toUInt32.toInt32))).toInt < 65536 := c_i2c (((ot &&& (65535 : Int32))).toUInt32.toUInt16.toUInt32.toInt32)
        omega
      · refine G.cast (st' := [(.int (1 : Int32))]) ?_ rfl
        refine g_istore cx d0_142 (Ls' := #[.val (.int sel), .val (.long ix), .second, .val (.int ot), .val (.ref b2), .val (.ref b20), .val (.int (3 : Int32)), .val (.ref b372), .val (.ref b393), .val (.ref b399), .val (.int (0 : Int32)), .val (.int (((ot &&& (65535 : Int32))).toUInt32.toUInt16.toUInt32.toInt32)), .val (.ref b441), .val (.int (1 : Int32))]) rfl ?_
        refine g_iload cx d0_144 rfl ?_
        refine g_if_eq cx d0_146 (fun hc146 => ?_) (fun q => absurd q (fun q => by revert q; decide))
        refine g_iconst cx d0_216 (v := (0 : Int32)) rfl ?_
        refine g_istore cx d0_217 (Ls' := #[.val (.int sel), .val (.long ix), .second, .val (.int ot), .val (.ref b2), .val (.ref b20), .val (.int (3 : Int32)), .val (.ref b372), .val (.ref b393), .val (.ref b399), .val (.int (0 : Int32)), .val (.int (((ot &&& (65535 : Int32))).toUInt32.toUInt16.toUInt32.toInt32)), .val (.ref b441), .val (.int (1 : Int32))]) rfl ?_
        refine g_iload cx d0_219 rfl ?_
        refine g_retZ cx d0_221 rfl rfl (by decide) (by decide) ?_
        exfalso
        have i_hs37 : ((sel &&& (3 : Int32))).toInt = ((3 : Int32)).toInt := congrArg Int32.toInt hs37
        have i_hq410 : ¬ ((nar .char (68 : Int32))).toInt = ((66 : Int32)).toInt := fun z => hq410 (Int32.toInt_inj.mp z)
        have i_hq411 : ((nar .char (68 : Int32))).toInt = ((80 : Int32)).toInt := congrArg Int32.toInt hq411
        have i_hc104 : ¬ ((1 : Int32)).toInt = ((0 : Int32)).toInt := fun z => hc104 (Int32.toInt_inj.mp z)
        have i_hq452 : ¬ ((nar .char (((ot &&& (65535 : Int32))).toUInt32.toUInt16.toUInt32.toInt32))).toInt = ((66 : Int32)).toInt := fun z => hq452 (Int32.toInt_inj.mp z)
        have i_hq453 : ((nar .char (((ot &&& (65535 : Int32))).toUInt32.toUInt16.toUInt32.toInt32))).toInt = ((80 : Int32)).toInt := congrArg Int32.toInt hq453
        have i_hc146 : ((0 : Int32)).toInt = ((0 : Int32)).toInt := congrArg Int32.toInt hc146
        have r2 := rng32 sel
        have e1 : ((sel &&& (3 : Int32))).toInt = (sel).toInt % 4 := c_mask sel (3 : Int32) 2 (by decide) (by decide)
        have e3 : (3 : Int32).toInt = 3 := rfl
        have e5 : (68 : Int32).toInt = 68 := rfl
        have e4 : (((nar .char (68 : Int32))).toInt - ((68 : Int32)).toInt) % 65536 = 0 ∧ 0 ≤ ((nar .char (68 : Int32))).toInt ∧ ((nar .char (68 : Int32))).toInt < 65536 := c_i2c (68 : Int32)
        have e6 : (66 : Int32).toInt = 66 := rfl
        have e7 : (80 : Int32).toInt = 80 := rfl
        have e8 : (1 : Int32).toInt = 1 := rfl
        have e9 : (0 : Int32).toInt = 0 := rfl
        have r13 := rng32 ot
        have e12 : ((ot &&& (65535 : Int32))).toInt = (ot).toInt % 65536 := c_mask ot (65535 : Int32) 16 (by decide) (by decide)
        have e11 := c_i2c (ot &&& (65535 : Int32))
        have e10 : (((nar .char (((ot &&& (65535 : Int32))).toUInt32.toUInt16.toUInt32.toInt32))).toInt - ((((ot &&& (65535 : Int32))).toUInt32.toUInt16.toUInt32.toInt32)).toInt) % 65536 = 0 ∧ 0 ≤ ((nar .char (((ot &&& (65535 : Int32))).toUInt32.toUInt16.toUInt32.toInt32))).toInt ∧ ((nar .char (((ot &&& (65535 : Int32))).toUInt32.toUInt16.toUInt32.toInt32))).toInt < 65536 := c_i2c (((ot &&& (65535 : Int32))).toUInt32.toUInt16.toUInt32.toInt32)
        omega
      · refine G.cast (st' := [(.int (0 : Int32))]) ?_ rfl
        refine g_istore cx d0_142 (Ls' := #[.val (.int sel), .val (.long ix), .second, .val (.int ot), .val (.ref b2), .val (.ref b20), .val (.int (3 : Int32)), .val (.ref b372), .val (.ref b393), .val (.ref b399), .val (.int (0 : Int32)), .val (.int (((ot &&& (65535 : Int32))).toUInt32.toUInt16.toUInt32.toInt32)), .val (.ref b441), .val (.int (0 : Int32))]) rfl ?_
        refine g_iload cx d0_144 rfl ?_
        refine g_if_eq cx d0_146 (fun hc146 => ?_) (fun q => absurd q (fun q => by revert q; decide))
        refine g_iconst cx d0_216 (v := (0 : Int32)) rfl ?_
        refine g_istore cx d0_217 (Ls' := #[.val (.int sel), .val (.long ix), .second, .val (.int ot), .val (.ref b2), .val (.ref b20), .val (.int (3 : Int32)), .val (.ref b372), .val (.ref b393), .val (.ref b399), .val (.int (0 : Int32)), .val (.int (((ot &&& (65535 : Int32))).toUInt32.toUInt16.toUInt32.toInt32)), .val (.ref b441), .val (.int (0 : Int32))]) rfl ?_
        refine g_iload cx d0_219 rfl ?_
        refine g_retZ cx d0_221 rfl rfl (by decide) (by decide) ?_
        exfalso
        have i_hs37 : ((sel &&& (3 : Int32))).toInt = ((3 : Int32)).toInt := congrArg Int32.toInt hs37
        have i_hq410 : ¬ ((nar .char (68 : Int32))).toInt = ((66 : Int32)).toInt := fun z => hq410 (Int32.toInt_inj.mp z)
        have i_hq411 : ((nar .char (68 : Int32))).toInt = ((80 : Int32)).toInt := congrArg Int32.toInt hq411
        have i_hc104 : ¬ ((1 : Int32)).toInt = ((0 : Int32)).toInt := fun z => hc104 (Int32.toInt_inj.mp z)
        have i_hq455 : ¬ ((nar .char (((ot &&& (65535 : Int32))).toUInt32.toUInt16.toUInt32.toInt32))).toInt = ((66 : Int32)).toInt := fun z => hq455 (Int32.toInt_inj.mp z)
        have i_hq456 : ¬ ((nar .char (((ot &&& (65535 : Int32))).toUInt32.toUInt16.toUInt32.toInt32))).toInt = ((80 : Int32)).toInt := fun z => hq456 (Int32.toInt_inj.mp z)
        have i_hc146 : ((0 : Int32)).toInt = ((0 : Int32)).toInt := congrArg Int32.toInt hc146
        have r2 := rng32 sel
        have e1 : ((sel &&& (3 : Int32))).toInt = (sel).toInt % 4 := c_mask sel (3 : Int32) 2 (by decide) (by decide)
        have e3 : (3 : Int32).toInt = 3 := rfl
        have e5 : (68 : Int32).toInt = 68 := rfl
        have e4 : (((nar .char (68 : Int32))).toInt - ((68 : Int32)).toInt) % 65536 = 0 ∧ 0 ≤ ((nar .char (68 : Int32))).toInt ∧ ((nar .char (68 : Int32))).toInt < 65536 := c_i2c (68 : Int32)
        have e6 : (66 : Int32).toInt = 66 := rfl
        have e7 : (80 : Int32).toInt = 80 := rfl
        have e8 : (1 : Int32).toInt = 1 := rfl
        have e9 : (0 : Int32).toInt = 0 := rfl
        have r13 := rng32 ot
        have e12 : ((ot &&& (65535 : Int32))).toInt = (ot).toInt % 65536 := c_mask ot (65535 : Int32) 16 (by decide) (by decide)
        have e11 := c_i2c (ot &&& (65535 : Int32))
        have e10 : (((nar .char (((ot &&& (65535 : Int32))).toUInt32.toUInt16.toUInt32.toInt32))).toInt - ((((ot &&& (65535 : Int32))).toUInt32.toUInt16.toUInt32.toInt32)).toInt) % 65536 = 0 ∧ 0 ≤ ((nar .char (((ot &&& (65535 : Int32))).toUInt32.toUInt16.toUInt32.toInt32))).toInt ∧ ((nar .char (((ot &&& (65535 : Int32))).toUInt32.toUInt16.toUInt32.toInt32))).toInt < 65536 := c_i2c (((ot &&& (65535 : Int32))).toUInt32.toUInt16.toUInt32.toInt32)
        omega
    · refine G.cast (st' := [(.int (0 : Int32))]) ?_ rfl
      refine g_aload cx d0_99 rfl rfl ?_
      refine g_iload cx d0_101 rfl ?_
      refine g_iaload cx d0_103 A_b20.1 ⟨by decide, by decide⟩ (v := (.int (0 : Int32))) rfl ?_
      refine g_icmp_ne cx d0_104 (fun q => absurd q (fun q => by revert q; decide)) (fun hc104 => ?_)
      refine g_iconst cx d0_107 (v := (1 : Int32)) rfl ?_
      refine g_goto cx d0_108 ?_
      refine g_istore cx d0_112 (Ls' := #[.val (.int sel), .val (.long ix), .second, .val (.int ot), .val (.ref b2), .val (.ref b20), .val (.int (3 : Int32)), .val (.ref b372), .val (.ref b393), .val (.ref b399), .val (.int (1 : Int32)), .unset, .unset, .unset]) rfl ?_
      refine g_iloadN cx d0_114 rfl ?_
      refine g_ldcI cx d0_115 (hw _ (List.mem_of_getElem? (i := 93) rfl)) ?_
      refine g_iand cx d0_117 ?_
      refine g_i2c cx d0_118 ?_
      refine g_istore cx d0_119 (Ls' := #[.val (.int sel), .val (.long ix), .second, .val (.int ot), .val (.ref b2), .val (.ref b20), .val (.int (3 : Int32)), .val (.ref b372), .val (.ref b393), .val (.ref b399), .val (.int (1 : Int32)), .val (.int (((ot &&& (65535 : Int32))).toUInt32.toUInt16.toUInt32.toInt32)), .unset, .unset]) rfl ?_
      refine g_new cx d0_121 (hw _ (List.mem_of_getElem? (i := 68) rfl)) (hw _ (List.mem_of_getElem? (i := 69) rfl)) (hw _ (List.mem_of_getElem? (i := 70) rfl)) (k' := 8) (n' := 32) rfl rfl (by decide) (by decide) (fun h461 b462 gb463 E464 X465 D466 => ?_)
      have ne_b372_b462 : b372 ≠ b462 := Nat.ne_of_lt (by rw [gb463]; exact O_b372.lt)
      have ne_b381_b462 : b381 ≠ b462 := Nat.ne_of_lt (by rw [gb463]; exact O_b381.lt)
      have ne_b399_b462 : b399 ≠ b462 := Nat.ne_of_lt (by rw [gb463]; exact O_b399.lt)
      have ne_b2_b462 : b2 ≠ b462 := Nat.ne_of_lt (by rw [gb463]; exact A_b2.lt)
      have ne_b20_b462 : b20 ≠ b462 := Nat.ne_of_lt (by rw [gb463]; exact A_b20.lt)
      have ne_b386_b462 : b386 ≠ b462 := Nat.ne_of_lt (by rw [gb463]; exact A_b386.lt)
      have ne_b393_b462 : b393 ≠ b462 := Nat.ne_of_lt (by rw [gb463]; exact A_b393.lt)
      have g_b462 : Z.heap.size ≤ b462 := by rw [gb463]; exact OL.2.1
      have O_b372 := O_b372.ext E464
      have O_b381 := O_b381.ext E464
      have O_b399 := O_b399.ext E464
      have A_b2 := A_b2.ext E464
      have A_b20 := A_b20.ext E464
      have A_b386 := A_b386.ext E464
      have A_b393 := A_b393.ext E464
      have OL := OL.ext E464
      have A_dc := AD.ext OL.2
      have O_b462 := ObP.new hw X465 D466
      refine g_dup cx d0_124 rfl ?_
      refine g_lloadN cx d0_125 rfl ?_
      refine g_iload cx d0_126 rfl ?_
      refine g_aload cx d0_128 rfl rfl ?_
      refine g_aload cx d0_130 rfl rfl ?_
      refine g_special cx (y := (⟨"com/example/thalweg/thalweg/cli/Mpeg1Reader$Picture", "<init>", "(JCLjava/util/List;[B)V"⟩ : MethodName)) (a := b462) d0_132 rfl rfl (hw _ (List.mem_of_getElem? (i := 71) rfl)) (hw _ (List.mem_of_getElem? (i := 72) rfl)) (hw _ (List.mem_of_getElem? (i := 70) rfl)) (hw _ (List.mem_of_getElem? (i := 73) rfl)) (by decide) (bytes := prog_8_method_1_code) (maxL' := 6) (M := (ra11 l Z a0 hw dc lc cdc clc SDC AD SLC BX b462 b372 b386 b381 b393 ix (((ot &&& (65535 : Int32))).toUInt32.toUInt16.toUInt32.toInt32) cA387 cA394 _ O_b462 O_b372 O_b381 A_b386 A_b393 OV_b386 (Ne.symm ne_b372_b462) (Ne.symm ne_b386_b462) ne_b372_b386 (Ne.symm ne_b393_b462) ne_b372_b393 ne_b386_b393 g_b462 g_b372 g_b386 g_b393 OL)) rfl (lenOf pd_8 rfl) (by decide) (W := 1) (Nat.le_of_eq rfl) (by decide) (k' := 8) (n' := 32) rfl rfl (by decide) (by decide) (argsL := [(.long ix), (.int (((ot &&& (65535 : Int32))).toUInt32.toUInt16.toUInt32.toInt32)), (.ref b372), (.ref b393)]) (rest := [(.ref b462)]) rfl (fun v469 h468 q470 => ?_)
      obtain ⟨rfl, K467, O_b462⟩ := q470
      have O_b372 := O_b372.keep K467 (ninS ne_b372_b462 nin0)
      have O_b381 := O_b381.keepX K467
      have O_b399 := O_b399.keep K467 (ninS ne_b399_b462 nin0)
      have A_b2 := A_b2.keep K467 (ninS ne_b2_b462 nin0)
      have A_b20 := A_b20.keep K467 (ninS ne_b20_b462 nin0)
      have A_b386 := A_b386.keep K467 (ninS ne_b386_b462 nin0)
      have A_b393 := A_b393.keep K467 (ninS ne_b393_b462 nin0)
      have OL := OL.keep K467 (allS g_b462 all0)
      have A_dc := AD.ext OL.2
      refine G.cast (st' := [(.ref b462)]) ?_ rfl
      refine g_astore cx d0_135 rfl (Ls' := #[.val (.int sel), .val (.long ix), .second, .val (.int ot), .val (.ref b2), .val (.ref b20), .val (.int (3 : Int32)), .val (.ref b372), .val (.ref b393), .val (.ref b399), .val (.int (1 : Int32)), .val (.int (((ot &&& (65535 : Int32))).toUInt32.toUInt16.toUInt32.toInt32)), .val (.ref b462), .unset]) rfl ?_
      refine g_aload cx d0_137 rfl rfl ?_
      refine g_virtual cx (y := (⟨"com/example/thalweg/thalweg/cli/Mpeg1Reader$Picture", "rank", "()I"⟩ : MethodName)) (z := (⟨"com/example/thalweg/thalweg/cli/Mpeg1Reader$Picture", "rank", "()I"⟩ : MethodName)) (a := b462) d0_139 (hw _ (List.mem_of_getElem? (i := 88) rfl)) (hw _ (List.mem_of_getElem? (i := 89) rfl)) (hw _ (List.mem_of_getElem? (i := 70) rfl)) (hw _ (List.mem_of_getElem? (i := 92) rfl)) (hw _ (List.mem_of_getElem? (i := 91) rfl)) (hw _ (List.mem_of_getElem? (i := 90) rfl)) rfl (by decide) O_b462.1 (bytes := prog_8_method_2_code) (maxL' := 1) (M := (ra10 l Z a0 hw dc lc cdc clc SDC AD SLC BX b462 b372 b386 b381 b393 ix (nar .char (((ot &&& (65535 : Int32))).toUInt32.toUInt16.toUInt32.toInt32)) cA387 cA394 _ O_b462 O_b372 O_b381 A_b386 A_b393 OV_b386 (Ne.symm ne_b372_b462) (Ne.symm ne_b386_b462) ne_b372_b386 (Ne.symm ne_b393_b462) ne_b372_b393 ne_b386_b393 g_b462 g_b372 g_b386 g_b393 OL)) rfl (lenOf pd_9 rfl) (by decide) (W := 0) (Nat.le_of_eq rfl) (by decide) (k' := 8) (n' := 32) rfl rfl (by decide) (by decide) (argsL := []) (rest := []) rfl (fun v480 h479 q481 => ?_)
      rcases q481 with ⟨hq471, rfl, rfl⟩ | ⟨hq473, hq474, rfl, rfl⟩ | ⟨hq476, hq477, rfl, rfl⟩
      · refine G.cast (st' := [(.int (2 : Int32))]) ?_ rfl
        refine g_istore cx d0_142 (Ls' := #[.val (.int sel), .val (.long ix), .second, .val (.int ot), .val (.ref b2), .val (.ref b20), .val (.int (3 : Int32)), .val (.ref b372), .val (.ref b393), .val (.ref b399), .val (.int (1 : Int32)), .val (.int (((ot &&& (65535 : Int32))).toUInt32.toUInt16.toUInt32.toInt32)), .val (.ref b462), .val (.int (2 : Int32))]) rfl ?_
        refine g_iload cx d0_144 rfl ?_
        refine g_if_eq cx d0_146 (fun q => absurd q (fun q => by revert q; decide)) (fun hc146 => ?_)
        refine g_iload cx d0_149 rfl ?_
        refine g_if_lt cx d0_151 (fun q => absurd q (fun q => by revert q; decide)) (fun hc151 => ?_)
        refine g_iload cx d0_154 rfl ?_
        refine g_iconst cx d0_156 (v := (2 : Int32)) rfl ?_
        refine g_icmp_gt cx d0_157 (fun q => absurd q (fun q => by revert q; decide)) (fun hc157 => ?_)
        refine g_iload cx d0_160 rfl ?_
        refine g_iconst cx d0_162 (v := (1 : Int32)) rfl ?_
        refine g_icmp_ne cx d0_163 (fun hc163 => ?_) (fun q => absurd q (fun q => by revert q; decide))
        refine g_iconst cx d0_170 (v := (0 : Int32)) rfl ?_
        refine g_iload cx d0_171 rfl ?_
        refine g_bipush cx d0_173 (v := (80 : Int32)) rfl ?_
        refine g_icmp_ne cx d0_175 (fun hc175 => ?_) (fun hc175 => ?_)
        · refine g_iconst cx d0_182 (v := (0 : Int32)) rfl ?_
          refine g_icmp_ne cx d0_183 (fun q => absurd q (fun q => by revert q; decide)) (fun hc183 => ?_)
          refine g_iload cx d0_186 rfl ?_
          refine g_iconst cx d0_188 (v := (2 : Int32)) rfl ?_
          refine g_icmp_ne cx d0_189 (fun q => absurd q (fun q => by revert q; decide)) (fun hc189 => ?_)
          refine g_iconst cx d0_192 (v := (1 : Int32)) rfl ?_
          refine g_goto cx d0_193 ?_
          refine g_iload cx d0_197 rfl ?_
          refine g_bipush cx d0_199 (v := (66 : Int32)) rfl ?_
          refine g_icmp_ne cx d0_201 (fun hc201 => ?_) (fun hc201 => ?_)
          · refine g_iconst cx d0_208 (v := (0 : Int32)) rfl ?_
            refine g_icmp_ne cx d0_209 (fun hc209 => ?_) (fun q => absurd q (fun q => by revert q; decide))
            refine g_iconst cx d0_216 (v := (0 : Int32)) rfl ?_
            refine g_istore cx d0_217 (Ls' := #[.val (.int sel), .val (.long ix), .second, .val (.int ot), .val (.ref b2), .val (.ref b20), .val (.int (3 : Int32)), .val (.ref b372), .val (.ref b393), .val (.ref b399), .val (.int (0 : Int32)), .val (.int (((ot &&& (65535 : Int32))).toUInt32.toUInt16.toUInt32.toInt32)), .val (.ref b462), .val (.int (2 : Int32))]) rfl ?_
            refine g_iload cx d0_219 rfl ?_
            refine g_retZ cx d0_221 rfl rfl (by decide) (by decide) ?_
            exfalso
            have i_hs37 : ((sel &&& (3 : Int32))).toInt = ((3 : Int32)).toInt := congrArg Int32.toInt hs37
            have i_hq413 : ¬ ((nar .char (68 : Int32))).toInt = ((66 : Int32)).toInt := fun z => hq413 (Int32.toInt_inj.mp z)
            have i_hq414 : ¬ ((nar .char (68 : Int32))).toInt = ((80 : Int32)).toInt := fun z => hq414 (Int32.toInt_inj.mp z)
            have i_hc104 : ((0 : Int32)).toInt = ((0 : Int32)).toInt := congrArg Int32.toInt hc104
            have i_hq471 : ((nar .char (((ot &&& (65535 : Int32))).toUInt32.toUInt16.toUInt32.toInt32))).toInt = ((66 : Int32)).toInt := congrArg Int32.toInt hq471
            have i_hc146 : ¬ ((1 : Int32)).toInt = ((0 : Int32)).toInt := fun z => hc146 (Int32.toInt_inj.mp z)
            have i_hc151 : ¬ ((2 : Int32)).toInt < ((0 : Int32)).toInt := fun z => hc151 (Int32.lt_iff_toInt_lt.mpr z)
            have i_hc157 : ¬ ((2 : Int32)).toInt < ((2 : Int32)).toInt := fun z => hc157 (Int32.lt_iff_toInt_lt.mpr z)
            have i_hc163 : ¬ ((2 : Int32)).toInt = ((1 : Int32)).toInt := fun z => hc163 (Int32.toInt_inj.mp z)
            have i_hc175 : ¬ ((((ot &&& (65535 : Int32))).toUInt32.toUInt16.toUInt32.toInt32)).toInt = ((80 : Int32)).toInt := fun z => hc175 (Int32.toInt_inj.mp z)
            have i_hc183 : ((0 : Int32)).toInt = ((0 : Int32)).toInt := congrArg Int32.toInt hc183
            have i_hc189 : ((2 : Int32)).toInt = ((2 : Int32)).toInt := congrArg Int32.toInt hc189
            have i_hc201 : ¬ ((((ot &&& (65535 : Int32))).toUInt32.toUInt16.toUInt32.toInt32)).toInt = ((66 : Int32)).toInt := fun z => hc201 (Int32.toInt_inj.mp z)
            have i_hc209 : ¬ ((1 : Int32)).toInt = ((0 : Int32)).toInt := fun z => hc209 (Int32.toInt_inj.mp z)
            have r2 := rng32 sel
            have e1 : ((sel &&& (3 : Int32))).toInt = (sel).toInt % 4 := c_mask sel (3 : Int32) 2 (by decide) (by decide)
            have e3 : (3 : Int32).toInt = 3 := rfl
            have e5 : (68 : Int32).toInt = 68 := rfl
            have e4 : (((nar .char (68 : Int32))).toInt - ((68 : Int32)).toInt) % 65536 = 0 ∧ 0 ≤ ((nar .char (68 : Int32))).toInt ∧ ((nar .char (68 : Int32))).toInt < 65536 := c_i2c (68 : Int32)
            have e6 : (66 : Int32).toInt = 66 := rfl
            have e7 : (80 : Int32).toInt = 80 := rfl
            have e8 : (0 : Int32).toInt = 0 := rfl
            have r12 := rng32 ot
            have e11 : ((ot &&& (65535 : Int32))).toInt = (ot).toInt % 65536 := c_mask ot (65535 : Int32) 16 (by decide) (by decide)
            have e10 := c_i2c (ot &&& (65535 : Int32))
            have e9 : (((nar .char (((ot &&& (65535 : Int32))).toUInt32.toUInt16.toUInt32.toInt32))).toInt - ((((ot &&& (65535 : Int32))).toUInt32.toUInt16.toUInt32.toInt32)).toInt) % 65536 = 0 ∧ 0 ≤ ((nar .char (((ot &&& (65535 : Int32))).toUInt32.toUInt16.toUInt32.toInt32))).toInt ∧ ((nar .char (((ot &&& (65535 : Int32))).toUInt32.toUInt16.toUInt32.toInt32))).toInt < 65536 := c_i2c (((ot &&& (65535 : Int32))).toUInt32.toUInt16.toUInt32.toInt32)
            have e13 : (1 : Int32).toInt = 1 := rfl
            have e14 : (2 : Int32).toInt = 2 := rfl
            omega
          · refine g_iconst cx d0_204 (v := (1 : Int32)) rfl ?_
            refine g_goto cx d0_205 ?_
            refine g_icmp_ne cx d0_209 (fun q => absurd q (fun q => by revert q; decide)) (fun hc209 => ?_)
            refine g_iconst cx d0_212 (v := (1 : Int32)) rfl ?_
            refine g_goto cx d0_213 ?_
            refine g_istore cx d0_217 (Ls' := #[.val (.int sel), .val (.long ix), .second, .val (.int ot), .val (.ref b2), .val (.ref b20), .val (.int (3 : Int32)), .val (.ref b372), .val (.ref b393), .val (.ref b399), .val (.int (1 : Int32)), .val (.int (((ot &&& (65535 : Int32))).toUInt32.toUInt16.toUInt32.toInt32)), .val (.ref b462), .val (.int (2 : Int32))]) rfl ?_
            refine g_iload cx d0_219 rfl ?_
            refine g_retZ cx d0_221 rfl rfl (by decide) (by decide) ?_
            rfl
        · refine g_iconst cx d0_178 (v := (1 : Int32)) rfl ?_
          refine g_goto cx d0_179 ?_
          refine g_icmp_ne cx d0_183 (fun hc183 => ?_) (fun q => absurd q (fun q => by revert q; decide))
          refine g_iconst cx d0_216 (v := (0 : Int32)) rfl ?_
          refine g_istore cx d0_217 (Ls' := #[.val (.int sel), .val (.long ix), .second, .val (.int ot), .val (.ref b2), .val (.ref b20), .val (.int (3 : Int32)), .val (.ref b372), .val (.ref b393), .val (.ref b399), .val (.int (0 : Int32)), .val (.int (((ot &&& (65535 : Int32))).toUInt32.toUInt16.toUInt32.toInt32)), .val (.ref b462), .val (.int (2 : Int32))]) rfl ?_
          refine g_iload cx d0_219 rfl ?_
          refine g_retZ cx d0_221 rfl rfl (by decide) (by decide) ?_
          exfalso
          have i_hs37 : ((sel &&& (3 : Int32))).toInt = ((3 : Int32)).toInt := congrArg Int32.toInt hs37
          have i_hq413 : ¬ ((nar .char (68 : Int32))).toInt = ((66 : Int32)).toInt := fun z => hq413 (Int32.toInt_inj.mp z)
          have i_hq414 : ¬ ((nar .char (68 : Int32))).toInt = ((80 : Int32)).toInt := fun z => hq414 (Int32.toInt_inj.mp z)
          have i_hc104 : ((0 : Int32)).toInt = ((0 : Int32)).toInt := congrArg Int32.toInt hc104
          have i_hq471 : ((nar .char (((ot &&& (65535 : Int32))).toUInt32.toUInt16.toUInt32.toInt32))).toInt = ((66 : Int32)).toInt := congrArg Int32.toInt hq471
          have i_hc146 : ¬ ((1 : Int32)).toInt = ((0 : Int32)).toInt := fun z => hc146 (Int32.toInt_inj.mp z)
          have i_hc151 : ¬ ((2 : Int32)).toInt < ((0 : Int32)).toInt := fun z => hc151 (Int32.lt_iff_toInt_lt.mpr z)
          have i_hc157 : ¬ ((2 : Int32)).toInt < ((2 : Int32)).toInt := fun z => hc157 (Int32.lt_iff_toInt_lt.mpr z)
          have i_hc163 : ¬ ((2 : Int32)).toInt = ((1 : Int32)).toInt := fun z => hc163 (Int32.toInt_inj.mp z)
          have i_hc175 : ((((ot &&& (65535 : Int32))).toUInt32.toUInt16.toUInt32.toInt32)).toInt = ((80 : Int32)).toInt := congrArg Int32.toInt hc175
          have i_hc183 : ¬ ((0 : Int32)).toInt = ((1 : Int32)).toInt := fun z => hc183 (Int32.toInt_inj.mp z)
          have r2 := rng32 sel
          have e1 : ((sel &&& (3 : Int32))).toInt = (sel).toInt % 4 := c_mask sel (3 : Int32) 2 (by decide) (by decide)
          have e3 : (3 : Int32).toInt = 3 := rfl
          have e5 : (68 : Int32).toInt = 68 := rfl
          have e4 : (((nar .char (68 : Int32))).toInt - ((68 : Int32)).toInt) % 65536 = 0 ∧ 0 ≤ ((nar .char (68 : Int32))).toInt ∧ ((nar .char (68 : Int32))).toInt < 65536 := c_i2c (68 : Int32)
          have e6 : (66 : Int32).toInt = 66 := rfl
          have e7 : (80 : Int32).toInt = 80 := rfl
          have e8 : (0 : Int32).toInt = 0 := rfl
          have r12 := rng32 ot
          have e11 : ((ot &&& (65535 : Int32))).toInt = (ot).toInt % 65536 := c_mask ot (65535 : Int32) 16 (by decide) (by decide)
          have e10 := c_i2c (ot &&& (65535 : Int32))
          have e9 : (((nar .char (((ot &&& (65535 : Int32))).toUInt32.toUInt16.toUInt32.toInt32))).toInt - ((((ot &&& (65535 : Int32))).toUInt32.toUInt16.toUInt32.toInt32)).toInt) % 65536 = 0 ∧ 0 ≤ ((nar .char (((ot &&& (65535 : Int32))).toUInt32.toUInt16.toUInt32.toInt32))).toInt ∧ ((nar .char (((ot &&& (65535 : Int32))).toUInt32.toUInt16.toUInt32.toInt32))).toInt < 65536 := c_i2c (((ot &&& (65535 : Int32))).toUInt32.toUInt16.toUInt32.toInt32)
          have e13 : (1 : Int32).toInt = 1 := rfl
          have e14 : (2 : Int32).toInt = 2 := rfl
          omega
      · refine G.cast (st' := [(.int (1 : Int32))]) ?_ rfl
        refine g_istore cx d0_142 (Ls' := #[.val (.int sel), .val (.long ix), .second, .val (.int ot), .val (.ref b2), .val (.ref b20), .val (.int (3 : Int32)), .val (.ref b372), .val (.ref b393), .val (.ref b399), .val (.int (1 : Int32)), .val (.int (((ot &&& (65535 : Int32))).toUInt32.toUInt16.toUInt32.toInt32)), .val (.ref b462), .val (.int (1 : Int32))]) rfl ?_
        refine g_iload cx d0_144 rfl ?_
        refine g_if_eq cx d0_146 (fun q => absurd q (fun q => by revert q; decide)) (fun hc146 => ?_)
        refine g_iload cx d0_149 rfl ?_
        refine g_if_lt cx d0_151 (fun q => absurd q (fun q => by revert q; decide)) (fun hc151 => ?_)
        refine g_iload cx d0_154 rfl ?_
        refine g_iconst cx d0_156 (v := (2 : Int32)) rfl ?_
        refine g_icmp_gt cx d0_157 (fun q => absurd q (fun q => by revert q; decide)) (fun hc157 => ?_)
        refine g_iload cx d0_160 rfl ?_
        refine g_iconst cx d0_162 (v := (1 : Int32)) rfl ?_
        refine g_icmp_ne cx d0_163 (fun q => absurd q (fun q => by revert q; decide)) (fun hc163 => ?_)
        refine g_iconst cx d0_166 (v := (1 : Int32)) rfl ?_
        refine g_goto cx d0_167 ?_
        refine g_iload cx d0_171 rfl ?_
        refine g_bipush cx d0_173 (v := (80 : Int32)) rfl ?_
        refine g_icmp_ne cx d0_175 (fun hc175 => ?_) (fun hc175 => ?_)
        · refine g_iconst cx d0_182 (v := (0 : Int32)) rfl ?_
          refine g_icmp_ne cx d0_183 (fun hc183 => ?_) (fun q => absurd q (fun q => by revert q; decide))
          refine g_iconst cx d0_216 (v := (0 : Int32)) rfl ?_
          refine g_istore cx d0_217 (Ls' := #[.val (.int sel), .val (.long ix), .second, .val (.int ot), .val (.ref b2), .val (.ref b20), .val (.int (3 : Int32)), .val (.ref b372), .val (.ref b393), .val (.ref b399), .val (.int (0 : Int32)), .val (.int (((ot &&& (65535 : Int32))).toUInt32.toUInt16.toUInt32.toInt32)), .val (.ref b462), .val (.int (1 : Int32))]) rfl ?_
          refine g_iload cx d0_219 rfl ?_
          refine g_retZ cx d0_221 rfl rfl (by decide) (by decide) ?_
          exfalso
          have i_hs37 : ((sel &&& (3 : Int32))).toInt = ((3 : Int32)).toInt := congrArg Int32.toInt hs37
          have i_hq413 : ¬ ((nar .char (68 : Int32))).toInt = ((66 : Int32)).toInt := fun z => hq413 (Int32.toInt_inj.mp z)
          have i_hq414 : ¬ ((nar .char (68 : Int32))).toInt = ((80 : Int32)).toInt := fun z => hq414 (Int32.toInt_inj.mp z)
          have i_hc104 : ((0 : Int32)).toInt = ((0 : Int32)).toInt := congrArg Int32.toInt hc104
          have i_hq473 : ¬ ((nar .char (((ot &&& (65535 : Int32))).toUInt32.toUInt16.toUInt32.toInt32))).toInt = ((66 : Int32)).toInt := fun z => hq473 (Int32.toInt_inj.mp z)
          have i_hq474 : ((nar .char (((ot &&& (65535 : Int32))).toUInt32.toUInt16.toUInt32.toInt32))).toInt = ((80 : Int32)).toInt := congrArg Int32.toInt hq474
          have i_hc146 : ¬ ((1 : Int32)).toInt = ((0 : Int32)).toInt := fun z => hc146 (Int32.toInt_inj.mp z)
          have i_hc151 : ¬ ((1 : Int32)).toInt < ((0 : Int32)).toInt := fun z => hc151 (Int32.lt_iff_toInt_lt.mpr z)
          have i_hc157 : ¬ ((2 : Int32)).toInt < ((1 : Int32)).toInt := fun z => hc157 (Int32.lt_iff_toInt_lt.mpr z)
          have i_hc163 : ((1 : Int32)).toInt = ((1 : Int32)).toInt := congrArg Int32.toInt hc163
          have i_hc175 : ¬ ((((ot &&& (65535 : Int32))).toUInt32.toUInt16.toUInt32.toInt32)).toInt = ((80 : Int32)).toInt := fun z => hc175 (Int32.toInt_inj.mp z)
          have i_hc183 : ¬ ((1 : Int32)).toInt = ((0 : Int32)).toInt := fun z => hc183 (Int32.toInt_inj.mp z)
          have r2 := rng32 sel
          have e1 : ((sel &&& (3 : Int32))).toInt = (sel).toInt % 4 := c_mask sel (3 : Int32) 2 (by decide) (by decide)
          have e3 : (3 : Int32).toInt = 3 := rfl
          have e5 : (68 : Int32).toInt = 68 := rfl
          have e4 : (((nar .char (68 : Int32))).toInt - ((68 : Int32)).toInt) % 65536 = 0 ∧ 0 ≤ ((nar .char (68 : Int32))).toInt ∧ ((nar .char (68 : Int32))).toInt < 65536 := c_i2c (68 : Int32)
          have e6 : (66 : Int32).toInt = 66 := rfl
          have e7 : (80 : Int32).toInt = 80 := rfl
          have e8 : (0 : Int32).toInt = 0 := rfl
          have r12 := rng32 ot
          have e11 : ((ot &&& (65535 : Int32))).toInt = (ot).toInt % 65536 := c_mask ot (65535 : Int32) 16 (by decide) (by decide)
          have e10 := c_i2c (ot &&& (65535 : Int32))
          have e9 : (((nar .char (((ot &&& (65535 : Int32))).toUInt32.toUInt16.toUInt32.toInt32))).toInt - ((((ot &&& (65535 : Int32))).toUInt32.toUInt16.toUInt32.toInt32)).toInt) % 65536 = 0 ∧ 0 ≤ ((nar .char (((ot &&& (65535 : Int32))).toUInt32.toUInt16.toUInt32.toInt32))).toInt ∧ ((nar .char (((ot &&& (65535 : Int32))).toUInt32.toUInt16.toUInt32.toInt32))).toInt < 65536 := c_i2c (((ot &&& (65535 : Int32))).toUInt32.toUInt16.toUInt32.toInt32)
          have e13 : (1 : Int32).toInt = 1 := rfl
          have e14 : (2 : Int32).toInt = 2 := rfl
          omega
        · refine g_iconst cx d0_178 (v := (1 : Int32)) rfl ?_
          refine g_goto cx d0_179 ?_
          refine g_icmp_ne cx d0_183 (fun q => absurd q (fun q => by revert q; decide)) (fun hc183 => ?_)
          refine g_iload cx d0_186 rfl ?_
          refine g_iconst cx d0_188 (v := (2 : Int32)) rfl ?_
          refine g_icmp_ne cx d0_189 (fun hc189 => ?_) (fun q => absurd q (fun q => by revert q; decide))
          refine g_iconst cx d0_196 (v := (0 : Int32)) rfl ?_
          refine g_iload cx d0_197 rfl ?_
          refine g_bipush cx d0_199 (v := (66 : Int32)) rfl ?_
          refine g_icmp_ne cx d0_201 (fun hc201 => ?_) (fun hc201 => ?_)
          · refine g_iconst cx d0_208 (v := (0 : Int32)) rfl ?_
            refine g_icmp_ne cx d0_209 (fun q => absurd q (fun q => by revert q; decide)) (fun hc209 => ?_)
            refine g_iconst cx d0_212 (v := (1 : Int32)) rfl ?_
            refine g_goto cx d0_213 ?_
            refine g_istore cx d0_217 (Ls' := #[.val (.int sel), .val (.long ix), .second, .val (.int ot), .val (.ref b2), .val (.ref b20), .val (.int (3 : Int32)), .val (.ref b372), .val (.ref b393), .val (.ref b399), .val (.int (1 : Int32)), .val (.int (((ot &&& (65535 : Int32))).toUInt32.toUInt16.toUInt32.toInt32)), .val (.ref b462), .val (.int (1 : Int32))]) rfl ?_
            refine g_iload cx d0_219 rfl ?_
            refine g_retZ cx d0_221 rfl rfl (by decide) (by decide) ?_
            rfl
          · refine g_iconst cx d0_204 (v := (1 : Int32)) rfl ?_
            refine g_goto cx d0_205 ?_
            refine g_icmp_ne cx d0_209 (fun hc209 => ?_) (fun q => absurd q (fun q => by revert q; decide))
            refine g_iconst cx d0_216 (v := (0 : Int32)) rfl ?_
            refine g_istore cx d0_217 (Ls' := #[.val (.int sel), .val (.long ix), .second, .val (.int ot), .val (.ref b2), .val (.ref b20), .val (.int (3 : Int32)), .val (.ref b372), .val (.ref b393), .val (.ref b399), .val (.int (0 : Int32)), .val (.int (((ot &&& (65535 : Int32))).toUInt32.toUInt16.toUInt32.toInt32)), .val (.ref b462), .val (.int (1 : Int32))]) rfl ?_
            refine g_iload cx d0_219 rfl ?_
            refine g_retZ cx d0_221 rfl rfl (by decide) (by decide) ?_
            exfalso
            have i_hs37 : ((sel &&& (3 : Int32))).toInt = ((3 : Int32)).toInt := congrArg Int32.toInt hs37
            have i_hq413 : ¬ ((nar .char (68 : Int32))).toInt = ((66 : Int32)).toInt := fun z => hq413 (Int32.toInt_inj.mp z)
            have i_hq414 : ¬ ((nar .char (68 : Int32))).toInt = ((80 : Int32)).toInt := fun z => hq414 (Int32.toInt_inj.mp z)
            have i_hc104 : ((0 : Int32)).toInt = ((0 : Int32)).toInt := congrArg Int32.toInt hc104
            have i_hq473 : ¬ ((nar .char (((ot &&& (65535 : Int32))).toUInt32.toUInt16.toUInt32.toInt32))).toInt = ((66 : Int32)).toInt := fun z => hq473 (Int32.toInt_inj.mp z)
            have i_hq474 : ((nar .char (((ot &&& (65535 : Int32))).toUInt32.toUInt16.toUInt32.toInt32))).toInt = ((80 : Int32)).toInt := congrArg Int32.toInt hq474
            have i_hc146 : ¬ ((1 : Int32)).toInt = ((0 : Int32)).toInt := fun z => hc146 (Int32.toInt_inj.mp z)
            have i_hc151 : ¬ ((1 : Int32)).toInt < ((0 : Int32)).toInt := fun z => hc151 (Int32.lt_iff_toInt_lt.mpr z)
            have i_hc157 : ¬ ((2 : Int32)).toInt < ((1 : Int32)).toInt := fun z => hc157 (Int32.lt_iff_toInt_lt.mpr z)
            have i_hc163 : ((1 : Int32)).toInt = ((1 : Int32)).toInt := congrArg Int32.toInt hc163
            have i_hc175 : ((((ot &&& (65535 : Int32))).toUInt32.toUInt16.toUInt32.toInt32)).toInt = ((80 : Int32)).toInt := congrArg Int32.toInt hc175
            have i_hc183 : ((1 : Int32)).toInt = ((1 : Int32)).toInt := congrArg Int32.toInt hc183
            have i_hc189 : ¬ ((1 : Int32)).toInt = ((2 : Int32)).toInt := fun z => hc189 (Int32.toInt_inj.mp z)
            have i_hc201 : ((((ot &&& (65535 : Int32))).toUInt32.toUInt16.toUInt32.toInt32)).toInt = ((66 : Int32)).toInt := congrArg Int32.toInt hc201
            have i_hc209 : ¬ ((0 : Int32)).toInt = ((1 : Int32)).toInt := fun z => hc209 (Int32.toInt_inj.mp z)
            have r2 := rng32 sel
            have e1 : ((sel &&& (3 : Int32))).toInt = (sel).toInt % 4 := c_mask sel (3 : Int32) 2 (by decide) (by decide)
            have e3 : (3 : Int32).toInt = 3 := rfl
            have e5 : (68 : Int32).toInt = 68 := rfl
            have e4 : (((nar .char (68 : Int32))).toInt - ((68 : Int32)).toInt) % 65536 = 0 ∧ 0 ≤ ((nar .char (68 : Int32))).toInt ∧ ((nar .char (68 : Int32))).toInt < 65536 := c_i2c (68 : Int32)
            have e6 : (66 : Int32).toInt = 66 := rfl
            have e7 : (80 : Int32).toInt = 80 := rfl
            have e8 : (0 : Int32).toInt = 0 := rfl
            have r12 := rng32 ot
            have e11 : ((ot &&& (65535 : Int32))).toInt = (ot).toInt % 65536 := c_mask ot (65535 : Int32) 16 (by decide) (by decide)
            have e10 := c_i2c (ot &&& (65535 : Int32))
            have e9 : (((nar .char (((ot &&& (65535 : Int32))).toUInt32.toUInt16.toUInt32.toInt32))).toInt - ((((ot &&& (65535 : Int32))).toUInt32.toUInt16.toUInt32.toInt32)).toInt) % 65536 = 0 ∧ 0 ≤ ((nar .char (((ot &&& (65535 : Int32))).toUInt32.toUInt16.toUInt32.toInt32))).toInt ∧ ((nar .char (((ot &&& (65535 : Int32))).toUInt32.toUInt16.toUInt32.toInt32))).toInt < 65536 := c_i2c (((ot &&& (65535 : Int32))).toUInt32.toUInt16.toUInt32.toInt32)
            have e13 : (1 : Int32).toInt = 1 := rfl
            have e14 : (2 : Int32).toInt = 2 := rfl
            omega
      · refine G.cast (st' := [(.int (0 : Int32))]) ?_ rfl
        refine g_istore cx d0_142 (Ls' := #[.val (.int sel), .val (.long ix), .second, .val (.int ot), .val (.ref b2), .val (.ref b20), .val (.int (3 : Int32)), .val (.ref b372), .val (.ref b393), .val (.ref b399), .val (.int (1 : Int32)), .val (.int (((ot &&& (65535 : Int32))).toUInt32.toUInt16.toUInt32.toInt32)), .val (.ref b462), .val (.int (0 : Int32))]) rfl ?_
        refine g_iload cx d0_144 rfl ?_
        refine g_if_eq cx d0_146 (fun q => absurd q (fun q => by revert q; decide)) (fun hc146 => ?_)
        refine g_iload cx d0_149 rfl ?_
        refine g_if_lt cx d0_151 (fun q => absurd q (fun q => by revert q; decide)) (fun hc151 => ?_)
        refine g_iload cx d0_154 rfl ?_
        refine g_iconst cx d0_156 (v := (2 : Int32)) rfl ?_
        refine g_icmp_gt cx d0_157 (fun q => absurd q (fun q => by revert q; decide)) (fun hc157 => ?_)
        refine g_iload cx d0_160 rfl ?_
        refine g_iconst cx d0_162 (v := (1 : Int32)) rfl ?_
        refine g_icmp_ne cx d0_163 (fun hc163 => ?_) (fun q => absurd q (fun q => by revert q; decide))
        refine g_iconst cx d0_170 (v := (0 : Int32)) rfl ?_
        refine g_iload cx d0_171 rfl ?_
        refine g_bipush cx d0_173 (v := (80 : Int32)) rfl ?_
        refine g_icmp_ne cx d0_175 (fun hc175 => ?_) (fun hc175 => ?_)
        · refine g_iconst cx d0_182 (v := (0 : Int32)) rfl ?_
          refine g_icmp_ne cx d0_183 (fun q => absurd q (fun q => by revert q; decide)) (fun hc183 => ?_)
          refine g_iload cx d0_186 rfl ?_
          refine g_iconst cx d0_188 (v := (2 : Int32)) rfl ?_
          refine g_icmp_ne cx d0_189 (fun hc189 => ?_) (fun q => absurd q (fun q => by revert q; decide))
          refine g_iconst cx d0_196 (v := (0 : Int32)) rfl ?_
          refine g_iload cx d0_197 rfl ?_
          refine g_bipush cx d0_199 (v := (66 : Int32)) rfl ?_
          refine g_icmp_ne cx d0_201 (fun hc201 => ?_) (fun hc201 => ?_)
          · refine g_iconst cx d0_208 (v := (0 : Int32)) rfl ?_
            refine g_icmp_ne cx d0_209 (fun q => absurd q (fun q => by revert q; decide)) (fun hc209 => ?_)
            refine g_iconst cx d0_212 (v := (1 : Int32)) rfl ?_
            refine g_goto cx d0_213 ?_
            refine g_istore cx d0_217 (Ls' := #[.val (.int sel), .val (.long ix), .second, .val (.int ot), .val (.ref b2), .val (.ref b20), .val (.int (3 : Int32)), .val (.ref b372), .val (.ref b393), .val (.ref b399), .val (.int (1 : Int32)), .val (.int (((ot &&& (65535 : Int32))).toUInt32.toUInt16.toUInt32.toInt32)), .val (.ref b462), .val (.int (0 : Int32))]) rfl ?_
            refine g_iload cx d0_219 rfl ?_
            refine g_retZ cx d0_221 rfl rfl (by decide) (by decide) ?_
            rfl
          · refine g_iconst cx d0_204 (v := (1 : Int32)) rfl ?_
            refine g_goto cx d0_205 ?_
            refine g_icmp_ne cx d0_209 (fun hc209 => ?_) (fun q => absurd q (fun q => by revert q; decide))
            refine g_iconst cx d0_216 (v := (0 : Int32)) rfl ?_
            refine g_istore cx d0_217 (Ls' := #[.val (.int sel), .val (.long ix), .second, .val (.int ot), .val (.ref b2), .val (.ref b20), .val (.int (3 : Int32)), .val (.ref b372), .val (.ref b393), .val (.ref b399), .val (.int (0 : Int32)), .val (.int (((ot &&& (65535 : Int32))).toUInt32.toUInt16.toUInt32.toInt32)), .val (.ref b462), .val (.int (0 : Int32))]) rfl ?_
            refine g_iload cx d0_219 rfl ?_
            refine g_retZ cx d0_221 rfl rfl (by decide) (by decide) ?_
            exfalso
            have i_hs37 : ((sel &&& (3 : Int32))).toInt = ((3 : Int32)).toInt := congrArg Int32.toInt hs37
            have i_hq413 : ¬ ((nar .char (68 : Int32))).toInt = ((66 : Int32)).toInt := fun z => hq413 (Int32.toInt_inj.mp z)
            have i_hq414 : ¬ ((nar .char (68 : Int32))).toInt = ((80 : Int32)).toInt := fun z => hq414 (Int32.toInt_inj.mp z)
            have i_hc104 : ((0 : Int32)).toInt = ((0 : Int32)).toInt := congrArg Int32.toInt hc104
            have i_hq476 : ¬ ((nar .char (((ot &&& (65535 : Int32))).toUInt32.toUInt16.toUInt32.toInt32))).toInt = ((66 : Int32)).toInt := fun z => hq476 (Int32.toInt_inj.mp z)
            have i_hq477 : ¬ ((nar .char (((ot &&& (65535 : Int32))).toUInt32.toUInt16.toUInt32.toInt32))).toInt = ((80 : Int32)).toInt := fun z => hq477 (Int32.toInt_inj.mp z)
            have i_hc146 : ¬ ((1 : Int32)).toInt = ((0 : Int32)).toInt := fun z => hc146 (Int32.toInt_inj.mp z)
            have i_hc151 : ¬ ((0 : Int32)).toInt < ((0 : Int32)).toInt := fun z => hc151 (Int32.lt_iff_toInt_lt.mpr z)
            have i_hc157 : ¬ ((2 : Int32)).toInt < ((0 : Int32)).toInt := fun z => hc157 (Int32.lt_iff_toInt_lt.mpr z)
            have i_hc163 : ¬ ((0 : Int32)).toInt = ((1 : Int32)).toInt := fun z => hc163 (Int32.toInt_inj.mp z)
            have i_hc175 : ¬ ((((ot &&& (65535 : Int32))).toUInt32.toUInt16.toUInt32.toInt32)).toInt = ((80 : Int32)).toInt := fun z => hc175 (Int32.toInt_inj.mp z)
            have i_hc183 : ((0 : Int32)).toInt = ((0 : Int32)).toInt := congrArg Int32.toInt hc183
            have i_hc189 : ¬ ((0 : Int32)).toInt = ((2 : Int32)).toInt := fun z => hc189 (Int32.toInt_inj.mp z)
            have i_hc201 : ((((ot &&& (65535 : Int32))).toUInt32.toUInt16.toUInt32.toInt32)).toInt = ((66 : Int32)).toInt := congrArg Int32.toInt hc201
            have i_hc209 : ¬ ((0 : Int32)).toInt = ((1 : Int32)).toInt := fun z => hc209 (Int32.toInt_inj.mp z)
            have r2 := rng32 sel
            have e1 : ((sel &&& (3 : Int32))).toInt = (sel).toInt % 4 := c_mask sel (3 : Int32) 2 (by decide) (by decide)
            have e3 : (3 : Int32).toInt = 3 := rfl
            have e5 : (68 : Int32).toInt = 68 := rfl
            have e4 : (((nar .char (68 : Int32))).toInt - ((68 : Int32)).toInt) % 65536 = 0 ∧ 0 ≤ ((nar .char (68 : Int32))).toInt ∧ ((nar .char (68 : Int32))).toInt < 65536 := c_i2c (68 : Int32)
            have e6 : (66 : Int32).toInt = 66 := rfl
            have e7 : (80 : Int32).toInt = 80 := rfl
            have e8 : (0 : Int32).toInt = 0 := rfl
            have r12 := rng32 ot
            have e11 : ((ot &&& (65535 : Int32))).toInt = (ot).toInt % 65536 := c_mask ot (65535 : Int32) 16 (by decide) (by decide)
            have e10 := c_i2c (ot &&& (65535 : Int32))
            have e9 : (((nar .char (((ot &&& (65535 : Int32))).toUInt32.toUInt16.toUInt32.toInt32))).toInt - ((((ot &&& (65535 : Int32))).toUInt32.toUInt16.toUInt32.toInt32)).toInt) % 65536 = 0 ∧ 0 ≤ ((nar .char (((ot &&& (65535 : Int32))).toUInt32.toUInt16.toUInt32.toInt32))).toInt ∧ ((nar .char (((ot &&& (65535 : Int32))).toUInt32.toUInt16.toUInt32.toInt32))).toInt < 65536 := c_i2c (((ot &&& (65535 : Int32))).toUInt32.toUInt16.toUInt32.toInt32)
            have e13 : (1 : Int32).toInt = 1 := rfl
            have e14 : (2 : Int32).toInt = 2 := rfl
            omega
        · refine g_iconst cx d0_178 (v := (1 : Int32)) rfl ?_
          refine g_goto cx d0_179 ?_
          refine g_icmp_ne cx d0_183 (fun hc183 => ?_) (fun q => absurd q (fun q => by revert q; decide))
          refine g_iconst cx d0_216 (v := (0 : Int32)) rfl ?_
          refine g_istore cx d0_217 (Ls' := #[.val (.int sel), .val (.long ix), .second, .val (.int ot), .val (.ref b2), .val (.ref b20), .val (.int (3 : Int32)), .val (.ref b372), .val (.ref b393), .val (.ref b399), .val (.int (0 : Int32)), .val (.int (((ot &&& (65535 : Int32))).toUInt32.toUInt16.toUInt32.toInt32)), .val (.ref b462), .val (.int (0 : Int32))]) rfl ?_
          refine g_iload cx d0_219 rfl ?_
          refine g_retZ cx d0_221 rfl rfl (by decide) (by decide) ?_
          exfalso
          have i_hs37 : ((sel &&& (3 : Int32))).toInt = ((3 : Int32)).toInt := congrArg Int32.toInt hs37
          have i_hq413 : ¬ ((nar .char (68 : Int32))).toInt = ((66 : Int32)).toInt := fun z => hq413 (Int32.toInt_inj.mp z)
          have i_hq414 : ¬ ((nar .char (68 : Int32))).toInt = ((80 : Int32)).toInt := fun z => hq414 (Int32.toInt_inj.mp z)
          have i_hc104 : ((0 : Int32)).toInt = ((0 : Int32)).toInt := congrArg Int32.toInt hc104
          have i_hq476 : ¬ ((nar .char (((ot &&& (65535 : Int32))).toUInt32.toUInt16.toUInt32.toInt32))).toInt = ((66 : Int32)).toInt := fun z => hq476 (Int32.toInt_inj.mp z)
          have i_hq477 : ¬ ((nar .char (((ot &&& (65535 : Int32))).toUInt32.toUInt16.toUInt32.toInt32))).toInt = ((80 : Int32)).toInt := fun z => hq477 (Int32.toInt_inj.mp z)
          have i_hc146 : ¬ ((1 : Int32)).toInt = ((0 : Int32)).toInt := fun z => hc146 (Int32.toInt_inj.mp z)
          have i_hc151 : ¬ ((0 : Int32)).toInt < ((0 : Int32)).toInt := fun z => hc151 (Int32.lt_iff_toInt_lt.mpr z)
          have i_hc157 : ¬ ((2 : Int32)).toInt < ((0 : Int32)).toInt := fun z => hc157 (Int32.lt_iff_toInt_lt.mpr z)
          have i_hc163 : ¬ ((0 : Int32)).toInt = ((1 : Int32)).toInt := fun z => hc163 (Int32.toInt_inj.mp z)
          have i_hc175 : ((((ot &&& (65535 : Int32))).toUInt32.toUInt16.toUInt32.toInt32)).toInt = ((80 : Int32)).toInt := congrArg Int32.toInt hc175
          have i_hc183 : ¬ ((0 : Int32)).toInt = ((1 : Int32)).toInt := fun z => hc183 (Int32.toInt_inj.mp z)
          have r2 := rng32 sel
          have e1 : ((sel &&& (3 : Int32))).toInt = (sel).toInt % 4 := c_mask sel (3 : Int32) 2 (by decide) (by decide)
          have e3 : (3 : Int32).toInt = 3 := rfl
          have e5 : (68 : Int32).toInt = 68 := rfl
          have e4 : (((nar .char (68 : Int32))).toInt - ((68 : Int32)).toInt) % 65536 = 0 ∧ 0 ≤ ((nar .char (68 : Int32))).toInt ∧ ((nar .char (68 : Int32))).toInt < 65536 := c_i2c (68 : Int32)
          have e6 : (66 : Int32).toInt = 66 := rfl
          have e7 : (80 : Int32).toInt = 80 := rfl
          have e8 : (0 : Int32).toInt = 0 := rfl
          have r12 := rng32 ot
          have e11 : ((ot &&& (65535 : Int32))).toInt = (ot).toInt % 65536 := c_mask ot (65535 : Int32) 16 (by decide) (by decide)
          have e10 := c_i2c (ot &&& (65535 : Int32))
          have e9 : (((nar .char (((ot &&& (65535 : Int32))).toUInt32.toUInt16.toUInt32.toInt32))).toInt - ((((ot &&& (65535 : Int32))).toUInt32.toUInt16.toUInt32.toInt32)).toInt) % 65536 = 0 ∧ 0 ≤ ((nar .char (((ot &&& (65535 : Int32))).toUInt32.toUInt16.toUInt32.toInt32))).toInt ∧ ((nar .char (((ot &&& (65535 : Int32))).toUInt32.toUInt16.toUInt32.toInt32))).toInt < 65536 := c_i2c (((ot &&& (65535 : Int32))).toUInt32.toUInt16.toUInt32.toInt32)
          have e13 : (1 : Int32).toInt = 1 := rfl
          have e14 : (2 : Int32).toInt = 2 := rfl
          omega
set_option maxRecDepth 65536 in
set_option maxHeartbeats 40000000 in
theorem comes_1 {Post : Tables → Env → Array Value → State → Outcome → State → Prop} (hpost : ∀ tb e args s v u, (limb_1_1.after args s (.returned v) u = true ∧ limb_1_2.after args s (.returned v) u = true ∧ True) → FrameEnd s (.returned v) u (Jvm.fieldLocs frame_1_writes args s ++ Jvm.arrayLocs frame_1_arrays args s ++ Jvm.staticLocs frame_1_statics s) 24 128 → Post tb e args s (.returned v) u) :
    ArmFor flags0 classFile x code maxLocals ret World_1 tables_1 room_1 Calls_1 rest_1 Pre_1 Post := by
  intro l hfl _ _ p e ha hc hk s m args below hf hA hF happ hP
  obtain ⟨hcalls, hrest, hpre⟩ := hP
  obtain ⟨-, -, -, hnamed, -, -, -, hat⟩ := (Spec.applies_iff hf).mp happ
  obtain ⟨hg, hn⟩ := and_e (Cond.before_iff.mp (show (Jvm.Cond.and given_1 narrow_1).before args s = true from hpre))
  obtain ⟨g1, g2⟩ := and_e hg
  obtain ⟨g3, g4⟩ := and_e g2
  obtain ⟨g5, g6⟩ := and_e g4
  obtain ⟨w0, w1, w2, rfl⟩ : ∃ w0 w1 w2 : Value, args = #[w0, w1, w2] := by
    have hs : args.size = 3 := by simpa [Cond.value, given_1] using g1
    obtain ⟨L⟩ := args
    match L, hs with
    | [w0, w1, w2], _ => exact ⟨w0, w1, w2, rfl⟩
  have hw := fun d (hd : d ∈ tables_1) => atoms_spec (ws := Jvm.Cond.code x code maxLocals ret :: tables_1) hat d (List.mem_cons_of_mem _ hd)
  have hfit : Fit s := fun {y c} hc i hi => by
    obtain ⟨ha, rfl⟩ := Array.getElem?_eq_some_iff.mp hc
    have q := List.all_eq_true.mp ((Array.all_eq_true_iff_forall_mem.mp hF) _ (Array.getElem_mem ha)) i (List.mem_range.mpr hi)
    simpa [Array.getElem?_eq_getElem hi] using q
  obtain ⟨i0, ei0⟩ := is_v g3
  obtain rfl : w0 = (.int i0) := Option.some.inj ei0
  obtain ⟨i1, ei1⟩ := isL_v g5
  obtain rfl : w1 = (.long i1) := Option.some.inj ei1
  obtain ⟨i2, ei2⟩ := is_v g6
  obtain rfl : w2 = (.int i2) := Option.some.inj ei2
  obtain ⟨hsets, hown0⟩ := atoms_of _ (rest_1_c_eq ▸ (show rest_1_c.before _ s = true from hrest))
  have q6 := Cond.before_iff.mp (hsets _ (List.mem_of_getElem? (i := 6) rfl))
  have q8 := Cond.before_iff.mp (hsets _ (List.mem_of_getElem? (i := 8) rfl))
  have q11 := Cond.before_iff.mp (hsets _ (List.mem_of_getElem? (i := 11) rfl))
  have q13 := Cond.before_iff.mp (hsets _ (List.mem_of_getElem? (i := 13) rfl))
  have q14 := Cond.before_iff.mp (hsets _ (List.mem_of_getElem? (i := 14) rfl))
  have q7 := Cond.before_iff.mp (hsets _ (List.mem_of_getElem? (i := 7) rfl))
  obtain ⟨dc, cdl, SDC, evd, Ad, szd, szd'⟩ := sta_arr (Or.inr ⟨(hw _ (List.mem_of_getElem? (i := 4) rfl)), (hsets _ (List.mem_of_getElem? (i := 2) rfl))⟩) q6 q8
  obtain ⟨lc, clc, SLC, evl, Al, szl, szl'⟩ := sta_arr (Or.inl (hsets _ (List.mem_of_getElem? (i := 10) rfl))) q11 q13
  have BX : Bxs s lc clc "java/lang/Long" "J" (256 : Int32) (fun j => .long ((j - 128).toInt64)) := Bxs.start (fun _ => evl) Al szl szl' (by decide) q14 (fun X j hj hq => eqv_l (i2l_at (by simp [Term.eval, (back32 hj).1])) hq)
  have AD : Arx s s.heap dc cdl.cls (.object "java/lang/Object") (0 : Int32) [] .null "[Ljava/lang/Object;" := ⟨Arv.start hfit Ad szd szd' (by decide) rfl trivial, Exa.start evd q7⟩
  obtain ⟨n, o, h1, h2, h3, _, L, rfl, ⟨rfl, N⟩, hq⟩ := rm0 l s _ hw i0 i1 i2 s.heap (Old.start s) dc lc cdl.cls clc SDC AD SLC BX tables_1 p e ha hc hk s m _ below hf ((Spec.applies_iff_loose hf).mp happ).1 ⟨rfl, State.Warmed39.refl s, rfl⟩ trivial
  refine ⟨n, _, h1, h2, h3, hpost _ _ _ _ _ _ ⟨Cond.after_iff.mpr rfl, Cond.after_iff.mpr (eq_i res_at (Term.int_eval (1)) rfl), trivial⟩ ⟨hq.1, hq.2.1, (hq.2.2.sift fun y hy => Or.inr (N y hy)).mono (by decide) (by decide)⟩⟩
theorem main_1_1 : Claimed_1_1 := comes_1 fun _ _ _ _ _ _ h hF => ⟨h.1, hF⟩
theorem main_1_2 : Claimed_1_2 := comes_1 fun _ _ _ _ _ _ h hF => ⟨h.2.1, hF⟩
end Jvm.Pilot.@@N@@
namespace Jvm.Pilot.@@N@@
open Jvm Jvm.ClassFile Sem Op Lib Jvm.Free Jvm.Stand Jvm.Pilot.@@N@@.Jvm.D
/-! MADE BY PROGRAM (witnessworld.py) out of the Statement's table words and the real class files: 29 classes; the members and pool entries that the words name. The judged class is class 1, her method 1. -/
namespace start1
open Jvm.ClassFile
def u (s : String) : CpInfo := .utf8 (stringToUtf16 s)
/-- a pool by its gaps: so many unusable entries, then the entry; so many at the end -/
def gap : Nat → List CpInfo → List CpInfo
  | 0, r => r
  | n + 1, r => .unusable :: gap n r
def poolList (es : List (Nat × CpInfo)) (last : Nat) : List CpInfo := es.foldr (fun e r => gap e.1 (e.2 :: r)) (gap last [])
def pool (es : List (Nat × CpInfo)) (last : Nat) : Array CpInfo := ⟨poolList es last⟩
def fileOf (pool : Array CpInfo) (this : Nat) (attrs : Array Attribute := #[]) (ms : Array MethodInfo := #[]) (fl : Nat := 33) (sup : Nat := 0) (ifs : Array Nat := #[]) (fds : Array FieldInfo := #[]) : ClassFile where
  minorVersion := 0
  majorVersion := 65
  constantPool := pool
  accessFlags := fl
  thisClass := this
  superClass := sup
  interfaces := ifs
  fields := fds
  methods := ms
  attributes := attrs
def plain (name : String) (sup : Option ClassId) : Class where
  name := name
  kind := .ordinary
  loader := none
  accessFlags := 33
  super := sup
  interfaces := #[]
  cf := none
  fields := #[]
  methods := #[]
  instanceTypes := #[]
  staticTypes := #[]
  resolved := #[]
  callSites := []
  init := .initialized
  statics := none
  mirror := none

def pool0 : Array CpInfo := pool [(5, u "<init>"), (0, u "()V"), (1, .class_ 10), (1, u "java/lang/Object")] 113

def k0c0 : Code := { maxStack := 0, maxLocals := 1, code := object_method_1_code, exceptionTable := #[], attributes := #[] }
def k0m0 : Method := { name := "<init>", desc := "()V", sig := { parameters := [], returnType := none }, accessFlags := 1, code := some k0c0 }
/-- java/lang/Object -/
def k0 : Class := { plain "java/lang/Object" none with
  accessFlags := 33
  interfaces := #[]
  cf := some (fileOf pool0 8 #[] #[{ accessFlags := 1, nameIndex := 5, descriptorIndex := 6, attributes := #[] }] 33 0 #[] #[])
  fields := #[]
  methods := #[k0m0]
  instanceTypes := #[]
  staticTypes := #[]
  resolved := Array.replicate 124 none
  statics := none }

def pool1 : Array CpInfo := pool [(2, .class_ 4), (0, .nameAndType 5 6), (0, u "java/lang/Object"), (0, u "<init>"), (0, u "()V"), (0, .class_ 8), (0, u "java/util/ArrayList"), (0, .methodref 7 3), (0, .methodref 11 12), (0, .class_ 13), (0, .nameAndType 14 15), (0, u "java/lang/Long"), (0, u "valueOf"), (0, u "(J)Ljava/lang/Long;"), (0, .methodref 7 17), (0, .nameAndType 18 19), (0, u "add"), (0, u "(Ljava/lang/Object;)Z"), (0, .class_ 21), (0, u "com/example/thalweg/thalweg/cli/Mpeg1Reader$Picture"), (0, .methodref 20 23), (0, .nameAndType 5 24), (0, u "(JCLjava/util/List;[B)V"), (0, .methodref 20 26), (0, .nameAndType 27 28), (0, u "rank"), (0, u "()I"), (0, .integer 65535), (0, .class_ 31), (0, u "com/example/thalweg/thalweg/cli/PictureRankPinLaw"), (2, u "law"), (0, u "(IJI)Z")] 13

def k1m0 : Method := { name := "<init>", desc := "()V", sig := { parameters := [], returnType := none }, accessFlags := 1, code := none }
def k1c1 : Code := { maxStack := 7, maxLocals := 14, code := code, exceptionTable := #[], attributes := #[] }
def k1m1 : Method := { name := "law", desc := "(IJI)Z", sig := { parameters := [.int, .long, .int], returnType := some .boolean }, accessFlags := 9, code := some k1c1 }
/-- com/example/thalweg/thalweg/cli/PictureRankPinLaw -/
def k1 : Class := { plain "com/example/thalweg/thalweg/cli/PictureRankPinLaw" (some 0) with
  accessFlags := 49
  interfaces := #[]
  cf := some (fileOf pool1 30 #[] #[{ accessFlags := 1, nameIndex := 5, descriptorIndex := 6, attributes := #[] }, { accessFlags := 9, nameIndex := 34, descriptorIndex := 35, attributes := #[] }] 49 2 #[] #[])
  fields := #[]
  methods := #[k1m0, k1m1]
  instanceTypes := #[]
  staticTypes := #[]
  resolved := Array.replicate 49 none
  statics := none }

def pool2 : Array CpInfo := pool [(8, .class_ 10), (1, u "java/lang/Iterable"), (24, .class_ 36), (0, u "java/lang/Object")] 25

/-- java/lang/Iterable -/
def k2 : Class := { plain "java/lang/Iterable" (some 0) with
  accessFlags := 1537
  interfaces := #[]
  cf := some (fileOf pool2 8 #[] #[] 1537 35 #[] #[])
  fields := #[]
  methods := #[]
  instanceTypes := #[]
  staticTypes := #[]
  resolved := Array.replicate 62 none
  statics := none }

def pool3 : Array CpInfo := pool [(10, .class_ 12), (1, u "java/util/Collection"), (47, .class_ 61), (0, u "java/lang/Object"), (0, .class_ 63), (0, u "java/lang/Iterable")] 51

/-- java/util/Collection -/
def k3 : Class := { plain "java/util/Collection" (some 0) with
  accessFlags := 1537
  interfaces := #[2]
  cf := some (fileOf pool3 10 #[] #[] 1537 60 #[62] #[])
  fields := #[]
  methods := #[]
  instanceTypes := #[]
  staticTypes := #[]
  resolved := Array.replicate 115 none
  statics := none }

def pool4 : Array CpInfo := pool [(1, .methodref 2 3), (0, .class_ 4), (0, .nameAndType 5 6), (0, u "java/lang/Object"), (0, u "<init>"), (0, u "()V"), (1, .class_ 10), (1, u "java/util/AbstractCollection"), (66, .class_ 78), (0, u "java/util/Collection")] 81

def k4c0 : Code := { maxStack := 1, maxLocals := 1, code := jdk_22_method_1_code, exceptionTable := #[], attributes := #[] }
def k4m0 : Method := { name := "<init>", desc := "()V", sig := { parameters := [], returnType := none }, accessFlags := 4, code := some k4c0 }
/-- java/util/AbstractCollection -/
def k4 : Class := { plain "java/util/AbstractCollection" (some 0) with
  accessFlags := 1057
  interfaces := #[3]
  cf := some (fileOf pool4 8 #[] #[{ accessFlags := 4, nameIndex := 5, descriptorIndex := 6, attributes := #[] }] 1057 2 #[77] #[])
  fields := #[]
  methods := #[k4m0]
  instanceTypes := #[]
  staticTypes := #[]
  resolved := Array.replicate 160 none
  statics := none }

def pool5 : Array CpInfo := pool [(8, .class_ 10), (1, u "java/util/SequencedCollection"), (15, .class_ 27), (0, u "java/lang/Object"), (0, .class_ 29), (0, u "java/util/Collection")] 27

/-- java/util/SequencedCollection -/
def k5 : Class := { plain "java/util/SequencedCollection" (some 0) with
  accessFlags := 1537
  interfaces := #[3]
  cf := some (fileOf pool5 8 #[] #[] 1537 26 #[28] #[])
  fields := #[]
  methods := #[]
  instanceTypes := #[]
  staticTypes := #[]
  resolved := Array.replicate 57 none
  statics := none }

def pool6 : Array CpInfo := pool [(8, .class_ 10), (1, u "java/util/List"), (92, .class_ 104), (0, u "java/lang/Object"), (15, .class_ 121), (0, u "java/util/SequencedCollection")] 129

/-- java/util/List -/
def k6 : Class := { plain "java/util/List" (some 0) with
  accessFlags := 1537
  interfaces := #[5]
  cf := some (fileOf pool6 8 #[] #[] 1537 103 #[120] #[])
  fields := #[]
  methods := #[]
  instanceTypes := #[]
  staticTypes := #[]
  resolved := Array.replicate 251 none
  statics := none }

def pool7 : Array CpInfo := pool [(1, .methodref 2 3), (0, .class_ 4), (0, .nameAndType 5 6), (0, u "java/util/AbstractCollection"), (0, u "<init>"), (0, u "()V"), (0, .fieldref 8 9), (0, .class_ 10), (0, .nameAndType 11 12), (0, u "java/util/AbstractList"), (0, u "modCount"), (0, u "I"), (64, .class_ 78), (0, u "java/util/AbstractList$Itr"), (3, .class_ 83), (0, u "java/util/AbstractList$ListItr"), (9, .class_ 94), (0, u "java/util/AbstractList$RandomAccessSubList"), (3, .class_ 99), (0, u "java/util/AbstractList$SubList"), (33, .class_ 134), (0, u "java/util/List"), (73, .class_ 209), (0, u "java/util/AbstractList$SubList$1"), (0, .class_ 211), (0, u "java/util/AbstractList$RandomAccessSpliterator")] 6

def k7c0 : Code := { maxStack := 2, maxLocals := 1, code := jdk_39_method_1_code, exceptionTable := #[], attributes := #[] }
def k7m0 : Method := { name := "<init>", desc := "()V", sig := { parameters := [], returnType := none }, accessFlags := 4, code := some k7c0 }
/-- java/util/AbstractList -/
def k7 : Class := { plain "java/util/AbstractList" (some 4) with
  accessFlags := 1057
  interfaces := #[6]
  cf := some (fileOf pool7 8 #[.nestMembers #[93, 98, 208, 210, 82, 77]] #[{ accessFlags := 4, nameIndex := 5, descriptorIndex := 6, attributes := #[] }] 1057 2 #[133] #[{ accessFlags := 132, nameIndex := 11, descriptorIndex := 12, attributes := #[] }])
  fields := #[{ name := "modCount", type := .int, accessFlags := 132, slot := 0, constantValue := 0 }]
  methods := #[k7m0]
  instanceTypes := #[.int]
  staticTypes := #[]
  resolved := Array.replicate 218 none
  statics := none }

def pool8 : Array CpInfo := pool [(1, .class_ 2), (0, u "java/util/RandomAccess"), (0, .class_ 4), (0, u "java/lang/Object")] 2

/-- java/util/RandomAccess -/
def k8 : Class := { plain "java/util/RandomAccess" (some 0) with
  accessFlags := 1537
  interfaces := #[]
  cf := some (fileOf pool8 1 #[] #[] 1537 3 #[] #[])
  fields := #[]
  methods := #[]
  instanceTypes := #[]
  staticTypes := #[]
  resolved := Array.replicate 7 none
  statics := none }

def pool9 : Array CpInfo := pool [(1, .class_ 2), (0, u "java/lang/Cloneable"), (0, .class_ 4), (0, u "java/lang/Object")] 2

/-- java/lang/Cloneable -/
def k9 : Class := { plain "java/lang/Cloneable" (some 0) with
  accessFlags := 1537
  interfaces := #[]
  cf := some (fileOf pool9 1 #[] #[] 1537 3 #[] #[])
  fields := #[]
  methods := #[]
  instanceTypes := #[]
  staticTypes := #[]
  resolved := Array.replicate 7 none
  statics := none }

def pool10 : Array CpInfo := pool [(1, .class_ 2), (0, u "java/io/Serializable"), (0, .class_ 4), (0, u "java/lang/Object")] 2

/-- java/io/Serializable -/
def k10 : Class := { plain "java/io/Serializable" (some 0) with
  accessFlags := 1537
  interfaces := #[]
  cf := some (fileOf pool10 1 #[] #[] 1537 3 #[] #[])
  fields := #[]
  methods := #[]
  instanceTypes := #[]
  staticTypes := #[]
  resolved := Array.replicate 7 none
  statics := none }

def pool11 : Array CpInfo := pool [(1, .methodref 2 3), (0, .class_ 4), (0, .nameAndType 5 6), (0, u "java/util/AbstractList"), (0, u "<init>"), (0, u "()V"), (0, .class_ 8), (0, u "java/lang/Object"), (0, .fieldref 10 11), (0, .class_ 12), (0, .nameAndType 13 14), (0, u "java/util/ArrayList"), (0, u "elementData"), (0, u "[Ljava/lang/Object;"), (2, u "EMPTY_ELEMENTDATA"), (21, .fieldref 10 40), (0, .nameAndType 41 14), (0, u "DEFAULTCAPACITY_EMPTY_ELEMENTDATA"), (5, u "()[Ljava/lang/Object;"), (0, .fieldref 10 49), (0, .nameAndType 50 51), (0, u "size"), (0, u "I"), (11, .fieldref 10 64), (0, .nameAndType 65 51), (0, u "modCount"), (3, .methodref 10 70), (0, .nameAndType 71 72), (0, u "grow"), (0, u "(I)[Ljava/lang/Object;"), (6, .methodref 80 81), (0, .class_ 82), (0, .nameAndType 83 84), (0, u "java/lang/Math"), (0, u "max"), (0, u "(II)I"), (11, u "(Ljava/lang/Object;)Z"), (32, .methodref 10 130), (0, .nameAndType 71 47), (0, .methodref 10 132), (0, .nameAndType 133 134), (0, u "add"), (0, u "(Ljava/lang/Object;[Ljava/lang/Object;I)V"), (13, .class_ 149), (0, u "java/util/List"), (112, .class_ 263), (0, u "java/util/ArrayList$ListItr"), (3, .class_ 268), (0, u "java/util/ArrayList$Itr"), (7, .class_ 277), (0, u "java/util/ArrayList$SubList"), (12, .class_ 291), (0, u "java/util/ArrayList$ArrayListSpliterator"), (37, .class_ 330), (0, u "java/util/RandomAccess"), (0, .class_ 332), (0, u "java/lang/Cloneable"), (0, .class_ 334), (0, u "java/io/Serializable"), (0, u "serialVersionUID"), (0, u "J"), (3, u "DEFAULT_CAPACITY"), (159, .class_ 501), (0, u "java/util/ArrayList$SubList$2"), (0, .class_ 503), (0, u "java/util/ArrayList$SubList$1")] 5

def k11c0 : Code := { maxStack := 2, maxLocals := 1, code := jdk_38_method_2_code, exceptionTable := #[], attributes := #[] }
def k11m0 : Method := { name := "<init>", desc := "()V", sig := { parameters := [], returnType := none }, accessFlags := 1, code := some k11c0 }
def k11c1 : Code := { maxStack := 4, maxLocals := 4, code := jdk_38_method_6_code, exceptionTable := #[], attributes := #[] }
def k11m1 : Method := { name := "grow", desc := "(I)[Ljava/lang/Object;", sig := { parameters := [.int], returnType := some (.array (.object "java/lang/Object")) }, accessFlags := 2, code := some k11c1 }
def k11c2 : Code := { maxStack := 3, maxLocals := 1, code := jdk_38_method_7_code, exceptionTable := #[], attributes := #[] }
def k11m2 : Method := { name := "grow", desc := "()[Ljava/lang/Object;", sig := { parameters := [], returnType := some (.array (.object "java/lang/Object")) }, accessFlags := 2, code := some k11c2 }
def k11c3 : Code := { maxStack := 3, maxLocals := 4, code := jdk_38_method_24_code, exceptionTable := #[], attributes := #[] }
def k11m3 : Method := { name := "add", desc := "(Ljava/lang/Object;[Ljava/lang/Object;I)V", sig := { parameters := [(.object "java/lang/Object"), (.array (.object "java/lang/Object")), .int], returnType := none }, accessFlags := 2, code := some k11c3 }
def k11c4 : Code := { maxStack := 4, maxLocals := 2, code := jdk_38_method_25_code, exceptionTable := #[], attributes := #[] }
def k11m4 : Method := { name := "add", desc := "(Ljava/lang/Object;)Z", sig := { parameters := [(.object "java/lang/Object")], returnType := some .boolean }, accessFlags := 1, code := some k11c4 }
/-- java/util/ArrayList -/
def k11 : Class := { plain "java/util/ArrayList" (some 7) with
  accessFlags := 33
  interfaces := #[6, 8, 9, 10]
  cf := some (fileOf pool11 10 #[.nestMembers #[290, 276, 500, 502, 262, 267]] #[{ accessFlags := 1, nameIndex := 5, descriptorIndex := 6, attributes := #[] }, { accessFlags := 2, nameIndex := 71, descriptorIndex := 72, attributes := #[] }, { accessFlags := 2, nameIndex := 71, descriptorIndex := 47, attributes := #[] }, { accessFlags := 2, nameIndex := 133, descriptorIndex := 134, attributes := #[] }, { accessFlags := 1, nameIndex := 133, descriptorIndex := 96, attributes := #[] }] 33 2 #[148, 329, 331, 333] #[{ accessFlags := 26, nameIndex := 335, descriptorIndex := 336, attributes := #[] }, { accessFlags := 26, nameIndex := 340, descriptorIndex := 51, attributes := #[] }, { accessFlags := 26, nameIndex := 17, descriptorIndex := 14, attributes := #[] }, { accessFlags := 26, nameIndex := 41, descriptorIndex := 14, attributes := #[] }, { accessFlags := 128, nameIndex := 13, descriptorIndex := 14, attributes := #[] }, { accessFlags := 2, nameIndex := 50, descriptorIndex := 51, attributes := #[] }])
  fields := #[{ name := "serialVersionUID", type := .long, accessFlags := 26, slot := 0, constantValue := 0 }, { name := "DEFAULT_CAPACITY", type := .int, accessFlags := 26, slot := 1, constantValue := 0 }, { name := "EMPTY_ELEMENTDATA", type := (.array (.object "java/lang/Object")), accessFlags := 26, slot := 2, constantValue := 0 }, { name := "DEFAULTCAPACITY_EMPTY_ELEMENTDATA", type := (.array (.object "java/lang/Object")), accessFlags := 26, slot := 3, constantValue := 0 }, { name := "elementData", type := (.array (.object "java/lang/Object")), accessFlags := 128, slot := 1, constantValue := 0 }, { name := "size", type := .int, accessFlags := 2, slot := 2, constantValue := 0 }]
  methods := #[k11m0, k11m1, k11m2, k11m3, k11m4]
  instanceTypes := #[.int, (.array (.object "java/lang/Object")), .int]
  staticTypes := #[.long, .int, (.array (.object "java/lang/Object")), (.array (.object "java/lang/Object"))]
  resolved := Array.replicate 509 none
  statics := some 0 }

def pool12 : Array CpInfo := pool [(1, .methodref 2 3), (0, .class_ 4), (0, .nameAndType 5 6), (0, u "java/lang/Object"), (0, u "<init>"), (0, u "()V"), (1, .class_ 10), (1, u "java/lang/Number"), (2, .class_ 14), (0, u "java/io/Serializable"), (0, u "serialVersionUID"), (0, u "J")] 20

def k12c0 : Code := { maxStack := 1, maxLocals := 1, code := jdk_18_method_1_code, exceptionTable := #[], attributes := #[] }
def k12m0 : Method := { name := "<init>", desc := "()V", sig := { parameters := [], returnType := none }, accessFlags := 1, code := some k12c0 }
/-- java/lang/Number -/
def k12 : Class := { plain "java/lang/Number" (some 0) with
  accessFlags := 1057
  interfaces := #[10]
  cf := some (fileOf pool12 8 #[] #[{ accessFlags := 1, nameIndex := 5, descriptorIndex := 6, attributes := #[] }] 1057 2 #[13] #[{ accessFlags := 26, nameIndex := 15, descriptorIndex := 16, attributes := #[] }])
  fields := #[{ name := "serialVersionUID", type := .long, accessFlags := 26, slot := 0, constantValue := 0 }]
  methods := #[k12m0]
  instanceTypes := #[]
  staticTypes := #[.long]
  resolved := Array.replicate 37 none
  statics := none }

def pool13 : Array CpInfo := pool [(1, .class_ 2), (0, u "java/lang/Comparable"), (0, .class_ 4), (0, u "java/lang/Object")] 7

/-- java/lang/Comparable -/
def k13 : Class := { plain "java/lang/Comparable" (some 0) with
  accessFlags := 1537
  interfaces := #[]
  cf := some (fileOf pool13 1 #[] #[] 1537 3 #[] #[])
  fields := #[]
  methods := #[]
  instanceTypes := #[]
  staticTypes := #[]
  resolved := Array.replicate 12 none
  statics := none }

def pool14 : Array CpInfo := pool [(1, .class_ 2), (0, u "java/lang/constant/Constable"), (0, .class_ 4), (0, u "java/lang/Object")] 6

/-- java/lang/constant/Constable -/
def k14 : Class := { plain "java/lang/constant/Constable" (some 0) with
  accessFlags := 1537
  interfaces := #[]
  cf := some (fileOf pool14 1 #[] #[] 1537 3 #[] #[])
  fields := #[]
  methods := #[]
  instanceTypes := #[]
  staticTypes := #[]
  resolved := Array.replicate 11 none
  statics := none }

def pool15 : Array CpInfo := pool [(1, .class_ 2), (0, u "java/lang/constant/ConstantDesc"), (0, .class_ 4), (0, u "java/lang/Object")] 32

/-- java/lang/constant/ConstantDesc -/
def k15 : Class := { plain "java/lang/constant/ConstantDesc" (some 0) with
  accessFlags := 1537
  interfaces := #[]
  cf := some (fileOf pool15 1 #[] #[] 1537 3 #[] #[])
  fields := #[]
  methods := #[]
  instanceTypes := #[]
  staticTypes := #[]
  resolved := Array.replicate 37 none
  statics := none }

def pool16 : Array CpInfo := pool [(1, .class_ 2), (0, u "java/lang/Long"), (55, .nameAndType 59 60), (0, u "<init>"), (0, u "()V"), (24, u "valueOf"), (143, u "(J)Ljava/lang/Long;"), (0, .long 18446744073709551488), (1, .long 127), (1, .fieldref 235 236), (0, .class_ 237), (0, .nameAndType 238 239), (0, u "java/lang/Long$LongCache"), (0, u "cache"), (0, u "[Ljava/lang/Long;"), (0, .methodref 1 241), (0, .nameAndType 59 242), (0, u "(J)V"), (27, .methodref 271 58), (0, .class_ 272), (0, u "java/lang/Number"), (0, .fieldref 1 274), (0, .nameAndType 275 276), (0, u "value"), (0, u "J"), (84, u "TYPE"), (0, u "Ljava/lang/Class;"), (0, .class_ 364), (0, u "java/lang/Comparable"), (0, .class_ 366), (0, u "java/lang/constant/Constable"), (0, .class_ 368), (0, u "java/lang/constant/ConstantDesc"), (0, u "MIN_VALUE"), (1, u "MAX_VALUE"), (4, u "SIZE"), (0, u "I"), (1, u "BYTES"), (1, u "serialVersionUID")] 142

def k16c0 : Code := { maxStack := 4, maxLocals := 3, code := jdk_35_method_24_code, exceptionTable := #[], attributes := #[] }
def k16m0 : Method := { name := "valueOf", desc := "(J)Ljava/lang/Long;", sig := { parameters := [.long], returnType := some (.object "java/lang/Long") }, accessFlags := 9, code := some k16c0 }
def k16c1 : Code := { maxStack := 3, maxLocals := 3, code := jdk_35_method_26_code, exceptionTable := #[], attributes := #[] }
def k16m1 : Method := { name := "<init>", desc := "(J)V", sig := { parameters := [.long], returnType := none }, accessFlags := 1, code := some k16c1 }
/-- java/lang/Long -/
def k16 : Class := { plain "java/lang/Long" (some 12) with
  accessFlags := 49
  interfaces := #[13, 14, 15]
  cf := some (fileOf pool16 1 #[.nestMembers #[235]] #[{ accessFlags := 9, nameIndex := 85, descriptorIndex := 229, attributes := #[] }, { accessFlags := 1, nameIndex := 59, descriptorIndex := 242, attributes := #[] }] 49 271 #[363, 365, 367] #[{ accessFlags := 25, nameIndex := 369, descriptorIndex := 276, attributes := #[] }, { accessFlags := 25, nameIndex := 371, descriptorIndex := 276, attributes := #[] }, { accessFlags := 25, nameIndex := 361, descriptorIndex := 362, attributes := #[] }, { accessFlags := 18, nameIndex := 275, descriptorIndex := 276, attributes := #[] }, { accessFlags := 25, nameIndex := 376, descriptorIndex := 377, attributes := #[] }, { accessFlags := 25, nameIndex := 379, descriptorIndex := 377, attributes := #[] }, { accessFlags := 26, nameIndex := 381, descriptorIndex := 276, attributes := #[] }])
  fields := #[{ name := "MIN_VALUE", type := .long, accessFlags := 25, slot := 0, constantValue := 0 }, { name := "MAX_VALUE", type := .long, accessFlags := 25, slot := 1, constantValue := 0 }, { name := "TYPE", type := (.object "java/lang/Class"), accessFlags := 25, slot := 2, constantValue := 0 }, { name := "value", type := .long, accessFlags := 18, slot := 0, constantValue := 0 }, { name := "SIZE", type := .int, accessFlags := 25, slot := 3, constantValue := 0 }, { name := "BYTES", type := .int, accessFlags := 25, slot := 4, constantValue := 0 }, { name := "serialVersionUID", type := .long, accessFlags := 26, slot := 5, constantValue := 0 }]
  methods := #[k16m0, k16m1]
  instanceTypes := #[.long]
  staticTypes := #[.long, .long, (.object "java/lang/Class"), .int, .int, .long]
  resolved := Array.replicate 524 none
  statics := none }

def pool17 : Array CpInfo := pool [(2, .class_ 4), (1, u "java/lang/Object"), (0, u "<init>"), (0, u "()V"), (0, .class_ 8), (0, u "java/lang/Long"), (7, .class_ 18), (1, u "java/lang/Long$LongCache"), (0, u "$assertionsDisabled"), (0, u "Z"), (8, u "archivedCache"), (0, u "[Ljava/lang/Long;"), (7, u "cache")] 24

def k17m0 : Method := { name := "<init>", desc := "()V", sig := { parameters := [], returnType := none }, accessFlags := 2, code := none }
/-- java/lang/Long$LongCache -/
def k17 : Class := { plain "java/lang/Long$LongCache" (some 0) with
  accessFlags := 48
  interfaces := #[]
  cf := some (fileOf pool17 16 #[.nestHost 7] #[{ accessFlags := 2, nameIndex := 5, descriptorIndex := 6, attributes := #[] }] 48 2 #[] #[{ accessFlags := 24, nameIndex := 38, descriptorIndex := 30, attributes := #[] }, { accessFlags := 8, nameIndex := 29, descriptorIndex := 30, attributes := #[] }, { accessFlags := 4120, nameIndex := 19, descriptorIndex := 20, attributes := #[] }])
  fields := #[{ name := "cache", type := (.array (.object "java/lang/Long")), accessFlags := 24, slot := 0, constantValue := 0 }, { name := "archivedCache", type := (.array (.object "java/lang/Long")), accessFlags := 8, slot := 1, constantValue := 0 }, { name := "$assertionsDisabled", type := .boolean, accessFlags := 4120, slot := 2, constantValue := 0 }]
  methods := #[k17m0]
  instanceTypes := #[]
  staticTypes := #[(.array (.object "java/lang/Long")), (.array (.object "java/lang/Long")), .boolean]
  resolved := Array.replicate 63 none
  statics := some 1 }

def pool18 : Array CpInfo := pool [(1, .class_ 2), (0, u "java/lang/Math"), (1, .class_ 6), (1, u "java/lang/Object"), (0, u "<init>"), (0, u "()V"), (89, .class_ 100), (1, u "java/lang/Math$RandomNumberGeneratorHolder"), (71, u "negativeZeroFloatBits"), (0, u "J"), (2, u "negativeZeroDoubleBits"), (21, u "max"), (46, u "$assertionsDisabled"), (0, u "Z"), (88, u "(II)I"), (2, u "twoToTheDoubleScaleDown"), (0, u "D"), (4, u "twoToTheDoubleScaleUp"), (9, u "E"), (3, u "PI"), (2, u "TAU"), (2, u "DEGREES_TO_RADIANS"), (0, u "RADIANS_TO_DEGREES")] 94

def k18m0 : Method := { name := "<init>", desc := "()V", sig := { parameters := [], returnType := none }, accessFlags := 2, code := none }
def k18c1 : Code := { maxStack := 2, maxLocals := 2, code := jdk_29_method_65_code, exceptionTable := #[], attributes := #[] }
def k18m1 : Method := { name := "max", desc := "(II)I", sig := { parameters := [.int, .int], returnType := some .int }, accessFlags := 9, code := some k18c1 }
/-- java/lang/Math -/
def k18 : Class := { plain "java/lang/Math" (some 0) with
  accessFlags := 49
  interfaces := #[]
  cf := some (fileOf pool18 1 #[.nestMembers #[98]] #[{ accessFlags := 2, nameIndex := 7, descriptorIndex := 8, attributes := #[] }, { accessFlags := 9, nameIndex := 198, descriptorIndex := 335, attributes := #[] }] 49 4 #[] #[{ accessFlags := 25, nameIndex := 354, descriptorIndex := 339, attributes := #[] }, { accessFlags := 25, nameIndex := 358, descriptorIndex := 339, attributes := #[] }, { accessFlags := 25, nameIndex := 361, descriptorIndex := 339, attributes := #[] }, { accessFlags := 26, nameIndex := 364, descriptorIndex := 339, attributes := #[] }, { accessFlags := 26, nameIndex := 365, descriptorIndex := 339, attributes := #[] }, { accessFlags := 26, nameIndex := 172, descriptorIndex := 173, attributes := #[] }, { accessFlags := 26, nameIndex := 176, descriptorIndex := 173, attributes := #[] }, { accessFlags := 8, nameIndex := 344, descriptorIndex := 339, attributes := #[] }, { accessFlags := 8, nameIndex := 338, descriptorIndex := 339, attributes := #[] }, { accessFlags := 4120, nameIndex := 245, descriptorIndex := 246, attributes := #[] }])
  fields := #[{ name := "E", type := .double, accessFlags := 25, slot := 0, constantValue := 0 }, { name := "PI", type := .double, accessFlags := 25, slot := 1, constantValue := 0 }, { name := "TAU", type := .double, accessFlags := 25, slot := 2, constantValue := 0 }, { name := "DEGREES_TO_RADIANS", type := .double, accessFlags := 26, slot := 3, constantValue := 0 }, { name := "RADIANS_TO_DEGREES", type := .double, accessFlags := 26, slot := 4, constantValue := 0 }, { name := "negativeZeroFloatBits", type := .long, accessFlags := 26, slot := 5, constantValue := 0 }, { name := "negativeZeroDoubleBits", type := .long, accessFlags := 26, slot := 6, constantValue := 0 }, { name := "twoToTheDoubleScaleUp", type := .double, accessFlags := 8, slot := 7, constantValue := 0 }, { name := "twoToTheDoubleScaleDown", type := .double, accessFlags := 8, slot := 8, constantValue := 0 }, { name := "$assertionsDisabled", type := .boolean, accessFlags := 4120, slot := 9, constantValue := 0 }]
  methods := #[k18m0, k18m1]
  instanceTypes := #[]
  staticTypes := #[.double, .double, .double, .double, .double, .long, .long, .double, .double, .boolean]
  resolved := Array.replicate 460 none
  statics := none }

def pool19 : Array CpInfo := pool [(1, .methodref 2 3), (0, .class_ 4), (0, .nameAndType 5 6), (0, u "java/lang/Object"), (0, u "<init>"), (0, u "()V"), (0, .class_ 8), (0, u "java/lang/Record")] 13

def k19c0 : Code := { maxStack := 1, maxLocals := 1, code := jdk_30_method_1_code, exceptionTable := #[], attributes := #[] }
def k19m0 : Method := { name := "<init>", desc := "()V", sig := { parameters := [], returnType := none }, accessFlags := 4, code := some k19c0 }
/-- java/lang/Record -/
def k19 : Class := { plain "java/lang/Record" (some 0) with
  accessFlags := 1057
  interfaces := #[]
  cf := some (fileOf pool19 7 #[] #[{ accessFlags := 4, nameIndex := 5, descriptorIndex := 6, attributes := #[] }] 1057 2 #[] #[])
  fields := #[]
  methods := #[k19m0]
  instanceTypes := #[]
  staticTypes := #[]
  resolved := Array.replicate 22 none
  statics := none }

def pool20 : Array CpInfo := pool [(1, .methodref 2 3), (0, .class_ 4), (0, .nameAndType 5 6), (0, u "java/lang/Record"), (0, u "<init>"), (0, u "()V"), (0, .fieldref 8 9), (0, .class_ 10), (0, .nameAndType 11 12), (0, u "com/example/thalweg/thalweg/cli/Mpeg1Reader$Picture"), (0, u "index"), (0, u "J"), (0, .fieldref 8 14), (0, .nameAndType 15 16), (0, u "type"), (0, u "C"), (0, .fieldref 8 18), (0, .nameAndType 19 20), (0, u "deps"), (0, u "Ljava/util/List;"), (0, .fieldref 8 22), (0, .nameAndType 23 24), (0, u "payload"), (0, u "[B"), (14, u "(JCLjava/util/List;[B)V"), (4, u "rank"), (0, u "()I"), (11, .class_ 58), (0, u "com/example/thalweg/thalweg/cli/Mpeg1Reader")] 22

def k20c0 : Code := { maxStack := 3, maxLocals := 6, code := prog_8_method_1_code, exceptionTable := #[], attributes := #[] }
def k20m0 : Method := { name := "<init>", desc := "(JCLjava/util/List;[B)V", sig := { parameters := [.long, .char, (.object "java/util/List"), (.array .byte)], returnType := none }, accessFlags := 0, code := some k20c0 }
def k20c1 : Code := { maxStack := 1, maxLocals := 1, code := prog_8_method_2_code, exceptionTable := #[], attributes := #[] }
def k20m1 : Method := { name := "rank", desc := "()I", sig := { parameters := [], returnType := some .int }, accessFlags := 0, code := some k20c1 }
/-- com/example/thalweg/thalweg/cli/Mpeg1Reader$Picture -/
def k20 : Class := { plain "com/example/thalweg/thalweg/cli/Mpeg1Reader$Picture" (some 19) with
  accessFlags := 48
  interfaces := #[]
  cf := some (fileOf pool20 8 #[.nestHost 57] #[{ accessFlags := 0, nameIndex := 5, descriptorIndex := 39, attributes := #[] }, { accessFlags := 0, nameIndex := 44, descriptorIndex := 45, attributes := #[] }] 48 2 #[] #[{ accessFlags := 18, nameIndex := 11, descriptorIndex := 12, attributes := #[] }, { accessFlags := 18, nameIndex := 15, descriptorIndex := 16, attributes := #[] }, { accessFlags := 18, nameIndex := 19, descriptorIndex := 20, attributes := #[] }, { accessFlags := 18, nameIndex := 23, descriptorIndex := 24, attributes := #[] }])
  fields := #[{ name := "index", type := .long, accessFlags := 18, slot := 0, constantValue := 0 }, { name := "type", type := .char, accessFlags := 18, slot := 1, constantValue := 0 }, { name := "deps", type := (.object "java/util/List"), accessFlags := 18, slot := 2, constantValue := 0 }, { name := "payload", type := (.array .byte), accessFlags := 18, slot := 3, constantValue := 0 }]
  methods := #[k20m0, k20m1]
  instanceTypes := #[.long, .char, (.object "java/util/List"), (.array .byte)]
  staticTypes := #[]
  resolved := Array.replicate 81 none
  statics := none }

/-- the primitive byte -/
def k21 : Class := { plain "byte" none with kind := .primitive 'B', accessFlags := 0x411 }
/-- [B -/
def k22 : Class := { plain "[B" (some 0) with kind := .array 21 .byte, interfaces := #[9, 10], accessFlags := 1041 }

/-- the primitive char -/
def k23 : Class := { plain "char" none with kind := .primitive 'C', accessFlags := 0x411 }
/-- [C -/
def k24 : Class := { plain "[C" (some 0) with kind := .array 23 .char, interfaces := #[9, 10], accessFlags := 1041 }

/-- the primitive int -/
def k25 : Class := { plain "int" none with kind := .primitive 'I', accessFlags := 0x411 }
/-- [I -/
def k26 : Class := { plain "[I" (some 0) with kind := .array 25 .int, interfaces := #[9, 10], accessFlags := 1041 }

/-- [Ljava/lang/Long; -/
def k27 : Class := { plain "[Ljava/lang/Long;" (some 0) with kind := .array 16 (.object "java/lang/Long"), interfaces := #[9, 10], accessFlags := 1041 }

/-- [Ljava/lang/Object; -/
def k28 : Class := { plain "[Ljava/lang/Object;" (some 0) with kind := .array 0 (.object "java/lang/Object"), interfaces := #[9, 10], accessFlags := 1041 }

def heap : Heap := #[{ cls := 11, slots := #[.long 0, .int 0, .ref 259, .ref 260], vm := .statics 11 },
  { cls := 17, slots := #[.ref 2, .null, .int 0], vm := .statics 17 },
  { cls := 27, slots := #[.ref 3, .ref 4, .ref 5, .ref 6, .ref 7, .ref 8, .ref 9, .ref 10, .ref 11, .ref 12, .ref 13, .ref 14, .ref 15, .ref 16, .ref 17, .ref 18, .ref 19, .ref 20, .ref 21, .ref 22, .ref 23, .ref 24, .ref 25, .ref 26, .ref 27, .ref 28, .ref 29, .ref 30, .ref 31, .ref 32, .ref 33, .ref 34, .ref 35, .ref 36, .ref 37, .ref 38, .ref 39, .ref 40, .ref 41, .ref 42, .ref 43, .ref 44, .ref 45, .ref 46, .ref 47, .ref 48, .ref 49, .ref 50, .ref 51, .ref 52, .ref 53, .ref 54, .ref 55, .ref 56, .ref 57, .ref 58, .ref 59, .ref 60, .ref 61, .ref 62, .ref 63, .ref 64, .ref 65, .ref 66, .ref 67, .ref 68, .ref 69, .ref 70, .ref 71, .ref 72, .ref 73, .ref 74, .ref 75, .ref 76, .ref 77, .ref 78, .ref 79, .ref 80, .ref 81, .ref 82, .ref 83, .ref 84, .ref 85, .ref 86, .ref 87, .ref 88, .ref 89, .ref 90, .ref 91, .ref 92, .ref 93, .ref 94, .ref 95, .ref 96, .ref 97, .ref 98, .ref 99, .ref 100, .ref 101, .ref 102, .ref 103, .ref 104, .ref 105, .ref 106, .ref 107, .ref 108, .ref 109, .ref 110, .ref 111, .ref 112, .ref 113, .ref 114, .ref 115, .ref 116, .ref 117, .ref 118, .ref 119, .ref 120, .ref 121, .ref 122, .ref 123, .ref 124, .ref 125, .ref 126, .ref 127, .ref 128, .ref 129, .ref 130, .ref 131, .ref 132, .ref 133, .ref 134, .ref 135, .ref 136, .ref 137, .ref 138, .ref 139, .ref 140, .ref 141, .ref 142, .ref 143, .ref 144, .ref 145, .ref 146, .ref 147, .ref 148, .ref 149, .ref 150, .ref 151, .ref 152, .ref 153, .ref 154, .ref 155, .ref 156, .ref 157, .ref 158, .ref 159, .ref 160, .ref 161, .ref 162, .ref 163, .ref 164, .ref 165, .ref 166, .ref 167, .ref 168, .ref 169, .ref 170, .ref 171, .ref 172, .ref 173, .ref 174, .ref 175, .ref 176, .ref 177, .ref 178, .ref 179, .ref 180, .ref 181, .ref 182, .ref 183, .ref 184, .ref 185, .ref 186, .ref 187, .ref 188, .ref 189, .ref 190, .ref 191, .ref 192, .ref 193, .ref 194, .ref 195, .ref 196, .ref 197, .ref 198, .ref 199, .ref 200, .ref 201, .ref 202, .ref 203, .ref 204, .ref 205, .ref 206, .ref 207, .ref 208, .ref 209, .ref 210, .ref 211, .ref 212, .ref 213, .ref 214, .ref 215, .ref 216, .ref 217, .ref 218, .ref 219, .ref 220, .ref 221, .ref 222, .ref 223, .ref 224, .ref 225, .ref 226, .ref 227, .ref 228, .ref 229, .ref 230, .ref 231, .ref 232, .ref 233, .ref 234, .ref 235, .ref 236, .ref 237, .ref 238, .ref 239, .ref 240, .ref 241, .ref 242, .ref 243, .ref 244, .ref 245, .ref 246, .ref 247, .ref 248, .ref 249, .ref 250, .ref 251, .ref 252, .ref 253, .ref 254, .ref 255, .ref 256, .ref 257, .ref 258], vm := .none },
  { cls := 16, slots := #[.long (-128)], vm := .none },
  { cls := 16, slots := #[.long (-127)], vm := .none },
  { cls := 16, slots := #[.long (-126)], vm := .none },
  { cls := 16, slots := #[.long (-125)], vm := .none },
  { cls := 16, slots := #[.long (-124)], vm := .none },
  { cls := 16, slots := #[.long (-123)], vm := .none },
  { cls := 16, slots := #[.long (-122)], vm := .none },
  { cls := 16, slots := #[.long (-121)], vm := .none },
  { cls := 16, slots := #[.long (-120)], vm := .none },
  { cls := 16, slots := #[.long (-119)], vm := .none },
  { cls := 16, slots := #[.long (-118)], vm := .none },
  { cls := 16, slots := #[.long (-117)], vm := .none },
  { cls := 16, slots := #[.long (-116)], vm := .none },
  { cls := 16, slots := #[.long (-115)], vm := .none },
  { cls := 16, slots := #[.long (-114)], vm := .none },
  { cls := 16, slots := #[.long (-113)], vm := .none },
  { cls := 16, slots := #[.long (-112)], vm := .none },
  { cls := 16, slots := #[.long (-111)], vm := .none },
  { cls := 16, slots := #[.long (-110)], vm := .none },
  { cls := 16, slots := #[.long (-109)], vm := .none },
  { cls := 16, slots := #[.long (-108)], vm := .none },
  { cls := 16, slots := #[.long (-107)], vm := .none },
  { cls := 16, slots := #[.long (-106)], vm := .none },
  { cls := 16, slots := #[.long (-105)], vm := .none },
  { cls := 16, slots := #[.long (-104)], vm := .none },
  { cls := 16, slots := #[.long (-103)], vm := .none },
  { cls := 16, slots := #[.long (-102)], vm := .none },
  { cls := 16, slots := #[.long (-101)], vm := .none },
  { cls := 16, slots := #[.long (-100)], vm := .none },
  { cls := 16, slots := #[.long (-99)], vm := .none },
  { cls := 16, slots := #[.long (-98)], vm := .none },
  { cls := 16, slots := #[.long (-97)], vm := .none },
  { cls := 16, slots := #[.long (-96)], vm := .none },
  { cls := 16, slots := #[.long (-95)], vm := .none },
  { cls := 16, slots := #[.long (-94)], vm := .none },
  { cls := 16, slots := #[.long (-93)], vm := .none },
  { cls := 16, slots := #[.long (-92)], vm := .none },
  { cls := 16, slots := #[.long (-91)], vm := .none },
  { cls := 16, slots := #[.long (-90)], vm := .none },
  { cls := 16, slots := #[.long (-89)], vm := .none },
  { cls := 16, slots := #[.long (-88)], vm := .none },
  { cls := 16, slots := #[.long (-87)], vm := .none },
  { cls := 16, slots := #[.long (-86)], vm := .none },
  { cls := 16, slots := #[.long (-85)], vm := .none },
  { cls := 16, slots := #[.long (-84)], vm := .none },
  { cls := 16, slots := #[.long (-83)], vm := .none },
  { cls := 16, slots := #[.long (-82)], vm := .none },
  { cls := 16, slots := #[.long (-81)], vm := .none },
  { cls := 16, slots := #[.long (-80)], vm := .none },
  { cls := 16, slots := #[.long (-79)], vm := .none },
  { cls := 16, slots := #[.long (-78)], vm := .none },
  { cls := 16, slots := #[.long (-77)], vm := .none },
  { cls := 16, slots := #[.long (-76)], vm := .none },
  { cls := 16, slots := #[.long (-75)], vm := .none },
  { cls := 16, slots := #[.long (-74)], vm := .none },
  { cls := 16, slots := #[.long (-73)], vm := .none },
  { cls := 16, slots := #[.long (-72)], vm := .none },
  { cls := 16, slots := #[.long (-71)], vm := .none },
  { cls := 16, slots := #[.long (-70)], vm := .none },
  { cls := 16, slots := #[.long (-69)], vm := .none },
  { cls := 16, slots := #[.long (-68)], vm := .none },
  { cls := 16, slots := #[.long (-67)], vm := .none },
  { cls := 16, slots := #[.long (-66)], vm := .none },
  { cls := 16, slots := #[.long (-65)], vm := .none },
  { cls := 16, slots := #[.long (-64)], vm := .none },
  { cls := 16, slots := #[.long (-63)], vm := .none },
  { cls := 16, slots := #[.long (-62)], vm := .none },
  { cls := 16, slots := #[.long (-61)], vm := .none },
  { cls := 16, slots := #[.long (-60)], vm := .none },
  { cls := 16, slots := #[.long (-59)], vm := .none },
  { cls := 16, slots := #[.long (-58)], vm := .none },
  { cls := 16, slots := #[.long (-57)], vm := .none },
  { cls := 16, slots := #[.long (-56)], vm := .none },
  { cls := 16, slots := #[.long (-55)], vm := .none },
  { cls := 16, slots := #[.long (-54)], vm := .none },
  { cls := 16, slots := #[.long (-53)], vm := .none },
  { cls := 16, slots := #[.long (-52)], vm := .none },
  { cls := 16, slots := #[.long (-51)], vm := .none },
  { cls := 16, slots := #[.long (-50)], vm := .none },
  { cls := 16, slots := #[.long (-49)], vm := .none },
  { cls := 16, slots := #[.long (-48)], vm := .none },
  { cls := 16, slots := #[.long (-47)], vm := .none },
  { cls := 16, slots := #[.long (-46)], vm := .none },
  { cls := 16, slots := #[.long (-45)], vm := .none },
  { cls := 16, slots := #[.long (-44)], vm := .none },
  { cls := 16, slots := #[.long (-43)], vm := .none },
  { cls := 16, slots := #[.long (-42)], vm := .none },
  { cls := 16, slots := #[.long (-41)], vm := .none },
  { cls := 16, slots := #[.long (-40)], vm := .none },
  { cls := 16, slots := #[.long (-39)], vm := .none },
  { cls := 16, slots := #[.long (-38)], vm := .none },
  { cls := 16, slots := #[.long (-37)], vm := .none },
  { cls := 16, slots := #[.long (-36)], vm := .none },
  { cls := 16, slots := #[.long (-35)], vm := .none },
  { cls := 16, slots := #[.long (-34)], vm := .none },
  { cls := 16, slots := #[.long (-33)], vm := .none },
  { cls := 16, slots := #[.long (-32)], vm := .none },
  { cls := 16, slots := #[.long (-31)], vm := .none },
  { cls := 16, slots := #[.long (-30)], vm := .none },
  { cls := 16, slots := #[.long (-29)], vm := .none },
  { cls := 16, slots := #[.long (-28)], vm := .none },
  { cls := 16, slots := #[.long (-27)], vm := .none },
  { cls := 16, slots := #[.long (-26)], vm := .none },
  { cls := 16, slots := #[.long (-25)], vm := .none },
  { cls := 16, slots := #[.long (-24)], vm := .none },
  { cls := 16, slots := #[.long (-23)], vm := .none },
  { cls := 16, slots := #[.long (-22)], vm := .none },
  { cls := 16, slots := #[.long (-21)], vm := .none },
  { cls := 16, slots := #[.long (-20)], vm := .none },
  { cls := 16, slots := #[.long (-19)], vm := .none },
  { cls := 16, slots := #[.long (-18)], vm := .none },
  { cls := 16, slots := #[.long (-17)], vm := .none },
  { cls := 16, slots := #[.long (-16)], vm := .none },
  { cls := 16, slots := #[.long (-15)], vm := .none },
  { cls := 16, slots := #[.long (-14)], vm := .none },
  { cls := 16, slots := #[.long (-13)], vm := .none },
  { cls := 16, slots := #[.long (-12)], vm := .none },
  { cls := 16, slots := #[.long (-11)], vm := .none },
  { cls := 16, slots := #[.long (-10)], vm := .none },
  { cls := 16, slots := #[.long (-9)], vm := .none },
  { cls := 16, slots := #[.long (-8)], vm := .none },
  { cls := 16, slots := #[.long (-7)], vm := .none },
  { cls := 16, slots := #[.long (-6)], vm := .none },
  { cls := 16, slots := #[.long (-5)], vm := .none },
  { cls := 16, slots := #[.long (-4)], vm := .none },
  { cls := 16, slots := #[.long (-3)], vm := .none },
  { cls := 16, slots := #[.long (-2)], vm := .none },
  { cls := 16, slots := #[.long (-1)], vm := .none },
  { cls := 16, slots := #[.long 0], vm := .none },
  { cls := 16, slots := #[.long 1], vm := .none },
  { cls := 16, slots := #[.long 2], vm := .none },
  { cls := 16, slots := #[.long 3], vm := .none },
  { cls := 16, slots := #[.long 4], vm := .none },
  { cls := 16, slots := #[.long 5], vm := .none },
  { cls := 16, slots := #[.long 6], vm := .none },
  { cls := 16, slots := #[.long 7], vm := .none },
  { cls := 16, slots := #[.long 8], vm := .none },
  { cls := 16, slots := #[.long 9], vm := .none },
  { cls := 16, slots := #[.long 10], vm := .none },
  { cls := 16, slots := #[.long 11], vm := .none },
  { cls := 16, slots := #[.long 12], vm := .none },
  { cls := 16, slots := #[.long 13], vm := .none },
  { cls := 16, slots := #[.long 14], vm := .none },
  { cls := 16, slots := #[.long 15], vm := .none },
  { cls := 16, slots := #[.long 16], vm := .none },
  { cls := 16, slots := #[.long 17], vm := .none },
  { cls := 16, slots := #[.long 18], vm := .none },
  { cls := 16, slots := #[.long 19], vm := .none },
  { cls := 16, slots := #[.long 20], vm := .none },
  { cls := 16, slots := #[.long 21], vm := .none },
  { cls := 16, slots := #[.long 22], vm := .none },
  { cls := 16, slots := #[.long 23], vm := .none },
  { cls := 16, slots := #[.long 24], vm := .none },
  { cls := 16, slots := #[.long 25], vm := .none },
  { cls := 16, slots := #[.long 26], vm := .none },
  { cls := 16, slots := #[.long 27], vm := .none },
  { cls := 16, slots := #[.long 28], vm := .none },
  { cls := 16, slots := #[.long 29], vm := .none },
  { cls := 16, slots := #[.long 30], vm := .none },
  { cls := 16, slots := #[.long 31], vm := .none },
  { cls := 16, slots := #[.long 32], vm := .none },
  { cls := 16, slots := #[.long 33], vm := .none },
  { cls := 16, slots := #[.long 34], vm := .none },
  { cls := 16, slots := #[.long 35], vm := .none },
  { cls := 16, slots := #[.long 36], vm := .none },
  { cls := 16, slots := #[.long 37], vm := .none },
  { cls := 16, slots := #[.long 38], vm := .none },
  { cls := 16, slots := #[.long 39], vm := .none },
  { cls := 16, slots := #[.long 40], vm := .none },
  { cls := 16, slots := #[.long 41], vm := .none },
  { cls := 16, slots := #[.long 42], vm := .none },
  { cls := 16, slots := #[.long 43], vm := .none },
  { cls := 16, slots := #[.long 44], vm := .none },
  { cls := 16, slots := #[.long 45], vm := .none },
  { cls := 16, slots := #[.long 46], vm := .none },
  { cls := 16, slots := #[.long 47], vm := .none },
  { cls := 16, slots := #[.long 48], vm := .none },
  { cls := 16, slots := #[.long 49], vm := .none },
  { cls := 16, slots := #[.long 50], vm := .none },
  { cls := 16, slots := #[.long 51], vm := .none },
  { cls := 16, slots := #[.long 52], vm := .none },
  { cls := 16, slots := #[.long 53], vm := .none },
  { cls := 16, slots := #[.long 54], vm := .none },
  { cls := 16, slots := #[.long 55], vm := .none },
  { cls := 16, slots := #[.long 56], vm := .none },
  { cls := 16, slots := #[.long 57], vm := .none },
  { cls := 16, slots := #[.long 58], vm := .none },
  { cls := 16, slots := #[.long 59], vm := .none },
  { cls := 16, slots := #[.long 60], vm := .none },
  { cls := 16, slots := #[.long 61], vm := .none },
  { cls := 16, slots := #[.long 62], vm := .none },
  { cls := 16, slots := #[.long 63], vm := .none },
  { cls := 16, slots := #[.long 64], vm := .none },
  { cls := 16, slots := #[.long 65], vm := .none },
  { cls := 16, slots := #[.long 66], vm := .none },
  { cls := 16, slots := #[.long 67], vm := .none },
  { cls := 16, slots := #[.long 68], vm := .none },
  { cls := 16, slots := #[.long 69], vm := .none },
  { cls := 16, slots := #[.long 70], vm := .none },
  { cls := 16, slots := #[.long 71], vm := .none },
  { cls := 16, slots := #[.long 72], vm := .none },
  { cls := 16, slots := #[.long 73], vm := .none },
  { cls := 16, slots := #[.long 74], vm := .none },
  { cls := 16, slots := #[.long 75], vm := .none },
  { cls := 16, slots := #[.long 76], vm := .none },
  { cls := 16, slots := #[.long 77], vm := .none },
  { cls := 16, slots := #[.long 78], vm := .none },
  { cls := 16, slots := #[.long 79], vm := .none },
  { cls := 16, slots := #[.long 80], vm := .none },
  { cls := 16, slots := #[.long 81], vm := .none },
  { cls := 16, slots := #[.long 82], vm := .none },
  { cls := 16, slots := #[.long 83], vm := .none },
  { cls := 16, slots := #[.long 84], vm := .none },
  { cls := 16, slots := #[.long 85], vm := .none },
  { cls := 16, slots := #[.long 86], vm := .none },
  { cls := 16, slots := #[.long 87], vm := .none },
  { cls := 16, slots := #[.long 88], vm := .none },
  { cls := 16, slots := #[.long 89], vm := .none },
  { cls := 16, slots := #[.long 90], vm := .none },
  { cls := 16, slots := #[.long 91], vm := .none },
  { cls := 16, slots := #[.long 92], vm := .none },
  { cls := 16, slots := #[.long 93], vm := .none },
  { cls := 16, slots := #[.long 94], vm := .none },
  { cls := 16, slots := #[.long 95], vm := .none },
  { cls := 16, slots := #[.long 96], vm := .none },
  { cls := 16, slots := #[.long 97], vm := .none },
  { cls := 16, slots := #[.long 98], vm := .none },
  { cls := 16, slots := #[.long 99], vm := .none },
  { cls := 16, slots := #[.long 100], vm := .none },
  { cls := 16, slots := #[.long 101], vm := .none },
  { cls := 16, slots := #[.long 102], vm := .none },
  { cls := 16, slots := #[.long 103], vm := .none },
  { cls := 16, slots := #[.long 104], vm := .none },
  { cls := 16, slots := #[.long 105], vm := .none },
  { cls := 16, slots := #[.long 106], vm := .none },
  { cls := 16, slots := #[.long 107], vm := .none },
  { cls := 16, slots := #[.long 108], vm := .none },
  { cls := 16, slots := #[.long 109], vm := .none },
  { cls := 16, slots := #[.long 110], vm := .none },
  { cls := 16, slots := #[.long 111], vm := .none },
  { cls := 16, slots := #[.long 112], vm := .none },
  { cls := 16, slots := #[.long 113], vm := .none },
  { cls := 16, slots := #[.long 114], vm := .none },
  { cls := 16, slots := #[.long 115], vm := .none },
  { cls := 16, slots := #[.long 116], vm := .none },
  { cls := 16, slots := #[.long 117], vm := .none },
  { cls := 16, slots := #[.long 118], vm := .none },
  { cls := 16, slots := #[.long 119], vm := .none },
  { cls := 16, slots := #[.long 120], vm := .none },
  { cls := 16, slots := #[.long 121], vm := .none },
  { cls := 16, slots := #[.long 122], vm := .none },
  { cls := 16, slots := #[.long 123], vm := .none },
  { cls := 16, slots := #[.long 124], vm := .none },
  { cls := 16, slots := #[.long 125], vm := .none },
  { cls := 16, slots := #[.long 126], vm := .none },
  { cls := 16, slots := #[.long 127], vm := .none },
  { cls := 28, slots := #[], vm := .none },
  { cls := 28, slots := #[], vm := .none }]
def classes : Array Class := #[k0, k1, k2, k3, k4, k5, k6, k7, k8, k9, k10, k11, k12, k13, k14, k15, k16, k17, k18, k19, k20, k21, k22, k23, k24, k25, k26, k27, k28]
def interned : List (Array UInt16 × Addr) := []
def slotsUsed : Nat := 519
def theMethod : MethodId := ⟨1, 1⟩
def args0 : Array Value := #[.int 5, .long 7, .int 3]
def aboutOver (below : List Frame) : State where
  vm := { classes := classes, interned := interned.toArray }
  heap := heap
  slotsUsed := slotsUsed
  threads := #[{ frames := .invoking theMethod args0 :: below }]
def below0 : List Frame := [.native { method := ⟨0, 0⟩, args := #[] }]
def about1 : State := aboutOver below0
def p0 : Program := .bare "" "" ""
def e0 : Env := launch0.env 0 0 0
theorem w_frames : about1.frames = Frame.invoking theMethod args0 :: below0 := rfl
set_option maxRecDepth 65536 in
theorem w_args : argsFit about1.vm theMethod args0 = true := by decide +kernel
set_option maxRecDepth 65536 in
theorem w_heap : heapFits about1 = true := by decide +kernel
set_option maxRecDepth 65536 in
theorem w_runnable : about1.curStatus? = some .runnable := by decide +kernel
set_option maxRecDepth 65536 in
theorem w_alone : about1.alone = true := by decide +kernel
set_option maxRecDepth 65536 in
theorem w_named : about1.methodNamed? x = some theMethod := by decide +kernel
set_option maxRecDepth 65536 in
theorem w_hears : about1.hears theMethod below0 = true := by decide +kernel
set_option maxRecDepth 65536 in
theorem w_ripe : about1.ripe theMethod args0 below0 = true := by decide +kernel
theorem w_running : about1.status = .running := rfl
set_option maxRecDepth 65536 in
theorem w_room : about1.hasRoom e0.platform room_1 = true :=
  launch0.hasRoom_least _ room_1 (by decide +kernel) (by decide +kernel) (by decide +kernel) (by decide +kernel) (by decide +kernel) (by decide +kernel)
theorem allAtoms_all (ts : List Jvm.Cond) (a : Array Jvm.Value) (st : Jvm.State) : (allAtoms ts).before a st = ts.all (fun c => c.before a st) := by
  induction ts with
  | nil => rfl
  | cons c t ih =>
    show (Jvm.Cond.and c (allAtoms t)).before a st = _
    rw [Jvm.Cond.before_and, ih, List.all_cons]
def words1 : List Jvm.Cond := Jvm.Cond.code x code maxLocals ret :: tables_1
/-- a 'code' word, met by the world's own term for the bytes: nothing is compared byte by byte -/
theorem code_word {y : MethodName} {bytes : ByteArray} {mx : Nat} {rt : Option FieldType} {a : Array Value} {s : State} {m : MethodId} {meth : Method} {c : Code} (h1 : s.methodNamed? y = some m) (h2 : s.vm.method? m = some meth) (h3 : meth.code = some c) (h4 : c.code = bytes)
    (h5 : (c.maxLocals == mx && c.exceptionTable.isEmpty && decide (c.maxStack ≤ mostOperands) && decide (meth.sig.returnType = rt) && !meth.locks && decide (parseMethodDescriptor y.desc = some meth.sig)) = true) : (Jvm.Cond.code y bytes mx rt).before a s = true := by
  simp only [Bool.and_eq_true, beq_iff_eq, Bool.not_eq_true', decide_eq_true_eq] at h5
  obtain ⟨⟨⟨⟨⟨g1, g2⟩, g3⟩, g4⟩, g5⟩, g6⟩ := h5
  simp [Cond.before, Cond.holds, Cond.value, h1, h2, h3, h4, g1, g2, g3, g4, g5, g6]
def isCode : Jvm.Cond → Bool
  | .code _ _ _ _ => true
  | _ => false
theorem all_split {L : List Jvm.Cond} {P : Jvm.Cond → Bool} (h1 : L.all (fun c => isCode c || P c) = true) (h2 : ∀ c ∈ L.filter isCode, P c = true) : L.all P = true := by
  refine List.all_eq_true.mpr fun c hc => ?_
  have h := List.all_eq_true.mp h1 c hc
  rcases Bool.eq_false_or_eq_true (isCode c) with hi | hi
  · exact h2 c (List.mem_filter.mpr ⟨hc, hi⟩)
  · simpa [hi] using h
set_option maxRecDepth 65536 in
theorem w_c0 : (Jvm.Cond.code x code maxLocals ret).before args0 about1 = true := code_word (m := ⟨1, 1⟩) (meth := k1m1) (c := k1c1) (by decide +kernel) rfl rfl rfl (by decide +kernel)
set_option maxRecDepth 65536 in
theorem w_c1 : (Jvm.Cond.code ({ cls := "java/util/ArrayList", name := "<init>", desc := "()V" } : Jvm.MethodName) jdk_38_method_2_code (1 : Nat) (Option.none : Option Jvm.ClassFile.FieldType)).before args0 about1 = true := code_word (m := ⟨11, 0⟩) (meth := k11m0) (c := k11c0) (by decide +kernel) rfl rfl rfl (by decide +kernel)
set_option maxRecDepth 65536 in
theorem w_c2 : (Jvm.Cond.code ({ cls := "java/util/AbstractList", name := "<init>", desc := "()V" } : Jvm.MethodName) jdk_39_method_1_code (1 : Nat) (Option.none : Option Jvm.ClassFile.FieldType)).before args0 about1 = true := code_word (m := ⟨7, 0⟩) (meth := k7m0) (c := k7c0) (by decide +kernel) rfl rfl rfl (by decide +kernel)
set_option maxRecDepth 65536 in
theorem w_c3 : (Jvm.Cond.code ({ cls := "java/util/AbstractCollection", name := "<init>", desc := "()V" } : Jvm.MethodName) jdk_22_method_1_code (1 : Nat) (Option.none : Option Jvm.ClassFile.FieldType)).before args0 about1 = true := code_word (m := ⟨4, 0⟩) (meth := k4m0) (c := k4c0) (by decide +kernel) rfl rfl rfl (by decide +kernel)
set_option maxRecDepth 65536 in
theorem w_c4 : (Jvm.Cond.code ({ cls := "java/lang/Object", name := "<init>", desc := "()V" } : Jvm.MethodName) object_method_1_code (1 : Nat) (Option.none : Option Jvm.ClassFile.FieldType)).before args0 about1 = true := code_word (m := ⟨0, 0⟩) (meth := k0m0) (c := k0c0) (by decide +kernel) rfl rfl rfl (by decide +kernel)
set_option maxRecDepth 65536 in
theorem w_c5 : (Jvm.Cond.code ({ cls := "java/lang/Long", name := "valueOf", desc := "(J)Ljava/lang/Long;" } : Jvm.MethodName) jdk_35_method_24_code (3 : Nat) (Option.some (Jvm.ClassFile.FieldType.object "java/lang/Long"))).before args0 about1 = true := code_word (m := ⟨16, 0⟩) (meth := k16m0) (c := k16c0) (by decide +kernel) rfl rfl rfl (by decide +kernel)
set_option maxRecDepth 65536 in
theorem w_c6 : (Jvm.Cond.code ({ cls := "java/util/ArrayList", name := "add", desc := "(Ljava/lang/Object;)Z" } : Jvm.MethodName) jdk_38_method_25_code (2 : Nat) (Option.some Jvm.ClassFile.FieldType.boolean)).before args0 about1 = true := code_word (m := ⟨11, 4⟩) (meth := k11m4) (c := k11c4) (by decide +kernel) rfl rfl rfl (by decide +kernel)
set_option maxRecDepth 65536 in
theorem w_c7 : (Jvm.Cond.code ({ cls := "java/util/ArrayList", name := "add", desc := "(Ljava/lang/Object;[Ljava/lang/Object;I)V" } : Jvm.MethodName) jdk_38_method_24_code (4 : Nat) (Option.none : Option Jvm.ClassFile.FieldType)).before args0 about1 = true := code_word (m := ⟨11, 3⟩) (meth := k11m3) (c := k11c3) (by decide +kernel) rfl rfl rfl (by decide +kernel)
set_option maxRecDepth 65536 in
theorem w_c8 : (Jvm.Cond.code ({ cls := "java/util/ArrayList", name := "grow", desc := "()[Ljava/lang/Object;" } : Jvm.MethodName) jdk_38_method_7_code (1 : Nat) (Option.some (Jvm.ClassFile.FieldType.array (Jvm.ClassFile.FieldType.object "java/lang/Object")))).before args0 about1 = true := code_word (m := ⟨11, 2⟩) (meth := k11m2) (c := k11c2) (by decide +kernel) rfl rfl rfl (by decide +kernel)
set_option maxRecDepth 65536 in
theorem w_c9 : (Jvm.Cond.code ({ cls := "java/util/ArrayList", name := "grow", desc := "(I)[Ljava/lang/Object;" } : Jvm.MethodName) jdk_38_method_6_code (4 : Nat) (Option.some (Jvm.ClassFile.FieldType.array (Jvm.ClassFile.FieldType.object "java/lang/Object")))).before args0 about1 = true := code_word (m := ⟨11, 1⟩) (meth := k11m1) (c := k11c1) (by decide +kernel) rfl rfl rfl (by decide +kernel)
set_option maxRecDepth 65536 in
theorem w_c10 : (Jvm.Cond.code ({ cls := "java/lang/Math", name := "max", desc := "(II)I" } : Jvm.MethodName) jdk_29_method_65_code (2 : Nat) (Option.some Jvm.ClassFile.FieldType.int)).before args0 about1 = true := code_word (m := ⟨18, 1⟩) (meth := k18m1) (c := k18c1) (by decide +kernel) rfl rfl rfl (by decide +kernel)
set_option maxRecDepth 65536 in
theorem w_c11 : (Jvm.Cond.code ({ cls := "com/example/thalweg/thalweg/cli/Mpeg1Reader$Picture", name := "<init>", desc := "(JCLjava/util/List;[B)V" } : Jvm.MethodName) prog_8_method_1_code (6 : Nat) (Option.none : Option Jvm.ClassFile.FieldType)).before args0 about1 = true := code_word (m := ⟨20, 0⟩) (meth := k20m0) (c := k20c0) (by decide +kernel) rfl rfl rfl (by decide +kernel)
set_option maxRecDepth 65536 in
theorem w_c12 : (Jvm.Cond.code ({ cls := "java/lang/Record", name := "<init>", desc := "()V" } : Jvm.MethodName) jdk_30_method_1_code (1 : Nat) (Option.none : Option Jvm.ClassFile.FieldType)).before args0 about1 = true := code_word (m := ⟨19, 0⟩) (meth := k19m0) (c := k19c0) (by decide +kernel) rfl rfl rfl (by decide +kernel)
set_option maxRecDepth 65536 in
theorem w_c13 : (Jvm.Cond.code ({ cls := "com/example/thalweg/thalweg/cli/Mpeg1Reader$Picture", name := "rank", desc := "()I" } : Jvm.MethodName) prog_8_method_2_code (1 : Nat) (Option.some Jvm.ClassFile.FieldType.int)).before args0 about1 = true := code_word (m := ⟨20, 1⟩) (meth := k20m1) (c := k20c1) (by decide +kernel) rfl rfl rfl (by decide +kernel)
set_option maxRecDepth 65536 in
theorem w_c14 : (Jvm.Cond.code ({ cls := "java/lang/Long", name := "<init>", desc := "(J)V" } : Jvm.MethodName) jdk_35_method_26_code (3 : Nat) (Option.none : Option Jvm.ClassFile.FieldType)).before args0 about1 = true := code_word (m := ⟨16, 1⟩) (meth := k16m1) (c := k16c1) (by decide +kernel) rfl rfl rfl (by decide +kernel)
set_option maxRecDepth 65536 in
theorem w_c15 : (Jvm.Cond.code ({ cls := "java/lang/Number", name := "<init>", desc := "()V" } : Jvm.MethodName) jdk_18_method_1_code (1 : Nat) (Option.none : Option Jvm.ClassFile.FieldType)).before args0 about1 = true := code_word (m := ⟨12, 0⟩) (meth := k12m0) (c := k12c0) (by decide +kernel) rfl rfl rfl (by decide +kernel)
def codes1 : List Jvm.Cond := [Jvm.Cond.code x code maxLocals ret, Jvm.Cond.code ({ cls := "java/util/ArrayList", name := "<init>", desc := "()V" } : Jvm.MethodName) jdk_38_method_2_code (1 : Nat) (Option.none : Option Jvm.ClassFile.FieldType), Jvm.Cond.code ({ cls := "java/util/AbstractList", name := "<init>", desc := "()V" } : Jvm.MethodName) jdk_39_method_1_code (1 : Nat) (Option.none : Option Jvm.ClassFile.FieldType), Jvm.Cond.code ({ cls := "java/util/AbstractCollection", name := "<init>", desc := "()V" } : Jvm.MethodName) jdk_22_method_1_code (1 : Nat) (Option.none : Option Jvm.ClassFile.FieldType), Jvm.Cond.code ({ cls := "java/lang/Object", name := "<init>", desc := "()V" } : Jvm.MethodName) object_method_1_code (1 : Nat) (Option.none : Option Jvm.ClassFile.FieldType), Jvm.Cond.code ({ cls := "java/lang/Long", name := "valueOf", desc := "(J)Ljava/lang/Long;" } : Jvm.MethodName) jdk_35_method_24_code (3 : Nat) (Option.some (Jvm.ClassFile.FieldType.object "java/lang/Long")), Jvm.Cond.code ({ cls := "java/util/ArrayList", name := "add", desc := "(Ljava/lang/Object;)Z" } : Jvm.MethodName) jdk_38_method_25_code (2 : Nat) (Option.some Jvm.ClassFile.FieldType.boolean), Jvm.Cond.code ({ cls := "java/util/ArrayList", name := "add", desc := "(Ljava/lang/Object;[Ljava/lang/Object;I)V" } : Jvm.MethodName) jdk_38_method_24_code (4 : Nat) (Option.none : Option Jvm.ClassFile.FieldType), Jvm.Cond.code ({ cls := "java/util/ArrayList", name := "grow", desc := "()[Ljava/lang/Object;" } : Jvm.MethodName) jdk_38_method_7_code (1 : Nat) (Option.some (Jvm.ClassFile.FieldType.array (Jvm.ClassFile.FieldType.object "java/lang/Object"))), Jvm.Cond.code ({ cls := "java/util/ArrayList", name := "grow", desc := "(I)[Ljava/lang/Object;" } : Jvm.MethodName) jdk_38_method_6_code (4 : Nat) (Option.some (Jvm.ClassFile.FieldType.array (Jvm.ClassFile.FieldType.object "java/lang/Object"))), Jvm.Cond.code ({ cls := "java/lang/Math", name := "max", desc := "(II)I" } : Jvm.MethodName) jdk_29_method_65_code (2 : Nat) (Option.some Jvm.ClassFile.FieldType.int), Jvm.Cond.code ({ cls := "com/example/thalweg/thalweg/cli/Mpeg1Reader$Picture", name := "<init>", desc := "(JCLjava/util/List;[B)V" } : Jvm.MethodName) prog_8_method_1_code (6 : Nat) (Option.none : Option Jvm.ClassFile.FieldType), Jvm.Cond.code ({ cls := "java/lang/Record", name := "<init>", desc := "()V" } : Jvm.MethodName) jdk_30_method_1_code (1 : Nat) (Option.none : Option Jvm.ClassFile.FieldType), Jvm.Cond.code ({ cls := "com/example/thalweg/thalweg/cli/Mpeg1Reader$Picture", name := "rank", desc := "()I" } : Jvm.MethodName) prog_8_method_2_code (1 : Nat) (Option.some Jvm.ClassFile.FieldType.int), Jvm.Cond.code ({ cls := "java/lang/Long", name := "<init>", desc := "(J)V" } : Jvm.MethodName) jdk_35_method_26_code (3 : Nat) (Option.none : Option Jvm.ClassFile.FieldType), Jvm.Cond.code ({ cls := "java/lang/Number", name := "<init>", desc := "()V" } : Jvm.MethodName) jdk_18_method_1_code (1 : Nat) (Option.none : Option Jvm.ClassFile.FieldType)]
set_option maxRecDepth 65536 in
theorem codes_eq : words1.filter isCode = codes1 := rfl
theorem w_codes : ∀ c ∈ words1.filter isCode, c.before args0 about1 = true := by
  rw [codes_eq]
  intro c hc
  simp only [codes1, List.mem_cons, List.not_mem_nil, or_false] at hc
  rcases hc with rfl | rfl | rfl | rfl | rfl | rfl | rfl | rfl | rfl | rfl | rfl | rfl | rfl | rfl | rfl | rfl
  · exact w_c0
  · exact w_c1
  · exact w_c2
  · exact w_c3
  · exact w_c4
  · exact w_c5
  · exact w_c6
  · exact w_c7
  · exact w_c8
  · exact w_c9
  · exact w_c10
  · exact w_c11
  · exact w_c12
  · exact w_c13
  · exact w_c14
  · exact w_c15
set_option maxRecDepth 65536 in
theorem w_t1 : (words1.take 24).all (fun c => isCode c || c.before args0 about1) = true := by decide +kernel
set_option maxRecDepth 65536 in
theorem w_t2 : ((words1.drop 24).take 24).all (fun c => isCode c || c.before args0 about1) = true := by decide +kernel
set_option maxRecDepth 65536 in
theorem w_t3 : (((words1.drop 24).drop 24).take 24).all (fun c => isCode c || c.before args0 about1) = true := by decide +kernel
set_option maxRecDepth 65536 in
theorem w_t4 : ((((words1.drop 24).drop 24).drop 24).take 24).all (fun c => isCode c || c.before args0 about1) = true := by decide +kernel
set_option maxRecDepth 65536 in
theorem w_t5 : ((((words1.drop 24).drop 24).drop 24).drop 24).all (fun c => isCode c || c.before args0 about1) = true := by decide +kernel
theorem w_tables : (allAtoms (Jvm.Cond.code x code maxLocals ret :: tables_1)).before args0 about1 = true := by
  rw [allAtoms_all]
  show words1.all (fun c => c.before args0 about1) = true
  refine all_split ?_ w_codes
  rw [← List.take_append_drop 24 words1, List.all_append, w_t1, ← List.take_append_drop 24 (words1.drop 24), List.all_append, w_t2, ← List.take_append_drop 24 ((words1.drop 24).drop 24), List.all_append, w_t3, ← List.take_append_drop 24 (((words1.drop 24).drop 24).drop 24), List.all_append, w_t4, w_t5]
  rfl
set_option maxRecDepth 65536 in
theorem w_rest : rest_1_c.before args0 about1 = true := by decide +kernel
set_option maxRecDepth 65536 in
theorem w_case : (Jvm.Cond.and given_1 narrow_1).before args0 about1 = true := by decide +kernel
theorem w_applies : (headSpec (Jvm.Cond.code x code maxLocals ret :: tables_1) room_1).applies x e0.platform about1 = true :=
  (Spec.applies_iff w_frames).mpr ⟨w_running, w_runnable, w_alone, w_named, w_hears, w_ripe, w_room, w_tables⟩
theorem atStart : AtStart classFile x code maxLocals ret World_1 tables_1 room_1 Calls_1 rest_1 Pre_1 launch0 p0 e0 about1 theMethod args0 below0 :=
  ⟨lists_1, trivial, launch0.admits_env _ _ _, launch0.least_env, fairChoices_fair.cas, fairChoices_fair.clock, w_frames, w_args, w_heap, w_applies, trivial, w_rest, w_case⟩
end start1
theorem witness_1 : WitnessClaimed_1 := ⟨start1.p0, start1.e0, start1.about1, start1.theMethod, start1.args0, start1.below0, start1.atStart⟩
end Jvm.Pilot.@@N@@
